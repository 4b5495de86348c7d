import JvmDerived
import JvmDerived.Pilot.@@N@@Statement
import JvmDerived.Pilot.@@N@@Code
set_option linter.unusedVariables false
set_option linter.unusedSimpArgs false
namespace Jvm.RoadKit
open Sem ClassFile Op Lib Jvm.Stand Jvm.Free Jvm.LawKit
section New
variable {p : Program} {l : Launch} {e : Env} {R : Room} {s : State} {m : MethodId} {args : Array Value} {below : List Frame} {meth : Method} {c : Code} {T : State} {locs : List Loc} {cells slots : Nat}
theorem retI (X : Stand p l e R s m args below meth c T locs cells slots) (hx : p.tables.exec = Jvm.exec) {pc : Nat} {Ls : Array Slot} {z : Int32} {rest : List Value} (hret : meth.sig.returnType = some .int) (hd : decode c.code pc = .ok (.ireturn, 1)) {fs : List Frame}
    (hl : ∀ (f : JFrame) (acts : List Action), f.method = m → f.locked = none → f.entered = [] → (doReturn e (T.setTop f) acts (some (.int z))).1 = T.setFrames fs) : Steps p.tables e below (T.setTop (mkF m pc Ls (.int z :: rest))) (T.setFrames fs) := by
  have hm' : T.vm.method? m = some meth := X.method'
  have hn : narrow .int (.int z) = .int z := rfl
  show Steps p.tables e below (T.setTop { method := m, pc := pc, locals := Ls, stack := _ :: rest, locked := none }) _
  jvm_step X.here [X.here.top, hx, hd, hm', hret, hn]
  first | (intro acts; rw [hl _ acts rfl rfl rfl]) | rw [hl _ _ rfl rfl rfl]
  exact Steps.refl _
end New
end Jvm.RoadKit
/- laws to paste: Road.lenW, Road.chN, Road.eqW (cut by pick.py; bodies as the Statement names them) -/
namespace Jvm.Pilot.@@N@@
namespace StrChars
open Jvm Sem ClassFile Op Lib Jvm.Stand Jvm.Free.XT Jvm.Free.ALB Jvm.Free.JM Jvm.Free
open Jvm.Lib.Cold (StaticIs)
/-- the byte that i2b leaves of a char -/
def lo8 (x : Int32) : Int32 := x.toInt8.toInt32
theorem fits_lo8 (y : Int32) : fits .byte (.int (lo8 y)) = true := by
  have h1 := y.toInt8.le_toInt
  have h2 := y.toInt8.toInt_lt
  simp only [lo8, fits, Bool.and_eq_true, decide_eq_true_eq, Int32.le_iff_toInt_le, Int8.toInt_toInt32, show (-128 : Int32).toInt = -128 from by decide, show (127 : Int32).toInt = 127 from by decide]
  omega
def U16 : String := "java/lang/StringUTF16"
namespace Cmp5
def yN : MethodName := ⟨"java/lang/StringUTF16", "compress", "([CI[BII)I"⟩
abbrev yB : ByteArray := jdk_52_method_21_code
end Cmp5
namespace Cmp3
def yN : MethodName := ⟨"java/lang/StringUTF16", "compress", "([CII)[B"⟩
abbrev yB : ByteArray := jdk_52_method_16_code
end Cmp3
namespace CodL
def yN : MethodName := ⟨"java/lang/StringUTF16", "coderFromArrayLen", "([BI)B"⟩
abbrev yB : ByteArray := jdk_52_method_15_code
end CodL
namespace New4
def yN : MethodName := ⟨"java/lang/String", "<init>", "([CIILjava/lang/Void;)V"⟩
abbrev yB : ByteArray := jdk_42_method_149_code
end New4
namespace New1
def yN : MethodName := ⟨"java/lang/String", "<init>", "([C)V"⟩
abbrev yB : ByteArray := jdk_42_method_3_code
end New1
/-- the byte, read back as charAt reads it, is the char -/
theorem lo8_mask {x : Int32} (h0 : ¬ x < 0) (h1 : ¬ 255 < x) : lo8 x &&& 255 = x := by
  have t : ∀ k : Fin 256, lo8 (Int32.ofNat k.val) &&& 255 = Int32.ofNat k.val := by decide +kernel
  rw [Int32.lt_iff_toInt_lt] at h0 h1
  have e0 : (0 : Int32).toInt = 0 := rfl
  have e1 : (255 : Int32).toInt = 255 := rfl
  obtain ⟨k, hk⟩ : ∃ k : Nat, x.toInt = k := ⟨x.toInt.toNat, by omega⟩
  have hx : x = Int32.ofNat k := Int32.toInt_inj.mp (by rw [hk, Int32.toInt_ofNat_small (by omega)])
  rw [hx]
  exact t ⟨k, by omega⟩
end StrChars
namespace StrChars.Road
open Jvm Sem ClassFile Op Lib Jvm.Stand Jvm.Free Jvm.Free.XT
open Jvm.Lib.Cold (StaticIs)
abbrev ST : String := "java/lang/String"
/-- every table word that New1's law asks, flat -/
abbrev words : List Jvm.Cond := [.code New1.yN New1.yB 2 none, .initialized ST, .methodLink ST 27 New4.yN, .instanceMethod New4.yN,
  .code New4.yN New4.yB 6 none, .fieldLink ST 38 ST "COMPACT_STRINGS" "Z", .laysFinal ST ST "value" "[B", .fieldLink ST 9 ST "value" "[B", .laysFinal ST ST "coder" "B", .fieldLink ST 15 ST "coder" "B",
  .methodLink ST 1 Lib.objectInit, .instanceMethod Lib.objectInit, .code Lib.objectInit ⟨#[0xb1]⟩ 1 none, .methodLink ST 177 Cmp3.yN, .static Cmp3.yN, .methodLink ST 47 CodL.yN, .static CodL.yN,
  .code Cmp3.yN Cmp3.yB 6 (some (.array .byte)), .initialized U16, .arrayClass .byte, .methodLink U16 115 Cmp5.yN, .static Cmp5.yN, .code Cmp5.yN Cmp5.yB 7 (some .int), .code CodL.yN CodL.yB 2 (some .byte)]
end StrChars.Road
namespace StrChars
open Jvm Sem ClassFile Op Lib Jvm.Stand Jvm.Free.XT Jvm.Free.ALB Jvm.Free.JM Jvm.Free
open Jvm.Lib.Cold (StaticIs)
def hi8 (x : Int32) : Int32 := lo8 (x >>> ((8 : Int32) &&& 31))
/-- what StringUTF16.getChar makes of two bytes -/
def pairCh (u v : Int32) : Int32 := (((u &&& 255) <<< ((0 : Int32) &&& 31)) ||| ((v &&& 255) <<< ((8 : Int32) &&& 31))).toUInt32.toUInt16.toUInt32.toInt32
theorem shr0 (c : Int32) : c >>> ((0 : Int32) &&& 31) = c := by
  have e : ((0 : Int32) &&& 31) = 0 := by decide
  rw [e]
  apply Int32.toBitVec_inj.mp
  rw [Int32.toBitVec_shiftRight]
  have e1 : ((0 : Int32).toBitVec.smod 32) = 0#32 := by decide
  rw [e1, BitVec.sshiftRight_eq']
  exact BitVec.sshiftRight_zero
theorem lo8_and (x : Int32) : (lo8 x &&& 255).toBitVec.toNat = x.toBitVec.toNat % 256 := by
  have h : (lo8 x).toBitVec = (x.toBitVec.signExtend 8).signExtend 32 := by rw [lo8, Int8.toBitVec_toInt32, Int32.toBitVec_toInt8]
  rw [Int32.toBitVec_and, BitVec.toNat_and, h]
  have e : ((x.toBitVec.signExtend 8).signExtend 32).toNat % 256 = x.toBitVec.toNat % 256 := by
    rw [BitVec.toNat_signExtend]
    have hlt := x.toBitVec.isLt
    simp only [BitVec.toNat_setWidth, BitVec.toNat_signExtend]
    split <;> split <;> omega
  rw [← e]
  exact Nat.and_two_pow_sub_one_eq_mod _ 8
theorem pair_says {c : Int32} (h0 : ¬ c < 0) (h1 : ¬ 65535 < c) : pairCh (lo8 c) (hi8 c) = c := by
  rw [Int32.lt_iff_toInt_lt] at h0 h1
  have e0 : (0 : Int32).toInt = 0 := rfl
  have e1 : (65535 : Int32).toInt = 65535 := rfl
  have hc : c.toInt = c.toBitVec.toNat := by
    have := c.toBitVec.isLt
    have e : c.toInt = c.toBitVec.toInt := rfl
    rw [e] at h0 h1
    rw [e]
    rw [BitVec.toInt_eq_toNat_cond] at h0 h1 ⊢
    split at h0 <;> split <;> omega
  have hn : c.toBitVec.toNat < 65536 := by omega
  have a1 := lo8_and c
  have a2 : (hi8 c &&& 255).toBitVec.toNat = c.toBitVec.toNat / 256 := by
    rw [hi8, lo8_and]
    have e : ((8 : Int32) &&& 31) = 8 := by decide
    rw [e, Int32.toBitVec_shiftRight]
    have e2 : ((8 : Int32).toBitVec.smod 32) = 8#32 := by decide
    rw [e2, BitVec.sshiftRight_eq', BitVec.toNat_sshiftRight_of_msb_false (by rw [BitVec.msb_eq_false_iff_two_mul_lt]; omega)]
    show c.toBitVec.toNat >>> 8 % 256 = _
    rw [Nat.shiftRight_eq_div_pow]
    omega
  unfold pairCh
  apply Int32.toBitVec_inj.mp
  apply BitVec.eq_of_toNat_eq
  have f0 : ((0 : Int32) &&& 31) = 0 := by decide
  have f8 : ((8 : Int32) &&& 31) = 8 := by decide
  rw [f0, f8]
  have g : (((lo8 c &&& 255) <<< (0 : Int32)) ||| ((hi8 c &&& 255) <<< (8 : Int32))).toBitVec.toNat = c.toBitVec.toNat := by
    rw [Int32.toBitVec_or, Int32.toBitVec_shiftLeft, Int32.toBitVec_shiftLeft]
    have s0 : ((0 : Int32).toBitVec.smod 32) = 0#32 := by decide
    have s8 : ((8 : Int32).toBitVec.smod 32) = 8#32 := by decide
    rw [s0, s8, BitVec.toNat_or]
    simp only [BitVec.shiftLeft_eq', BitVec.toNat_shiftLeft, a1, a2]
    show (c.toBitVec.toNat % 256) <<< 0 % 2 ^ 32 ||| (c.toBitVec.toNat / 256) <<< 8 % 2 ^ 32 = _
    rw [Nat.shiftLeft_zero, Nat.mod_eq_of_lt (show c.toBitVec.toNat % 256 < 2 ^ 32 by omega), Nat.mod_eq_of_lt (show (c.toBitVec.toNat / 256) <<< 8 < 2 ^ 32 by rw [Nat.shiftLeft_eq]; omega), Nat.or_comm, ← Nat.shiftLeft_add_eq_or_of_lt (by omega), Nat.shiftLeft_eq]
    omega
  show BitVec.toNat (((((lo8 c &&& 255) <<< (0 : Int32)) ||| ((hi8 c &&& 255) <<< (8 : Int32))).toBitVec.setWidth 16).setWidth 32) = _
  rw [BitVec.toNat_setWidth, BitVec.toNat_setWidth, g]
  omega
end StrChars
namespace StrChars
open Jvm Sem ClassFile Op Lib Jvm.Stand Jvm.Free.XT Jvm.Free.ALB Jvm.Free.JM Jvm.Free
open Jvm.Lib.Cold (StaticIs)
theorem shr1 {n : Nat} (h : 2 * n < 2 ^ 31) : Int32.ofNat (2 * n) >>> ((1 : Int32) &&& 31) = Int32.ofNat n := by
  have e : ((1 : Int32) &&& 31) = 1 := by decide
  rw [e]
  apply Int32.toBitVec_inj.mp
  rw [Int32.toBitVec_shiftRight]
  have e1 : ((1 : Int32).toBitVec.smod 32) = 1#32 := by decide
  have hm : (BitVec.ofNat 32 (2 * n)).toNat = 2 * n := by rw [BitVec.toNat_ofNat, Nat.mod_eq_of_lt (by omega)]
  rw [e1, BitVec.sshiftRight_eq']
  apply BitVec.eq_of_toNat_eq
  show ((BitVec.ofNat 32 (2 * n)).sshiftRight 1).toNat = (BitVec.ofNat 32 n).toNat
  rw [BitVec.toNat_sshiftRight_of_msb_false (by rw [BitVec.msb_eq_false_iff_two_mul_lt, hm]; omega), hm, BitVec.toNat_ofNat, Nat.shiftRight_eq_div_pow]
  omega
/-- charAt's cast of a byte read back -/
def chr8 (u : Int32) : Int32 := (u &&& 255).toUInt32.toUInt16.toUInt32.toInt32
theorem chr8_lo8 {c : Int32} (h0 : ¬ c < 0) (h1 : ¬ 255 < c) : chr8 (lo8 c) = c := by
  have t : ∀ k : Fin 256, (Int32.ofNat k.val).toUInt32.toUInt16.toUInt32.toInt32 = Int32.ofNat k.val := by decide +kernel
  unfold chr8
  rw [lo8_mask h0 h1]
  rw [Int32.lt_iff_toInt_lt] at h0 h1
  have e0 : (0 : Int32).toInt = 0 := rfl
  have e1 : (255 : Int32).toInt = 255 := rfl
  obtain ⟨k, hk⟩ : ∃ k : Nat, c.toInt = k := ⟨c.toInt.toNat, by omega⟩
  have hx : c = Int32.ofNat k := Int32.toInt_inj.mp (by rw [hk, Int32.toInt_ofNat_small (by omega)])
  rw [hx]
  exact t ⟨k, by omega⟩
theorem narrow_ch {c : Int32} (h0 : ¬ c < 0) (h1 : ¬ 65535 < c) : narrow .char (.int c) = .int c := by
  have q : narrow .char (.int (pairCh (lo8 c) (hi8 c))) = .int (pairCh (lo8 c) (hi8 c)) := narrow_c _
  rwa [pair_says h0 h1] at q
/-- the array's cell V codes the n chars f 0 .. f (n - 1) by the coder cd, as the JDK does: coder 1 just where some char is above 255 -/
def Cod (cd : Int32) (n : Nat) (f : Nat → Int32) (V : Cell) : Prop := (cd = 0 ∧ V.slots.size = n ∧ ∀ j, j < n → V.slots[j]? = some (.int (lo8 (f j))) ∧ ¬ 255 < f j) ∨ (cd = 1 ∧ V.slots.size = 2 * n ∧ (∀ j, j < n → V.slots[2 * j]? = some (.int (lo8 (f j))) ∧ V.slots[2 * j + 1]? = some (.int (hi8 (f j)))) ∧ ∃ j, j < n ∧ 255 < f j)
theorem Cod.cd {cd : Int32} {n : Nat} {f : Nat → Int32} {V : Cell} (h : Cod cd n f V) : cd = 0 ∨ cd = 1 := h.imp (fun q => q.1) fun q => q.1
theorem Cod.len {cd : Int32} {n : Nat} {f : Nat → Int32} {V : Cell} (h : Cod cd n f V) (hs : V.slots.size < 2 ^ 31) : Int32.ofNat V.slots.size >>> (cd &&& 31) = Int32.ofNat n := by
  rcases h with ⟨rfl, h, -⟩ | ⟨rfl, h, -⟩
  · rw [shr0, h]
  · rw [h, shr1 (by omega)]
/-- **x is a String of the n chars f 0 .. f (n - 1)**, Latin-1 or UTF-16; its array at t has the cell V -/
def Txt (x t : Addr) (V : Cell) (cd : Int32) (n : Nat) (f : Nat → Int32) (U : State) : Prop := Exact "java/lang/String" x U ∧ Has x "java/lang/String" "value" "[B" (.ref t) U ∧ Has x "java/lang/String" "coder" "B" (.int cd) U ∧ XT.Arr .byte t V U ∧ Cod cd n f V ∧ ∀ j, j < n → ¬ f j < 0 ∧ ¬ 65535 < f j
theorem Txt.mv {x t : Addr} {V : Cell} {cd : Int32} {n : Nat} {f : Nat → Int32} {U U' : State} (h : Txt x t V cd n f U) (hal : U.vm.Alike U'.vm) (hh : U'.heap = U.heap) : Txt x t V cd n f U' := ⟨h.1.mv hal hh, h.2.1.mv hal hh, h.2.2.1.mv hal hh, h.2.2.2.1.mv hal hh, h.2.2.2.2⟩
namespace Cdr
def yN : MethodName := ⟨"java/lang/String", "coder", "()B"⟩
abbrev yB : ByteArray := jdk_42_method_152_code
theorem d0 : decode yB 0 = .ok (.getstatic 38, 3) := by decide +kernel
theorem d3 : decode yB 3 = .ok (.ifCond (.eq) 10, 3) := by decide +kernel
theorem d6 : decode yB 6 = .ok (.aload_n 0, 1) := by decide +kernel
theorem d7 : decode yB 7 = .ok (.getfield 15, 3) := by decide +kernel
theorem d10 : decode yB 10 = .ok (.goto 4, 3) := by decide +kernel
theorem d14 : decode yB 14 = .ok (.ireturn, 1) := by decide +kernel
def site : List Cond := [.fieldLink "java/lang/String" 38 "java/lang/String" "COMPACT_STRINGS" "Z", .fieldLink "java/lang/String" 15 "java/lang/String" "coder" "B"]
def tab : Cond := tabOf yN yB 1 (some .byte) site
def P (x : Addr) (cd z : Int32) (args : Array Value) (s : State) : Prop := args = #[.ref x] ∧ Has x "java/lang/String" "coder" "B" (.int cd) s ∧ (cd = 0 ∨ cd = 1) ∧ StaticIs s "java/lang/String" "COMPACT_STRINGS" "Z" (.int z) ∧ ¬ z = 0
def E (cd : Int32) (r : Option Value) (s u : State) : Prop := XT.PureE (some (.int cd)) r s u
theorem law (l : Launch) (x : Addr) (cd z : Int32) : Law l yN 1 0 0 0 yB 1 (some .byte) site (P x cd z) (E cd) [] 0 0 := by
  refine Law.of_walk (plainFor_of_name (by decide +kernel)) (by decide +kernel) (by decide +kernel) (by decide) (fun _ _ h => by rw [h.1]; rfl) (fun _ U U' hal hh h => ⟨h.1, h.2.1.mv hal hh, h.2.2.1, h.2.2.2.1.there hal hh, h.2.2.2.2⟩) (fun r U U' V V' h1 hal h2 h => XT.PureE.mv r U U' V V' h1 hal h2 h) ?_
  intro p e s m args below meth c s₁ X0 hexec hbytes hml hret hlk hnm hown hh0 W hP
  obtain ⟨rfl, hx, hc, s1, hz⟩ := hP
  have c1 : Steps p.tables e below (s₁.setTop (entryFrame m #[.ref x] 1)) (s₁.setTop (mkF m 0 #[.val (.ref x)] [])) := entry rfl
  obtain ⟨T2, X2, q2, st2⟩ := X0.sget hexec hown (wk W (.fieldLink "java/lang/String" 38 "java/lang/String" "COMPACT_STRINGS" "Z")) s1 (fun _ _ h => by rw [hh0]; exact h) (g := (mkF m 0 #[.val (.ref x)] [])) rfl (hb hbytes d0)
  have hh2 := q2.trans hh0
  have c3 : Steps p.tables e below (s₁.setTop (entryFrame m #[.ref x] 1)) (T2.setTop (mkF m 7 #[.val (.ref x)] [.ref x])) := (c1.trans (st2 _ (Steps.refl _))).trans (by
    refine XS.ifNo X2.here hexec rfl (hb hbytes d3) rfl (i0_eq_f hz) ?_
    refine XS.aloadN X2.here hexec rfl (hb hbytes d6) rfl rfl ?_
    exact Steps.refl _)
  obtain ⟨T4, X4, q4, st4⟩ := X2.hget hexec hown (wk W (.fieldLink "java/lang/String" 15 "java/lang/String" "coder" "B")) (hx.mv X2.warmed.alike hh2) (g := (mkF m 7 #[.val (.ref x)] [.ref x])) rfl (rest := []) rfl (hb hbytes d7)
  have c5 : Steps p.tables e below (s₁.setTop (entryFrame m #[.ref x] 1)) (T4.setTop (mkF m 14 #[.val (.ref x)] [.int cd])) := (c3.trans (st4 _ (Steps.refl _))).trans (by
    refine XS.goto X4.here hexec rfl (pc0 := 10) rfl (hb hbytes d10) (by decide) rfl ?_
    exact Steps.refl _)
  exact ⟨T4, some (.int cd), _, _, _, X4, rfl, rfl, rfl, (fun h => by cases h), ⟨rfl, q4.trans hh2⟩, fun fs hl => c5.trans (X4.ireturnOut hexec hret (by rcases hc with rfl | rfl <;> rfl) (Or.inr (Or.inr (Or.inl rfl))) (hb hbytes d14) hl)⟩
end Cdr
namespace Len
def yN : MethodName := ⟨"java/lang/String", "length", "()I"⟩
abbrev yB : ByteArray := jdk_42_method_54_code
theorem d0 : decode yB 0 = .ok (.aload_n 0, 1) := by decide +kernel
theorem d1 : decode yB 1 = .ok (.getfield 9, 3) := by decide +kernel
theorem d4 : decode yB 4 = .ok (.arraylength, 1) := by decide +kernel
theorem d5 : decode yB 5 = .ok (.aload_n 0, 1) := by decide +kernel
theorem d6 : decode yB 6 = .ok (.invokevirtual 335, 3) := by decide +kernel
theorem d9 : decode yB 9 = .ok (.ishr, 1) := by decide +kernel
theorem d10 : decode yB 10 = .ok (.ireturn, 1) := by decide +kernel
def site : List Cond := [.fieldLink "java/lang/String" 9 "java/lang/String" "value" "[B", Cdr.tab] ++ virtW "java/lang/String" 335 "java/lang/String" Cdr.yN Cdr.yN
def tab : Cond := tabOf yN yB 1 (some .int) site
def P (x t : Addr) (V : Cell) (cd : Int32) (n : Nat) (f : Nat → Int32) (z : Int32) (args : Array Value) (s : State) : Prop := args = #[.ref x] ∧ Txt x t V cd n f s ∧ StaticIs s "java/lang/String" "COMPACT_STRINGS" "Z" (.int z) ∧ ¬ z = 0
def E (n : Nat) (r : Option Value) (s u : State) : Prop := XT.PureE (some (.int (Int32.ofNat n))) r s u
/-- length() of a String of n chars, in either coding -/
theorem law (l : Launch) (x t : Addr) (V : Cell) (cd : Int32) (n : Nat) (f : Nat → Int32) (z : Int32) : Law l yN 1 0 1 13 yB 1 (some .int) site (P x t V cd n f z) (E n) [] 0 0 := by
  refine Law.of_walk (plainFor_of_name (by decide +kernel)) (by decide +kernel) (by decide +kernel) (by decide) (fun _ _ h => by rw [h.1]; rfl) (fun _ U U' hal hh h => ⟨h.1, h.2.1.mv hal hh, h.2.2.1.there hal hh, h.2.2.2⟩) (fun r U U' V V' h1 hal h2 h => XT.PureE.mv r U U' V V' h1 hal h2 h) ?_
  intro p e s m args below meth c s₁ X0 hexec hbytes hml hret hlk hnm hown hh0 W hP
  obtain ⟨rfl, hx, s1, hz⟩ := hP
  have v31 := hx.2.2.2.1.2.2.2
  have c1 : Steps p.tables e below (s₁.setTop (entryFrame m #[.ref x] 1)) (s₁.setTop (mkF m 1 #[.val (.ref x)] [.ref x])) := Steps.trans (entry rfl) (by
    show Steps p.tables e below (s₁.setTop (mkF m 0 #[.val (.ref x)] [])) _
    refine XS.aloadN X0.here hexec rfl (hb hbytes d0) rfl rfl ?_
    exact Steps.refl _)
  obtain ⟨T2, X2, q2, st2⟩ := X0.hget hexec hown (wk W (.fieldLink "java/lang/String" 9 "java/lang/String" "value" "[B")) (hx.mv X0.warmed.alike hh0).2.1 (g := (mkF m 1 #[.val (.ref x)] [.ref x])) rfl (rest := []) rfl (hb hbytes d1)
  have hh2 := q2.trans hh0
  have hx2 := hx.mv X2.warmed.alike hh2
  have c3 : Steps p.tables e below (s₁.setTop (entryFrame m #[.ref x] 1)) (T2.setTop (mkF m 6 #[.val (.ref x)] [.ref x, .int (Int32.ofNat V.slots.size)])) := (c1.trans (st2 _ (Steps.refl _))).trans (by
    refine X2.alen hexec hx2.2.2.2.1 rfl rfl (hb hbytes d4) ?_
    refine XS.aloadN X2.here hexec rfl (hb hbytes d5) rfl rfl ?_
    exact Steps.refl _)
  obtain ⟨v4, T4, X4, E4, g4⟩ := X2.callV hexec (Cdr.law l x cd z) hown (wks W (virtW "java/lang/String" 335 "java/lang/String" Cdr.yN Cdr.yN)) rfl (by decide) (wk W Cdr.tab) (W := 1) (Nat.le_of_ble_eq_true rfl) (Nat.le_of_ble_eq_true rfl) (Nat.le_refl _) (Nat.le_refl _) (hx2.1.fc X2.warmed.alike) hx2.1.is (g := (mkF m 6 #[.val (.ref x)] [.ref x, .int (Int32.ofNat V.slots.size)])) rfl (by rw [hml]; rfl) c3 (argsL := []) (rest := [.int (Int32.ofNat V.slots.size)]) rfl rfl (by show 2 * 0 + (1 + 0) ≤ _; decide) (hb hbytes d6) (⟨rfl, hx2.2.2.1, hx.2.2.2.2.1.cd, s1.there X2.warmed.alike hh2, hz⟩)
  obtain ⟨rfl, q4⟩ := E4
  have c5 : Steps p.tables e below (s₁.setTop (entryFrame m #[.ref x] 1)) (T4.setTop (mkF m 10 #[.val (.ref x)] [.int (Int32.ofNat V.slots.size >>> (cd &&& 31))])) := Steps.trans g4 (by
    refine ishr X4.here hexec rfl (hb hbytes d9) rfl ?_
    exact Steps.refl _)
  rw [hx.2.2.2.2.1.len v31] at c5
  exact ⟨T4, some (.int (Int32.ofNat n)), _, _, _, X4, rfl, rfl, rfl, (fun h => by cases h), ⟨rfl, q4.trans hh2⟩, fun fs hl => c5.trans (X4.ireturnOut hexec hret rfl (Or.inl rfl) (hb hbytes d10) hl)⟩
theorem pays {l : Launch} {R : Room} {p : Program} {e : Env} {below : List Frame} {s : State} {sargs : Array Value} {len W : Nat} (x t : Addr) (V : Cell) (cd : Int32) (n : Nat) (f : Nat → Int32) (z : Int32) (htab : tab.before sargs s = true) (hfr : 2 ≤ R.frames) (hlo : W + 25 ≤ R.locals) :
    Back l R p e below s sargs yN len W (fun A₁ a₁ => A₁.cells + 0 ≤ R.cells ∧ A₁.slots + 0 ≤ R.slots ∧ P x t V cd n f z a₁ A₁.U) (fun A₁ _ v₁ B₁ => E n v₁ A₁.U B₁.U ∧ B₁.locs = A₁.locs ++ [] ∧ B₁.cells = A₁.cells + 0 ∧ B₁.slots = A₁.slots + 0) :=
  (law l x t V cd n f z).pays htab hfr (by omega)
end Len
namespace IsL
def yN : MethodName := ⟨"java/lang/String", "isLatin1", "()Z"⟩
abbrev yB : ByteArray := jdk_42_method_154_code
theorem d0 : decode yB 0 = .ok (.getstatic 38, 3) := by decide +kernel
theorem d3 : decode yB 3 = .ok (.ifCond (.eq) 14, 3) := by decide +kernel
theorem d6 : decode yB 6 = .ok (.aload_n 0, 1) := by decide +kernel
theorem d7 : decode yB 7 = .ok (.getfield 15, 3) := by decide +kernel
theorem d10 : decode yB 10 = .ok (.ifCond (.ne) 7, 3) := by decide +kernel
theorem d13 : decode yB 13 = .ok (.iconst 1, 1) := by decide +kernel
theorem d14 : decode yB 14 = .ok (.goto 4, 3) := by decide +kernel
theorem d17 : decode yB 17 = .ok (.iconst 0, 1) := by decide +kernel
theorem d18 : decode yB 18 = .ok (.ireturn, 1) := by decide +kernel
def site : List Cond := [.fieldLink "java/lang/String" 38 "java/lang/String" "COMPACT_STRINGS" "Z", .fieldLink "java/lang/String" 15 "java/lang/String" "coder" "B"]
def tab : Cond := tabOf yN yB 1 (some .boolean) site
def P (x : Addr) (cd z : Int32) (args : Array Value) (s : State) : Prop := args = #[.ref x] ∧ Has x "java/lang/String" "coder" "B" (.int cd) s ∧ (cd = 0 ∨ cd = 1) ∧ StaticIs s "java/lang/String" "COMPACT_STRINGS" "Z" (.int z) ∧ ¬ z = 0
def E (cd : Int32) (r : Option Value) (s u : State) : Prop := XT.PureE (some (.int (1 - cd))) r s u
theorem law (l : Launch) (x : Addr) (cd z : Int32) : Law l yN 1 0 0 0 yB 1 (some .boolean) site (P x cd z) (E cd) [] 0 0 := by
  refine Law.of_walk (plainFor_of_name (by decide +kernel)) (by decide +kernel) (by decide +kernel) (by decide) (fun _ _ h => by rw [h.1]; rfl) (fun _ U U' hal hh h => ⟨h.1, h.2.1.mv hal hh, h.2.2.1, h.2.2.2.1.there hal hh, h.2.2.2.2⟩) (fun r U U' V V' h1 hal h2 h => XT.PureE.mv r U U' V V' h1 hal h2 h) ?_
  intro p e s m args below meth c s₁ X0 hexec hbytes hml hret hlk hnm hown hh0 W hP
  obtain ⟨rfl, hx, hc, s1, hz⟩ := hP
  have c1 : Steps p.tables e below (s₁.setTop (entryFrame m #[.ref x] 1)) (s₁.setTop (mkF m 0 #[.val (.ref x)] [])) := entry rfl
  obtain ⟨T2, X2, q2, st2⟩ := X0.sget hexec hown (wk W (.fieldLink "java/lang/String" 38 "java/lang/String" "COMPACT_STRINGS" "Z")) s1 (fun _ _ h => by rw [hh0]; exact h) (g := (mkF m 0 #[.val (.ref x)] [])) rfl (hb hbytes d0)
  have hh2 := q2.trans hh0
  have c3 : Steps p.tables e below (s₁.setTop (entryFrame m #[.ref x] 1)) (T2.setTop (mkF m 7 #[.val (.ref x)] [.ref x])) := (c1.trans (st2 _ (Steps.refl _))).trans (by
    refine XS.ifNo X2.here hexec rfl (hb hbytes d3) rfl (i0_eq_f hz) ?_
    refine XS.aloadN X2.here hexec rfl (hb hbytes d6) rfl rfl ?_
    exact Steps.refl _)
  obtain ⟨T4, X4, q4, st4⟩ := X2.hget hexec hown (wk W (.fieldLink "java/lang/String" 15 "java/lang/String" "coder" "B")) (hx.mv X2.warmed.alike hh2) (g := (mkF m 7 #[.val (.ref x)] [.ref x])) rfl (rest := []) rfl (hb hbytes d7)
  have c5 : Steps p.tables e below (s₁.setTop (entryFrame m #[.ref x] 1)) (T4.setTop (mkF m 10 #[.val (.ref x)] [.int cd])) := c3.trans (st4 _ (Steps.refl _))
  have c6 : Steps p.tables e below (s₁.setTop (entryFrame m #[.ref x] 1)) (T4.setTop (mkF m 18 #[.val (.ref x)] [.int (1 - cd)])) := by
    rcases hc with rfl | rfl
    · exact c5.trans (by
        refine XS.ifNo X4.here hexec rfl (hb hbytes d10) rfl (i0_ne_f rfl) ?_
        refine iconstV X4.here hexec rfl 1 (hb hbytes d13) (by decide) ?_
        refine XS.goto X4.here hexec rfl (pc0 := 14) rfl (hb hbytes d14) (by decide) rfl ?_
        exact Steps.refl _)
    · exact c5.trans (by
        refine XS.ifYes X4.here hexec rfl (pc0 := 10) rfl (hb hbytes d10) rfl (i0_ne_t (by decide)) (by decide) rfl ?_
        refine iconstV X4.here hexec rfl 0 (hb hbytes d17) (by decide) ?_
        exact Steps.refl _)
  exact ⟨T4, some (.int (1 - cd)), _, _, _, X4, rfl, rfl, rfl, (fun h => by cases h), ⟨rfl, q4.trans hh2⟩, fun fs hl => c6.trans (X4.ireturnOut hexec hret (by rcases hc with rfl | rfl <;> rfl) (Or.inr (Or.inl rfl)) (hb hbytes d18) hl)⟩
end IsL
namespace LChA
def yN : MethodName := ⟨"java/lang/StringLatin1", "charAt", "([BI)C"⟩
abbrev yB : ByteArray := jdk_43_method_2_code
theorem d0 : decode yB 0 = .ok (.iload_n 1, 1) := by decide +kernel
theorem d1 : decode yB 1 = .ok (.aload_n 0, 1) := by decide +kernel
theorem d2 : decode yB 2 = .ok (.arraylength, 1) := by decide +kernel
theorem d3 : decode yB 3 = .ok (.invokestatic 9, 3) := by decide +kernel
theorem d6 : decode yB 6 = .ok (.aload_n 0, 1) := by decide +kernel
theorem d7 : decode yB 7 = .ok (.iload_n 1, 1) := by decide +kernel
theorem d8 : decode yB 8 = .ok (.baload, 1) := by decide +kernel
theorem d9 : decode yB 9 = .ok (.sipush 255, 3) := by decide +kernel
theorem d12 : decode yB 12 = .ok (.iand, 1) := by decide +kernel
theorem d13 : decode yB 13 = .ok (.i2c, 1) := by decide +kernel
theorem d14 : decode yB 14 = .ok (.ireturn, 1) := by decide +kernel
def site : List Cond := [JO.Str_checkIndex.tab] ++ staticW "java/lang/StringLatin1" 9 JO.Str_checkIndex.yN
def tab : Cond := tabOf yN yB 2 (some .char) site
def P (t : Addr) (V : Cell) (i : Nat) (u : Int32) (fm : Value) (args : Array Value) (s : State) : Prop := args = #[.ref t, .int (Int32.ofNat i)] ∧ XT.Arr .byte t V s ∧ V.slots[i]? = some (.int u) ∧ (StaticIs s "jdk/internal/util/Preconditions" "SIOOBE_FORMATTER" "Ljava/util/function/BiFunction;" fm ∧ fm.isRef = true)
def E (u : Int32) (r : Option Value) (s w : State) : Prop := XT.PureE (some (.int (chr8 u))) r s w
theorem law (l : Launch) (t : Addr) (V : Cell) (i : Nat) (u : Int32) (fm : Value) : Law l yN 2 2 2 27 yB 2 (some .char) site (P t V i u fm) (E u) [] 0 0 := by
  refine Law.of_walk (plainFor_of_name (by decide +kernel)) (by decide +kernel) (by decide +kernel) (by decide) (fun _ _ h => by rw [h.1]; rfl) (fun _ U U' hal hh h => ⟨h.1, h.2.1.mv hal hh, h.2.2.1, h.2.2.2.1.there hal hh, h.2.2.2.2⟩) (fun r U U' V V' h1 hal h2 h => XT.PureE.mv r U U' V V' h1 hal h2 h) ?_
  intro p e s m args below meth c s₁ X0 hexec hbytes hml hret hlk hnm hown hh0 W hP
  obtain ⟨rfl, hV, hu, s1, rf⟩ := hP
  have v31 := hV.2.2.2
  have hi : i < V.slots.size := (Array.getElem?_eq_some_iff.mp hu).1
  have c1 : Steps p.tables e below (s₁.setTop (entryFrame m #[.ref t, .int (Int32.ofNat i)] 2)) (s₁.setTop (mkF m 0 #[.val (.ref t), .val (.int (Int32.ofNat i))] [])) := entry rfl
  have c2 : Steps p.tables e below (s₁.setTop (entryFrame m #[.ref t, .int (Int32.ofNat i)] 2)) (s₁.setTop (mkF m 3 #[.val (.ref t), .val (.int (Int32.ofNat i))] [.int (Int32.ofNat V.slots.size), .int (Int32.ofNat i)])) := c1.trans (by
    refine XS.iloadN X0.here hexec rfl (hb hbytes d0) rfl ?_
    refine XS.aloadN X0.here hexec rfl (hb hbytes d1) rfl rfl ?_
    refine X0.alen hexec (hV.mv X0.warmed.alike hh0) rfl rfl (hb hbytes d2) ?_
    exact Steps.refl _)
  obtain ⟨v3, T3, X3, E3, g3⟩ := X0.callS hexec (JO.Str_checkIndex.law l (Int32.ofNat i) (Int32.ofNat V.slots.size) fm) hown (wks W (staticW "java/lang/StringLatin1" 9 JO.Str_checkIndex.yN)) (wk W JO.Str_checkIndex.tab) (W := 0) (Nat.le_of_ble_eq_true rfl) (Nat.le_of_ble_eq_true rfl) (Nat.le_refl _) (Nat.le_refl _) (g := (mkF m 3 #[.val (.ref t), .val (.int (Int32.ofNat i))] [.int (Int32.ofNat V.slots.size), .int (Int32.ofNat i)])) rfl (by rw [hml]; rfl) c2 (argsL := [.int (Int32.ofNat i), .int (Int32.ofNat V.slots.size)]) (rest := []) rfl rfl (by show 2 * 0 + 0 ≤ _; decide) (hb hbytes d3) (⟨rfl, rf, s1.there X0.warmed.alike hh0, Int32.ofNat_not_neg (by omega), lt32 v31 hi⟩)
  obtain ⟨rfl, q3⟩ := E3
  have hh3 := q3.trans hh0
  have c4 : Steps p.tables e below (s₁.setTop (entryFrame m #[.ref t, .int (Int32.ofNat i)] 2)) (T3.setTop (mkF m 14 #[.val (.ref t), .val (.int (Int32.ofNat i))] [.int (chr8 u)])) := Steps.trans g3 (by
    refine XS.aloadN X3.here hexec rfl (hb hbytes d6) rfl rfl ?_
    refine XS.iloadN X3.here hexec rfl (hb hbytes d7) rfl ?_
    refine X3.aget hexec (hV.mv X3.warmed.alike hh3) rfl hu rfl rfl (hb hbytes d8) ?_
    refine sipushV X3.here hexec rfl 255 (hb hbytes d9) (by decide) ?_
    refine XS.iand X3.here hexec rfl (hb hbytes d12) rfl ?_
    refine i2c X3.here hexec rfl (hb hbytes d13) rfl ?_
    exact Steps.refl _)
  exact ⟨T3, some (.int (chr8 u)), _, _, _, X3, rfl, rfl, rfl, (fun h => by cases h), ⟨rfl, hh3⟩, fun fs hl => c4.trans (X3.ireturnOut hexec hret (narrow_c _) (Or.inr (Or.inr (Or.inr (Or.inl rfl)))) (hb hbytes d14) hl)⟩
end LChA
end StrChars
namespace StrChars.Road
open Jvm Sem ClassFile Op Lib Jvm.Stand Jvm.Free Jvm.Free.XT
open Jvm.Lib.Cold (StaticIs)
theorem consq {a : Array Value} {s : State} {c : Jvm.Cond} {L : List Jvm.Cond} (h0 : c.before a s = true) (h : ∀ w ∈ L, w.before a s = true) : ∀ w ∈ c :: L, w.before a s = true := fun w hw => (List.mem_cons.mp hw).elim (fun e => e ▸ h0) (h w)
/-- the words of String.length(), either coding -/
abbrev wordsLen : List Jvm.Cond := [.code Len.yN Len.yB 1 (some .int), .initialized ST, .fieldLink ST 9 ST "value" "[B", .fieldLink ST 38 ST "COMPACT_STRINGS" "Z", .fieldLink ST 15 ST "coder" "B", .code Cdr.yN Cdr.yB 1 (some .byte), .methodLink ST 335 Cdr.yN, .declares Cdr.yN, .selects ST Cdr.yN Cdr.yN, .instanceMethod Cdr.yN]
theorem tabLen_of {a : Array Value} {s : State} (h : ∀ w ∈ wordsLen, w.before a s = true) : Len.tab.before a s = true := by
  have hc : Cdr.tab.before a s = true := unparts (wk h (.code Cdr.yN Cdr.yB 1 (some .byte))) (wks h (.initialized Cdr.yN.cls :: Cdr.site))
  have q := consq hc h
  exact unparts (wk q (.code Len.yN Len.yB 1 (some .int))) (wks q (.initialized Len.yN.cls :: Len.site))
theorem movedLen {Z s : State} {a0 args : Array Value} (hZ : Z.Warmed39 s.vm) (hw : ∀ d ∈ wordsLen, d.before a0 Z = true) : ∀ d ∈ wordsLen, d.before args s = true := fun d hd => by
  have q := hw d hd
  have t : ∀ d ∈ wordsLen, d = .arrayClass .byte ∨ (d.onTables && d.keepsFace) = true := by decide +kernel
  rcases t d hd with rfl | t
  · exact RoadKit.mvA hZ q
  · exact RoadKit.mv hZ q t
/-- the bytes of the chars cs, low before high -/
def wideBytes : List Int32 → List Value
  | [] => []
  | c :: cs => .int (lo8 c) :: .int (hi8 c) :: wideBytes cs
theorem wide_lo (d : Value) : ∀ (cs : List Int32) (j : Nat), j < cs.length → (wideBytes cs).getD (2 * j) d = .int (lo8 (cs.getD j 0))
  | [], j, h => absurd h (Nat.not_lt_zero j)
  | c :: cs, 0, _ => rfl
  | c :: cs, j + 1, h => by
    have q := wide_lo d cs j (by simpa using h)
    rw [show 2 * (j + 1) = 2 * j + 1 + 1 from by omega]
    simpa [wideBytes] using q
theorem wide_hi (d : Value) : ∀ (cs : List Int32) (j : Nat), j < cs.length → (wideBytes cs).getD (2 * j + 1) d = .int (hi8 (cs.getD j 0))
  | [], j, h => absurd h (Nat.not_lt_zero j)
  | c :: cs, 0, _ => rfl
  | c :: cs, j + 1, h => by
    have q := wide_hi d cs j (by simpa using h)
    rw [show 2 * (j + 1) + 1 = 2 * j + 1 + 1 + 1 from by omega]
    simpa [wideBytes] using q
theorem low_at (d : Value) (cs : List Int32) (j : Nat) (h : j < cs.length) : (cs.map fun c => Value.int (lo8 c)).getD j d = .int (lo8 (cs.getD j 0)) := by
  simp [List.getD_eq_getElem?_getD, h]
/-- an array of N2 bytes vs codes the chars cs by the coder cd -/
def CodA (cs : List Int32) (cd N2 : Int32) (vs : List Value) : Prop := (cd = 0 ∧ N2 = Int32.ofNat cs.length ∧ vs = (cs.map fun c => Value.int (lo8 c)) ∧ ∀ c ∈ cs, ¬ 255 < c) ∨ (cd = 1 ∧ N2 = Int32.ofNat (2 * cs.length) ∧ vs = wideBytes cs ∧ ∃ c ∈ cs, 255 < c)
theorem CodA.cod {cs : List Int32} {cd N2 : Int32} {vs : List Value} {V : Cell} (h : CodA cs cd N2 vs) (hn : 2 * cs.length < 2 ^ 31) (hs : V.slots.size = N2.toNatClampNeg) (hv : RoadKit.Has V vs (.int 0)) : Cod cd cs.length (fun j => cs.getD j 0) V := by
  rcases h with ⟨rfl, rfl, rfl, h⟩ | ⟨rfl, rfl, rfl, c, hc, hw⟩
  · rw [n32 (by omega)] at hs
    exact Or.inl ⟨rfl, hs, fun j hj => ⟨by rw [hv j (by omega), low_at _ _ _ hj], by
      have e : cs.getD j 0 = cs[j] := by simp [List.getD_eq_getElem?_getD, hj]
      show ¬ 255 < cs.getD j 0
      rw [e]; exact h _ (List.getElem_mem _)⟩⟩
  · rw [n32 (by omega)] at hs
    obtain ⟨j, hj, rfl⟩ := List.getElem_of_mem hc
    exact Or.inr ⟨rfl, hs, fun j hj => ⟨by rw [hv _ (by omega), wide_lo _ _ _ hj], by rw [hv _ (by omega), wide_hi _ _ _ hj]⟩, j, hj, by
      have e : cs.getD j 0 = cs[j] := by simp [List.getD_eq_getElem?_getD, hj]
      show 255 < cs.getD j 0
      rw [e]; exact hw⟩
/-- an object of exactly java/lang/String, its two fields found: as the laws ask it -/
theorem strObj {Z U : State} {a0 : Array Value} {kI : Nat} (wi : (Jvm.Cond.instantiable ST kI).before a0 Z = true) (al : Z.vm.Alike U.vm) {x : Addr} {v0 c0 : Value} (E : RoadKit.Exa Z U.heap x ST) (V : RoadKit.Fld Z U.heap x ST "value" "[B" v0) (C : RoadKit.Fld Z U.heap x ST "coder" "B" c0) :
    ∃ (D : Cell) (fV fC : Field), Blank ST x D U ∧ Found ST "value" "[B" fV U ∧ Found ST "coder" "B" fC U ∧ D.slots[fV.slot]? = some v0 ∧ D.slots[fC.slot]? = some c0 ∧ RoadKit.slotOf Z ST "value" "[B" = fV.slot ∧ RoadKit.slotOf Z ST "coder" "B" = fC.slot := by
  obtain ⟨D, cfV, kV, iV, fV, hD, gV, stV, knV, obV, asV, slV⟩ := V
  obtain ⟨D', cfC, kC, iC, fC, hD', gC, stC, -, -, asC, slC⟩ := C
  cases hD.symm.trans hD'
  obtain ⟨D2, kD, e1, e2, e3, e4, e5⟩ := E
  cases hD.symm.trans e1
  obtain ⟨c2, k2, i1, i2, i3, -⟩ := Cond.instantiable_spec wi
  cases e2.symm.trans i1
  cases e3.symm.trans i2
  obtain ⟨kU, u1, u2⟩ := al.2.2 _ _ e3
  exact ⟨D, fV, fC, ⟨hD, ⟨knV, fun q hq => by rw [hq] at obV; cases obV⟩, by rw [al.findClass]; exact e2, kU, u1, by rw [u2]; exact i3, by rw [u2]; exact e5 i3⟩, ⟨SBG.found_only al ⟨cfV, kV, iV, gV⟩, stV⟩, ⟨SBG.found_only al ⟨cfC, kC, iC, gC⟩, stC⟩, slV, slC, by simp [RoadKit.slotOf, gV], by simp [RoadKit.slotOf, gC]⟩
theorem sta_is {Z U : State} (al : Z.vm.Alike U.vm) {C n d : String} {v : Value} (S : RoadKit.Sta Z U.heap C n d v) : StaticIs U C n d v := by
  obtain ⟨cfS, iS, kS, fS, st, cS, t1, t2, t3, t4, t5, t6, t7⟩ := S
  exact StaticIs.there (s := { Z with heap := U.heap }) ⟨cfS, iS, kS, fS, st, cS, t1, t2, t3, t4, t5, (fun q => by rw [q] at t6; cases t6), t7⟩ al rfl
/-- **length() OF SUCH A STRING** -/
theorem lenW {p : Program} {l : Launch} {e : Env} {R : Room} {s : State} {args : Array Value} {below : List Frame} {len W : Nat} {Z : State} {a0 : Array Value} {h : Heap} (hZ : Z.Warmed39 s.vm) (hw : ∀ d ∈ wordsLen, d.before a0 Z = true) {kI : Nat} (wi : (Jvm.Cond.instantiable ST kI).before a0 Z = true)
    {x t : Addr} {kb : ClassId} {cs : List Int32} {cd N2 z : Int32} {vs : List Value} (E : RoadKit.Exa Z h x ST) (V : RoadKit.Fld Z h x ST "value" "[B" (.ref t)) (C : RoadKit.Fld Z h x ST "coder" "B" (.int cd)) (K : RoadKit.Arv Z h t kb .byte N2 vs (.int 0)) (hc : CodA cs cd N2 vs) (hb : ∀ c ∈ cs, ¬ c < 0 ∧ ¬ (65535 : Int32) < c)
    (S : RoadKit.Sta Z h ST "COMPACT_STRINGS" "Z" (.int z)) (hz : ¬ z = 0) (l2 : cs.length ≤ 4000) (hfr : 2 ≤ R.frames) (hlo : W + 25 ≤ R.locals) :
    Back l R p e below s args (⟨"java/lang/String", "length", "()I"⟩ : MethodName) len W (fun P a => a = #[.ref x] ∧ P.U.heap = h ∧ P.cells + 0 ≤ R.cells ∧ P.slots + 0 ≤ R.slots)
      (fun P _ v B => ∃ L, (v = some (.int (Int32.ofNat cs.length)) ∧ L = [] ∧ B.U.heap = h) ∧ B.locs = P.locs ++ L ∧ B.cells = P.cells + 0 ∧ B.slots = P.slots + 0) := by
  obtain ⟨A, K1, K2, K3, K4, K5, K6⟩ := K
  have hcod := hc.cod (by omega) K3 K5
  intro m meth c P g ig mk a X hg hsize hdg hW hn hp'
  obtain ⟨rfl, rfl, r1, r2⟩ := hp'
  have al : Z.vm.Alike P.U.vm := hZ.alike.trans X.warmed.alike
  obtain ⟨D, fV, fC, hB, F1, F2, g1, g2, -, -⟩ := strObj wi al E V C
  have hx : Txt x t A cd cs.length (fun j => cs.getD j 0) P.U := ⟨⟨_, hB.2.2.1, D, hB.1, rfl, by cases q : D.vm <;> first | rfl | exact absurd q (hB.2.1.2 _)⟩, Has.of hB F1 g1, Has.of hB F2 g2, ⟨K1.1, State.isArrayOf_alike al K1.2.1, K1.2.2, by rcases hcod with ⟨-, q, -⟩ | ⟨-, q, -⟩ <;> omega⟩, hcod, fun j hj => by
    have e : cs.getD j 0 = cs[j] := by simp [List.getD_eq_getElem?_getD, hj]
    show ¬ cs.getD j 0 < 0 ∧ ¬ 65535 < cs.getD j 0
    rw [e]; exact hb _ (List.getElem_mem _)⟩
  obtain ⟨v, B, X', ⟨⟨hv, hh⟩, hl, hk, hs⟩, st⟩ := Len.pays x t A cd cs.length (fun j => cs.getD j 0) z (tabLen_of (movedLen hZ hw)) hfr hlo m meth c P g ig mk _ X hg hsize hdg hW hn ⟨r1, r2, rfl, hx, sta_is al S, hz⟩
  exact ⟨v, B, X', ⟨[], ⟨hv, rfl, hh⟩, hl, hk, hs⟩, st⟩
end StrChars.Road
namespace StrChars
open Jvm Sem ClassFile Op Lib Jvm.Stand Jvm.Free.XT Jvm.Free.ALB Jvm.Free.JM Jvm.Free
open Jvm.Lib.Cold (StaticIs)
/-- what place i of a byte[]'s cell holds -/
def yv (A : Cell) (i : Nat) : Int32 := match A.slots[i]? with | some (.int x) => x | _ => 0
theorem yv_get {a : Addr} {A : Cell} {U : State} (h : XT.Arr .byte a A U) (ht : Typed .byte A) {i : Nat} (hi : i < A.slots.size) : A.slots[i]? = some (.int (yv A i)) := by
  have e := Array.getElem?_eq_getElem hi
  have f := ht i _ e
  unfold yv; rw [e]
  generalize A.slots[i] = v at f
  cases v <;> simp [fits] at f ⊢
/-- the two arrays are equal, place for place -/
def EqC (A B : Cell) : Prop := A.slots.size = B.slots.size ∧ ∀ i, i < A.slots.size → yv A i = yv B i
/-- a boolean that says whether p -/
def Says01 (q : Prop) (r : Option Value) (s u : State) : Prop := ∃ v : Int32, r = some (.int v) ∧ u.heap = s.heap ∧ ((v = 1 ∧ q) ∨ (v = 0 ∧ ¬ q))
theorem Says01.mv {q : Prop} : ∀ r (U U' V V' : State), U'.heap = U.heap → V.vm.Alike V'.vm → V'.heap = V.heap → Says01 q r U V → Says01 q r U' V' :=
  fun r U U' V V' h1 _ h2 ⟨v, a, b, c⟩ => ⟨v, a, by rw [h1, h2]; exact b, c⟩
namespace LEq
def yN : MethodName := ⟨"java/lang/StringLatin1", "equals", "([B[B)Z"⟩
abbrev yB : ByteArray := jdk_43_method_13_code
theorem d0 : decode yB 0 = .ok (.aload_n 0, 1) := by decide +kernel
theorem d1 : decode yB 1 = .ok (.arraylength, 1) := by decide +kernel
theorem d2 : decode yB 2 = .ok (.aload_n 1, 1) := by decide +kernel
theorem d3 : decode yB 3 = .ok (.arraylength, 1) := by decide +kernel
theorem d4 : decode yB 4 = .ok (.if_icmp (.ne) 30, 3) := by decide +kernel
theorem d7 : decode yB 7 = .ok (.iconst 0, 1) := by decide +kernel
theorem d8 : decode yB 8 = .ok (.istore_n 2, 1) := by decide +kernel
theorem d9 : decode yB 9 = .ok (.iload_n 2, 1) := by decide +kernel
theorem d10 : decode yB 10 = .ok (.aload_n 0, 1) := by decide +kernel
theorem d11 : decode yB 11 = .ok (.arraylength, 1) := by decide +kernel
theorem d12 : decode yB 12 = .ok (.if_icmp (.ge) 20, 3) := by decide +kernel
theorem d15 : decode yB 15 = .ok (.aload_n 0, 1) := by decide +kernel
theorem d16 : decode yB 16 = .ok (.iload_n 2, 1) := by decide +kernel
theorem d17 : decode yB 17 = .ok (.baload, 1) := by decide +kernel
theorem d18 : decode yB 18 = .ok (.aload_n 1, 1) := by decide +kernel
theorem d19 : decode yB 19 = .ok (.iload_n 2, 1) := by decide +kernel
theorem d20 : decode yB 20 = .ok (.baload, 1) := by decide +kernel
theorem d21 : decode yB 21 = .ok (.if_icmp (.eq) 5, 3) := by decide +kernel
theorem d24 : decode yB 24 = .ok (.iconst 0, 1) := by decide +kernel
theorem d25 : decode yB 25 = .ok (.ireturn, 1) := by decide +kernel
theorem d26 : decode yB 26 = .ok (.iinc 2 1, 3) := by decide +kernel
theorem d29 : decode yB 29 = .ok (.goto (-20), 3) := by decide +kernel
theorem d32 : decode yB 32 = .ok (.iconst 1, 1) := by decide +kernel
theorem d33 : decode yB 33 = .ok (.ireturn, 1) := by decide +kernel
theorem d34 : decode yB 34 = .ok (.iconst 0, 1) := by decide +kernel
theorem d35 : decode yB 35 = .ok (.ireturn, 1) := by decide +kernel
def site : List Cond := []
def tab : Cond := tabOf yN yB 3 (some .boolean) site
def P (a : Addr) (A : Cell) (b : Addr) (B : Cell) (args : Array Value) (s : State) : Prop := args = #[.ref a, .ref b] ∧ XT.Arr .byte a A s ∧ Typed .byte A ∧ XT.Arr .byte b B s ∧ Typed .byte B
/-- whether two byte[] are equal, place for place -/
theorem law (l : Launch) (a : Addr) (A : Cell) (b : Addr) (B : Cell) : Law l yN 2 2 0 0 yB 3 (some .boolean) site (P a A b B) (Says01 (EqC A B)) [] 0 0 := by
  refine Law.of_walk (plainFor_of_name (by decide +kernel)) (by decide +kernel) (by decide +kernel) (by decide) (fun _ _ h => by rw [h.1]; rfl) (fun _ U U' hal hh h => ⟨h.1, h.2.1.mv hal hh, h.2.2.1, h.2.2.2.1.mv hal hh, h.2.2.2.2⟩) (fun r U U' V V' h1 hal h2 h => Says01.mv r U U' V V' h1 hal h2 h) ?_
  intro p e s m args below meth c s₁ X0 hexec hbytes hml hret hlk hnm hown hh0 W hP
  obtain ⟨rfl, hA, tA, hB, tB⟩ := hP
  have a31 := hA.2.2.2
  have b31 := hB.2.2.2
  have hA0 := hA.mv X0.warmed.alike hh0
  have hB0 := hB.mv X0.warmed.alike hh0
  have c1 : Steps p.tables e below (s₁.setTop (entryFrame m #[.ref a, .ref b] 3)) (s₁.setTop (mkF m 0 #[.val (.ref a), .val (.ref b), .unset] [])) := entry rfl
  have c2 : Steps p.tables e below (s₁.setTop (entryFrame m #[.ref a, .ref b] 3)) (s₁.setTop (mkF m 4 #[.val (.ref a), .val (.ref b), .unset] [.int (Int32.ofNat B.slots.size), .int (Int32.ofNat A.slots.size)])) := c1.trans (by
    refine XS.aloadN X0.here hexec rfl (hb hbytes d0) rfl rfl ?_
    refine X0.alen hexec hA0 rfl rfl (hb hbytes d1) ?_
    refine XS.aloadN X0.here hexec rfl (hb hbytes d2) rfl rfl ?_
    refine X0.alen hexec hB0 rfl rfl (hb hbytes d3) ?_
    exact Steps.refl _)
  by_cases hs : A.slots.size = B.slots.size
  · have c3 : Steps p.tables e below (s₁.setTop (entryFrame m #[.ref a, .ref b] 3)) (s₁.setTop (mkF m 9 #[.val (.ref a), .val (.ref b), .val (.int 0)] [])) := c2.trans (by
      refine XS.icmpNo X0.here hexec rfl (hb hbytes d4) rfl (ii_ne_f (by rw [hs])) ?_
      refine iconstV X0.here hexec rfl 0 (hb hbytes d7) (by decide) ?_
      refine XS.istoreN X0.here hexec rfl (hb hbytes d8) rfl rfl ?_
      exact Steps.refl _)
    have loop : ∀ (r i : Nat), i + r = A.slots.size → (∀ j, j < i → yv A j = yv B j) → Steps p.tables e below (s₁.setTop (entryFrame m #[.ref a, .ref b] 3)) (s₁.setTop (mkF m 9 #[.val (.ref a), .val (.ref b), .val (.int (Int32.ofNat i))] [])) → ∃ (pc : Nat) (Ls : Array Slot) (v : Int32), (pc = 25 ∨ pc = 33) ∧ ((v = 1 ∧ EqC A B) ∨ (v = 0 ∧ ¬ EqC A B)) ∧ Steps p.tables e below (s₁.setTop (entryFrame m #[.ref a, .ref b] 3)) (s₁.setTop (mkF m pc Ls [.int v])) := by
      intro r
      induction r with
      | zero =>
        intro i hi he cl
        exact ⟨33, _, 1, Or.inr rfl, Or.inl ⟨rfl, hs, fun j hj => he j (by omega)⟩, cl.trans (by
          refine XS.iloadN X0.here hexec rfl (hb hbytes d9) rfl ?_
          refine XS.aloadN X0.here hexec rfl (hb hbytes d10) rfl rfl ?_
          refine X0.alen hexec hA0 rfl rfl (hb hbytes d11) ?_
          refine XS.icmpYes X0.here hexec rfl (pc0 := 12) rfl (hb hbytes d12) rfl (ii_ge_t (nlt32 (by omega) (by omega))) (by decide) rfl ?_
          refine iconstV X0.here hexec rfl 1 (hb hbytes d32) (by decide) ?_
          exact Steps.refl _)⟩
      | succ r ih =>
        intro i hi he cl
        have c4 : Steps p.tables e below (s₁.setTop (entryFrame m #[.ref a, .ref b] 3)) (s₁.setTop (mkF m 21 #[.val (.ref a), .val (.ref b), .val (.int (Int32.ofNat i))] [.int (yv B i), .int (yv A i)])) := cl.trans (by
          refine XS.iloadN X0.here hexec rfl (hb hbytes d9) rfl ?_
          refine XS.aloadN X0.here hexec rfl (hb hbytes d10) rfl rfl ?_
          refine X0.alen hexec hA0 rfl rfl (hb hbytes d11) ?_
          refine XS.icmpNo X0.here hexec rfl (hb hbytes d12) rfl (ii_ge_f (lt32 (by omega) (by omega))) ?_
          refine XS.aloadN X0.here hexec rfl (hb hbytes d15) rfl rfl ?_
          refine XS.iloadN X0.here hexec rfl (hb hbytes d16) rfl ?_
          refine X0.aget hexec hA0 rfl (yv_get hA tA (i := i) (by omega)) rfl rfl (hb hbytes d17) ?_
          refine XS.aloadN X0.here hexec rfl (hb hbytes d18) rfl rfl ?_
          refine XS.iloadN X0.here hexec rfl (hb hbytes d19) rfl ?_
          refine X0.aget hexec hB0 rfl (yv_get hB tB (i := i) (by omega)) rfl rfl (hb hbytes d20) ?_
          exact Steps.refl _)
        by_cases hv : yv A i = yv B i
        · have c5 : Steps p.tables e below (s₁.setTop (entryFrame m #[.ref a, .ref b] 3)) (s₁.setTop (mkF m 9 #[.val (.ref a), .val (.ref b), .val (.int (Int32.ofNat i + 1))] [])) := c4.trans (by
            refine XS.icmpYes X0.here hexec rfl (pc0 := 21) rfl (hb hbytes d21) rfl (ii_eq_t hv) (by decide) rfl ?_
            refine iincV X0.here hexec rfl 1 (hb hbytes d26) (by decide) rfl rfl ?_
            refine XS.goto X0.here hexec rfl (pc0 := 29) rfl (hb hbytes d29) (by decide) rfl ?_
            exact Steps.refl _)
          rw [succ32] at c5
          exact ih (i + 1) (by omega) (fun j hj => by
            by_cases e : j = i
            · rw [e]; exact hv
            · exact he j (by omega)) c5
        · exact ⟨25, _, 0, Or.inl rfl, Or.inr ⟨rfl, fun q => hv (q.2 i (by omega))⟩, c4.trans (by
            refine XS.icmpNo X0.here hexec rfl (hb hbytes d21) rfl (ii_eq_f hv) ?_
            refine iconstV X0.here hexec rfl 0 (hb hbytes d24) (by decide) ?_
            exact Steps.refl _)⟩
    obtain ⟨pc, Ls, v, hpc, hv, cz⟩ := loop A.slots.size 0 (by omega) (fun j hj => absurd hj (Nat.not_lt_zero j)) c3
    have nv : narrow .boolean (.int v) = .int v := by rcases hv with ⟨rfl, -⟩ | ⟨rfl, -⟩ <;> rfl
    rcases hpc with rfl | rfl
    · exact ⟨s₁, some (.int v), _, _, _, X0, rfl, rfl, rfl, (fun h => by cases h), ⟨v, rfl, hh0, hv⟩, fun fs hl => cz.trans (X0.ireturnOut hexec hret nv (Or.inr (Or.inl rfl)) (hb hbytes d25) hl)⟩
    · exact ⟨s₁, some (.int v), _, _, _, X0, rfl, rfl, rfl, (fun h => by cases h), ⟨v, rfl, hh0, hv⟩, fun fs hl => cz.trans (X0.ireturnOut hexec hret nv (Or.inr (Or.inl rfl)) (hb hbytes d33) hl)⟩
  · have c3 : Steps p.tables e below (s₁.setTop (entryFrame m #[.ref a, .ref b] 3)) (s₁.setTop (mkF m 35 #[.val (.ref a), .val (.ref b), .unset] [.int 0])) := c2.trans (by
      refine XS.icmpYes X0.here hexec rfl (pc0 := 4) rfl (hb hbytes d4) rfl (ii_ne_t (ne32 a31 b31 hs)) (by decide) rfl ?_
      refine iconstV X0.here hexec rfl 0 (hb hbytes d34) (by decide) ?_
      exact Steps.refl _)
    exact ⟨s₁, some (.int 0), _, _, _, X0, rfl, rfl, rfl, (fun h => by cases h), ⟨0, rfl, hh0, Or.inr ⟨rfl, fun q => hs q.1⟩⟩, fun fs hl => c3.trans (X0.ireturnOut hexec hret rfl (Or.inr (Or.inl rfl)) (hb hbytes d35) hl)⟩
end LEq
theorem Cod.ty {cd : Int32} {n : Nat} {f : Nat → Int32} {V : Cell} (h : Cod cd n f V) : Typed .byte V := fun i v hv => by
  have hi : i < V.slots.size := (Array.getElem?_eq_some_iff.mp hv).1
  rcases h with ⟨-, k1, k2⟩ | ⟨-, k1, k2, -⟩
  · rw [(k2 i (by omega)).1] at hv; cases hv; exact fits_lo8 _
  · rcases Nat.mod_two_eq_zero_or_one i with e | e
    · obtain ⟨j, rfl⟩ : ∃ j, i = 2 * j := ⟨i / 2, by omega⟩
      rw [(k2 j (by omega)).1] at hv; cases hv; exact fits_lo8 _
    · obtain ⟨j, rfl⟩ : ∃ j, i = 2 * j + 1 := ⟨i / 2, by omega⟩
      rw [(k2 j (by omega)).2] at hv; cases hv; exact fits_lo8 _
/-- the same text -/
def SameT (n : Nat) (f : Nat → Int32) (k : Nat) (g : Nat → Int32) : Prop := n = k ∧ ∀ j, j < n → f j = g j
theorem lo8_inj {x y : Int32} (h0 : ¬ x < 0) (h1 : ¬ 255 < x) (k0 : ¬ y < 0) (k1 : ¬ 255 < y) (h : lo8 x = lo8 y) : x = y := by
  rw [← lo8_mask h0 h1, ← lo8_mask k0 k1, h]
/-- arrays coded by one coder are equal just where the texts are -/
theorem Cod.eqv {cd : Int32} {n k : Nat} {f g : Nat → Int32} {V V' : Cell} (h : Cod cd n f V) (h' : Cod cd k g V') (hf : ∀ j, j < n → ¬ f j < 0 ∧ ¬ 65535 < f j) (hg : ∀ j, j < k → ¬ g j < 0 ∧ ¬ 65535 < g j) : EqC V V' ↔ SameT n f k g := by
  have yvv : ∀ {W : Cell} {i : Nat} {x : Int32}, W.slots[i]? = some (.int x) → yv W i = x := fun q => by unfold yv; rw [q]
  rcases h with ⟨rfl, k1, k2⟩ | ⟨rfl, k1, k2, -⟩
  · rcases h' with ⟨-, m1, m2⟩ | ⟨e, -⟩
    · constructor
      · rintro ⟨e1, e2⟩
        refine ⟨by omega, fun j hj => ?_⟩
        have q := e2 j (by omega)
        rw [yvv (k2 j hj).1, yvv (m2 j (by omega)).1] at q
        exact lo8_inj (hf j hj).1 (k2 j hj).2 (hg j (by omega)).1 (m2 j (by omega)).2 q
      · rintro ⟨rfl, e2⟩
        refine ⟨by omega, fun j hj => ?_⟩
        rw [yvv (k2 j (by omega)).1, yvv (m2 j (by omega)).1, e2 j (by omega)]
    · exact absurd e (by decide)
  · rcases h' with ⟨e, -⟩ | ⟨-, m1, m2, -⟩
    · exact absurd e (by decide)
    · constructor
      · rintro ⟨e1, e2⟩
        refine ⟨by omega, fun j hj => ?_⟩
        have q1 := e2 (2 * j) (by omega)
        have q2 := e2 (2 * j + 1) (by omega)
        rw [yvv (k2 j hj).1, yvv (m2 j (by omega)).1] at q1
        rw [yvv (k2 j hj).2, yvv (m2 j (by omega)).2] at q2
        rw [← pair_says (hf j hj).1 (hf j hj).2, ← pair_says (hg j (by omega)).1 (hg j (by omega)).2, q1, q2]
      · rintro ⟨rfl, e2⟩
        refine ⟨by omega, fun i hi => ?_⟩
        rcases Nat.mod_two_eq_zero_or_one i with e | e
        · obtain ⟨j, rfl⟩ : ∃ j, i = 2 * j := ⟨i / 2, by omega⟩
          rw [yvv (k2 j (by omega)).1, yvv (m2 j (by omega)).1, e2 j (by omega)]
        · obtain ⟨j, rfl⟩ : ∃ j, i = 2 * j + 1 := ⟨i / 2, by omega⟩
          rw [yvv (k2 j (by omega)).2, yvv (m2 j (by omega)).2, e2 j (by omega)]
/-- two codings differ: so do the texts -/
theorem Cod.dif {cd cd' : Int32} {n k : Nat} {f g : Nat → Int32} {V V' : Cell} (h : Cod cd n f V) (h' : Cod cd' k g V') (hne : ¬ cd = cd') : ¬ SameT n f k g := by
  rintro ⟨rfl, e⟩
  rcases h with ⟨rfl, -, k2⟩ | ⟨rfl, -, -, j, hj, hw⟩
  · rcases h' with ⟨rfl, -⟩ | ⟨-, -, -, j, hj, hw⟩
    · exact hne rfl
    · exact (k2 j hj).2 (by rw [e j hj]; exact hw)
  · rcases h' with ⟨-, -, m2⟩ | ⟨rfl, -⟩
    · exact (m2 j hj).2 (by rw [← e j hj]; exact hw)
    · exact hne rfl
/-- an object of exactly C is an instance of C -/
theorem cinst {p : Program} {l : Launch} {e : Env} {R : Room} {s : State} {m : MethodId} {args : Array Value} {below : List Frame} {meth : Method} {c : Code} {T : State} {locs : List Loc} {cells slots : Nat} (X : Stand p l e R s m args below meth c T locs cells slots) (hexec : p.tables.exec = Jvm.exec) {own C : String} {index : Nat} (hown : s.vm.findClass own = some m.cls) (hlink : (Cond.classLink own index C).before args s = true) {a : Addr} (hE : Exact C a T)
    {g : JFrame} (hg : g.method = m) {rest : List Value} (hstack : g.stack = .ref a :: rest) (hdg : decode c.code g.pc = .ok (.instanceof index, 3)) :
    ∃ T', Stand p l e R s m args below meth c T' locs cells slots ∧ T'.heap = T.heap ∧ ∀ target, Steps p.tables e below (T'.setTop { g with pc := g.pc + 3, stack := .int 1 :: rest }) target → Steps p.tables e below (T.setTop g) target := by
  obtain ⟨cB, h1, D, h2, h3, h4⟩ := hE
  have h1' : s.vm.findClass C = some cB := by rw [← X.warmed.alike.findClass]; exact h1
  obtain ⟨vm', X', st⟩ := X.instanceofYes hexec hown hlink h2 h4 h1' (by rw [h3]; exact Jvm.Free.SB.assignable_self _ _) hg hstack hdg
  exact ⟨_, X', rfl, st⟩
theorem cself {p : Program} {l : Launch} {e : Env} {R : Room} {s : State} {m : MethodId} {args : Array Value} {below : List Frame} {meth : Method} {c : Code} {T : State} {locs : List Loc} {cells slots : Nat} (X : Stand p l e R s m args below meth c T locs cells slots) (hexec : p.tables.exec = Jvm.exec) {own C : String} {index : Nat} (hown : s.vm.findClass own = some m.cls) (hlink : (Cond.classLink own index C).before args s = true) {a : Addr} (hE : Exact C a T)
    {g : JFrame} (hg : g.method = m) {rest : List Value} (hstack : g.stack = .ref a :: rest) (hdg : decode c.code g.pc = .ok (.checkcast index, 3)) :
    ∃ T', Stand p l e R s m args below meth c T' locs cells slots ∧ T'.heap = T.heap ∧ ∀ target, Steps p.tables e below (T'.setTop { g with pc := g.pc + 3, stack := .ref a :: rest }) target → Steps p.tables e below (T.setTop g) target := by
  obtain ⟨cB, h1, D, h2, h3, h4⟩ := hE
  have h1' : s.vm.findClass C = some cB := by rw [← X.warmed.alike.findClass]; exact h1
  obtain ⟨vm', X', st⟩ := X.checkcastYes hexec hown hlink h2 h4 h1' (by rw [h3]; exact Jvm.Free.SB.assignable_self _ _) hg hstack hdg
  exact ⟨_, X', rfl, fun t h => st t (by rw [← hstack] at h; exact h)⟩
namespace SEq
def yN : MethodName := ⟨"java/lang/String", "equals", "(Ljava/lang/Object;)Z"⟩
abbrev yB : ByteArray := jdk_42_method_66_code
theorem d0 : decode yB 0 = .ok (.aload_n 0, 1) := by decide +kernel
theorem d1 : decode yB 1 = .ok (.aload_n 1, 1) := by decide +kernel
theorem d2 : decode yB 2 = .ok (.if_acmp (.ne) 5, 3) := by decide +kernel
theorem d5 : decode yB 5 = .ok (.iconst 1, 1) := by decide +kernel
theorem d6 : decode yB 6 = .ok (.ireturn, 1) := by decide +kernel
theorem d7 : decode yB 7 = .ok (.aload_n 1, 1) := by decide +kernel
theorem d8 : decode yB 8 = .ok (.instanceof 10, 3) := by decide +kernel
theorem d11 : decode yB 11 = .ok (.ifCond (.eq) 43, 3) := by decide +kernel
theorem d14 : decode yB 14 = .ok (.aload_n 1, 1) := by decide +kernel
theorem d15 : decode yB 15 = .ok (.checkcast 10, 3) := by decide +kernel
theorem d18 : decode yB 18 = .ok (.astore_n 2, 1) := by decide +kernel
theorem d19 : decode yB 19 = .ok (.getstatic 38, 3) := by decide +kernel
theorem d22 : decode yB 22 = .ok (.ifCond (.eq) 14, 3) := by decide +kernel
theorem d25 : decode yB 25 = .ok (.aload_n 0, 1) := by decide +kernel
theorem d26 : decode yB 26 = .ok (.getfield 15, 3) := by decide +kernel
theorem d29 : decode yB 29 = .ok (.aload_n 2, 1) := by decide +kernel
theorem d30 : decode yB 30 = .ok (.getfield 15, 3) := by decide +kernel
theorem d33 : decode yB 33 = .ok (.if_icmp (.ne) 21, 3) := by decide +kernel
theorem d36 : decode yB 36 = .ok (.aload_n 0, 1) := by decide +kernel
theorem d37 : decode yB 37 = .ok (.getfield 9, 3) := by decide +kernel
theorem d40 : decode yB 40 = .ok (.aload_n 2, 1) := by decide +kernel
theorem d41 : decode yB 41 = .ok (.getfield 9, 3) := by decide +kernel
theorem d44 : decode yB 44 = .ok (.invokestatic 541, 3) := by decide +kernel
theorem d47 : decode yB 47 = .ok (.ifCond (.eq) 7, 3) := by decide +kernel
theorem d50 : decode yB 50 = .ok (.iconst 1, 1) := by decide +kernel
theorem d51 : decode yB 51 = .ok (.goto 4, 3) := by decide +kernel
theorem d54 : decode yB 54 = .ok (.iconst 0, 1) := by decide +kernel
theorem d55 : decode yB 55 = .ok (.ireturn, 1) := by decide +kernel
def site : List Cond := [.classLink "java/lang/String" 10 "java/lang/String", .fieldLink "java/lang/String" 38 "java/lang/String" "COMPACT_STRINGS" "Z", .fieldLink "java/lang/String" 15 "java/lang/String" "coder" "B", .fieldLink "java/lang/String" 9 "java/lang/String" "value" "[B", LEq.tab] ++ staticW "java/lang/String" 541 LEq.yN
def tab : Cond := tabOf yN yB 3 (some .boolean) site
def P (x t : Addr) (V : Cell) (cd : Int32) (n : Nat) (f : Nat → Int32) (y t' : Addr) (V' : Cell) (cd' : Int32) (k : Nat) (g : Nat → Int32) (z : Int32) (args : Array Value) (s : State) : Prop := args = #[.ref x, .ref y] ∧ Txt x t V cd n f s ∧ Txt y t' V' cd' k g s ∧ StaticIs s "java/lang/String" "COMPACT_STRINGS" "Z" (.int z) ∧ ¬ z = 0
/-- equals(Object) of two Strings: whether the texts are the same -/
theorem law (l : Launch) (x t : Addr) (V : Cell) (cd : Int32) (n : Nat) (f : Nat → Int32) (y t' : Addr) (V' : Cell) (cd' : Int32) (k : Nat) (g : Nat → Int32) (z : Int32) : Law l yN 2 1 1 14 yB 3 (some .boolean) site (P x t V cd n f y t' V' cd' k g z) (Says01 (SameT n f k g)) [] 0 0 := by
  refine Law.of_walk (plainFor_of_name (by decide +kernel)) (by decide +kernel) (by decide +kernel) (by decide) (fun _ _ h => by rw [h.1]; rfl) (fun _ U U' hal hh h => ⟨h.1, h.2.1.mv hal hh, h.2.2.1.mv hal hh, h.2.2.2.1.there hal hh, h.2.2.2.2⟩) (fun r U U' V V' h1 hal h2 h => Says01.mv r U U' V V' h1 hal h2 h) ?_
  intro p e s m args below meth c s₁ X0 hexec hbytes hml hret hlk hnm hown hh0 W hP
  obtain ⟨rfl, hx, hy, s1, hz⟩ := hP
  have c1 : Steps p.tables e below (s₁.setTop (entryFrame m #[.ref x, .ref y] 3)) (s₁.setTop (mkF m 2 #[.val (.ref x), .val (.ref y), .unset] [.ref y, .ref x])) := Steps.trans (entry rfl) (by
    show Steps p.tables e below (s₁.setTop (mkF m 0 #[.val (.ref x), .val (.ref y), .unset] [])) _
    refine XS.aloadN X0.here hexec rfl (hb hbytes d0) rfl rfl ?_
    refine XS.aloadN X0.here hexec rfl (hb hbytes d1) rfl rfl ?_
    exact Steps.refl _)
  by_cases hxy : x = y
  · have c2 : Steps p.tables e below (s₁.setTop (entryFrame m #[.ref x, .ref y] 3)) (s₁.setTop (mkF m 6 #[.val (.ref x), .val (.ref y), .unset] [.int 1])) := c1.trans (by
      refine acmpNo X0.here hexec rfl (hb hbytes d2) rfl rfl rfl (by simp [acmp, hxy]) ?_
      refine iconstV X0.here hexec rfl 1 (hb hbytes d5) (by decide) ?_
      exact Steps.refl _)
    subst hxy
    have ec : cd = cd' := by
      obtain ⟨D, fd, a1, a2, a3⟩ := hx.2.2.1
      obtain ⟨D', fd', b1, b2, b3⟩ := hy.2.2.1
      cases a1.symm.trans b1
      obtain ⟨q1, q2, q3, q4⟩ := a2.1
      obtain ⟨r1, r2, r3, r4⟩ := b2.1
      cases q4.symm.trans r4
      cases a3.symm.trans b3; rfl
    have et : t = t' := by
      obtain ⟨D, fd, a1, a2, a3⟩ := hx.2.1
      obtain ⟨D', fd', b1, b2, b3⟩ := hy.2.1
      cases a1.symm.trans b1
      obtain ⟨q1, q2, q3, q4⟩ := a2.1
      obtain ⟨r1, r2, r3, r4⟩ := b2.1
      cases q4.symm.trans r4
      cases a3.symm.trans b3; rfl
    subst ec et
    have ev : V = V' := by cases hx.2.2.2.1.1.symm.trans hy.2.2.2.1.1; rfl
    subst ev
    have hs : SameT n f k g := (Cod.eqv hx.2.2.2.2.1 hy.2.2.2.2.1 hx.2.2.2.2.2 hy.2.2.2.2.2).mp ⟨rfl, fun _ _ => rfl⟩
    exact ⟨s₁, some (.int 1), _, _, _, X0, rfl, rfl, rfl, (fun h => by cases h), ⟨1, rfl, hh0, Or.inl ⟨rfl, hs⟩⟩, fun fs hl => c2.trans (X0.ireturnOut hexec hret rfl (Or.inr (Or.inl rfl)) (hb hbytes d6) hl)⟩
  · have c2 : Steps p.tables e below (s₁.setTop (entryFrame m #[.ref x, .ref y] 3)) (s₁.setTop (mkF m 8 #[.val (.ref x), .val (.ref y), .unset] [.ref y])) := c1.trans (by
      refine acmpYes X0.here hexec rfl (pc0 := 2) rfl (hb hbytes d2) rfl rfl rfl (by simp [acmp, hxy]) (by decide) rfl ?_
      refine XS.aloadN X0.here hexec rfl (hb hbytes d7) rfl rfl ?_
      exact Steps.refl _)
    obtain ⟨T3, X3, q3, st3⟩ := cinst X0 hexec hown (wk W (.classLink "java/lang/String" 10 "java/lang/String")) (hy.mv X0.warmed.alike hh0).1 (g := (mkF m 8 #[.val (.ref x), .val (.ref y), .unset] [.ref y])) rfl (rest := []) rfl (hb hbytes d8)
    have hh3 := q3.trans hh0
    have c4 : Steps p.tables e below (s₁.setTop (entryFrame m #[.ref x, .ref y] 3)) (T3.setTop (mkF m 15 #[.val (.ref x), .val (.ref y), .unset] [.ref y])) := (c2.trans (st3 _ (Steps.refl _))).trans (by
      refine XS.ifNo X3.here hexec rfl (hb hbytes d11) rfl (i0_eq_f (by decide)) ?_
      refine XS.aloadN X3.here hexec rfl (hb hbytes d14) rfl rfl ?_
      exact Steps.refl _)
    obtain ⟨T5, X5, q5, st5⟩ := cself X3 hexec hown (wk W (.classLink "java/lang/String" 10 "java/lang/String")) (hy.mv X3.warmed.alike hh3).1 (g := (mkF m 15 #[.val (.ref x), .val (.ref y), .unset] [.ref y])) rfl (rest := []) rfl (hb hbytes d15)
    have hh5 := q5.trans hh3
    have c6 : Steps p.tables e below (s₁.setTop (entryFrame m #[.ref x, .ref y] 3)) (T5.setTop (mkF m 19 #[.val (.ref x), .val (.ref y), .val (.ref y)] [])) := (c4.trans (st5 _ (Steps.refl _))).trans (by
      refine XS.astoreN X5.here hexec rfl (hb hbytes d18) rfl rfl rfl ?_
      exact Steps.refl _)
    obtain ⟨T7, X7, q7, st7⟩ := X5.sget hexec hown (wk W (.fieldLink "java/lang/String" 38 "java/lang/String" "COMPACT_STRINGS" "Z")) s1 (fun _ _ h => by rw [hh5]; exact h) (g := (mkF m 19 #[.val (.ref x), .val (.ref y), .val (.ref y)] [])) rfl (hb hbytes d19)
    have hh7 := q7.trans hh5
    have c8 : Steps p.tables e below (s₁.setTop (entryFrame m #[.ref x, .ref y] 3)) (T7.setTop (mkF m 26 #[.val (.ref x), .val (.ref y), .val (.ref y)] [.ref x])) := (c6.trans (st7 _ (Steps.refl _))).trans (by
      refine XS.ifNo X7.here hexec rfl (hb hbytes d22) rfl (i0_eq_f hz) ?_
      refine XS.aloadN X7.here hexec rfl (hb hbytes d25) rfl rfl ?_
      exact Steps.refl _)
    obtain ⟨T9, X9, q9, st9⟩ := X7.hget hexec hown (wk W (.fieldLink "java/lang/String" 15 "java/lang/String" "coder" "B")) (hx.mv X7.warmed.alike hh7).2.2.1 (g := (mkF m 26 #[.val (.ref x), .val (.ref y), .val (.ref y)] [.ref x])) rfl (rest := []) rfl (hb hbytes d26)
    have hh9 := q9.trans hh7
    have c10 : Steps p.tables e below (s₁.setTop (entryFrame m #[.ref x, .ref y] 3)) (T9.setTop (mkF m 30 #[.val (.ref x), .val (.ref y), .val (.ref y)] [.ref y, .int cd])) := (c8.trans (st9 _ (Steps.refl _))).trans (by
      refine XS.aloadN X9.here hexec rfl (hb hbytes d29) rfl rfl ?_
      exact Steps.refl _)
    obtain ⟨T11, X11, q11, st11⟩ := X9.hget hexec hown (wk W (.fieldLink "java/lang/String" 15 "java/lang/String" "coder" "B")) (hy.mv X9.warmed.alike hh9).2.2.1 (g := (mkF m 30 #[.val (.ref x), .val (.ref y), .val (.ref y)] [.ref y, .int cd])) rfl (rest := [.int cd]) rfl (hb hbytes d30)
    have hh11 := q11.trans hh9
    have c12 : Steps p.tables e below (s₁.setTop (entryFrame m #[.ref x, .ref y] 3)) (T11.setTop (mkF m 33 #[.val (.ref x), .val (.ref y), .val (.ref y)] [.int cd', .int cd])) := c10.trans (st11 _ (Steps.refl _))
    by_cases hcd : cd = cd'
    · subst hcd
      have c13 : Steps p.tables e below (s₁.setTop (entryFrame m #[.ref x, .ref y] 3)) (T11.setTop (mkF m 37 #[.val (.ref x), .val (.ref y), .val (.ref y)] [.ref x])) := c12.trans (by
        refine XS.icmpNo X11.here hexec rfl (hb hbytes d33) rfl (ii_ne_f rfl) ?_
        refine XS.aloadN X11.here hexec rfl (hb hbytes d36) rfl rfl ?_
        exact Steps.refl _)
      obtain ⟨T14, X14, q14, st14⟩ := X11.hget hexec hown (wk W (.fieldLink "java/lang/String" 9 "java/lang/String" "value" "[B")) (hx.mv X11.warmed.alike hh11).2.1 (g := (mkF m 37 #[.val (.ref x), .val (.ref y), .val (.ref y)] [.ref x])) rfl (rest := []) rfl (hb hbytes d37)
      have hh14 := q14.trans hh11
      have c15 : Steps p.tables e below (s₁.setTop (entryFrame m #[.ref x, .ref y] 3)) (T14.setTop (mkF m 41 #[.val (.ref x), .val (.ref y), .val (.ref y)] [.ref y, .ref t])) := (c13.trans (st14 _ (Steps.refl _))).trans (by
        refine XS.aloadN X14.here hexec rfl (hb hbytes d40) rfl rfl ?_
        exact Steps.refl _)
      obtain ⟨T16, X16, q16, st16⟩ := X14.hget hexec hown (wk W (.fieldLink "java/lang/String" 9 "java/lang/String" "value" "[B")) (hy.mv X14.warmed.alike hh14).2.1 (g := (mkF m 41 #[.val (.ref x), .val (.ref y), .val (.ref y)] [.ref y, .ref t])) rfl (rest := [.ref t]) rfl (hb hbytes d41)
      have hh16 := q16.trans hh14
      have c17 : Steps p.tables e below (s₁.setTop (entryFrame m #[.ref x, .ref y] 3)) (T16.setTop (mkF m 44 #[.val (.ref x), .val (.ref y), .val (.ref y)] [.ref t', .ref t])) := c15.trans (st16 _ (Steps.refl _))
      obtain ⟨v18, T18, X18, E18, g18⟩ := X16.callS hexec (LEq.law l t V t' V') hown (wks W (staticW "java/lang/String" 541 LEq.yN)) (wk W LEq.tab) (W := 0) (Nat.le_of_ble_eq_true rfl) (Nat.le_of_ble_eq_true rfl) (Nat.le_refl _) (Nat.le_refl _) (g := (mkF m 44 #[.val (.ref x), .val (.ref y), .val (.ref y)] [.ref t', .ref t])) rfl (by rw [hml]; rfl) c17 (argsL := [.ref t, .ref t']) (rest := []) rfl rfl (by show 2 * 0 + 0 ≤ _; decide) (hb hbytes d44) (⟨rfl, hx.2.2.2.1.mv X16.warmed.alike hh16, hx.2.2.2.2.1.ty, hy.2.2.2.1.mv X16.warmed.alike hh16, hy.2.2.2.2.1.ty⟩)
      obtain ⟨v, rfl, q18, hv⟩ := E18
      have iff := Cod.eqv hx.2.2.2.2.1 hy.2.2.2.2.1 hx.2.2.2.2.2 hy.2.2.2.2.2
      rcases hv with ⟨rfl, he⟩ | ⟨rfl, he⟩
      · have c19 : Steps p.tables e below (s₁.setTop (entryFrame m #[.ref x, .ref y] 3)) (T18.setTop (mkF m 55 #[.val (.ref x), .val (.ref y), .val (.ref y)] [.int 1])) := Steps.trans g18 (by
          refine XS.ifNo X18.here hexec rfl (hb hbytes d47) rfl (i0_eq_f (by decide)) ?_
          refine iconstV X18.here hexec rfl 1 (hb hbytes d50) (by decide) ?_
          refine XS.goto X18.here hexec rfl (pc0 := 51) rfl (hb hbytes d51) (by decide) rfl ?_
          exact Steps.refl _)
        exact ⟨T18, some (.int 1), _, _, _, X18, rfl, rfl, rfl, (fun h => by cases h), ⟨1, rfl, q18.trans hh16, Or.inl ⟨rfl, iff.mp he⟩⟩, fun fs hl => c19.trans (X18.ireturnOut hexec hret rfl (Or.inr (Or.inl rfl)) (hb hbytes d55) hl)⟩
      · have c19 : Steps p.tables e below (s₁.setTop (entryFrame m #[.ref x, .ref y] 3)) (T18.setTop (mkF m 55 #[.val (.ref x), .val (.ref y), .val (.ref y)] [.int 0])) := Steps.trans g18 (by
          refine XS.ifYes X18.here hexec rfl (pc0 := 47) rfl (hb hbytes d47) rfl (i0_eq_t rfl) (by decide) rfl ?_
          refine iconstV X18.here hexec rfl 0 (hb hbytes d54) (by decide) ?_
          exact Steps.refl _)
        exact ⟨T18, some (.int 0), _, _, _, X18, rfl, rfl, rfl, (fun h => by cases h), ⟨0, rfl, q18.trans hh16, Or.inr ⟨rfl, fun q => he (iff.mpr q)⟩⟩, fun fs hl => c19.trans (X18.ireturnOut hexec hret rfl (Or.inr (Or.inl rfl)) (hb hbytes d55) hl)⟩
    · have c13 : Steps p.tables e below (s₁.setTop (entryFrame m #[.ref x, .ref y] 3)) (T11.setTop (mkF m 55 #[.val (.ref x), .val (.ref y), .val (.ref y)] [.int 0])) := c12.trans (by
        refine XS.icmpYes X11.here hexec rfl (pc0 := 33) rfl (hb hbytes d33) rfl (ii_ne_t hcd) (by decide) rfl ?_
        refine iconstV X11.here hexec rfl 0 (hb hbytes d54) (by decide) ?_
        exact Steps.refl _)
      exact ⟨T11, some (.int 0), _, _, _, X11, rfl, rfl, rfl, (fun h => by cases h), ⟨0, rfl, hh11, Or.inr ⟨rfl, Cod.dif hx.2.2.2.2.1 hy.2.2.2.2.1 hcd⟩⟩, fun fs hl => c13.trans (X11.ireturnOut hexec hret rfl (Or.inr (Or.inl rfl)) (hb hbytes d55) hl)⟩
theorem pays {l : Launch} {R : Room} {p : Program} {e : Env} {below : List Frame} {s : State} {sargs : Array Value} {len W : Nat} (x t : Addr) (V : Cell) (cd : Int32) (n : Nat) (f : Nat → Int32) (y t' : Addr) (V' : Cell) (cd' : Int32) (k : Nat) (g : Nat → Int32) (z : Int32) (htab : tab.before sargs s = true) (hfr : 2 ≤ R.frames) (hlo : W + 28 ≤ R.locals) :
    Back l R p e below s sargs yN len W (fun A₁ a₁ => A₁.cells + 0 ≤ R.cells ∧ A₁.slots + 0 ≤ R.slots ∧ P x t V cd n f y t' V' cd' k g z a₁ A₁.U) (fun A₁ _ v₁ B₁ => Says01 (SameT n f k g) v₁ A₁.U B₁.U ∧ B₁.locs = A₁.locs ++ [] ∧ B₁.cells = A₁.cells + 0 ∧ B₁.slots = A₁.slots + 0) :=
  (law l x t V cd n f y t' V' cd' k g z).pays htab hfr (by omega)
end SEq
end StrChars
namespace StrChars.Road
open Jvm Sem ClassFile Op Lib Jvm.Stand Jvm.Free Jvm.Free.XT
open Jvm.Lib.Cold (StaticIs)
/-- the words of String.equals(Object) -/
abbrev wordsEq : List Jvm.Cond := [.code SEq.yN SEq.yB 3 (some .boolean), .initialized ST, .classLink ST 10 ST, .fieldLink ST 38 ST "COMPACT_STRINGS" "Z", .fieldLink ST 15 ST "coder" "B", .fieldLink ST 9 ST "value" "[B", .methodLink ST 541 LEq.yN, .static LEq.yN, .code LEq.yN LEq.yB 3 (some .boolean), .initialized "java/lang/StringLatin1"]
theorem tabEq_of {a : Array Value} {s : State} (h : ∀ w ∈ wordsEq, w.before a s = true) : SEq.tab.before a s = true := by
  have hl : LEq.tab.before a s = true := unparts (wk h (.code LEq.yN LEq.yB 3 (some .boolean))) (wks h (.initialized LEq.yN.cls :: LEq.site))
  have q := consq hl h
  exact unparts (wk q (.code SEq.yN SEq.yB 3 (some .boolean))) (wks q (.initialized SEq.yN.cls :: SEq.site))
theorem movedEq {Z s : State} {a0 args : Array Value} (hZ : Z.Warmed39 s.vm) (hw : ∀ d ∈ wordsEq, d.before a0 Z = true) : ∀ d ∈ wordsEq, d.before args s = true := fun d hd => by
  have t : ∀ d ∈ wordsEq, (d.onTables && d.keepsFace) = true := by decide +kernel
  exact RoadKit.mv hZ (hw d hd) (t d hd)
/-- the road's facts of a String, as the laws ask it -/
theorem txt_of {Z U : State} {a0 : Array Value} {kI : Nat} (wi : (Jvm.Cond.instantiable ST kI).before a0 Z = true) (al : Z.vm.Alike U.vm) {x t : Addr} {kb : ClassId} {cs : List Int32} {cd N2 : Int32} {vs : List Value} (E : RoadKit.Exa Z U.heap x ST) (V : RoadKit.Fld Z U.heap x ST "value" "[B" (.ref t)) (C : RoadKit.Fld Z U.heap x ST "coder" "B" (.int cd)) (K : RoadKit.Arv Z U.heap t kb .byte N2 vs (.int 0)) (hc : CodA cs cd N2 vs) (hb : ∀ c ∈ cs, ¬ c < 0 ∧ ¬ (65535 : Int32) < c) (l2 : cs.length ≤ 4000) :
    ∃ A, Txt x t A cd cs.length (fun j => cs.getD j 0) U := by
  obtain ⟨A, K1, K2, K3, K4, K5, K6⟩ := K
  have hcod := hc.cod (by omega) K3 K5
  obtain ⟨D, fV, fC, hB, F1, F2, g1, g2, -, -⟩ := strObj wi al E V C
  exact ⟨A, ⟨_, hB.2.2.1, D, hB.1, rfl, by cases q : D.vm <;> first | rfl | exact absurd q (hB.2.1.2 _)⟩, Has.of hB F1 g1, Has.of hB F2 g2, ⟨K1.1, State.isArrayOf_alike al K1.2.1, K1.2.2, by rcases hcod with ⟨-, q, -⟩ | ⟨-, q, -⟩ <;> omega⟩, hcod, fun j hj => by
    have e : cs.getD j 0 = cs[j] := by simp [List.getD_eq_getElem?_getD, hj]
    show ¬ cs.getD j 0 < 0 ∧ ¬ 65535 < cs.getD j 0
    rw [e]; exact hb _ (List.getElem_mem _)⟩
theorem same_list (cs ds : List Int32) : SameT cs.length (fun j => cs.getD j 0) ds.length (fun j => ds.getD j 0) ↔ cs = ds := by
  constructor
  · rintro ⟨e, q⟩
    refine List.ext_getElem e fun j h1 h2 => ?_
    have := q j h1
    simpa [List.getD_eq_getElem?_getD, h1, h2] using this
  · rintro rfl
    exact ⟨rfl, fun _ _ => rfl⟩
/-- **equals(Object) OF TWO SUCH STRINGS**: 1 just where the chars are the same -/
theorem eqW {p : Program} {l : Launch} {e : Env} {R : Room} {s : State} {args : Array Value} {below : List Frame} {len W : Nat} {Z : State} {a0 : Array Value} {h : Heap} (hZ : Z.Warmed39 s.vm) (hw : ∀ d ∈ wordsEq, d.before a0 Z = true) {kI : Nat} (wi : (Jvm.Cond.instantiable ST kI).before a0 Z = true)
    {x t : Addr} {kb : ClassId} {cs : List Int32} {cd N2 : Int32} {vs : List Value} (E : RoadKit.Exa Z h x ST) (V : RoadKit.Fld Z h x ST "value" "[B" (.ref t)) (C : RoadKit.Fld Z h x ST "coder" "B" (.int cd)) (K : RoadKit.Arv Z h t kb .byte N2 vs (.int 0)) (hc : CodA cs cd N2 vs) (hb : ∀ c ∈ cs, ¬ c < 0 ∧ ¬ (65535 : Int32) < c) (l2 : cs.length ≤ 4000)
    {y t' : Addr} {kb' : ClassId} {ds : List Int32} {cd' N2' : Int32} {vs' : List Value} (E' : RoadKit.Exa Z h y ST) (V' : RoadKit.Fld Z h y ST "value" "[B" (.ref t')) (C' : RoadKit.Fld Z h y ST "coder" "B" (.int cd')) (K' : RoadKit.Arv Z h t' kb' .byte N2' vs' (.int 0)) (hc' : CodA ds cd' N2' vs') (hb' : ∀ c ∈ ds, ¬ c < 0 ∧ ¬ (65535 : Int32) < c) (l2' : ds.length ≤ 4000)
    {z : Int32} (S : RoadKit.Sta Z h ST "COMPACT_STRINGS" "Z" (.int z)) (hz : ¬ z = 0) (hfr : 2 ≤ R.frames) (hlo : W + 28 ≤ R.locals) :
    Back l R p e below s args (⟨"java/lang/String", "equals", "(Ljava/lang/Object;)Z"⟩ : MethodName) len W (fun P a => a = #[.ref x, .ref y] ∧ P.U.heap = h ∧ P.cells + 0 ≤ R.cells ∧ P.slots + 0 ≤ R.slots)
      (fun P _ v B => ∃ L, (((v = some (.int 1) ∧ cs = ds) ∨ (v = some (.int 0) ∧ ¬ cs = ds)) ∧ L = [] ∧ B.U.heap = h) ∧ B.locs = P.locs ++ L ∧ B.cells = P.cells + 0 ∧ B.slots = P.slots + 0) := by
  intro m meth c P g ig mk a X hg hsize hdg hW hn hp'
  obtain ⟨rfl, rfl, r1, r2⟩ := hp'
  have al : Z.vm.Alike P.U.vm := hZ.alike.trans X.warmed.alike
  obtain ⟨A, hx⟩ := txt_of wi al E V C K hc hb l2
  obtain ⟨A', hy⟩ := txt_of wi al E' V' C' K' hc' hb' l2'
  obtain ⟨v, B, X', ⟨⟨w, hv, hh, hq⟩, hl, hk, hs⟩, st⟩ := SEq.pays x t A cd cs.length (fun j => cs.getD j 0) y t' A' cd' ds.length (fun j => ds.getD j 0) z (tabEq_of (movedEq hZ hw)) hfr hlo m meth c P g ig mk _ X hg hsize hdg hW hn ⟨r1, r2, rfl, hx, hy, sta_is al S, hz⟩
  refine ⟨v, B, X', ⟨[], ⟨?_, rfl, hh⟩, hl, hk, hs⟩, st⟩
  rcases hq with ⟨rfl, q⟩ | ⟨rfl, q⟩
  · exact Or.inl ⟨hv, (same_list cs ds).mp q⟩
  · exact Or.inr ⟨hv, fun e => q ((same_list cs ds).mpr e)⟩
end StrChars.Road
namespace StrChars
open Jvm Sem ClassFile Op Lib Jvm.Stand Jvm.Free.XT Jvm.Free.ALB Jvm.Free.JM Jvm.Free
open Jvm.Lib.Cold (StaticIs)
namespace ChN
def yN : MethodName := ⟨"java/lang/String", "charAt", "(I)C"⟩
abbrev yB : ByteArray := jdk_42_method_56_code
theorem d0 : decode yB 0 = .ok (.aload_n 0, 1) := by decide +kernel
theorem d1 : decode yB 1 = .ok (.invokevirtual 492, 3) := by decide +kernel
theorem d4 : decode yB 4 = .ok (.ifCond (.eq) 12, 3) := by decide +kernel
theorem d7 : decode yB 7 = .ok (.aload_n 0, 1) := by decide +kernel
theorem d8 : decode yB 8 = .ok (.getfield 9, 3) := by decide +kernel
theorem d11 : decode yB 11 = .ok (.iload_n 1, 1) := by decide +kernel
theorem d12 : decode yB 12 = .ok (.invokestatic 495, 3) := by decide +kernel
theorem d15 : decode yB 15 = .ok (.ireturn, 1) := by decide +kernel
def site : List Cond := [.fieldLink "java/lang/String" 9 "java/lang/String" "value" "[B", IsL.tab, LChA.tab] ++ virtW "java/lang/String" 492 "java/lang/String" IsL.yN IsL.yN ++ staticW "java/lang/String" 495 LChA.yN
def tab : Cond := tabOf yN yB 2 (some .char) site
def P (x t : Addr) (V : Cell) (n : Nat) (f : Nat → Int32) (z : Int32) (fm : Value) (i : Nat) (args : Array Value) (s : State) : Prop := args = #[.ref x, .int (Int32.ofNat i)] ∧ Txt x t V 0 n f s ∧ i < n ∧ StaticIs s "java/lang/String" "COMPACT_STRINGS" "Z" (.int z) ∧ ¬ z = 0 ∧ StaticIs s "jdk/internal/util/Preconditions" "SIOOBE_FORMATTER" "Ljava/util/function/BiFunction;" fm ∧ fm.isRef = true
def E (f : Nat → Int32) (i : Nat) (r : Option Value) (s u : State) : Prop := XT.PureE (some (.int (f i))) r s u
/-- charAt(i) of a Latin-1 String of n chars, i < n: f i -/
theorem law (l : Launch) (x t : Addr) (V : Cell) (n : Nat) (f : Nat → Int32) (z : Int32) (fm : Value) (i : Nat) : Law l yN 2 1 3 40 yB 2 (some .char) site (P x t V n f z fm i) (E f i) [] 0 0 := by
  refine Law.of_walk (plainFor_of_name (by decide +kernel)) (by decide +kernel) (by decide +kernel) (by decide) (fun _ _ h => by rw [h.1]; rfl) (fun _ U U' hal hh h => ⟨h.1, h.2.1.mv hal hh, h.2.2.1, h.2.2.2.1.there hal hh, h.2.2.2.2.1, h.2.2.2.2.2.1.there hal hh, h.2.2.2.2.2.2⟩) (fun r U U' V V' h1 hal h2 h => XT.PureE.mv r U U' V V' h1 hal h2 h) ?_
  intro p e s m args below meth c s₁ X0 hexec hbytes hml hret hlk hnm hown hh0 W hP
  obtain ⟨rfl, hx, hi, s1, hz, s3, rf⟩ := hP
  have v31 := hx.2.2.2.1.2.2.2
  have hr := hx.2.2.2.2.2 i hi
  have hx0 := hx.mv X0.warmed.alike hh0
  have c1 : Steps p.tables e below (s₁.setTop (entryFrame m #[.ref x, .int (Int32.ofNat i)] 2)) (s₁.setTop (mkF m 1 #[.val (.ref x), .val (.int (Int32.ofNat i))] [.ref x])) := Steps.trans (entry rfl) (by
    show Steps p.tables e below (s₁.setTop (mkF m 0 #[.val (.ref x), .val (.int (Int32.ofNat i))] [])) _
    refine XS.aloadN X0.here hexec rfl (hb hbytes d0) rfl rfl ?_
    exact Steps.refl _)
  obtain ⟨v2, T2, X2, E2, g2⟩ := X0.callV hexec (IsL.law l x 0 z) hown (wks W (virtW "java/lang/String" 492 "java/lang/String" IsL.yN IsL.yN)) rfl (by decide) (wk W IsL.tab) (W := 0) (Nat.le_of_ble_eq_true rfl) (Nat.le_of_ble_eq_true rfl) (Nat.le_refl _) (Nat.le_refl _) (hx0.1.fc X0.warmed.alike) hx0.1.is (g := (mkF m 1 #[.val (.ref x), .val (.int (Int32.ofNat i))] [.ref x])) rfl (by rw [hml]; rfl) c1 (argsL := []) (rest := []) rfl rfl (by show 2 * 0 + 0 ≤ _; decide) (hb hbytes d1) (⟨rfl, hx0.2.2.1, hx.2.2.2.2.1.cd, s1.there X0.warmed.alike hh0, hz⟩)
  obtain ⟨rfl, q2⟩ := E2
  have hh2 := q2.trans hh0
  have hx2 := hx.mv X2.warmed.alike hh2
  obtain ⟨-, k1, k2⟩ | ⟨k0, -⟩ := hx.2.2.2.2.1
  · have c3 : Steps p.tables e below (s₁.setTop (entryFrame m #[.ref x, .int (Int32.ofNat i)] 2)) (T2.setTop (mkF m 8 #[.val (.ref x), .val (.int (Int32.ofNat i))] [.ref x])) := Steps.trans g2 (by
      refine XS.ifNo X2.here hexec rfl (hb hbytes d4) rfl (i0_eq_f (by decide)) ?_
      refine XS.aloadN X2.here hexec rfl (hb hbytes d7) rfl rfl ?_
      exact Steps.refl _)
    obtain ⟨T4, X4, q4, st4⟩ := X2.hget hexec hown (wk W (.fieldLink "java/lang/String" 9 "java/lang/String" "value" "[B")) hx2.2.1 (g := (mkF m 8 #[.val (.ref x), .val (.int (Int32.ofNat i))] [.ref x])) rfl (rest := []) rfl (hb hbytes d8)
    have hh4 := q4.trans hh2
    have c5 : Steps p.tables e below (s₁.setTop (entryFrame m #[.ref x, .int (Int32.ofNat i)] 2)) (T4.setTop (mkF m 12 #[.val (.ref x), .val (.int (Int32.ofNat i))] [.int (Int32.ofNat i), .ref t])) := (c3.trans (st4 _ (Steps.refl _))).trans (by
      refine XS.iloadN X4.here hexec rfl (hb hbytes d11) rfl ?_
      exact Steps.refl _)
    obtain ⟨v6, T6, X6, E6, g6⟩ := X4.callS hexec (LChA.law l t V i (lo8 (f i)) fm) hown (wks W (staticW "java/lang/String" 495 LChA.yN)) (wk W LChA.tab) (W := 0) (Nat.le_of_ble_eq_true rfl) (Nat.le_of_ble_eq_true rfl) (Nat.le_refl _) (Nat.le_refl _) (g := (mkF m 12 #[.val (.ref x), .val (.int (Int32.ofNat i))] [.int (Int32.ofNat i), .ref t])) rfl (by rw [hml]; rfl) c5 (argsL := [.ref t, .int (Int32.ofNat i)]) (rest := []) rfl rfl (by show 2 * 0 + 0 ≤ _; decide) (hb hbytes d12) (⟨rfl, hx.2.2.2.1.mv X4.warmed.alike hh4, (k2 i hi).1, s3.there X4.warmed.alike hh4, rf⟩)
    obtain ⟨rfl, q6⟩ := E6
    rw [chr8_lo8 hr.1 (k2 i hi).2] at g6
    exact ⟨T6, some (.int (f i)), _, _, _, X6, rfl, rfl, rfl, (fun h => by cases h), ⟨rfl, q6.trans hh4⟩, fun fs hl => Steps.trans g6 (X6.ireturnOut hexec hret (narrow_ch hr.1 hr.2) (Or.inr (Or.inr (Or.inr (Or.inl rfl)))) (hb hbytes d15) hl)⟩
  · exact absurd k0 (by decide)
theorem pays {l : Launch} {R : Room} {p : Program} {e : Env} {below : List Frame} {s : State} {sargs : Array Value} {len W : Nat} (x t : Addr) (V : Cell) (n : Nat) (f : Nat → Int32) (z : Int32) (fm : Value) (i : Nat) (htab : tab.before sargs s = true) (hfr : 4 ≤ R.frames) (hlo : W + 53 ≤ R.locals) :
    Back l R p e below s sargs yN len W (fun A₁ a₁ => A₁.cells + 0 ≤ R.cells ∧ A₁.slots + 0 ≤ R.slots ∧ P x t V n f z fm i a₁ A₁.U) (fun A₁ _ v₁ B₁ => E f i v₁ A₁.U B₁.U ∧ B₁.locs = A₁.locs ++ [] ∧ B₁.cells = A₁.cells + 0 ∧ B₁.slots = A₁.slots + 0) :=
  (law l x t V n f z fm i).pays htab hfr (by omega)
end ChN
end StrChars
namespace StrChars.Road
open Jvm Sem ClassFile Op Lib Jvm.Stand Jvm.Free Jvm.Free.XT
open Jvm.Lib.Cold (StaticIs)
/-- the words of String.charAt(int), the Latin-1 road alone -/
abbrev wordsChN : List Jvm.Cond := [.code ChN.yN ChN.yB 2 (some .char), .initialized ST, .fieldLink ST 9 ST "value" "[B", .fieldLink ST 38 ST "COMPACT_STRINGS" "Z", .fieldLink ST 15 ST "coder" "B", .code IsL.yN IsL.yB 1 (some .boolean), .methodLink ST 492 IsL.yN, .declares IsL.yN, .selects ST IsL.yN IsL.yN, .instanceMethod IsL.yN,
  .methodLink ST 495 LChA.yN, .static LChA.yN, .code LChA.yN LChA.yB 2 (some .char), .initialized "java/lang/StringLatin1", .methodLink "java/lang/StringLatin1" 9 JO.Str_checkIndex.yN, .static JO.Str_checkIndex.yN, .code JO.Str_checkIndex.yN JO.Str_checkIndex.yB 2 none,
  .fieldLink ST 1053 "jdk/internal/util/Preconditions" "SIOOBE_FORMATTER" "Ljava/util/function/BiFunction;", .methodLink ST 1059 JC.PreCheck.yN, .static JC.PreCheck.yN, .code JC.PreCheck.yN JC.PreCheck.yB 3 (some .int), .initialized "jdk/internal/util/Preconditions"]
theorem tabChN_of {a : Array Value} {s : State} (h : ∀ w ∈ wordsChN, w.before a s = true) : ChN.tab.before a s = true := by
  have hp : JC.PreCheck.tab.before a s = true := unparts (wk h (.code JC.PreCheck.yN JC.PreCheck.yB 3 (some .int))) (wks h (.initialized JC.PreCheck.yN.cls :: JC.PreCheck.site))
  have qk := consq hp h
  have hk : JO.Str_checkIndex.tab.before a s = true := unparts (wk qk (.code JO.Str_checkIndex.yN JO.Str_checkIndex.yB 2 none)) (wks qk (.initialized JO.Str_checkIndex.yN.cls :: JO.Str_checkIndex.site))
  have ql := consq hk h
  have hl : LChA.tab.before a s = true := unparts (wk ql (.code LChA.yN LChA.yB 2 (some .char))) (wks ql (.initialized LChA.yN.cls :: LChA.site))
  have hi : IsL.tab.before a s = true := unparts (wk h (.code IsL.yN IsL.yB 1 (some .boolean))) (wks h (.initialized IsL.yN.cls :: IsL.site))
  have q := consq hi (consq hl h)
  exact unparts (wk q (.code ChN.yN ChN.yB 2 (some .char))) (wks q (.initialized ChN.yN.cls :: ChN.site))
theorem movedChN {Z s : State} {a0 args : Array Value} (hZ : Z.Warmed39 s.vm) (hw : ∀ d ∈ wordsChN, d.before a0 Z = true) : ∀ d ∈ wordsChN, d.before args s = true := fun d hd => by
  have t : ∀ d ∈ wordsChN, (d.onTables && d.keepsFace) = true := by decide +kernel
  exact RoadKit.mv hZ (hw d hd) (t d hd)
/-- **charAt(i) OF A LATIN-1 STRING**, i < n: the char -/
theorem chN {p : Program} {l : Launch} {e : Env} {R : Room} {s : State} {args : Array Value} {below : List Frame} {len W : Nat} {Z : State} {a0 : Array Value} {h : Heap} (hZ : Z.Warmed39 s.vm) (hw : ∀ d ∈ wordsChN, d.before a0 Z = true) {kI : Nat} (wi : (Jvm.Cond.instantiable ST kI).before a0 Z = true)
    {x t : Addr} {kb : ClassId} {cs : List Int32} {N2 z : Int32} {vs : List Value} {fm : Value} {i : Nat} {j : Int32} (E : RoadKit.Exa Z h x ST) (V : RoadKit.Fld Z h x ST "value" "[B" (.ref t)) (C : RoadKit.Fld Z h x ST "coder" "B" (.int 0)) (K : RoadKit.Arv Z h t kb .byte N2 vs (.int 0)) (hc : CodA cs 0 N2 vs) (hb : ∀ c ∈ cs, ¬ c < 0 ∧ ¬ (65535 : Int32) < c)
    (S : RoadKit.Sta Z h ST "COMPACT_STRINGS" "Z" (.int z)) (hz : ¬ z = 0) (F : RoadKit.Sta Z h "jdk/internal/util/Preconditions" "SIOOBE_FORMATTER" "Ljava/util/function/BiFunction;" fm) (rf : fm.isRef = true) (l2 : cs.length ≤ 4000) (hi : i < cs.length) (hj : j = Int32.ofNat i) (hfr : 4 ≤ R.frames) (hlo : W + 53 ≤ R.locals) :
    Back l R p e below s args (⟨"java/lang/String", "charAt", "(I)C"⟩ : MethodName) len W (fun P a => a = #[.ref x, .int j] ∧ P.U.heap = h ∧ P.cells + 0 ≤ R.cells ∧ P.slots + 0 ≤ R.slots)
      (fun P _ v B => ∃ L, (v = some (.int (cs.getD i 0)) ∧ L = [] ∧ B.U.heap = h) ∧ B.locs = P.locs ++ L ∧ B.cells = P.cells + 0 ∧ B.slots = P.slots + 0) := by
  subst hj
  intro m meth c P g ig mk a X hg hsize hdg hW hn hp'
  obtain ⟨rfl, rfl, r1, r2⟩ := hp'
  have al : Z.vm.Alike P.U.vm := hZ.alike.trans X.warmed.alike
  obtain ⟨A, hx⟩ := txt_of wi al E V C K hc hb l2
  obtain ⟨v, B, X', ⟨⟨hv, hh⟩, hl, hk, hs⟩, st⟩ := ChN.pays x t A cs.length (fun j => cs.getD j 0) z fm i (tabChN_of (movedChN hZ hw)) hfr hlo m meth c P g ig mk _ X hg hsize hdg hW hn ⟨r1, r2, rfl, hx, hi, sta_is al S, hz, sta_is al F, rf⟩
  exact ⟨v, B, X', ⟨[], ⟨hv, rfl, hh⟩, hl, hk, hs⟩, st⟩
end StrChars.Road
end Jvm.Pilot.@@N@@
namespace Jvm.Pilot.@@N@@
open Jvm Jvm.ClassFile Sem Op Lib Jvm.Free Jvm.Stand Jvm.LawKit Jvm.RoadKit Bundle Jvm.Pilot.@@N@@.Jvm.D
abbrev si (x : Int32) : Slot := .val (.int x)
abbrev sr (x : Addr) : Slot := .val (.ref x)
theorem ww {a0 : Array Value} {Z : State} {d : Jvm.Cond} (hw : ∀ d ∈ tables_1, d.before a0 Z = true) (i : Nat) (h : tables_1[i]? = some d) : d.before a0 Z = true := hw _ (List.mem_of_getElem? h)
theorem mr0 {a b : Nat} (h : a = b) : a ≤ b := Nat.le_of_eq h
section Own
variable {p : Program} {l : Launch} {e : Env} {R : Room} {s : State} {m : MethodId} {args : Array Value} {below : List Frame} {meth : Method} {c : Code} {T : State} {locs : List Loc} {cells slots : Nat} {Z : State} {a0 : Array Value} {h : Heap}
/-- from S the run comes to an end that P speaks of -/
def Goes (tb : Tables) (e : Env) (below : List Frame) (P : State → Outcome → Prop) (S : State) : Prop := ∃ s₂ o, Steps tb e below S s₂ ∧ P s₂ o
theorem go {tb : Tables} {P : State → Outcome → Prop} {S S' : State} (st : ∀ t, Steps tb e below S' t → Steps tb e below S t) (h : Goes tb e below P S') : Goes tb e below P S := by
  obtain ⟨s₂, o, h1, h2⟩ := h
  exact ⟨s₂, o, st _ h1, h2⟩
/-- from S the run comes to the frame F, in a state that P speaks of -/
def Reach (tb : Tables) (e : Env) (below : List Frame) (F : JFrame) (P : State → Prop) (S : State) : Prop := ∃ T', P T' ∧ ∀ t, Steps tb e below (T'.setTop F) t → Steps tb e below S t
theorem goR {tb : Tables} {F : JFrame} {P : State → Prop} {S S' : State} (st : ∀ t, Steps tb e below S' t → Steps tb e below S t) (h : Reach tb e below F P S') : Reach tb e below F P S := by
  obtain ⟨T', h1, h2⟩ := h
  exact ⟨T', h1, fun t k => st t (h2 t k)⟩
def Same (X : Stand p l e R s m args below meth c T locs cells slots) (n0 : Nat) (h : Heap) : State → Prop := fun T' => ∃ locs', Stand p l e R s m args below meth c T' locs' cells slots ∧ Fr n0 locs' ∧ T'.heap = h
/-- the end of a body: it returned, and Q holds of the value, the heap, the written places -/
def EndP (s : State) (below : List Frame) (Q : Option Value → Heap → List Loc → Prop) (kc ks : Nat) (s₂ : State) (o : Outcome) : Prop :=
  s₂.status = .running ∧ Ended s₂ below o ∧ ∃ v L, o = .returned v ∧ Q v s₂.heap L ∧ FrameEnd s o s₂ L kc ks
variable {Q : Option Value → Heap → List Loc → Prop} {kc ks : Nat}
theorem finG {g : JFrame} (X : Stand p l e R s m args below meth c T locs cells slots) (hk : meth.locks = false) (v : Option Value) (hv : meth.sig.returnType = none → v = none)
    (st : ∀ fs, (∀ (f : JFrame) (acts : List Action), f.method = m → f.locked = none → f.entered = [] → (doReturn e (T.setTop f) acts v).1 = T.setFrames fs) → Steps p.tables e below (T.setTop g) (T.setFrames fs))
    (hc : cells ≤ kc) (hs : slots ≤ ks) (hQ : Q v T.heap locs) : Goes p.tables e below (EndP s below Q kc ks) (T.setTop g) := by
  obtain ⟨fs, hr, hrun, hended, hW, hsame⟩ := X.leave (v := v) hv hk
  exact ⟨_, _, st fs hr, hrun, hended, v, locs, rfl, hQ, ⟨_, rfl⟩, hW, hsame.mono hc hs⟩
theorem finV (X : Stand p l e R s m args below meth c T locs cells slots) (hx : p.tables.exec = Jvm.exec) (hk : meth.locks = false) (hret : meth.sig.returnType = none) {pc : Nat} {Ls : Array Slot} (hd : decode c.code pc = .ok (.return_, 1)) (hc : cells ≤ kc) (hs : slots ≤ ks) (hQ : Q none T.heap locs) :
    Goes p.tables e below (EndP s below Q kc ks) (T.setTop (mkF m pc Ls [])) := finG X hk none (fun _ => rfl) (fun _ hr => X.returnOut hx hret hd hr) hc hs hQ
theorem finI (X : Stand p l e R s m args below meth c T locs cells slots) (hx : p.tables.exec = Jvm.exec) (hk : meth.locks = false) (hret : meth.sig.returnType = some .int) {pc : Nat} {Ls : Array Slot} {z : Int32} {rest : List Value} (hd : decode c.code pc = .ok (.ireturn, 1)) (hc : cells ≤ kc) (hs : slots ≤ ks) (hQ : Q (some (.int z)) T.heap locs) :
    Goes p.tables e below (EndP s below Q kc ks) (T.setTop (mkF m pc Ls (.int z :: rest))) := finG X hk _ (fun q => by rw [hret] at q; cases q) (fun _ hr => retI X hx hret hd hr) hc hs hQ
theorem finN (X : Stand p l e R s m args below meth c T locs cells slots) (hx : p.tables.exec = Jvm.exec) (hk : meth.locks = false) {t : FieldType} (hret : meth.sig.returnType = some t) (ht : t = .boolean ∨ t = .byte ∨ t = .char ∨ t = .short) {pc : Nat} {Ls : Array Slot} {z : Int32} {rest : List Value} (hd : decode c.code pc = .ok (.ireturn, 1)) (hc : cells ≤ kc) (hs : slots ≤ ks) (hQ : Q (some (.int (nar t z))) T.heap locs) :
    Goes p.tables e below (EndP s below Q kc ks) (T.setTop (mkF m pc Ls (.int z :: rest))) := finG X hk _ (fun q => by rw [hret] at q; cases q) (fun _ hr => retN X hx hret ht hd hr) hc hs hQ
theorem finR (X : Stand p l e R s m args below meth c T locs cells slots) (hx : p.tables.exec = Jvm.exec) (hk : meth.locks = false) {t : FieldType} (hret : meth.sig.returnType = some t) (ht : t.isReference = true) {w : Value} (hw : w.isRef = true) {pc : Nat} {Ls : Array Slot} (hd : decode c.code pc = .ok (.areturn, 1)) (hc : cells ≤ kc) (hs : slots ≤ ks) (hQ : Q (some w) T.heap locs) :
    Goes p.tables e below (EndP s below Q kc ks) (T.setTop (mkF m pc Ls [w])) := finG X hk _ (fun q => by rw [hret] at q; cases q) (fun _ hr => X.areturnOut hx hw hret ht hd hr) hc hs hQ
theorem finJ (X : Stand p l e R s m args below meth c T locs cells slots) (hx : p.tables.exec = Jvm.exec) (hk : meth.locks = false) (hret : meth.sig.returnType = some .long) {pc : Nat} {Ls : Array Slot} {z : Int64} (hd : decode c.code pc = .ok (.lreturn, 1)) (hc : cells ≤ kc) (hs : slots ≤ ks) (hQ : Q (some (.long z)) T.heap locs) :
    Goes p.tables e below (EndP s below Q kc ks) (T.setTop (mkF m pc Ls [.long z])) := finG X hk _ (fun q => by rw [hret] at q; cases q) (fun _ hr => X.lreturnOut hx hret hd hr) hc hs hQ
theorem bodyOf {y : MethodName} {bytes : ByteArray} {maxL : Nat} {ret : Option FieldType} {ws : List Jvm.Cond} {rm : Room} {as' : Array Value} {Ls : Array Slot} {h0 : Heap}
    (pn : plainFor y = true) (ef : ∀ m, entryFrame m as' maxL = mkF m 0 Ls [])
    (body : ∀ (p : Program) (e : Env) (s : State) (m : MethodId) (below : List Frame) (meth : Method) (c : Code) (T : State), Stand p l e rm s m as' below meth c T [] 0 0 → p.tables.exec = Jvm.exec → c.code = bytes → c.maxLocals = maxL →
      s.vm.findClass y.cls = some m.cls → meth.name = y.name → meth.sig.returnType = ret → meth.locks = false → Z.Warmed39 s.vm → T.heap = h0 → Goes p.tables e below (EndP s below Q rm.cells rm.slots) (T.setTop (mkF m 0 Ls []))) :
    MetFree l y (head1 (Jvm.Cond.code y bytes maxL ret :: ws) rm) (fun a U => a = as' ∧ Z.Warmed39 U.vm ∧ U.heap = h0) (fun _ _ _ _ _ => True) (fun _ U o U' => ∃ v L, o = .returned v ∧ Q v U'.heap L ∧ FrameEnd U o U' L rm.cells rm.slots) := by
  refine MetFree.of_bodySF pn hisR ?_
  intro p e s m args below meth c s₁ Bd hml0 hP hK
  obtain ⟨rfl, hZ, hh⟩ := hP
  have e0 : s₁.heap = h0 := by rw [← hh, Bd.state]; rfl
  obtain ⟨s₂, o, st, hrun, hend, hq⟩ := body p e s m below meth c s₁ (Stand.of_body Bd) Bd.exec Bd.bytes hml0 (findClass_of_methodNamed Bd.named) (name_of_methodNamed Bd.named Bd.method).1 Bd.returns Bd.notSynchronized hZ e0
  exact ⟨s₂, o, castTop (ef m) st, hrun, hend, hq⟩
variable {y z : MethodName} {own C : String} {index W len : Nat} {bytes : ByteArray} {maxL : Nat} {ret : Option FieldType} {as' : Array Value} {argsL rest : List Value} {g : JFrame}
theorem callSt (X : Stand p l e R s m args below meth c T locs cells slots) (hx : p.tables.exec = Jvm.exec) (hZ : Z.Warmed39 s.vm) (hown : s.vm.findClass own = some m.cls)
    (w1 : (Jvm.Cond.methodLink own index y).before a0 Z = true) (w2 : (Jvm.Cond.static y).before a0 Z = true) (w3 : (Jvm.Cond.initialized y.cls).before a0 Z = true) (w4 : (Jvm.Cond.code y bytes maxL ret).before a0 Z = true)
    (hy : y.cls ≠ "java/lang/invoke/MethodHandle" ∧ y.cls ≠ "java/lang/invoke/VarHandle")
    (hB : Back l R p e below s args y 3 W (fun A a => a = argsL.toArray ∧ A.U.heap = h ∧ A.cells + kc ≤ R.cells ∧ A.slots + ks ≤ R.slots) (fun A _ v B => ∃ L, Q v B.U.heap L ∧ B.locs = A.locs ++ L ∧ B.cells = A.cells + kc ∧ B.slots = A.slots + ks))
    (hg : g.method = m) (hsize : g.locals.size = c.maxLocals) (hlen : ∀ sig, parseMethodDescriptor y.desc = some sig → argsL.length = sig.parameters.length) (hstack : g.stack = argsL.reverse ++ rest) (hW : 2 * g.monitorRoom + (rest.map fun v => v.category).sum ≤ W)
    (hd : decode c.code g.pc = .ok (.invokestatic index, 3)) (eT : T.heap = h) (hc : cells + kc ≤ R.cells) (hs : slots + ks ≤ R.slots) :
    ∃ v T' L, Stand p l e R s m args below meth c T' (locs ++ L) (cells + kc) (slots + ks) ∧ Q v T'.heap L ∧ ∀ t, Steps p.tables e below (T'.setTop { g with pc := g.pc + 3, stack := v.toList ++ rest }) t → Steps p.tables e below (T.setTop g) t := by
  obtain ⟨v, _, ⟨T1, L1, k1, n1⟩, -, X1, ⟨L, hQ, hl, hk, hn⟩, st⟩ := Jvm.LawKit.callS X hx hown (mvT hZ w1) (mvT hZ w2) (mvT hZ w3) (mvT hZ w4) hy hB hg hsize hlen hstack hW hd (fun _ _ => ⟨rfl, eT, hc, hs⟩)
  dsimp only [Pt.U, Pt.locs, Pt.cells, Pt.slots] at X1 hl hk hn st hQ
  subst hl hk hn
  exact ⟨v, T1, L, X1, hQ, st⟩
theorem callSp {a : Addr} (X : Stand p l e R s m args below meth c T locs cells slots) (hx : p.tables.exec = Jvm.exec) (hZ : Z.Warmed39 s.vm) (hy1 : y.name = "<init>") (hown : s.vm.findClass own = some m.cls)
    (w1 : (Jvm.Cond.methodLink own index y).before a0 Z = true) (w2 : (Jvm.Cond.instanceMethod y).before a0 Z = true) (w4 : (Jvm.Cond.code y bytes maxL none).before a0 Z = true)
    (hy : y.cls ≠ "java/lang/invoke/MethodHandle" ∧ y.cls ≠ "java/lang/invoke/VarHandle")
    (hB : Back l R p e below s args y 3 W (fun A b => b = (Value.ref a :: argsL).toArray ∧ A.U.heap = h ∧ A.cells + kc ≤ R.cells ∧ A.slots + ks ≤ R.slots) (fun A _ v B => ∃ L, Q v B.U.heap L ∧ B.locs = A.locs ++ L ∧ B.cells = A.cells + kc ∧ B.slots = A.slots + ks))
    (hg : g.method = m) (hsize : g.locals.size = c.maxLocals) (hlen : ∀ sig, parseMethodDescriptor y.desc = some sig → argsL.length = sig.parameters.length) (hstack : g.stack = argsL.reverse ++ .ref a :: rest) (hW : 2 * g.monitorRoom + (rest.map fun v => v.category).sum ≤ W)
    (hd : decode c.code g.pc = .ok (.invokespecial index, 3)) (eT : T.heap = h) (hc : cells + kc ≤ R.cells) (hs : slots + ks ≤ R.slots) :
    ∃ v T' L, Stand p l e R s m args below meth c T' (locs ++ L) (cells + kc) (slots + ks) ∧ Q v T'.heap L ∧ ∀ t, Steps p.tables e below (T'.setTop { g with pc := g.pc + 3, stack := v.toList ++ rest }) t → Steps p.tables e below (T.setTop g) t := by
  obtain ⟨v, _, ⟨T1, L1, k1, n1⟩, -, X1, ⟨L, hQ, hl, hk, hn⟩, st⟩ := X.specialBack hx hy1 hown (mvT hZ w1) (mvT hZ w2) (mvT hZ w4) hy hB hg hsize (Steps.refl _) hlen hstack hW hd (fun _ _ => ⟨rfl, eT, hc, hs⟩)
  dsimp only [Pt.U, Pt.locs, Pt.cells, Pt.slots] at X1 hl hk hn st hQ
  subst hl hk hn
  exact ⟨v, T1, L, X1, hQ, fun t k => st.trans k⟩
theorem callV {a : Addr} (X : Stand p l e R s m args below meth c T locs cells slots) (hx : p.tables.exec = Jvm.exec) (hZ : Z.Warmed39 s.vm) (hown : s.vm.findClass own = some m.cls)
    (w1 : (Jvm.Cond.methodLink own index y).before a0 Z = true) (w2 : (Jvm.Cond.declares y).before a0 Z = true) (nf : NotFace s y) (w3 : (Jvm.Cond.selects C y z).before a0 Z = true) (w4 : (Jvm.Cond.instanceMethod z).before a0 Z = true)
    (hy : y.cls ≠ "java/lang/invoke/MethodHandle" ∧ y.cls ≠ "java/lang/invoke/VarHandle")
    (hB : Back l R p e below s args z 3 W (fun A b => b = (Value.ref a :: argsL).toArray ∧ A.U.heap = h ∧ A.cells + kc ≤ R.cells ∧ A.slots + ks ≤ R.slots) (fun A _ v B => ∃ L, Q v B.U.heap L ∧ B.locs = A.locs ++ L ∧ B.cells = A.cells + kc ∧ B.slots = A.slots + ks))
    (E : Exa Z h a C) (hg : g.method = m) (hsize : g.locals.size = c.maxLocals) (hlen : ∀ sig, parseMethodDescriptor y.desc = some sig → argsL.length = sig.parameters.length) (hstack : g.stack = argsL.reverse ++ .ref a :: rest) (hW : 2 * g.monitorRoom + (rest.map fun v => v.category).sum ≤ W)
    (hd : decode c.code g.pc = .ok (.invokevirtual index, 3)) (eT : T.heap = h) (hc : cells + kc ≤ R.cells) (hs : slots + ks ≤ R.slots) :
    ∃ v T' L, Stand p l e R s m args below meth c T' (locs ++ L) (cells + kc) (slots + ks) ∧ Q v T'.heap L ∧ ∀ t, Steps p.tables e below (T'.setTop { g with pc := g.pc + 3, stack := v.toList ++ rest }) t → Steps p.tables e below (T.setTop g) t := by
  obtain ⟨cq, kq, qa, qb, qc⟩ := isOf hZ eT E
  obtain ⟨v, _, ⟨T1, L1, k1, n1⟩, -, X1, ⟨L, hQ, hl, hk, hn⟩, st⟩ := X.virtualBack hx hown (mvT hZ w1) (mvT hZ w2) nf (mvT hZ w3) (mvT hZ w4) hy hB qa qc hg hsize (Steps.refl _) hlen hstack hW hd (fun _ _ => ⟨rfl, eT, hc, hs⟩)
  dsimp only [Pt.U, Pt.locs, Pt.cells, Pt.slots] at X1 hl hk hn st hQ
  subst hl hk hn
  exact ⟨v, T1, L, X1, hQ, fun t k => st.trans k⟩
theorem nsRoot {O K : String} {n : Nat} (w : (Jvm.Cond.noSuperclass O).before a0 Z = true) (wk : (Jvm.Cond.instantiable K n).before a0 Z = true) (hn : O ≠ K) : NS Z O K := by
  obtain ⟨c, k, h1, h2, h3, -, -⟩ := Cond.noSuperclass_spec w
  obtain ⟨t, kt, g1, -⟩ := Cond.instantiable_spec wk
  have ne := ids_ne h1 g1 hn
  refine ⟨c, t, h1, g1, fun fuel => ?_⟩
  cases fuel with
  | zero => rfl
  | succ f => simp [Vm.isSubclassAux, ne, h2, h3]
theorem nsNo {C S K : String} {n : Nat} (w : (Jvm.Cond.superclass C S).before a0 Z = true) (wk : (Jvm.Cond.instantiable K n).before a0 Z = true) (n : NS Z C K) (hn : C ≠ K) : ∃ c t, Z.vm.findClass C = some c ∧ Z.vm.findClass K = some t ∧ Z.vm.assignable c t = false := by
  obtain ⟨c, t, h0, g0, n3⟩ := n
  obtain ⟨p, k, kp, h1, h2, h3, h4, h5, -, h7⟩ := Cond.superclass_spec h0 w
  obtain ⟨t', kt, g1, g2, g3, g4, -⟩ := Cond.instantiable_spec wk
  cases g0.symm.trans g1
  have g7 : kt.isInterface = false := (Bool.or_eq_false_iff.mp g4).1
  have ne := ids_ne h0 g0 hn
  refine ⟨c, t, h0, g0, ?_⟩
  show Z.vm.assignableAux (255 + 1) c t = false
  simp [Vm.assignableAux, ne, h2, g2, h5, g3, g7, Vm.isSubclass, n3]
theorem lsw {tb : Tables} [Ours tb] {target : State} {g : JFrame} (h : At T m c below) (hx : tb.exec = Jvm.exec) (hg : g.method = m) {dflt : Int} {pairs : Array (Int × Int)} {len : Nat} {pc0 pc' : Nat} (hpc : g.pc = pc0) (hd : decode c.code g.pc = .ok (.lookupswitch dflt pairs, len)) {i : Int32} {rest : List Value} (hs : g.stack = .int i :: rest)
    (hsrt : (pairs.toList.zip pairs.toList.tail).all (fun z => decide (z.1.1 < z.2.1)) = true) (ho : 0 ≤ (pc0 : Int) + lookupswitch.offset pairs.toList dflt i.toInt) (hp : ((pc0 : Int) + lookupswitch.offset pairs.toList dflt i.toInt).toNat = pc') (hr : Steps tb e below (T.setTop { g with pc := pc', stack := rest }) target) : Steps tb e below (T.setTop g) target := by
  subst hg hpc hp
  jvm_step h [h.top, hx, hd, hs, ho, lookupswitch.wp_chain]
  exact ⟨fun a b a1 b1 q => of_decide_eq_true (List.all_eq_true.mp hsrt _ q), hr⟩
theorem eqInt_v {t : Term} {n : Int32} (h : (Jvm.Cond.eq t (.int n)).value args s none s [] = some true) : t.eval args s none [] s = some (.int n) := by
  obtain ⟨x, y, hx, hy, k1, -⟩ := cmp_v (Or.inl h)
  have hy' : (Term.int n).eval args s none [] s = some (.int n) := Term.int_eval n
  have e : y = .int n := Option.some.inj (hy.symm.trans hy')
  subst e
  cases x <;> simp [Kin, Value.isRef] at k1
  rw [gotT (Cond.eq_ints hx hy') h] at hx
  exact hx
theorem putC (X : Stand p l e R s m args below meth c T locs cells slots) (hx : p.tables.exec = Jvm.exec) (hZ : Z.Warmed39 s.vm) (eT : T.heap = h) {b : Addr} {kB : ClassId} {nB : Int32} {vB : List Value} {dB : Value} (B : Arv Z h b kB .char nB vB dB) {j x : Int32} {i : Nat} (hn : nar .char x = x) (hj : ¬ j < 0 ∧ j < nB) (hi : j.toNatClampNeg = i) (hl : i < vB.length) (hg : g.method = m) (hs : g.stack = .int x :: .int j :: .ref b :: rest) (hd : decode c.code g.pc = .ok (.castore, 1)) :
    ∃ T' h', Stand p l e R s m args below meth c T' (locs ++ [⟨b, j.toNatClampNeg⟩]) cells slots ∧ T'.heap = h' ∧ Wr h h' b j.toNatClampNeg (.int x) ∧ Arv Z h' b kB .char nB (vB.set i (.int x)) dB ∧ ∀ t, Steps p.tables e below (T'.setTop { g with pc := g.pc + 1, stack := rest }) t → Steps p.tables e below (T.setTop g) t := by
  obtain ⟨cl, A, q1, S1, M1, H1, G1⟩ := B
  obtain ⟨T', h', X', e', W, st⟩ := stC X hx hZ eT A (inb_of S1 hj) hg hs hd
  rw [hn] at W
  exact ⟨T', h', X', e', W, Arv.set A q1 S1 M1 H1 G1 (by rw [← hn]; exact fits_nar_char _) W i hi hl, st⟩
theorem getC (X : Stand p l e R s m args below meth c T locs cells slots) (hx : p.tables.exec = Jvm.exec) (hZ : Z.Warmed39 s.vm) (eT : T.heap = h) {b : Addr} {kB : ClassId} {nB : Int32} {vB : List Value} {dB v : Value} (B : Arv Z h b kB .char nB vB dB) {j : Int32} (hj : ¬ j < 0 ∧ j < nB) (hv : vB.getD j.toNatClampNeg dB = v) (hg : g.method = m) (hs : g.stack = .int j :: .ref b :: rest) (hd : decode c.code g.pc = .ok (.caload, 1)) {t : State} (hr : Steps p.tables e below (T.setTop { g with pc := g.pc + 1, stack := v :: rest }) t) : Steps p.tables e below (T.setTop g) t := by
  obtain ⟨cl, A, q1, S1, M1, H1, G1⟩ := B
  have hin := inb_of S1 hj
  exact X.caload hx (j := j) (v := v) (by rw [eT]; exact A.1) (State.isArrayOf_alike hZ.alike A.2.1) A.2.2 hin (Has.at H1 hin hv) hg hs hd _ hr
theorem narc (x : Int32) : nar .char x.toUInt32.toUInt16.toUInt32.toInt32 = x.toUInt32.toUInt16.toUInt32.toInt32 := by
  have h1 := c_i2c x
  have h2 := c_i2c x.toUInt32.toUInt16.toUInt32.toInt32
  apply Int32.toInt_inj.mp
  show (x.toUInt32.toUInt16.toUInt32.toInt32).toUInt32.toUInt16.toUInt32.toInt32.toInt = _
  omega
end Own
end Jvm.Pilot.@@N@@
namespace Jvm.Pilot.@@N@@
open Jvm Jvm.ClassFile Sem Op Lib Jvm.Free Jvm.Stand Jvm.LawKit Jvm.RoadKit Bundle Jvm.Pilot.@@N@@.Jvm.D
theorem allI {P : Int32 → Prop} {y : Int32} {L : List Int32} (q : P y) (r : ∀ x ∈ L, P x) : ∀ x ∈ y :: L, P x := fun x z => (List.mem_cons.mp z).elim (fun u => u ▸ q) (r x)
theorem own_sub {L : List Jvm.Cond} {a0 : Array Value} {Z : State} (hs : ∀ d ∈ L, d ∈ tables_1) (hw : ∀ d ∈ tables_1, d.before a0 Z = true) : ∀ d ∈ L, d.before a0 Z = true := fun d hd => hw d (hs d hd)
set_option maxRecDepth 65536 in
theorem StrChars_wordsLen : ∀ d ∈ StrChars.Road.wordsLen, d ∈ tables_1 := by decide +kernel
set_option maxRecDepth 65536 in
theorem StrChars_wordsChN : ∀ d ∈ StrChars.Road.wordsChN, d ∈ tables_1 := by decide +kernel
set_option maxRecDepth 65536 in
theorem StrChars_wordsEq : ∀ d ∈ StrChars.Road.wordsEq, d ∈ tables_1 := by decide +kernel
end Jvm.Pilot.@@N@@
namespace Jvm.Pilot.@@N@@
open Jvm Jvm.ClassFile Sem Op Lib Jvm.Free Jvm.Stand Jvm.LawKit Jvm.RoadKit Bundle Jvm.Pilot.@@N@@.Jvm.D
section OwnW
variable {p : Program} {l : Launch} {e : Env} {R : Room} {s : State} {vm0 : Vm} {k0 : Nat} {m : MethodId} {args : Array Value} {below : List Frame} {meth : Method} {c : Code} {T : State} {locs : List Loc} {cells slots : Nat} {Z : State} {a0 : Array Value} {h : Heap} {EL : List (String × Nat)}
/-- the end of a body that may intern -/
def EndW (Z : State) (EL : List (String × Nat)) (s : State) (below : List Frame) (Q : Option Value → Heap → List Loc → Prop) (kc ks : Nat) (s₂ : State) (o : Outcome) : Prop :=
  s₂.status = .running ∧ Ended s₂ below o ∧ ∃ v L, o = .returned v ∧ Q v s₂.heap L ∧ CHr Z EL s.vm s.heap s₂.vm s₂.heap ∧ ReturnedEndW s o s₂ L kc ks
variable {Q : Option Value → Heap → List Loc → Prop} {kc ks : Nat}
theorem finGW {g : JFrame} (X : Stand p l e R (s.setVm vm0) m args below meth c T locs cells slots) (hk : meth.locks = false) (hS : s.Since vm0 k0) (hkS : k0 ≤ h.size) (hZ : Z.Warmed39 vm0) (hEL : EW Z a0 EL) (hC : CHr Z EL s.vm s.heap vm0 h) (eT : T.heap = h) (v : Option Value) (hv : meth.sig.returnType = none → v = none)
    (st : ∀ fs, (∀ (f : JFrame) (acts : List Action), f.method = m → f.locked = none → f.entered = [] → (doReturn e (T.setTop f) acts v).1 = T.setFrames fs) → Steps p.tables e below (T.setTop g) (T.setFrames fs))
    (hc : cells ≤ kc) (hs : slots ≤ ks) (hQ : Q v h locs) : Goes p.tables e below (EndW Z EL s below Q kc ks) (T.setTop g) := by
  subst eT
  obtain ⟨fs, hr, hrun, hended, hW⟩ := X.leaveW hS hkS (v := v) hv hk
  have q : CHr Z EL s.vm s.heap T.vm T.heap := hC.trans (CHv.at X hZ hEL hC.1)
  exact ⟨_, _, st fs hr, hrun, hended, v, locs, rfl, hQ, q, hW.1, hW.2.1, hW.2.2.1, hW.2.2.2.mono hc hs⟩
theorem finVW (X : Stand p l e R (s.setVm vm0) m args below meth c T locs cells slots) (hx : p.tables.exec = Jvm.exec) (hk : meth.locks = false) (hret : meth.sig.returnType = none) (hS : s.Since vm0 k0) (hkS : k0 ≤ h.size) (hZ : Z.Warmed39 vm0) (hEL : EW Z a0 EL) (hC : CHr Z EL s.vm s.heap vm0 h) (eT : T.heap = h) {pc : Nat} {Ls : Array Slot} (hd : decode c.code pc = .ok (.return_, 1)) (hc : cells ≤ kc) (hs : slots ≤ ks) (hQ : Q none h locs) :
    Goes p.tables e below (EndW Z EL s below Q kc ks) (T.setTop (mkF m pc Ls [])) := finGW X hk hS hkS hZ hEL hC eT none (fun _ => rfl) (fun _ hr => X.returnOut hx hret hd hr) hc hs hQ
theorem finIW (X : Stand p l e R (s.setVm vm0) m args below meth c T locs cells slots) (hx : p.tables.exec = Jvm.exec) (hk : meth.locks = false) (hret : meth.sig.returnType = some .int) (hS : s.Since vm0 k0) (hkS : k0 ≤ h.size) (hZ : Z.Warmed39 vm0) (hEL : EW Z a0 EL) (hC : CHr Z EL s.vm s.heap vm0 h) (eT : T.heap = h) {pc : Nat} {Ls : Array Slot} {z : Int32} {rest : List Value} (hd : decode c.code pc = .ok (.ireturn, 1)) (hc : cells ≤ kc) (hs : slots ≤ ks) (hQ : Q (some (.int z)) h locs) :
    Goes p.tables e below (EndW Z EL s below Q kc ks) (T.setTop (mkF m pc Ls (.int z :: rest))) := finGW X hk hS hkS hZ hEL hC eT _ (fun q => by rw [hret] at q; cases q) (fun _ hr => retI X hx hret hd hr) hc hs hQ
theorem finNW (X : Stand p l e R (s.setVm vm0) m args below meth c T locs cells slots) (hx : p.tables.exec = Jvm.exec) (hk : meth.locks = false) {t : FieldType} (hret : meth.sig.returnType = some t) (ht : t = .boolean ∨ t = .byte ∨ t = .char ∨ t = .short) (hS : s.Since vm0 k0) (hkS : k0 ≤ h.size) (hZ : Z.Warmed39 vm0) (hEL : EW Z a0 EL) (hC : CHr Z EL s.vm s.heap vm0 h) (eT : T.heap = h) {pc : Nat} {Ls : Array Slot} {z : Int32} {rest : List Value} (hd : decode c.code pc = .ok (.ireturn, 1)) (hc : cells ≤ kc) (hs : slots ≤ ks) (hQ : Q (some (.int (nar t z))) h locs) :
    Goes p.tables e below (EndW Z EL s below Q kc ks) (T.setTop (mkF m pc Ls (.int z :: rest))) := finGW X hk hS hkS hZ hEL hC eT _ (fun q => by rw [hret] at q; cases q) (fun _ hr => retN X hx hret ht hd hr) hc hs hQ
theorem finRW (X : Stand p l e R (s.setVm vm0) m args below meth c T locs cells slots) (hx : p.tables.exec = Jvm.exec) (hk : meth.locks = false) {t : FieldType} (hret : meth.sig.returnType = some t) (ht : t.isReference = true) {w : Value} (hw : w.isRef = true) (hS : s.Since vm0 k0) (hkS : k0 ≤ h.size) (hZ : Z.Warmed39 vm0) (hEL : EW Z a0 EL) (hC : CHr Z EL s.vm s.heap vm0 h) (eT : T.heap = h) {pc : Nat} {Ls : Array Slot} (hd : decode c.code pc = .ok (.areturn, 1)) (hc : cells ≤ kc) (hs : slots ≤ ks) (hQ : Q (some w) h locs) :
    Goes p.tables e below (EndW Z EL s below Q kc ks) (T.setTop (mkF m pc Ls [w])) := finGW X hk hS hkS hZ hEL hC eT _ (fun q => by rw [hret] at q; cases q) (fun _ hr => X.areturnOut hx hw hret ht hd hr) hc hs hQ
theorem bodyOfW {xs : List Addr} {y : MethodName} {bytes : ByteArray} {maxL : Nat} {ret : Option FieldType} {ws : List Jvm.Cond} {rm : Room} {as' : Array Value} {Ls : Array Slot} {h0 : Heap}
    (pn : plainFor y = true) (ef : ∀ m, entryFrame m as' maxL = mkF m 0 Ls [])
    (body : ∀ (p : Program) (e : Env) (s : State) (m : MethodId) (below : List Frame) (meth : Method) (c : Code) (T : State), Stand p l e rm (s.setVm s.vm) m as' below meth c T [] 0 0 → p.tables.exec = Jvm.exec → c.code = bytes → c.maxLocals = maxL →
      s.vm.findClass y.cls = some m.cls → meth.name = y.name → meth.sig.returnType = ret → meth.locks = false → Z.Warmed39 s.vm → T.heap = h0 → s.Since s.vm h0.size → CHr Z EL s.vm s.heap s.vm h0 → (∀ x ∈ xs, Safe Z EL s.vm h0 x) → Goes p.tables e below (EndW Z EL s below Q rm.cells rm.slots) (T.setTop (mkF m 0 Ls []))) :
    MetFree l y (head1 (Jvm.Cond.code y bytes maxL ret :: ws) rm) (fun a U => a = as' ∧ Z.Warmed39 U.vm ∧ U.heap = h0 ∧ CHv Z EL U.vm h0 ∧ ∀ x ∈ xs, Safe Z EL U.vm h0 x) (fun _ _ _ _ _ => True) (fun _ U o U' => ∃ v L, o = .returned v ∧ Q v U'.heap L ∧ CHr Z EL U.vm U.heap U'.vm U'.heap ∧ ReturnedEndW U o U' L rm.cells rm.slots) := by
  refine MetFree.of_bodySF pn hisR ?_
  intro p e s m args below meth c s₁ Bd hml0 hP hK
  obtain ⟨rfl, hZ, hh, hH, hsf⟩ := hP
  have e0 : s₁.heap = h0 := by rw [← hh, Bd.state]; rfl
  have hC : CHr Z EL s.vm s.heap s.vm h0 := by rw [hh]; exact CHr.refl hH
  obtain ⟨s₂, o, st, hrun, hend, hq⟩ := body p e s m below meth c s₁ (Stand.of_body Bd) Bd.exec Bd.bytes hml0 (findClass_of_methodNamed Bd.named) (name_of_methodNamed Bd.named Bd.method).1 Bd.returns Bd.notSynchronized hZ e0 ((State.WarmedH.refl s).since _) hC hsf
  exact ⟨s₂, o, castTop (ef m) st, hrun, hend, hq⟩
variable {y z : MethodName} {own C : String} {index W len : Nat} {bytes : ByteArray} {maxL : Nat} {ret : Option FieldType} {as' : Array Value} {argsL rest : List Value} {g : JFrame}
/-- what pays a call of a body that may intern; xs: cells that no booked String has -/
theorem backW {rm : Room} {xs : List Addr}
    (hM : MetFree l y (head1 [Jvm.Cond.code y bytes maxL ret] rm) (fun a U => a = as' ∧ Z.Warmed39 U.vm ∧ U.heap = h ∧ CHv Z EL U.vm h ∧ ∀ x ∈ xs, Safe Z EL U.vm h x) (fun _ _ _ _ _ => True) (fun _ U o U' => ∃ v L, o = .returned v ∧ Q v U'.heap L ∧ CHr Z EL U.vm U.heap U'.vm U'.heap ∧ ReturnedEndW U o U' L rm.cells rm.slots))
    (hZ : Z.Warmed39 vm0) (wc : (Jvm.Cond.code y bytes maxL ret).before a0 Z = true) (wz : (Jvm.Cond.initialized y.cls).before a0 Z = true) (hf : rm.frames + 1 ≤ R.frames) (hl : W + (maxL + 11) + rm.locals ≤ R.locals) (hEL : EW Z a0 EL) (H : CHv Z EL vm0 h) (hsf : ∀ x ∈ xs, Safe Z EL vm0 h x ∧ x < h.size) :
    BackS l R p e below (s.setVm vm0) args y len W (fun A a => a = as' ∧ A.U.heap = h ∧ A.cells + rm.cells ≤ R.cells ∧ A.slots + rm.slots ≤ R.slots)
      (fun A _ v B => ∃ L, Q v B.U.heap L ∧ B.locs = A.locs ++ L ∧ B.cells = A.cells + rm.cells ∧ B.slots = A.slots + rm.slots ∧ CHr Z EL vm0 h B.U.vm B.U.heap) := by
  refine BackS.of_freeW (bytes := bytes) (maxL := maxL) (ret := ret) (E := fun _ first o t L k n => k = rm.cells ∧ n = rm.slots ∧ (∃ v, o = .returned v ∧ Q v t.heap L) ∧ CHr Z EL first.vm first.heap t.vm t.heap) hM hf hl ?_ ?_ (fun _ _ _ _ _ _ _ _ _ => trivial) ?_ ?_
  · intro m meth c A a Y hp
    have hU : Z.Warmed39 A.U.vm := wtrans (s := s.setVm vm0) hZ Y.warmed
    exact ⟨by show (Jvm.Cond.and _ .tt).before a A.U = true; rw [Cond.before_and, mv hU wc]; rfl, mv hU wc, mv hU wz, hp.2.2.1, hp.2.2.2⟩
  · intro m meth c A a g mk Y hp
    have hC := CHv.at Y hZ hEL H
    exact ⟨hp.1, wtrans (s := s.setVm vm0) hZ Y.warmed, hp.2.1, hC.1, fun x hx => hC.safe (hsf x hx).2 (hsf x hx).1⟩
  · rintro a first o t ⟨v, L, h1, h2, h3, h4⟩
    exact ⟨L, _, _, h4, rfl, rfl, ⟨v, h1, h2⟩, h3⟩
  · rintro m meth c A a g mk v t L k n Y hp _ _ ⟨e1, e2, ⟨v', e3, e4⟩, e5⟩
    cases e3
    subst e1 e2
    refine ⟨L, e4, rfl, rfl, rfl, (CHv.at Y hZ hEL H).trans ?_⟩
    rw [← hp.2.1]; exact e5
theorem callStW (X : Stand p l e R (s.setVm vm0) m args below meth c T locs cells slots) (hx : p.tables.exec = Jvm.exec) (hZ : Z.Warmed39 vm0) (hown : vm0.findClass own = some m.cls)
    (w1 : (Jvm.Cond.methodLink own index y).before a0 Z = true) (w2 : (Jvm.Cond.static y).before a0 Z = true) (w3 : (Jvm.Cond.initialized y.cls).before a0 Z = true) (w4 : (Jvm.Cond.code y bytes maxL ret).before a0 Z = true)
    (hy : y.cls ≠ "java/lang/invoke/MethodHandle" ∧ y.cls ≠ "java/lang/invoke/VarHandle")
    (hB : BackS l R p e below (s.setVm vm0) args y 3 W (fun A a => a = argsL.toArray ∧ A.U.heap = h ∧ A.cells + kc ≤ R.cells ∧ A.slots + ks ≤ R.slots) (fun A _ v B => ∃ L, Q v B.U.heap L ∧ B.locs = A.locs ++ L ∧ B.cells = A.cells + kc ∧ B.slots = A.slots + ks ∧ CHr Z EL vm0 h B.U.vm B.U.heap))
    (hg : g.method = m) (hsize : g.locals.size = c.maxLocals) (hlen : ∀ sig, parseMethodDescriptor y.desc = some sig → argsL.length = sig.parameters.length) (hstack : g.stack = argsL.reverse ++ rest) (hW : 2 * g.monitorRoom + (rest.map fun v => v.category).sum ≤ W)
    (hd : decode c.code g.pc = .ok (.invokestatic index, 3)) (eT : T.heap = h) (hc : cells + kc ≤ R.cells) (hs : slots + ks ≤ R.slots) (hS : s.Since vm0 k0) (hkS : k0 ≤ h.size) :
    ∃ v T' L, Stand p l e R (s.setVm T'.vm) m args below meth c T' (locs ++ L) (cells + kc) (slots + ks) ∧ Q v T'.heap L ∧ s.Since T'.vm T'.heap.size ∧ Z.Warmed39 T'.vm ∧ T'.vm.findClass own = some m.cls ∧ CHr Z EL vm0 h T'.vm T'.heap ∧ ∀ t, Steps p.tables e below (T'.setTop { g with pc := g.pc + 3, stack := v.toList ++ rest }) t → Steps p.tables e below (T.setTop g) t := by
  obtain ⟨v, _, ⟨T1, L1, k1, n1⟩, -, X1, h2, hgr, ⟨L, hQ, hl, hk, hn, hC⟩, st⟩ := callSS X hx (s := s.setVm vm0) hown (mvT (s := s.setVm vm0) hZ w1) (mvT (s := s.setVm vm0) hZ w2) (mvT (s := s.setVm vm0) hZ w3) (mvT (s := s.setVm vm0) hZ w4) hy hB hg hsize hlen hstack hW hd (fun _ _ => ⟨rfl, eT, hc, hs⟩)
  dsimp only [Pt.U, Pt.locs, Pt.cells, Pt.slots] at X1 hl hk hn st hQ h2 hgr hC
  subst hl hk hn
  obtain ⟨X2, hS2, hZ2, hown2⟩ := rebS hS hkS X1 h2 (by rw [← eT]; exact hgr) hZ hown
  exact ⟨v, T1, L, X2, hQ, hS2, hZ2, hown2, hC, fun t k => st.trans k⟩
theorem callSpW {a : Addr} (X : Stand p l e R (s.setVm vm0) m args below meth c T locs cells slots) (hx : p.tables.exec = Jvm.exec) (hZ : Z.Warmed39 vm0) (hy1 : y.name = "<init>") (hown : vm0.findClass own = some m.cls)
    (w1 : (Jvm.Cond.methodLink own index y).before a0 Z = true) (w2 : (Jvm.Cond.instanceMethod y).before a0 Z = true) (w4 : (Jvm.Cond.code y bytes maxL none).before a0 Z = true)
    (hy : y.cls ≠ "java/lang/invoke/MethodHandle" ∧ y.cls ≠ "java/lang/invoke/VarHandle")
    (hB : BackS l R p e below (s.setVm vm0) args y 3 W (fun A b => b = (Value.ref a :: argsL).toArray ∧ A.U.heap = h ∧ A.cells + kc ≤ R.cells ∧ A.slots + ks ≤ R.slots) (fun A _ v B => ∃ L, Q v B.U.heap L ∧ B.locs = A.locs ++ L ∧ B.cells = A.cells + kc ∧ B.slots = A.slots + ks ∧ CHr Z EL vm0 h B.U.vm B.U.heap))
    (hg : g.method = m) (hsize : g.locals.size = c.maxLocals) (hlen : ∀ sig, parseMethodDescriptor y.desc = some sig → argsL.length = sig.parameters.length) (hstack : g.stack = argsL.reverse ++ .ref a :: rest) (hW : 2 * g.monitorRoom + (rest.map fun v => v.category).sum ≤ W)
    (hd : decode c.code g.pc = .ok (.invokespecial index, 3)) (eT : T.heap = h) (hc : cells + kc ≤ R.cells) (hs : slots + ks ≤ R.slots) (hS : s.Since vm0 k0) (hkS : k0 ≤ h.size) :
    ∃ v T' L, Stand p l e R (s.setVm T'.vm) m args below meth c T' (locs ++ L) (cells + kc) (slots + ks) ∧ Q v T'.heap L ∧ s.Since T'.vm T'.heap.size ∧ Z.Warmed39 T'.vm ∧ T'.vm.findClass own = some m.cls ∧ CHr Z EL vm0 h T'.vm T'.heap ∧ ∀ t, Steps p.tables e below (T'.setTop { g with pc := g.pc + 3, stack := v.toList ++ rest }) t → Steps p.tables e below (T.setTop g) t := by
  obtain ⟨v, _, ⟨T1, L1, k1, n1⟩, -, X1, h2, hgr, ⟨L, hQ, hl, hk, hn, hC⟩, st⟩ := X.specialBackS hx hy1 hown (mvT (s := s.setVm vm0) hZ w1) (mvT (s := s.setVm vm0) hZ w2) (mvT (s := s.setVm vm0) hZ w4) hy hB hg hsize (Steps.refl _) hlen hstack hW hd (fun _ _ => ⟨rfl, eT, hc, hs⟩)
  dsimp only [Pt.U, Pt.locs, Pt.cells, Pt.slots] at X1 hl hk hn st hQ h2 hgr hC
  subst hl hk hn
  obtain ⟨X2, hS2, hZ2, hown2⟩ := rebS hS hkS X1 h2 (by rw [← eT]; exact hgr) hZ hown
  exact ⟨v, T1, L, X2, hQ, hS2, hZ2, hown2, hC, fun t k => st.trans k⟩
theorem callVW {a : Addr} (X : Stand p l e R (s.setVm vm0) m args below meth c T locs cells slots) (hx : p.tables.exec = Jvm.exec) (hZ : Z.Warmed39 vm0) (hown : vm0.findClass own = some m.cls)
    (w1 : (Jvm.Cond.methodLink own index y).before a0 Z = true) (w2 : (Jvm.Cond.declares y).before a0 Z = true) (nf : NotFace (s.setVm vm0) y) (w3 : (Jvm.Cond.selects C y z).before a0 Z = true) (w4 : (Jvm.Cond.instanceMethod z).before a0 Z = true)
    (hy : y.cls ≠ "java/lang/invoke/MethodHandle" ∧ y.cls ≠ "java/lang/invoke/VarHandle")
    (hB : BackS l R p e below (s.setVm vm0) args z 3 W (fun A b => b = (Value.ref a :: argsL).toArray ∧ A.U.heap = h ∧ A.cells + kc ≤ R.cells ∧ A.slots + ks ≤ R.slots) (fun A _ v B => ∃ L, Q v B.U.heap L ∧ B.locs = A.locs ++ L ∧ B.cells = A.cells + kc ∧ B.slots = A.slots + ks ∧ CHr Z EL vm0 h B.U.vm B.U.heap))
    (E : Exa Z h a C) (hg : g.method = m) (hsize : g.locals.size = c.maxLocals) (hlen : ∀ sig, parseMethodDescriptor y.desc = some sig → argsL.length = sig.parameters.length) (hstack : g.stack = argsL.reverse ++ .ref a :: rest) (hW : 2 * g.monitorRoom + (rest.map fun v => v.category).sum ≤ W)
    (hd : decode c.code g.pc = .ok (.invokevirtual index, 3)) (eT : T.heap = h) (hc : cells + kc ≤ R.cells) (hs : slots + ks ≤ R.slots) (hS : s.Since vm0 k0) (hkS : k0 ≤ h.size) :
    ∃ v T' L, Stand p l e R (s.setVm T'.vm) m args below meth c T' (locs ++ L) (cells + kc) (slots + ks) ∧ Q v T'.heap L ∧ s.Since T'.vm T'.heap.size ∧ Z.Warmed39 T'.vm ∧ T'.vm.findClass own = some m.cls ∧ CHr Z EL vm0 h T'.vm T'.heap ∧ ∀ t, Steps p.tables e below (T'.setTop { g with pc := g.pc + 3, stack := v.toList ++ rest }) t → Steps p.tables e below (T.setTop g) t := by
  obtain ⟨cq, kq, qa, qb, qc⟩ := isOf (s := s.setVm vm0) hZ eT E
  obtain ⟨v, _, ⟨T1, L1, k1, n1⟩, -, X1, h2, hgr, ⟨L, hQ, hl, hk, hn, hC⟩, st⟩ := X.virtualBackS hx hown (mvT (s := s.setVm vm0) hZ w1) (mvT (s := s.setVm vm0) hZ w2) nf (mvT (s := s.setVm vm0) hZ w3) (mvT (s := s.setVm vm0) hZ w4) hy hB qa qc hg hsize (Steps.refl _) hlen hstack hW hd (fun _ _ => ⟨rfl, eT, hc, hs⟩)
  dsimp only [Pt.U, Pt.locs, Pt.cells, Pt.slots] at X1 hl hk hn st hQ h2 hgr hC
  subst hl hk hn
  obtain ⟨X2, hS2, hZ2, hown2⟩ := rebS hS hkS X1 h2 (by rw [← eT]; exact hgr) hZ hown
  exact ⟨v, T1, L, X2, hQ, hS2, hZ2, hown2, hC, fun t k => st.trans k⟩
theorem safeArv {vm : Vm} {x : Addr} {k : ClassId} {ty : FieldType} {n : Int32} {vs : List Value} {d : Value} (hal : Z.vm.Alike vm) (V : Arv Z h x k ty n vs d) (ht : ty ≠ .byte) : Safe Z EL vm h x := by
  obtain ⟨_, A, -⟩ := V
  exact Safe.arr hal A ht
end OwnW
end Jvm.Pilot.@@N@@
namespace Jvm.Pilot.@@N@@
open Jvm Jvm.ClassFile Sem Op Lib Jvm.Free Jvm.Stand Jvm.LawKit Jvm.RoadKit Bundle Jvm.Pilot.@@N@@.Jvm.D
theorem cloneR {p : Program} {l : Launch} {e : Env} {R : Room} {s : State} {m : MethodId} {args : Array Value} {below : List Frame} {meth : Method} {c : Code} {T : State} {locs : List Loc} {cells slots : Nat} {Z : State} {a0 : Array Value} {h : Heap} {own ad : String} {index W cap : Nat}
    (X : Stand p l e R s m args below meth c T locs cells slots) (hx : p.tables.exec = Jvm.exec) (hZ : Z.Warmed39 s.vm) (hown : s.vm.findClass own = some m.cls)
    (w1 : (Jvm.Cond.methodLink own index ⟨ad, "clone", "()Ljava/lang/Object;"⟩).before a0 Z = true) (w2 : (Jvm.Cond.sameMethod ad "java/lang/Object" "clone" "()Ljava/lang/Object;").before a0 Z = true)
    (w3 : (Jvm.Cond.native ⟨"java/lang/Object", "clone", "()Ljava/lang/Object;"⟩).before a0 Z = true) (w4 : (Jvm.Cond.instanceMethod ⟨"java/lang/Object", "clone", "()Ljava/lang/Object;"⟩).before a0 Z = true)
    (w5 : (Jvm.Cond.selects ad ⟨ad, "clone", "()Ljava/lang/Object;"⟩ ⟨"java/lang/Object", "clone", "()Ljava/lang/Object;"⟩).before a0 Z = true) (w6 : (Jvm.Cond.castable ad "java/lang/Cloneable").before a0 Z = true)
    (eT : T.heap = h) {a : Addr} {k : ClassId} {ty : FieldType} {n : Int32} {vs : List Value} {d : Value} (A : Arv Z h a k ty n vs d) (E : Exa Z h a ad)
    {g : JFrame} (hg : g.method = m) (hsize : g.locals.size = c.maxLocals) {rest : List Value} (hstack : g.stack = .ref a :: rest) (hd : decode c.code g.pc = .ok (.invokevirtual index, 3)) (hf : 1 ≤ R.frames) (hW : 2 * g.monitorRoom + (rest.map fun v => v.category).sum ≤ W) (hl : W + 14 ≤ R.locals) (hn : n.toNatClampNeg ≤ cap) (hc : cells + 1 ≤ R.cells) (hs : slots + cap ≤ R.slots) :
    ∃ T' h', Stand p l e R s m args below meth c T' locs (cells + 1) (slots + cap) ∧ T'.heap = h' ∧ Ext h h' ∧ Arv Z h' h.size k ty n vs d ∧ Exa Z h' h.size ad ∧
      ∀ t, Steps p.tables e below (T'.setTop { g with pc := g.pc + 3, stack := .ref h.size :: rest }) t → Steps p.tables e below (T.setTop g) t := by
  obtain ⟨cell, A1, rfl, S1, M1, H1, G1⟩ := A
  obtain ⟨cq, cT, i1, i2, i3⟩ := Ins.of_exa E w6
  obtain ⟨cell', k', e1, e2, e3, e4, e5⟩ := E
  cases A1.1.symm.trans e1
  cases A1.1.symm.trans i1
  subst eT
  have hal := hZ.alike
  have q1 := State.isArrayOf_alike hal A1.2.1
  have q2 := State.isArrayOf_alike X.warmed.alike q1
  obtain ⟨ks, hks, comps, hks2⟩ := q1.2
  obtain ⟨kT, hkT, compT, hkT2⟩ := q2.2
  have i3' : Z.vm.assignable cell.cls cT = true := by
    cases hv : cell.vm.isStatics <;> simp [hv] at i3
    exact i3
  obtain ⟨vm', X', st⟩ := X.cloneArray hx hown (mvT hZ w1) (mvT hZ w2) (mvT hZ w3) (mvT hZ w4) (mvT hZ w5) (a := a) (cell := cell) (cC := cT) A1.1 A1.2.1.1 A1.2.2 (by rw [hal.findClass]; exact e2) (by rw [hal.findClass]; exact i2) (by rw [hal.assignable]; exact i3')
    (fun i v hv => by
      have hi : i < cell.slots.size := (Array.getElem?_eq_some_iff.mp hv).1
      have ev : v = vs.getD i d := Option.some.inj (hv.symm.trans (H1 i hi))
      have hfit := G1 i hi
      rw [← ev] at hfit
      simpa [State.fitsSlot, State.slotType?, hkT, hkT2] using hfit)
    hg hsize hstack hd hf (by omega) hc (by omega) (Vm.clonesLoader_of_array hks hks2)
  refine ⟨_, _, X'.more (Nat.le_refl _) (by omega), rfl, ⟨by show T.heap.size ≤ (T.heap.push _).size; simp, fun b cb hb => ?_⟩, ⟨{ cls := cell.cls, slots := cell.slots }, ⟨by show (T.heap.push _)[T.heap.size]? = _; simp, ⟨by simp, A1.2.1.2⟩, by simp⟩, rfl, S1, M1, H1, G1⟩, ⟨{ cls := cell.cls, slots := cell.slots }, k', by show (T.heap.push _)[T.heap.size]? = _; simp, e2, e3, rfl, e5⟩, st⟩
  show (T.heap.push _)[b]? = _
  rw [Array.getElem?_push_lt (Array.getElem?_eq_some_iff.mp hb).1]; exact (Array.getElem?_eq_getElem _).symm.trans hb
end Jvm.Pilot.@@N@@
namespace Jvm.Pilot.@@N@@
open Jvm Jvm.ClassFile Sem Op Lib Jvm.Free Jvm.Stand Jvm.LawKit Jvm.RoadKit Bundle Jvm.Pilot.@@N@@.Jvm.D
section StartX
variable {args : Array Value} {Z : State} {t : Term}
theorem eqRef_v {b : Term} {x : Addr} (hb : b.eval args Z none [] Z = some (.ref x)) (h : (Jvm.Cond.eq t b).value args Z none Z [] = some true) : t.eval args Z none [] Z = some (.ref x) := by
  cases ha : t.eval args Z none [] Z with
  | none => simp [Cond.value, ha] at h
  | some y => cases y <;> simp_all [Cond.value, ha, hb, Value.isRef]
theorem eqNull_v (h : (Jvm.Cond.eq t .null).value args Z none Z [] = some true) : t.eval args Z none [] Z = some .null := by
  have hb : (Term.null).eval args Z none [] Z = some .null := rfl
  cases ha : t.eval args Z none [] Z with
  | none => simp [Cond.value, ha] at h
  | some y => cases y <;> simp_all [Cond.value, ha, hb, Value.isRef]
theorem arvStart {a : Addr} {ty : FieldType} {n : Int32} {vs : List Value} {d : Value} (hf : Fit Z) (ev : t.eval args Z none [] Z = some (.ref a)) (ha : (Jvm.Cond.arrayOf t ty).value args Z none Z [] = some true) (hl : (Jvm.Cond.eq (.length t) (.int n)).value args Z none Z [] = some true) (hn : ¬ n < 0) (hs : n.toNatClampNeg = vs.length)
    (he : ∀ c : Cell, (∀ j : Int32, ¬ j < 0 → (Term.elem t (.int j)).eval args Z none [] Z = c.slots[j.toNatClampNeg]?) → HasL c 0 vs) : ∃ k, Arv Z Z.heap a k ty n vs d := by
  obtain ⟨c, A⟩ := Arr.start ev ha
  have L := eqInt_v hl
  have fin := A.fin (U := Z) (Vm.Alike.refl _)
  obtain ⟨x, cl, e1, e2, e3⟩ := Term.length_spec L
  cases ev.symm.trans e1
  cases fin.symm.trans e2
  have q := SBG.length_lt ev fin L
  exact ⟨c.cls, Arv.start hf A q (by injection e3 with e3; exact e3.symm) hn hs (he c fun j hj => elem_f ev (Term.int_eval j) fin hj)⟩
end StartX
end Jvm.Pilot.@@N@@
namespace Jvm.Pilot.@@N@@
open Jvm Jvm.ClassFile Sem Op Lib Jvm.Free Jvm.Stand Jvm.LawKit Jvm.RoadKit Bundle Jvm.Pilot.@@N@@.Jvm.D
theorem own_EW {a0 : Array Value} {Z : State} (hw : ∀ d ∈ tables_1, d.before a0 Z = true) : EW Z a0 consts_1 := (EW.cons (ww hw 1 rfl) (by decide) (EW.cons (ww hw 144 rfl) (by decide) (EW.cons (ww hw 123 rfl) (by decide) (EW.cons (ww hw 121 rfl) (by decide) (EW.cons (ww hw 165 rfl) (by decide) EW.nil)))))
set_option maxRecDepth 65536 in
theorem own_strAtoms : ∀ d ∈ Bundle.stringAtoms, d ∈ tables_1 := by decide +kernel
theorem safeBlank {Z : State} {EL : List (String × Nat)} {vm : Vm} {h : Heap} {x : Addr} (hal : Z.vm.Alike vm) (E : Exa Z h x "java/lang/String") (F : Fld Z h x "java/lang/String" "value" "[B" .null) : Safe Z EL vm h x := fun B => by
  obtain ⟨cell, k, e1, e2, e3, -, -⟩ := E
  obtain ⟨p, -, u, a, -, q, -, G, rfl | rfl⟩ := B
  · obtain ⟨cell', cf, kf, i, f, g1, g2, -, -, -, -, g7⟩ := F
    cases e1.symm.trans g1
    cases (show h[q.sa]? = some q.sC from G.ha).symm.trans e1
    obtain ⟨cS, ⟨⟨-, -, -, ⟨c1, k1, i1, f1, -⟩, -, -, -, v1, -⟩, -⟩, -⟩ := G
    obtain ⟨k3, e5, -⟩ := State.fieldFound?_setVm (s := Z) hal g2
    have e4 := (show (Wst Z vm h).fieldFound? _ _ _ = _ from e5).symm.trans f1
    simp only [Option.some.injEq, Prod.mk.injEq] at e4
    rw [← e4.2.2.2, g7] at v1
    simp at v1
  · cases (show h[q.sd]? = some q.SA from G.hd).symm.trans e1
    obtain ⟨cS, -, -, f, -⟩ := G
    have f' : Z.vm.findClass "[B" = some q.SA.cls := by rw [← hal.findClass]; exact f
    obtain ⟨k1, q1, q2⟩ := Vm.findClass_spec f'
    obtain ⟨k2, q3, q4⟩ := Vm.findClass_spec e2
    cases q1.symm.trans q3
    exact absurd (q2.symm.trans q4) (by decide)
end Jvm.Pilot.@@N@@
namespace Jvm.Pilot.@@N@@
open Jvm Jvm.ClassFile Sem Op Lib Jvm.Free Jvm.Stand Jvm.LawKit Jvm.RoadKit Bundle Jvm.Pilot.@@N@@.Jvm.D
abbrev un : Slot := .unset
theorem leB {n m : Nat} (h : Nat.ble n m = true) : n ≤ m := Nat.le_of_ble_eq_true h
abbrev dd (c : ByteArray) (n : Nat) (i : Instr) (k : Nat) : Prop := decode c n = .ok (i, k)
/-- x is a String whose bytes, at t, spell the chars cs by the coder cd -/
def Str (Z : State) (h : Heap) (x t : Addr) (cd : Int32) (cs : List Int32) : Prop := ∃ (kb : ClassId) (N2 : Int32) (vs : List Value), Exa Z h x "java/lang/String" ∧ Fld Z h x "java/lang/String" "value" "[B" (.ref t) ∧ Fld Z h x "java/lang/String" "coder" "B" (.int cd) ∧ Arv Z h t kb .byte N2 vs (.int 0) ∧ StrChars.Road.CodA cs cd N2 vs ∧ (∀ c ∈ cs, ¬ c < 0 ∧ ¬ (65535 : Int32) < c) ∧ cs.length ≤ 4000
theorem own_codOf {cs : List Int32} {n : Nat} (hn : cs.length = n) (hb : ∀ c ∈ cs, ¬ (255 : Int32) < c) : StrChars.Road.CodA cs 0 (Int32.ofNat n) ((cs.map StrChars.lo8).map Value.int) := Or.inl ⟨rfl, by rw [hn], by simp [List.map_map, Function.comp_def], hb⟩
section StrF
variable {Z : State} {h h' : Heap} {x t a : Addr} {cd : Int32} {cs : List Int32} {sl : Nat} {v : Value} {ws : List Addr}
theorem Str.exa (F : Str Z h x t cd cs) : Exa Z h x "java/lang/String" := by obtain ⟨_, _, _, q, -⟩ := F; exact q
theorem Str.val (F : Str Z h x t cd cs) : Fld Z h x "java/lang/String" "value" "[B" (.ref t) := by obtain ⟨_, _, _, -, q, -⟩ := F; exact q
theorem Str.cod (F : Str Z h x t cd cs) : Fld Z h x "java/lang/String" "coder" "B" (.int cd) := by obtain ⟨_, _, _, -, -, q, -⟩ := F; exact q
theorem Str.lt1 (F : Str Z h x t cd cs) : x < h.size := F.exa.lt
theorem Str.lt2 (F : Str Z h x t cd cs) : t < h.size := by obtain ⟨_, _, _, -, -, -, q, -⟩ := F; exact q.lt
theorem Str.ext (F : Str Z h x t cd cs) (E : Ext h h') : Str Z h' x t cd cs := by obtain ⟨k, n, vs, a1, a2, a3, a4, r⟩ := F; exact ⟨k, n, vs, a1.ext E, a2.ext E, a3.ext E, a4.ext E, r⟩
theorem Str.keep (F : Str Z h x t cd cs) (K : Keep h h' ws) (q1 : x ∉ ws) (q2 : t ∉ ws) : Str Z h' x t cd cs := by obtain ⟨k, n, vs, a1, a2, a3, a4, r⟩ := F; exact ⟨k, n, vs, a1.keep K, a2.keep K q1, a3.keep K q1, a4.keep K q2, r⟩
theorem Str.wr (F : Str Z h x t cd cs) (W : Wr h h' a sl v) (q1 : x ≠ a) (q2 : t ≠ a) : Str Z h' x t cd cs := by obtain ⟨k, n, vs, a1, a2, a3, a4, r⟩ := F; exact ⟨k, n, vs, a1.wr W, Fld.other W a2 (Or.inl q1), Fld.other W a3 (Or.inl q1), a4.other W q2, r⟩
theorem Str.ne1 {b : Addr} {C : String} (F : Str Z h x t cd cs) (E : Exa Z h b C) (hC : "java/lang/String" ≠ C) : x ≠ b := F.exa.ne E hC
theorem Str.ne2 {b : Addr} {C : String} {n : Nat} {a0 : Array Value} (F : Str Z h x t cd cs) (E : Exa Z h b C) (w : (Jvm.Cond.instantiable C n).before a0 Z = true) : t ≠ b := by obtain ⟨_, _, _, -, -, -, q, -⟩ := F; exact Ne.symm (E.neArv q w)
end StrF
theorem up16 (cs : List Int32) (h : ∀ c ∈ cs, ¬ c < 0 ∧ ¬ (255 : Int32) < c) : ∀ c ∈ cs, ¬ c < 0 ∧ ¬ (65535 : Int32) < c := fun c hc => ⟨(h c hc).1, fun q => (h c hc).2 (by rw [Int32.lt_iff_toInt_lt] at q ⊢; have e1 : (65535 : Int32).toInt = 65535 := rfl; have e2 : (255 : Int32).toInt = 255 := rfl; omega)⟩
theorem oj_lt {i n : Nat} (h : i < n) (hn : n ≤ 8000) : Int32.ofNat i < Int32.ofNat n := (Int32.ofNat_lt_ofNat (by omega) (by omega)).mpr h
theorem oj_nlt {i n : Nat} (h : ¬ i < n) (hi : i ≤ 8000) (hn : n ≤ 8000) : ¬ Int32.ofNat i < Int32.ofNat n := fun q => h ((Int32.ofNat_lt_ofNat (by omega) (by omega)).mp q)
theorem oj_nn {n : Nat} (hn : n ≤ 8000) : ¬ Int32.ofNat n < 0 := Int32.ofNat_not_neg (by omega)
theorem oj_n {n : Nat} (hn : n ≤ 8000) : (Int32.ofNat n).toNatClampNeg = n := by
  rw [Int32.toNatClampNeg, Int32.toInt_ofNat_of_lt (by omega)]; rfl
theorem oj_inj {i n : Nat} (hi : i ≤ 8000) (hn : n ≤ 8000) (h : Int32.ofNat i = Int32.ofNat n) : i = n := by
  have := congrArg Int32.toNatClampNeg h
  rwa [oj_n hi, oj_n hn] at this
theorem oj_one (i : Nat) : Int32.ofNat i + (1 : Int32) = Int32.ofNat (i + 1) := (Int32.ofNat_add i 1).symm
theorem oj_in {c : Cell} {n i : Nat} {z : Int32} (S : c.slots.size = z.toNatClampNeg) (hz : z = Int32.ofNat n) (h : i < n) (hn : n ≤ 8000) : ¬ (Int32.ofNat i < 0 ∨ c.slots.size ≤ (Int32.ofNat i).toNatClampNeg) := by
  rw [S, hz, oj_n hn, oj_n (by omega)]
  exact fun q => q.elim (oj_nn (by omega)) (by omega)
theorem oj_dbl {n : Nat} (hn : n ≤ 4000) : (Int32.ofNat n) <<< ((1 : Int32) &&& 31) = Int32.ofNat (2 * n) := by
  have q := c_ishl (Int32.ofNat n) 1 1 (by decide)
  rw [Int32.toInt_ofNat_of_lt (by omega)] at q
  apply Int32.toInt_inj.mp
  rw [Int32.toInt_ofNat_of_lt (by omega)]
  have r := rng32 (Int32.ofNat n <<< ((1 : Int32) &&& 31))
  omega
theorem oj_half {n : Nat} (hn : n ≤ 4000) : (Int32.ofNat (2 * n)) >>> ((1 : Int32) &&& 31) = Int32.ofNat n := by
  have q := c_ishr (Int32.ofNat (2 * n)) 1 1 (by decide)
  rw [Int32.toInt_ofNat_of_lt (by omega)] at q
  apply Int32.toInt_inj.mp
  rw [Int32.toInt_ofNat_of_lt (by omega), q]
  omega
theorem oj_get (cs : List Int32) {i : Nat} (h : i < cs.length) (d : Value) : (cs.map Value.int).getD i d = .int (cs.getD i 0) := by
  simp [List.getD_eq_getElem?_getD, h]
theorem oj_take (cs : List Int32) {i : Nat} (h : i < cs.length) (f : Int32 → Value) : (cs.take i).map f ++ [f (cs.getD i 0)] = (cs.take (i + 1)).map f := by
  rw [List.take_add_one, List.map_append, List.getD_eq_getElem?_getD, List.getElem?_eq_getElem h]; rfl
theorem oj_narb (x : Int32) : nar .byte (x.toInt8.toInt32) = x.toInt8.toInt32 := by simp [nar]
theorem oj_shr0 (c : Int32) : c >>> ((0 : Int32) &&& 31) = c := by
  have q := c_ishr c 0 0 (by decide)
  apply Int32.toInt_inj.mp
  first | omega | (rw [q]; simp)
theorem oj_bb (x : Int32) : x.toInt8.toInt32.toInt8.toInt32 = x.toInt8.toInt32 := by simp
theorem arvSnoc {Z : State} {h h' : Heap} {a : Addr} {k : ClassId} {ty : FieldType} {z j : Int32} {vs : List Value} {dv v : Value} {c : Cell} (A : Arr Z h a c ty) (q1 : c.cls = k) (S : c.slots.size = z.toNatClampNeg) (q3 : ¬ z < 0) (H : Has c vs dv) (G : ∀ i, i < c.slots.size → fits ty (vs.getD i dv) = true) (hv : fits ty v = true) (W : Wr h h' a j.toNatClampNeg v) (hj : j.toNatClampNeg = vs.length) : Arv Z h' a k ty z (vs ++ [v]) dv := by
  have H' : Has c (vs ++ [dv]) dv := fun i hi => by rw [show [dv] = List.replicate 1 dv from rfl, pad_rep vs dv 1 i]; exact H i hi
  have G' : ∀ i, i < c.slots.size → fits ty ((vs ++ [dv]).getD i dv) = true := fun i hi => by rw [show [dv] = List.replicate 1 dv from rfl, pad_rep vs dv 1 i]; exact G i hi
  have q := Arv.set A q1 S q3 H' G' hv W vs.length hj (by simp)
  have e : (vs ++ [dv]).set vs.length v = vs ++ [v] := by simp
  rwa [e] at q
/-- how many chars ahead of the first above 255 -/
def own_k : List Int32 → Nat
  | [] => 0
  | c :: r => if (255 : Int32) < c then 0 else own_k r + 1
theorem own_k_at : ∀ (cs : List Int32) (i : Nat), (∀ j, j < i → ¬ (255 : Int32) < cs.getD j 0) → i < cs.length → (255 : Int32) < cs.getD i 0 → own_k cs = i
  | [], _, _, h, _ => absurd h (Nat.not_lt_zero _)
  | c :: r, 0, _, _, hc => by simp only [own_k]; exact if_pos hc
  | c :: r, i + 1, hb, h, hc => by
    have h0 : ¬ (255 : Int32) < c := hb 0 (Nat.succ_pos _)
    simp only [own_k, if_neg h0]
    rw [own_k_at r i (fun j hj => hb (j + 1) (by omega)) (by simpa using h) hc]
theorem own_k_all : ∀ (cs : List Int32), (∀ j, j < cs.length → ¬ (255 : Int32) < cs.getD j 0) → own_k cs = cs.length
  | [], _ => rfl
  | c :: r, hb => by
    have h0 : ¬ (255 : Int32) < c := hb 0 (Nat.succ_pos _)
    simp only [own_k, if_neg h0]
    rw [own_k_all r fun j hj => hb (j + 1) (by simpa using hj)]; rfl
theorem own_k_le : ∀ cs : List Int32, own_k cs ≤ cs.length
  | [] => Nat.le_refl _
  | c :: r => by
    simp only [own_k]
    split
    · exact Nat.zero_le _
    · exact Nat.succ_le_succ (own_k_le r)
theorem own_k_hi : ∀ cs : List Int32, own_k cs ≠ cs.length → own_k cs < cs.length ∧ (255 : Int32) < cs.getD (own_k cs) 0
  | [], h => absurd rfl h
  | c :: r, h => by
    by_cases q : (255 : Int32) < c
    · simp only [own_k, if_pos q]; exact ⟨Nat.succ_pos _, q⟩
    · simp only [own_k, if_neg q] at h ⊢
      obtain ⟨h1, h2⟩ := own_k_hi r fun e => h (congrArg (· + 1) e)
      exact ⟨Nat.succ_lt_succ h1, h2⟩
theorem own_k_lo (cs : List Int32) (h : own_k cs = cs.length) : ∀ c ∈ cs, ¬ (255 : Int32) < c := by
  induction cs with
  | nil => exact fun _ q => nomatch q
  | cons c r ih =>
    by_cases q : (255 : Int32) < c
    · simp only [own_k, if_pos q] at h; exact absurd h (Nat.succ_ne_zero _).symm
    · simp only [own_k, if_neg q] at h
      intro x hx
      rcases List.mem_cons.mp hx with rfl | hx
      · exact q
      · exact ih (Nat.succ.inj h) x hx
theorem oj_mem {cs : List Int32} {i : Nat} (h : i < cs.length) : cs.getD i 0 ∈ cs := by
  rw [List.getD_eq_getElem?_getD, List.getElem?_eq_getElem h]; exact List.getElem_mem h
theorem wide_len : ∀ cs : List Int32, (StrChars.Road.wideBytes cs).length = 2 * cs.length
  | [] => rfl
  | c :: r => by simp only [StrChars.Road.wideBytes, List.length_cons, wide_len r]; omega
theorem wide_snoc : ∀ (cs : List Int32) (c : Int32), StrChars.Road.wideBytes (cs ++ [c]) = StrChars.Road.wideBytes cs ++ [.int (StrChars.lo8 c)] ++ [.int (StrChars.hi8 c)]
  | [], _ => rfl
  | d :: r, c => by simp only [List.cons_append, StrChars.Road.wideBytes, wide_snoc r c]
theorem oj_take1 (cs : List Int32) {i : Nat} (h : i < cs.length) : cs.take i ++ [cs.getD i 0] = cs.take (i + 1) := by
  rw [List.take_add_one, List.getD_eq_getElem?_getD, List.getElem?_eq_getElem h]; rfl
theorem oj_cod0 {n : Nat} (h : n ≤ 4000) : nar .byte ((((Int32.ofNat n - Int32.ofNat n).toUInt32 >>> ((31 : Int32) &&& 31).toUInt32).toInt32).toInt8.toInt32) = 0 := by
  rw [Int32.sub_self]; decide
theorem oj_cod1 {n : Nat} (h0 : 0 < n) (h : n ≤ 4000) : nar .byte ((((Int32.ofNat n - Int32.ofNat (2 * n)).toUInt32 >>> ((31 : Int32) &&& 31).toUInt32).toInt32).toInt8.toInt32) = 1 := by
  have q := c_iushr (Int32.ofNat n - Int32.ofNat (2 * n)) 31 31 (by decide) (by decide)
  have e := c_isub (Int32.ofNat n) (Int32.ofNat (2 * n))
  have r := rng32 (Int32.ofNat n - Int32.ofNat (2 * n))
  rw [Int32.toInt_ofNat_of_lt (by omega), Int32.toInt_ofNat_of_lt (by omega)] at e
  have v : ((((Int32.ofNat n - Int32.ofNat (2 * n)).toUInt32 >>> ((31 : Int32) &&& 31).toUInt32).toInt32)) = 1 := by
    apply Int32.toInt_inj.mp
    rw [q]
    have : ((1 : Int32).toInt) = 1 := rfl
    omega
  rw [v]; decide
theorem oj_c16 {c : Int32} (h : ¬ c < 0 ∧ ¬ (65535 : Int32) < c) : nar .char c = c := by
  show c.toUInt32.toUInt16.toUInt32.toInt32 = c
  have q := c_i2c c
  have r := rng32 c
  obtain ⟨h0, h1⟩ := h
  rw [Int32.lt_iff_toInt_lt] at h0 h1
  have e0 : (0 : Int32).toInt = 0 := rfl
  have e1 : (65535 : Int32).toInt = 65535 := rfl
  apply Int32.toInt_inj.mp
  omega
def own_find (cs : List Int32) (c1 c2 c3 c4 : Addr) : Value := if ([111, 98, 115, 101, 114, 118, 101, 114] : List Int32) = cs then .ref c1 else if ([117, 115, 101, 114] : List Int32) = cs then .ref c2 else if ([112, 111, 119, 101, 114, 95, 117, 115, 101, 114] : List Int32) = cs then .ref c3 else if ([97, 100, 109, 105, 110] : List Int32) = cs then .ref c4 else .null
theorem own_fn {cs : List Int32} {c1 c2 c3 c4 : Addr} (h1 : ¬ ([111, 98, 115, 101, 114, 118, 101, 114] : List Int32) = cs) (h2 : ¬ ([117, 115, 101, 114] : List Int32) = cs) (h3 : ¬ ([112, 111, 119, 101, 114, 95, 117, 115, 101, 114] : List Int32) = cs) (h4 : ¬ ([97, 100, 109, 105, 110] : List Int32) = cs) : own_find cs c1 c2 c3 c4 = .null := by
  unfold own_find; rw [if_neg h1, if_neg h2, if_neg h3, if_neg h4]
theorem own_f0 {cs : List Int32} {c1 c2 c3 c4 : Addr} (h1 : ([111, 98, 115, 101, 114, 118, 101, 114] : List Int32) = cs) : own_find cs c1 c2 c3 c4 = .ref c1 := by
  unfold own_find; rw [if_pos h1]
theorem own_f1 {cs : List Int32} {c1 c2 c3 c4 : Addr} (h1 : ¬ ([111, 98, 115, 101, 114, 118, 101, 114] : List Int32) = cs) (h2 : ([117, 115, 101, 114] : List Int32) = cs) : own_find cs c1 c2 c3 c4 = .ref c2 := by
  unfold own_find; rw [if_neg h1, if_pos h2]
theorem own_f2 {cs : List Int32} {c1 c2 c3 c4 : Addr} (h1 : ¬ ([111, 98, 115, 101, 114, 118, 101, 114] : List Int32) = cs) (h2 : ¬ ([117, 115, 101, 114] : List Int32) = cs) (h3 : ([112, 111, 119, 101, 114, 95, 117, 115, 101, 114] : List Int32) = cs) : own_find cs c1 c2 c3 c4 = .ref c3 := by
  unfold own_find; rw [if_neg h1, if_neg h2, if_pos h3]
theorem own_f3 {cs : List Int32} {c1 c2 c3 c4 : Addr} (h1 : ¬ ([111, 98, 115, 101, 114, 118, 101, 114] : List Int32) = cs) (h2 : ¬ ([117, 115, 101, 114] : List Int32) = cs) (h3 : ¬ ([112, 111, 119, 101, 114, 95, 117, 115, 101, 114] : List Int32) = cs) (h4 : ([97, 100, 109, 105, 110] : List Int32) = cs) : own_find cs c1 c2 c3 c4 = .ref c4 := by
  unfold own_find; rw [if_neg h1, if_neg h2, if_neg h3, if_pos h4]
theorem own_findref (cs : List Int32) (c1 c2 c3 c4 : Addr) : (own_find cs c1 c2 c3 c4).isRef = true := by
  unfold own_find; split; rfl; split; rfl; split; rfl; split <;> rfl
theorem own_twelve {bs : List Int32} (h : bs.length = 12) : ∃ b0 b1 b2 b3 b4 b5 b6 b7 b8 b9 b10 b11 : Int32, bs = [b0, b1, b2, b3, b4, b5, b6, b7, b8, b9, b10, b11] := by
  match bs, h with
  | [b0, b1, b2, b3, b4, b5, b6, b7, b8, b9, b10, b11], _ => exact ⟨b0, b1, b2, b3, b4, b5, b6, b7, b8, b9, b10, b11, rfl⟩
theorem own_c16 (x : Int32) : ¬ x.toUInt32.toUInt16.toUInt32.toInt32 < 0 ∧ ¬ (65535 : Int32) < x.toUInt32.toUInt16.toUInt32.toInt32 := by
  have h := c_i2c x
  simp only [Int32.lt_iff_toInt_lt]
  have e0 : (0 : Int32).toInt = 0 := rfl
  have e1 : (65535 : Int32).toInt = 65535 := rfl
  omega
theorem own_six (x : Int32) : (x &&& (2147483647 : Int32)) % (6 : Int32) = 0 ∨ (x &&& (2147483647 : Int32)) % (6 : Int32) = 1 ∨ (x &&& (2147483647 : Int32)) % (6 : Int32) = 2 ∨ (x &&& (2147483647 : Int32)) % (6 : Int32) = 3 ∨ (x &&& (2147483647 : Int32)) % (6 : Int32) = 4 ∨ (x &&& (2147483647 : Int32)) % (6 : Int32) = 5 := by
  have h := c_mask x 2147483647 31 (by decide) (by decide)
  have r := (c_irem (x &&& 2147483647) 6 6 rfl).1 (by omega)
  have e0 : (0 : Int32).toInt = 0 := rfl
  have e1 : (1 : Int32).toInt = 1 := rfl
  have e2 : (2 : Int32).toInt = 2 := rfl
  have e3 : (3 : Int32).toInt = 3 := rfl
  have e4 : (4 : Int32).toInt = 4 := rfl
  have e5 : (5 : Int32).toInt = 5 := rfl
  simp only [← Int32.toInt_inj, e0, e1, e2, e3, e4, e5]
  omega
theorem own_set {bs : List Int32} {c : Int32} {j : Nat} (h : ∀ z ∈ bs, ¬ z < 0 ∧ ¬ (65535 : Int32) < z) (hc : ¬ c < 0 ∧ ¬ (65535 : Int32) < c) : ∀ z ∈ bs.set j c, ¬ z < 0 ∧ ¬ (65535 : Int32) < z := fun z hz => by
  rcases List.mem_or_eq_of_mem_set hz with q | q
  · exact h z q
  · rw [q]; exact hc
theorem own_j0 {j : Nat} (h : j < 8) : j = 0 ∨ j = 1 ∨ j = 2 ∨ j = 3 ∨ j = 4 ∨ j = 5 ∨ j = 6 ∨ j = 7 := by omega
theorem own_m1_0 {j : Nat} (h : j < 8) {c : Int32} (hne : ¬ ([111, 98, 115, 101, 114, 118, 101, 114, 0, 0, 0, 0] : List Int32).getD j 0 = c) (c1 c2 c3 c4 : Addr) : own_find ((([111, 98, 115, 101, 114, 118, 101, 114, 0, 0, 0, 0] : List Int32).set j c).take 8) c1 c2 c3 c4 = .null := by
  rcases own_j0 h with rfl | rfl | rfl | rfl | rfl | rfl | rfl | rfl
  · show own_find [c, (98 : Int32), (115 : Int32), (101 : Int32), (114 : Int32), (118 : Int32), (101 : Int32), (114 : Int32)] c1 c2 c3 c4 = _; exact own_fn (fun h => hne (congrArg (fun l => List.getD l 0 0) h)) (fun h => absurd (show (4 : Nat) = 8 from congrArg List.length h) (by decide)) (fun h => absurd (show (10 : Nat) = 8 from congrArg List.length h) (by decide)) (fun h => absurd (show (5 : Nat) = 8 from congrArg List.length h) (by decide))
  · show own_find [(111 : Int32), c, (115 : Int32), (101 : Int32), (114 : Int32), (118 : Int32), (101 : Int32), (114 : Int32)] c1 c2 c3 c4 = _; exact own_fn (fun h => hne (congrArg (fun l => List.getD l 1 0) h)) (fun h => absurd (show (4 : Nat) = 8 from congrArg List.length h) (by decide)) (fun h => absurd (show (10 : Nat) = 8 from congrArg List.length h) (by decide)) (fun h => absurd (show (5 : Nat) = 8 from congrArg List.length h) (by decide))
  · show own_find [(111 : Int32), (98 : Int32), c, (101 : Int32), (114 : Int32), (118 : Int32), (101 : Int32), (114 : Int32)] c1 c2 c3 c4 = _; exact own_fn (fun h => hne (congrArg (fun l => List.getD l 2 0) h)) (fun h => absurd (show (4 : Nat) = 8 from congrArg List.length h) (by decide)) (fun h => absurd (show (10 : Nat) = 8 from congrArg List.length h) (by decide)) (fun h => absurd (show (5 : Nat) = 8 from congrArg List.length h) (by decide))
  · show own_find [(111 : Int32), (98 : Int32), (115 : Int32), c, (114 : Int32), (118 : Int32), (101 : Int32), (114 : Int32)] c1 c2 c3 c4 = _; exact own_fn (fun h => hne (congrArg (fun l => List.getD l 3 0) h)) (fun h => absurd (show (4 : Nat) = 8 from congrArg List.length h) (by decide)) (fun h => absurd (show (10 : Nat) = 8 from congrArg List.length h) (by decide)) (fun h => absurd (show (5 : Nat) = 8 from congrArg List.length h) (by decide))
  · show own_find [(111 : Int32), (98 : Int32), (115 : Int32), (101 : Int32), c, (118 : Int32), (101 : Int32), (114 : Int32)] c1 c2 c3 c4 = _; exact own_fn (fun h => hne (congrArg (fun l => List.getD l 4 0) h)) (fun h => absurd (show (4 : Nat) = 8 from congrArg List.length h) (by decide)) (fun h => absurd (show (10 : Nat) = 8 from congrArg List.length h) (by decide)) (fun h => absurd (show (5 : Nat) = 8 from congrArg List.length h) (by decide))
  · show own_find [(111 : Int32), (98 : Int32), (115 : Int32), (101 : Int32), (114 : Int32), c, (101 : Int32), (114 : Int32)] c1 c2 c3 c4 = _; exact own_fn (fun h => hne (congrArg (fun l => List.getD l 5 0) h)) (fun h => absurd (show (4 : Nat) = 8 from congrArg List.length h) (by decide)) (fun h => absurd (show (10 : Nat) = 8 from congrArg List.length h) (by decide)) (fun h => absurd (show (5 : Nat) = 8 from congrArg List.length h) (by decide))
  · show own_find [(111 : Int32), (98 : Int32), (115 : Int32), (101 : Int32), (114 : Int32), (118 : Int32), c, (114 : Int32)] c1 c2 c3 c4 = _; exact own_fn (fun h => hne (congrArg (fun l => List.getD l 6 0) h)) (fun h => absurd (show (4 : Nat) = 8 from congrArg List.length h) (by decide)) (fun h => absurd (show (10 : Nat) = 8 from congrArg List.length h) (by decide)) (fun h => absurd (show (5 : Nat) = 8 from congrArg List.length h) (by decide))
  · show own_find [(111 : Int32), (98 : Int32), (115 : Int32), (101 : Int32), (114 : Int32), (118 : Int32), (101 : Int32), c] c1 c2 c3 c4 = _; exact own_fn (fun h => hne (congrArg (fun l => List.getD l 7 0) h)) (fun h => absurd (show (4 : Nat) = 8 from congrArg List.length h) (by decide)) (fun h => absurd (show (10 : Nat) = 8 from congrArg List.length h) (by decide)) (fun h => absurd (show (5 : Nat) = 8 from congrArg List.length h) (by decide))
theorem own_m0_0 (c1 c2 c3 c4 : Addr) : own_find (([111, 98, 115, 101, 114, 118, 101, 114, 0, 0, 0, 0] : List Int32).take 8) c1 c2 c3 c4 = .ref c1 := by
  show own_find ([111, 98, 115, 101, 114, 118, 101, 114] : List Int32) c1 c2 c3 c4 = _; exact own_f0  rfl
theorem own_m1e_0 {j : Nat} (h : j < 8) {c : Int32} (he : ([111, 98, 115, 101, 114, 118, 101, 114, 0, 0, 0, 0] : List Int32).getD j 0 = c) (c1 c2 c3 c4 : Addr) : own_find ((([111, 98, 115, 101, 114, 118, 101, 114, 0, 0, 0, 0] : List Int32).set j c).take 8) c1 c2 c3 c4 = .ref c1 := by
  rw [← he]
  rcases own_j0 h with rfl | rfl | rfl | rfl | rfl | rfl | rfl | rfl
  · show own_find ([111, 98, 115, 101, 114, 118, 101, 114] : List Int32) c1 c2 c3 c4 = _; exact own_f0  rfl
  · show own_find ([111, 98, 115, 101, 114, 118, 101, 114] : List Int32) c1 c2 c3 c4 = _; exact own_f0  rfl
  · show own_find ([111, 98, 115, 101, 114, 118, 101, 114] : List Int32) c1 c2 c3 c4 = _; exact own_f0  rfl
  · show own_find ([111, 98, 115, 101, 114, 118, 101, 114] : List Int32) c1 c2 c3 c4 = _; exact own_f0  rfl
  · show own_find ([111, 98, 115, 101, 114, 118, 101, 114] : List Int32) c1 c2 c3 c4 = _; exact own_f0  rfl
  · show own_find ([111, 98, 115, 101, 114, 118, 101, 114] : List Int32) c1 c2 c3 c4 = _; exact own_f0  rfl
  · show own_find ([111, 98, 115, 101, 114, 118, 101, 114] : List Int32) c1 c2 c3 c4 = _; exact own_f0  rfl
  · show own_find ([111, 98, 115, 101, 114, 118, 101, 114] : List Int32) c1 c2 c3 c4 = _; exact own_f0  rfl
theorem own_m2_0 {j : Nat} (h : j < 8) {c : Int32} (hc : c = ((([111, 98, 115, 101, 114, 118, 101, 114, 0, 0, 0, 0] : List Int32).getD j 0) ^^^ (32 : Int32)).toUInt32.toUInt16.toUInt32.toInt32) (c1 c2 c3 c4 : Addr) : own_find ((([111, 98, 115, 101, 114, 118, 101, 114, 0, 0, 0, 0] : List Int32).set j c).take 8) c1 c2 c3 c4 = .null := by
  refine own_m1_0 h ?_ c1 c2 c3 c4
  rw [hc]
  rcases own_j0 h with rfl | rfl | rfl | rfl | rfl | rfl | rfl | rfl <;> decide
theorem own_m3_0 {j : Nat} (h : j < 8) (c1 c2 c3 c4 : Addr) : own_find (([111, 98, 115, 101, 114, 118, 101, 114, 0, 0, 0, 0] : List Int32).take j) c1 c2 c3 c4 = .null := by
  rcases own_j0 h with rfl | rfl | rfl | rfl | rfl | rfl | rfl | rfl
  · show own_find [] c1 c2 c3 c4 = _; exact own_fn (fun h => absurd (show (8 : Nat) = 0 from congrArg List.length h) (by decide)) (fun h => absurd (show (4 : Nat) = 0 from congrArg List.length h) (by decide)) (fun h => absurd (show (10 : Nat) = 0 from congrArg List.length h) (by decide)) (fun h => absurd (show (5 : Nat) = 0 from congrArg List.length h) (by decide))
  · show own_find [(111 : Int32)] c1 c2 c3 c4 = _; exact own_fn (fun h => absurd (show (8 : Nat) = 1 from congrArg List.length h) (by decide)) (fun h => absurd (show (4 : Nat) = 1 from congrArg List.length h) (by decide)) (fun h => absurd (show (10 : Nat) = 1 from congrArg List.length h) (by decide)) (fun h => absurd (show (5 : Nat) = 1 from congrArg List.length h) (by decide))
  · show own_find [(111 : Int32), (98 : Int32)] c1 c2 c3 c4 = _; exact own_fn (fun h => absurd (show (8 : Nat) = 2 from congrArg List.length h) (by decide)) (fun h => absurd (show (4 : Nat) = 2 from congrArg List.length h) (by decide)) (fun h => absurd (show (10 : Nat) = 2 from congrArg List.length h) (by decide)) (fun h => absurd (show (5 : Nat) = 2 from congrArg List.length h) (by decide))
  · show own_find [(111 : Int32), (98 : Int32), (115 : Int32)] c1 c2 c3 c4 = _; exact own_fn (fun h => absurd (show (8 : Nat) = 3 from congrArg List.length h) (by decide)) (fun h => absurd (show (4 : Nat) = 3 from congrArg List.length h) (by decide)) (fun h => absurd (show (10 : Nat) = 3 from congrArg List.length h) (by decide)) (fun h => absurd (show (5 : Nat) = 3 from congrArg List.length h) (by decide))
  · show own_find [(111 : Int32), (98 : Int32), (115 : Int32), (101 : Int32)] c1 c2 c3 c4 = _; exact own_fn (fun h => absurd (show (8 : Nat) = 4 from congrArg List.length h) (by decide)) (fun h => absurd (show (117 : Int32) = 111 from congrArg (fun l => List.getD l 0 0) h) (by decide)) (fun h => absurd (show (10 : Nat) = 4 from congrArg List.length h) (by decide)) (fun h => absurd (show (5 : Nat) = 4 from congrArg List.length h) (by decide))
  · show own_find [(111 : Int32), (98 : Int32), (115 : Int32), (101 : Int32), (114 : Int32)] c1 c2 c3 c4 = _; exact own_fn (fun h => absurd (show (8 : Nat) = 5 from congrArg List.length h) (by decide)) (fun h => absurd (show (4 : Nat) = 5 from congrArg List.length h) (by decide)) (fun h => absurd (show (10 : Nat) = 5 from congrArg List.length h) (by decide)) (fun h => absurd (show (97 : Int32) = 111 from congrArg (fun l => List.getD l 0 0) h) (by decide))
  · show own_find [(111 : Int32), (98 : Int32), (115 : Int32), (101 : Int32), (114 : Int32), (118 : Int32)] c1 c2 c3 c4 = _; exact own_fn (fun h => absurd (show (8 : Nat) = 6 from congrArg List.length h) (by decide)) (fun h => absurd (show (4 : Nat) = 6 from congrArg List.length h) (by decide)) (fun h => absurd (show (10 : Nat) = 6 from congrArg List.length h) (by decide)) (fun h => absurd (show (5 : Nat) = 6 from congrArg List.length h) (by decide))
  · show own_find [(111 : Int32), (98 : Int32), (115 : Int32), (101 : Int32), (114 : Int32), (118 : Int32), (101 : Int32)] c1 c2 c3 c4 = _; exact own_fn (fun h => absurd (show (8 : Nat) = 7 from congrArg List.length h) (by decide)) (fun h => absurd (show (4 : Nat) = 7 from congrArg List.length h) (by decide)) (fun h => absurd (show (10 : Nat) = 7 from congrArg List.length h) (by decide)) (fun h => absurd (show (5 : Nat) = 7 from congrArg List.length h) (by decide))
theorem own_m4_0 (c : Int32) (c1 c2 c3 c4 : Addr) : own_find ((([111, 98, 115, 101, 114, 118, 101, 114, 0, 0, 0, 0] : List Int32).set 8 c).take 9) c1 c2 c3 c4 = .null := by
  show own_find [(111 : Int32), (98 : Int32), (115 : Int32), (101 : Int32), (114 : Int32), (118 : Int32), (101 : Int32), (114 : Int32), c] c1 c2 c3 c4 = _; exact own_fn (fun h => absurd (show (8 : Nat) = 9 from congrArg List.length h) (by decide)) (fun h => absurd (show (4 : Nat) = 9 from congrArg List.length h) (by decide)) (fun h => absurd (show (10 : Nat) = 9 from congrArg List.length h) (by decide)) (fun h => absurd (show (5 : Nat) = 9 from congrArg List.length h) (by decide))
theorem own_p0 (x : Int32) : ∃ j : Nat, j < 8 ∧ (x &&& (2147483647 : Int32)) % (8 : Int32) = Int32.ofNat j := by
  have h := c_mask x 2147483647 31 (by decide) (by decide)
  have r := (c_irem (x &&& 2147483647) 8 8 rfl).1 (by omega)
  have r2 := Int.emod_nonneg (x &&& 2147483647).toInt (b := 8) (by decide)
  refine ⟨((x &&& (2147483647 : Int32)) % (8 : Int32)).toInt.toNat, by omega, ?_⟩
  apply Int32.toInt_inj.mp
  rw [Int32.toInt_ofNat_of_lt (by omega)]
  omega
theorem own_j1 {j : Nat} (h : j < 4) : j = 0 ∨ j = 1 ∨ j = 2 ∨ j = 3 := by omega
theorem own_m1_1 {j : Nat} (h : j < 4) {c : Int32} (hne : ¬ ([117, 115, 101, 114, 0, 0, 0, 0, 0, 0, 0, 0] : List Int32).getD j 0 = c) (c1 c2 c3 c4 : Addr) : own_find ((([117, 115, 101, 114, 0, 0, 0, 0, 0, 0, 0, 0] : List Int32).set j c).take 4) c1 c2 c3 c4 = .null := by
  rcases own_j1 h with rfl | rfl | rfl | rfl
  · show own_find [c, (115 : Int32), (101 : Int32), (114 : Int32)] c1 c2 c3 c4 = _; exact own_fn (fun h => absurd (show (8 : Nat) = 4 from congrArg List.length h) (by decide)) (fun h => hne (congrArg (fun l => List.getD l 0 0) h)) (fun h => absurd (show (10 : Nat) = 4 from congrArg List.length h) (by decide)) (fun h => absurd (show (5 : Nat) = 4 from congrArg List.length h) (by decide))
  · show own_find [(117 : Int32), c, (101 : Int32), (114 : Int32)] c1 c2 c3 c4 = _; exact own_fn (fun h => absurd (show (8 : Nat) = 4 from congrArg List.length h) (by decide)) (fun h => hne (congrArg (fun l => List.getD l 1 0) h)) (fun h => absurd (show (10 : Nat) = 4 from congrArg List.length h) (by decide)) (fun h => absurd (show (5 : Nat) = 4 from congrArg List.length h) (by decide))
  · show own_find [(117 : Int32), (115 : Int32), c, (114 : Int32)] c1 c2 c3 c4 = _; exact own_fn (fun h => absurd (show (8 : Nat) = 4 from congrArg List.length h) (by decide)) (fun h => hne (congrArg (fun l => List.getD l 2 0) h)) (fun h => absurd (show (10 : Nat) = 4 from congrArg List.length h) (by decide)) (fun h => absurd (show (5 : Nat) = 4 from congrArg List.length h) (by decide))
  · show own_find [(117 : Int32), (115 : Int32), (101 : Int32), c] c1 c2 c3 c4 = _; exact own_fn (fun h => absurd (show (8 : Nat) = 4 from congrArg List.length h) (by decide)) (fun h => hne (congrArg (fun l => List.getD l 3 0) h)) (fun h => absurd (show (10 : Nat) = 4 from congrArg List.length h) (by decide)) (fun h => absurd (show (5 : Nat) = 4 from congrArg List.length h) (by decide))
theorem own_m0_1 (c1 c2 c3 c4 : Addr) : own_find (([117, 115, 101, 114, 0, 0, 0, 0, 0, 0, 0, 0] : List Int32).take 4) c1 c2 c3 c4 = .ref c2 := by
  show own_find ([117, 115, 101, 114] : List Int32) c1 c2 c3 c4 = _; exact own_f1 (fun h => absurd (show (8 : Nat) = 4 from congrArg List.length h) (by decide)) rfl
theorem own_m1e_1 {j : Nat} (h : j < 4) {c : Int32} (he : ([117, 115, 101, 114, 0, 0, 0, 0, 0, 0, 0, 0] : List Int32).getD j 0 = c) (c1 c2 c3 c4 : Addr) : own_find ((([117, 115, 101, 114, 0, 0, 0, 0, 0, 0, 0, 0] : List Int32).set j c).take 4) c1 c2 c3 c4 = .ref c2 := by
  rw [← he]
  rcases own_j1 h with rfl | rfl | rfl | rfl
  · show own_find ([117, 115, 101, 114] : List Int32) c1 c2 c3 c4 = _; exact own_f1 (fun h => absurd (show (8 : Nat) = 4 from congrArg List.length h) (by decide)) rfl
  · show own_find ([117, 115, 101, 114] : List Int32) c1 c2 c3 c4 = _; exact own_f1 (fun h => absurd (show (8 : Nat) = 4 from congrArg List.length h) (by decide)) rfl
  · show own_find ([117, 115, 101, 114] : List Int32) c1 c2 c3 c4 = _; exact own_f1 (fun h => absurd (show (8 : Nat) = 4 from congrArg List.length h) (by decide)) rfl
  · show own_find ([117, 115, 101, 114] : List Int32) c1 c2 c3 c4 = _; exact own_f1 (fun h => absurd (show (8 : Nat) = 4 from congrArg List.length h) (by decide)) rfl
theorem own_m2_1 {j : Nat} (h : j < 4) {c : Int32} (hc : c = ((([117, 115, 101, 114, 0, 0, 0, 0, 0, 0, 0, 0] : List Int32).getD j 0) ^^^ (32 : Int32)).toUInt32.toUInt16.toUInt32.toInt32) (c1 c2 c3 c4 : Addr) : own_find ((([117, 115, 101, 114, 0, 0, 0, 0, 0, 0, 0, 0] : List Int32).set j c).take 4) c1 c2 c3 c4 = .null := by
  refine own_m1_1 h ?_ c1 c2 c3 c4
  rw [hc]
  rcases own_j1 h with rfl | rfl | rfl | rfl <;> decide
theorem own_m3_1 {j : Nat} (h : j < 4) (c1 c2 c3 c4 : Addr) : own_find (([117, 115, 101, 114, 0, 0, 0, 0, 0, 0, 0, 0] : List Int32).take j) c1 c2 c3 c4 = .null := by
  rcases own_j1 h with rfl | rfl | rfl | rfl
  · show own_find [] c1 c2 c3 c4 = _; exact own_fn (fun h => absurd (show (8 : Nat) = 0 from congrArg List.length h) (by decide)) (fun h => absurd (show (4 : Nat) = 0 from congrArg List.length h) (by decide)) (fun h => absurd (show (10 : Nat) = 0 from congrArg List.length h) (by decide)) (fun h => absurd (show (5 : Nat) = 0 from congrArg List.length h) (by decide))
  · show own_find [(117 : Int32)] c1 c2 c3 c4 = _; exact own_fn (fun h => absurd (show (8 : Nat) = 1 from congrArg List.length h) (by decide)) (fun h => absurd (show (4 : Nat) = 1 from congrArg List.length h) (by decide)) (fun h => absurd (show (10 : Nat) = 1 from congrArg List.length h) (by decide)) (fun h => absurd (show (5 : Nat) = 1 from congrArg List.length h) (by decide))
  · show own_find [(117 : Int32), (115 : Int32)] c1 c2 c3 c4 = _; exact own_fn (fun h => absurd (show (8 : Nat) = 2 from congrArg List.length h) (by decide)) (fun h => absurd (show (4 : Nat) = 2 from congrArg List.length h) (by decide)) (fun h => absurd (show (10 : Nat) = 2 from congrArg List.length h) (by decide)) (fun h => absurd (show (5 : Nat) = 2 from congrArg List.length h) (by decide))
  · show own_find [(117 : Int32), (115 : Int32), (101 : Int32)] c1 c2 c3 c4 = _; exact own_fn (fun h => absurd (show (8 : Nat) = 3 from congrArg List.length h) (by decide)) (fun h => absurd (show (4 : Nat) = 3 from congrArg List.length h) (by decide)) (fun h => absurd (show (10 : Nat) = 3 from congrArg List.length h) (by decide)) (fun h => absurd (show (5 : Nat) = 3 from congrArg List.length h) (by decide))
theorem own_m4_1 (c : Int32) (c1 c2 c3 c4 : Addr) : own_find ((([117, 115, 101, 114, 0, 0, 0, 0, 0, 0, 0, 0] : List Int32).set 4 c).take 5) c1 c2 c3 c4 = .null := by
  show own_find [(117 : Int32), (115 : Int32), (101 : Int32), (114 : Int32), c] c1 c2 c3 c4 = _; exact own_fn (fun h => absurd (show (8 : Nat) = 5 from congrArg List.length h) (by decide)) (fun h => absurd (show (4 : Nat) = 5 from congrArg List.length h) (by decide)) (fun h => absurd (show (10 : Nat) = 5 from congrArg List.length h) (by decide)) (fun h => absurd (show (97 : Int32) = 117 from congrArg (fun l => List.getD l 0 0) h) (by decide))
theorem own_p1 (x : Int32) : ∃ j : Nat, j < 4 ∧ (x &&& (2147483647 : Int32)) % (4 : Int32) = Int32.ofNat j := by
  have h := c_mask x 2147483647 31 (by decide) (by decide)
  have r := (c_irem (x &&& 2147483647) 4 4 rfl).1 (by omega)
  have r2 := Int.emod_nonneg (x &&& 2147483647).toInt (b := 4) (by decide)
  refine ⟨((x &&& (2147483647 : Int32)) % (4 : Int32)).toInt.toNat, by omega, ?_⟩
  apply Int32.toInt_inj.mp
  rw [Int32.toInt_ofNat_of_lt (by omega)]
  omega
theorem own_j2 {j : Nat} (h : j < 10) : j = 0 ∨ j = 1 ∨ j = 2 ∨ j = 3 ∨ j = 4 ∨ j = 5 ∨ j = 6 ∨ j = 7 ∨ j = 8 ∨ j = 9 := by omega
theorem own_m1_2 {j : Nat} (h : j < 10) {c : Int32} (hne : ¬ ([112, 111, 119, 101, 114, 95, 117, 115, 101, 114, 0, 0] : List Int32).getD j 0 = c) (c1 c2 c3 c4 : Addr) : own_find ((([112, 111, 119, 101, 114, 95, 117, 115, 101, 114, 0, 0] : List Int32).set j c).take 10) c1 c2 c3 c4 = .null := by
  rcases own_j2 h with rfl | rfl | rfl | rfl | rfl | rfl | rfl | rfl | rfl | rfl
  · show own_find [c, (111 : Int32), (119 : Int32), (101 : Int32), (114 : Int32), (95 : Int32), (117 : Int32), (115 : Int32), (101 : Int32), (114 : Int32)] c1 c2 c3 c4 = _; exact own_fn (fun h => absurd (show (8 : Nat) = 10 from congrArg List.length h) (by decide)) (fun h => absurd (show (4 : Nat) = 10 from congrArg List.length h) (by decide)) (fun h => hne (congrArg (fun l => List.getD l 0 0) h)) (fun h => absurd (show (5 : Nat) = 10 from congrArg List.length h) (by decide))
  · show own_find [(112 : Int32), c, (119 : Int32), (101 : Int32), (114 : Int32), (95 : Int32), (117 : Int32), (115 : Int32), (101 : Int32), (114 : Int32)] c1 c2 c3 c4 = _; exact own_fn (fun h => absurd (show (8 : Nat) = 10 from congrArg List.length h) (by decide)) (fun h => absurd (show (4 : Nat) = 10 from congrArg List.length h) (by decide)) (fun h => hne (congrArg (fun l => List.getD l 1 0) h)) (fun h => absurd (show (5 : Nat) = 10 from congrArg List.length h) (by decide))
  · show own_find [(112 : Int32), (111 : Int32), c, (101 : Int32), (114 : Int32), (95 : Int32), (117 : Int32), (115 : Int32), (101 : Int32), (114 : Int32)] c1 c2 c3 c4 = _; exact own_fn (fun h => absurd (show (8 : Nat) = 10 from congrArg List.length h) (by decide)) (fun h => absurd (show (4 : Nat) = 10 from congrArg List.length h) (by decide)) (fun h => hne (congrArg (fun l => List.getD l 2 0) h)) (fun h => absurd (show (5 : Nat) = 10 from congrArg List.length h) (by decide))
  · show own_find [(112 : Int32), (111 : Int32), (119 : Int32), c, (114 : Int32), (95 : Int32), (117 : Int32), (115 : Int32), (101 : Int32), (114 : Int32)] c1 c2 c3 c4 = _; exact own_fn (fun h => absurd (show (8 : Nat) = 10 from congrArg List.length h) (by decide)) (fun h => absurd (show (4 : Nat) = 10 from congrArg List.length h) (by decide)) (fun h => hne (congrArg (fun l => List.getD l 3 0) h)) (fun h => absurd (show (5 : Nat) = 10 from congrArg List.length h) (by decide))
  · show own_find [(112 : Int32), (111 : Int32), (119 : Int32), (101 : Int32), c, (95 : Int32), (117 : Int32), (115 : Int32), (101 : Int32), (114 : Int32)] c1 c2 c3 c4 = _; exact own_fn (fun h => absurd (show (8 : Nat) = 10 from congrArg List.length h) (by decide)) (fun h => absurd (show (4 : Nat) = 10 from congrArg List.length h) (by decide)) (fun h => hne (congrArg (fun l => List.getD l 4 0) h)) (fun h => absurd (show (5 : Nat) = 10 from congrArg List.length h) (by decide))
  · show own_find [(112 : Int32), (111 : Int32), (119 : Int32), (101 : Int32), (114 : Int32), c, (117 : Int32), (115 : Int32), (101 : Int32), (114 : Int32)] c1 c2 c3 c4 = _; exact own_fn (fun h => absurd (show (8 : Nat) = 10 from congrArg List.length h) (by decide)) (fun h => absurd (show (4 : Nat) = 10 from congrArg List.length h) (by decide)) (fun h => hne (congrArg (fun l => List.getD l 5 0) h)) (fun h => absurd (show (5 : Nat) = 10 from congrArg List.length h) (by decide))
  · show own_find [(112 : Int32), (111 : Int32), (119 : Int32), (101 : Int32), (114 : Int32), (95 : Int32), c, (115 : Int32), (101 : Int32), (114 : Int32)] c1 c2 c3 c4 = _; exact own_fn (fun h => absurd (show (8 : Nat) = 10 from congrArg List.length h) (by decide)) (fun h => absurd (show (4 : Nat) = 10 from congrArg List.length h) (by decide)) (fun h => hne (congrArg (fun l => List.getD l 6 0) h)) (fun h => absurd (show (5 : Nat) = 10 from congrArg List.length h) (by decide))
  · show own_find [(112 : Int32), (111 : Int32), (119 : Int32), (101 : Int32), (114 : Int32), (95 : Int32), (117 : Int32), c, (101 : Int32), (114 : Int32)] c1 c2 c3 c4 = _; exact own_fn (fun h => absurd (show (8 : Nat) = 10 from congrArg List.length h) (by decide)) (fun h => absurd (show (4 : Nat) = 10 from congrArg List.length h) (by decide)) (fun h => hne (congrArg (fun l => List.getD l 7 0) h)) (fun h => absurd (show (5 : Nat) = 10 from congrArg List.length h) (by decide))
  · show own_find [(112 : Int32), (111 : Int32), (119 : Int32), (101 : Int32), (114 : Int32), (95 : Int32), (117 : Int32), (115 : Int32), c, (114 : Int32)] c1 c2 c3 c4 = _; exact own_fn (fun h => absurd (show (8 : Nat) = 10 from congrArg List.length h) (by decide)) (fun h => absurd (show (4 : Nat) = 10 from congrArg List.length h) (by decide)) (fun h => hne (congrArg (fun l => List.getD l 8 0) h)) (fun h => absurd (show (5 : Nat) = 10 from congrArg List.length h) (by decide))
  · show own_find [(112 : Int32), (111 : Int32), (119 : Int32), (101 : Int32), (114 : Int32), (95 : Int32), (117 : Int32), (115 : Int32), (101 : Int32), c] c1 c2 c3 c4 = _; exact own_fn (fun h => absurd (show (8 : Nat) = 10 from congrArg List.length h) (by decide)) (fun h => absurd (show (4 : Nat) = 10 from congrArg List.length h) (by decide)) (fun h => hne (congrArg (fun l => List.getD l 9 0) h)) (fun h => absurd (show (5 : Nat) = 10 from congrArg List.length h) (by decide))
theorem own_m0_2 (c1 c2 c3 c4 : Addr) : own_find (([112, 111, 119, 101, 114, 95, 117, 115, 101, 114, 0, 0] : List Int32).take 10) c1 c2 c3 c4 = .ref c3 := by
  show own_find ([112, 111, 119, 101, 114, 95, 117, 115, 101, 114] : List Int32) c1 c2 c3 c4 = _; exact own_f2 (fun h => absurd (show (8 : Nat) = 10 from congrArg List.length h) (by decide)) (fun h => absurd (show (4 : Nat) = 10 from congrArg List.length h) (by decide)) rfl
theorem own_m1e_2 {j : Nat} (h : j < 10) {c : Int32} (he : ([112, 111, 119, 101, 114, 95, 117, 115, 101, 114, 0, 0] : List Int32).getD j 0 = c) (c1 c2 c3 c4 : Addr) : own_find ((([112, 111, 119, 101, 114, 95, 117, 115, 101, 114, 0, 0] : List Int32).set j c).take 10) c1 c2 c3 c4 = .ref c3 := by
  rw [← he]
  rcases own_j2 h with rfl | rfl | rfl | rfl | rfl | rfl | rfl | rfl | rfl | rfl
  · show own_find ([112, 111, 119, 101, 114, 95, 117, 115, 101, 114] : List Int32) c1 c2 c3 c4 = _; exact own_f2 (fun h => absurd (show (8 : Nat) = 10 from congrArg List.length h) (by decide)) (fun h => absurd (show (4 : Nat) = 10 from congrArg List.length h) (by decide)) rfl
  · show own_find ([112, 111, 119, 101, 114, 95, 117, 115, 101, 114] : List Int32) c1 c2 c3 c4 = _; exact own_f2 (fun h => absurd (show (8 : Nat) = 10 from congrArg List.length h) (by decide)) (fun h => absurd (show (4 : Nat) = 10 from congrArg List.length h) (by decide)) rfl
  · show own_find ([112, 111, 119, 101, 114, 95, 117, 115, 101, 114] : List Int32) c1 c2 c3 c4 = _; exact own_f2 (fun h => absurd (show (8 : Nat) = 10 from congrArg List.length h) (by decide)) (fun h => absurd (show (4 : Nat) = 10 from congrArg List.length h) (by decide)) rfl
  · show own_find ([112, 111, 119, 101, 114, 95, 117, 115, 101, 114] : List Int32) c1 c2 c3 c4 = _; exact own_f2 (fun h => absurd (show (8 : Nat) = 10 from congrArg List.length h) (by decide)) (fun h => absurd (show (4 : Nat) = 10 from congrArg List.length h) (by decide)) rfl
  · show own_find ([112, 111, 119, 101, 114, 95, 117, 115, 101, 114] : List Int32) c1 c2 c3 c4 = _; exact own_f2 (fun h => absurd (show (8 : Nat) = 10 from congrArg List.length h) (by decide)) (fun h => absurd (show (4 : Nat) = 10 from congrArg List.length h) (by decide)) rfl
  · show own_find ([112, 111, 119, 101, 114, 95, 117, 115, 101, 114] : List Int32) c1 c2 c3 c4 = _; exact own_f2 (fun h => absurd (show (8 : Nat) = 10 from congrArg List.length h) (by decide)) (fun h => absurd (show (4 : Nat) = 10 from congrArg List.length h) (by decide)) rfl
  · show own_find ([112, 111, 119, 101, 114, 95, 117, 115, 101, 114] : List Int32) c1 c2 c3 c4 = _; exact own_f2 (fun h => absurd (show (8 : Nat) = 10 from congrArg List.length h) (by decide)) (fun h => absurd (show (4 : Nat) = 10 from congrArg List.length h) (by decide)) rfl
  · show own_find ([112, 111, 119, 101, 114, 95, 117, 115, 101, 114] : List Int32) c1 c2 c3 c4 = _; exact own_f2 (fun h => absurd (show (8 : Nat) = 10 from congrArg List.length h) (by decide)) (fun h => absurd (show (4 : Nat) = 10 from congrArg List.length h) (by decide)) rfl
  · show own_find ([112, 111, 119, 101, 114, 95, 117, 115, 101, 114] : List Int32) c1 c2 c3 c4 = _; exact own_f2 (fun h => absurd (show (8 : Nat) = 10 from congrArg List.length h) (by decide)) (fun h => absurd (show (4 : Nat) = 10 from congrArg List.length h) (by decide)) rfl
  · show own_find ([112, 111, 119, 101, 114, 95, 117, 115, 101, 114] : List Int32) c1 c2 c3 c4 = _; exact own_f2 (fun h => absurd (show (8 : Nat) = 10 from congrArg List.length h) (by decide)) (fun h => absurd (show (4 : Nat) = 10 from congrArg List.length h) (by decide)) rfl
theorem own_m2_2 {j : Nat} (h : j < 10) {c : Int32} (hc : c = ((([112, 111, 119, 101, 114, 95, 117, 115, 101, 114, 0, 0] : List Int32).getD j 0) ^^^ (32 : Int32)).toUInt32.toUInt16.toUInt32.toInt32) (c1 c2 c3 c4 : Addr) : own_find ((([112, 111, 119, 101, 114, 95, 117, 115, 101, 114, 0, 0] : List Int32).set j c).take 10) c1 c2 c3 c4 = .null := by
  refine own_m1_2 h ?_ c1 c2 c3 c4
  rw [hc]
  rcases own_j2 h with rfl | rfl | rfl | rfl | rfl | rfl | rfl | rfl | rfl | rfl <;> decide
theorem own_m3_2 {j : Nat} (h : j < 10) (c1 c2 c3 c4 : Addr) : own_find (([112, 111, 119, 101, 114, 95, 117, 115, 101, 114, 0, 0] : List Int32).take j) c1 c2 c3 c4 = .null := by
  rcases own_j2 h with rfl | rfl | rfl | rfl | rfl | rfl | rfl | rfl | rfl | rfl
  · show own_find [] c1 c2 c3 c4 = _; exact own_fn (fun h => absurd (show (8 : Nat) = 0 from congrArg List.length h) (by decide)) (fun h => absurd (show (4 : Nat) = 0 from congrArg List.length h) (by decide)) (fun h => absurd (show (10 : Nat) = 0 from congrArg List.length h) (by decide)) (fun h => absurd (show (5 : Nat) = 0 from congrArg List.length h) (by decide))
  · show own_find [(112 : Int32)] c1 c2 c3 c4 = _; exact own_fn (fun h => absurd (show (8 : Nat) = 1 from congrArg List.length h) (by decide)) (fun h => absurd (show (4 : Nat) = 1 from congrArg List.length h) (by decide)) (fun h => absurd (show (10 : Nat) = 1 from congrArg List.length h) (by decide)) (fun h => absurd (show (5 : Nat) = 1 from congrArg List.length h) (by decide))
  · show own_find [(112 : Int32), (111 : Int32)] c1 c2 c3 c4 = _; exact own_fn (fun h => absurd (show (8 : Nat) = 2 from congrArg List.length h) (by decide)) (fun h => absurd (show (4 : Nat) = 2 from congrArg List.length h) (by decide)) (fun h => absurd (show (10 : Nat) = 2 from congrArg List.length h) (by decide)) (fun h => absurd (show (5 : Nat) = 2 from congrArg List.length h) (by decide))
  · show own_find [(112 : Int32), (111 : Int32), (119 : Int32)] c1 c2 c3 c4 = _; exact own_fn (fun h => absurd (show (8 : Nat) = 3 from congrArg List.length h) (by decide)) (fun h => absurd (show (4 : Nat) = 3 from congrArg List.length h) (by decide)) (fun h => absurd (show (10 : Nat) = 3 from congrArg List.length h) (by decide)) (fun h => absurd (show (5 : Nat) = 3 from congrArg List.length h) (by decide))
  · show own_find [(112 : Int32), (111 : Int32), (119 : Int32), (101 : Int32)] c1 c2 c3 c4 = _; exact own_fn (fun h => absurd (show (8 : Nat) = 4 from congrArg List.length h) (by decide)) (fun h => absurd (show (117 : Int32) = 112 from congrArg (fun l => List.getD l 0 0) h) (by decide)) (fun h => absurd (show (10 : Nat) = 4 from congrArg List.length h) (by decide)) (fun h => absurd (show (5 : Nat) = 4 from congrArg List.length h) (by decide))
  · show own_find [(112 : Int32), (111 : Int32), (119 : Int32), (101 : Int32), (114 : Int32)] c1 c2 c3 c4 = _; exact own_fn (fun h => absurd (show (8 : Nat) = 5 from congrArg List.length h) (by decide)) (fun h => absurd (show (4 : Nat) = 5 from congrArg List.length h) (by decide)) (fun h => absurd (show (10 : Nat) = 5 from congrArg List.length h) (by decide)) (fun h => absurd (show (97 : Int32) = 112 from congrArg (fun l => List.getD l 0 0) h) (by decide))
  · show own_find [(112 : Int32), (111 : Int32), (119 : Int32), (101 : Int32), (114 : Int32), (95 : Int32)] c1 c2 c3 c4 = _; exact own_fn (fun h => absurd (show (8 : Nat) = 6 from congrArg List.length h) (by decide)) (fun h => absurd (show (4 : Nat) = 6 from congrArg List.length h) (by decide)) (fun h => absurd (show (10 : Nat) = 6 from congrArg List.length h) (by decide)) (fun h => absurd (show (5 : Nat) = 6 from congrArg List.length h) (by decide))
  · show own_find [(112 : Int32), (111 : Int32), (119 : Int32), (101 : Int32), (114 : Int32), (95 : Int32), (117 : Int32)] c1 c2 c3 c4 = _; exact own_fn (fun h => absurd (show (8 : Nat) = 7 from congrArg List.length h) (by decide)) (fun h => absurd (show (4 : Nat) = 7 from congrArg List.length h) (by decide)) (fun h => absurd (show (10 : Nat) = 7 from congrArg List.length h) (by decide)) (fun h => absurd (show (5 : Nat) = 7 from congrArg List.length h) (by decide))
  · show own_find [(112 : Int32), (111 : Int32), (119 : Int32), (101 : Int32), (114 : Int32), (95 : Int32), (117 : Int32), (115 : Int32)] c1 c2 c3 c4 = _; exact own_fn (fun h => absurd (show (111 : Int32) = 112 from congrArg (fun l => List.getD l 0 0) h) (by decide)) (fun h => absurd (show (4 : Nat) = 8 from congrArg List.length h) (by decide)) (fun h => absurd (show (10 : Nat) = 8 from congrArg List.length h) (by decide)) (fun h => absurd (show (5 : Nat) = 8 from congrArg List.length h) (by decide))
  · show own_find [(112 : Int32), (111 : Int32), (119 : Int32), (101 : Int32), (114 : Int32), (95 : Int32), (117 : Int32), (115 : Int32), (101 : Int32)] c1 c2 c3 c4 = _; exact own_fn (fun h => absurd (show (8 : Nat) = 9 from congrArg List.length h) (by decide)) (fun h => absurd (show (4 : Nat) = 9 from congrArg List.length h) (by decide)) (fun h => absurd (show (10 : Nat) = 9 from congrArg List.length h) (by decide)) (fun h => absurd (show (5 : Nat) = 9 from congrArg List.length h) (by decide))
theorem own_m4_2 (c : Int32) (c1 c2 c3 c4 : Addr) : own_find ((([112, 111, 119, 101, 114, 95, 117, 115, 101, 114, 0, 0] : List Int32).set 10 c).take 11) c1 c2 c3 c4 = .null := by
  show own_find [(112 : Int32), (111 : Int32), (119 : Int32), (101 : Int32), (114 : Int32), (95 : Int32), (117 : Int32), (115 : Int32), (101 : Int32), (114 : Int32), c] c1 c2 c3 c4 = _; exact own_fn (fun h => absurd (show (8 : Nat) = 11 from congrArg List.length h) (by decide)) (fun h => absurd (show (4 : Nat) = 11 from congrArg List.length h) (by decide)) (fun h => absurd (show (10 : Nat) = 11 from congrArg List.length h) (by decide)) (fun h => absurd (show (5 : Nat) = 11 from congrArg List.length h) (by decide))
theorem own_p2 (x : Int32) : ∃ j : Nat, j < 10 ∧ (x &&& (2147483647 : Int32)) % (10 : Int32) = Int32.ofNat j := by
  have h := c_mask x 2147483647 31 (by decide) (by decide)
  have r := (c_irem (x &&& 2147483647) 10 10 rfl).1 (by omega)
  have r2 := Int.emod_nonneg (x &&& 2147483647).toInt (b := 10) (by decide)
  refine ⟨((x &&& (2147483647 : Int32)) % (10 : Int32)).toInt.toNat, by omega, ?_⟩
  apply Int32.toInt_inj.mp
  rw [Int32.toInt_ofNat_of_lt (by omega)]
  omega
theorem own_j3 {j : Nat} (h : j < 5) : j = 0 ∨ j = 1 ∨ j = 2 ∨ j = 3 ∨ j = 4 := by omega
theorem own_m1_3 {j : Nat} (h : j < 5) {c : Int32} (hne : ¬ ([97, 100, 109, 105, 110, 0, 0, 0, 0, 0, 0, 0] : List Int32).getD j 0 = c) (c1 c2 c3 c4 : Addr) : own_find ((([97, 100, 109, 105, 110, 0, 0, 0, 0, 0, 0, 0] : List Int32).set j c).take 5) c1 c2 c3 c4 = .null := by
  rcases own_j3 h with rfl | rfl | rfl | rfl | rfl
  · show own_find [c, (100 : Int32), (109 : Int32), (105 : Int32), (110 : Int32)] c1 c2 c3 c4 = _; exact own_fn (fun h => absurd (show (8 : Nat) = 5 from congrArg List.length h) (by decide)) (fun h => absurd (show (4 : Nat) = 5 from congrArg List.length h) (by decide)) (fun h => absurd (show (10 : Nat) = 5 from congrArg List.length h) (by decide)) (fun h => hne (congrArg (fun l => List.getD l 0 0) h))
  · show own_find [(97 : Int32), c, (109 : Int32), (105 : Int32), (110 : Int32)] c1 c2 c3 c4 = _; exact own_fn (fun h => absurd (show (8 : Nat) = 5 from congrArg List.length h) (by decide)) (fun h => absurd (show (4 : Nat) = 5 from congrArg List.length h) (by decide)) (fun h => absurd (show (10 : Nat) = 5 from congrArg List.length h) (by decide)) (fun h => hne (congrArg (fun l => List.getD l 1 0) h))
  · show own_find [(97 : Int32), (100 : Int32), c, (105 : Int32), (110 : Int32)] c1 c2 c3 c4 = _; exact own_fn (fun h => absurd (show (8 : Nat) = 5 from congrArg List.length h) (by decide)) (fun h => absurd (show (4 : Nat) = 5 from congrArg List.length h) (by decide)) (fun h => absurd (show (10 : Nat) = 5 from congrArg List.length h) (by decide)) (fun h => hne (congrArg (fun l => List.getD l 2 0) h))
  · show own_find [(97 : Int32), (100 : Int32), (109 : Int32), c, (110 : Int32)] c1 c2 c3 c4 = _; exact own_fn (fun h => absurd (show (8 : Nat) = 5 from congrArg List.length h) (by decide)) (fun h => absurd (show (4 : Nat) = 5 from congrArg List.length h) (by decide)) (fun h => absurd (show (10 : Nat) = 5 from congrArg List.length h) (by decide)) (fun h => hne (congrArg (fun l => List.getD l 3 0) h))
  · show own_find [(97 : Int32), (100 : Int32), (109 : Int32), (105 : Int32), c] c1 c2 c3 c4 = _; exact own_fn (fun h => absurd (show (8 : Nat) = 5 from congrArg List.length h) (by decide)) (fun h => absurd (show (4 : Nat) = 5 from congrArg List.length h) (by decide)) (fun h => absurd (show (10 : Nat) = 5 from congrArg List.length h) (by decide)) (fun h => hne (congrArg (fun l => List.getD l 4 0) h))
theorem own_m0_3 (c1 c2 c3 c4 : Addr) : own_find (([97, 100, 109, 105, 110, 0, 0, 0, 0, 0, 0, 0] : List Int32).take 5) c1 c2 c3 c4 = .ref c4 := by
  show own_find ([97, 100, 109, 105, 110] : List Int32) c1 c2 c3 c4 = _; exact own_f3 (fun h => absurd (show (8 : Nat) = 5 from congrArg List.length h) (by decide)) (fun h => absurd (show (4 : Nat) = 5 from congrArg List.length h) (by decide)) (fun h => absurd (show (10 : Nat) = 5 from congrArg List.length h) (by decide)) rfl
theorem own_m1e_3 {j : Nat} (h : j < 5) {c : Int32} (he : ([97, 100, 109, 105, 110, 0, 0, 0, 0, 0, 0, 0] : List Int32).getD j 0 = c) (c1 c2 c3 c4 : Addr) : own_find ((([97, 100, 109, 105, 110, 0, 0, 0, 0, 0, 0, 0] : List Int32).set j c).take 5) c1 c2 c3 c4 = .ref c4 := by
  rw [← he]
  rcases own_j3 h with rfl | rfl | rfl | rfl | rfl
  · show own_find ([97, 100, 109, 105, 110] : List Int32) c1 c2 c3 c4 = _; exact own_f3 (fun h => absurd (show (8 : Nat) = 5 from congrArg List.length h) (by decide)) (fun h => absurd (show (4 : Nat) = 5 from congrArg List.length h) (by decide)) (fun h => absurd (show (10 : Nat) = 5 from congrArg List.length h) (by decide)) rfl
  · show own_find ([97, 100, 109, 105, 110] : List Int32) c1 c2 c3 c4 = _; exact own_f3 (fun h => absurd (show (8 : Nat) = 5 from congrArg List.length h) (by decide)) (fun h => absurd (show (4 : Nat) = 5 from congrArg List.length h) (by decide)) (fun h => absurd (show (10 : Nat) = 5 from congrArg List.length h) (by decide)) rfl
  · show own_find ([97, 100, 109, 105, 110] : List Int32) c1 c2 c3 c4 = _; exact own_f3 (fun h => absurd (show (8 : Nat) = 5 from congrArg List.length h) (by decide)) (fun h => absurd (show (4 : Nat) = 5 from congrArg List.length h) (by decide)) (fun h => absurd (show (10 : Nat) = 5 from congrArg List.length h) (by decide)) rfl
  · show own_find ([97, 100, 109, 105, 110] : List Int32) c1 c2 c3 c4 = _; exact own_f3 (fun h => absurd (show (8 : Nat) = 5 from congrArg List.length h) (by decide)) (fun h => absurd (show (4 : Nat) = 5 from congrArg List.length h) (by decide)) (fun h => absurd (show (10 : Nat) = 5 from congrArg List.length h) (by decide)) rfl
  · show own_find ([97, 100, 109, 105, 110] : List Int32) c1 c2 c3 c4 = _; exact own_f3 (fun h => absurd (show (8 : Nat) = 5 from congrArg List.length h) (by decide)) (fun h => absurd (show (4 : Nat) = 5 from congrArg List.length h) (by decide)) (fun h => absurd (show (10 : Nat) = 5 from congrArg List.length h) (by decide)) rfl
theorem own_m2_3 {j : Nat} (h : j < 5) {c : Int32} (hc : c = ((([97, 100, 109, 105, 110, 0, 0, 0, 0, 0, 0, 0] : List Int32).getD j 0) ^^^ (32 : Int32)).toUInt32.toUInt16.toUInt32.toInt32) (c1 c2 c3 c4 : Addr) : own_find ((([97, 100, 109, 105, 110, 0, 0, 0, 0, 0, 0, 0] : List Int32).set j c).take 5) c1 c2 c3 c4 = .null := by
  refine own_m1_3 h ?_ c1 c2 c3 c4
  rw [hc]
  rcases own_j3 h with rfl | rfl | rfl | rfl | rfl <;> decide
theorem own_m3_3 {j : Nat} (h : j < 5) (c1 c2 c3 c4 : Addr) : own_find (([97, 100, 109, 105, 110, 0, 0, 0, 0, 0, 0, 0] : List Int32).take j) c1 c2 c3 c4 = .null := by
  rcases own_j3 h with rfl | rfl | rfl | rfl | rfl
  · show own_find [] c1 c2 c3 c4 = _; exact own_fn (fun h => absurd (show (8 : Nat) = 0 from congrArg List.length h) (by decide)) (fun h => absurd (show (4 : Nat) = 0 from congrArg List.length h) (by decide)) (fun h => absurd (show (10 : Nat) = 0 from congrArg List.length h) (by decide)) (fun h => absurd (show (5 : Nat) = 0 from congrArg List.length h) (by decide))
  · show own_find [(97 : Int32)] c1 c2 c3 c4 = _; exact own_fn (fun h => absurd (show (8 : Nat) = 1 from congrArg List.length h) (by decide)) (fun h => absurd (show (4 : Nat) = 1 from congrArg List.length h) (by decide)) (fun h => absurd (show (10 : Nat) = 1 from congrArg List.length h) (by decide)) (fun h => absurd (show (5 : Nat) = 1 from congrArg List.length h) (by decide))
  · show own_find [(97 : Int32), (100 : Int32)] c1 c2 c3 c4 = _; exact own_fn (fun h => absurd (show (8 : Nat) = 2 from congrArg List.length h) (by decide)) (fun h => absurd (show (4 : Nat) = 2 from congrArg List.length h) (by decide)) (fun h => absurd (show (10 : Nat) = 2 from congrArg List.length h) (by decide)) (fun h => absurd (show (5 : Nat) = 2 from congrArg List.length h) (by decide))
  · show own_find [(97 : Int32), (100 : Int32), (109 : Int32)] c1 c2 c3 c4 = _; exact own_fn (fun h => absurd (show (8 : Nat) = 3 from congrArg List.length h) (by decide)) (fun h => absurd (show (4 : Nat) = 3 from congrArg List.length h) (by decide)) (fun h => absurd (show (10 : Nat) = 3 from congrArg List.length h) (by decide)) (fun h => absurd (show (5 : Nat) = 3 from congrArg List.length h) (by decide))
  · show own_find [(97 : Int32), (100 : Int32), (109 : Int32), (105 : Int32)] c1 c2 c3 c4 = _; exact own_fn (fun h => absurd (show (8 : Nat) = 4 from congrArg List.length h) (by decide)) (fun h => absurd (show (117 : Int32) = 97 from congrArg (fun l => List.getD l 0 0) h) (by decide)) (fun h => absurd (show (10 : Nat) = 4 from congrArg List.length h) (by decide)) (fun h => absurd (show (5 : Nat) = 4 from congrArg List.length h) (by decide))
theorem own_m4_3 (c : Int32) (c1 c2 c3 c4 : Addr) : own_find ((([97, 100, 109, 105, 110, 0, 0, 0, 0, 0, 0, 0] : List Int32).set 5 c).take 6) c1 c2 c3 c4 = .null := by
  show own_find [(97 : Int32), (100 : Int32), (109 : Int32), (105 : Int32), (110 : Int32), c] c1 c2 c3 c4 = _; exact own_fn (fun h => absurd (show (8 : Nat) = 6 from congrArg List.length h) (by decide)) (fun h => absurd (show (4 : Nat) = 6 from congrArg List.length h) (by decide)) (fun h => absurd (show (10 : Nat) = 6 from congrArg List.length h) (by decide)) (fun h => absurd (show (5 : Nat) = 6 from congrArg List.length h) (by decide))
theorem own_p3 (x : Int32) : ∃ j : Nat, j < 5 ∧ (x &&& (2147483647 : Int32)) % (5 : Int32) = Int32.ofNat j := by
  have h := c_mask x 2147483647 31 (by decide) (by decide)
  have r := (c_irem (x &&& 2147483647) 5 5 rfl).1 (by omega)
  have r2 := Int.emod_nonneg (x &&& 2147483647).toInt (b := 5) (by decide)
  refine ⟨((x &&& (2147483647 : Int32)) % (5 : Int32)).toInt.toNat, by omega, ?_⟩
  apply Int32.toInt_inj.mp
  rw [Int32.toInt_ofNat_of_lt (by omega)]
  omega
def own_Lab (cs : List Int32) (rr c1 c2 c3 c4 : Addr) : Prop := (cs = ([111, 98, 115, 101, 114, 118, 101, 114] : List Int32) ∧ rr = c1) ∨ (cs = ([117, 115, 101, 114] : List Int32) ∧ rr = c2) ∨ (cs = ([112, 111, 119, 101, 114, 95, 117, 115, 101, 114] : List Int32) ∧ rr = c3) ∨ (cs = ([97, 100, 109, 105, 110] : List Int32) ∧ rr = c4)
def own_b12 (cs : List Int32) : List Int32 := [cs.getD 0 0, cs.getD 1 0, cs.getD 2 0, cs.getD 3 0, cs.getD 4 0, cs.getD 5 0, cs.getD 6 0, cs.getD 7 0, cs.getD 8 0, cs.getD 9 0, cs.getD 10 0, 0]
theorem own_LabL {cs : List Int32} {rr c1 c2 c3 c4 : Addr} (h : own_Lab cs rr c1 c2 c3 c4) : 0 < cs.length ∧ cs.length ≤ 10 := by
  rcases h with ⟨rfl, rfl⟩ | ⟨rfl, rfl⟩ | ⟨rfl, rfl⟩ | ⟨rfl, rfl⟩ <;> decide
theorem own_LabZ {cs : List Int32} {rr c1 c2 c3 c4 : Addr} (h : own_Lab cs rr c1 c2 c3 c4) : ¬ (Int32.ofNat cs.length = 0) := by
  rcases h with ⟨rfl, rfl⟩ | ⟨rfl, rfl⟩ | ⟨rfl, rfl⟩ | ⟨rfl, rfl⟩ <;> decide
theorem own_LabS {cs : List Int32} {rr c1 c2 c3 c4 : Addr} (h : own_Lab cs rr c1 c2 c3 c4) : Int32.ofNat cs.length + (1 : Int32) = Int32.ofNat (cs.length + 1) := by
  rcases h with ⟨rfl, rfl⟩ | ⟨rfl, rfl⟩ | ⟨rfl, rfl⟩ | ⟨rfl, rfl⟩ <;> decide
theorem own_Labp {cs : List Int32} {rr c1 c2 c3 c4 : Addr} (h : own_Lab cs rr c1 c2 c3 c4) (x : Int32) : ∃ j : Nat, j < cs.length ∧ (x &&& (2147483647 : Int32)) % Int32.ofNat cs.length = Int32.ofNat j := by
  rcases h with ⟨rfl, rfl⟩ | ⟨rfl, rfl⟩ | ⟨rfl, rfl⟩ | ⟨rfl, rfl⟩
  · exact own_p0 x
  · exact own_p1 x
  · exact own_p2 x
  · exact own_p3 x
theorem own_M0 {cs bl : List Int32} {rr c1 c2 c3 c4 : Addr} (h : own_Lab cs rr c1 c2 c3 c4) (hb : bl = own_b12 cs)  : own_find (bl.take cs.length) c1 c2 c3 c4 = .ref rr := by
  subst hb
  rcases h with ⟨rfl, rfl⟩ | ⟨rfl, rfl⟩ | ⟨rfl, rfl⟩ | ⟨rfl, rfl⟩
  · exact own_m0_0 _ _ _ _
  · exact own_m0_1 _ _ _ _
  · exact own_m0_2 _ _ _ _
  · exact own_m0_3 _ _ _ _
theorem own_M1 {cs bl : List Int32} {rr c1 c2 c3 c4 : Addr} (h : own_Lab cs rr c1 c2 c3 c4) (hb : bl = own_b12 cs) {j : Nat} (hj : j < cs.length) {c : Int32} (hne : ¬ bl.getD j 0 = c) : own_find ((bl.set j c).take cs.length) c1 c2 c3 c4 = .null := by
  subst hb
  rcases h with ⟨rfl, rfl⟩ | ⟨rfl, rfl⟩ | ⟨rfl, rfl⟩ | ⟨rfl, rfl⟩
  · exact own_m1_0 hj hne _ _ _ _
  · exact own_m1_1 hj hne _ _ _ _
  · exact own_m1_2 hj hne _ _ _ _
  · exact own_m1_3 hj hne _ _ _ _
theorem own_M1e {cs bl : List Int32} {rr c1 c2 c3 c4 : Addr} (h : own_Lab cs rr c1 c2 c3 c4) (hb : bl = own_b12 cs) {j : Nat} (hj : j < cs.length) {c : Int32} (he : bl.getD j 0 = c) : own_find ((bl.set j c).take cs.length) c1 c2 c3 c4 = .ref rr := by
  subst hb
  rcases h with ⟨rfl, rfl⟩ | ⟨rfl, rfl⟩ | ⟨rfl, rfl⟩ | ⟨rfl, rfl⟩
  · exact own_m1e_0 hj he _ _ _ _
  · exact own_m1e_1 hj he _ _ _ _
  · exact own_m1e_2 hj he _ _ _ _
  · exact own_m1e_3 hj he _ _ _ _
theorem own_M2 {cs bl : List Int32} {rr c1 c2 c3 c4 : Addr} (h : own_Lab cs rr c1 c2 c3 c4) (hb : bl = own_b12 cs) {j : Nat} (hj : j < cs.length) {c : Int32} (hc : c = ((bl.getD j 0) ^^^ (32 : Int32)).toUInt32.toUInt16.toUInt32.toInt32) : own_find ((bl.set j c).take cs.length) c1 c2 c3 c4 = .null := by
  subst hb
  rcases h with ⟨rfl, rfl⟩ | ⟨rfl, rfl⟩ | ⟨rfl, rfl⟩ | ⟨rfl, rfl⟩
  · exact own_m2_0 hj hc _ _ _ _
  · exact own_m2_1 hj hc _ _ _ _
  · exact own_m2_2 hj hc _ _ _ _
  · exact own_m2_3 hj hc _ _ _ _
theorem own_M3 {cs bl : List Int32} {rr c1 c2 c3 c4 : Addr} (h : own_Lab cs rr c1 c2 c3 c4) (hb : bl = own_b12 cs) {j : Nat} (hj : j < cs.length) : own_find (bl.take j) c1 c2 c3 c4 = .null := by
  subst hb
  rcases h with ⟨rfl, rfl⟩ | ⟨rfl, rfl⟩ | ⟨rfl, rfl⟩ | ⟨rfl, rfl⟩
  · exact own_m3_0 hj _ _ _ _
  · exact own_m3_1 hj _ _ _ _
  · exact own_m3_2 hj _ _ _ _
  · exact own_m3_3 hj _ _ _ _
theorem own_M4 {cs bl : List Int32} {rr c1 c2 c3 c4 : Addr} (h : own_Lab cs rr c1 c2 c3 c4) (hb : bl = own_b12 cs) (c : Int32) : own_find ((bl.set cs.length c).take (cs.length + 1)) c1 c2 c3 c4 = .null := by
  subst hb
  rcases h with ⟨rfl, rfl⟩ | ⟨rfl, rfl⟩ | ⟨rfl, rfl⟩ | ⟨rfl, rfl⟩
  · exact own_m4_0 c _ _ _ _
  · exact own_m4_1 c _ _ _ _
  · exact own_m4_2 c _ _ _ _
  · exact own_m4_3 c _ _ _ _
theorem own_gd {cs : List Int32} {i : Nat} (h : cs.length ≤ i) : cs.getD i 0 = 0 := by
  rw [List.getD_eq_getElem?_getD, List.getElem?_eq_none h]; rfl
theorem own_bd {cs : List Int32} (h : ∀ c ∈ cs, ¬ c < 0 ∧ ¬ (65535 : Int32) < c) (i : Nat) : ¬ cs.getD i 0 < 0 ∧ ¬ (65535 : Int32) < cs.getD i 0 := by
  by_cases hi : i < cs.length
  · exact h _ (oj_mem hi)
  · rw [own_gd (by omega)]; exact ⟨by decide, by decide⟩

theorem d14_0 : dd jdk_52_method_21_code 0 (.iconst 0) 1 := by decide +kernel
theorem d14_1 : dd jdk_52_method_21_code 1 (.istore 5) 2 := by decide +kernel
theorem d14_3 : dd jdk_52_method_21_code 3 (.iload 5) 2 := by decide +kernel
theorem d14_5 : dd jdk_52_method_21_code 5 (.iload 4) 2 := by decide +kernel
theorem d14_7 : dd jdk_52_method_21_code 7 (.if_icmp .ge 37) 3 := by decide +kernel
theorem d14_44 : dd jdk_52_method_21_code 44 (.iload 4) 2 := by decide +kernel
theorem d14_46 : dd jdk_52_method_21_code 46 .ireturn 1 := by decide +kernel
theorem d14_10 : dd jdk_52_method_21_code 10 (.aload_n 0) 1 := by decide +kernel
theorem d14_11 : dd jdk_52_method_21_code 11 (.iload_n 1) 1 := by decide +kernel
theorem d14_12 : dd jdk_52_method_21_code 12 .caload 1 := by decide +kernel
theorem d14_13 : dd jdk_52_method_21_code 13 (.istore 6) 2 := by decide +kernel
theorem d14_15 : dd jdk_52_method_21_code 15 (.iload 6) 2 := by decide +kernel
theorem d14_17 : dd jdk_52_method_21_code 17 (.sipush 255) 3 := by decide +kernel
theorem d14_20 : dd jdk_52_method_21_code 20 (.if_icmp .le 6) 3 := by decide +kernel
theorem d14_23 : dd jdk_52_method_21_code 23 (.iload 5) 2 := by decide +kernel
theorem d14_25 : dd jdk_52_method_21_code 25 .ireturn 1 := by decide +kernel
theorem d14_26 : dd jdk_52_method_21_code 26 (.aload_n 2) 1 := by decide +kernel
theorem d14_27 : dd jdk_52_method_21_code 27 (.iload_n 3) 1 := by decide +kernel
theorem d14_28 : dd jdk_52_method_21_code 28 (.iload 6) 2 := by decide +kernel
theorem d14_30 : dd jdk_52_method_21_code 30 .i2b 1 := by decide +kernel
theorem d14_31 : dd jdk_52_method_21_code 31 .bastore 1 := by decide +kernel
theorem d14_32 : dd jdk_52_method_21_code 32 (.iinc 1 1) 3 := by decide +kernel
theorem d14_35 : dd jdk_52_method_21_code 35 (.iinc 3 1) 3 := by decide +kernel
theorem d14_38 : dd jdk_52_method_21_code 38 (.iinc 5 1) 3 := by decide +kernel
theorem d14_41 : dd jdk_52_method_21_code 41 (.goto (-38)) 3 := by decide +kernel
abbrev y_0 : MethodName := ⟨"java/lang/StringUTF16", "compress", "([CI[BII)I"⟩
theorem pn_0 : plainFor y_0 = true := by first | exact plainFor_of_name (by first | (simp [plainName, overriddenIn]; done) | decide +kernel) | decide +kernel
theorem ef_rmCmp5 (m : MethodId) (a1 : Addr) (a3 : Addr) (pn : Int32) : entryFrame m #[(.ref a1), (.int 0), (.ref a3), (.int 0), (.int pn)] 7 = mkF m 0 #[sr a1, si 0, sr a3, si 0, si pn, un, un] [] := by first | (simp [entryFrame, mkF, argsToLocals, Value.category]; done) | rfl
def Q_rmCmp5 (Z : State) (a1 : Addr) (a3 : Addr) (pn : Int32) (kC : ClassId) (kB : ClassId) (cs : List Int32) (dC : Value) (h0 : Heap) (n0 : Nat) (v : Option Value) (h : Heap) (L : List Loc) : Prop := v = some (.int (Int32.ofNat (own_k cs))) ∧ Fr n0 L ∧ Keep h0 h [a3] ∧ (Arv Z h a3 kB .byte pn ((cs.take (own_k cs)).map fun c => Value.int (StrChars.lo8 c)) (.int 0))
set_option maxRecDepth 65536 in
set_option maxHeartbeats 40000000 in
theorem rmCmp5 (l : Launch) (Z : State) (a0 : Array Value) (hw : ∀ d ∈ tables_1, d.before a0 Z = true) (ws : List Jvm.Cond) (a1 : Addr) (a3 : Addr) (pn : Int32) (kC : ClassId) (kB : ClassId) (cs : List Int32) (dC : Value) (h0 : Heap) (n0 : Nat) (Z0 : n0 ≤ h0.size) (hn : pn = Int32.ofNat cs.length) (hl : cs.length ≤ 12) (hp2 : Arv Z h0 a1 kC .char pn (cs.map Value.int) dC) (hp3 : Arv Z h0 a3 kB .byte pn [] (.int 0)) (hp4 : n0 ≤ a3) (hp5 : a1 ≠ a3) :
    MetFree l y_0 (head1 (Jvm.Cond.code y_0 jdk_52_method_21_code 7 (some .int) :: ws) ({ frames := 0, cells := 0, slots := 0, locals := 0 } : Room)) (fun a U => a = #[(.ref a1), (.int 0), (.ref a3), (.int 0), (.int pn)] ∧ Z.Warmed39 U.vm ∧ U.heap = h0) (fun _ _ _ _ _ => True) (fun _ U o U' => ∃ v L, o = .returned v ∧ Q_rmCmp5 Z a1 a3 pn kC kB cs dC h0 n0 v U'.heap L ∧ FrameEnd U o U' L ({ frames := 0, cells := 0, slots := 0, locals := 0 } : Room).cells ({ frames := 0, cells := 0, slots := 0, locals := 0 } : Room).slots) := by
 refine bodyOf pn_0 (fun m => ef_rmCmp5 m a1 a3 pn) ?_
 intro p e s m below meth c T0 X0 hx hby hml hown hnm hret hk hZ e0
 have N0 := Fr.nil n0
 have K0 : Keep h0 h0 [a3] := Keep.refl _ _
 have ne_a1_a3 := hp5
 refine go (S' := T0.setTop (mkF m 3 #[sr a1, si 0, sr a3, si 0, si pn, si 0, un] [])) (fun t k => XS.iconst X0.here hx rfl (hb hby d14_0) (XS.istore X0.here hx rfl (hb hby d14_1) rfl (l' := #[sr a1, si 0, sr a3, si 0, si pn, si 0, un]) rfl k)) ?_
 have loop5 : ∀ (r : Nat) (i : Nat) (s6 : Slot) (T : State) (locs : List Loc) (h : Heap), (i + r = cs.length) → (∀ j, j < i → ¬ (255 : Int32) < cs.getD j 0) → (One s6) → Stand p l e ({ frames := 0, cells := 0, slots := 0, locals := 0 } : Room) s m #[(.ref a1), (.int 0), (.ref a3), (.int 0), (.int pn)] below meth c T locs 0 0 → T.heap = h → Fr n0 locs → Keep h0 h [a3] → Arv Z h a1 kC .char pn (cs.map Value.int) dC → Arv Z h a3 kB .byte pn ((cs.take i).map fun c => Value.int (StrChars.lo8 c)) (.int 0) → Goes p.tables e below (EndP s below (Q_rmCmp5 Z a1 a3 pn kC kB cs dC h0 n0) ({ frames := 0, cells := 0, slots := 0, locals := 0 } : Room).cells ({ frames := 0, cells := 0, slots := 0, locals := 0 } : Room).slots) (T.setTop (mkF m 3 #[sr a1, si (Int32.ofNat i), sr a3, si (Int32.ofNat i), si pn, si (Int32.ofNat i), s6] [])) := by
  intro r
  induction r with
  | zero =>
   intro i s6 T locs h hi hbd hs6 X eT N K lf1_0 lf1_1
   refine go (S' := T.setTop (mkF m 7 #[sr a1, si (Int32.ofNat i), sr a3, si (Int32.ofNat i), si pn, si (Int32.ofNat i), s6] [(.int pn), (.int (Int32.ofNat i))])) (fun t k => XS.iload X.here hx rfl (hb hby d14_3) rfl (XS.iload X.here hx rfl (hb hby d14_5) rfl k)) ?_
   have hc2 : ¬ ((Int32.ofNat i) < pn) := by rw [hn]; exact oj_nlt (by omega) (by omega) (by omega)
   refine go (S' := T.setTop (mkF m 46 #[sr a1, si (Int32.ofNat i), sr a3, si (Int32.ofNat i), si pn, si (Int32.ofNat i), s6] [(.int pn)])) (fun t k => XS.icmpYes X.here hx rfl (pc0 := 7) (pc' := 44) rfl (hb hby d14_7) rfl (flt hc2).2.1 (by decide) (by decide) (XS.iload X.here hx rfl (hb hby d14_44) rfl k)) ?_
   refine finI X hx hk hret (hb hby d14_46) (by decide) (by decide) ?_
   have hk5 : own_k cs = i := (own_k_all cs (fun j hj => hbd j (by omega))).trans (by omega)
   rw [eT]
   refine ⟨?_, N, K, ?_⟩
   · rw [hk5, hn, ← (by omega : i = cs.length)]
   · rw [hk5]; exact lf1_1
  | succ r ih =>
   intro i s6 T locs h hi hbd hs6 X eT N K lf1_0 lf1_1
   refine go (S' := T.setTop (mkF m 7 #[sr a1, si (Int32.ofNat i), sr a3, si (Int32.ofNat i), si pn, si (Int32.ofNat i), s6] [(.int pn), (.int (Int32.ofNat i))])) (fun t k => XS.iload X.here hx rfl (hb hby d14_3) rfl (XS.iload X.here hx rfl (hb hby d14_5) rfl k)) ?_
   have hc3 : (Int32.ofNat i) < pn := by rw [hn]; exact oj_lt (by omega) (by omega)
   refine go (S' := T.setTop (mkF m 12 #[sr a1, si (Int32.ofNat i), sr a3, si (Int32.ofNat i), si pn, si (Int32.ofNat i), s6] [(.int (Int32.ofNat i)), (.ref a1)])) (fun t k => XS.icmpNo X.here hx rfl (hb hby d14_7) rfl (tlt hc3).2.1 (XS.aloadN X.here hx rfl (hb hby d14_10) rfl rfl (XS.iloadN X.here hx rfl (hb hby d14_11) rfl k))) ?_
   obtain ⟨cl4, Ar4, q4, S4, M4, H4, G4⟩ := id lf1_0
   have hin4 : ¬ ((Int32.ofNat i) < 0 ∨ cl4.slots.size ≤ ((Int32.ofNat i)).toNatClampNeg) := oj_in S4 hn (by omega) (by omega)
   have hat4 : cl4.slots[((Int32.ofNat i)).toNatClampNeg]? = some (.int (cs.getD i 0)) := Has.at H4 hin4 (by rw [oj_n (by omega)]; exact oj_get cs (by omega) _)
   refine go (S' := T.setTop (mkF m 20 #[sr a1, si (Int32.ofNat i), sr a3, si (Int32.ofNat i), si pn, si (Int32.ofNat i), si (cs.getD i 0)] [(.int 255), (.int (cs.getD i 0))])) (fun t k => X.caload hx (j := (Int32.ofNat i)) (v := (.int (cs.getD i 0))) (by rw [eT]; exact Ar4.1) (State.isArrayOf_alike hZ.alike Ar4.2.1) Ar4.2.2 hin4 hat4 (g := (mkF m 12 #[sr a1, si (Int32.ofNat i), sr a3, si (Int32.ofNat i), si pn, si (Int32.ofNat i), s6] [(.int (Int32.ofNat i)), (.ref a1)])) rfl rfl (hb hby d14_12) _ (XS.istore X.here hx rfl (hb hby d14_13) rfl (l' := #[sr a1, si (Int32.ofNat i), sr a3, si (Int32.ofNat i), si pn, si (Int32.ofNat i), si (cs.getD i 0)]) (XS.store1 rfl hs6 rfl) (XS.iload X.here hx rfl (hb hby d14_15) rfl (XS.sipush X.here hx rfl (hb hby d14_17) k)))) ?_
   by_cases hc5 : (255 : Int32) < (cs.getD i 0)
   ·
    refine go (S' := T.setTop (mkF m 25 #[sr a1, si (Int32.ofNat i), sr a3, si (Int32.ofNat i), si pn, si (Int32.ofNat i), si (cs.getD i 0)] [(.int (Int32.ofNat i))])) (fun t k => XS.icmpNo X.here hx rfl (hb hby d14_20) rfl (tlt hc5).2.2.2 (XS.iload X.here hx rfl (hb hby d14_23) rfl k)) ?_
    refine finI X hx hk hret (hb hby d14_25) (by decide) (by decide) ?_
    have hk5 : own_k cs = i := own_k_at cs i hbd (by omega) hc5
    rw [eT]
    refine ⟨?_, N, K, ?_⟩
    · rw [hk5]
    · rw [hk5]; exact lf1_1
   ·
    refine go (S' := T.setTop (mkF m 31 #[sr a1, si (Int32.ofNat i), sr a3, si (Int32.ofNat i), si pn, si (Int32.ofNat i), si (cs.getD i 0)] [(.int ((cs.getD i 0).toInt8.toInt32)), (.int (Int32.ofNat i)), (.ref a3)])) (fun t k => XS.icmpYes X.here hx rfl (pc0 := 20) (pc' := 26) rfl (hb hby d14_20) rfl (flt hc5).2.2.2 (by decide) (by decide) (XS.aloadN X.here hx rfl (hb hby d14_26) rfl rfl (XS.iloadN X.here hx rfl (hb hby d14_27) rfl (XS.iload X.here hx rfl (hb hby d14_28) rfl (XS.i2b X.here hx rfl (hb hby d14_30) rfl k))))) ?_
    obtain ⟨cl6, Ar6, q6, S6, M6, H6, G6⟩ := id lf1_1
    have hin6 : ¬ ((Int32.ofNat i) < 0 ∨ cl6.slots.size ≤ ((Int32.ofNat i)).toNatClampNeg) := oj_in S6 hn (by omega) (by omega)
    obtain ⟨T6, h6, X6, e6, W6, st6⟩ := stB X hx hZ eT Ar6 (j := (Int32.ofNat i)) hin6 (g := (mkF m 31 #[sr a1, si (Int32.ofNat i), sr a3, si (Int32.ofNat i), si pn, si (Int32.ofNat i), si (cs.getD i 0)] [(.int ((cs.getD i 0).toInt8.toInt32)), (.int (Int32.ofNat i)), (.ref a3)])) rfl rfl (hb hby d14_31)
    have V6 : Arv Z h6 a3 kB .byte pn ((cs.take (i + 1)).map fun c => Value.int (StrChars.lo8 c)) (.int 0) := by
     have q := arvSnoc Ar6 q6 S6 M6 H6 G6 (fits_nar_byte _) W6 (by rw [oj_n (by omega)]; simp; omega)
     (first | rw [oj_narb] at q | rw [oj_bb] at q); rw [← StrChars.lo8] at q; rw [← oj_take cs (by omega)]; exact q
    have K7 : Keep h0 h6 [a3] := K.wr W6 (Or.inl (List.mem_of_getElem? (i := 0) rfl))
    have N8 := Fr.snoc X6 N hp4
    refine go (S' := T6.setTop (mkF m 3 #[sr a1, si ((Int32.ofNat i) + (1 : Int32)), sr a3, si ((Int32.ofNat i) + (1 : Int32)), si pn, si ((Int32.ofNat i) + (1 : Int32)), si (cs.getD i 0)] [])) (fun t k => st6 _ (XS.iinc X6.here hx rfl (hb hby d14_32) rfl (l' := #[sr a1, si ((Int32.ofNat i) + (1 : Int32)), sr a3, si (Int32.ofNat i), si pn, si (Int32.ofNat i), si (cs.getD i 0)]) rfl (XS.iinc X6.here hx rfl (hb hby d14_35) rfl (l' := #[sr a1, si ((Int32.ofNat i) + (1 : Int32)), sr a3, si ((Int32.ofNat i) + (1 : Int32)), si pn, si (Int32.ofNat i), si (cs.getD i 0)]) rfl (XS.iinc X6.here hx rfl (hb hby d14_38) rfl (l' := #[sr a1, si ((Int32.ofNat i) + (1 : Int32)), sr a3, si ((Int32.ofNat i) + (1 : Int32)), si pn, si ((Int32.ofNat i) + (1 : Int32)), si (cs.getD i 0)]) rfl (XS.goto X6.here hx rfl (pc0 := 41) (pc' := 3) rfl (hb hby d14_41) (by decide) (by decide) k))))) ?_
    rw [oj_one i]
    have f9 : Arv Z h6 a1 kC .char pn (cs.map Value.int) dC := (lf1_0.other W6 ne_a1_a3)
    exact ih (i + 1) _ _ _ _ (by omega) (fun j hj => by by_cases qj : j < i; exact hbd j qj; rw [(by omega : j = i)]; exact hc5) (One.val rfl) X6 e6 N8 K7 f9 V6
 exact loop5 cs.length 0 _ _ _ _ (Nat.zero_add _) (fun j hj => absurd hj (Nat.not_lt_zero _)) One.u X0 e0 N0 K0 hp2 hp3
theorem d24_0 : dd jdk_52_method_3_code 0 (.iload_n 0) 1 := by decide +kernel
theorem d24_1 : dd jdk_52_method_3_code 1 (.ifCond .ge 11) 3 := by decide +kernel
theorem d24_12 : dd jdk_52_method_3_code 12 (.iload_n 0) 1 := by decide +kernel
theorem d24_13 : dd jdk_52_method_3_code 13 (.ldc 20) 2 := by decide +kernel
theorem d24_15 : dd jdk_52_method_3_code 15 (.if_icmp .lt 40) 3 := by decide +kernel
theorem d24_55 : dd jdk_52_method_3_code 55 (.iload_n 0) 1 := by decide +kernel
theorem d24_56 : dd jdk_52_method_3_code 56 (.iconst 1) 1 := by decide +kernel
theorem d24_57 : dd jdk_52_method_3_code 57 .ishl 1 := by decide +kernel
theorem d24_58 : dd jdk_52_method_3_code 58 .ireturn 1 := by decide +kernel
abbrev y_1 : MethodName := ⟨"java/lang/StringUTF16", "newBytesLength", "(I)I"⟩
theorem pn_1 : plainFor y_1 = true := by first | exact plainFor_of_name (by first | (simp [plainName, overriddenIn]; done) | decide +kernel) | decide +kernel
theorem ef_rmNbl (m : MethodId) (p1 : Int32) : entryFrame m #[(.int p1)] 1 = mkF m 0 #[si p1] [] := by first | (simp [entryFrame, mkF, argsToLocals, Value.category]; done) | rfl
def Q_rmNbl (Z : State) (p1 : Int32) (h0 : Heap) (n0 : Nat) (v : Option Value) (h : Heap) (L : List Loc) : Prop := v = some (.int (p1 <<< ((1 : Int32) &&& 31))) ∧ Fr n0 L ∧ h = h0
set_option maxRecDepth 65536 in
set_option maxHeartbeats 40000000 in
theorem rmNbl (l : Launch) (Z : State) (a0 : Array Value) (hw : ∀ d ∈ tables_1, d.before a0 Z = true) (ws : List Jvm.Cond) (p1 : Int32) (h0 : Heap) (n0 : Nat) (Z0 : n0 ≤ h0.size) (hz0 : ¬ (p1 < (0 : Int32))) (hz1 : p1 < (1073741823 : Int32)) :
    MetFree l y_1 (head1 (Jvm.Cond.code y_1 jdk_52_method_3_code 1 (some .int) :: ws) ({ frames := 0, cells := 0, slots := 0, locals := 0 } : Room)) (fun a U => a = #[(.int p1)] ∧ Z.Warmed39 U.vm ∧ U.heap = h0) (fun _ _ _ _ _ => True) (fun _ U o U' => ∃ v L, o = .returned v ∧ Q_rmNbl Z p1 h0 n0 v U'.heap L ∧ FrameEnd U o U' L ({ frames := 0, cells := 0, slots := 0, locals := 0 } : Room).cells ({ frames := 0, cells := 0, slots := 0, locals := 0 } : Room).slots) := by
 refine bodyOf pn_1 (fun m => ef_rmNbl m p1) ?_
 intro p e s m below meth c T0 X0 hx hby hml hown hnm hret hk hZ e0
 have N0 := Fr.nil n0
 have K0 : Keep h0 h0 [] := Keep.refl _ _
 refine go (S' := T0.setTop (mkF m 58 #[si p1] [(.int (p1 <<< ((1 : Int32) &&& 31)))])) (fun t k => XS.iloadN X0.here hx rfl (hb hby d24_0) rfl (XS.ifYes X0.here hx rfl (pc0 := 1) (pc' := 12) rfl (hb hby d24_1) rfl ((if0 _ _).trans (flt hz0).2.1) (by decide) (by decide) (XS.iloadN X0.here hx rfl (hb hby d24_12) rfl (X0.ldcInt hx hown (mvT hZ (ww hw 134 rfl)) (g := (mkF m 13 #[si p1] [(.int p1)])) rfl (hb hby d24_13) _ (XS.icmpYes X0.here hx rfl (pc0 := 15) (pc' := 55) rfl (hb hby d24_15) rfl (tlt hz1).1 (by decide) (by decide) (XS.iloadN X0.here hx rfl (hb hby d24_55) rfl (XS.iconst X0.here hx rfl (hb hby d24_56) (XS.ishl X0.here hx rfl (hb hby d24_57) rfl k)))))))) ?_
 refine finI X0 hx hk hret (hb hby d24_58) (by decide) (by decide) ?_
 rw [e0]
 exact ⟨rfl, N0, rfl⟩
theorem d23_0 : dd jdk_52_method_2_code 0 (.iload_n 0) 1 := by decide +kernel
theorem d23_1 : dd jdk_52_method_2_code 1 (.invokestatic 11) 3 := by decide +kernel
theorem pd_0 : parseMethodDescriptor "(I)I" = some ⟨[.int], some .int⟩ := by decide +kernel
theorem d23_4 : dd jdk_52_method_2_code 4 (.newarray .byte) 2 := by decide +kernel
theorem d23_6 : dd jdk_52_method_2_code 6 .areturn 1 := by decide +kernel
abbrev y_2 : MethodName := ⟨"java/lang/StringUTF16", "newBytesFor", "(I)[B"⟩
theorem pn_2 : plainFor y_2 = true := by first | exact plainFor_of_name (by first | (simp [plainName, overriddenIn]; done) | decide +kernel) | decide +kernel
theorem ef_rmNbf (m : MethodId) (p1 : Int32) : entryFrame m #[(.int p1)] 1 = mkF m 0 #[si p1] [] := by first | (simp [entryFrame, mkF, argsToLocals, Value.category]; done) | rfl
def Q_rmNbf (Z : State) (p1 : Int32) (n : Nat) (h0 : Heap) (n0 : Nat) (v : Option Value) (h : Heap) (L : List Loc) : Prop := ∃ (t : Addr), ∃ (kb : ClassId), v = some (.ref t) ∧ Fr n0 L ∧ Keep h0 h [] ∧ (h0.size ≤ t) ∧ (Arv Z h t kb .byte (Int32.ofNat (2 * n)) [] (.int 0))
set_option maxRecDepth 65536 in
set_option maxHeartbeats 40000000 in
theorem rmNbf (l : Launch) (Z : State) (a0 : Array Value) (hw : ∀ d ∈ tables_1, d.before a0 Z = true) (ws : List Jvm.Cond) (p1 : Int32) (n : Nat) (h0 : Heap) (n0 : Nat) (Z0 : n0 ≤ h0.size) (hn : p1 = Int32.ofNat n) (hl : n ≤ 12) :
    MetFree l y_2 (head1 (Jvm.Cond.code y_2 jdk_52_method_2_code 1 (some (.array .byte)) :: ws) ({ frames := 1, cells := 1, slots := 24, locals := 12 } : Room)) (fun a U => a = #[(.int p1)] ∧ Z.Warmed39 U.vm ∧ U.heap = h0) (fun _ _ _ _ _ => True) (fun _ U o U' => ∃ v L, o = .returned v ∧ Q_rmNbf Z p1 n h0 n0 v U'.heap L ∧ FrameEnd U o U' L ({ frames := 1, cells := 1, slots := 24, locals := 12 } : Room).cells ({ frames := 1, cells := 1, slots := 24, locals := 12 } : Room).slots) := by
 refine bodyOf pn_2 (fun m => ef_rmNbf m p1) ?_
 intro p e s m below meth c T0 X0 hx hby hml hown hnm hret hk hZ e0
 have N0 := Fr.nil n0
 have K0 : Keep h0 h0 [] := Keep.refl _ _
 have hz0 : ¬ (p1 < (0 : Int32)) := by rw [hn]; exact oj_nn (by omega)
 have hz1 : p1 < (1073741823 : Int32) := by rw [hn]; exact (Int32.ofNat_lt_ofNat (n := 1073741823) (by omega) (by omega)).mpr (by omega)
 refine go (S' := T0.setTop (mkF m 1 #[si p1] [(.int p1)])) (fun t k => XS.iloadN X0.here hx rfl (hb hby d23_0) rfl k) ?_
 obtain ⟨v10, T10, L10, X10, hQ10, st10⟩ := callSt X0 hx hZ (y := y_1) hown (ww hw 131 rfl) (ww hw 132 rfl) (ww hw 69 rfl) (ww hw 133 rfl) (by decide) (backOf (W := 0) (rmNbl l Z a0 hw [] p1 h0 n0 (Nat.le_trans Z0 K0.1) hz0 hz1) hZ (ww hw 133 rfl) (ww hw 69 rfl) (by decide) (by decide)) (g := (mkF m 1 #[si p1] [(.int p1)])) rfl (by rw [hml]; rfl) (kc := 0) (ks := 0) (argsL := [(.int p1)]) (rest := []) (lenOf pd_0 rfl) rfl (mr0 rfl) (hb hby d23_1) e0 (by decide) (by decide)
 obtain ⟨rfl, N10q, e10⟩ := hQ10
 have N10 := Fr.app N0 N10q
 refine go (S' := T10.setTop (mkF m 4 #[si p1] [(.int (p1 <<< ((1 : Int32) &&& 31)))])) st10 ?_
 rw [hn, oj_dbl (by omega)]
 obtain ⟨T11, h11, k11, X11, e11, E11, A11, st11⟩ := newP X10 hx hZ (ww hw 4 rfl) e10 (g := (mkF m 4 #[si (Int32.ofNat n)] [(.int (Int32.ofNat (2 * n)))])) rfl (hb hby d23_4) rfl (oj_nn (by omega)) (cap := 24) (by rw [oj_n (by omega)]; omega) (by decide) (by decide) (by decide)
 obtain ⟨b11, g11⟩ : ∃ z, z = h0.size := ⟨_, rfl⟩
 rw [← g11] at A11 st11
 have ge_b11 : n0 ≤ b11 := by rw [g11]; exact (Nat.le_trans Z0 K0.1)
 have sz_b11 : h0.size ≤ b11 := by rw [g11]; exact K0.1
 have K12 : Keep h0 h11 [] := K0.ext E11
 have V11 : Arv Z h11 b11 k11 .byte (Int32.ofNat (2 * n)) [] (.int 0) := Arv.new A11 (oj_nn (by omega))
 refine go (S' := T11.setTop (mkF m 6 #[si (Int32.ofNat n)] [(.ref b11)])) st11 ?_
 refine finR X11 hx hk hret rfl rfl (hb hby d23_6) (by decide) (by decide) ?_
 rw [e11]
 exact ⟨b11, k11, rfl, N10, K12, sz_b11, V11⟩
theorem d25_0 : dd jdk_52_method_4_code 0 (.getstatic 44) 3 := by decide +kernel
theorem d25_3 : dd jdk_52_method_4_code 3 (.ifCond .ne 25) 3 := by decide +kernel
theorem d25_28 : dd jdk_52_method_4_code 28 (.iload_n 1) 1 := by decide +kernel
theorem d25_29 : dd jdk_52_method_4_code 29 (.iconst 1) 1 := by decide +kernel
theorem d25_30 : dd jdk_52_method_4_code 30 .ishl 1 := by decide +kernel
theorem d25_31 : dd jdk_52_method_4_code 31 (.istore_n 1) 1 := by decide +kernel
theorem d25_32 : dd jdk_52_method_4_code 32 (.aload_n 0) 1 := by decide +kernel
theorem d25_33 : dd jdk_52_method_4_code 33 (.iload_n 1) 1 := by decide +kernel
theorem d25_34 : dd jdk_52_method_4_code 34 (.iinc 1 1) 3 := by decide +kernel
theorem d25_37 : dd jdk_52_method_4_code 37 (.iload_n 2) 1 := by decide +kernel
theorem d25_38 : dd jdk_52_method_4_code 38 (.getstatic 59) 3 := by decide +kernel
theorem d25_41 : dd jdk_52_method_4_code 41 .ishr 1 := by decide +kernel
theorem d25_42 : dd jdk_52_method_4_code 42 .i2b 1 := by decide +kernel
theorem d25_43 : dd jdk_52_method_4_code 43 .bastore 1 := by decide +kernel
theorem d25_44 : dd jdk_52_method_4_code 44 (.aload_n 0) 1 := by decide +kernel
theorem d25_45 : dd jdk_52_method_4_code 45 (.iload_n 1) 1 := by decide +kernel
theorem d25_46 : dd jdk_52_method_4_code 46 (.iload_n 2) 1 := by decide +kernel
theorem d25_47 : dd jdk_52_method_4_code 47 (.getstatic 63) 3 := by decide +kernel
theorem d25_50 : dd jdk_52_method_4_code 50 .ishr 1 := by decide +kernel
theorem d25_51 : dd jdk_52_method_4_code 51 .i2b 1 := by decide +kernel
theorem d25_52 : dd jdk_52_method_4_code 52 .bastore 1 := by decide +kernel
theorem d25_53 : dd jdk_52_method_4_code 53 .return_ 1 := by decide +kernel
abbrev y_3 : MethodName := ⟨"java/lang/StringUTF16", "putChar", "([BII)V"⟩
theorem pn_3 : plainFor y_3 = true := by first | exact plainFor_of_name (by first | (simp [plainName, overriddenIn]; done) | decide +kernel) | decide +kernel
theorem ef_rmPut (m : MethodId) (a1 : Addr) (p2 : Int32) (p3 : Int32) : entryFrame m #[(.ref a1), (.int p2), (.int p3)] 3 = mkF m 0 #[sr a1, si p2, si p3] [] := by first | (simp [entryFrame, mkF, argsToLocals, Value.category]; done) | rfl
def Q_rmPut (Z : State) (a1 : Addr) (p2 : Int32) (p3 : Int32) (kB : ClassId) (m_ : Nat) (n : Nat) (vs : List Value) (h0 : Heap) (n0 : Nat) (v : Option Value) (h : Heap) (L : List Loc) : Prop := v = none ∧ Fr n0 L ∧ Keep h0 h [a1] ∧ (Arv Z h a1 kB .byte (Int32.ofNat (2 * n)) (vs ++ [.int (StrChars.lo8 p3)] ++ [.int (StrChars.hi8 p3)]) (.int 0))
set_option maxRecDepth 65536 in
set_option maxHeartbeats 40000000 in
theorem rmPut (l : Launch) (Z : State) (a0 : Array Value) (hw : ∀ d ∈ tables_1, d.before a0 Z = true) (ws : List Jvm.Cond) (a1 : Addr) (p2 : Int32) (p3 : Int32) (kB : ClassId) (m_ : Nat) (n : Nat) (vs : List Value) (h0 : Heap) (n0 : Nat) (Z0 : n0 ≤ h0.size) (hp0 : Arv Z h0 a1 kB .byte (Int32.ofNat (2 * n)) vs (.int 0)) (hm : p2 = Int32.ofNat m_) (hv : vs.length = 2 * m_) (hmn : m_ < n) (hl : n ≤ 12) (hp5 : n0 ≤ a1) (hp6 : Sta Z Z.heap "java/lang/StringUTF16" "$assertionsDisabled" "Z" (.int 1)) (hp7 : Sta Z Z.heap "java/lang/StringUTF16" "HI_BYTE_SHIFT" "I" (.int 0)) (hp8 : Sta Z Z.heap "java/lang/StringUTF16" "LO_BYTE_SHIFT" "I" (.int 8)) (hp9 : Old Z n0 h0) :
    MetFree l y_3 (head1 (Jvm.Cond.code y_3 jdk_52_method_4_code 3 none :: ws) ({ frames := 0, cells := 0, slots := 0, locals := 0 } : Room)) (fun a U => a = #[(.ref a1), (.int p2), (.int p3)] ∧ Z.Warmed39 U.vm ∧ U.heap = h0) (fun _ _ _ _ _ => True) (fun _ U o U' => ∃ v L, o = .returned v ∧ Q_rmPut Z a1 p2 p3 kB m_ n vs h0 n0 v U'.heap L ∧ FrameEnd U o U' L ({ frames := 0, cells := 0, slots := 0, locals := 0 } : Room).cells ({ frames := 0, cells := 0, slots := 0, locals := 0 } : Room).slots) := by
 refine bodyOf pn_3 (fun m => ef_rmPut m a1 p2 p3) ?_
 intro p e s m below meth c T0 X0 hx hby hml hown hnm hret hk hZ e0
 have N0 := Fr.nil n0
 have K0 : Keep h0 h0 [a1] := Keep.refl _ _
 have O0 := hp9
 have O14 : Old Z n0 h0 := O0.keep K0 (allS hp5 all0)
 obtain ⟨T13, X13, e13, st13⟩ := getS2 X0 hx hZ hown (host := "") (Or.inl (ww hw 138 rfl)) Via.refl e0 (hp6.ext O14.2) (g := (mkF m 0 #[sr a1, si p2, si p3] [])) rfl (hb hby d25_0)
 refine go (S' := T13.setTop (mkF m 3 #[sr a1, si p2, si p3] [(.int 1)])) st13 ?_
 have hc15 : ¬ ((1 : Int32) = (0 : Int32)) := by decide
 refine go (S' := T13.setTop (mkF m 32 #[sr a1, si (p2 <<< ((1 : Int32) &&& 31)), si p3] [])) (fun t k => XS.ifYes X13.here hx rfl (pc0 := 3) (pc' := 28) rfl (hb hby d25_3) rfl ((if0 _ _).trans (feq hc15).2) (by decide) (by decide) (XS.iloadN X13.here hx rfl (hb hby d25_28) rfl (XS.iconst X13.here hx rfl (hb hby d25_29) (XS.ishl X13.here hx rfl (hb hby d25_30) rfl (XS.istoreN X13.here hx rfl (hb hby d25_31) rfl (l' := #[sr a1, si (p2 <<< ((1 : Int32) &&& 31)), si p3]) rfl k))))) ?_
 rw [hm, oj_dbl (by omega)]
 refine go (S' := T13.setTop (mkF m 37 #[sr a1, si ((Int32.ofNat (2 * m_)) + (1 : Int32)), si p3] [(.int (Int32.ofNat (2 * m_))), (.ref a1)])) (fun t k => XS.aloadN X13.here hx rfl (hb hby d25_32) rfl rfl (XS.iloadN X13.here hx rfl (hb hby d25_33) rfl (XS.iinc X13.here hx rfl (hb hby d25_34) rfl (l' := #[sr a1, si ((Int32.ofNat (2 * m_)) + (1 : Int32)), si p3]) rfl k))) ?_
 rw [oj_one]
 refine go (S' := T13.setTop (mkF m 38 #[sr a1, si (Int32.ofNat (2 * m_ + 1)), si p3] [(.int p3), (.int (Int32.ofNat (2 * m_))), (.ref a1)])) (fun t k => XS.iloadN X13.here hx rfl (hb hby d25_37) rfl k) ?_
 obtain ⟨T16, X16, e16, st16⟩ := getS2 X13 hx hZ hown (host := "") (Or.inl (ww hw 139 rfl)) Via.refl e13 (hp7.ext O14.2) (g := (mkF m 38 #[sr a1, si (Int32.ofNat (2 * m_ + 1)), si p3] [(.int p3), (.int (Int32.ofNat (2 * m_))), (.ref a1)])) rfl (hb hby d25_38)
 refine go (S' := T16.setTop (mkF m 43 #[sr a1, si (Int32.ofNat (2 * m_ + 1)), si p3] [(.int ((p3 >>> ((0 : Int32) &&& 31)).toInt8.toInt32)), (.int (Int32.ofNat (2 * m_))), (.ref a1)])) (fun t k => st16 _ (XS.ishr X16.here hx rfl (hb hby d25_41) rfl (XS.i2b X16.here hx rfl (hb hby d25_42) rfl k))) ?_
 obtain ⟨cl17, Ar17, q17, S17, M17, H17, G17⟩ := id hp0
 have hin17 : ¬ ((Int32.ofNat (2 * m_)) < 0 ∨ cl17.slots.size ≤ ((Int32.ofNat (2 * m_))).toNatClampNeg) := oj_in S17 rfl (by omega) (by omega)
 obtain ⟨T17, h17, X17, e17, W17, st17⟩ := stB X16 hx hZ e16 Ar17 (j := (Int32.ofNat (2 * m_))) hin17 (g := (mkF m 43 #[sr a1, si (Int32.ofNat (2 * m_ + 1)), si p3] [(.int ((p3 >>> ((0 : Int32) &&& 31)).toInt8.toInt32)), (.int (Int32.ofNat (2 * m_))), (.ref a1)])) rfl rfl (hb hby d25_43)
 have V17 : Arv Z h17 a1 kB .byte (Int32.ofNat (2 * n)) (vs ++ [.int (StrChars.lo8 p3)]) (.int 0) := by
  have q := arvSnoc Ar17 q17 S17 M17 H17 G17 (fits_nar_byte _) W17 (by rw [oj_n (by omega)]; exact hv.symm)
  (first | rw [oj_narb] at q | rw [oj_bb] at q); rw [oj_shr0, ← StrChars.lo8] at q; exact q
 have K18 : Keep h0 h17 [a1] := K0.wr W17 (Or.inl (List.mem_of_getElem? (i := 0) rfl))
 have N19 := Fr.snoc X17 N0 hp5
 refine go (S' := T17.setTop (mkF m 47 #[sr a1, si (Int32.ofNat (2 * m_ + 1)), si p3] [(.int p3), (.int (Int32.ofNat (2 * m_ + 1))), (.ref a1)])) (fun t k => st17 _ (XS.aloadN X17.here hx rfl (hb hby d25_44) rfl rfl (XS.iloadN X17.here hx rfl (hb hby d25_45) rfl (XS.iloadN X17.here hx rfl (hb hby d25_46) rfl k)))) ?_
 have O21 : Old Z n0 h17 := O0.keep K18 (allS hp5 all0)
 obtain ⟨T20, X20, e20, st20⟩ := getS2 X17 hx hZ hown (host := "") (Or.inl (ww hw 140 rfl)) Via.refl e17 (hp8.ext O21.2) (g := (mkF m 47 #[sr a1, si (Int32.ofNat (2 * m_ + 1)), si p3] [(.int p3), (.int (Int32.ofNat (2 * m_ + 1))), (.ref a1)])) rfl (hb hby d25_47)
 refine go (S' := T20.setTop (mkF m 52 #[sr a1, si (Int32.ofNat (2 * m_ + 1)), si p3] [(.int ((p3 >>> ((8 : Int32) &&& 31)).toInt8.toInt32)), (.int (Int32.ofNat (2 * m_ + 1))), (.ref a1)])) (fun t k => st20 _ (XS.ishr X20.here hx rfl (hb hby d25_50) rfl (XS.i2b X20.here hx rfl (hb hby d25_51) rfl k))) ?_
 obtain ⟨cl22, Ar22, q22, S22, M22, H22, G22⟩ := id V17
 have hin22 : ¬ ((Int32.ofNat (2 * m_ + 1)) < 0 ∨ cl22.slots.size ≤ ((Int32.ofNat (2 * m_ + 1))).toNatClampNeg) := oj_in S22 rfl (by omega) (by omega)
 obtain ⟨T22, h22, X22, e22, W22, st22⟩ := stB X20 hx hZ e20 Ar22 (j := (Int32.ofNat (2 * m_ + 1))) hin22 (g := (mkF m 52 #[sr a1, si (Int32.ofNat (2 * m_ + 1)), si p3] [(.int ((p3 >>> ((8 : Int32) &&& 31)).toInt8.toInt32)), (.int (Int32.ofNat (2 * m_ + 1))), (.ref a1)])) rfl rfl (hb hby d25_52)
 have V22 : Arv Z h22 a1 kB .byte (Int32.ofNat (2 * n)) (vs ++ [.int (StrChars.lo8 p3)] ++ [.int (StrChars.hi8 p3)]) (.int 0) := by
  have q := arvSnoc Ar22 q22 S22 M22 H22 G22 (fits_nar_byte _) W22 (by rw [oj_n (by omega)]; simp; omega)
  (first | rw [oj_narb] at q | rw [oj_bb] at q); rw [← StrChars.lo8, ← StrChars.hi8] at q; exact q
 have K23 : Keep h0 h22 [a1] := K18.wr W22 (Or.inl (List.mem_of_getElem? (i := 0) rfl))
 have N24 := Fr.snoc X22 N19 hp5
 refine go (S' := T22.setTop (mkF m 53 #[sr a1, si (Int32.ofNat (2 * m_ + 1)), si p3] [])) st22 ?_
 refine finV X22 hx hk hret (hb hby d25_53) (by decide) (by decide) ?_
 rw [e22]
 exact ⟨rfl, N24, K23, V22⟩
theorem d26_0 : dd jdk_52_method_5_code 0 (.getstatic 44) 3 := by decide +kernel
theorem d26_3 : dd jdk_52_method_5_code 3 (.ifCond .ne 25) 3 := by decide +kernel
theorem d26_28 : dd jdk_52_method_5_code 28 (.iload_n 1) 1 := by decide +kernel
theorem d26_29 : dd jdk_52_method_5_code 29 (.iconst 1) 1 := by decide +kernel
theorem d26_30 : dd jdk_52_method_5_code 30 .ishl 1 := by decide +kernel
theorem d26_31 : dd jdk_52_method_5_code 31 (.istore_n 1) 1 := by decide +kernel
theorem d26_32 : dd jdk_52_method_5_code 32 (.aload_n 0) 1 := by decide +kernel
theorem d26_33 : dd jdk_52_method_5_code 33 (.iload_n 1) 1 := by decide +kernel
theorem d26_34 : dd jdk_52_method_5_code 34 (.iinc 1 1) 3 := by decide +kernel
theorem d26_37 : dd jdk_52_method_5_code 37 .baload 1 := by decide +kernel
theorem d26_38 : dd jdk_52_method_5_code 38 (.sipush 255) 3 := by decide +kernel
theorem d26_41 : dd jdk_52_method_5_code 41 .iand 1 := by decide +kernel
theorem d26_42 : dd jdk_52_method_5_code 42 (.getstatic 59) 3 := by decide +kernel
theorem d26_45 : dd jdk_52_method_5_code 45 .ishl 1 := by decide +kernel
theorem d26_46 : dd jdk_52_method_5_code 46 (.aload_n 0) 1 := by decide +kernel
theorem d26_47 : dd jdk_52_method_5_code 47 (.iload_n 1) 1 := by decide +kernel
theorem d26_48 : dd jdk_52_method_5_code 48 .baload 1 := by decide +kernel
theorem d26_49 : dd jdk_52_method_5_code 49 (.sipush 255) 3 := by decide +kernel
theorem d26_52 : dd jdk_52_method_5_code 52 .iand 1 := by decide +kernel
theorem d26_53 : dd jdk_52_method_5_code 53 (.getstatic 63) 3 := by decide +kernel
theorem d26_56 : dd jdk_52_method_5_code 56 .ishl 1 := by decide +kernel
theorem d26_57 : dd jdk_52_method_5_code 57 .ior 1 := by decide +kernel
theorem d26_58 : dd jdk_52_method_5_code 58 .i2c 1 := by decide +kernel
theorem d26_59 : dd jdk_52_method_5_code 59 .ireturn 1 := by decide +kernel
abbrev y_4 : MethodName := ⟨"java/lang/StringUTF16", "getChar", "([BI)C"⟩
theorem pn_4 : plainFor y_4 = true := by first | exact plainFor_of_name (by first | (simp [plainName, overriddenIn]; done) | decide +kernel) | decide +kernel
theorem ef_rmGet (m : MethodId) (a1 : Addr) (p2 : Int32) : entryFrame m #[(.ref a1), (.int p2)] 2 = mkF m 0 #[sr a1, si p2] [] := by first | (simp [entryFrame, mkF, argsToLocals, Value.category]; done) | rfl
def Q_rmGet (Z : State) (a1 : Addr) (p2 : Int32) (kB : ClassId) (m_ : Nat) (n : Nat) (vs : List Value) (ch : Int32) (h0 : Heap) (n0 : Nat) (v : Option Value) (h : Heap) (L : List Loc) : Prop := v = some (.int ch) ∧ Fr n0 L ∧ h = h0
set_option maxRecDepth 65536 in
set_option maxHeartbeats 40000000 in
theorem rmGet (l : Launch) (Z : State) (a0 : Array Value) (hw : ∀ d ∈ tables_1, d.before a0 Z = true) (ws : List Jvm.Cond) (a1 : Addr) (p2 : Int32) (kB : ClassId) (m_ : Nat) (n : Nat) (vs : List Value) (ch : Int32) (h0 : Heap) (n0 : Nat) (Z0 : n0 ≤ h0.size) (hp0 : Arv Z h0 a1 kB .byte (Int32.ofNat (2 * n)) vs (.int 0)) (hm : p2 = Int32.ofNat m_) (hmn : m_ < n) (hl : n ≤ 12) (hlo : vs.getD (2 * m_) (.int 0) = .int (StrChars.lo8 ch)) (hhi : vs.getD (2 * m_ + 1) (.int 0) = .int (StrChars.hi8 ch)) (hch : ¬ ch < 0 ∧ ¬ (65535 : Int32) < ch) (hp7 : Sta Z Z.heap "java/lang/StringUTF16" "$assertionsDisabled" "Z" (.int 1)) (hp8 : Sta Z Z.heap "java/lang/StringUTF16" "HI_BYTE_SHIFT" "I" (.int 0)) (hp9 : Sta Z Z.heap "java/lang/StringUTF16" "LO_BYTE_SHIFT" "I" (.int 8)) (hp10 : Old Z n0 h0) :
    MetFree l y_4 (head1 (Jvm.Cond.code y_4 jdk_52_method_5_code 2 (some .char) :: ws) ({ frames := 0, cells := 0, slots := 0, locals := 0 } : Room)) (fun a U => a = #[(.ref a1), (.int p2)] ∧ Z.Warmed39 U.vm ∧ U.heap = h0) (fun _ _ _ _ _ => True) (fun _ U o U' => ∃ v L, o = .returned v ∧ Q_rmGet Z a1 p2 kB m_ n vs ch h0 n0 v U'.heap L ∧ FrameEnd U o U' L ({ frames := 0, cells := 0, slots := 0, locals := 0 } : Room).cells ({ frames := 0, cells := 0, slots := 0, locals := 0 } : Room).slots) := by
 refine bodyOf pn_4 (fun m => ef_rmGet m a1 p2) ?_
 intro p e s m below meth c T0 X0 hx hby hml hown hnm hret hk hZ e0
 have N0 := Fr.nil n0
 have K0 : Keep h0 h0 [] := Keep.refl _ _
 have O0 := hp10
 have O26 : Old Z n0 h0 := O0.keep K0 all0
 obtain ⟨T25, X25, e25, st25⟩ := getS2 X0 hx hZ hown (host := "") (Or.inl (ww hw 138 rfl)) Via.refl e0 (hp7.ext O26.2) (g := (mkF m 0 #[sr a1, si p2] [])) rfl (hb hby d26_0)
 refine go (S' := T25.setTop (mkF m 3 #[sr a1, si p2] [(.int 1)])) st25 ?_
 have hc27 : ¬ ((1 : Int32) = (0 : Int32)) := by decide
 refine go (S' := T25.setTop (mkF m 32 #[sr a1, si (p2 <<< ((1 : Int32) &&& 31))] [])) (fun t k => XS.ifYes X25.here hx rfl (pc0 := 3) (pc' := 28) rfl (hb hby d26_3) rfl ((if0 _ _).trans (feq hc27).2) (by decide) (by decide) (XS.iloadN X25.here hx rfl (hb hby d26_28) rfl (XS.iconst X25.here hx rfl (hb hby d26_29) (XS.ishl X25.here hx rfl (hb hby d26_30) rfl (XS.istoreN X25.here hx rfl (hb hby d26_31) rfl (l' := #[sr a1, si (p2 <<< ((1 : Int32) &&& 31))]) rfl k))))) ?_
 rw [hm, oj_dbl (by omega)]
 refine go (S' := T25.setTop (mkF m 37 #[sr a1, si ((Int32.ofNat (2 * m_)) + (1 : Int32))] [(.int (Int32.ofNat (2 * m_))), (.ref a1)])) (fun t k => XS.aloadN X25.here hx rfl (hb hby d26_32) rfl rfl (XS.iloadN X25.here hx rfl (hb hby d26_33) rfl (XS.iinc X25.here hx rfl (hb hby d26_34) rfl (l' := #[sr a1, si ((Int32.ofNat (2 * m_)) + (1 : Int32))]) rfl k))) ?_
 rw [oj_one]
 obtain ⟨cl28, Ar28, q28, S28, M28, H28, G28⟩ := id hp0
 have hin28 : ¬ ((Int32.ofNat (2 * m_)) < 0 ∨ cl28.slots.size ≤ ((Int32.ofNat (2 * m_))).toNatClampNeg) := oj_in S28 rfl (by omega) (by omega)
 have hat28 : cl28.slots[((Int32.ofNat (2 * m_))).toNatClampNeg]? = some (.int (StrChars.lo8 ch)) := Has.at H28 hin28 (by rw [oj_n (by omega)]; exact hlo)
 refine go (S' := T25.setTop (mkF m 42 #[sr a1, si (Int32.ofNat (2 * m_ + 1))] [(.int ((StrChars.lo8 ch) &&& (255 : Int32)))])) (fun t k => X25.baloadBytes hx (j := (Int32.ofNat (2 * m_))) (v := (.int (StrChars.lo8 ch))) (by rw [e25]; exact Ar28.1) (State.isArrayOf_alike hZ.alike Ar28.2.1) Ar28.2.2 hin28 hat28 (g := (mkF m 37 #[sr a1, si (Int32.ofNat (2 * m_ + 1))] [(.int (Int32.ofNat (2 * m_))), (.ref a1)])) rfl rfl (hb hby d26_37) _ (XS.sipush X25.here hx rfl (hb hby d26_38) (XS.iand X25.here hx rfl (hb hby d26_41) rfl k))) ?_
 obtain ⟨T29, X29, e29, st29⟩ := getS2 X25 hx hZ hown (host := "") (Or.inl (ww hw 139 rfl)) Via.refl e25 (hp8.ext O26.2) (g := (mkF m 42 #[sr a1, si (Int32.ofNat (2 * m_ + 1))] [(.int ((StrChars.lo8 ch) &&& (255 : Int32)))])) rfl (hb hby d26_42)
 refine go (S' := T29.setTop (mkF m 48 #[sr a1, si (Int32.ofNat (2 * m_ + 1))] [(.int (Int32.ofNat (2 * m_ + 1))), (.ref a1), (.int (((StrChars.lo8 ch) &&& (255 : Int32)) <<< ((0 : Int32) &&& 31)))])) (fun t k => st29 _ (XS.ishl X29.here hx rfl (hb hby d26_45) rfl (XS.aloadN X29.here hx rfl (hb hby d26_46) rfl rfl (XS.iloadN X29.here hx rfl (hb hby d26_47) rfl k)))) ?_
 obtain ⟨cl30, Ar30, q30, S30, M30, H30, G30⟩ := id hp0
 have hin30 : ¬ ((Int32.ofNat (2 * m_ + 1)) < 0 ∨ cl30.slots.size ≤ ((Int32.ofNat (2 * m_ + 1))).toNatClampNeg) := oj_in S30 rfl (by omega) (by omega)
 have hat30 : cl30.slots[((Int32.ofNat (2 * m_ + 1))).toNatClampNeg]? = some (.int (StrChars.hi8 ch)) := Has.at H30 hin30 (by rw [oj_n (by omega)]; exact hhi)
 refine go (S' := T29.setTop (mkF m 53 #[sr a1, si (Int32.ofNat (2 * m_ + 1))] [(.int ((StrChars.hi8 ch) &&& (255 : Int32))), (.int (((StrChars.lo8 ch) &&& (255 : Int32)) <<< ((0 : Int32) &&& 31)))])) (fun t k => X29.baloadBytes hx (j := (Int32.ofNat (2 * m_ + 1))) (v := (.int (StrChars.hi8 ch))) (by rw [e29]; exact Ar30.1) (State.isArrayOf_alike hZ.alike Ar30.2.1) Ar30.2.2 hin30 hat30 (g := (mkF m 48 #[sr a1, si (Int32.ofNat (2 * m_ + 1))] [(.int (Int32.ofNat (2 * m_ + 1))), (.ref a1), (.int (((StrChars.lo8 ch) &&& (255 : Int32)) <<< ((0 : Int32) &&& 31)))])) rfl rfl (hb hby d26_48) _ (XS.sipush X29.here hx rfl (hb hby d26_49) (XS.iand X29.here hx rfl (hb hby d26_52) rfl k))) ?_
 obtain ⟨T31, X31, e31, st31⟩ := getS2 X29 hx hZ hown (host := "") (Or.inl (ww hw 140 rfl)) Via.refl e29 (hp9.ext O26.2) (g := (mkF m 53 #[sr a1, si (Int32.ofNat (2 * m_ + 1))] [(.int ((StrChars.hi8 ch) &&& (255 : Int32))), (.int (((StrChars.lo8 ch) &&& (255 : Int32)) <<< ((0 : Int32) &&& 31)))])) rfl (hb hby d26_53)
 refine go (S' := T31.setTop (mkF m 59 #[sr a1, si (Int32.ofNat (2 * m_ + 1))] [(.int (((((StrChars.lo8 ch) &&& (255 : Int32)) <<< ((0 : Int32) &&& 31)) ||| (((StrChars.hi8 ch) &&& (255 : Int32)) <<< ((8 : Int32) &&& 31))).toUInt32.toUInt16.toUInt32.toInt32))])) (fun t k => st31 _ (XS.ishl X31.here hx rfl (hb hby d26_56) rfl (XS.ior X31.here hx rfl (hb hby d26_57) rfl (XS.i2c X31.here hx rfl (hb hby d26_58) rfl k)))) ?_
 refine finN X31 hx hk (t := .char) hret (by simp) (hb hby d26_59) (by decide) (by decide) ?_
 rw [e31]
 exact ⟨(by rw [narc]; exact congrArg (fun z => some (Value.int z)) (StrChars.pair_says hch.1 hch.2)), N0, rfl⟩
theorem d22_0 : dd jdk_52_method_14_code 0 (.iload_n 2) 1 := by decide +kernel
theorem d22_1 : dd jdk_52_method_14_code 1 (.invokestatic 107) 3 := by decide +kernel
theorem pd_1 : parseMethodDescriptor "(I)[B" = some ⟨[.int], some (.array .byte)⟩ := by decide +kernel
theorem d22_4 : dd jdk_52_method_14_code 4 (.astore_n 3) 1 := by decide +kernel
theorem d22_5 : dd jdk_52_method_14_code 5 (.iconst 0) 1 := by decide +kernel
theorem d22_6 : dd jdk_52_method_14_code 6 (.istore 4) 2 := by decide +kernel
theorem d22_8 : dd jdk_52_method_14_code 8 (.iload 4) 2 := by decide +kernel
theorem d22_10 : dd jdk_52_method_14_code 10 (.iload_n 2) 1 := by decide +kernel
theorem d22_11 : dd jdk_52_method_14_code 11 (.if_icmp .ge 21) 3 := by decide +kernel
theorem d22_32 : dd jdk_52_method_14_code 32 (.aload_n 3) 1 := by decide +kernel
theorem d22_33 : dd jdk_52_method_14_code 33 .areturn 1 := by decide +kernel
theorem d22_14 : dd jdk_52_method_14_code 14 (.aload_n 3) 1 := by decide +kernel
theorem d22_15 : dd jdk_52_method_14_code 15 (.iload 4) 2 := by decide +kernel
theorem d22_17 : dd jdk_52_method_14_code 17 (.aload_n 0) 1 := by decide +kernel
theorem d22_18 : dd jdk_52_method_14_code 18 (.iload_n 1) 1 := by decide +kernel
theorem d22_19 : dd jdk_52_method_14_code 19 .caload 1 := by decide +kernel
theorem d22_20 : dd jdk_52_method_14_code 20 (.invokestatic 111) 3 := by decide +kernel
theorem pd_2 : parseMethodDescriptor "([BII)V" = some ⟨[(.array .byte), .int, .int], none⟩ := by decide +kernel
theorem d22_23 : dd jdk_52_method_14_code 23 (.iinc 1 1) 3 := by decide +kernel
theorem d22_26 : dd jdk_52_method_14_code 26 (.iinc 4 1) 3 := by decide +kernel
theorem d22_29 : dd jdk_52_method_14_code 29 (.goto (-21)) 3 := by decide +kernel
abbrev y_5 : MethodName := ⟨"java/lang/StringUTF16", "toBytes", "([CII)[B"⟩
theorem pn_5 : plainFor y_5 = true := by first | exact plainFor_of_name (by first | (simp [plainName, overriddenIn]; done) | decide +kernel) | decide +kernel
theorem ef_rmTob (m : MethodId) (a1 : Addr) (pn : Int32) : entryFrame m #[(.ref a1), (.int 0), (.int pn)] 5 = mkF m 0 #[sr a1, si 0, si pn, un, un] [] := by first | (simp [entryFrame, mkF, argsToLocals, Value.category]; done) | rfl
def Q_rmTob (Z : State) (a1 : Addr) (pn : Int32) (kC : ClassId) (cs : List Int32) (dC : Value) (h0 : Heap) (n0 : Nat) (v : Option Value) (h : Heap) (L : List Loc) : Prop := ∃ (t : Addr), ∃ (kb : ClassId), v = some (.ref t) ∧ Fr n0 L ∧ Keep h0 h [] ∧ (h0.size ≤ t) ∧ (Arv Z h t kb .byte (Int32.ofNat (2 * cs.length)) (StrChars.Road.wideBytes cs) (.int 0))
set_option maxRecDepth 65536 in
set_option maxHeartbeats 40000000 in
theorem rmTob (l : Launch) (Z : State) (a0 : Array Value) (hw : ∀ d ∈ tables_1, d.before a0 Z = true) (ws : List Jvm.Cond) (a1 : Addr) (pn : Int32) (kC : ClassId) (cs : List Int32) (dC : Value) (h0 : Heap) (n0 : Nat) (Z0 : n0 ≤ h0.size) (hn : pn = Int32.ofNat cs.length) (hl : cs.length ≤ 12) (hp2 : Arv Z h0 a1 kC .char pn (cs.map Value.int) dC) (hp3 : Sta Z Z.heap "java/lang/StringUTF16" "$assertionsDisabled" "Z" (.int 1)) (hp4 : Sta Z Z.heap "java/lang/StringUTF16" "HI_BYTE_SHIFT" "I" (.int 0)) (hp5 : Sta Z Z.heap "java/lang/StringUTF16" "LO_BYTE_SHIFT" "I" (.int 8)) (hp6 : Old Z n0 h0) :
    MetFree l y_5 (head1 (Jvm.Cond.code y_5 jdk_52_method_14_code 5 (some (.array .byte)) :: ws) ({ frames := 2, cells := 1, slots := 24, locals := 24 } : Room)) (fun a U => a = #[(.ref a1), (.int 0), (.int pn)] ∧ Z.Warmed39 U.vm ∧ U.heap = h0) (fun _ _ _ _ _ => True) (fun _ U o U' => ∃ v L, o = .returned v ∧ Q_rmTob Z a1 pn kC cs dC h0 n0 v U'.heap L ∧ FrameEnd U o U' L ({ frames := 2, cells := 1, slots := 24, locals := 24 } : Room).cells ({ frames := 2, cells := 1, slots := 24, locals := 24 } : Room).slots) := by
 refine bodyOf pn_5 (fun m => ef_rmTob m a1 pn) ?_
 intro p e s m below meth c T0 X0 hx hby hml hown hnm hret hk hZ e0
 have N0 := Fr.nil n0
 have K0 : Keep h0 h0 [] := Keep.refl _ _
 have O0 := hp6
 refine go (S' := T0.setTop (mkF m 1 #[sr a1, si 0, si pn, un, un] [(.int pn)])) (fun t k => XS.iloadN X0.here hx rfl (hb hby d22_0) rfl k) ?_
 obtain ⟨v32, T32, L32, X32, hQ32, st32⟩ := callSt X0 hx hZ (y := y_2) hown (ww hw 128 rfl) (ww hw 129 rfl) (ww hw 69 rfl) (ww hw 130 rfl) (by decide) (backOf (W := 0) (rmNbf l Z a0 hw [] pn cs.length h0 n0 (Nat.le_trans Z0 K0.1) hn hl) hZ (ww hw 130 rfl) (ww hw 69 rfl) (by decide) (by decide)) (g := (mkF m 1 #[sr a1, si 0, si pn, un, un] [(.int pn)])) rfl (by rw [hml]; rfl) (kc := 1) (ks := 24) (argsL := [(.int pn)]) (rest := []) (lenOf pd_1 rfl) rfl (mr0 rfl) (hb hby d22_1) e0 (by decide) (by decide)
 obtain ⟨t_32, kb_32, rfl, N32q, Kq32, q32_0, q32_1⟩ := hQ32
 have N32 := Fr.app N0 N32q
 have K33 : Keep h0 T32.heap [] := K0.trans Kq32 all0
 have lt_a1_t_32 : a1 < t_32 := Nat.lt_of_lt_of_le hp2.lt q32_0
 have sz_t_32 : h0.size ≤ t_32 := Nat.le_trans K0.1 q32_0
 have ge_t_32 : n0 ≤ t_32 := Nat.le_trans Z0 sz_t_32
 refine go (S' := T32.setTop (mkF m 8 #[sr a1, si 0, si pn, sr t_32, si 0] [])) (fun t k => st32 _ (XS.astoreN X32.here hx rfl (hb hby d22_4) rfl rfl (l' := #[sr a1, si 0, si pn, sr t_32, un]) rfl (XS.iconst X32.here hx rfl (hb hby d22_5) (XS.istore X32.here hx rfl (hb hby d22_6) rfl (l' := #[sr a1, si 0, si pn, sr t_32, si 0]) rfl k)))) ?_
 have loopT : ∀ (r : Nat) (i : Nat) (T : State) (locs : List Loc) (h : Heap), (i + r = cs.length) → Stand p l e ({ frames := 2, cells := 1, slots := 24, locals := 24 } : Room) s m #[(.ref a1), (.int 0), (.int pn)] below meth c T locs 1 24 → T.heap = h → Fr n0 locs → Keep h0 h [] → Arv Z h a1 kC .char pn (cs.map Value.int) dC → Arv Z h t_32 kb_32 .byte (Int32.ofNat (2 * cs.length)) (StrChars.Road.wideBytes (cs.take i)) (.int 0) → Goes p.tables e below (EndP s below (Q_rmTob Z a1 pn kC cs dC h0 n0) ({ frames := 2, cells := 1, slots := 24, locals := 24 } : Room).cells ({ frames := 2, cells := 1, slots := 24, locals := 24 } : Room).slots) (T.setTop (mkF m 8 #[sr a1, si (Int32.ofNat i), si pn, sr t_32, si (Int32.ofNat i)] [])) := by
  intro r
  induction r with
  | zero =>
   intro i T locs h hi X eT N K lf34_0 lf34_1
   refine go (S' := T.setTop (mkF m 11 #[sr a1, si (Int32.ofNat i), si pn, sr t_32, si (Int32.ofNat i)] [(.int pn), (.int (Int32.ofNat i))])) (fun t k => XS.iload X.here hx rfl (hb hby d22_8) rfl (XS.iloadN X.here hx rfl (hb hby d22_10) rfl k)) ?_
   have hc35 : ¬ ((Int32.ofNat i) < pn) := by rw [hn]; exact oj_nlt (by omega) (by omega) (by omega)
   refine go (S' := T.setTop (mkF m 33 #[sr a1, si (Int32.ofNat i), si pn, sr t_32, si (Int32.ofNat i)] [(.ref t_32)])) (fun t k => XS.icmpYes X.here hx rfl (pc0 := 11) (pc' := 32) rfl (hb hby d22_11) rfl (flt hc35).2.1 (by decide) (by decide) (XS.aloadN X.here hx rfl (hb hby d22_32) rfl rfl k)) ?_
   refine finR X hx hk hret rfl rfl (hb hby d22_33) (by decide) (by decide) ?_
   have ht : cs.take i = cs := List.take_of_length_le (by omega)
   rw [eT]
   exact ⟨t_32, kb_32, rfl, N, K, sz_t_32, by have q := lf34_1; rw [ht] at q; exact q⟩
  | succ r ih =>
   intro i T locs h hi X eT N K lf34_0 lf34_1
   refine go (S' := T.setTop (mkF m 11 #[sr a1, si (Int32.ofNat i), si pn, sr t_32, si (Int32.ofNat i)] [(.int pn), (.int (Int32.ofNat i))])) (fun t k => XS.iload X.here hx rfl (hb hby d22_8) rfl (XS.iloadN X.here hx rfl (hb hby d22_10) rfl k)) ?_
   have hc36 : (Int32.ofNat i) < pn := by rw [hn]; exact oj_lt (by omega) (by omega)
   refine go (S' := T.setTop (mkF m 19 #[sr a1, si (Int32.ofNat i), si pn, sr t_32, si (Int32.ofNat i)] [(.int (Int32.ofNat i)), (.ref a1), (.int (Int32.ofNat i)), (.ref t_32)])) (fun t k => XS.icmpNo X.here hx rfl (hb hby d22_11) rfl (tlt hc36).2.1 (XS.aloadN X.here hx rfl (hb hby d22_14) rfl rfl (XS.iload X.here hx rfl (hb hby d22_15) rfl (XS.aloadN X.here hx rfl (hb hby d22_17) rfl rfl (XS.iloadN X.here hx rfl (hb hby d22_18) rfl k))))) ?_
   obtain ⟨cl37, Ar37, q37, S37, M37, H37, G37⟩ := id lf34_0
   have hin37 : ¬ ((Int32.ofNat i) < 0 ∨ cl37.slots.size ≤ ((Int32.ofNat i)).toNatClampNeg) := oj_in S37 hn (by omega) (by omega)
   have hat37 : cl37.slots[((Int32.ofNat i)).toNatClampNeg]? = some (.int (cs.getD i 0)) := Has.at H37 hin37 (by rw [oj_n (by omega)]; exact oj_get cs (by omega) _)
   refine go (S' := T.setTop (mkF m 20 #[sr a1, si (Int32.ofNat i), si pn, sr t_32, si (Int32.ofNat i)] [(.int (cs.getD i 0)), (.int (Int32.ofNat i)), (.ref t_32)])) (fun t k => X.caload hx (j := (Int32.ofNat i)) (v := (.int (cs.getD i 0))) (by rw [eT]; exact Ar37.1) (State.isArrayOf_alike hZ.alike Ar37.2.1) Ar37.2.2 hin37 hat37 (g := (mkF m 19 #[sr a1, si (Int32.ofNat i), si pn, sr t_32, si (Int32.ofNat i)] [(.int (Int32.ofNat i)), (.ref a1), (.int (Int32.ofNat i)), (.ref t_32)])) rfl rfl (hb hby d22_19) _ k) ?_
   have O38 : Old Z n0 h := O0.keep K all0
   obtain ⟨v39, T39, L39, X39, hQ39, st39⟩ := callSt X hx hZ (y := y_3) hown (ww hw 135 rfl) (ww hw 136 rfl) (ww hw 69 rfl) (ww hw 137 rfl) (by decide) (backOf (W := 0) (rmPut l Z a0 hw [] t_32 (Int32.ofNat i) (cs.getD i 0) kb_32 i cs.length (StrChars.Road.wideBytes (cs.take i)) h n0 (Nat.le_trans Z0 K.1) lf34_1 rfl (by rw [wide_len, List.length_take]; omega) (by omega) hl ge_t_32 hp3 hp4 hp5 O38) hZ (ww hw 137 rfl) (ww hw 69 rfl) (by decide) (by decide)) (g := (mkF m 20 #[sr a1, si (Int32.ofNat i), si pn, sr t_32, si (Int32.ofNat i)] [(.int (cs.getD i 0)), (.int (Int32.ofNat i)), (.ref t_32)])) rfl (by rw [hml]; rfl) (kc := 0) (ks := 0) (argsL := [(.ref t_32), (.int (Int32.ofNat i)), (.int (cs.getD i 0))]) (rest := []) (lenOf pd_2 rfl) rfl (mr0 rfl) (hb hby d22_20) eT (by decide) (by decide)
   obtain ⟨rfl, N39q, Kq39, q39_0⟩ := hQ39
   have N39 := Fr.app N N39q
   have K40 : Keep h0 T39.heap [] := K.trans Kq39 (allS (P := fun x => x ∈ [] ∨ h0.size ≤ x) (Or.inr sz_t_32) all0)
   refine go (S' := T39.setTop (mkF m 8 #[sr a1, si ((Int32.ofNat i) + (1 : Int32)), si pn, sr t_32, si ((Int32.ofNat i) + (1 : Int32))] [])) (fun t k => st39 _ (XS.iinc X39.here hx rfl (hb hby d22_23) rfl (l' := #[sr a1, si ((Int32.ofNat i) + (1 : Int32)), si pn, sr t_32, si (Int32.ofNat i)]) rfl (XS.iinc X39.here hx rfl (hb hby d22_26) rfl (l' := #[sr a1, si ((Int32.ofNat i) + (1 : Int32)), si pn, sr t_32, si ((Int32.ofNat i) + (1 : Int32))]) rfl (XS.goto X39.here hx rfl (pc0 := 29) (pc' := 8) rfl (hb hby d22_29) (by decide) (by decide) k)))) ?_
   have V41 : Arv Z T39.heap t_32 kb_32 .byte (Int32.ofNat (2 * cs.length)) (StrChars.Road.wideBytes (cs.take (i + 1))) (.int 0) := by rw [← oj_take1 cs (by omega), wide_snoc]; exact q39_0
   rw [oj_one i]
   have f42 : Arv Z T39.heap a1 kC .char pn (cs.map Value.int) dC := (lf34_0.keep Kq39 (ninS (Nat.ne_of_lt lt_a1_t_32) nin0))
   exact ih (i + 1) _ _ _ (by omega) X39 rfl N39 K40 f42 V41
 exact loopT cs.length 0 _ _ _ (Nat.zero_add _) X32 rfl N32 K33 (hp2.keep K33 nin0) q32_1
theorem d13_0 : dd jdk_52_method_16_code 0 (.iload_n 2) 1 := by decide +kernel
theorem d13_1 : dd jdk_52_method_16_code 1 (.newarray .byte) 2 := by decide +kernel
theorem d13_3 : dd jdk_52_method_16_code 3 (.astore_n 3) 1 := by decide +kernel
theorem d13_4 : dd jdk_52_method_16_code 4 (.aload_n 0) 1 := by decide +kernel
theorem d13_5 : dd jdk_52_method_16_code 5 (.iload_n 1) 1 := by decide +kernel
theorem d13_6 : dd jdk_52_method_16_code 6 (.aload_n 3) 1 := by decide +kernel
theorem d13_7 : dd jdk_52_method_16_code 7 (.iconst 0) 1 := by decide +kernel
theorem d13_8 : dd jdk_52_method_16_code 8 (.iload_n 2) 1 := by decide +kernel
theorem d13_9 : dd jdk_52_method_16_code 9 (.invokestatic 115) 3 := by decide +kernel
theorem pd_3 : parseMethodDescriptor "([CI[BII)I" = some ⟨[(.array .char), .int, (.array .byte), .int, .int], some .int⟩ := by decide +kernel
theorem d13_12 : dd jdk_52_method_16_code 12 (.istore 4) 2 := by decide +kernel
theorem d13_14 : dd jdk_52_method_16_code 14 (.iload 4) 2 := by decide +kernel
theorem d13_16 : dd jdk_52_method_16_code 16 (.iload_n 2) 1 := by decide +kernel
theorem d13_17 : dd jdk_52_method_16_code 17 (.if_icmp .eq 40) 3 := by decide +kernel
theorem d13_57 : dd jdk_52_method_16_code 57 (.aload_n 3) 1 := by decide +kernel
theorem d13_58 : dd jdk_52_method_16_code 58 .areturn 1 := by decide +kernel
theorem d13_20 : dd jdk_52_method_16_code 20 (.aload_n 0) 1 := by decide +kernel
theorem d13_21 : dd jdk_52_method_16_code 21 (.iload_n 1) 1 := by decide +kernel
theorem d13_22 : dd jdk_52_method_16_code 22 (.iload_n 2) 1 := by decide +kernel
theorem d13_23 : dd jdk_52_method_16_code 23 (.invokestatic 119) 3 := by decide +kernel
theorem pd_4 : parseMethodDescriptor "([CII)[B" = some ⟨[(.array .char), .int, .int], some (.array .byte)⟩ := by decide +kernel
theorem d13_26 : dd jdk_52_method_16_code 26 (.astore 5) 2 := by decide +kernel
theorem d13_28 : dd jdk_52_method_16_code 28 (.aload 5) 2 := by decide +kernel
theorem d13_30 : dd jdk_52_method_16_code 30 (.iload 4) 2 := by decide +kernel
theorem d13_32 : dd jdk_52_method_16_code 32 (.invokestatic 71) 3 := by decide +kernel
theorem pd_5 : parseMethodDescriptor "([BI)C" = some ⟨[(.array .byte), .int], some .char⟩ := by decide +kernel
theorem d13_35 : dd jdk_52_method_16_code 35 (.sipush 255) 3 := by decide +kernel
theorem d13_38 : dd jdk_52_method_16_code 38 (.if_icmp .gt 16) 3 := by decide +kernel
theorem d13_54 : dd jdk_52_method_16_code 54 (.aload 5) 2 := by decide +kernel
theorem d13_56 : dd jdk_52_method_16_code 56 .areturn 1 := by decide +kernel
abbrev y_6 : MethodName := ⟨"java/lang/StringUTF16", "compress", "([CII)[B"⟩
theorem pn_6 : plainFor y_6 = true := by first | exact plainFor_of_name (by first | (simp [plainName, overriddenIn]; done) | decide +kernel) | decide +kernel
theorem ef_rmCmp3 (m : MethodId) (a1 : Addr) (pn : Int32) : entryFrame m #[(.ref a1), (.int 0), (.int pn)] 6 = mkF m 0 #[sr a1, si 0, si pn, un, un, un] [] := by first | (simp [entryFrame, mkF, argsToLocals, Value.category]; done) | rfl
def Q_rmCmp3 (Z : State) (a1 : Addr) (pn : Int32) (kC : ClassId) (cs : List Int32) (dC : Value) (h0 : Heap) (n0 : Nat) (v : Option Value) (h : Heap) (L : List Loc) : Prop := ∃ (t : Addr), ∃ (kb : ClassId), ∃ (cd : Int32), ∃ (N2 : Int32), ∃ (vs : List Value), v = some (.ref t) ∧ Fr n0 L ∧ Keep h0 h [] ∧ (h0.size ≤ t) ∧ (Arv Z h t kb .byte N2 vs (.int 0)) ∧ (StrChars.Road.CodA cs cd N2 vs)
set_option maxRecDepth 65536 in
set_option maxHeartbeats 40000000 in
theorem rmCmp3 (l : Launch) (Z : State) (a0 : Array Value) (hw : ∀ d ∈ tables_1, d.before a0 Z = true) (ws : List Jvm.Cond) (a1 : Addr) (pn : Int32) (kC : ClassId) (cs : List Int32) (dC : Value) (h0 : Heap) (n0 : Nat) (Z0 : n0 ≤ h0.size) (hn : pn = Int32.ofNat cs.length) (hl : cs.length ≤ 12) (hpc : ∀ c ∈ cs, ¬ c < 0 ∧ ¬ (65535 : Int32) < c) (hp3 : Arv Z h0 a1 kC .char pn (cs.map Value.int) dC) (hp4 : Sta Z Z.heap "java/lang/StringUTF16" "$assertionsDisabled" "Z" (.int 1)) (hp5 : Sta Z Z.heap "java/lang/StringUTF16" "HI_BYTE_SHIFT" "I" (.int 0)) (hp6 : Sta Z Z.heap "java/lang/StringUTF16" "LO_BYTE_SHIFT" "I" (.int 8)) (hp7 : Old Z n0 h0) :
    MetFree l y_6 (head1 (Jvm.Cond.code y_6 jdk_52_method_16_code 6 (some (.array .byte)) :: ws) ({ frames := 3, cells := 2, slots := 36, locals := 40 } : Room)) (fun a U => a = #[(.ref a1), (.int 0), (.int pn)] ∧ Z.Warmed39 U.vm ∧ U.heap = h0) (fun _ _ _ _ _ => True) (fun _ U o U' => ∃ v L, o = .returned v ∧ Q_rmCmp3 Z a1 pn kC cs dC h0 n0 v U'.heap L ∧ FrameEnd U o U' L ({ frames := 3, cells := 2, slots := 36, locals := 40 } : Room).cells ({ frames := 3, cells := 2, slots := 36, locals := 40 } : Room).slots) := by
 refine bodyOf pn_6 (fun m => ef_rmCmp3 m a1 pn) ?_
 intro p e s m below meth c T0 X0 hx hby hml hown hnm hret hk hZ e0
 have N0 := Fr.nil n0
 have K0 : Keep h0 h0 [] := Keep.refl _ _
 have O0 := hp7
 refine go (S' := T0.setTop (mkF m 1 #[sr a1, si 0, si pn, un, un, un] [(.int pn)])) (fun t k => XS.iloadN X0.here hx rfl (hb hby d13_0) rfl k) ?_
 obtain ⟨T43, h43, k43, X43, e43, E43, A43, st43⟩ := newP X0 hx hZ (ww hw 4 rfl) e0 (g := (mkF m 1 #[sr a1, si 0, si pn, un, un, un] [(.int pn)])) rfl (hb hby d13_1) rfl (by rw [hn]; exact oj_nn (by omega)) (cap := 12) (by rw [hn, oj_n (by omega)]; omega) (by decide) (by decide) (by decide)
 obtain ⟨b43, g43⟩ : ∃ z, z = h0.size := ⟨_, rfl⟩
 rw [← g43] at A43 st43
 have lt_a1_b43 : a1 < b43 := by rw [g43]; exact hp3.lt
 have ge_b43 : n0 ≤ b43 := by rw [g43]; exact (Nat.le_trans Z0 K0.1)
 have sz_b43 : h0.size ≤ b43 := by rw [g43]; exact K0.1
 have K44 : Keep h0 h43 [] := K0.ext E43
 have V43 : Arv Z h43 b43 k43 .byte pn [] (.int 0) := Arv.new A43 (by rw [hn]; exact oj_nn (by omega))
 refine go (S' := T43.setTop (mkF m 9 #[sr a1, si 0, si pn, sr b43, un, un] [(.int pn), (.int 0), (.ref b43), (.int 0), (.ref a1)])) (fun t k => st43 _ (XS.astoreN X43.here hx rfl (hb hby d13_3) rfl rfl (l' := #[sr a1, si 0, si pn, sr b43, un, un]) rfl (XS.aloadN X43.here hx rfl (hb hby d13_4) rfl rfl (XS.iloadN X43.here hx rfl (hb hby d13_5) rfl (XS.aloadN X43.here hx rfl (hb hby d13_6) rfl rfl (XS.iconst X43.here hx rfl (hb hby d13_7) (XS.iloadN X43.here hx rfl (hb hby d13_8) rfl k))))))) ?_
 obtain ⟨v45, T45, L45, X45, hQ45, st45⟩ := callSt X43 hx hZ (y := y_0) hown (ww hw 71 rfl) (ww hw 72 rfl) (ww hw 69 rfl) (ww hw 73 rfl) (by decide) (backOf (W := 0) (rmCmp5 l Z a0 hw [] a1 b43 pn kC k43 cs dC h43 n0 (Nat.le_trans Z0 K44.1) hn hl (hp3.keep K44 nin0) V43 ge_b43 (Nat.ne_of_lt lt_a1_b43)) hZ (ww hw 73 rfl) (ww hw 69 rfl) (by decide) (by decide)) (g := (mkF m 9 #[sr a1, si 0, si pn, sr b43, un, un] [(.int pn), (.int 0), (.ref b43), (.int 0), (.ref a1)])) rfl (by rw [hml]; rfl) (kc := 0) (ks := 0) (argsL := [(.ref a1), (.int 0), (.ref b43), (.int 0), (.int pn)]) (rest := []) (lenOf pd_3 rfl) rfl (mr0 rfl) (hb hby d13_9) e43 (by decide) (by decide)
 obtain ⟨rfl, N45q, Kq45, q45_0⟩ := hQ45
 have N45 := Fr.app N0 N45q
 have K46 : Keep h0 T45.heap [] := K44.trans Kq45 (allS (P := fun x => x ∈ [] ∨ h0.size ≤ x) (Or.inr sz_b43) all0)
 refine go (S' := T45.setTop (mkF m 17 #[sr a1, si 0, si pn, sr b43, si (Int32.ofNat (own_k cs)), un] [(.int pn), (.int (Int32.ofNat (own_k cs)))])) (fun t k => st45 _ (XS.istore X45.here hx rfl (hb hby d13_12) rfl (l' := #[sr a1, si 0, si pn, sr b43, si (Int32.ofNat (own_k cs)), un]) rfl (XS.iload X45.here hx rfl (hb hby d13_14) rfl (XS.iloadN X45.here hx rfl (hb hby d13_16) rfl k)))) ?_
 by_cases hq : own_k cs = cs.length
 ·
  have hqq : (Int32.ofNat (own_k cs)) = pn := by rw [hn, hq]
  refine go (S' := T45.setTop (mkF m 58 #[sr a1, si 0, si pn, sr b43, si (Int32.ofNat (own_k cs)), un] [(.ref b43)])) (fun t k => XS.icmpYes X45.here hx rfl (pc0 := 17) (pc' := 57) rfl (hb hby d13_17) rfl (teq hqq).1 (by decide) (by decide) (XS.aloadN X45.here hx rfl (hb hby d13_57) rfl rfl k)) ?_
  refine finR X45 hx hk hret rfl rfl (hb hby d13_58) (by decide) (by decide) ?_
  have hV : (cs.take (own_k cs)) = cs := List.take_of_length_le (by omega)
  exact ⟨b43, k43, 0, pn, _, rfl, N45, K46, sz_b43, q45_0, Or.inl ⟨rfl, hn, by rw [hV], own_k_lo cs hq⟩⟩
 ·
  have hkk := own_k_hi cs hq
  have hqq : ¬ ((Int32.ofNat (own_k cs)) = pn) := fun q => hq (oj_inj (by omega) (by omega) (q.trans hn))
  refine go (S' := T45.setTop (mkF m 23 #[sr a1, si 0, si pn, sr b43, si (Int32.ofNat (own_k cs)), un] [(.int pn), (.int 0), (.ref a1)])) (fun t k => XS.icmpNo X45.here hx rfl (hb hby d13_17) rfl (feq hqq).1 (XS.aloadN X45.here hx rfl (hb hby d13_20) rfl rfl (XS.iloadN X45.here hx rfl (hb hby d13_21) rfl (XS.iloadN X45.here hx rfl (hb hby d13_22) rfl k)))) ?_
  have O47 : Old Z n0 T45.heap := O0.keep K46 all0
  obtain ⟨v48, T48, L48, X48, hQ48, st48⟩ := callSt X45 hx hZ (y := y_5) hown (ww hw 125 rfl) (ww hw 126 rfl) (ww hw 69 rfl) (ww hw 127 rfl) (by decide) (backOf (W := 0) (rmTob l Z a0 hw [] a1 pn kC cs dC T45.heap n0 (Nat.le_trans Z0 K46.1) hn hl (hp3.keep K46 nin0) hp4 hp5 hp6 O47) hZ (ww hw 127 rfl) (ww hw 69 rfl) (by decide) (by decide)) (g := (mkF m 23 #[sr a1, si 0, si pn, sr b43, si (Int32.ofNat (own_k cs)), un] [(.int pn), (.int 0), (.ref a1)])) rfl (by rw [hml]; rfl) (kc := 1) (ks := 24) (argsL := [(.ref a1), (.int 0), (.int pn)]) (rest := []) (lenOf pd_4 rfl) rfl (mr0 rfl) (hb hby d13_23) rfl (by decide) (by decide)
  obtain ⟨t_48, kb_48, rfl, N48q, Kq48, q48_0, q48_1⟩ := hQ48
  have N48 := Fr.app N45 N48q
  have K49 : Keep h0 T48.heap [] := K46.trans Kq48 all0
  have lt_a1_t_48 : a1 < t_48 := Nat.lt_of_lt_of_le (hp3.keep K46 nin0).lt q48_0
  have lt_b43_t_48 : b43 < t_48 := Nat.lt_of_lt_of_le q45_0.lt q48_0
  have sz_t_48 : h0.size ≤ t_48 := Nat.le_trans K46.1 q48_0
  have ge_t_48 : n0 ≤ t_48 := Nat.le_trans Z0 sz_t_48
  refine go (S' := T48.setTop (mkF m 32 #[sr a1, si 0, si pn, sr b43, si (Int32.ofNat (own_k cs)), sr t_48] [(.int (Int32.ofNat (own_k cs))), (.ref t_48)])) (fun t k => st48 _ (XS.astore X48.here hx rfl (hb hby d13_26) rfl rfl (l' := #[sr a1, si 0, si pn, sr b43, si (Int32.ofNat (own_k cs)), sr t_48]) rfl (XS.aload X48.here hx rfl (hb hby d13_28) rfl rfl (XS.iload X48.here hx rfl (hb hby d13_30) rfl k)))) ?_
  have O50 : Old Z n0 T48.heap := O0.keep K49 all0
  obtain ⟨v51, T51, L51, X51, hQ51, st51⟩ := callSt X48 hx hZ (y := y_4) hown (ww hw 141 rfl) (ww hw 142 rfl) (ww hw 69 rfl) (ww hw 143 rfl) (by decide) (backOf (W := 0) (rmGet l Z a0 hw [] t_48 (Int32.ofNat (own_k cs)) kb_48 (own_k cs) cs.length (StrChars.Road.wideBytes cs) (cs.getD (own_k cs) 0) T48.heap n0 (Nat.le_trans Z0 K49.1) q48_1 rfl hkk.1 hl (StrChars.Road.wide_lo _ cs _ hkk.1) (StrChars.Road.wide_hi _ cs _ hkk.1) (hpc _ (oj_mem hkk.1)) hp4 hp5 hp6 O50) hZ (ww hw 143 rfl) (ww hw 69 rfl) (by decide) (by decide)) (g := (mkF m 32 #[sr a1, si 0, si pn, sr b43, si (Int32.ofNat (own_k cs)), sr t_48] [(.int (Int32.ofNat (own_k cs))), (.ref t_48)])) rfl (by rw [hml]; rfl) (kc := 0) (ks := 0) (argsL := [(.ref t_48), (.int (Int32.ofNat (own_k cs)))]) (rest := []) (lenOf pd_5 rfl) rfl (mr0 rfl) (hb hby d13_32) rfl (by decide) (by decide)
  obtain ⟨rfl, N51q, e51⟩ := hQ51
  have N51 := Fr.app N48 N51q
  refine go (S' := T51.setTop (mkF m 56 #[sr a1, si 0, si pn, sr b43, si (Int32.ofNat (own_k cs)), sr t_48] [(.ref t_48)])) (fun t k => st51 _ (XS.sipush X51.here hx rfl (hb hby d13_35) (XS.icmpYes X51.here hx rfl (pc0 := 38) (pc' := 54) rfl (hb hby d13_38) rfl (tlt hkk.2).2.2.1 (by decide) (by decide) (XS.aload X51.here hx rfl (hb hby d13_54) rfl rfl k)))) ?_
  refine finR X51 hx hk hret rfl rfl (hb hby d13_56) (by decide) (by decide) ?_
  rw [e51]
  exact ⟨t_48, kb_48, 1, _, _, rfl, N51, K49, sz_t_48, q48_1, Or.inr ⟨rfl, rfl, rfl, _, oj_mem hkk.1, hkk.2⟩⟩
theorem d15_0 : dd jdk_52_method_15_code 0 (.iload_n 1) 1 := by decide +kernel
theorem d15_1 : dd jdk_52_method_15_code 1 (.aload_n 0) 1 := by decide +kernel
theorem d15_2 : dd jdk_52_method_15_code 2 .arraylength 1 := by decide +kernel
theorem d15_3 : dd jdk_52_method_15_code 3 .isub 1 := by decide +kernel
theorem d15_4 : dd jdk_52_method_15_code 4 (.bipush 31) 2 := by decide +kernel
theorem d15_6 : dd jdk_52_method_15_code 6 .iushr 1 := by decide +kernel
theorem d15_7 : dd jdk_52_method_15_code 7 .i2b 1 := by decide +kernel
theorem d15_8 : dd jdk_52_method_15_code 8 .ireturn 1 := by decide +kernel
abbrev y_7 : MethodName := ⟨"java/lang/StringUTF16", "coderFromArrayLen", "([BI)B"⟩
theorem pn_7 : plainFor y_7 = true := by first | exact plainFor_of_name (by first | (simp [plainName, overriddenIn]; done) | decide +kernel) | decide +kernel
theorem ef_rmCfl (m : MethodId) (a1 : Addr) (pn : Int32) : entryFrame m #[(.ref a1), (.int pn)] 2 = mkF m 0 #[sr a1, si pn] [] := by first | (simp [entryFrame, mkF, argsToLocals, Value.category]; done) | rfl
def Q_rmCfl (Z : State) (a1 : Addr) (pn : Int32) (kb : ClassId) (cd : Int32) (N2 : Int32) (vs : List Value) (cs : List Int32) (h0 : Heap) (n0 : Nat) (v : Option Value) (h : Heap) (L : List Loc) : Prop := v = some (.int cd) ∧ Fr n0 L ∧ h = h0
set_option maxRecDepth 65536 in
set_option maxHeartbeats 40000000 in
theorem rmCfl (l : Launch) (Z : State) (a0 : Array Value) (hw : ∀ d ∈ tables_1, d.before a0 Z = true) (ws : List Jvm.Cond) (a1 : Addr) (pn : Int32) (kb : ClassId) (cd : Int32) (N2 : Int32) (vs : List Value) (cs : List Int32) (h0 : Heap) (n0 : Nat) (Z0 : n0 ≤ h0.size) (hp0 : Arv Z h0 a1 kb .byte N2 vs (.int 0)) (hcod : StrChars.Road.CodA cs cd N2 vs) (hn : pn = Int32.ofNat cs.length) (hl : cs.length ≤ 4000) (hl0 : 0 < cs.length) :
    MetFree l y_7 (head1 (Jvm.Cond.code y_7 jdk_52_method_15_code 2 (some .byte) :: ws) ({ frames := 0, cells := 0, slots := 0, locals := 0 } : Room)) (fun a U => a = #[(.ref a1), (.int pn)] ∧ Z.Warmed39 U.vm ∧ U.heap = h0) (fun _ _ _ _ _ => True) (fun _ U o U' => ∃ v L, o = .returned v ∧ Q_rmCfl Z a1 pn kb cd N2 vs cs h0 n0 v U'.heap L ∧ FrameEnd U o U' L ({ frames := 0, cells := 0, slots := 0, locals := 0 } : Room).cells ({ frames := 0, cells := 0, slots := 0, locals := 0 } : Room).slots) := by
 refine bodyOf pn_7 (fun m => ef_rmCfl m a1 pn) ?_
 intro p e s m below meth c T0 X0 hx hby hml hown hnm hret hk hZ e0
 have N0 := Fr.nil n0
 have K0 : Keep h0 h0 [] := Keep.refl _ _
 refine go (S' := T0.setTop (mkF m 2 #[sr a1, si pn] [(.ref a1), (.int pn)])) (fun t k => XS.iloadN X0.here hx rfl (hb hby d15_0) rfl (XS.aloadN X0.here hx rfl (hb hby d15_1) rfl rfl k)) ?_
 obtain ⟨cl52, Ar52, -, S52, M52, -, -⟩ := id hp0
 refine go (S' := T0.setTop (mkF m 8 #[sr a1, si pn] [(.int ((((pn - N2).toUInt32 >>> ((31 : Int32) &&& 31).toUInt32).toInt32).toInt8.toInt32))])) (fun t k => X0.arraylength hx (by rw [e0]; exact Ar52.1) (State.isArrayOf_alike hZ.alike Ar52.2.1) (g := (mkF m 2 #[sr a1, si pn] [(.ref a1), (.int pn)])) rfl rfl (hb hby d15_2) _ (by rw [len_of S52 M52]; exact (XS.isub X0.here hx rfl (hb hby d15_3) rfl (XS.bipush X0.here hx rfl (hb hby d15_4) (XS.iushr X0.here hx rfl (hb hby d15_6) rfl (XS.i2b X0.here hx rfl (hb hby d15_7) rfl k)))))) ?_
 refine finN X0 hx hk (t := .byte) hret (by simp) (hb hby d15_8) (by decide) (by decide) ?_
 rw [e0]
 exact ⟨(congrArg (fun z => some (Value.int z)) (by rcases hcod with ⟨q1, q2, -⟩ | ⟨q1, q2, -⟩; rw [hn, q1, q2]; exact oj_cod0 hl; rw [hn, q1, q2]; exact oj_cod1 hl0 hl)), N0, rfl⟩
theorem d11_0 : dd jdk_42_method_149_code 0 (.aload_n 0) 1 := by decide +kernel
theorem d11_1 : dd jdk_42_method_149_code 1 (.invokespecial 1) 3 := by decide +kernel
theorem d11_4 : dd jdk_42_method_149_code 4 (.iload_n 3) 1 := by decide +kernel
theorem d11_5 : dd jdk_42_method_149_code 5 (.ifCond .ne 22) 3 := by decide +kernel
theorem d11_27 : dd jdk_42_method_149_code 27 (.getstatic 38) 3 := by decide +kernel
theorem d11_30 : dd jdk_42_method_149_code 30 (.ifCond .eq 28) 3 := by decide +kernel
theorem d11_33 : dd jdk_42_method_149_code 33 (.aload_n 1) 1 := by decide +kernel
theorem d11_34 : dd jdk_42_method_149_code 34 (.iload_n 2) 1 := by decide +kernel
theorem d11_35 : dd jdk_42_method_149_code 35 (.iload_n 3) 1 := by decide +kernel
theorem d11_36 : dd jdk_42_method_149_code 36 (.invokestatic 177) 3 := by decide +kernel
theorem d11_39 : dd jdk_42_method_149_code 39 (.astore 5) 2 := by decide +kernel
theorem d11_41 : dd jdk_42_method_149_code 41 (.aload_n 0) 1 := by decide +kernel
theorem d11_42 : dd jdk_42_method_149_code 42 (.aload 5) 2 := by decide +kernel
theorem d11_44 : dd jdk_42_method_149_code 44 (.iload_n 3) 1 := by decide +kernel
theorem d11_45 : dd jdk_42_method_149_code 45 (.invokestatic 47) 3 := by decide +kernel
theorem pd_6 : parseMethodDescriptor "([BI)B" = some ⟨[(.array .byte), .int], some .byte⟩ := by decide +kernel
theorem d11_48 : dd jdk_42_method_149_code 48 (.putfield 15) 3 := by decide +kernel
theorem d11_51 : dd jdk_42_method_149_code 51 (.aload_n 0) 1 := by decide +kernel
theorem d11_52 : dd jdk_42_method_149_code 52 (.aload 5) 2 := by decide +kernel
theorem d11_54 : dd jdk_42_method_149_code 54 (.putfield 9) 3 := by decide +kernel
theorem d11_57 : dd jdk_42_method_149_code 57 .return_ 1 := by decide +kernel
abbrev y_8 : MethodName := ⟨"java/lang/String", "<init>", "([CIILjava/lang/Void;)V"⟩
theorem pn_8 : plainFor y_8 = true := by first | exact plainFor_of_name (by first | (simp [plainName, overriddenIn]; done) | decide +kernel) | decide +kernel
theorem ef_rmInit4 (m : MethodId) (x1 : Addr) (b1 : Addr) (pn : Int32) : entryFrame m #[(.ref x1), (.ref b1), (.int 0), (.int pn), .null] 6 = mkF m 0 #[sr x1, sr b1, si 0, si pn, .val .null, un] [] := by first | (simp [entryFrame, mkF, argsToLocals, Value.category]; done) | rfl
def Q_rmInit4 (Z : State) (x1 : Addr) (b1 : Addr) (pn : Int32) (kC : ClassId) (cs : List Int32) (dC : Value) (G1 : Int32) (h0 : Heap) (n0 : Nat) (v : Option Value) (h : Heap) (L : List Loc) : Prop := ∃ (t : Addr), ∃ (cd : Int32), v = none ∧ Fr n0 L ∧ Keep h0 h [x1] ∧ (h0.size ≤ t) ∧ (t ≠ x1) ∧ (Str Z h x1 t cd cs)
set_option maxRecDepth 65536 in
set_option maxHeartbeats 40000000 in
theorem rmInit4 (l : Launch) (Z : State) (a0 : Array Value) (hw : ∀ d ∈ tables_1, d.before a0 Z = true) (ws : List Jvm.Cond) (x1 : Addr) (b1 : Addr) (pn : Int32) (kC : ClassId) (cs : List Int32) (dC : Value) (G1 : Int32) (h0 : Heap) (n0 : Nat) (Z0 : n0 ≤ h0.size) (hn : pn = Int32.ofNat cs.length) (hl : cs.length ≤ 12) (hl0 : 0 < cs.length) (hpc : ∀ c ∈ cs, ¬ c < 0 ∧ ¬ (65535 : Int32) < c) (hp4 : Arv Z h0 b1 kC .char pn (cs.map Value.int) dC) (hp5 : Exa Z h0 x1 "java/lang/String") (hp6 : Fld Z h0 x1 "java/lang/String" "value" "[B" .null) (hp7 : Fld Z h0 x1 "java/lang/String" "coder" "B" (.int 0)) (hp8 : n0 ≤ x1) (hp9 : x1 ≠ b1) (hp10 : Sta Z Z.heap "java/lang/String" "COMPACT_STRINGS" "Z" (.int G1)) (hG1 : ¬ (G1 = (0 : Int32))) (hp12 : Sta Z Z.heap "java/lang/StringUTF16" "$assertionsDisabled" "Z" (.int 1)) (hp13 : Sta Z Z.heap "java/lang/StringUTF16" "HI_BYTE_SHIFT" "I" (.int 0)) (hp14 : Sta Z Z.heap "java/lang/StringUTF16" "LO_BYTE_SHIFT" "I" (.int 8)) (hp15 : Old Z n0 h0) :
    MetFree l y_8 (head1 (Jvm.Cond.code y_8 jdk_42_method_149_code 6 none :: ws) ({ frames := 4, cells := 2, slots := 36, locals := 57 } : Room)) (fun a U => a = #[(.ref x1), (.ref b1), (.int 0), (.int pn), .null] ∧ Z.Warmed39 U.vm ∧ U.heap = h0) (fun _ _ _ _ _ => True) (fun _ U o U' => ∃ v L, o = .returned v ∧ Q_rmInit4 Z x1 b1 pn kC cs dC G1 h0 n0 v U'.heap L ∧ FrameEnd U o U' L ({ frames := 4, cells := 2, slots := 36, locals := 57 } : Room).cells ({ frames := 4, cells := 2, slots := 36, locals := 57 } : Room).slots) := by
 refine bodyOf pn_8 (fun m => ef_rmInit4 m x1 b1 pn) ?_
 intro p e s m below meth c T0 X0 hx hby hml hown hnm hret hk hZ e0
 have N0 := Fr.nil n0
 have K0 : Keep h0 h0 [x1] := Keep.refl _ _
 have ne_x1_b1 := hp9
 have O0 := hp15
 have hne0 : ¬ (pn = (0 : Int32)) := fun q => absurd (oj_inj (i := cs.length) (n := 0) (by omega) (by omega) (hn.symm.trans (q.trans (rfl : (0 : Int32) = Int32.ofNat 0)))) (by omega)
 refine go (S' := T0.setTop (mkF m 1 #[sr x1, sr b1, si 0, si pn, .val .null, un] [(.ref x1)])) (fun t k => XS.aloadN X0.here hx rfl (hb hby d11_0) rfl rfl k) ?_
 obtain ⟨T53, X53, e53, st53⟩ := initO X0 hx hZ hown (ww hw 64 rfl) (ww hw 65 rfl) (ww hw 66 rfl) e0 (g := (mkF m 1 #[sr x1, sr b1, si 0, si pn, .val .null, un] [(.ref x1)])) rfl (by rw [hml]; rfl) rfl (hb hby d11_1) (by decide) (W := 0) (mr0 rfl) (by decide)
 refine go (S' := T53.setTop (mkF m 27 #[sr x1, sr b1, si 0, si pn, .val .null, un] [])) (fun t k => st53 _ (XS.iloadN X53.here hx rfl (hb hby d11_4) rfl (XS.ifYes X53.here hx rfl (pc0 := 5) (pc' := 27) rfl (hb hby d11_5) rfl ((if0 _ _).trans (feq hne0).2) (by decide) (by decide) k))) ?_
 have O55 : Old Z n0 h0 := O0.keep K0 (allS hp8 all0)
 obtain ⟨T54, X54, e54, st54⟩ := getS2 X53 hx hZ hown (host := "") (Or.inl (ww hw 23 rfl)) Via.refl e53 (hp10.ext O55.2) (g := (mkF m 27 #[sr x1, sr b1, si 0, si pn, .val .null, un] [])) rfl (hb hby d11_27)
 refine go (S' := T54.setTop (mkF m 36 #[sr x1, sr b1, si 0, si pn, .val .null, un] [(.int pn), (.int 0), (.ref b1)])) (fun t k => st54 _ (XS.ifNo X54.here hx rfl (hb hby d11_30) rfl ((if0 _ _).trans (feq hG1).1) (XS.aloadN X54.here hx rfl (hb hby d11_33) rfl rfl (XS.iloadN X54.here hx rfl (hb hby d11_34) rfl (XS.iloadN X54.here hx rfl (hb hby d11_35) rfl k))))) ?_
 obtain ⟨v56, T56, L56, X56, hQ56, st56⟩ := callSt X54 hx hZ (y := y_6) hown (ww hw 67 rfl) (ww hw 68 rfl) (ww hw 69 rfl) (ww hw 70 rfl) (by decide) (backOf (W := 0) (rmCmp3 l Z a0 hw [] b1 pn kC cs dC h0 n0 (Nat.le_trans Z0 K0.1) hn hl hpc hp4 hp12 hp13 hp14 O55) hZ (ww hw 70 rfl) (ww hw 69 rfl) (by decide) (by decide)) (g := (mkF m 36 #[sr x1, sr b1, si 0, si pn, .val .null, un] [(.int pn), (.int 0), (.ref b1)])) rfl (by rw [hml]; rfl) (kc := 2) (ks := 36) (argsL := [(.ref b1), (.int 0), (.int pn)]) (rest := []) (lenOf pd_4 rfl) rfl (mr0 rfl) (hb hby d11_36) e54 (by decide) (by decide)
 obtain ⟨t_56, kb_56, cd_56, N2_56, vs_56, rfl, N56q, Kq56, q56_0, q56_1, q56_2⟩ := hQ56
 have N56 := Fr.app N0 N56q
 have K57 : Keep h0 T56.heap [x1] := K0.trans Kq56 all0
 have lt_b1_t_56 : b1 < t_56 := Nat.lt_of_lt_of_le hp4.lt q56_0
 have lt_x1_t_56 : x1 < t_56 := Nat.lt_of_lt_of_le hp5.lt q56_0
 have sz_t_56 : h0.size ≤ t_56 := Nat.le_trans K0.1 q56_0
 have ge_t_56 : n0 ≤ t_56 := Nat.le_trans Z0 sz_t_56
 refine go (S' := T56.setTop (mkF m 45 #[sr x1, sr b1, si 0, si pn, .val .null, sr t_56] [(.int pn), (.ref t_56), (.ref x1)])) (fun t k => st56 _ (XS.astore X56.here hx rfl (hb hby d11_39) rfl rfl (l' := #[sr x1, sr b1, si 0, si pn, .val .null, sr t_56]) rfl (XS.aloadN X56.here hx rfl (hb hby d11_41) rfl rfl (XS.aload X56.here hx rfl (hb hby d11_42) rfl rfl (XS.iloadN X56.here hx rfl (hb hby d11_44) rfl k))))) ?_
 obtain ⟨v58, T58, L58, X58, hQ58, st58⟩ := callSt X56 hx hZ (y := y_7) hown (ww hw 74 rfl) (ww hw 75 rfl) (ww hw 69 rfl) (ww hw 76 rfl) (by decide) (backOf (W := 1) (rmCfl l Z a0 hw [] t_56 pn kb_56 cd_56 N2_56 vs_56 cs T56.heap n0 (Nat.le_trans Z0 K57.1) q56_1 q56_2 hn (by omega) hl0) hZ (ww hw 76 rfl) (ww hw 69 rfl) (by decide) (by decide)) (g := (mkF m 45 #[sr x1, sr b1, si 0, si pn, .val .null, sr t_56] [(.int pn), (.ref t_56), (.ref x1)])) rfl (by rw [hml]; rfl) (kc := 0) (ks := 0) (argsL := [(.ref t_56), (.int pn)]) (rest := [(.ref x1)]) (lenOf pd_6 rfl) rfl (mr0 rfl) (hb hby d11_45) rfl (by decide) (by decide)
 obtain ⟨rfl, N58q, e58⟩ := hQ58
 have N58 := Fr.app N56 N58q
 refine go (S' := T58.setTop (mkF m 48 #[sr x1, sr b1, si 0, si pn, .val .null, sr t_56] [(.int cd_56), (.ref x1)])) st58 ?_
 have hcd : cd_56 = 0 ∨ cd_56 = 1 := q56_2.imp (·.1) (·.1)
 have f59 : Fld Z T56.heap x1 "java/lang/String" "coder" "B" (.int 0) := (hp7.keep Kq56 nin0)
 obtain ⟨T60, h60, X60, e60, W60, st60⟩ := putF X58 hx hZ hown (host := "") (Or.inl (ww hw 24 rfl)) Via.refl e58 f59 (hp5.keep K57) (Or.inr ⟨(ww hw 6 rfl), rfl, hnm⟩) (ww hw 3 rfl) (ty := .byte) (by decide) (by rcases hcd with q | q <;> rw [q] <;> rfl) (by rcases hcd with q | q <;> rw [q] <;> rfl) (g := (mkF m 48 #[sr x1, sr b1, si 0, si pn, .val .null, sr t_56] [(.int cd_56), (.ref x1)])) rfl rfl (hb hby d11_48)
 have K61 : Keep h0 h60 [x1] := K57.wr W60 (Or.inl (List.mem_of_getElem? (i := 0) rfl))
 have N62 := Fr.snoc X60 N58 hp8
 have f63 : Fld Z h60 x1 "java/lang/String" "coder" "B" (.int cd_56) := (Fld.same W60 f59)
 refine go (S' := T60.setTop (mkF m 54 #[sr x1, sr b1, si 0, si pn, .val .null, sr t_56] [(.ref t_56), (.ref x1)])) (fun t k => st60 _ (XS.aloadN X60.here hx rfl (hb hby d11_51) rfl rfl (XS.aload X60.here hx rfl (hb hby d11_52) rfl rfl k))) ?_
 have f64 : Fld Z h60 x1 "java/lang/String" "value" "[B" .null := (Fld.other W60 (hp6.keep Kq56 nin0) (Or.inr (slot_ne (Or.inr (ww hw 5 rfl)) (Or.inr (ww hw 6 rfl)) (by decide) (t := (.array .byte)) (t' := .byte) (by decide) (by decide))))
 obtain ⟨T65, h65, X65, e65, W65, st65⟩ := putF X60 hx hZ hown (host := "") (Or.inl (ww hw 17 rfl)) Via.refl e60 f64 (hp5.keep K61) (Or.inr ⟨(ww hw 5 rfl), rfl, hnm⟩) (ww hw 3 rfl) (ty := (.array .byte)) (by decide) rfl rfl (g := (mkF m 54 #[sr x1, sr b1, si 0, si pn, .val .null, sr t_56] [(.ref t_56), (.ref x1)])) rfl rfl (hb hby d11_54)
 have K66 : Keep h0 h65 [x1] := K61.wr W65 (Or.inl (List.mem_of_getElem? (i := 0) rfl))
 have N67 := Fr.snoc X65 N62 hp8
 have f68 : Fld Z h65 x1 "java/lang/String" "value" "[B" (.ref t_56) := (Fld.same W65 f64)
 refine go (S' := T65.setTop (mkF m 57 #[sr x1, sr b1, si 0, si pn, .val .null, sr t_56] [])) st65 ?_
 refine finV X65 hx hk hret (hb hby d11_57) (by decide) (by decide) ?_
 have f69 : Fld Z h65 x1 "java/lang/String" "coder" "B" (.int cd_56) := (Fld.other W65 f63 (Or.inr (slot_ne (Or.inr (ww hw 6 rfl)) (Or.inr (ww hw 5 rfl)) (by decide) (t := .byte) (t' := (.array .byte)) (by decide) (by decide))))
 have f70 : Arv Z h65 t_56 kb_56 .byte N2_56 vs_56 (.int 0) := ((q56_1.other W60 (Nat.ne_of_gt lt_x1_t_56)).other W65 (Nat.ne_of_gt lt_x1_t_56))
 rw [e65]
 exact ⟨t_56, cd_56, rfl, N67, K66, sz_t_56, (Nat.ne_of_gt lt_x1_t_56), ⟨_, _, _, (hp5.keep K66), f68, f69, f70, q56_2, hpc, by omega⟩⟩
theorem d10_0 : dd jdk_42_method_3_code 0 (.aload_n 0) 1 := by decide +kernel
theorem d10_1 : dd jdk_42_method_3_code 1 (.aload_n 1) 1 := by decide +kernel
theorem d10_2 : dd jdk_42_method_3_code 2 (.iconst 0) 1 := by decide +kernel
theorem d10_3 : dd jdk_42_method_3_code 3 (.aload_n 1) 1 := by decide +kernel
theorem d10_4 : dd jdk_42_method_3_code 4 .arraylength 1 := by decide +kernel
theorem d10_5 : dd jdk_42_method_3_code 5 .aconst_null 1 := by decide +kernel
theorem d10_6 : dd jdk_42_method_3_code 6 (.invokespecial 27) 3 := by decide +kernel
theorem pd_7 : parseMethodDescriptor "([CIILjava/lang/Void;)V" = some ⟨[(.array .char), .int, .int, (.object "java/lang/Void")], none⟩ := by decide +kernel
theorem d10_9 : dd jdk_42_method_3_code 9 .return_ 1 := by decide +kernel
abbrev y_9 : MethodName := ⟨"java/lang/String", "<init>", "([C)V"⟩
theorem pn_9 : plainFor y_9 = true := by first | exact plainFor_of_name (by first | (simp [plainName, overriddenIn]; done) | decide +kernel) | decide +kernel
theorem ef_rmInit1 (m : MethodId) (x1 : Addr) (b1 : Addr) : entryFrame m #[(.ref x1), (.ref b1)] 2 = mkF m 0 #[sr x1, sr b1] [] := by first | (simp [entryFrame, mkF, argsToLocals, Value.category]; done) | rfl
def Q_rmInit1 (Z : State) (x1 : Addr) (b1 : Addr) (pn : Int32) (kC : ClassId) (cs : List Int32) (dC : Value) (G1 : Int32) (h0 : Heap) (n0 : Nat) (v : Option Value) (h : Heap) (L : List Loc) : Prop := ∃ (t : Addr), ∃ (cd : Int32), v = none ∧ Fr n0 L ∧ Keep h0 h [x1] ∧ (h0.size ≤ t) ∧ (t ≠ x1) ∧ (Str Z h x1 t cd cs)
set_option maxRecDepth 65536 in
set_option maxHeartbeats 40000000 in
theorem rmInit1 (l : Launch) (Z : State) (a0 : Array Value) (hw : ∀ d ∈ tables_1, d.before a0 Z = true) (ws : List Jvm.Cond) (x1 : Addr) (b1 : Addr) (pn : Int32) (kC : ClassId) (cs : List Int32) (dC : Value) (G1 : Int32) (h0 : Heap) (n0 : Nat) (Z0 : n0 ≤ h0.size) (hp0 : Arv Z h0 b1 kC .char pn (cs.map Value.int) dC) (hn : pn = Int32.ofNat cs.length) (hl : cs.length ≤ 12) (hl0 : 0 < cs.length) (hpc : ∀ c ∈ cs, ¬ c < 0 ∧ ¬ (65535 : Int32) < c) (hp5 : Exa Z h0 x1 "java/lang/String") (hp6 : Fld Z h0 x1 "java/lang/String" "value" "[B" .null) (hp7 : Fld Z h0 x1 "java/lang/String" "coder" "B" (.int 0)) (hp8 : n0 ≤ x1) (hp9 : x1 ≠ b1) (hp10 : Sta Z Z.heap "java/lang/String" "COMPACT_STRINGS" "Z" (.int G1)) (hG1 : ¬ (G1 = (0 : Int32))) (hp12 : Sta Z Z.heap "java/lang/StringUTF16" "$assertionsDisabled" "Z" (.int 1)) (hp13 : Sta Z Z.heap "java/lang/StringUTF16" "HI_BYTE_SHIFT" "I" (.int 0)) (hp14 : Sta Z Z.heap "java/lang/StringUTF16" "LO_BYTE_SHIFT" "I" (.int 8)) (hp15 : Old Z n0 h0) :
    MetFree l y_9 (head1 (Jvm.Cond.code y_9 jdk_42_method_3_code 2 none :: ws) ({ frames := 5, cells := 2, slots := 36, locals := 74 } : Room)) (fun a U => a = #[(.ref x1), (.ref b1)] ∧ Z.Warmed39 U.vm ∧ U.heap = h0) (fun _ _ _ _ _ => True) (fun _ U o U' => ∃ v L, o = .returned v ∧ Q_rmInit1 Z x1 b1 pn kC cs dC G1 h0 n0 v U'.heap L ∧ FrameEnd U o U' L ({ frames := 5, cells := 2, slots := 36, locals := 74 } : Room).cells ({ frames := 5, cells := 2, slots := 36, locals := 74 } : Room).slots) := by
 refine bodyOf pn_9 (fun m => ef_rmInit1 m x1 b1) ?_
 intro p e s m below meth c T0 X0 hx hby hml hown hnm hret hk hZ e0
 have N0 := Fr.nil n0
 have K0 : Keep h0 h0 [x1] := Keep.refl _ _
 have ne_x1_b1 := hp9
 have O0 := hp15
 refine go (S' := T0.setTop (mkF m 4 #[sr x1, sr b1] [(.ref b1), (.int 0), (.ref b1), (.ref x1)])) (fun t k => XS.aloadN X0.here hx rfl (hb hby d10_0) rfl rfl (XS.aloadN X0.here hx rfl (hb hby d10_1) rfl rfl (XS.iconst X0.here hx rfl (hb hby d10_2) (XS.aloadN X0.here hx rfl (hb hby d10_3) rfl rfl k)))) ?_
 obtain ⟨cl71, Ar71, -, S71, M71, -, -⟩ := id hp0
 refine go (S' := T0.setTop (mkF m 6 #[sr x1, sr b1] [.null, (.int pn), (.int 0), (.ref b1), (.ref x1)])) (fun t k => X0.arraylength hx (by rw [e0]; exact Ar71.1) (State.isArrayOf_alike hZ.alike Ar71.2.1) (g := (mkF m 4 #[sr x1, sr b1] [(.ref b1), (.int 0), (.ref b1), (.ref x1)])) rfl rfl (hb hby d10_4) _ (by rw [len_of S71 M71]; exact (XS.aconstNull X0.here hx rfl (hb hby d10_5) k))) ?_
 have O72 : Old Z n0 h0 := O0.keep K0 (allS hp8 all0)
 obtain ⟨v73, T73, L73, X73, hQ73, st73⟩ := callSp X0 hx hZ (y := y_8) rfl hown (ww hw 60 rfl) (ww hw 61 rfl) (ww hw 63 rfl) (by decide) (backOf (W := 0) (rmInit4 l Z a0 hw [] x1 b1 pn kC cs dC G1 h0 n0 (Nat.le_trans Z0 K0.1) hn hl hl0 hpc hp0 hp5 hp6 hp7 hp8 ne_x1_b1 hp10 hG1 hp12 hp13 hp14 O72) hZ (ww hw 63 rfl) (ww hw 2 rfl) (by decide) (by decide)) (g := (mkF m 6 #[sr x1, sr b1] [.null, (.int pn), (.int 0), (.ref b1), (.ref x1)])) rfl (by rw [hml]; rfl) (a := x1) (kc := 2) (ks := 36) (argsL := [(.ref b1), (.int 0), (.int pn), .null]) (rest := []) (lenOf pd_7 rfl) rfl (mr0 rfl) (hb hby d10_6) e0 (by decide) (by decide)
 obtain ⟨t_73, cd_73, rfl, N73q, Kq73, q73_0, q73_1, q73_2⟩ := hQ73
 have N73 := Fr.app N0 N73q
 have K74 : Keep h0 T73.heap [x1] := K0.trans Kq73 (allS (P := fun x => x ∈ [x1] ∨ h0.size ≤ x) (Or.inl (List.mem_of_getElem? (i := 0) rfl)) all0)
 have lt_b1_t_73 : b1 < t_73 := Nat.lt_of_lt_of_le hp0.lt q73_0
 have lt_x1_t_73 : x1 < t_73 := Nat.lt_of_lt_of_le hp5.lt q73_0
 have sz_t_73 : h0.size ≤ t_73 := Nat.le_trans K0.1 q73_0
 have ge_t_73 : n0 ≤ t_73 := Nat.le_trans Z0 sz_t_73
 have ne_t_73_x1 := q73_1
 refine go (S' := T73.setTop (mkF m 9 #[sr x1, sr b1] [])) st73 ?_
 refine finV X73 hx hk hret (hb hby d10_9) (by decide) (by decide) ?_
 exact ⟨t_73, cd_73, rfl, N73, K74, sz_t_73, ne_t_73_x1, q73_2⟩
theorem d11_8 : dd jdk_42_method_149_code 8 (.aload_n 0) 1 := by decide +kernel
theorem d11_9 : dd jdk_42_method_149_code 9 (.ldc 7) 2 := by decide +kernel
theorem d11_11 : dd jdk_42_method_149_code 11 (.getfield 9) 3 := by decide +kernel
theorem d11_14 : dd jdk_42_method_149_code 14 (.putfield 9) 3 := by decide +kernel
theorem d11_17 : dd jdk_42_method_149_code 17 (.aload_n 0) 1 := by decide +kernel
theorem d11_18 : dd jdk_42_method_149_code 18 (.ldc 7) 2 := by decide +kernel
theorem d11_20 : dd jdk_42_method_149_code 20 (.getfield 15) 3 := by decide +kernel
theorem d11_23 : dd jdk_42_method_149_code 23 (.putfield 15) 3 := by decide +kernel
theorem d11_26 : dd jdk_42_method_149_code 26 .return_ 1 := by decide +kernel
theorem ef_rmE4 (m : MethodId) (x1 : Addr) (b1 : Addr) : entryFrame m #[(.ref x1), (.ref b1), (.int 0), (.int 0), .null] 6 = mkF m 0 #[sr x1, sr b1, si 0, si 0, .val .null, un] [] := by first | (simp [entryFrame, mkF, argsToLocals, Value.category]; done) | rfl
def Q_rmE4 (Z : State) (x1 : Addr) (b1 : Addr) (h0 : Heap) (n0 : Nat) (v : Option Value) (h : Heap) (L : List Loc) : Prop := ∃ (t : Addr), v = none ∧ Fr n0 L ∧ Keep h0 h [x1] ∧ (Str Z h x1 t (0 : Int32) ([] : List Int32))
set_option maxRecDepth 65536 in
set_option maxHeartbeats 40000000 in
theorem rmE4 (l : Launch) (Z : State) (a0 : Array Value) (hw : ∀ d ∈ tables_1, d.before a0 Z = true) (ws : List Jvm.Cond) (x1 : Addr) (b1 : Addr) (h0 : Heap) (n0 : Nat) (Z0 : n0 ≤ h0.size) (hp0 : Exa Z h0 x1 "java/lang/String") (hp1 : Fld Z h0 x1 "java/lang/String" "value" "[B" .null) (hp2 : Fld Z h0 x1 "java/lang/String" "coder" "B" (.int 0)) (hp3 : n0 ≤ x1) (hp4 : Old Z n0 h0) :
    MetFree l y_8 (head1 (Jvm.Cond.code y_8 jdk_42_method_149_code 6 none :: ws) ({ frames := 1, cells := 4, slots := 8, locals := 12 } : Room)) (fun a U => a = #[(.ref x1), (.ref b1), (.int 0), (.int 0), .null] ∧ Z.Warmed39 U.vm ∧ U.heap = h0 ∧ CHv Z consts_1 U.vm h0 ∧ ∀ x ∈ ([] : List Addr), Safe Z consts_1 U.vm h0 x) (fun _ _ _ _ _ => True) (fun _ U o U' => ∃ v L, o = .returned v ∧ Q_rmE4 Z x1 b1 h0 n0 v U'.heap L ∧ CHr Z consts_1 U.vm U.heap U'.vm U'.heap ∧ ReturnedEndW U o U' L ({ frames := 1, cells := 4, slots := 8, locals := 12 } : Room).cells ({ frames := 1, cells := 4, slots := 8, locals := 12 } : Room).slots) := by
 refine bodyOfW pn_8 (fun m => ef_rmE4 m x1 b1) ?_
 intro p e s m below meth c T0 X0 hx hby hml hown hnm hret hk hZ e0 hS C0 hsf
 have hkS := Nat.le_refl h0.size
 have N0 := Fr.nil n0
 have K0 : Keep h0 h0 [x1] := Keep.refl _ _
 have O0 := hp4
 have sf75 : Safe Z consts_1 _ h0 x1 := safeBlank hZ.alike hp0 hp1
 refine go (S' := T0.setTop (mkF m 1 #[sr x1, sr b1, si 0, si 0, .val .null, un] [(.ref x1)])) (fun t k => XS.aloadN X0.here hx rfl (hb hby d11_0) rfl rfl k) ?_
 obtain ⟨T76, X76, e76, st76⟩ := initO X0 hx hZ hown (ww hw 64 rfl) (ww hw 65 rfl) (ww hw 66 rfl) e0 (g := (mkF m 1 #[sr x1, sr b1, si 0, si 0, .val .null, un] [(.ref x1)])) rfl (by rw [hml]; rfl) rfl (hb hby d11_1) (by decide) (W := 0) (mr0 rfl) (by decide)
 refine go (S' := T76.setTop (mkF m 5 #[sr x1, sr b1, si 0, si 0, .val .null, un] [(.int 0)])) (fun t k => st76 _ (XS.iloadN X76.here hx rfl (hb hby d11_4) rfl k)) ?_
 have hc77 : (0 : Int32) = (0 : Int32) := by decide
 refine go (S' := T76.setTop (mkF m 9 #[sr x1, sr b1, si 0, si 0, .val .null, un] [(.ref x1)])) (fun t k => XS.ifNo X76.here hx rfl (hb hby d11_5) rfl ((if0 _ _).trans (teq hc77).2) (XS.aloadN X76.here hx rfl (hb hby d11_8) rfl rfl k)) ?_
 obtain ⟨la78, T78, h78, k78, lb78, lk78, X78, e78, E78, hS, hkS, hZ, hown, lE78, lC78, lV78, lA78, la78_lt, lb78_lt, Cq78, lit78, lne78, st78⟩ := ldcCH X76 hx hZ hown (ww hw 165 rfl) (own_sub own_strAtoms hw) e76 hS hkS (own_EW hw) (by decide) C0.1 (vs := []) (z := (0 : Int32)) ⟨by decide, by decide⟩ (by decide) (by decide) (g := (mkF m 9 #[sr x1, sr b1, si 0, si 0, .val .null, un] [(.ref x1)])) rfl (hb hby d11_9) (n := 0) (by decide) (by decide) (by decide) (by decide)
 have K79 : Keep h0 h78 [x1] := K0.ext E78
 have C80 := C0.trans Cq78
 have sf81 := CHr.safe Cq78 hp0.lt sf75
 have ne_x1_la78 := (lne78 x1 sf81).1
 have ne_x1_lb78 := (lne78 x1 sf81).2
 have lstr78 : Str Z h78 la78 lb78 (0 : Int32) ([] : List Int32) := ⟨_, _, _, lE78, lV78, lC78, lA78, own_codOf rfl (by decide), by decide, Nat.le_of_ble_eq_true rfl⟩
 refine go (S' := T78.setTop (mkF m 11 #[sr x1, sr b1, si 0, si 0, .val .null, un] [(.ref la78), (.ref x1)])) st78 ?_
 obtain ⟨T82, X82, e82, st82⟩ := getF X78 hx hZ hown (host := "") (Or.inl (ww hw 17 rfl)) Via.refl e78 lstr78.val (g := (mkF m 11 #[sr x1, sr b1, si 0, si 0, .val .null, un] [(.ref la78), (.ref x1)])) rfl rfl (hb hby d11_11)
 refine go (S' := T82.setTop (mkF m 14 #[sr x1, sr b1, si 0, si 0, .val .null, un] [(.ref lb78), (.ref x1)])) st82 ?_
 have f83 : Fld Z h78 x1 "java/lang/String" "value" "[B" .null := (hp1.ext E78)
 obtain ⟨T84, h84, X84, e84, W84, st84⟩ := putF X82 hx hZ hown (host := "") (Or.inl (ww hw 17 rfl)) Via.refl e82 f83 (hp0.keep K79) (Or.inr ⟨(ww hw 5 rfl), rfl, hnm⟩) (ww hw 3 rfl) (ty := (.array .byte)) (by decide) rfl rfl (g := (mkF m 14 #[sr x1, sr b1, si 0, si 0, .val .null, un] [(.ref lb78), (.ref x1)])) rfl rfl (hb hby d11_14)
 have K85 : Keep h0 h84 [x1] := K79.wr W84 (Or.inl (List.mem_of_getElem? (i := 0) rfl))
 have N86 := Fr.snoc X84 N0 hp3
 have hkS := Nat.le_trans hkS (Keep.of_wr W84).1
 have C87 := C80.trans (CHr.wr W84 sf81 C80.1)
 have sf88 := Safe.wr W84 sf81 C80.1 sf81
 have f89 : Fld Z h84 x1 "java/lang/String" "value" "[B" (.ref lb78) := (Fld.same W84 f83)
 refine go (S' := T84.setTop (mkF m 18 #[sr x1, sr b1, si 0, si 0, .val .null, un] [(.ref x1)])) (fun t k => st84 _ (XS.aloadN X84.here hx rfl (hb hby d11_17) rfl rfl k)) ?_
 have f91 : Str Z h84 la78 lb78 (0 : Int32) ([] : List Int32) := (lstr78.wr W84 (Ne.symm ne_x1_la78) (Ne.symm ne_x1_lb78))
 obtain ⟨la90, T90, h90, k90, lb90, lk90, X90, e90, E90, hS, hkS, hZ, hown, lE90, lC90, lV90, lA90, la90_lt, lb90_lt, Cq90, lit90, lne90, st90⟩ := ldcCH X84 hx hZ hown (ww hw 165 rfl) (own_sub own_strAtoms hw) e84 hS hkS (own_EW hw) (by decide) C87.1 (vs := []) (z := (0 : Int32)) ⟨by decide, by decide⟩ (by decide) (by decide) (g := (mkF m 18 #[sr x1, sr b1, si 0, si 0, .val .null, un] [(.ref x1)])) rfl (hb hby d11_18) (n := 0) (by decide) (by decide) (by decide) (by decide)
 have K92 : Keep h0 h90 [x1] := K85.ext E90
 have C93 := C87.trans Cq90
 have sf94 := CHr.safe Cq90 (hp0.keep K85).lt sf88
 have ne_x1_la90 := (lne90 x1 sf94).1
 have ne_x1_lb90 := (lne90 x1 sf94).2
 have lstr90 : Str Z h90 la90 lb90 (0 : Int32) ([] : List Int32) := ⟨_, _, _, lE90, lV90, lC90, lA90, own_codOf rfl (by decide), by decide, Nat.le_of_ble_eq_true rfl⟩
 refine go (S' := T90.setTop (mkF m 20 #[sr x1, sr b1, si 0, si 0, .val .null, un] [(.ref la90), (.ref x1)])) st90 ?_
 obtain ⟨T95, X95, e95, st95⟩ := getF X90 hx hZ hown (host := "") (Or.inl (ww hw 24 rfl)) Via.refl e90 lstr90.cod (g := (mkF m 20 #[sr x1, sr b1, si 0, si 0, .val .null, un] [(.ref la90), (.ref x1)])) rfl rfl (hb hby d11_20)
 refine go (S' := T95.setTop (mkF m 23 #[sr x1, sr b1, si 0, si 0, .val .null, un] [(.int 0), (.ref x1)])) st95 ?_
 have f96 : Fld Z h90 x1 "java/lang/String" "coder" "B" (.int 0) := ((Fld.other W84 (hp2.ext E78) (Or.inr (slot_ne (Or.inr (ww hw 6 rfl)) (Or.inr (ww hw 5 rfl)) (by decide) (t := .byte) (t' := (.array .byte)) (by decide) (by decide)))).ext E90)
 obtain ⟨T97, h97, X97, e97, W97, st97⟩ := putF X95 hx hZ hown (host := "") (Or.inl (ww hw 24 rfl)) Via.refl e95 f96 (hp0.keep K92) (Or.inr ⟨(ww hw 6 rfl), rfl, hnm⟩) (ww hw 3 rfl) (ty := .byte) (by decide) (by decide) (by decide) (g := (mkF m 23 #[sr x1, sr b1, si 0, si 0, .val .null, un] [(.int 0), (.ref x1)])) rfl rfl (hb hby d11_23)
 have K98 : Keep h0 h97 [x1] := K92.wr W97 (Or.inl (List.mem_of_getElem? (i := 0) rfl))
 have N99 := Fr.snoc X97 N86 hp3
 have hkS := Nat.le_trans hkS (Keep.of_wr W97).1
 have C100 := C93.trans (CHr.wr W97 sf94 C93.1)
 have sf101 := Safe.wr W97 sf94 C93.1 sf94
 have f102 : Fld Z h97 x1 "java/lang/String" "coder" "B" (.int 0) := (Fld.same W97 f96)
 refine go (S' := T97.setTop (mkF m 26 #[sr x1, sr b1, si 0, si 0, .val .null, un] [])) st97 ?_
 refine finVW X97 hx hk hret hS hkS hZ (own_EW hw) C100 e97 (hb hby d11_26) (by decide) (by decide) ?_
 have f103 : Fld Z h97 x1 "java/lang/String" "value" "[B" (.ref lb78) := (Fld.other W97 (f89.ext E90) (Or.inr (slot_ne (Or.inr (ww hw 5 rfl)) (Or.inr (ww hw 6 rfl)) (by decide) (t := (.array .byte)) (t' := .byte) (by decide) (by decide))))
 have f104 : Str Z h97 la78 lb78 (0 : Int32) ([] : List Int32) := ((f91.ext E90).wr W97 (Ne.symm ne_x1_la78) (Ne.symm ne_x1_lb78))
 obtain ⟨kbz, N2z, vsz, -, -, -, qAz, qcdz, qbdz, qlz⟩ := id f104
 exact ⟨lb78, rfl, N99, K98, ⟨_, _, _, (hp0.keep K98), f103, f102, qAz, qcdz, qbdz, qlz⟩⟩
theorem ef_rmE1 (m : MethodId) (x1 : Addr) (b1 : Addr) : entryFrame m #[(.ref x1), (.ref b1)] 2 = mkF m 0 #[sr x1, sr b1] [] := by first | (simp [entryFrame, mkF, argsToLocals, Value.category]; done) | rfl
def Q_rmE1 (Z : State) (x1 : Addr) (b1 : Addr) (kC : ClassId) (vC : List Value) (dC : Value) (h0 : Heap) (n0 : Nat) (v : Option Value) (h : Heap) (L : List Loc) : Prop := ∃ (t : Addr), v = none ∧ Fr n0 L ∧ Keep h0 h [x1] ∧ (Str Z h x1 t (0 : Int32) ([] : List Int32))
set_option maxRecDepth 65536 in
set_option maxHeartbeats 40000000 in
theorem rmE1 (l : Launch) (Z : State) (a0 : Array Value) (hw : ∀ d ∈ tables_1, d.before a0 Z = true) (ws : List Jvm.Cond) (x1 : Addr) (b1 : Addr) (kC : ClassId) (vC : List Value) (dC : Value) (h0 : Heap) (n0 : Nat) (Z0 : n0 ≤ h0.size) (hp0 : Exa Z h0 x1 "java/lang/String") (hp1 : Fld Z h0 x1 "java/lang/String" "value" "[B" .null) (hp2 : Fld Z h0 x1 "java/lang/String" "coder" "B" (.int 0)) (hp3 : n0 ≤ x1) (hp4 : Arv Z h0 b1 kC .char (0 : Int32) vC dC) (hp5 : Old Z n0 h0) :
    MetFree l y_9 (head1 (Jvm.Cond.code y_9 jdk_42_method_3_code 2 none :: ws) ({ frames := 2, cells := 4, slots := 8, locals := 29 } : Room)) (fun a U => a = #[(.ref x1), (.ref b1)] ∧ Z.Warmed39 U.vm ∧ U.heap = h0 ∧ CHv Z consts_1 U.vm h0 ∧ ∀ x ∈ ([] : List Addr), Safe Z consts_1 U.vm h0 x) (fun _ _ _ _ _ => True) (fun _ U o U' => ∃ v L, o = .returned v ∧ Q_rmE1 Z x1 b1 kC vC dC h0 n0 v U'.heap L ∧ CHr Z consts_1 U.vm U.heap U'.vm U'.heap ∧ ReturnedEndW U o U' L ({ frames := 2, cells := 4, slots := 8, locals := 29 } : Room).cells ({ frames := 2, cells := 4, slots := 8, locals := 29 } : Room).slots) := by
 refine bodyOfW pn_9 (fun m => ef_rmE1 m x1 b1) ?_
 intro p e s m below meth c T0 X0 hx hby hml hown hnm hret hk hZ e0 hS C0 hsf
 have hkS := Nat.le_refl h0.size
 have N0 := Fr.nil n0
 have K0 : Keep h0 h0 [x1] := Keep.refl _ _
 have O0 := hp5
 have sf105 : Safe Z consts_1 _ h0 x1 := safeBlank hZ.alike hp0 hp1
 refine go (S' := T0.setTop (mkF m 4 #[sr x1, sr b1] [(.ref b1), (.int 0), (.ref b1), (.ref x1)])) (fun t k => XS.aloadN X0.here hx rfl (hb hby d10_0) rfl rfl (XS.aloadN X0.here hx rfl (hb hby d10_1) rfl rfl (XS.iconst X0.here hx rfl (hb hby d10_2) (XS.aloadN X0.here hx rfl (hb hby d10_3) rfl rfl k)))) ?_
 obtain ⟨cl106, Ar106, -, S106, M106, -, -⟩ := id hp4
 refine go (S' := T0.setTop (mkF m 6 #[sr x1, sr b1] [.null, (.int 0), (.int 0), (.ref b1), (.ref x1)])) (fun t k => X0.arraylength hx (by rw [e0]; exact Ar106.1) (State.isArrayOf_alike hZ.alike Ar106.2.1) (g := (mkF m 4 #[sr x1, sr b1] [(.ref b1), (.int 0), (.ref b1), (.ref x1)])) rfl rfl (hb hby d10_4) _ (by rw [len_of S106 M106]; exact (XS.aconstNull X0.here hx rfl (hb hby d10_5) k))) ?_
 have O107 : Old Z n0 h0 := O0.keep K0 (allS hp3 all0)
 obtain ⟨v108, T108, L108, X108, hQ108, hS, hZ, hown, Cq108, st108⟩ := callSpW X0 hx hZ (y := y_8) rfl hown (ww hw 60 rfl) (ww hw 61 rfl) (ww hw 63 rfl) (by decide) (backW (W := 0) (rmE4 l Z a0 hw [] x1 b1 h0 n0 (Nat.le_trans Z0 K0.1) hp0 hp1 hp2 hp3 O107) hZ (ww hw 63 rfl) (ww hw 2 rfl) (by decide) (by decide) (own_EW hw) C0.1 all0) (g := (mkF m 6 #[sr x1, sr b1] [.null, (.int 0), (.int 0), (.ref b1), (.ref x1)])) rfl (by rw [hml]; rfl) (a := x1) (kc := 4) (ks := 8) (argsL := [(.ref b1), (.int 0), (.int 0), .null]) (rest := []) (lenOf pd_7 rfl) rfl (mr0 rfl) (hb hby d10_6) e0 (by decide) (by decide) hS hkS
 obtain ⟨t_108, rfl, N108q, Kq108, q108_0⟩ := hQ108
 have N108 := Fr.app N0 N108q
 have hkS := Nat.le_refl T108.heap.size
 have C109 := C0.trans Cq108
 have sf110 := CHr.safe Cq108 hp0.lt sf105
 have K111 : Keep h0 T108.heap [x1] := K0.trans Kq108 (allS (P := fun x => x ∈ [x1] ∨ h0.size ≤ x) (Or.inl (List.mem_of_getElem? (i := 0) rfl)) all0)
 refine go (S' := T108.setTop (mkF m 9 #[sr x1, sr b1] [])) st108 ?_
 refine finVW X108 hx hk hret hS hkS hZ (own_EW hw) C109 rfl (hb hby d10_9) (by decide) (by decide) ?_
 exact ⟨t_108, rfl, N108, K111, q108_0⟩
theorem d3_0 : dd method_2_code 0 (.iload_n 1) 1 := by decide +kernel
theorem d3_1 : dd method_2_code 1 (.aload_n 0) 1 := by decide +kernel
theorem d3_2 : dd method_2_code 2 (.invokevirtual 7) 3 := by decide +kernel
theorem pd_8 : parseMethodDescriptor "()I" = some ⟨[], some .int⟩ := by decide +kernel
abbrev y_10 : MethodName := ⟨"java/lang/String", "length", "()I"⟩
theorem d3_5 : dd method_2_code 5 (.if_icmp .ge 11) 3 := by decide +kernel
theorem d3_8 : dd method_2_code 8 (.aload_n 0) 1 := by decide +kernel
theorem d3_9 : dd method_2_code 9 (.iload_n 1) 1 := by decide +kernel
theorem d3_10 : dd method_2_code 10 (.invokevirtual 13) 3 := by decide +kernel
theorem pd_9 : parseMethodDescriptor "(I)C" = some ⟨[.int], some .char⟩ := by decide +kernel
abbrev y_11 : MethodName := ⟨"java/lang/String", "charAt", "(I)C"⟩
theorem d3_13 : dd method_2_code 13 (.goto 4) 3 := by decide +kernel
theorem d3_17 : dd method_2_code 17 .ireturn 1 := by decide +kernel
theorem d3_16 : dd method_2_code 16 (.iconst 0) 1 := by decide +kernel
abbrev y_12 : MethodName := ⟨"com/example/neti/neti/model/SpaceRoleFromLabelPinLaw", "at", "(Ljava/lang/String;I)C"⟩
theorem pn_10 : plainFor y_12 = true := by first | exact plainFor_of_name (by first | (simp [plainName, overriddenIn]; done) | decide +kernel) | decide +kernel
theorem ef_rmAt (m : MethodId) (x1 : Addr) (pi : Int32) : entryFrame m #[(.ref x1), (.int pi)] 2 = mkF m 0 #[sr x1, si pi] [] := by first | (simp [entryFrame, mkF, argsToLocals, Value.category]; done) | rfl
def Q_rmAt (Z : State) (x1 : Addr) (pi : Int32) (t1 : Addr) (cs : List Int32) (i : Nat) (G1 : Int32) (fm : Value) (h0 : Heap) (n0 : Nat) (v : Option Value) (h : Heap) (L : List Loc) : Prop := v = some (.int (cs.getD i 0)) ∧ Fr n0 L ∧ h = h0
set_option maxRecDepth 65536 in
set_option maxHeartbeats 40000000 in
theorem rmAt (l : Launch) (Z : State) (a0 : Array Value) (hw : ∀ d ∈ tables_1, d.before a0 Z = true) (ws : List Jvm.Cond) (x1 : Addr) (pi : Int32) (t1 : Addr) (cs : List Int32) (i : Nat) (G1 : Int32) (fm : Value) (h0 : Heap) (n0 : Nat) (Z0 : n0 ≤ h0.size) (hp0 : Str Z h0 x1 t1 (0 : Int32) cs) (hix : pi = Int32.ofNat i) (hi : i ≤ 100) (hfm : fm.isRef = true) (hp4 : Sta Z Z.heap "jdk/internal/util/Preconditions" "SIOOBE_FORMATTER" "Ljava/util/function/BiFunction;" fm) (hp5 : Sta Z Z.heap "java/lang/String" "COMPACT_STRINGS" "Z" (.int G1)) (hG1 : ¬ (G1 = (0 : Int32))) (hp7 : Old Z n0 h0) :
    MetFree l y_12 (head1 (Jvm.Cond.code y_12 method_2_code 2 (some .char) :: ws) ({ frames := 4, cells := 0, slots := 0, locals := 53 } : Room)) (fun a U => a = #[(.ref x1), (.int pi)] ∧ Z.Warmed39 U.vm ∧ U.heap = h0) (fun _ _ _ _ _ => True) (fun _ U o U' => ∃ v L, o = .returned v ∧ Q_rmAt Z x1 pi t1 cs i G1 fm h0 n0 v U'.heap L ∧ FrameEnd U o U' L ({ frames := 4, cells := 0, slots := 0, locals := 53 } : Room).cells ({ frames := 4, cells := 0, slots := 0, locals := 53 } : Room).slots) := by
 refine bodyOf pn_10 (fun m => ef_rmAt m x1 pi) ?_
 intro p e s m below meth c T0 X0 hx hby hml hown hnm hret hk hZ e0
 have N0 := Fr.nil n0
 have K0 : Keep h0 h0 [] := Keep.refl _ _
 have O0 := hp7
 obtain ⟨-, -, -, -, -, -, -, -, hbd, hln⟩ := id hp0
 refine go (S' := T0.setTop (mkF m 2 #[sr x1, si pi] [(.ref x1), (.int pi)])) (fun t k => XS.iloadN X0.here hx rfl (hb hby d3_0) rfl (XS.aloadN X0.here hx rfl (hb hby d3_1) rfl rfl k)) ?_
 have O112 : Old Z n0 h0 := O0.keep K0 all0
 obtain ⟨kb113, N2113, vs113, qE113, qV113, qC113, qA113, qcd113, qbd113, ql113⟩ := id hp0
 obtain ⟨v114, T114, L114, X114, hQ114, st114⟩ := callV X0 hx hZ (y := y_10) (z := y_10) hown (ww hw 12 rfl) (ww hw 13 rfl) (notFace_of_selects (args := #[]) (mvT hZ (ww hw 15 rfl))) (ww hw 15 rfl) (ww hw 14 rfl) (by decide) (StrChars.Road.lenW (W := 1) hZ (own_sub StrChars_wordsLen hw) (kI := 4) (ww hw 3 rfl) qE113 qV113 qC113 qA113 qcd113 qbd113 (hp5.ext O112.2) hG1 ql113 (by decide) (by decide)) hp0.exa (g := (mkF m 2 #[sr x1, si pi] [(.ref x1), (.int pi)])) rfl (by rw [hml]; rfl) (Q := (fun v h' L => v = some (.int (Int32.ofNat cs.length)) ∧ L = [] ∧ h' = h0)) (kc := 0) (ks := 0) (argsL := []) (rest := [(.int pi)]) (lenOf pd_8 rfl) rfl (mr0 rfl) (hb hby d3_2) e0 (by decide) (by decide)
 obtain ⟨rfl, rfl, e114⟩ := hQ114
 have N114 := Fr.app N0 (Fr.nil n0)
 refine go (S' := T114.setTop (mkF m 5 #[sr x1, si pi] [(.int (Int32.ofNat cs.length)), (.int pi)])) st114 ?_
 by_cases hq : i < cs.length
 ·
  have hqq : pi < (Int32.ofNat cs.length) := by rw [hix]; exact oj_lt hq (by omega)
  refine go (S' := T114.setTop (mkF m 10 #[sr x1, si pi] [(.int pi), (.ref x1)])) (fun t k => XS.icmpNo X114.here hx rfl (hb hby d3_5) rfl (tlt hqq).2.1 (XS.aloadN X114.here hx rfl (hb hby d3_8) rfl rfl (XS.iloadN X114.here hx rfl (hb hby d3_9) rfl k))) ?_
  obtain ⟨kb115, N2115, vs115, qE115, qV115, qC115, qA115, qcd115, qbd115, ql115⟩ := id hp0
  obtain ⟨v116, T116, L116, X116, hQ116, st116⟩ := callV X114 hx hZ (y := y_11) (z := y_11) hown (ww hw 31 rfl) (ww hw 32 rfl) (notFace_of_selects (args := #[]) (mvT hZ (ww hw 34 rfl))) (ww hw 34 rfl) (ww hw 33 rfl) (by decide) (StrChars.Road.chN (W := 0) hZ (own_sub StrChars_wordsChN hw) (kI := 4) (ww hw 3 rfl) qE115 qV115 qC115 qA115 qcd115 qbd115 (hp5.ext O112.2) hG1 (hp4.ext O112.2) hfm ql115 (i := i) hq (j := pi) hix (by decide) (by decide)) hp0.exa (g := (mkF m 10 #[sr x1, si pi] [(.int pi), (.ref x1)])) rfl (by rw [hml]; rfl) (Q := (fun v h' L => v = some (.int (cs.getD i 0)) ∧ L = [] ∧ h' = h0)) (kc := 0) (ks := 0) (argsL := [(.int pi)]) (rest := []) (lenOf pd_9 rfl) rfl (mr0 rfl) (hb hby d3_10) e114 (by decide) (by decide)
  obtain ⟨rfl, rfl, e116⟩ := hQ116
  have N116 := Fr.app N114 (Fr.nil n0)
  refine go (S' := T116.setTop (mkF m 17 #[sr x1, si pi] [(.int (cs.getD i 0))])) (fun t k => st116 _ (XS.goto X116.here hx rfl (pc0 := 13) (pc' := 17) rfl (hb hby d3_13) (by decide) (by decide) k)) ?_
  refine finN X116 hx hk (t := .char) hret (by simp) (hb hby d3_17) (by decide) (by decide) ?_
  rw [e116]
  exact ⟨(congrArg (fun z => some (Value.int z)) (oj_c16 (hbd _ (oj_mem hq)))), N116, rfl⟩
 ·
  have hqq : ¬ (pi < (Int32.ofNat cs.length)) := by rw [hix]; exact oj_nlt hq (by omega) (by omega)
  refine go (S' := T114.setTop (mkF m 17 #[sr x1, si pi] [(.int 0)])) (fun t k => XS.icmpYes X114.here hx rfl (pc0 := 5) (pc' := 16) rfl (hb hby d3_5) rfl (flt hqq).2.1 (by decide) (by decide) (XS.iconst X114.here hx rfl (hb hby d3_16) k)) ?_
  refine finN X114 hx hk (t := .char) hret (by simp) (hb hby d3_17) (by decide) (by decide) ?_
  rw [e114]
  exact ⟨(by rw [own_gd (by omega)]; rfl), N114, rfl⟩
theorem d9_0 : dd method_3_code 0 (.iload_n 1) 1 := by decide +kernel
theorem d9_1 : dd method_3_code 1 (.ifCond .ne 14) 3 := by decide +kernel
theorem d9_4 : dd method_3_code 4 (.new 8) 3 := by decide +kernel
theorem d9_7 : dd method_3_code 7 .dup 1 := by decide +kernel
theorem d9_8 : dd method_3_code 8 (.iconst 0) 1 := by decide +kernel
theorem d9_9 : dd method_3_code 9 (.newarray .char) 2 := by decide +kernel
theorem d9_11 : dd method_3_code 11 (.invokespecial 17) 3 := by decide +kernel
theorem pd_10 : parseMethodDescriptor "([C)V" = some ⟨[(.array .char)], none⟩ := by decide +kernel
theorem d9_14 : dd method_3_code 14 .areturn 1 := by decide +kernel
theorem d9_15 : dd method_3_code 15 (.iload_n 1) 1 := by decide +kernel
theorem d9_16 : dd method_3_code 16 (.iconst 1) 1 := by decide +kernel
theorem d9_17 : dd method_3_code 17 (.if_icmp .ne 20) 3 := by decide +kernel
theorem d9_20 : dd method_3_code 20 (.new 8) 3 := by decide +kernel
theorem d9_23 : dd method_3_code 23 .dup 1 := by decide +kernel
theorem d9_24 : dd method_3_code 24 (.iconst 1) 1 := by decide +kernel
theorem d9_25 : dd method_3_code 25 (.newarray .char) 2 := by decide +kernel
theorem d9_27 : dd method_3_code 27 .dup 1 := by decide +kernel
theorem d9_28 : dd method_3_code 28 (.iconst 0) 1 := by decide +kernel
theorem d9_29 : dd method_3_code 29 (.aload_n 0) 1 := by decide +kernel
theorem d9_30 : dd method_3_code 30 (.iconst 0) 1 := by decide +kernel
theorem d9_31 : dd method_3_code 31 .caload 1 := by decide +kernel
theorem d9_32 : dd method_3_code 32 .castore 1 := by decide +kernel
theorem d9_33 : dd method_3_code 33 (.invokespecial 17) 3 := by decide +kernel
theorem d9_36 : dd method_3_code 36 .areturn 1 := by decide +kernel
theorem d9_37 : dd method_3_code 37 (.iload_n 1) 1 := by decide +kernel
theorem d9_38 : dd method_3_code 38 (.iconst 2) 1 := by decide +kernel
theorem d9_39 : dd method_3_code 39 (.if_icmp .ne 26) 3 := by decide +kernel
theorem d9_42 : dd method_3_code 42 (.new 8) 3 := by decide +kernel
theorem d9_45 : dd method_3_code 45 .dup 1 := by decide +kernel
theorem d9_46 : dd method_3_code 46 (.iconst 2) 1 := by decide +kernel
theorem d9_47 : dd method_3_code 47 (.newarray .char) 2 := by decide +kernel
theorem d9_49 : dd method_3_code 49 .dup 1 := by decide +kernel
theorem d9_50 : dd method_3_code 50 (.iconst 0) 1 := by decide +kernel
theorem d9_51 : dd method_3_code 51 (.aload_n 0) 1 := by decide +kernel
theorem d9_52 : dd method_3_code 52 (.iconst 0) 1 := by decide +kernel
theorem d9_53 : dd method_3_code 53 .caload 1 := by decide +kernel
theorem d9_54 : dd method_3_code 54 .castore 1 := by decide +kernel
theorem d9_55 : dd method_3_code 55 .dup 1 := by decide +kernel
theorem d9_56 : dd method_3_code 56 (.iconst 1) 1 := by decide +kernel
theorem d9_57 : dd method_3_code 57 (.aload_n 0) 1 := by decide +kernel
theorem d9_58 : dd method_3_code 58 (.iconst 1) 1 := by decide +kernel
theorem d9_59 : dd method_3_code 59 .caload 1 := by decide +kernel
theorem d9_60 : dd method_3_code 60 .castore 1 := by decide +kernel
theorem d9_61 : dd method_3_code 61 (.invokespecial 17) 3 := by decide +kernel
theorem d9_64 : dd method_3_code 64 .areturn 1 := by decide +kernel
theorem d9_65 : dd method_3_code 65 (.iload_n 1) 1 := by decide +kernel
theorem d9_66 : dd method_3_code 66 (.iconst 3) 1 := by decide +kernel
theorem d9_67 : dd method_3_code 67 (.if_icmp .ne 32) 3 := by decide +kernel
theorem d9_70 : dd method_3_code 70 (.new 8) 3 := by decide +kernel
theorem d9_73 : dd method_3_code 73 .dup 1 := by decide +kernel
theorem d9_74 : dd method_3_code 74 (.iconst 3) 1 := by decide +kernel
theorem d9_75 : dd method_3_code 75 (.newarray .char) 2 := by decide +kernel
theorem d9_77 : dd method_3_code 77 .dup 1 := by decide +kernel
theorem d9_78 : dd method_3_code 78 (.iconst 0) 1 := by decide +kernel
theorem d9_79 : dd method_3_code 79 (.aload_n 0) 1 := by decide +kernel
theorem d9_80 : dd method_3_code 80 (.iconst 0) 1 := by decide +kernel
theorem d9_81 : dd method_3_code 81 .caload 1 := by decide +kernel
theorem d9_82 : dd method_3_code 82 .castore 1 := by decide +kernel
theorem d9_83 : dd method_3_code 83 .dup 1 := by decide +kernel
theorem d9_84 : dd method_3_code 84 (.iconst 1) 1 := by decide +kernel
theorem d9_85 : dd method_3_code 85 (.aload_n 0) 1 := by decide +kernel
theorem d9_86 : dd method_3_code 86 (.iconst 1) 1 := by decide +kernel
theorem d9_87 : dd method_3_code 87 .caload 1 := by decide +kernel
theorem d9_88 : dd method_3_code 88 .castore 1 := by decide +kernel
theorem d9_89 : dd method_3_code 89 .dup 1 := by decide +kernel
theorem d9_90 : dd method_3_code 90 (.iconst 2) 1 := by decide +kernel
theorem d9_91 : dd method_3_code 91 (.aload_n 0) 1 := by decide +kernel
theorem d9_92 : dd method_3_code 92 (.iconst 2) 1 := by decide +kernel
theorem d9_93 : dd method_3_code 93 .caload 1 := by decide +kernel
theorem d9_94 : dd method_3_code 94 .castore 1 := by decide +kernel
theorem d9_95 : dd method_3_code 95 (.invokespecial 17) 3 := by decide +kernel
theorem d9_98 : dd method_3_code 98 .areturn 1 := by decide +kernel
theorem d9_99 : dd method_3_code 99 (.iload_n 1) 1 := by decide +kernel
theorem d9_100 : dd method_3_code 100 (.iconst 4) 1 := by decide +kernel
theorem d9_101 : dd method_3_code 101 (.if_icmp .ne 38) 3 := by decide +kernel
theorem d9_104 : dd method_3_code 104 (.new 8) 3 := by decide +kernel
theorem d9_107 : dd method_3_code 107 .dup 1 := by decide +kernel
theorem d9_108 : dd method_3_code 108 (.iconst 4) 1 := by decide +kernel
theorem d9_109 : dd method_3_code 109 (.newarray .char) 2 := by decide +kernel
theorem d9_111 : dd method_3_code 111 .dup 1 := by decide +kernel
theorem d9_112 : dd method_3_code 112 (.iconst 0) 1 := by decide +kernel
theorem d9_113 : dd method_3_code 113 (.aload_n 0) 1 := by decide +kernel
theorem d9_114 : dd method_3_code 114 (.iconst 0) 1 := by decide +kernel
theorem d9_115 : dd method_3_code 115 .caload 1 := by decide +kernel
theorem d9_116 : dd method_3_code 116 .castore 1 := by decide +kernel
theorem d9_117 : dd method_3_code 117 .dup 1 := by decide +kernel
theorem d9_118 : dd method_3_code 118 (.iconst 1) 1 := by decide +kernel
theorem d9_119 : dd method_3_code 119 (.aload_n 0) 1 := by decide +kernel
theorem d9_120 : dd method_3_code 120 (.iconst 1) 1 := by decide +kernel
theorem d9_121 : dd method_3_code 121 .caload 1 := by decide +kernel
theorem d9_122 : dd method_3_code 122 .castore 1 := by decide +kernel
theorem d9_123 : dd method_3_code 123 .dup 1 := by decide +kernel
theorem d9_124 : dd method_3_code 124 (.iconst 2) 1 := by decide +kernel
theorem d9_125 : dd method_3_code 125 (.aload_n 0) 1 := by decide +kernel
theorem d9_126 : dd method_3_code 126 (.iconst 2) 1 := by decide +kernel
theorem d9_127 : dd method_3_code 127 .caload 1 := by decide +kernel
theorem d9_128 : dd method_3_code 128 .castore 1 := by decide +kernel
theorem d9_129 : dd method_3_code 129 .dup 1 := by decide +kernel
theorem d9_130 : dd method_3_code 130 (.iconst 3) 1 := by decide +kernel
theorem d9_131 : dd method_3_code 131 (.aload_n 0) 1 := by decide +kernel
theorem d9_132 : dd method_3_code 132 (.iconst 3) 1 := by decide +kernel
theorem d9_133 : dd method_3_code 133 .caload 1 := by decide +kernel
theorem d9_134 : dd method_3_code 134 .castore 1 := by decide +kernel
theorem d9_135 : dd method_3_code 135 (.invokespecial 17) 3 := by decide +kernel
theorem d9_138 : dd method_3_code 138 .areturn 1 := by decide +kernel
theorem d9_139 : dd method_3_code 139 (.iload_n 1) 1 := by decide +kernel
theorem d9_140 : dd method_3_code 140 (.iconst 5) 1 := by decide +kernel
theorem d9_141 : dd method_3_code 141 (.if_icmp .ne 44) 3 := by decide +kernel
theorem d9_144 : dd method_3_code 144 (.new 8) 3 := by decide +kernel
theorem d9_147 : dd method_3_code 147 .dup 1 := by decide +kernel
theorem d9_148 : dd method_3_code 148 (.iconst 5) 1 := by decide +kernel
theorem d9_149 : dd method_3_code 149 (.newarray .char) 2 := by decide +kernel
theorem d9_151 : dd method_3_code 151 .dup 1 := by decide +kernel
theorem d9_152 : dd method_3_code 152 (.iconst 0) 1 := by decide +kernel
theorem d9_153 : dd method_3_code 153 (.aload_n 0) 1 := by decide +kernel
theorem d9_154 : dd method_3_code 154 (.iconst 0) 1 := by decide +kernel
theorem d9_155 : dd method_3_code 155 .caload 1 := by decide +kernel
theorem d9_156 : dd method_3_code 156 .castore 1 := by decide +kernel
theorem d9_157 : dd method_3_code 157 .dup 1 := by decide +kernel
theorem d9_158 : dd method_3_code 158 (.iconst 1) 1 := by decide +kernel
theorem d9_159 : dd method_3_code 159 (.aload_n 0) 1 := by decide +kernel
theorem d9_160 : dd method_3_code 160 (.iconst 1) 1 := by decide +kernel
theorem d9_161 : dd method_3_code 161 .caload 1 := by decide +kernel
theorem d9_162 : dd method_3_code 162 .castore 1 := by decide +kernel
theorem d9_163 : dd method_3_code 163 .dup 1 := by decide +kernel
theorem d9_164 : dd method_3_code 164 (.iconst 2) 1 := by decide +kernel
theorem d9_165 : dd method_3_code 165 (.aload_n 0) 1 := by decide +kernel
theorem d9_166 : dd method_3_code 166 (.iconst 2) 1 := by decide +kernel
theorem d9_167 : dd method_3_code 167 .caload 1 := by decide +kernel
theorem d9_168 : dd method_3_code 168 .castore 1 := by decide +kernel
theorem d9_169 : dd method_3_code 169 .dup 1 := by decide +kernel
theorem d9_170 : dd method_3_code 170 (.iconst 3) 1 := by decide +kernel
theorem d9_171 : dd method_3_code 171 (.aload_n 0) 1 := by decide +kernel
theorem d9_172 : dd method_3_code 172 (.iconst 3) 1 := by decide +kernel
theorem d9_173 : dd method_3_code 173 .caload 1 := by decide +kernel
theorem d9_174 : dd method_3_code 174 .castore 1 := by decide +kernel
theorem d9_175 : dd method_3_code 175 .dup 1 := by decide +kernel
theorem d9_176 : dd method_3_code 176 (.iconst 4) 1 := by decide +kernel
theorem d9_177 : dd method_3_code 177 (.aload_n 0) 1 := by decide +kernel
theorem d9_178 : dd method_3_code 178 (.iconst 4) 1 := by decide +kernel
theorem d9_179 : dd method_3_code 179 .caload 1 := by decide +kernel
theorem d9_180 : dd method_3_code 180 .castore 1 := by decide +kernel
theorem d9_181 : dd method_3_code 181 (.invokespecial 17) 3 := by decide +kernel
theorem d9_184 : dd method_3_code 184 .areturn 1 := by decide +kernel
theorem d9_185 : dd method_3_code 185 (.iload_n 1) 1 := by decide +kernel
theorem d9_186 : dd method_3_code 186 (.bipush 6) 2 := by decide +kernel
theorem d9_188 : dd method_3_code 188 (.if_icmp .ne 51) 3 := by decide +kernel
theorem d9_191 : dd method_3_code 191 (.new 8) 3 := by decide +kernel
theorem d9_194 : dd method_3_code 194 .dup 1 := by decide +kernel
theorem d9_195 : dd method_3_code 195 (.bipush 6) 2 := by decide +kernel
theorem d9_197 : dd method_3_code 197 (.newarray .char) 2 := by decide +kernel
theorem d9_199 : dd method_3_code 199 .dup 1 := by decide +kernel
theorem d9_200 : dd method_3_code 200 (.iconst 0) 1 := by decide +kernel
theorem d9_201 : dd method_3_code 201 (.aload_n 0) 1 := by decide +kernel
theorem d9_202 : dd method_3_code 202 (.iconst 0) 1 := by decide +kernel
theorem d9_203 : dd method_3_code 203 .caload 1 := by decide +kernel
theorem d9_204 : dd method_3_code 204 .castore 1 := by decide +kernel
theorem d9_205 : dd method_3_code 205 .dup 1 := by decide +kernel
theorem d9_206 : dd method_3_code 206 (.iconst 1) 1 := by decide +kernel
theorem d9_207 : dd method_3_code 207 (.aload_n 0) 1 := by decide +kernel
theorem d9_208 : dd method_3_code 208 (.iconst 1) 1 := by decide +kernel
theorem d9_209 : dd method_3_code 209 .caload 1 := by decide +kernel
theorem d9_210 : dd method_3_code 210 .castore 1 := by decide +kernel
theorem d9_211 : dd method_3_code 211 .dup 1 := by decide +kernel
theorem d9_212 : dd method_3_code 212 (.iconst 2) 1 := by decide +kernel
theorem d9_213 : dd method_3_code 213 (.aload_n 0) 1 := by decide +kernel
theorem d9_214 : dd method_3_code 214 (.iconst 2) 1 := by decide +kernel
theorem d9_215 : dd method_3_code 215 .caload 1 := by decide +kernel
theorem d9_216 : dd method_3_code 216 .castore 1 := by decide +kernel
theorem d9_217 : dd method_3_code 217 .dup 1 := by decide +kernel
theorem d9_218 : dd method_3_code 218 (.iconst 3) 1 := by decide +kernel
theorem d9_219 : dd method_3_code 219 (.aload_n 0) 1 := by decide +kernel
theorem d9_220 : dd method_3_code 220 (.iconst 3) 1 := by decide +kernel
theorem d9_221 : dd method_3_code 221 .caload 1 := by decide +kernel
theorem d9_222 : dd method_3_code 222 .castore 1 := by decide +kernel
theorem d9_223 : dd method_3_code 223 .dup 1 := by decide +kernel
theorem d9_224 : dd method_3_code 224 (.iconst 4) 1 := by decide +kernel
theorem d9_225 : dd method_3_code 225 (.aload_n 0) 1 := by decide +kernel
theorem d9_226 : dd method_3_code 226 (.iconst 4) 1 := by decide +kernel
theorem d9_227 : dd method_3_code 227 .caload 1 := by decide +kernel
theorem d9_228 : dd method_3_code 228 .castore 1 := by decide +kernel
theorem d9_229 : dd method_3_code 229 .dup 1 := by decide +kernel
theorem d9_230 : dd method_3_code 230 (.iconst 5) 1 := by decide +kernel
theorem d9_231 : dd method_3_code 231 (.aload_n 0) 1 := by decide +kernel
theorem d9_232 : dd method_3_code 232 (.iconst 5) 1 := by decide +kernel
theorem d9_233 : dd method_3_code 233 .caload 1 := by decide +kernel
theorem d9_234 : dd method_3_code 234 .castore 1 := by decide +kernel
theorem d9_235 : dd method_3_code 235 (.invokespecial 17) 3 := by decide +kernel
theorem d9_238 : dd method_3_code 238 .areturn 1 := by decide +kernel
theorem d9_239 : dd method_3_code 239 (.iload_n 1) 1 := by decide +kernel
theorem d9_240 : dd method_3_code 240 (.bipush 7) 2 := by decide +kernel
theorem d9_242 : dd method_3_code 242 (.if_icmp .ne 59) 3 := by decide +kernel
theorem d9_245 : dd method_3_code 245 (.new 8) 3 := by decide +kernel
theorem d9_248 : dd method_3_code 248 .dup 1 := by decide +kernel
theorem d9_249 : dd method_3_code 249 (.bipush 7) 2 := by decide +kernel
theorem d9_251 : dd method_3_code 251 (.newarray .char) 2 := by decide +kernel
theorem d9_253 : dd method_3_code 253 .dup 1 := by decide +kernel
theorem d9_254 : dd method_3_code 254 (.iconst 0) 1 := by decide +kernel
theorem d9_255 : dd method_3_code 255 (.aload_n 0) 1 := by decide +kernel
theorem d9_256 : dd method_3_code 256 (.iconst 0) 1 := by decide +kernel
theorem d9_257 : dd method_3_code 257 .caload 1 := by decide +kernel
theorem d9_258 : dd method_3_code 258 .castore 1 := by decide +kernel
theorem d9_259 : dd method_3_code 259 .dup 1 := by decide +kernel
theorem d9_260 : dd method_3_code 260 (.iconst 1) 1 := by decide +kernel
theorem d9_261 : dd method_3_code 261 (.aload_n 0) 1 := by decide +kernel
theorem d9_262 : dd method_3_code 262 (.iconst 1) 1 := by decide +kernel
theorem d9_263 : dd method_3_code 263 .caload 1 := by decide +kernel
theorem d9_264 : dd method_3_code 264 .castore 1 := by decide +kernel
theorem d9_265 : dd method_3_code 265 .dup 1 := by decide +kernel
theorem d9_266 : dd method_3_code 266 (.iconst 2) 1 := by decide +kernel
theorem d9_267 : dd method_3_code 267 (.aload_n 0) 1 := by decide +kernel
theorem d9_268 : dd method_3_code 268 (.iconst 2) 1 := by decide +kernel
theorem d9_269 : dd method_3_code 269 .caload 1 := by decide +kernel
theorem d9_270 : dd method_3_code 270 .castore 1 := by decide +kernel
theorem d9_271 : dd method_3_code 271 .dup 1 := by decide +kernel
theorem d9_272 : dd method_3_code 272 (.iconst 3) 1 := by decide +kernel
theorem d9_273 : dd method_3_code 273 (.aload_n 0) 1 := by decide +kernel
theorem d9_274 : dd method_3_code 274 (.iconst 3) 1 := by decide +kernel
theorem d9_275 : dd method_3_code 275 .caload 1 := by decide +kernel
theorem d9_276 : dd method_3_code 276 .castore 1 := by decide +kernel
theorem d9_277 : dd method_3_code 277 .dup 1 := by decide +kernel
theorem d9_278 : dd method_3_code 278 (.iconst 4) 1 := by decide +kernel
theorem d9_279 : dd method_3_code 279 (.aload_n 0) 1 := by decide +kernel
theorem d9_280 : dd method_3_code 280 (.iconst 4) 1 := by decide +kernel
theorem d9_281 : dd method_3_code 281 .caload 1 := by decide +kernel
theorem d9_282 : dd method_3_code 282 .castore 1 := by decide +kernel
theorem d9_283 : dd method_3_code 283 .dup 1 := by decide +kernel
theorem d9_284 : dd method_3_code 284 (.iconst 5) 1 := by decide +kernel
theorem d9_285 : dd method_3_code 285 (.aload_n 0) 1 := by decide +kernel
theorem d9_286 : dd method_3_code 286 (.iconst 5) 1 := by decide +kernel
theorem d9_287 : dd method_3_code 287 .caload 1 := by decide +kernel
theorem d9_288 : dd method_3_code 288 .castore 1 := by decide +kernel
theorem d9_289 : dd method_3_code 289 .dup 1 := by decide +kernel
theorem d9_290 : dd method_3_code 290 (.bipush 6) 2 := by decide +kernel
theorem d9_292 : dd method_3_code 292 (.aload_n 0) 1 := by decide +kernel
theorem d9_293 : dd method_3_code 293 (.bipush 6) 2 := by decide +kernel
theorem d9_295 : dd method_3_code 295 .caload 1 := by decide +kernel
theorem d9_296 : dd method_3_code 296 .castore 1 := by decide +kernel
theorem d9_297 : dd method_3_code 297 (.invokespecial 17) 3 := by decide +kernel
theorem d9_300 : dd method_3_code 300 .areturn 1 := by decide +kernel
theorem d9_301 : dd method_3_code 301 (.iload_n 1) 1 := by decide +kernel
theorem d9_302 : dd method_3_code 302 (.bipush 8) 2 := by decide +kernel
theorem d9_304 : dd method_3_code 304 (.if_icmp .ne 67) 3 := by decide +kernel
theorem d9_307 : dd method_3_code 307 (.new 8) 3 := by decide +kernel
theorem d9_310 : dd method_3_code 310 .dup 1 := by decide +kernel
theorem d9_311 : dd method_3_code 311 (.bipush 8) 2 := by decide +kernel
theorem d9_313 : dd method_3_code 313 (.newarray .char) 2 := by decide +kernel
theorem d9_315 : dd method_3_code 315 .dup 1 := by decide +kernel
theorem d9_316 : dd method_3_code 316 (.iconst 0) 1 := by decide +kernel
theorem d9_317 : dd method_3_code 317 (.aload_n 0) 1 := by decide +kernel
theorem d9_318 : dd method_3_code 318 (.iconst 0) 1 := by decide +kernel
theorem d9_319 : dd method_3_code 319 .caload 1 := by decide +kernel
theorem d9_320 : dd method_3_code 320 .castore 1 := by decide +kernel
theorem d9_321 : dd method_3_code 321 .dup 1 := by decide +kernel
theorem d9_322 : dd method_3_code 322 (.iconst 1) 1 := by decide +kernel
theorem d9_323 : dd method_3_code 323 (.aload_n 0) 1 := by decide +kernel
theorem d9_324 : dd method_3_code 324 (.iconst 1) 1 := by decide +kernel
theorem d9_325 : dd method_3_code 325 .caload 1 := by decide +kernel
theorem d9_326 : dd method_3_code 326 .castore 1 := by decide +kernel
theorem d9_327 : dd method_3_code 327 .dup 1 := by decide +kernel
theorem d9_328 : dd method_3_code 328 (.iconst 2) 1 := by decide +kernel
theorem d9_329 : dd method_3_code 329 (.aload_n 0) 1 := by decide +kernel
theorem d9_330 : dd method_3_code 330 (.iconst 2) 1 := by decide +kernel
theorem d9_331 : dd method_3_code 331 .caload 1 := by decide +kernel
theorem d9_332 : dd method_3_code 332 .castore 1 := by decide +kernel
theorem d9_333 : dd method_3_code 333 .dup 1 := by decide +kernel
theorem d9_334 : dd method_3_code 334 (.iconst 3) 1 := by decide +kernel
theorem d9_335 : dd method_3_code 335 (.aload_n 0) 1 := by decide +kernel
theorem d9_336 : dd method_3_code 336 (.iconst 3) 1 := by decide +kernel
theorem d9_337 : dd method_3_code 337 .caload 1 := by decide +kernel
theorem d9_338 : dd method_3_code 338 .castore 1 := by decide +kernel
theorem d9_339 : dd method_3_code 339 .dup 1 := by decide +kernel
theorem d9_340 : dd method_3_code 340 (.iconst 4) 1 := by decide +kernel
theorem d9_341 : dd method_3_code 341 (.aload_n 0) 1 := by decide +kernel
theorem d9_342 : dd method_3_code 342 (.iconst 4) 1 := by decide +kernel
theorem d9_343 : dd method_3_code 343 .caload 1 := by decide +kernel
theorem d9_344 : dd method_3_code 344 .castore 1 := by decide +kernel
theorem d9_345 : dd method_3_code 345 .dup 1 := by decide +kernel
theorem d9_346 : dd method_3_code 346 (.iconst 5) 1 := by decide +kernel
theorem d9_347 : dd method_3_code 347 (.aload_n 0) 1 := by decide +kernel
theorem d9_348 : dd method_3_code 348 (.iconst 5) 1 := by decide +kernel
theorem d9_349 : dd method_3_code 349 .caload 1 := by decide +kernel
theorem d9_350 : dd method_3_code 350 .castore 1 := by decide +kernel
theorem d9_351 : dd method_3_code 351 .dup 1 := by decide +kernel
theorem d9_352 : dd method_3_code 352 (.bipush 6) 2 := by decide +kernel
theorem d9_354 : dd method_3_code 354 (.aload_n 0) 1 := by decide +kernel
theorem d9_355 : dd method_3_code 355 (.bipush 6) 2 := by decide +kernel
theorem d9_357 : dd method_3_code 357 .caload 1 := by decide +kernel
theorem d9_358 : dd method_3_code 358 .castore 1 := by decide +kernel
theorem d9_359 : dd method_3_code 359 .dup 1 := by decide +kernel
theorem d9_360 : dd method_3_code 360 (.bipush 7) 2 := by decide +kernel
theorem d9_362 : dd method_3_code 362 (.aload_n 0) 1 := by decide +kernel
theorem d9_363 : dd method_3_code 363 (.bipush 7) 2 := by decide +kernel
theorem d9_365 : dd method_3_code 365 .caload 1 := by decide +kernel
theorem d9_366 : dd method_3_code 366 .castore 1 := by decide +kernel
theorem d9_367 : dd method_3_code 367 (.invokespecial 17) 3 := by decide +kernel
theorem d9_370 : dd method_3_code 370 .areturn 1 := by decide +kernel
theorem d9_371 : dd method_3_code 371 (.iload_n 1) 1 := by decide +kernel
theorem d9_372 : dd method_3_code 372 (.bipush 9) 2 := by decide +kernel
theorem d9_374 : dd method_3_code 374 (.if_icmp .ne 75) 3 := by decide +kernel
theorem d9_377 : dd method_3_code 377 (.new 8) 3 := by decide +kernel
theorem d9_380 : dd method_3_code 380 .dup 1 := by decide +kernel
theorem d9_381 : dd method_3_code 381 (.bipush 9) 2 := by decide +kernel
theorem d9_383 : dd method_3_code 383 (.newarray .char) 2 := by decide +kernel
theorem d9_385 : dd method_3_code 385 .dup 1 := by decide +kernel
theorem d9_386 : dd method_3_code 386 (.iconst 0) 1 := by decide +kernel
theorem d9_387 : dd method_3_code 387 (.aload_n 0) 1 := by decide +kernel
theorem d9_388 : dd method_3_code 388 (.iconst 0) 1 := by decide +kernel
theorem d9_389 : dd method_3_code 389 .caload 1 := by decide +kernel
theorem d9_390 : dd method_3_code 390 .castore 1 := by decide +kernel
theorem d9_391 : dd method_3_code 391 .dup 1 := by decide +kernel
theorem d9_392 : dd method_3_code 392 (.iconst 1) 1 := by decide +kernel
theorem d9_393 : dd method_3_code 393 (.aload_n 0) 1 := by decide +kernel
theorem d9_394 : dd method_3_code 394 (.iconst 1) 1 := by decide +kernel
theorem d9_395 : dd method_3_code 395 .caload 1 := by decide +kernel
theorem d9_396 : dd method_3_code 396 .castore 1 := by decide +kernel
theorem d9_397 : dd method_3_code 397 .dup 1 := by decide +kernel
theorem d9_398 : dd method_3_code 398 (.iconst 2) 1 := by decide +kernel
theorem d9_399 : dd method_3_code 399 (.aload_n 0) 1 := by decide +kernel
theorem d9_400 : dd method_3_code 400 (.iconst 2) 1 := by decide +kernel
theorem d9_401 : dd method_3_code 401 .caload 1 := by decide +kernel
theorem d9_402 : dd method_3_code 402 .castore 1 := by decide +kernel
theorem d9_403 : dd method_3_code 403 .dup 1 := by decide +kernel
theorem d9_404 : dd method_3_code 404 (.iconst 3) 1 := by decide +kernel
theorem d9_405 : dd method_3_code 405 (.aload_n 0) 1 := by decide +kernel
theorem d9_406 : dd method_3_code 406 (.iconst 3) 1 := by decide +kernel
theorem d9_407 : dd method_3_code 407 .caload 1 := by decide +kernel
theorem d9_408 : dd method_3_code 408 .castore 1 := by decide +kernel
theorem d9_409 : dd method_3_code 409 .dup 1 := by decide +kernel
theorem d9_410 : dd method_3_code 410 (.iconst 4) 1 := by decide +kernel
theorem d9_411 : dd method_3_code 411 (.aload_n 0) 1 := by decide +kernel
theorem d9_412 : dd method_3_code 412 (.iconst 4) 1 := by decide +kernel
theorem d9_413 : dd method_3_code 413 .caload 1 := by decide +kernel
theorem d9_414 : dd method_3_code 414 .castore 1 := by decide +kernel
theorem d9_415 : dd method_3_code 415 .dup 1 := by decide +kernel
theorem d9_416 : dd method_3_code 416 (.iconst 5) 1 := by decide +kernel
theorem d9_417 : dd method_3_code 417 (.aload_n 0) 1 := by decide +kernel
theorem d9_418 : dd method_3_code 418 (.iconst 5) 1 := by decide +kernel
theorem d9_419 : dd method_3_code 419 .caload 1 := by decide +kernel
theorem d9_420 : dd method_3_code 420 .castore 1 := by decide +kernel
theorem d9_421 : dd method_3_code 421 .dup 1 := by decide +kernel
theorem d9_422 : dd method_3_code 422 (.bipush 6) 2 := by decide +kernel
theorem d9_424 : dd method_3_code 424 (.aload_n 0) 1 := by decide +kernel
theorem d9_425 : dd method_3_code 425 (.bipush 6) 2 := by decide +kernel
theorem d9_427 : dd method_3_code 427 .caload 1 := by decide +kernel
theorem d9_428 : dd method_3_code 428 .castore 1 := by decide +kernel
theorem d9_429 : dd method_3_code 429 .dup 1 := by decide +kernel
theorem d9_430 : dd method_3_code 430 (.bipush 7) 2 := by decide +kernel
theorem d9_432 : dd method_3_code 432 (.aload_n 0) 1 := by decide +kernel
theorem d9_433 : dd method_3_code 433 (.bipush 7) 2 := by decide +kernel
theorem d9_435 : dd method_3_code 435 .caload 1 := by decide +kernel
theorem d9_436 : dd method_3_code 436 .castore 1 := by decide +kernel
theorem d9_437 : dd method_3_code 437 .dup 1 := by decide +kernel
theorem d9_438 : dd method_3_code 438 (.bipush 8) 2 := by decide +kernel
theorem d9_440 : dd method_3_code 440 (.aload_n 0) 1 := by decide +kernel
theorem d9_441 : dd method_3_code 441 (.bipush 8) 2 := by decide +kernel
theorem d9_443 : dd method_3_code 443 .caload 1 := by decide +kernel
theorem d9_444 : dd method_3_code 444 .castore 1 := by decide +kernel
theorem d9_445 : dd method_3_code 445 (.invokespecial 17) 3 := by decide +kernel
theorem d9_448 : dd method_3_code 448 .areturn 1 := by decide +kernel
theorem d9_449 : dd method_3_code 449 (.iload_n 1) 1 := by decide +kernel
theorem d9_450 : dd method_3_code 450 (.bipush 10) 2 := by decide +kernel
theorem d9_452 : dd method_3_code 452 (.if_icmp .ne 83) 3 := by decide +kernel
theorem d9_455 : dd method_3_code 455 (.new 8) 3 := by decide +kernel
theorem d9_458 : dd method_3_code 458 .dup 1 := by decide +kernel
theorem d9_459 : dd method_3_code 459 (.bipush 10) 2 := by decide +kernel
theorem d9_461 : dd method_3_code 461 (.newarray .char) 2 := by decide +kernel
theorem d9_463 : dd method_3_code 463 .dup 1 := by decide +kernel
theorem d9_464 : dd method_3_code 464 (.iconst 0) 1 := by decide +kernel
theorem d9_465 : dd method_3_code 465 (.aload_n 0) 1 := by decide +kernel
theorem d9_466 : dd method_3_code 466 (.iconst 0) 1 := by decide +kernel
theorem d9_467 : dd method_3_code 467 .caload 1 := by decide +kernel
theorem d9_468 : dd method_3_code 468 .castore 1 := by decide +kernel
theorem d9_469 : dd method_3_code 469 .dup 1 := by decide +kernel
theorem d9_470 : dd method_3_code 470 (.iconst 1) 1 := by decide +kernel
theorem d9_471 : dd method_3_code 471 (.aload_n 0) 1 := by decide +kernel
theorem d9_472 : dd method_3_code 472 (.iconst 1) 1 := by decide +kernel
theorem d9_473 : dd method_3_code 473 .caload 1 := by decide +kernel
theorem d9_474 : dd method_3_code 474 .castore 1 := by decide +kernel
theorem d9_475 : dd method_3_code 475 .dup 1 := by decide +kernel
theorem d9_476 : dd method_3_code 476 (.iconst 2) 1 := by decide +kernel
theorem d9_477 : dd method_3_code 477 (.aload_n 0) 1 := by decide +kernel
theorem d9_478 : dd method_3_code 478 (.iconst 2) 1 := by decide +kernel
theorem d9_479 : dd method_3_code 479 .caload 1 := by decide +kernel
theorem d9_480 : dd method_3_code 480 .castore 1 := by decide +kernel
theorem d9_481 : dd method_3_code 481 .dup 1 := by decide +kernel
theorem d9_482 : dd method_3_code 482 (.iconst 3) 1 := by decide +kernel
theorem d9_483 : dd method_3_code 483 (.aload_n 0) 1 := by decide +kernel
theorem d9_484 : dd method_3_code 484 (.iconst 3) 1 := by decide +kernel
theorem d9_485 : dd method_3_code 485 .caload 1 := by decide +kernel
theorem d9_486 : dd method_3_code 486 .castore 1 := by decide +kernel
theorem d9_487 : dd method_3_code 487 .dup 1 := by decide +kernel
theorem d9_488 : dd method_3_code 488 (.iconst 4) 1 := by decide +kernel
theorem d9_489 : dd method_3_code 489 (.aload_n 0) 1 := by decide +kernel
theorem d9_490 : dd method_3_code 490 (.iconst 4) 1 := by decide +kernel
theorem d9_491 : dd method_3_code 491 .caload 1 := by decide +kernel
theorem d9_492 : dd method_3_code 492 .castore 1 := by decide +kernel
theorem d9_493 : dd method_3_code 493 .dup 1 := by decide +kernel
theorem d9_494 : dd method_3_code 494 (.iconst 5) 1 := by decide +kernel
theorem d9_495 : dd method_3_code 495 (.aload_n 0) 1 := by decide +kernel
theorem d9_496 : dd method_3_code 496 (.iconst 5) 1 := by decide +kernel
theorem d9_497 : dd method_3_code 497 .caload 1 := by decide +kernel
theorem d9_498 : dd method_3_code 498 .castore 1 := by decide +kernel
theorem d9_499 : dd method_3_code 499 .dup 1 := by decide +kernel
theorem d9_500 : dd method_3_code 500 (.bipush 6) 2 := by decide +kernel
theorem d9_502 : dd method_3_code 502 (.aload_n 0) 1 := by decide +kernel
theorem d9_503 : dd method_3_code 503 (.bipush 6) 2 := by decide +kernel
theorem d9_505 : dd method_3_code 505 .caload 1 := by decide +kernel
theorem d9_506 : dd method_3_code 506 .castore 1 := by decide +kernel
theorem d9_507 : dd method_3_code 507 .dup 1 := by decide +kernel
theorem d9_508 : dd method_3_code 508 (.bipush 7) 2 := by decide +kernel
theorem d9_510 : dd method_3_code 510 (.aload_n 0) 1 := by decide +kernel
theorem d9_511 : dd method_3_code 511 (.bipush 7) 2 := by decide +kernel
theorem d9_513 : dd method_3_code 513 .caload 1 := by decide +kernel
theorem d9_514 : dd method_3_code 514 .castore 1 := by decide +kernel
theorem d9_515 : dd method_3_code 515 .dup 1 := by decide +kernel
theorem d9_516 : dd method_3_code 516 (.bipush 8) 2 := by decide +kernel
theorem d9_518 : dd method_3_code 518 (.aload_n 0) 1 := by decide +kernel
theorem d9_519 : dd method_3_code 519 (.bipush 8) 2 := by decide +kernel
theorem d9_521 : dd method_3_code 521 .caload 1 := by decide +kernel
theorem d9_522 : dd method_3_code 522 .castore 1 := by decide +kernel
theorem d9_523 : dd method_3_code 523 .dup 1 := by decide +kernel
theorem d9_524 : dd method_3_code 524 (.bipush 9) 2 := by decide +kernel
theorem d9_526 : dd method_3_code 526 (.aload_n 0) 1 := by decide +kernel
theorem d9_527 : dd method_3_code 527 (.bipush 9) 2 := by decide +kernel
theorem d9_529 : dd method_3_code 529 .caload 1 := by decide +kernel
theorem d9_530 : dd method_3_code 530 .castore 1 := by decide +kernel
theorem d9_531 : dd method_3_code 531 (.invokespecial 17) 3 := by decide +kernel
theorem d9_534 : dd method_3_code 534 .areturn 1 := by decide +kernel
theorem d9_535 : dd method_3_code 535 (.new 8) 3 := by decide +kernel
theorem d9_538 : dd method_3_code 538 .dup 1 := by decide +kernel
theorem d9_539 : dd method_3_code 539 (.bipush 11) 2 := by decide +kernel
theorem d9_541 : dd method_3_code 541 (.newarray .char) 2 := by decide +kernel
theorem d9_543 : dd method_3_code 543 .dup 1 := by decide +kernel
theorem d9_544 : dd method_3_code 544 (.iconst 0) 1 := by decide +kernel
theorem d9_545 : dd method_3_code 545 (.aload_n 0) 1 := by decide +kernel
theorem d9_546 : dd method_3_code 546 (.iconst 0) 1 := by decide +kernel
theorem d9_547 : dd method_3_code 547 .caload 1 := by decide +kernel
theorem d9_548 : dd method_3_code 548 .castore 1 := by decide +kernel
theorem d9_549 : dd method_3_code 549 .dup 1 := by decide +kernel
theorem d9_550 : dd method_3_code 550 (.iconst 1) 1 := by decide +kernel
theorem d9_551 : dd method_3_code 551 (.aload_n 0) 1 := by decide +kernel
theorem d9_552 : dd method_3_code 552 (.iconst 1) 1 := by decide +kernel
theorem d9_553 : dd method_3_code 553 .caload 1 := by decide +kernel
theorem d9_554 : dd method_3_code 554 .castore 1 := by decide +kernel
theorem d9_555 : dd method_3_code 555 .dup 1 := by decide +kernel
theorem d9_556 : dd method_3_code 556 (.iconst 2) 1 := by decide +kernel
theorem d9_557 : dd method_3_code 557 (.aload_n 0) 1 := by decide +kernel
theorem d9_558 : dd method_3_code 558 (.iconst 2) 1 := by decide +kernel
theorem d9_559 : dd method_3_code 559 .caload 1 := by decide +kernel
theorem d9_560 : dd method_3_code 560 .castore 1 := by decide +kernel
theorem d9_561 : dd method_3_code 561 .dup 1 := by decide +kernel
theorem d9_562 : dd method_3_code 562 (.iconst 3) 1 := by decide +kernel
theorem d9_563 : dd method_3_code 563 (.aload_n 0) 1 := by decide +kernel
theorem d9_564 : dd method_3_code 564 (.iconst 3) 1 := by decide +kernel
theorem d9_565 : dd method_3_code 565 .caload 1 := by decide +kernel
theorem d9_566 : dd method_3_code 566 .castore 1 := by decide +kernel
theorem d9_567 : dd method_3_code 567 .dup 1 := by decide +kernel
theorem d9_568 : dd method_3_code 568 (.iconst 4) 1 := by decide +kernel
theorem d9_569 : dd method_3_code 569 (.aload_n 0) 1 := by decide +kernel
theorem d9_570 : dd method_3_code 570 (.iconst 4) 1 := by decide +kernel
theorem d9_571 : dd method_3_code 571 .caload 1 := by decide +kernel
theorem d9_572 : dd method_3_code 572 .castore 1 := by decide +kernel
theorem d9_573 : dd method_3_code 573 .dup 1 := by decide +kernel
theorem d9_574 : dd method_3_code 574 (.iconst 5) 1 := by decide +kernel
theorem d9_575 : dd method_3_code 575 (.aload_n 0) 1 := by decide +kernel
theorem d9_576 : dd method_3_code 576 (.iconst 5) 1 := by decide +kernel
theorem d9_577 : dd method_3_code 577 .caload 1 := by decide +kernel
theorem d9_578 : dd method_3_code 578 .castore 1 := by decide +kernel
theorem d9_579 : dd method_3_code 579 .dup 1 := by decide +kernel
theorem d9_580 : dd method_3_code 580 (.bipush 6) 2 := by decide +kernel
theorem d9_582 : dd method_3_code 582 (.aload_n 0) 1 := by decide +kernel
theorem d9_583 : dd method_3_code 583 (.bipush 6) 2 := by decide +kernel
theorem d9_585 : dd method_3_code 585 .caload 1 := by decide +kernel
theorem d9_586 : dd method_3_code 586 .castore 1 := by decide +kernel
theorem d9_587 : dd method_3_code 587 .dup 1 := by decide +kernel
theorem d9_588 : dd method_3_code 588 (.bipush 7) 2 := by decide +kernel
theorem d9_590 : dd method_3_code 590 (.aload_n 0) 1 := by decide +kernel
theorem d9_591 : dd method_3_code 591 (.bipush 7) 2 := by decide +kernel
theorem d9_593 : dd method_3_code 593 .caload 1 := by decide +kernel
theorem d9_594 : dd method_3_code 594 .castore 1 := by decide +kernel
theorem d9_595 : dd method_3_code 595 .dup 1 := by decide +kernel
theorem d9_596 : dd method_3_code 596 (.bipush 8) 2 := by decide +kernel
theorem d9_598 : dd method_3_code 598 (.aload_n 0) 1 := by decide +kernel
theorem d9_599 : dd method_3_code 599 (.bipush 8) 2 := by decide +kernel
theorem d9_601 : dd method_3_code 601 .caload 1 := by decide +kernel
theorem d9_602 : dd method_3_code 602 .castore 1 := by decide +kernel
theorem d9_603 : dd method_3_code 603 .dup 1 := by decide +kernel
theorem d9_604 : dd method_3_code 604 (.bipush 9) 2 := by decide +kernel
theorem d9_606 : dd method_3_code 606 (.aload_n 0) 1 := by decide +kernel
theorem d9_607 : dd method_3_code 607 (.bipush 9) 2 := by decide +kernel
theorem d9_609 : dd method_3_code 609 .caload 1 := by decide +kernel
theorem d9_610 : dd method_3_code 610 .castore 1 := by decide +kernel
theorem d9_611 : dd method_3_code 611 .dup 1 := by decide +kernel
theorem d9_612 : dd method_3_code 612 (.bipush 10) 2 := by decide +kernel
theorem d9_614 : dd method_3_code 614 (.aload_n 0) 1 := by decide +kernel
theorem d9_615 : dd method_3_code 615 (.bipush 10) 2 := by decide +kernel
theorem d9_617 : dd method_3_code 617 .caload 1 := by decide +kernel
theorem d9_618 : dd method_3_code 618 .castore 1 := by decide +kernel
theorem d9_619 : dd method_3_code 619 (.invokespecial 17) 3 := by decide +kernel
theorem d9_622 : dd method_3_code 622 .areturn 1 := by decide +kernel
abbrev y_13 : MethodName := ⟨"com/example/neti/neti/model/SpaceRoleFromLabelPinLaw", "mk", "([CI)Ljava/lang/String;"⟩
theorem pn_11 : plainFor y_13 = true := by first | exact plainFor_of_name (by first | (simp [plainName, overriddenIn]; done) | decide +kernel) | decide +kernel
theorem ef_rmMk (m : MethodId) (a1 : Addr) (pn : Int32) : entryFrame m #[(.ref a1), (.int pn)] 2 = mkF m 0 #[sr a1, si pn] [] := by first | (simp [entryFrame, mkF, argsToLocals, Value.category]; done) | rfl
def Q_rmMk (Z : State) (a1 : Addr) (pn : Int32) (kC : ClassId) (bs : List Int32) (n : Nat) (G1 : Int32) (dC : Value) (h0 : Heap) (n0 : Nat) (v : Option Value) (h : Heap) (L : List Loc) : Prop := ∃ (x : Addr), ∃ (t : Addr), ∃ (cd : Int32), v = some (.ref x) ∧ Fr n0 L ∧ Keep h0 h [] ∧ (h0.size ≤ x) ∧ (Str Z h x t cd (bs.take n))
set_option maxRecDepth 65536 in
set_option maxHeartbeats 40000000 in
theorem rmMk (l : Launch) (Z : State) (a0 : Array Value) (hw : ∀ d ∈ tables_1, d.before a0 Z = true) (ws : List Jvm.Cond) (a1 : Addr) (pn : Int32) (kC : ClassId) (bs : List Int32) (n : Nat) (G1 : Int32) (dC : Value) (h0 : Heap) (n0 : Nat) (Z0 : n0 ≤ h0.size) (hp0 : Arv Z h0 a1 kC .char (12 : Int32) (bs.map Value.int) dC) (hn : pn = Int32.ofNat n) (hl : n ≤ 11) (hbs : bs.length = 12) (hpc : ∀ c ∈ bs, ¬ c < 0 ∧ ¬ (65535 : Int32) < c) (hp5 : Sta Z Z.heap "java/lang/String" "COMPACT_STRINGS" "Z" (.int G1)) (hG1 : ¬ (G1 = (0 : Int32))) (hp7 : Sta Z Z.heap "java/lang/StringUTF16" "$assertionsDisabled" "Z" (.int 1)) (hp8 : Sta Z Z.heap "java/lang/StringUTF16" "HI_BYTE_SHIFT" "I" (.int 0)) (hp9 : Sta Z Z.heap "java/lang/StringUTF16" "LO_BYTE_SHIFT" "I" (.int 8)) (hp10 : Old Z n0 h0) :
    MetFree l y_13 (head1 (Jvm.Cond.code y_13 method_3_code 2 (some (.object "java/lang/String")) :: ws) ({ frames := 6, cells := 6, slots := 51, locals := 88 } : Room)) (fun a U => a = #[(.ref a1), (.int pn)] ∧ Z.Warmed39 U.vm ∧ U.heap = h0 ∧ CHv Z consts_1 U.vm h0 ∧ ∀ x ∈ ([] : List Addr), Safe Z consts_1 U.vm h0 x) (fun _ _ _ _ _ => True) (fun _ U o U' => ∃ v L, o = .returned v ∧ Q_rmMk Z a1 pn kC bs n G1 dC h0 n0 v U'.heap L ∧ CHr Z consts_1 U.vm U.heap U'.vm U'.heap ∧ ReturnedEndW U o U' L ({ frames := 6, cells := 6, slots := 51, locals := 88 } : Room).cells ({ frames := 6, cells := 6, slots := 51, locals := 88 } : Room).slots) := by
 refine bodyOfW pn_11 (fun m => ef_rmMk m a1 pn) ?_
 intro p e s m below meth c T0 X0 hx hby hml hown hnm hret hk hZ e0 hS C0 hsf
 have hkS := Nat.le_refl h0.size
 have N0 := Fr.nil n0
 have K0 : Keep h0 h0 [] := Keep.refl _ _
 have O0 := hp10
 obtain ⟨b0, b1, b2, b3, b4, b5, b6, b7, b8, b9, b10, b11, rfl⟩ := own_twelve hbs
 have hp_a : Arv Z h0 a1 kC .char (12 : Int32) [(.int b0), (.int b1), (.int b2), (.int b3), (.int b4), (.int b5), (.int b6), (.int b7), (.int b8), (.int b9), (.int b10), (.int b11)] dC := hp0
 have h_b0 := hpc b0 (List.mem_of_getElem? (i := 0) rfl)
 have h_b1 := hpc b1 (List.mem_of_getElem? (i := 1) rfl)
 have h_b2 := hpc b2 (List.mem_of_getElem? (i := 2) rfl)
 have h_b3 := hpc b3 (List.mem_of_getElem? (i := 3) rfl)
 have h_b4 := hpc b4 (List.mem_of_getElem? (i := 4) rfl)
 have h_b5 := hpc b5 (List.mem_of_getElem? (i := 5) rfl)
 have h_b6 := hpc b6 (List.mem_of_getElem? (i := 6) rfl)
 have h_b7 := hpc b7 (List.mem_of_getElem? (i := 7) rfl)
 have h_b8 := hpc b8 (List.mem_of_getElem? (i := 8) rfl)
 have h_b9 := hpc b9 (List.mem_of_getElem? (i := 9) rfl)
 have h_b10 := hpc b10 (List.mem_of_getElem? (i := 10) rfl)
 have h_b11 := hpc b11 (List.mem_of_getElem? (i := 11) rfl)
 refine go (S' := T0.setTop (mkF m 1 #[sr a1, si pn] [(.int pn)])) (fun t k => XS.iloadN X0.here hx rfl (hb hby d9_0) rfl k) ?_
 by_cases hc117 : pn = (0 : Int32)
 ·
  refine go (S' := T0.setTop (mkF m 4 #[sr a1, si pn] [])) (fun t k => XS.ifNo X0.here hx rfl (hb hby d9_1) rfl ((if0 _ _).trans (teq hc117).2) k) ?_
  obtain ⟨T118, h118, X118, e118, E118, A118, D118, -, st118⟩ := newO X0 hx hZ hown (ww hw 56 rfl) (ww hw 3 rfl) (ww hw 2 rfl) e0 (g := (mkF m 4 #[sr a1, si pn] [])) rfl (hb hby d9_4) (by decide) (by decide)
  obtain ⟨b118, g118⟩ : ∃ z, z = h0.size := ⟨_, rfl⟩
  rw [← g118] at A118 D118 st118
  have lt_a1_b118 : a1 < b118 := by rw [g118]; exact hp_a.lt
  have ge_b118 : n0 ≤ b118 := by rw [g118]; exact (Nat.le_trans Z0 K0.1)
  have sz_b118 : h0.size ≤ b118 := by rw [g118]; exact K0.1
  have K119 : Keep h0 h118 [] := K0.ext E118
  have hkS := Nat.le_trans hkS E118.1
  have C120 := C0.trans (CHr.ext E118 C0.1)
  have sf121 := Safe.ext E118 C0.1 (Safe.new (Nat.le_of_eq g118.symm))
  refine go (S' := T118.setTop (mkF m 9 #[sr a1, si pn] [(.int 0), (.ref b118), (.ref b118)])) (fun t k => st118 _ (XS.dup X118.here hx rfl (hb hby d9_7) rfl rfl (XS.iconst X118.here hx rfl (hb hby d9_8) k))) ?_
  obtain ⟨T122, h122, k122, X122, e122, E122, A122, st122⟩ := newP X118 hx hZ (ww hw 26 rfl) e118 (g := (mkF m 9 #[sr a1, si pn] [(.int 0), (.ref b118), (.ref b118)])) rfl (hb hby d9_9) rfl (by decide) (cap := 0) (by decide) (by decide) (by decide) (by decide)
  obtain ⟨b122, g122⟩ : ∃ z, z = h118.size := ⟨_, rfl⟩
  rw [← g122] at A122 st122
  have lt_a1_b122 : a1 < b122 := by rw [g122]; exact (hp_a.keep K119 nin0).lt
  have lt_b118_b122 : b118 < b122 := by rw [g122]; exact A118.lt
  have ge_b122 : n0 ≤ b122 := by rw [g122]; exact (Nat.le_trans Z0 K119.1)
  have sz_b122 : h0.size ≤ b122 := by rw [g122]; exact K119.1
  have K123 : Keep h0 h122 [] := K119.ext E122
  have hkS := Nat.le_trans hkS E122.1
  have C124 := C120.trans (CHr.ext E122 C120.1)
  have sf125 := Safe.ext E122 C120.1 sf121
  have V122 : Arv Z h122 b122 k122 .char (0 : Int32) [] (.int 0) := (Arv.new A122 (by decide)).pad (pad_rep [] (.int 0) 0)
  refine go (S' := T122.setTop (mkF m 11 #[sr a1, si pn] [(.ref b122), (.ref b118), (.ref b118)])) st122 ?_
  have f126 : Exa Z h122 b118 "java/lang/String" := (A118.ext E122)
  have f127 : Fld Z h122 b118 "java/lang/String" "value" "[B" .null := ((D118 (Or.inr (ww hw 5 rfl)) (ty := (.array .byte)) (by decide)).ext E122)
  have f128 : Fld Z h122 b118 "java/lang/String" "coder" "B" (.int 0) := ((D118 (Or.inr (ww hw 6 rfl)) (ty := .byte) (by decide)).ext E122)
  have O129 : Old Z n0 h122 := O0.keep K123 all0
  obtain ⟨v130, T130, L130, X130, hQ130, hS, hZ, hown, Cq130, st130⟩ := callSpW X122 hx hZ (y := y_9) rfl hown (ww hw 57 rfl) (ww hw 58 rfl) (ww hw 59 rfl) (by decide) (backW (W := 1) (rmE1 l Z a0 hw [] b118 b122 k122 [] (.int 0) h122 n0 (Nat.le_trans Z0 K123.1) f126 f127 f128 ge_b118 V122 O129) hZ (ww hw 59 rfl) (ww hw 2 rfl) (by decide) (by decide) (own_EW hw) C124.1 all0) (g := (mkF m 11 #[sr a1, si pn] [(.ref b122), (.ref b118), (.ref b118)])) rfl (by rw [hml]; rfl) (a := b118) (kc := 4) (ks := 8) (argsL := [(.ref b122)]) (rest := [(.ref b118)]) (lenOf pd_10 rfl) rfl (mr0 rfl) (hb hby d9_11) e122 (by decide) (by decide) hS hkS
  obtain ⟨t_130, rfl, N130q, Kq130, q130_0⟩ := hQ130
  have N130 := Fr.app N0 N130q
  have hkS := Nat.le_refl T130.heap.size
  have C131 := C124.trans Cq130
  have sf132 := CHr.safe Cq130 f126.lt sf125
  have K133 : Keep h0 T130.heap [] := K123.trans Kq130 (allS (P := fun x => x ∈ [] ∨ h0.size ≤ x) (Or.inr sz_b118) all0)
  refine go (S' := T130.setTop (mkF m 14 #[sr a1, si pn] [(.ref b118)])) st130 ?_
  refine finRW X130 hx hk hret rfl rfl hS hkS hZ (own_EW hw) C131 rfl (hb hby d9_14) (by decide) (by decide) ?_
  have hnk : n = 0 := oj_inj (i := n) (n := 0) (by omega) (by omega) (hn.symm.trans (hc117.trans (rfl : (0 : Int32) = Int32.ofNat 0)))
  subst hnk
  exact ⟨b118, t_130, (0 : Int32), rfl, N130, K133, sz_b118, q130_0⟩
 ·
  refine go (S' := T0.setTop (mkF m 17 #[sr a1, si pn] [(.int 1), (.int pn)])) (fun t k => XS.ifYes X0.here hx rfl (pc0 := 1) (pc' := 15) rfl (hb hby d9_1) rfl ((if0 _ _).trans (feq hc117).2) (by decide) (by decide) (XS.iloadN X0.here hx rfl (hb hby d9_15) rfl (XS.iconst X0.here hx rfl (hb hby d9_16) k))) ?_
  by_cases hc134 : pn = (1 : Int32)
  ·
   refine go (S' := T0.setTop (mkF m 20 #[sr a1, si pn] [])) (fun t k => XS.icmpNo X0.here hx rfl (hb hby d9_17) rfl (teq hc134).2 k) ?_
   obtain ⟨T135, h135, X135, e135, E135, A135, D135, -, st135⟩ := newO X0 hx hZ hown (ww hw 56 rfl) (ww hw 3 rfl) (ww hw 2 rfl) e0 (g := (mkF m 20 #[sr a1, si pn] [])) rfl (hb hby d9_20) (by decide) (by decide)
   obtain ⟨b135, g135⟩ : ∃ z, z = h0.size := ⟨_, rfl⟩
   rw [← g135] at A135 D135 st135
   have lt_a1_b135 : a1 < b135 := by rw [g135]; exact hp_a.lt
   have ge_b135 : n0 ≤ b135 := by rw [g135]; exact (Nat.le_trans Z0 K0.1)
   have sz_b135 : h0.size ≤ b135 := by rw [g135]; exact K0.1
   have K136 : Keep h0 h135 [] := K0.ext E135
   have hkS := Nat.le_trans hkS E135.1
   have C137 := C0.trans (CHr.ext E135 C0.1)
   have sf138 := Safe.ext E135 C0.1 (Safe.new (Nat.le_of_eq g135.symm))
   refine go (S' := T135.setTop (mkF m 25 #[sr a1, si pn] [(.int 1), (.ref b135), (.ref b135)])) (fun t k => st135 _ (XS.dup X135.here hx rfl (hb hby d9_23) rfl rfl (XS.iconst X135.here hx rfl (hb hby d9_24) k))) ?_
   obtain ⟨T139, h139, k139, X139, e139, E139, A139, st139⟩ := newP X135 hx hZ (ww hw 26 rfl) e135 (g := (mkF m 25 #[sr a1, si pn] [(.int 1), (.ref b135), (.ref b135)])) rfl (hb hby d9_25) rfl (by decide) (cap := 1) (by decide) (by decide) (by decide) (by decide)
   obtain ⟨b139, g139⟩ : ∃ z, z = h135.size := ⟨_, rfl⟩
   rw [← g139] at A139 st139
   have lt_a1_b139 : a1 < b139 := by rw [g139]; exact (hp_a.keep K136 nin0).lt
   have lt_b135_b139 : b135 < b139 := by rw [g139]; exact A135.lt
   have ge_b139 : n0 ≤ b139 := by rw [g139]; exact (Nat.le_trans Z0 K136.1)
   have sz_b139 : h0.size ≤ b139 := by rw [g139]; exact K136.1
   have K140 : Keep h0 h139 [] := K136.ext E139
   have hkS := Nat.le_trans hkS E139.1
   have C141 := C137.trans (CHr.ext E139 C137.1)
   have sf142 := Safe.ext E139 C137.1 sf138
   have V139 : Arv Z h139 b139 k139 .char (1 : Int32) [(.int 0)] (.int 0) := (Arv.new A139 (by decide)).pad (pad_rep [] (.int 0) 1)
   refine go (S' := T139.setTop (mkF m 32 #[sr a1, si pn] [(.int b0), (.int 0), (.ref b139), (.ref b139), (.ref b135), (.ref b135)])) (fun t k => st139 _ (XS.dup X139.here hx rfl (hb hby d9_27) rfl rfl (XS.iconst X139.here hx rfl (hb hby d9_28) (XS.aloadN X139.here hx rfl (hb hby d9_29) rfl rfl (XS.iconst X139.here hx rfl (hb hby d9_30) (getC X139 hx hZ e139 (hp_a.keep K140 nin0) (j := (0 : Int32)) (v := (.int b0)) ⟨by decide, by decide⟩ rfl (g := (mkF m 31 #[sr a1, si pn] [(.int 0), (.ref a1), (.int 0), (.ref b139), (.ref b139), (.ref b135), (.ref b135)])) rfl rfl (hb hby d9_31) k)))))) ?_
   obtain ⟨T144, h144, X144, e144, W144, V144, st144⟩ := putC X139 hx hZ e139 V139 (j := (0 : Int32)) (x := b0) (oj_c16 h_b0) ⟨by decide, by decide⟩ (i := 0) rfl (leB rfl) (g := (mkF m 32 #[sr a1, si pn] [(.int b0), (.int 0), (.ref b139), (.ref b139), (.ref b135), (.ref b135)])) rfl rfl (hb hby d9_32)
   have K145 : Keep h0 h144 [] := K140.wr W144 (Or.inr sz_b139)
   have N146 := Fr.snoc X144 N0 ge_b139
   have hkS := Nat.le_trans hkS (Keep.of_wr W144).1
   have C147 := C141.trans (CHr.wr W144 (safeArv hZ.alike V139 (by decide)) C141.1)
   have sf148 := Safe.wr W144 (safeArv hZ.alike V139 (by decide)) C141.1 sf142
   refine go (S' := T144.setTop (mkF m 33 #[sr a1, si pn] [(.ref b139), (.ref b135), (.ref b135)])) st144 ?_
   have f149 : Exa Z h144 b135 "java/lang/String" := ((A135.ext E139).wr W144)
   have f150 : Fld Z h144 b135 "java/lang/String" "value" "[B" .null := (Fld.other W144 ((D135 (Or.inr (ww hw 5 rfl)) (ty := (.array .byte)) (by decide)).ext E139) (Or.inl (Nat.ne_of_lt lt_b135_b139)))
   have f151 : Fld Z h144 b135 "java/lang/String" "coder" "B" (.int 0) := (Fld.other W144 ((D135 (Or.inr (ww hw 6 rfl)) (ty := .byte) (by decide)).ext E139) (Or.inl (Nat.ne_of_lt lt_b135_b139)))
   have O152 : Old Z n0 h144 := O0.keep K145 all0
   obtain ⟨v153, T153, L153, X153, hQ153, st153⟩ := callSp X144 hx hZ (y := y_9) rfl hown (ww hw 57 rfl) (ww hw 58 rfl) (ww hw 59 rfl) (by decide) (backOf (W := 1) (rmInit1 l Z a0 hw [] b135 b139 (1 : Int32) k139 ([b0] : List Int32) (.int 0) G1 h144 n0 (Nat.le_trans Z0 K145.1) V144 rfl (leB rfl) (leB rfl) (allI h_b0 (fun _ q => nomatch q)) f149 f150 f151 ge_b135 (Nat.ne_of_lt lt_b135_b139) hp5 hG1 hp7 hp8 hp9 O152) hZ (ww hw 59 rfl) (ww hw 2 rfl) (by decide) (by decide)) (g := (mkF m 33 #[sr a1, si pn] [(.ref b139), (.ref b135), (.ref b135)])) rfl (by rw [hml]; rfl) (a := b135) (kc := 2) (ks := 36) (argsL := [(.ref b139)]) (rest := [(.ref b135)]) (lenOf pd_10 rfl) rfl (mr0 rfl) (hb hby d9_33) e144 (by decide) (by decide)
   obtain ⟨t_153, cd_153, rfl, N153q, Kq153, q153_0, q153_1, q153_2⟩ := hQ153
   have N153 := Fr.app N146 N153q
   have hkS := Nat.le_trans hkS Kq153.1
   have C154 := C147.trans (CHr.keep Kq153 (allS sf148 all0) C147.1)
   have sf155 := Safe.keep Kq153 (allS sf148 all0) C147.1 sf148
   have K156 : Keep h0 T153.heap [] := K145.trans Kq153 (allS (P := fun x => x ∈ [] ∨ h0.size ≤ x) (Or.inr sz_b135) all0)
   have lt_a1_t_153 : a1 < t_153 := Nat.lt_of_lt_of_le (hp_a.keep K145 nin0).lt q153_0
   have lt_b135_t_153 : b135 < t_153 := Nat.lt_of_lt_of_le f149.lt q153_0
   have lt_b139_t_153 : b139 < t_153 := Nat.lt_of_lt_of_le V144.lt q153_0
   have sz_t_153 : h0.size ≤ t_153 := Nat.le_trans K145.1 q153_0
   have ge_t_153 : n0 ≤ t_153 := Nat.le_trans Z0 sz_t_153
   have ne_t_153_b135 := q153_1
   refine go (S' := T153.setTop (mkF m 36 #[sr a1, si pn] [(.ref b135)])) st153 ?_
   refine finRW X153 hx hk hret rfl rfl hS hkS hZ (own_EW hw) C154 rfl (hb hby d9_36) (by decide) (by decide) ?_
   have hnk : n = 1 := oj_inj (i := n) (n := 1) (by omega) (by omega) (hn.symm.trans (hc134.trans (rfl : (1 : Int32) = Int32.ofNat 1)))
   subst hnk
   exact ⟨b135, t_153, cd_153, rfl, N153, K156, sz_b135, q153_2⟩
  ·
   refine go (S' := T0.setTop (mkF m 39 #[sr a1, si pn] [(.int 2), (.int pn)])) (fun t k => XS.icmpYes X0.here hx rfl (pc0 := 17) (pc' := 37) rfl (hb hby d9_17) rfl (feq hc134).2 (by decide) (by decide) (XS.iloadN X0.here hx rfl (hb hby d9_37) rfl (XS.iconst X0.here hx rfl (hb hby d9_38) k))) ?_
   by_cases hc157 : pn = (2 : Int32)
   ·
    refine go (S' := T0.setTop (mkF m 42 #[sr a1, si pn] [])) (fun t k => XS.icmpNo X0.here hx rfl (hb hby d9_39) rfl (teq hc157).2 k) ?_
    obtain ⟨T158, h158, X158, e158, E158, A158, D158, -, st158⟩ := newO X0 hx hZ hown (ww hw 56 rfl) (ww hw 3 rfl) (ww hw 2 rfl) e0 (g := (mkF m 42 #[sr a1, si pn] [])) rfl (hb hby d9_42) (by decide) (by decide)
    obtain ⟨b158, g158⟩ : ∃ z, z = h0.size := ⟨_, rfl⟩
    rw [← g158] at A158 D158 st158
    have lt_a1_b158 : a1 < b158 := by rw [g158]; exact hp_a.lt
    have ge_b158 : n0 ≤ b158 := by rw [g158]; exact (Nat.le_trans Z0 K0.1)
    have sz_b158 : h0.size ≤ b158 := by rw [g158]; exact K0.1
    have K159 : Keep h0 h158 [] := K0.ext E158
    have hkS := Nat.le_trans hkS E158.1
    have C160 := C0.trans (CHr.ext E158 C0.1)
    have sf161 := Safe.ext E158 C0.1 (Safe.new (Nat.le_of_eq g158.symm))
    refine go (S' := T158.setTop (mkF m 47 #[sr a1, si pn] [(.int 2), (.ref b158), (.ref b158)])) (fun t k => st158 _ (XS.dup X158.here hx rfl (hb hby d9_45) rfl rfl (XS.iconst X158.here hx rfl (hb hby d9_46) k))) ?_
    obtain ⟨T162, h162, k162, X162, e162, E162, A162, st162⟩ := newP X158 hx hZ (ww hw 26 rfl) e158 (g := (mkF m 47 #[sr a1, si pn] [(.int 2), (.ref b158), (.ref b158)])) rfl (hb hby d9_47) rfl (by decide) (cap := 2) (by decide) (by decide) (by decide) (by decide)
    obtain ⟨b162, g162⟩ : ∃ z, z = h158.size := ⟨_, rfl⟩
    rw [← g162] at A162 st162
    have lt_a1_b162 : a1 < b162 := by rw [g162]; exact (hp_a.keep K159 nin0).lt
    have lt_b158_b162 : b158 < b162 := by rw [g162]; exact A158.lt
    have ge_b162 : n0 ≤ b162 := by rw [g162]; exact (Nat.le_trans Z0 K159.1)
    have sz_b162 : h0.size ≤ b162 := by rw [g162]; exact K159.1
    have K163 : Keep h0 h162 [] := K159.ext E162
    have hkS := Nat.le_trans hkS E162.1
    have C164 := C160.trans (CHr.ext E162 C160.1)
    have sf165 := Safe.ext E162 C160.1 sf161
    have V162 : Arv Z h162 b162 k162 .char (2 : Int32) [(.int 0), (.int 0)] (.int 0) := (Arv.new A162 (by decide)).pad (pad_rep [] (.int 0) 2)
    refine go (S' := T162.setTop (mkF m 54 #[sr a1, si pn] [(.int b0), (.int 0), (.ref b162), (.ref b162), (.ref b158), (.ref b158)])) (fun t k => st162 _ (XS.dup X162.here hx rfl (hb hby d9_49) rfl rfl (XS.iconst X162.here hx rfl (hb hby d9_50) (XS.aloadN X162.here hx rfl (hb hby d9_51) rfl rfl (XS.iconst X162.here hx rfl (hb hby d9_52) (getC X162 hx hZ e162 (hp_a.keep K163 nin0) (j := (0 : Int32)) (v := (.int b0)) ⟨by decide, by decide⟩ rfl (g := (mkF m 53 #[sr a1, si pn] [(.int 0), (.ref a1), (.int 0), (.ref b162), (.ref b162), (.ref b158), (.ref b158)])) rfl rfl (hb hby d9_53) k)))))) ?_
    obtain ⟨T167, h167, X167, e167, W167, V167, st167⟩ := putC X162 hx hZ e162 V162 (j := (0 : Int32)) (x := b0) (oj_c16 h_b0) ⟨by decide, by decide⟩ (i := 0) rfl (leB rfl) (g := (mkF m 54 #[sr a1, si pn] [(.int b0), (.int 0), (.ref b162), (.ref b162), (.ref b158), (.ref b158)])) rfl rfl (hb hby d9_54)
    have K168 : Keep h0 h167 [] := K163.wr W167 (Or.inr sz_b162)
    have N169 := Fr.snoc X167 N0 ge_b162
    have hkS := Nat.le_trans hkS (Keep.of_wr W167).1
    have C170 := C164.trans (CHr.wr W167 (safeArv hZ.alike V162 (by decide)) C164.1)
    have sf171 := Safe.wr W167 (safeArv hZ.alike V162 (by decide)) C164.1 sf165
    refine go (S' := T167.setTop (mkF m 60 #[sr a1, si pn] [(.int b1), (.int 1), (.ref b162), (.ref b162), (.ref b158), (.ref b158)])) (fun t k => st167 _ (XS.dup X167.here hx rfl (hb hby d9_55) rfl rfl (XS.iconst X167.here hx rfl (hb hby d9_56) (XS.aloadN X167.here hx rfl (hb hby d9_57) rfl rfl (XS.iconst X167.here hx rfl (hb hby d9_58) (getC X167 hx hZ e167 (hp_a.keep K168 nin0) (j := (1 : Int32)) (v := (.int b1)) ⟨by decide, by decide⟩ rfl (g := (mkF m 59 #[sr a1, si pn] [(.int 1), (.ref a1), (.int 1), (.ref b162), (.ref b162), (.ref b158), (.ref b158)])) rfl rfl (hb hby d9_59) k)))))) ?_
    obtain ⟨T173, h173, X173, e173, W173, V173, st173⟩ := putC X167 hx hZ e167 V167 (j := (1 : Int32)) (x := b1) (oj_c16 h_b1) ⟨by decide, by decide⟩ (i := 1) rfl (leB rfl) (g := (mkF m 60 #[sr a1, si pn] [(.int b1), (.int 1), (.ref b162), (.ref b162), (.ref b158), (.ref b158)])) rfl rfl (hb hby d9_60)
    have K174 : Keep h0 h173 [] := K168.wr W173 (Or.inr sz_b162)
    have N175 := Fr.snoc X173 N169 ge_b162
    have hkS := Nat.le_trans hkS (Keep.of_wr W173).1
    have C176 := C170.trans (CHr.wr W173 (safeArv hZ.alike V167 (by decide)) C170.1)
    have sf177 := Safe.wr W173 (safeArv hZ.alike V167 (by decide)) C170.1 sf171
    refine go (S' := T173.setTop (mkF m 61 #[sr a1, si pn] [(.ref b162), (.ref b158), (.ref b158)])) st173 ?_
    have f178 : Exa Z h173 b158 "java/lang/String" := (((A158.ext E162).wr W167).wr W173)
    have f179 : Fld Z h173 b158 "java/lang/String" "value" "[B" .null := (Fld.other W173 (Fld.other W167 ((D158 (Or.inr (ww hw 5 rfl)) (ty := (.array .byte)) (by decide)).ext E162) (Or.inl (Nat.ne_of_lt lt_b158_b162))) (Or.inl (Nat.ne_of_lt lt_b158_b162)))
    have f180 : Fld Z h173 b158 "java/lang/String" "coder" "B" (.int 0) := (Fld.other W173 (Fld.other W167 ((D158 (Or.inr (ww hw 6 rfl)) (ty := .byte) (by decide)).ext E162) (Or.inl (Nat.ne_of_lt lt_b158_b162))) (Or.inl (Nat.ne_of_lt lt_b158_b162)))
    have O181 : Old Z n0 h173 := O0.keep K174 all0
    obtain ⟨v182, T182, L182, X182, hQ182, st182⟩ := callSp X173 hx hZ (y := y_9) rfl hown (ww hw 57 rfl) (ww hw 58 rfl) (ww hw 59 rfl) (by decide) (backOf (W := 1) (rmInit1 l Z a0 hw [] b158 b162 (2 : Int32) k162 ([b0, b1] : List Int32) (.int 0) G1 h173 n0 (Nat.le_trans Z0 K174.1) V173 rfl (leB rfl) (leB rfl) (allI h_b0 (allI h_b1 (fun _ q => nomatch q))) f178 f179 f180 ge_b158 (Nat.ne_of_lt lt_b158_b162) hp5 hG1 hp7 hp8 hp9 O181) hZ (ww hw 59 rfl) (ww hw 2 rfl) (by decide) (by decide)) (g := (mkF m 61 #[sr a1, si pn] [(.ref b162), (.ref b158), (.ref b158)])) rfl (by rw [hml]; rfl) (a := b158) (kc := 2) (ks := 36) (argsL := [(.ref b162)]) (rest := [(.ref b158)]) (lenOf pd_10 rfl) rfl (mr0 rfl) (hb hby d9_61) e173 (by decide) (by decide)
    obtain ⟨t_182, cd_182, rfl, N182q, Kq182, q182_0, q182_1, q182_2⟩ := hQ182
    have N182 := Fr.app N175 N182q
    have hkS := Nat.le_trans hkS Kq182.1
    have C183 := C176.trans (CHr.keep Kq182 (allS sf177 all0) C176.1)
    have sf184 := Safe.keep Kq182 (allS sf177 all0) C176.1 sf177
    have K185 : Keep h0 T182.heap [] := K174.trans Kq182 (allS (P := fun x => x ∈ [] ∨ h0.size ≤ x) (Or.inr sz_b158) all0)
    have lt_a1_t_182 : a1 < t_182 := Nat.lt_of_lt_of_le (hp_a.keep K174 nin0).lt q182_0
    have lt_b158_t_182 : b158 < t_182 := Nat.lt_of_lt_of_le f178.lt q182_0
    have lt_b162_t_182 : b162 < t_182 := Nat.lt_of_lt_of_le V173.lt q182_0
    have sz_t_182 : h0.size ≤ t_182 := Nat.le_trans K174.1 q182_0
    have ge_t_182 : n0 ≤ t_182 := Nat.le_trans Z0 sz_t_182
    have ne_t_182_b158 := q182_1
    refine go (S' := T182.setTop (mkF m 64 #[sr a1, si pn] [(.ref b158)])) st182 ?_
    refine finRW X182 hx hk hret rfl rfl hS hkS hZ (own_EW hw) C183 rfl (hb hby d9_64) (by decide) (by decide) ?_
    have hnk : n = 2 := oj_inj (i := n) (n := 2) (by omega) (by omega) (hn.symm.trans (hc157.trans (rfl : (2 : Int32) = Int32.ofNat 2)))
    subst hnk
    exact ⟨b158, t_182, cd_182, rfl, N182, K185, sz_b158, q182_2⟩
   ·
    refine go (S' := T0.setTop (mkF m 67 #[sr a1, si pn] [(.int 3), (.int pn)])) (fun t k => XS.icmpYes X0.here hx rfl (pc0 := 39) (pc' := 65) rfl (hb hby d9_39) rfl (feq hc157).2 (by decide) (by decide) (XS.iloadN X0.here hx rfl (hb hby d9_65) rfl (XS.iconst X0.here hx rfl (hb hby d9_66) k))) ?_
    by_cases hc186 : pn = (3 : Int32)
    ·
     refine go (S' := T0.setTop (mkF m 70 #[sr a1, si pn] [])) (fun t k => XS.icmpNo X0.here hx rfl (hb hby d9_67) rfl (teq hc186).2 k) ?_
     obtain ⟨T187, h187, X187, e187, E187, A187, D187, -, st187⟩ := newO X0 hx hZ hown (ww hw 56 rfl) (ww hw 3 rfl) (ww hw 2 rfl) e0 (g := (mkF m 70 #[sr a1, si pn] [])) rfl (hb hby d9_70) (by decide) (by decide)
     obtain ⟨b187, g187⟩ : ∃ z, z = h0.size := ⟨_, rfl⟩
     rw [← g187] at A187 D187 st187
     have lt_a1_b187 : a1 < b187 := by rw [g187]; exact hp_a.lt
     have ge_b187 : n0 ≤ b187 := by rw [g187]; exact (Nat.le_trans Z0 K0.1)
     have sz_b187 : h0.size ≤ b187 := by rw [g187]; exact K0.1
     have K188 : Keep h0 h187 [] := K0.ext E187
     have hkS := Nat.le_trans hkS E187.1
     have C189 := C0.trans (CHr.ext E187 C0.1)
     have sf190 := Safe.ext E187 C0.1 (Safe.new (Nat.le_of_eq g187.symm))
     refine go (S' := T187.setTop (mkF m 75 #[sr a1, si pn] [(.int 3), (.ref b187), (.ref b187)])) (fun t k => st187 _ (XS.dup X187.here hx rfl (hb hby d9_73) rfl rfl (XS.iconst X187.here hx rfl (hb hby d9_74) k))) ?_
     obtain ⟨T191, h191, k191, X191, e191, E191, A191, st191⟩ := newP X187 hx hZ (ww hw 26 rfl) e187 (g := (mkF m 75 #[sr a1, si pn] [(.int 3), (.ref b187), (.ref b187)])) rfl (hb hby d9_75) rfl (by decide) (cap := 3) (by decide) (by decide) (by decide) (by decide)
     obtain ⟨b191, g191⟩ : ∃ z, z = h187.size := ⟨_, rfl⟩
     rw [← g191] at A191 st191
     have lt_a1_b191 : a1 < b191 := by rw [g191]; exact (hp_a.keep K188 nin0).lt
     have lt_b187_b191 : b187 < b191 := by rw [g191]; exact A187.lt
     have ge_b191 : n0 ≤ b191 := by rw [g191]; exact (Nat.le_trans Z0 K188.1)
     have sz_b191 : h0.size ≤ b191 := by rw [g191]; exact K188.1
     have K192 : Keep h0 h191 [] := K188.ext E191
     have hkS := Nat.le_trans hkS E191.1
     have C193 := C189.trans (CHr.ext E191 C189.1)
     have sf194 := Safe.ext E191 C189.1 sf190
     have V191 : Arv Z h191 b191 k191 .char (3 : Int32) [(.int 0), (.int 0), (.int 0)] (.int 0) := (Arv.new A191 (by decide)).pad (pad_rep [] (.int 0) 3)
     refine go (S' := T191.setTop (mkF m 82 #[sr a1, si pn] [(.int b0), (.int 0), (.ref b191), (.ref b191), (.ref b187), (.ref b187)])) (fun t k => st191 _ (XS.dup X191.here hx rfl (hb hby d9_77) rfl rfl (XS.iconst X191.here hx rfl (hb hby d9_78) (XS.aloadN X191.here hx rfl (hb hby d9_79) rfl rfl (XS.iconst X191.here hx rfl (hb hby d9_80) (getC X191 hx hZ e191 (hp_a.keep K192 nin0) (j := (0 : Int32)) (v := (.int b0)) ⟨by decide, by decide⟩ rfl (g := (mkF m 81 #[sr a1, si pn] [(.int 0), (.ref a1), (.int 0), (.ref b191), (.ref b191), (.ref b187), (.ref b187)])) rfl rfl (hb hby d9_81) k)))))) ?_
     obtain ⟨T196, h196, X196, e196, W196, V196, st196⟩ := putC X191 hx hZ e191 V191 (j := (0 : Int32)) (x := b0) (oj_c16 h_b0) ⟨by decide, by decide⟩ (i := 0) rfl (leB rfl) (g := (mkF m 82 #[sr a1, si pn] [(.int b0), (.int 0), (.ref b191), (.ref b191), (.ref b187), (.ref b187)])) rfl rfl (hb hby d9_82)
     have K197 : Keep h0 h196 [] := K192.wr W196 (Or.inr sz_b191)
     have N198 := Fr.snoc X196 N0 ge_b191
     have hkS := Nat.le_trans hkS (Keep.of_wr W196).1
     have C199 := C193.trans (CHr.wr W196 (safeArv hZ.alike V191 (by decide)) C193.1)
     have sf200 := Safe.wr W196 (safeArv hZ.alike V191 (by decide)) C193.1 sf194
     refine go (S' := T196.setTop (mkF m 88 #[sr a1, si pn] [(.int b1), (.int 1), (.ref b191), (.ref b191), (.ref b187), (.ref b187)])) (fun t k => st196 _ (XS.dup X196.here hx rfl (hb hby d9_83) rfl rfl (XS.iconst X196.here hx rfl (hb hby d9_84) (XS.aloadN X196.here hx rfl (hb hby d9_85) rfl rfl (XS.iconst X196.here hx rfl (hb hby d9_86) (getC X196 hx hZ e196 (hp_a.keep K197 nin0) (j := (1 : Int32)) (v := (.int b1)) ⟨by decide, by decide⟩ rfl (g := (mkF m 87 #[sr a1, si pn] [(.int 1), (.ref a1), (.int 1), (.ref b191), (.ref b191), (.ref b187), (.ref b187)])) rfl rfl (hb hby d9_87) k)))))) ?_
     obtain ⟨T202, h202, X202, e202, W202, V202, st202⟩ := putC X196 hx hZ e196 V196 (j := (1 : Int32)) (x := b1) (oj_c16 h_b1) ⟨by decide, by decide⟩ (i := 1) rfl (leB rfl) (g := (mkF m 88 #[sr a1, si pn] [(.int b1), (.int 1), (.ref b191), (.ref b191), (.ref b187), (.ref b187)])) rfl rfl (hb hby d9_88)
     have K203 : Keep h0 h202 [] := K197.wr W202 (Or.inr sz_b191)
     have N204 := Fr.snoc X202 N198 ge_b191
     have hkS := Nat.le_trans hkS (Keep.of_wr W202).1
     have C205 := C199.trans (CHr.wr W202 (safeArv hZ.alike V196 (by decide)) C199.1)
     have sf206 := Safe.wr W202 (safeArv hZ.alike V196 (by decide)) C199.1 sf200
     refine go (S' := T202.setTop (mkF m 94 #[sr a1, si pn] [(.int b2), (.int 2), (.ref b191), (.ref b191), (.ref b187), (.ref b187)])) (fun t k => st202 _ (XS.dup X202.here hx rfl (hb hby d9_89) rfl rfl (XS.iconst X202.here hx rfl (hb hby d9_90) (XS.aloadN X202.here hx rfl (hb hby d9_91) rfl rfl (XS.iconst X202.here hx rfl (hb hby d9_92) (getC X202 hx hZ e202 (hp_a.keep K203 nin0) (j := (2 : Int32)) (v := (.int b2)) ⟨by decide, by decide⟩ rfl (g := (mkF m 93 #[sr a1, si pn] [(.int 2), (.ref a1), (.int 2), (.ref b191), (.ref b191), (.ref b187), (.ref b187)])) rfl rfl (hb hby d9_93) k)))))) ?_
     obtain ⟨T208, h208, X208, e208, W208, V208, st208⟩ := putC X202 hx hZ e202 V202 (j := (2 : Int32)) (x := b2) (oj_c16 h_b2) ⟨by decide, by decide⟩ (i := 2) rfl (leB rfl) (g := (mkF m 94 #[sr a1, si pn] [(.int b2), (.int 2), (.ref b191), (.ref b191), (.ref b187), (.ref b187)])) rfl rfl (hb hby d9_94)
     have K209 : Keep h0 h208 [] := K203.wr W208 (Or.inr sz_b191)
     have N210 := Fr.snoc X208 N204 ge_b191
     have hkS := Nat.le_trans hkS (Keep.of_wr W208).1
     have C211 := C205.trans (CHr.wr W208 (safeArv hZ.alike V202 (by decide)) C205.1)
     have sf212 := Safe.wr W208 (safeArv hZ.alike V202 (by decide)) C205.1 sf206
     refine go (S' := T208.setTop (mkF m 95 #[sr a1, si pn] [(.ref b191), (.ref b187), (.ref b187)])) st208 ?_
     have f213 : Exa Z h208 b187 "java/lang/String" := ((((A187.ext E191).wr W196).wr W202).wr W208)
     have f214 : Fld Z h208 b187 "java/lang/String" "value" "[B" .null := (Fld.other W208 (Fld.other W202 (Fld.other W196 ((D187 (Or.inr (ww hw 5 rfl)) (ty := (.array .byte)) (by decide)).ext E191) (Or.inl (Nat.ne_of_lt lt_b187_b191))) (Or.inl (Nat.ne_of_lt lt_b187_b191))) (Or.inl (Nat.ne_of_lt lt_b187_b191)))
     have f215 : Fld Z h208 b187 "java/lang/String" "coder" "B" (.int 0) := (Fld.other W208 (Fld.other W202 (Fld.other W196 ((D187 (Or.inr (ww hw 6 rfl)) (ty := .byte) (by decide)).ext E191) (Or.inl (Nat.ne_of_lt lt_b187_b191))) (Or.inl (Nat.ne_of_lt lt_b187_b191))) (Or.inl (Nat.ne_of_lt lt_b187_b191)))
     have O216 : Old Z n0 h208 := O0.keep K209 all0
     obtain ⟨v217, T217, L217, X217, hQ217, st217⟩ := callSp X208 hx hZ (y := y_9) rfl hown (ww hw 57 rfl) (ww hw 58 rfl) (ww hw 59 rfl) (by decide) (backOf (W := 1) (rmInit1 l Z a0 hw [] b187 b191 (3 : Int32) k191 ([b0, b1, b2] : List Int32) (.int 0) G1 h208 n0 (Nat.le_trans Z0 K209.1) V208 rfl (leB rfl) (leB rfl) (allI h_b0 (allI h_b1 (allI h_b2 (fun _ q => nomatch q)))) f213 f214 f215 ge_b187 (Nat.ne_of_lt lt_b187_b191) hp5 hG1 hp7 hp8 hp9 O216) hZ (ww hw 59 rfl) (ww hw 2 rfl) (by decide) (by decide)) (g := (mkF m 95 #[sr a1, si pn] [(.ref b191), (.ref b187), (.ref b187)])) rfl (by rw [hml]; rfl) (a := b187) (kc := 2) (ks := 36) (argsL := [(.ref b191)]) (rest := [(.ref b187)]) (lenOf pd_10 rfl) rfl (mr0 rfl) (hb hby d9_95) e208 (by decide) (by decide)
     obtain ⟨t_217, cd_217, rfl, N217q, Kq217, q217_0, q217_1, q217_2⟩ := hQ217
     have N217 := Fr.app N210 N217q
     have hkS := Nat.le_trans hkS Kq217.1
     have C218 := C211.trans (CHr.keep Kq217 (allS sf212 all0) C211.1)
     have sf219 := Safe.keep Kq217 (allS sf212 all0) C211.1 sf212
     have K220 : Keep h0 T217.heap [] := K209.trans Kq217 (allS (P := fun x => x ∈ [] ∨ h0.size ≤ x) (Or.inr sz_b187) all0)
     have lt_a1_t_217 : a1 < t_217 := Nat.lt_of_lt_of_le (hp_a.keep K209 nin0).lt q217_0
     have lt_b187_t_217 : b187 < t_217 := Nat.lt_of_lt_of_le f213.lt q217_0
     have lt_b191_t_217 : b191 < t_217 := Nat.lt_of_lt_of_le V208.lt q217_0
     have sz_t_217 : h0.size ≤ t_217 := Nat.le_trans K209.1 q217_0
     have ge_t_217 : n0 ≤ t_217 := Nat.le_trans Z0 sz_t_217
     have ne_t_217_b187 := q217_1
     refine go (S' := T217.setTop (mkF m 98 #[sr a1, si pn] [(.ref b187)])) st217 ?_
     refine finRW X217 hx hk hret rfl rfl hS hkS hZ (own_EW hw) C218 rfl (hb hby d9_98) (by decide) (by decide) ?_
     have hnk : n = 3 := oj_inj (i := n) (n := 3) (by omega) (by omega) (hn.symm.trans (hc186.trans (rfl : (3 : Int32) = Int32.ofNat 3)))
     subst hnk
     exact ⟨b187, t_217, cd_217, rfl, N217, K220, sz_b187, q217_2⟩
    ·
     refine go (S' := T0.setTop (mkF m 101 #[sr a1, si pn] [(.int 4), (.int pn)])) (fun t k => XS.icmpYes X0.here hx rfl (pc0 := 67) (pc' := 99) rfl (hb hby d9_67) rfl (feq hc186).2 (by decide) (by decide) (XS.iloadN X0.here hx rfl (hb hby d9_99) rfl (XS.iconst X0.here hx rfl (hb hby d9_100) k))) ?_
     by_cases hc221 : pn = (4 : Int32)
     ·
      refine go (S' := T0.setTop (mkF m 104 #[sr a1, si pn] [])) (fun t k => XS.icmpNo X0.here hx rfl (hb hby d9_101) rfl (teq hc221).2 k) ?_
      obtain ⟨T222, h222, X222, e222, E222, A222, D222, -, st222⟩ := newO X0 hx hZ hown (ww hw 56 rfl) (ww hw 3 rfl) (ww hw 2 rfl) e0 (g := (mkF m 104 #[sr a1, si pn] [])) rfl (hb hby d9_104) (by decide) (by decide)
      obtain ⟨b222, g222⟩ : ∃ z, z = h0.size := ⟨_, rfl⟩
      rw [← g222] at A222 D222 st222
      have lt_a1_b222 : a1 < b222 := by rw [g222]; exact hp_a.lt
      have ge_b222 : n0 ≤ b222 := by rw [g222]; exact (Nat.le_trans Z0 K0.1)
      have sz_b222 : h0.size ≤ b222 := by rw [g222]; exact K0.1
      have K223 : Keep h0 h222 [] := K0.ext E222
      have hkS := Nat.le_trans hkS E222.1
      have C224 := C0.trans (CHr.ext E222 C0.1)
      have sf225 := Safe.ext E222 C0.1 (Safe.new (Nat.le_of_eq g222.symm))
      refine go (S' := T222.setTop (mkF m 109 #[sr a1, si pn] [(.int 4), (.ref b222), (.ref b222)])) (fun t k => st222 _ (XS.dup X222.here hx rfl (hb hby d9_107) rfl rfl (XS.iconst X222.here hx rfl (hb hby d9_108) k))) ?_
      obtain ⟨T226, h226, k226, X226, e226, E226, A226, st226⟩ := newP X222 hx hZ (ww hw 26 rfl) e222 (g := (mkF m 109 #[sr a1, si pn] [(.int 4), (.ref b222), (.ref b222)])) rfl (hb hby d9_109) rfl (by decide) (cap := 4) (by decide) (by decide) (by decide) (by decide)
      obtain ⟨b226, g226⟩ : ∃ z, z = h222.size := ⟨_, rfl⟩
      rw [← g226] at A226 st226
      have lt_a1_b226 : a1 < b226 := by rw [g226]; exact (hp_a.keep K223 nin0).lt
      have lt_b222_b226 : b222 < b226 := by rw [g226]; exact A222.lt
      have ge_b226 : n0 ≤ b226 := by rw [g226]; exact (Nat.le_trans Z0 K223.1)
      have sz_b226 : h0.size ≤ b226 := by rw [g226]; exact K223.1
      have K227 : Keep h0 h226 [] := K223.ext E226
      have hkS := Nat.le_trans hkS E226.1
      have C228 := C224.trans (CHr.ext E226 C224.1)
      have sf229 := Safe.ext E226 C224.1 sf225
      have V226 : Arv Z h226 b226 k226 .char (4 : Int32) [(.int 0), (.int 0), (.int 0), (.int 0)] (.int 0) := (Arv.new A226 (by decide)).pad (pad_rep [] (.int 0) 4)
      refine go (S' := T226.setTop (mkF m 116 #[sr a1, si pn] [(.int b0), (.int 0), (.ref b226), (.ref b226), (.ref b222), (.ref b222)])) (fun t k => st226 _ (XS.dup X226.here hx rfl (hb hby d9_111) rfl rfl (XS.iconst X226.here hx rfl (hb hby d9_112) (XS.aloadN X226.here hx rfl (hb hby d9_113) rfl rfl (XS.iconst X226.here hx rfl (hb hby d9_114) (getC X226 hx hZ e226 (hp_a.keep K227 nin0) (j := (0 : Int32)) (v := (.int b0)) ⟨by decide, by decide⟩ rfl (g := (mkF m 115 #[sr a1, si pn] [(.int 0), (.ref a1), (.int 0), (.ref b226), (.ref b226), (.ref b222), (.ref b222)])) rfl rfl (hb hby d9_115) k)))))) ?_
      obtain ⟨T231, h231, X231, e231, W231, V231, st231⟩ := putC X226 hx hZ e226 V226 (j := (0 : Int32)) (x := b0) (oj_c16 h_b0) ⟨by decide, by decide⟩ (i := 0) rfl (leB rfl) (g := (mkF m 116 #[sr a1, si pn] [(.int b0), (.int 0), (.ref b226), (.ref b226), (.ref b222), (.ref b222)])) rfl rfl (hb hby d9_116)
      have K232 : Keep h0 h231 [] := K227.wr W231 (Or.inr sz_b226)
      have N233 := Fr.snoc X231 N0 ge_b226
      have hkS := Nat.le_trans hkS (Keep.of_wr W231).1
      have C234 := C228.trans (CHr.wr W231 (safeArv hZ.alike V226 (by decide)) C228.1)
      have sf235 := Safe.wr W231 (safeArv hZ.alike V226 (by decide)) C228.1 sf229
      refine go (S' := T231.setTop (mkF m 122 #[sr a1, si pn] [(.int b1), (.int 1), (.ref b226), (.ref b226), (.ref b222), (.ref b222)])) (fun t k => st231 _ (XS.dup X231.here hx rfl (hb hby d9_117) rfl rfl (XS.iconst X231.here hx rfl (hb hby d9_118) (XS.aloadN X231.here hx rfl (hb hby d9_119) rfl rfl (XS.iconst X231.here hx rfl (hb hby d9_120) (getC X231 hx hZ e231 (hp_a.keep K232 nin0) (j := (1 : Int32)) (v := (.int b1)) ⟨by decide, by decide⟩ rfl (g := (mkF m 121 #[sr a1, si pn] [(.int 1), (.ref a1), (.int 1), (.ref b226), (.ref b226), (.ref b222), (.ref b222)])) rfl rfl (hb hby d9_121) k)))))) ?_
      obtain ⟨T237, h237, X237, e237, W237, V237, st237⟩ := putC X231 hx hZ e231 V231 (j := (1 : Int32)) (x := b1) (oj_c16 h_b1) ⟨by decide, by decide⟩ (i := 1) rfl (leB rfl) (g := (mkF m 122 #[sr a1, si pn] [(.int b1), (.int 1), (.ref b226), (.ref b226), (.ref b222), (.ref b222)])) rfl rfl (hb hby d9_122)
      have K238 : Keep h0 h237 [] := K232.wr W237 (Or.inr sz_b226)
      have N239 := Fr.snoc X237 N233 ge_b226
      have hkS := Nat.le_trans hkS (Keep.of_wr W237).1
      have C240 := C234.trans (CHr.wr W237 (safeArv hZ.alike V231 (by decide)) C234.1)
      have sf241 := Safe.wr W237 (safeArv hZ.alike V231 (by decide)) C234.1 sf235
      refine go (S' := T237.setTop (mkF m 128 #[sr a1, si pn] [(.int b2), (.int 2), (.ref b226), (.ref b226), (.ref b222), (.ref b222)])) (fun t k => st237 _ (XS.dup X237.here hx rfl (hb hby d9_123) rfl rfl (XS.iconst X237.here hx rfl (hb hby d9_124) (XS.aloadN X237.here hx rfl (hb hby d9_125) rfl rfl (XS.iconst X237.here hx rfl (hb hby d9_126) (getC X237 hx hZ e237 (hp_a.keep K238 nin0) (j := (2 : Int32)) (v := (.int b2)) ⟨by decide, by decide⟩ rfl (g := (mkF m 127 #[sr a1, si pn] [(.int 2), (.ref a1), (.int 2), (.ref b226), (.ref b226), (.ref b222), (.ref b222)])) rfl rfl (hb hby d9_127) k)))))) ?_
      obtain ⟨T243, h243, X243, e243, W243, V243, st243⟩ := putC X237 hx hZ e237 V237 (j := (2 : Int32)) (x := b2) (oj_c16 h_b2) ⟨by decide, by decide⟩ (i := 2) rfl (leB rfl) (g := (mkF m 128 #[sr a1, si pn] [(.int b2), (.int 2), (.ref b226), (.ref b226), (.ref b222), (.ref b222)])) rfl rfl (hb hby d9_128)
      have K244 : Keep h0 h243 [] := K238.wr W243 (Or.inr sz_b226)
      have N245 := Fr.snoc X243 N239 ge_b226
      have hkS := Nat.le_trans hkS (Keep.of_wr W243).1
      have C246 := C240.trans (CHr.wr W243 (safeArv hZ.alike V237 (by decide)) C240.1)
      have sf247 := Safe.wr W243 (safeArv hZ.alike V237 (by decide)) C240.1 sf241
      refine go (S' := T243.setTop (mkF m 134 #[sr a1, si pn] [(.int b3), (.int 3), (.ref b226), (.ref b226), (.ref b222), (.ref b222)])) (fun t k => st243 _ (XS.dup X243.here hx rfl (hb hby d9_129) rfl rfl (XS.iconst X243.here hx rfl (hb hby d9_130) (XS.aloadN X243.here hx rfl (hb hby d9_131) rfl rfl (XS.iconst X243.here hx rfl (hb hby d9_132) (getC X243 hx hZ e243 (hp_a.keep K244 nin0) (j := (3 : Int32)) (v := (.int b3)) ⟨by decide, by decide⟩ rfl (g := (mkF m 133 #[sr a1, si pn] [(.int 3), (.ref a1), (.int 3), (.ref b226), (.ref b226), (.ref b222), (.ref b222)])) rfl rfl (hb hby d9_133) k)))))) ?_
      obtain ⟨T249, h249, X249, e249, W249, V249, st249⟩ := putC X243 hx hZ e243 V243 (j := (3 : Int32)) (x := b3) (oj_c16 h_b3) ⟨by decide, by decide⟩ (i := 3) rfl (leB rfl) (g := (mkF m 134 #[sr a1, si pn] [(.int b3), (.int 3), (.ref b226), (.ref b226), (.ref b222), (.ref b222)])) rfl rfl (hb hby d9_134)
      have K250 : Keep h0 h249 [] := K244.wr W249 (Or.inr sz_b226)
      have N251 := Fr.snoc X249 N245 ge_b226
      have hkS := Nat.le_trans hkS (Keep.of_wr W249).1
      have C252 := C246.trans (CHr.wr W249 (safeArv hZ.alike V243 (by decide)) C246.1)
      have sf253 := Safe.wr W249 (safeArv hZ.alike V243 (by decide)) C246.1 sf247
      refine go (S' := T249.setTop (mkF m 135 #[sr a1, si pn] [(.ref b226), (.ref b222), (.ref b222)])) st249 ?_
      have f254 : Exa Z h249 b222 "java/lang/String" := (((((A222.ext E226).wr W231).wr W237).wr W243).wr W249)
      have f255 : Fld Z h249 b222 "java/lang/String" "value" "[B" .null := (Fld.other W249 (Fld.other W243 (Fld.other W237 (Fld.other W231 ((D222 (Or.inr (ww hw 5 rfl)) (ty := (.array .byte)) (by decide)).ext E226) (Or.inl (Nat.ne_of_lt lt_b222_b226))) (Or.inl (Nat.ne_of_lt lt_b222_b226))) (Or.inl (Nat.ne_of_lt lt_b222_b226))) (Or.inl (Nat.ne_of_lt lt_b222_b226)))
      have f256 : Fld Z h249 b222 "java/lang/String" "coder" "B" (.int 0) := (Fld.other W249 (Fld.other W243 (Fld.other W237 (Fld.other W231 ((D222 (Or.inr (ww hw 6 rfl)) (ty := .byte) (by decide)).ext E226) (Or.inl (Nat.ne_of_lt lt_b222_b226))) (Or.inl (Nat.ne_of_lt lt_b222_b226))) (Or.inl (Nat.ne_of_lt lt_b222_b226))) (Or.inl (Nat.ne_of_lt lt_b222_b226)))
      have O257 : Old Z n0 h249 := O0.keep K250 all0
      obtain ⟨v258, T258, L258, X258, hQ258, st258⟩ := callSp X249 hx hZ (y := y_9) rfl hown (ww hw 57 rfl) (ww hw 58 rfl) (ww hw 59 rfl) (by decide) (backOf (W := 1) (rmInit1 l Z a0 hw [] b222 b226 (4 : Int32) k226 ([b0, b1, b2, b3] : List Int32) (.int 0) G1 h249 n0 (Nat.le_trans Z0 K250.1) V249 rfl (leB rfl) (leB rfl) (allI h_b0 (allI h_b1 (allI h_b2 (allI h_b3 (fun _ q => nomatch q))))) f254 f255 f256 ge_b222 (Nat.ne_of_lt lt_b222_b226) hp5 hG1 hp7 hp8 hp9 O257) hZ (ww hw 59 rfl) (ww hw 2 rfl) (by decide) (by decide)) (g := (mkF m 135 #[sr a1, si pn] [(.ref b226), (.ref b222), (.ref b222)])) rfl (by rw [hml]; rfl) (a := b222) (kc := 2) (ks := 36) (argsL := [(.ref b226)]) (rest := [(.ref b222)]) (lenOf pd_10 rfl) rfl (mr0 rfl) (hb hby d9_135) e249 (by decide) (by decide)
      obtain ⟨t_258, cd_258, rfl, N258q, Kq258, q258_0, q258_1, q258_2⟩ := hQ258
      have N258 := Fr.app N251 N258q
      have hkS := Nat.le_trans hkS Kq258.1
      have C259 := C252.trans (CHr.keep Kq258 (allS sf253 all0) C252.1)
      have sf260 := Safe.keep Kq258 (allS sf253 all0) C252.1 sf253
      have K261 : Keep h0 T258.heap [] := K250.trans Kq258 (allS (P := fun x => x ∈ [] ∨ h0.size ≤ x) (Or.inr sz_b222) all0)
      have lt_a1_t_258 : a1 < t_258 := Nat.lt_of_lt_of_le (hp_a.keep K250 nin0).lt q258_0
      have lt_b222_t_258 : b222 < t_258 := Nat.lt_of_lt_of_le f254.lt q258_0
      have lt_b226_t_258 : b226 < t_258 := Nat.lt_of_lt_of_le V249.lt q258_0
      have sz_t_258 : h0.size ≤ t_258 := Nat.le_trans K250.1 q258_0
      have ge_t_258 : n0 ≤ t_258 := Nat.le_trans Z0 sz_t_258
      have ne_t_258_b222 := q258_1
      refine go (S' := T258.setTop (mkF m 138 #[sr a1, si pn] [(.ref b222)])) st258 ?_
      refine finRW X258 hx hk hret rfl rfl hS hkS hZ (own_EW hw) C259 rfl (hb hby d9_138) (by decide) (by decide) ?_
      have hnk : n = 4 := oj_inj (i := n) (n := 4) (by omega) (by omega) (hn.symm.trans (hc221.trans (rfl : (4 : Int32) = Int32.ofNat 4)))
      subst hnk
      exact ⟨b222, t_258, cd_258, rfl, N258, K261, sz_b222, q258_2⟩
     ·
      refine go (S' := T0.setTop (mkF m 141 #[sr a1, si pn] [(.int 5), (.int pn)])) (fun t k => XS.icmpYes X0.here hx rfl (pc0 := 101) (pc' := 139) rfl (hb hby d9_101) rfl (feq hc221).2 (by decide) (by decide) (XS.iloadN X0.here hx rfl (hb hby d9_139) rfl (XS.iconst X0.here hx rfl (hb hby d9_140) k))) ?_
      by_cases hc262 : pn = (5 : Int32)
      ·
       refine go (S' := T0.setTop (mkF m 144 #[sr a1, si pn] [])) (fun t k => XS.icmpNo X0.here hx rfl (hb hby d9_141) rfl (teq hc262).2 k) ?_
       obtain ⟨T263, h263, X263, e263, E263, A263, D263, -, st263⟩ := newO X0 hx hZ hown (ww hw 56 rfl) (ww hw 3 rfl) (ww hw 2 rfl) e0 (g := (mkF m 144 #[sr a1, si pn] [])) rfl (hb hby d9_144) (by decide) (by decide)
       obtain ⟨b263, g263⟩ : ∃ z, z = h0.size := ⟨_, rfl⟩
       rw [← g263] at A263 D263 st263
       have lt_a1_b263 : a1 < b263 := by rw [g263]; exact hp_a.lt
       have ge_b263 : n0 ≤ b263 := by rw [g263]; exact (Nat.le_trans Z0 K0.1)
       have sz_b263 : h0.size ≤ b263 := by rw [g263]; exact K0.1
       have K264 : Keep h0 h263 [] := K0.ext E263
       have hkS := Nat.le_trans hkS E263.1
       have C265 := C0.trans (CHr.ext E263 C0.1)
       have sf266 := Safe.ext E263 C0.1 (Safe.new (Nat.le_of_eq g263.symm))
       refine go (S' := T263.setTop (mkF m 149 #[sr a1, si pn] [(.int 5), (.ref b263), (.ref b263)])) (fun t k => st263 _ (XS.dup X263.here hx rfl (hb hby d9_147) rfl rfl (XS.iconst X263.here hx rfl (hb hby d9_148) k))) ?_
       obtain ⟨T267, h267, k267, X267, e267, E267, A267, st267⟩ := newP X263 hx hZ (ww hw 26 rfl) e263 (g := (mkF m 149 #[sr a1, si pn] [(.int 5), (.ref b263), (.ref b263)])) rfl (hb hby d9_149) rfl (by decide) (cap := 5) (by decide) (by decide) (by decide) (by decide)
       obtain ⟨b267, g267⟩ : ∃ z, z = h263.size := ⟨_, rfl⟩
       rw [← g267] at A267 st267
       have lt_a1_b267 : a1 < b267 := by rw [g267]; exact (hp_a.keep K264 nin0).lt
       have lt_b263_b267 : b263 < b267 := by rw [g267]; exact A263.lt
       have ge_b267 : n0 ≤ b267 := by rw [g267]; exact (Nat.le_trans Z0 K264.1)
       have sz_b267 : h0.size ≤ b267 := by rw [g267]; exact K264.1
       have K268 : Keep h0 h267 [] := K264.ext E267
       have hkS := Nat.le_trans hkS E267.1
       have C269 := C265.trans (CHr.ext E267 C265.1)
       have sf270 := Safe.ext E267 C265.1 sf266
       have V267 : Arv Z h267 b267 k267 .char (5 : Int32) [(.int 0), (.int 0), (.int 0), (.int 0), (.int 0)] (.int 0) := (Arv.new A267 (by decide)).pad (pad_rep [] (.int 0) 5)
       refine go (S' := T267.setTop (mkF m 156 #[sr a1, si pn] [(.int b0), (.int 0), (.ref b267), (.ref b267), (.ref b263), (.ref b263)])) (fun t k => st267 _ (XS.dup X267.here hx rfl (hb hby d9_151) rfl rfl (XS.iconst X267.here hx rfl (hb hby d9_152) (XS.aloadN X267.here hx rfl (hb hby d9_153) rfl rfl (XS.iconst X267.here hx rfl (hb hby d9_154) (getC X267 hx hZ e267 (hp_a.keep K268 nin0) (j := (0 : Int32)) (v := (.int b0)) ⟨by decide, by decide⟩ rfl (g := (mkF m 155 #[sr a1, si pn] [(.int 0), (.ref a1), (.int 0), (.ref b267), (.ref b267), (.ref b263), (.ref b263)])) rfl rfl (hb hby d9_155) k)))))) ?_
       obtain ⟨T272, h272, X272, e272, W272, V272, st272⟩ := putC X267 hx hZ e267 V267 (j := (0 : Int32)) (x := b0) (oj_c16 h_b0) ⟨by decide, by decide⟩ (i := 0) rfl (leB rfl) (g := (mkF m 156 #[sr a1, si pn] [(.int b0), (.int 0), (.ref b267), (.ref b267), (.ref b263), (.ref b263)])) rfl rfl (hb hby d9_156)
       have K273 : Keep h0 h272 [] := K268.wr W272 (Or.inr sz_b267)
       have N274 := Fr.snoc X272 N0 ge_b267
       have hkS := Nat.le_trans hkS (Keep.of_wr W272).1
       have C275 := C269.trans (CHr.wr W272 (safeArv hZ.alike V267 (by decide)) C269.1)
       have sf276 := Safe.wr W272 (safeArv hZ.alike V267 (by decide)) C269.1 sf270
       refine go (S' := T272.setTop (mkF m 162 #[sr a1, si pn] [(.int b1), (.int 1), (.ref b267), (.ref b267), (.ref b263), (.ref b263)])) (fun t k => st272 _ (XS.dup X272.here hx rfl (hb hby d9_157) rfl rfl (XS.iconst X272.here hx rfl (hb hby d9_158) (XS.aloadN X272.here hx rfl (hb hby d9_159) rfl rfl (XS.iconst X272.here hx rfl (hb hby d9_160) (getC X272 hx hZ e272 (hp_a.keep K273 nin0) (j := (1 : Int32)) (v := (.int b1)) ⟨by decide, by decide⟩ rfl (g := (mkF m 161 #[sr a1, si pn] [(.int 1), (.ref a1), (.int 1), (.ref b267), (.ref b267), (.ref b263), (.ref b263)])) rfl rfl (hb hby d9_161) k)))))) ?_
       obtain ⟨T278, h278, X278, e278, W278, V278, st278⟩ := putC X272 hx hZ e272 V272 (j := (1 : Int32)) (x := b1) (oj_c16 h_b1) ⟨by decide, by decide⟩ (i := 1) rfl (leB rfl) (g := (mkF m 162 #[sr a1, si pn] [(.int b1), (.int 1), (.ref b267), (.ref b267), (.ref b263), (.ref b263)])) rfl rfl (hb hby d9_162)
       have K279 : Keep h0 h278 [] := K273.wr W278 (Or.inr sz_b267)
       have N280 := Fr.snoc X278 N274 ge_b267
       have hkS := Nat.le_trans hkS (Keep.of_wr W278).1
       have C281 := C275.trans (CHr.wr W278 (safeArv hZ.alike V272 (by decide)) C275.1)
       have sf282 := Safe.wr W278 (safeArv hZ.alike V272 (by decide)) C275.1 sf276
       refine go (S' := T278.setTop (mkF m 168 #[sr a1, si pn] [(.int b2), (.int 2), (.ref b267), (.ref b267), (.ref b263), (.ref b263)])) (fun t k => st278 _ (XS.dup X278.here hx rfl (hb hby d9_163) rfl rfl (XS.iconst X278.here hx rfl (hb hby d9_164) (XS.aloadN X278.here hx rfl (hb hby d9_165) rfl rfl (XS.iconst X278.here hx rfl (hb hby d9_166) (getC X278 hx hZ e278 (hp_a.keep K279 nin0) (j := (2 : Int32)) (v := (.int b2)) ⟨by decide, by decide⟩ rfl (g := (mkF m 167 #[sr a1, si pn] [(.int 2), (.ref a1), (.int 2), (.ref b267), (.ref b267), (.ref b263), (.ref b263)])) rfl rfl (hb hby d9_167) k)))))) ?_
       obtain ⟨T284, h284, X284, e284, W284, V284, st284⟩ := putC X278 hx hZ e278 V278 (j := (2 : Int32)) (x := b2) (oj_c16 h_b2) ⟨by decide, by decide⟩ (i := 2) rfl (leB rfl) (g := (mkF m 168 #[sr a1, si pn] [(.int b2), (.int 2), (.ref b267), (.ref b267), (.ref b263), (.ref b263)])) rfl rfl (hb hby d9_168)
       have K285 : Keep h0 h284 [] := K279.wr W284 (Or.inr sz_b267)
       have N286 := Fr.snoc X284 N280 ge_b267
       have hkS := Nat.le_trans hkS (Keep.of_wr W284).1
       have C287 := C281.trans (CHr.wr W284 (safeArv hZ.alike V278 (by decide)) C281.1)
       have sf288 := Safe.wr W284 (safeArv hZ.alike V278 (by decide)) C281.1 sf282
       refine go (S' := T284.setTop (mkF m 174 #[sr a1, si pn] [(.int b3), (.int 3), (.ref b267), (.ref b267), (.ref b263), (.ref b263)])) (fun t k => st284 _ (XS.dup X284.here hx rfl (hb hby d9_169) rfl rfl (XS.iconst X284.here hx rfl (hb hby d9_170) (XS.aloadN X284.here hx rfl (hb hby d9_171) rfl rfl (XS.iconst X284.here hx rfl (hb hby d9_172) (getC X284 hx hZ e284 (hp_a.keep K285 nin0) (j := (3 : Int32)) (v := (.int b3)) ⟨by decide, by decide⟩ rfl (g := (mkF m 173 #[sr a1, si pn] [(.int 3), (.ref a1), (.int 3), (.ref b267), (.ref b267), (.ref b263), (.ref b263)])) rfl rfl (hb hby d9_173) k)))))) ?_
       obtain ⟨T290, h290, X290, e290, W290, V290, st290⟩ := putC X284 hx hZ e284 V284 (j := (3 : Int32)) (x := b3) (oj_c16 h_b3) ⟨by decide, by decide⟩ (i := 3) rfl (leB rfl) (g := (mkF m 174 #[sr a1, si pn] [(.int b3), (.int 3), (.ref b267), (.ref b267), (.ref b263), (.ref b263)])) rfl rfl (hb hby d9_174)
       have K291 : Keep h0 h290 [] := K285.wr W290 (Or.inr sz_b267)
       have N292 := Fr.snoc X290 N286 ge_b267
       have hkS := Nat.le_trans hkS (Keep.of_wr W290).1
       have C293 := C287.trans (CHr.wr W290 (safeArv hZ.alike V284 (by decide)) C287.1)
       have sf294 := Safe.wr W290 (safeArv hZ.alike V284 (by decide)) C287.1 sf288
       refine go (S' := T290.setTop (mkF m 180 #[sr a1, si pn] [(.int b4), (.int 4), (.ref b267), (.ref b267), (.ref b263), (.ref b263)])) (fun t k => st290 _ (XS.dup X290.here hx rfl (hb hby d9_175) rfl rfl (XS.iconst X290.here hx rfl (hb hby d9_176) (XS.aloadN X290.here hx rfl (hb hby d9_177) rfl rfl (XS.iconst X290.here hx rfl (hb hby d9_178) (getC X290 hx hZ e290 (hp_a.keep K291 nin0) (j := (4 : Int32)) (v := (.int b4)) ⟨by decide, by decide⟩ rfl (g := (mkF m 179 #[sr a1, si pn] [(.int 4), (.ref a1), (.int 4), (.ref b267), (.ref b267), (.ref b263), (.ref b263)])) rfl rfl (hb hby d9_179) k)))))) ?_
       obtain ⟨T296, h296, X296, e296, W296, V296, st296⟩ := putC X290 hx hZ e290 V290 (j := (4 : Int32)) (x := b4) (oj_c16 h_b4) ⟨by decide, by decide⟩ (i := 4) rfl (leB rfl) (g := (mkF m 180 #[sr a1, si pn] [(.int b4), (.int 4), (.ref b267), (.ref b267), (.ref b263), (.ref b263)])) rfl rfl (hb hby d9_180)
       have K297 : Keep h0 h296 [] := K291.wr W296 (Or.inr sz_b267)
       have N298 := Fr.snoc X296 N292 ge_b267
       have hkS := Nat.le_trans hkS (Keep.of_wr W296).1
       have C299 := C293.trans (CHr.wr W296 (safeArv hZ.alike V290 (by decide)) C293.1)
       have sf300 := Safe.wr W296 (safeArv hZ.alike V290 (by decide)) C293.1 sf294
       refine go (S' := T296.setTop (mkF m 181 #[sr a1, si pn] [(.ref b267), (.ref b263), (.ref b263)])) st296 ?_
       have f301 : Exa Z h296 b263 "java/lang/String" := ((((((A263.ext E267).wr W272).wr W278).wr W284).wr W290).wr W296)
       have f302 : Fld Z h296 b263 "java/lang/String" "value" "[B" .null := (Fld.other W296 (Fld.other W290 (Fld.other W284 (Fld.other W278 (Fld.other W272 ((D263 (Or.inr (ww hw 5 rfl)) (ty := (.array .byte)) (by decide)).ext E267) (Or.inl (Nat.ne_of_lt lt_b263_b267))) (Or.inl (Nat.ne_of_lt lt_b263_b267))) (Or.inl (Nat.ne_of_lt lt_b263_b267))) (Or.inl (Nat.ne_of_lt lt_b263_b267))) (Or.inl (Nat.ne_of_lt lt_b263_b267)))
       have f303 : Fld Z h296 b263 "java/lang/String" "coder" "B" (.int 0) := (Fld.other W296 (Fld.other W290 (Fld.other W284 (Fld.other W278 (Fld.other W272 ((D263 (Or.inr (ww hw 6 rfl)) (ty := .byte) (by decide)).ext E267) (Or.inl (Nat.ne_of_lt lt_b263_b267))) (Or.inl (Nat.ne_of_lt lt_b263_b267))) (Or.inl (Nat.ne_of_lt lt_b263_b267))) (Or.inl (Nat.ne_of_lt lt_b263_b267))) (Or.inl (Nat.ne_of_lt lt_b263_b267)))
       have O304 : Old Z n0 h296 := O0.keep K297 all0
       obtain ⟨v305, T305, L305, X305, hQ305, st305⟩ := callSp X296 hx hZ (y := y_9) rfl hown (ww hw 57 rfl) (ww hw 58 rfl) (ww hw 59 rfl) (by decide) (backOf (W := 1) (rmInit1 l Z a0 hw [] b263 b267 (5 : Int32) k267 ([b0, b1, b2, b3, b4] : List Int32) (.int 0) G1 h296 n0 (Nat.le_trans Z0 K297.1) V296 rfl (leB rfl) (leB rfl) (allI h_b0 (allI h_b1 (allI h_b2 (allI h_b3 (allI h_b4 (fun _ q => nomatch q)))))) f301 f302 f303 ge_b263 (Nat.ne_of_lt lt_b263_b267) hp5 hG1 hp7 hp8 hp9 O304) hZ (ww hw 59 rfl) (ww hw 2 rfl) (by decide) (by decide)) (g := (mkF m 181 #[sr a1, si pn] [(.ref b267), (.ref b263), (.ref b263)])) rfl (by rw [hml]; rfl) (a := b263) (kc := 2) (ks := 36) (argsL := [(.ref b267)]) (rest := [(.ref b263)]) (lenOf pd_10 rfl) rfl (mr0 rfl) (hb hby d9_181) e296 (by decide) (by decide)
       obtain ⟨t_305, cd_305, rfl, N305q, Kq305, q305_0, q305_1, q305_2⟩ := hQ305
       have N305 := Fr.app N298 N305q
       have hkS := Nat.le_trans hkS Kq305.1
       have C306 := C299.trans (CHr.keep Kq305 (allS sf300 all0) C299.1)
       have sf307 := Safe.keep Kq305 (allS sf300 all0) C299.1 sf300
       have K308 : Keep h0 T305.heap [] := K297.trans Kq305 (allS (P := fun x => x ∈ [] ∨ h0.size ≤ x) (Or.inr sz_b263) all0)
       have lt_a1_t_305 : a1 < t_305 := Nat.lt_of_lt_of_le (hp_a.keep K297 nin0).lt q305_0
       have lt_b263_t_305 : b263 < t_305 := Nat.lt_of_lt_of_le f301.lt q305_0
       have lt_b267_t_305 : b267 < t_305 := Nat.lt_of_lt_of_le V296.lt q305_0
       have sz_t_305 : h0.size ≤ t_305 := Nat.le_trans K297.1 q305_0
       have ge_t_305 : n0 ≤ t_305 := Nat.le_trans Z0 sz_t_305
       have ne_t_305_b263 := q305_1
       refine go (S' := T305.setTop (mkF m 184 #[sr a1, si pn] [(.ref b263)])) st305 ?_
       refine finRW X305 hx hk hret rfl rfl hS hkS hZ (own_EW hw) C306 rfl (hb hby d9_184) (by decide) (by decide) ?_
       have hnk : n = 5 := oj_inj (i := n) (n := 5) (by omega) (by omega) (hn.symm.trans (hc262.trans (rfl : (5 : Int32) = Int32.ofNat 5)))
       subst hnk
       exact ⟨b263, t_305, cd_305, rfl, N305, K308, sz_b263, q305_2⟩
      ·
       refine go (S' := T0.setTop (mkF m 188 #[sr a1, si pn] [(.int 6), (.int pn)])) (fun t k => XS.icmpYes X0.here hx rfl (pc0 := 141) (pc' := 185) rfl (hb hby d9_141) rfl (feq hc262).2 (by decide) (by decide) (XS.iloadN X0.here hx rfl (hb hby d9_185) rfl (XS.bipush X0.here hx rfl (hb hby d9_186) k))) ?_
       by_cases hc309 : pn = (6 : Int32)
       ·
        refine go (S' := T0.setTop (mkF m 191 #[sr a1, si pn] [])) (fun t k => XS.icmpNo X0.here hx rfl (hb hby d9_188) rfl (teq hc309).2 k) ?_
        obtain ⟨T310, h310, X310, e310, E310, A310, D310, -, st310⟩ := newO X0 hx hZ hown (ww hw 56 rfl) (ww hw 3 rfl) (ww hw 2 rfl) e0 (g := (mkF m 191 #[sr a1, si pn] [])) rfl (hb hby d9_191) (by decide) (by decide)
        obtain ⟨b310, g310⟩ : ∃ z, z = h0.size := ⟨_, rfl⟩
        rw [← g310] at A310 D310 st310
        have lt_a1_b310 : a1 < b310 := by rw [g310]; exact hp_a.lt
        have ge_b310 : n0 ≤ b310 := by rw [g310]; exact (Nat.le_trans Z0 K0.1)
        have sz_b310 : h0.size ≤ b310 := by rw [g310]; exact K0.1
        have K311 : Keep h0 h310 [] := K0.ext E310
        have hkS := Nat.le_trans hkS E310.1
        have C312 := C0.trans (CHr.ext E310 C0.1)
        have sf313 := Safe.ext E310 C0.1 (Safe.new (Nat.le_of_eq g310.symm))
        refine go (S' := T310.setTop (mkF m 197 #[sr a1, si pn] [(.int 6), (.ref b310), (.ref b310)])) (fun t k => st310 _ (XS.dup X310.here hx rfl (hb hby d9_194) rfl rfl (XS.bipush X310.here hx rfl (hb hby d9_195) k))) ?_
        obtain ⟨T314, h314, k314, X314, e314, E314, A314, st314⟩ := newP X310 hx hZ (ww hw 26 rfl) e310 (g := (mkF m 197 #[sr a1, si pn] [(.int 6), (.ref b310), (.ref b310)])) rfl (hb hby d9_197) rfl (by decide) (cap := 6) (by decide) (by decide) (by decide) (by decide)
        obtain ⟨b314, g314⟩ : ∃ z, z = h310.size := ⟨_, rfl⟩
        rw [← g314] at A314 st314
        have lt_a1_b314 : a1 < b314 := by rw [g314]; exact (hp_a.keep K311 nin0).lt
        have lt_b310_b314 : b310 < b314 := by rw [g314]; exact A310.lt
        have ge_b314 : n0 ≤ b314 := by rw [g314]; exact (Nat.le_trans Z0 K311.1)
        have sz_b314 : h0.size ≤ b314 := by rw [g314]; exact K311.1
        have K315 : Keep h0 h314 [] := K311.ext E314
        have hkS := Nat.le_trans hkS E314.1
        have C316 := C312.trans (CHr.ext E314 C312.1)
        have sf317 := Safe.ext E314 C312.1 sf313
        have V314 : Arv Z h314 b314 k314 .char (6 : Int32) [(.int 0), (.int 0), (.int 0), (.int 0), (.int 0), (.int 0)] (.int 0) := (Arv.new A314 (by decide)).pad (pad_rep [] (.int 0) 6)
        refine go (S' := T314.setTop (mkF m 204 #[sr a1, si pn] [(.int b0), (.int 0), (.ref b314), (.ref b314), (.ref b310), (.ref b310)])) (fun t k => st314 _ (XS.dup X314.here hx rfl (hb hby d9_199) rfl rfl (XS.iconst X314.here hx rfl (hb hby d9_200) (XS.aloadN X314.here hx rfl (hb hby d9_201) rfl rfl (XS.iconst X314.here hx rfl (hb hby d9_202) (getC X314 hx hZ e314 (hp_a.keep K315 nin0) (j := (0 : Int32)) (v := (.int b0)) ⟨by decide, by decide⟩ rfl (g := (mkF m 203 #[sr a1, si pn] [(.int 0), (.ref a1), (.int 0), (.ref b314), (.ref b314), (.ref b310), (.ref b310)])) rfl rfl (hb hby d9_203) k)))))) ?_
        obtain ⟨T319, h319, X319, e319, W319, V319, st319⟩ := putC X314 hx hZ e314 V314 (j := (0 : Int32)) (x := b0) (oj_c16 h_b0) ⟨by decide, by decide⟩ (i := 0) rfl (leB rfl) (g := (mkF m 204 #[sr a1, si pn] [(.int b0), (.int 0), (.ref b314), (.ref b314), (.ref b310), (.ref b310)])) rfl rfl (hb hby d9_204)
        have K320 : Keep h0 h319 [] := K315.wr W319 (Or.inr sz_b314)
        have N321 := Fr.snoc X319 N0 ge_b314
        have hkS := Nat.le_trans hkS (Keep.of_wr W319).1
        have C322 := C316.trans (CHr.wr W319 (safeArv hZ.alike V314 (by decide)) C316.1)
        have sf323 := Safe.wr W319 (safeArv hZ.alike V314 (by decide)) C316.1 sf317
        refine go (S' := T319.setTop (mkF m 210 #[sr a1, si pn] [(.int b1), (.int 1), (.ref b314), (.ref b314), (.ref b310), (.ref b310)])) (fun t k => st319 _ (XS.dup X319.here hx rfl (hb hby d9_205) rfl rfl (XS.iconst X319.here hx rfl (hb hby d9_206) (XS.aloadN X319.here hx rfl (hb hby d9_207) rfl rfl (XS.iconst X319.here hx rfl (hb hby d9_208) (getC X319 hx hZ e319 (hp_a.keep K320 nin0) (j := (1 : Int32)) (v := (.int b1)) ⟨by decide, by decide⟩ rfl (g := (mkF m 209 #[sr a1, si pn] [(.int 1), (.ref a1), (.int 1), (.ref b314), (.ref b314), (.ref b310), (.ref b310)])) rfl rfl (hb hby d9_209) k)))))) ?_
        obtain ⟨T325, h325, X325, e325, W325, V325, st325⟩ := putC X319 hx hZ e319 V319 (j := (1 : Int32)) (x := b1) (oj_c16 h_b1) ⟨by decide, by decide⟩ (i := 1) rfl (leB rfl) (g := (mkF m 210 #[sr a1, si pn] [(.int b1), (.int 1), (.ref b314), (.ref b314), (.ref b310), (.ref b310)])) rfl rfl (hb hby d9_210)
        have K326 : Keep h0 h325 [] := K320.wr W325 (Or.inr sz_b314)
        have N327 := Fr.snoc X325 N321 ge_b314
        have hkS := Nat.le_trans hkS (Keep.of_wr W325).1
        have C328 := C322.trans (CHr.wr W325 (safeArv hZ.alike V319 (by decide)) C322.1)
        have sf329 := Safe.wr W325 (safeArv hZ.alike V319 (by decide)) C322.1 sf323
        refine go (S' := T325.setTop (mkF m 216 #[sr a1, si pn] [(.int b2), (.int 2), (.ref b314), (.ref b314), (.ref b310), (.ref b310)])) (fun t k => st325 _ (XS.dup X325.here hx rfl (hb hby d9_211) rfl rfl (XS.iconst X325.here hx rfl (hb hby d9_212) (XS.aloadN X325.here hx rfl (hb hby d9_213) rfl rfl (XS.iconst X325.here hx rfl (hb hby d9_214) (getC X325 hx hZ e325 (hp_a.keep K326 nin0) (j := (2 : Int32)) (v := (.int b2)) ⟨by decide, by decide⟩ rfl (g := (mkF m 215 #[sr a1, si pn] [(.int 2), (.ref a1), (.int 2), (.ref b314), (.ref b314), (.ref b310), (.ref b310)])) rfl rfl (hb hby d9_215) k)))))) ?_
        obtain ⟨T331, h331, X331, e331, W331, V331, st331⟩ := putC X325 hx hZ e325 V325 (j := (2 : Int32)) (x := b2) (oj_c16 h_b2) ⟨by decide, by decide⟩ (i := 2) rfl (leB rfl) (g := (mkF m 216 #[sr a1, si pn] [(.int b2), (.int 2), (.ref b314), (.ref b314), (.ref b310), (.ref b310)])) rfl rfl (hb hby d9_216)
        have K332 : Keep h0 h331 [] := K326.wr W331 (Or.inr sz_b314)
        have N333 := Fr.snoc X331 N327 ge_b314
        have hkS := Nat.le_trans hkS (Keep.of_wr W331).1
        have C334 := C328.trans (CHr.wr W331 (safeArv hZ.alike V325 (by decide)) C328.1)
        have sf335 := Safe.wr W331 (safeArv hZ.alike V325 (by decide)) C328.1 sf329
        refine go (S' := T331.setTop (mkF m 222 #[sr a1, si pn] [(.int b3), (.int 3), (.ref b314), (.ref b314), (.ref b310), (.ref b310)])) (fun t k => st331 _ (XS.dup X331.here hx rfl (hb hby d9_217) rfl rfl (XS.iconst X331.here hx rfl (hb hby d9_218) (XS.aloadN X331.here hx rfl (hb hby d9_219) rfl rfl (XS.iconst X331.here hx rfl (hb hby d9_220) (getC X331 hx hZ e331 (hp_a.keep K332 nin0) (j := (3 : Int32)) (v := (.int b3)) ⟨by decide, by decide⟩ rfl (g := (mkF m 221 #[sr a1, si pn] [(.int 3), (.ref a1), (.int 3), (.ref b314), (.ref b314), (.ref b310), (.ref b310)])) rfl rfl (hb hby d9_221) k)))))) ?_
        obtain ⟨T337, h337, X337, e337, W337, V337, st337⟩ := putC X331 hx hZ e331 V331 (j := (3 : Int32)) (x := b3) (oj_c16 h_b3) ⟨by decide, by decide⟩ (i := 3) rfl (leB rfl) (g := (mkF m 222 #[sr a1, si pn] [(.int b3), (.int 3), (.ref b314), (.ref b314), (.ref b310), (.ref b310)])) rfl rfl (hb hby d9_222)
        have K338 : Keep h0 h337 [] := K332.wr W337 (Or.inr sz_b314)
        have N339 := Fr.snoc X337 N333 ge_b314
        have hkS := Nat.le_trans hkS (Keep.of_wr W337).1
        have C340 := C334.trans (CHr.wr W337 (safeArv hZ.alike V331 (by decide)) C334.1)
        have sf341 := Safe.wr W337 (safeArv hZ.alike V331 (by decide)) C334.1 sf335
        refine go (S' := T337.setTop (mkF m 228 #[sr a1, si pn] [(.int b4), (.int 4), (.ref b314), (.ref b314), (.ref b310), (.ref b310)])) (fun t k => st337 _ (XS.dup X337.here hx rfl (hb hby d9_223) rfl rfl (XS.iconst X337.here hx rfl (hb hby d9_224) (XS.aloadN X337.here hx rfl (hb hby d9_225) rfl rfl (XS.iconst X337.here hx rfl (hb hby d9_226) (getC X337 hx hZ e337 (hp_a.keep K338 nin0) (j := (4 : Int32)) (v := (.int b4)) ⟨by decide, by decide⟩ rfl (g := (mkF m 227 #[sr a1, si pn] [(.int 4), (.ref a1), (.int 4), (.ref b314), (.ref b314), (.ref b310), (.ref b310)])) rfl rfl (hb hby d9_227) k)))))) ?_
        obtain ⟨T343, h343, X343, e343, W343, V343, st343⟩ := putC X337 hx hZ e337 V337 (j := (4 : Int32)) (x := b4) (oj_c16 h_b4) ⟨by decide, by decide⟩ (i := 4) rfl (leB rfl) (g := (mkF m 228 #[sr a1, si pn] [(.int b4), (.int 4), (.ref b314), (.ref b314), (.ref b310), (.ref b310)])) rfl rfl (hb hby d9_228)
        have K344 : Keep h0 h343 [] := K338.wr W343 (Or.inr sz_b314)
        have N345 := Fr.snoc X343 N339 ge_b314
        have hkS := Nat.le_trans hkS (Keep.of_wr W343).1
        have C346 := C340.trans (CHr.wr W343 (safeArv hZ.alike V337 (by decide)) C340.1)
        have sf347 := Safe.wr W343 (safeArv hZ.alike V337 (by decide)) C340.1 sf341
        refine go (S' := T343.setTop (mkF m 234 #[sr a1, si pn] [(.int b5), (.int 5), (.ref b314), (.ref b314), (.ref b310), (.ref b310)])) (fun t k => st343 _ (XS.dup X343.here hx rfl (hb hby d9_229) rfl rfl (XS.iconst X343.here hx rfl (hb hby d9_230) (XS.aloadN X343.here hx rfl (hb hby d9_231) rfl rfl (XS.iconst X343.here hx rfl (hb hby d9_232) (getC X343 hx hZ e343 (hp_a.keep K344 nin0) (j := (5 : Int32)) (v := (.int b5)) ⟨by decide, by decide⟩ rfl (g := (mkF m 233 #[sr a1, si pn] [(.int 5), (.ref a1), (.int 5), (.ref b314), (.ref b314), (.ref b310), (.ref b310)])) rfl rfl (hb hby d9_233) k)))))) ?_
        obtain ⟨T349, h349, X349, e349, W349, V349, st349⟩ := putC X343 hx hZ e343 V343 (j := (5 : Int32)) (x := b5) (oj_c16 h_b5) ⟨by decide, by decide⟩ (i := 5) rfl (leB rfl) (g := (mkF m 234 #[sr a1, si pn] [(.int b5), (.int 5), (.ref b314), (.ref b314), (.ref b310), (.ref b310)])) rfl rfl (hb hby d9_234)
        have K350 : Keep h0 h349 [] := K344.wr W349 (Or.inr sz_b314)
        have N351 := Fr.snoc X349 N345 ge_b314
        have hkS := Nat.le_trans hkS (Keep.of_wr W349).1
        have C352 := C346.trans (CHr.wr W349 (safeArv hZ.alike V343 (by decide)) C346.1)
        have sf353 := Safe.wr W349 (safeArv hZ.alike V343 (by decide)) C346.1 sf347
        refine go (S' := T349.setTop (mkF m 235 #[sr a1, si pn] [(.ref b314), (.ref b310), (.ref b310)])) st349 ?_
        have f354 : Exa Z h349 b310 "java/lang/String" := (((((((A310.ext E314).wr W319).wr W325).wr W331).wr W337).wr W343).wr W349)
        have f355 : Fld Z h349 b310 "java/lang/String" "value" "[B" .null := (Fld.other W349 (Fld.other W343 (Fld.other W337 (Fld.other W331 (Fld.other W325 (Fld.other W319 ((D310 (Or.inr (ww hw 5 rfl)) (ty := (.array .byte)) (by decide)).ext E314) (Or.inl (Nat.ne_of_lt lt_b310_b314))) (Or.inl (Nat.ne_of_lt lt_b310_b314))) (Or.inl (Nat.ne_of_lt lt_b310_b314))) (Or.inl (Nat.ne_of_lt lt_b310_b314))) (Or.inl (Nat.ne_of_lt lt_b310_b314))) (Or.inl (Nat.ne_of_lt lt_b310_b314)))
        have f356 : Fld Z h349 b310 "java/lang/String" "coder" "B" (.int 0) := (Fld.other W349 (Fld.other W343 (Fld.other W337 (Fld.other W331 (Fld.other W325 (Fld.other W319 ((D310 (Or.inr (ww hw 6 rfl)) (ty := .byte) (by decide)).ext E314) (Or.inl (Nat.ne_of_lt lt_b310_b314))) (Or.inl (Nat.ne_of_lt lt_b310_b314))) (Or.inl (Nat.ne_of_lt lt_b310_b314))) (Or.inl (Nat.ne_of_lt lt_b310_b314))) (Or.inl (Nat.ne_of_lt lt_b310_b314))) (Or.inl (Nat.ne_of_lt lt_b310_b314)))
        have O357 : Old Z n0 h349 := O0.keep K350 all0
        obtain ⟨v358, T358, L358, X358, hQ358, st358⟩ := callSp X349 hx hZ (y := y_9) rfl hown (ww hw 57 rfl) (ww hw 58 rfl) (ww hw 59 rfl) (by decide) (backOf (W := 1) (rmInit1 l Z a0 hw [] b310 b314 (6 : Int32) k314 ([b0, b1, b2, b3, b4, b5] : List Int32) (.int 0) G1 h349 n0 (Nat.le_trans Z0 K350.1) V349 rfl (leB rfl) (leB rfl) (allI h_b0 (allI h_b1 (allI h_b2 (allI h_b3 (allI h_b4 (allI h_b5 (fun _ q => nomatch q))))))) f354 f355 f356 ge_b310 (Nat.ne_of_lt lt_b310_b314) hp5 hG1 hp7 hp8 hp9 O357) hZ (ww hw 59 rfl) (ww hw 2 rfl) (by decide) (by decide)) (g := (mkF m 235 #[sr a1, si pn] [(.ref b314), (.ref b310), (.ref b310)])) rfl (by rw [hml]; rfl) (a := b310) (kc := 2) (ks := 36) (argsL := [(.ref b314)]) (rest := [(.ref b310)]) (lenOf pd_10 rfl) rfl (mr0 rfl) (hb hby d9_235) e349 (by decide) (by decide)
        obtain ⟨t_358, cd_358, rfl, N358q, Kq358, q358_0, q358_1, q358_2⟩ := hQ358
        have N358 := Fr.app N351 N358q
        have hkS := Nat.le_trans hkS Kq358.1
        have C359 := C352.trans (CHr.keep Kq358 (allS sf353 all0) C352.1)
        have sf360 := Safe.keep Kq358 (allS sf353 all0) C352.1 sf353
        have K361 : Keep h0 T358.heap [] := K350.trans Kq358 (allS (P := fun x => x ∈ [] ∨ h0.size ≤ x) (Or.inr sz_b310) all0)
        have lt_a1_t_358 : a1 < t_358 := Nat.lt_of_lt_of_le (hp_a.keep K350 nin0).lt q358_0
        have lt_b310_t_358 : b310 < t_358 := Nat.lt_of_lt_of_le f354.lt q358_0
        have lt_b314_t_358 : b314 < t_358 := Nat.lt_of_lt_of_le V349.lt q358_0
        have sz_t_358 : h0.size ≤ t_358 := Nat.le_trans K350.1 q358_0
        have ge_t_358 : n0 ≤ t_358 := Nat.le_trans Z0 sz_t_358
        have ne_t_358_b310 := q358_1
        refine go (S' := T358.setTop (mkF m 238 #[sr a1, si pn] [(.ref b310)])) st358 ?_
        refine finRW X358 hx hk hret rfl rfl hS hkS hZ (own_EW hw) C359 rfl (hb hby d9_238) (by decide) (by decide) ?_
        have hnk : n = 6 := oj_inj (i := n) (n := 6) (by omega) (by omega) (hn.symm.trans (hc309.trans (rfl : (6 : Int32) = Int32.ofNat 6)))
        subst hnk
        exact ⟨b310, t_358, cd_358, rfl, N358, K361, sz_b310, q358_2⟩
       ·
        refine go (S' := T0.setTop (mkF m 242 #[sr a1, si pn] [(.int 7), (.int pn)])) (fun t k => XS.icmpYes X0.here hx rfl (pc0 := 188) (pc' := 239) rfl (hb hby d9_188) rfl (feq hc309).2 (by decide) (by decide) (XS.iloadN X0.here hx rfl (hb hby d9_239) rfl (XS.bipush X0.here hx rfl (hb hby d9_240) k))) ?_
        by_cases hc362 : pn = (7 : Int32)
        ·
         refine go (S' := T0.setTop (mkF m 245 #[sr a1, si pn] [])) (fun t k => XS.icmpNo X0.here hx rfl (hb hby d9_242) rfl (teq hc362).2 k) ?_
         obtain ⟨T363, h363, X363, e363, E363, A363, D363, -, st363⟩ := newO X0 hx hZ hown (ww hw 56 rfl) (ww hw 3 rfl) (ww hw 2 rfl) e0 (g := (mkF m 245 #[sr a1, si pn] [])) rfl (hb hby d9_245) (by decide) (by decide)
         obtain ⟨b363, g363⟩ : ∃ z, z = h0.size := ⟨_, rfl⟩
         rw [← g363] at A363 D363 st363
         have lt_a1_b363 : a1 < b363 := by rw [g363]; exact hp_a.lt
         have ge_b363 : n0 ≤ b363 := by rw [g363]; exact (Nat.le_trans Z0 K0.1)
         have sz_b363 : h0.size ≤ b363 := by rw [g363]; exact K0.1
         have K364 : Keep h0 h363 [] := K0.ext E363
         have hkS := Nat.le_trans hkS E363.1
         have C365 := C0.trans (CHr.ext E363 C0.1)
         have sf366 := Safe.ext E363 C0.1 (Safe.new (Nat.le_of_eq g363.symm))
         refine go (S' := T363.setTop (mkF m 251 #[sr a1, si pn] [(.int 7), (.ref b363), (.ref b363)])) (fun t k => st363 _ (XS.dup X363.here hx rfl (hb hby d9_248) rfl rfl (XS.bipush X363.here hx rfl (hb hby d9_249) k))) ?_
         obtain ⟨T367, h367, k367, X367, e367, E367, A367, st367⟩ := newP X363 hx hZ (ww hw 26 rfl) e363 (g := (mkF m 251 #[sr a1, si pn] [(.int 7), (.ref b363), (.ref b363)])) rfl (hb hby d9_251) rfl (by decide) (cap := 7) (by decide) (by decide) (by decide) (by decide)
         obtain ⟨b367, g367⟩ : ∃ z, z = h363.size := ⟨_, rfl⟩
         rw [← g367] at A367 st367
         have lt_a1_b367 : a1 < b367 := by rw [g367]; exact (hp_a.keep K364 nin0).lt
         have lt_b363_b367 : b363 < b367 := by rw [g367]; exact A363.lt
         have ge_b367 : n0 ≤ b367 := by rw [g367]; exact (Nat.le_trans Z0 K364.1)
         have sz_b367 : h0.size ≤ b367 := by rw [g367]; exact K364.1
         have K368 : Keep h0 h367 [] := K364.ext E367
         have hkS := Nat.le_trans hkS E367.1
         have C369 := C365.trans (CHr.ext E367 C365.1)
         have sf370 := Safe.ext E367 C365.1 sf366
         have V367 : Arv Z h367 b367 k367 .char (7 : Int32) [(.int 0), (.int 0), (.int 0), (.int 0), (.int 0), (.int 0), (.int 0)] (.int 0) := (Arv.new A367 (by decide)).pad (pad_rep [] (.int 0) 7)
         refine go (S' := T367.setTop (mkF m 258 #[sr a1, si pn] [(.int b0), (.int 0), (.ref b367), (.ref b367), (.ref b363), (.ref b363)])) (fun t k => st367 _ (XS.dup X367.here hx rfl (hb hby d9_253) rfl rfl (XS.iconst X367.here hx rfl (hb hby d9_254) (XS.aloadN X367.here hx rfl (hb hby d9_255) rfl rfl (XS.iconst X367.here hx rfl (hb hby d9_256) (getC X367 hx hZ e367 (hp_a.keep K368 nin0) (j := (0 : Int32)) (v := (.int b0)) ⟨by decide, by decide⟩ rfl (g := (mkF m 257 #[sr a1, si pn] [(.int 0), (.ref a1), (.int 0), (.ref b367), (.ref b367), (.ref b363), (.ref b363)])) rfl rfl (hb hby d9_257) k)))))) ?_
         obtain ⟨T372, h372, X372, e372, W372, V372, st372⟩ := putC X367 hx hZ e367 V367 (j := (0 : Int32)) (x := b0) (oj_c16 h_b0) ⟨by decide, by decide⟩ (i := 0) rfl (leB rfl) (g := (mkF m 258 #[sr a1, si pn] [(.int b0), (.int 0), (.ref b367), (.ref b367), (.ref b363), (.ref b363)])) rfl rfl (hb hby d9_258)
         have K373 : Keep h0 h372 [] := K368.wr W372 (Or.inr sz_b367)
         have N374 := Fr.snoc X372 N0 ge_b367
         have hkS := Nat.le_trans hkS (Keep.of_wr W372).1
         have C375 := C369.trans (CHr.wr W372 (safeArv hZ.alike V367 (by decide)) C369.1)
         have sf376 := Safe.wr W372 (safeArv hZ.alike V367 (by decide)) C369.1 sf370
         refine go (S' := T372.setTop (mkF m 264 #[sr a1, si pn] [(.int b1), (.int 1), (.ref b367), (.ref b367), (.ref b363), (.ref b363)])) (fun t k => st372 _ (XS.dup X372.here hx rfl (hb hby d9_259) rfl rfl (XS.iconst X372.here hx rfl (hb hby d9_260) (XS.aloadN X372.here hx rfl (hb hby d9_261) rfl rfl (XS.iconst X372.here hx rfl (hb hby d9_262) (getC X372 hx hZ e372 (hp_a.keep K373 nin0) (j := (1 : Int32)) (v := (.int b1)) ⟨by decide, by decide⟩ rfl (g := (mkF m 263 #[sr a1, si pn] [(.int 1), (.ref a1), (.int 1), (.ref b367), (.ref b367), (.ref b363), (.ref b363)])) rfl rfl (hb hby d9_263) k)))))) ?_
         obtain ⟨T378, h378, X378, e378, W378, V378, st378⟩ := putC X372 hx hZ e372 V372 (j := (1 : Int32)) (x := b1) (oj_c16 h_b1) ⟨by decide, by decide⟩ (i := 1) rfl (leB rfl) (g := (mkF m 264 #[sr a1, si pn] [(.int b1), (.int 1), (.ref b367), (.ref b367), (.ref b363), (.ref b363)])) rfl rfl (hb hby d9_264)
         have K379 : Keep h0 h378 [] := K373.wr W378 (Or.inr sz_b367)
         have N380 := Fr.snoc X378 N374 ge_b367
         have hkS := Nat.le_trans hkS (Keep.of_wr W378).1
         have C381 := C375.trans (CHr.wr W378 (safeArv hZ.alike V372 (by decide)) C375.1)
         have sf382 := Safe.wr W378 (safeArv hZ.alike V372 (by decide)) C375.1 sf376
         refine go (S' := T378.setTop (mkF m 270 #[sr a1, si pn] [(.int b2), (.int 2), (.ref b367), (.ref b367), (.ref b363), (.ref b363)])) (fun t k => st378 _ (XS.dup X378.here hx rfl (hb hby d9_265) rfl rfl (XS.iconst X378.here hx rfl (hb hby d9_266) (XS.aloadN X378.here hx rfl (hb hby d9_267) rfl rfl (XS.iconst X378.here hx rfl (hb hby d9_268) (getC X378 hx hZ e378 (hp_a.keep K379 nin0) (j := (2 : Int32)) (v := (.int b2)) ⟨by decide, by decide⟩ rfl (g := (mkF m 269 #[sr a1, si pn] [(.int 2), (.ref a1), (.int 2), (.ref b367), (.ref b367), (.ref b363), (.ref b363)])) rfl rfl (hb hby d9_269) k)))))) ?_
         obtain ⟨T384, h384, X384, e384, W384, V384, st384⟩ := putC X378 hx hZ e378 V378 (j := (2 : Int32)) (x := b2) (oj_c16 h_b2) ⟨by decide, by decide⟩ (i := 2) rfl (leB rfl) (g := (mkF m 270 #[sr a1, si pn] [(.int b2), (.int 2), (.ref b367), (.ref b367), (.ref b363), (.ref b363)])) rfl rfl (hb hby d9_270)
         have K385 : Keep h0 h384 [] := K379.wr W384 (Or.inr sz_b367)
         have N386 := Fr.snoc X384 N380 ge_b367
         have hkS := Nat.le_trans hkS (Keep.of_wr W384).1
         have C387 := C381.trans (CHr.wr W384 (safeArv hZ.alike V378 (by decide)) C381.1)
         have sf388 := Safe.wr W384 (safeArv hZ.alike V378 (by decide)) C381.1 sf382
         refine go (S' := T384.setTop (mkF m 276 #[sr a1, si pn] [(.int b3), (.int 3), (.ref b367), (.ref b367), (.ref b363), (.ref b363)])) (fun t k => st384 _ (XS.dup X384.here hx rfl (hb hby d9_271) rfl rfl (XS.iconst X384.here hx rfl (hb hby d9_272) (XS.aloadN X384.here hx rfl (hb hby d9_273) rfl rfl (XS.iconst X384.here hx rfl (hb hby d9_274) (getC X384 hx hZ e384 (hp_a.keep K385 nin0) (j := (3 : Int32)) (v := (.int b3)) ⟨by decide, by decide⟩ rfl (g := (mkF m 275 #[sr a1, si pn] [(.int 3), (.ref a1), (.int 3), (.ref b367), (.ref b367), (.ref b363), (.ref b363)])) rfl rfl (hb hby d9_275) k)))))) ?_
         obtain ⟨T390, h390, X390, e390, W390, V390, st390⟩ := putC X384 hx hZ e384 V384 (j := (3 : Int32)) (x := b3) (oj_c16 h_b3) ⟨by decide, by decide⟩ (i := 3) rfl (leB rfl) (g := (mkF m 276 #[sr a1, si pn] [(.int b3), (.int 3), (.ref b367), (.ref b367), (.ref b363), (.ref b363)])) rfl rfl (hb hby d9_276)
         have K391 : Keep h0 h390 [] := K385.wr W390 (Or.inr sz_b367)
         have N392 := Fr.snoc X390 N386 ge_b367
         have hkS := Nat.le_trans hkS (Keep.of_wr W390).1
         have C393 := C387.trans (CHr.wr W390 (safeArv hZ.alike V384 (by decide)) C387.1)
         have sf394 := Safe.wr W390 (safeArv hZ.alike V384 (by decide)) C387.1 sf388
         refine go (S' := T390.setTop (mkF m 282 #[sr a1, si pn] [(.int b4), (.int 4), (.ref b367), (.ref b367), (.ref b363), (.ref b363)])) (fun t k => st390 _ (XS.dup X390.here hx rfl (hb hby d9_277) rfl rfl (XS.iconst X390.here hx rfl (hb hby d9_278) (XS.aloadN X390.here hx rfl (hb hby d9_279) rfl rfl (XS.iconst X390.here hx rfl (hb hby d9_280) (getC X390 hx hZ e390 (hp_a.keep K391 nin0) (j := (4 : Int32)) (v := (.int b4)) ⟨by decide, by decide⟩ rfl (g := (mkF m 281 #[sr a1, si pn] [(.int 4), (.ref a1), (.int 4), (.ref b367), (.ref b367), (.ref b363), (.ref b363)])) rfl rfl (hb hby d9_281) k)))))) ?_
         obtain ⟨T396, h396, X396, e396, W396, V396, st396⟩ := putC X390 hx hZ e390 V390 (j := (4 : Int32)) (x := b4) (oj_c16 h_b4) ⟨by decide, by decide⟩ (i := 4) rfl (leB rfl) (g := (mkF m 282 #[sr a1, si pn] [(.int b4), (.int 4), (.ref b367), (.ref b367), (.ref b363), (.ref b363)])) rfl rfl (hb hby d9_282)
         have K397 : Keep h0 h396 [] := K391.wr W396 (Or.inr sz_b367)
         have N398 := Fr.snoc X396 N392 ge_b367
         have hkS := Nat.le_trans hkS (Keep.of_wr W396).1
         have C399 := C393.trans (CHr.wr W396 (safeArv hZ.alike V390 (by decide)) C393.1)
         have sf400 := Safe.wr W396 (safeArv hZ.alike V390 (by decide)) C393.1 sf394
         refine go (S' := T396.setTop (mkF m 288 #[sr a1, si pn] [(.int b5), (.int 5), (.ref b367), (.ref b367), (.ref b363), (.ref b363)])) (fun t k => st396 _ (XS.dup X396.here hx rfl (hb hby d9_283) rfl rfl (XS.iconst X396.here hx rfl (hb hby d9_284) (XS.aloadN X396.here hx rfl (hb hby d9_285) rfl rfl (XS.iconst X396.here hx rfl (hb hby d9_286) (getC X396 hx hZ e396 (hp_a.keep K397 nin0) (j := (5 : Int32)) (v := (.int b5)) ⟨by decide, by decide⟩ rfl (g := (mkF m 287 #[sr a1, si pn] [(.int 5), (.ref a1), (.int 5), (.ref b367), (.ref b367), (.ref b363), (.ref b363)])) rfl rfl (hb hby d9_287) k)))))) ?_
         obtain ⟨T402, h402, X402, e402, W402, V402, st402⟩ := putC X396 hx hZ e396 V396 (j := (5 : Int32)) (x := b5) (oj_c16 h_b5) ⟨by decide, by decide⟩ (i := 5) rfl (leB rfl) (g := (mkF m 288 #[sr a1, si pn] [(.int b5), (.int 5), (.ref b367), (.ref b367), (.ref b363), (.ref b363)])) rfl rfl (hb hby d9_288)
         have K403 : Keep h0 h402 [] := K397.wr W402 (Or.inr sz_b367)
         have N404 := Fr.snoc X402 N398 ge_b367
         have hkS := Nat.le_trans hkS (Keep.of_wr W402).1
         have C405 := C399.trans (CHr.wr W402 (safeArv hZ.alike V396 (by decide)) C399.1)
         have sf406 := Safe.wr W402 (safeArv hZ.alike V396 (by decide)) C399.1 sf400
         refine go (S' := T402.setTop (mkF m 296 #[sr a1, si pn] [(.int b6), (.int 6), (.ref b367), (.ref b367), (.ref b363), (.ref b363)])) (fun t k => st402 _ (XS.dup X402.here hx rfl (hb hby d9_289) rfl rfl (XS.bipush X402.here hx rfl (hb hby d9_290) (XS.aloadN X402.here hx rfl (hb hby d9_292) rfl rfl (XS.bipush X402.here hx rfl (hb hby d9_293) (getC X402 hx hZ e402 (hp_a.keep K403 nin0) (j := (6 : Int32)) (v := (.int b6)) ⟨by decide, by decide⟩ rfl (g := (mkF m 295 #[sr a1, si pn] [(.int 6), (.ref a1), (.int 6), (.ref b367), (.ref b367), (.ref b363), (.ref b363)])) rfl rfl (hb hby d9_295) k)))))) ?_
         obtain ⟨T408, h408, X408, e408, W408, V408, st408⟩ := putC X402 hx hZ e402 V402 (j := (6 : Int32)) (x := b6) (oj_c16 h_b6) ⟨by decide, by decide⟩ (i := 6) rfl (leB rfl) (g := (mkF m 296 #[sr a1, si pn] [(.int b6), (.int 6), (.ref b367), (.ref b367), (.ref b363), (.ref b363)])) rfl rfl (hb hby d9_296)
         have K409 : Keep h0 h408 [] := K403.wr W408 (Or.inr sz_b367)
         have N410 := Fr.snoc X408 N404 ge_b367
         have hkS := Nat.le_trans hkS (Keep.of_wr W408).1
         have C411 := C405.trans (CHr.wr W408 (safeArv hZ.alike V402 (by decide)) C405.1)
         have sf412 := Safe.wr W408 (safeArv hZ.alike V402 (by decide)) C405.1 sf406
         refine go (S' := T408.setTop (mkF m 297 #[sr a1, si pn] [(.ref b367), (.ref b363), (.ref b363)])) st408 ?_
         have f413 : Exa Z h408 b363 "java/lang/String" := ((((((((A363.ext E367).wr W372).wr W378).wr W384).wr W390).wr W396).wr W402).wr W408)
         have f414 : Fld Z h408 b363 "java/lang/String" "value" "[B" .null := (Fld.other W408 (Fld.other W402 (Fld.other W396 (Fld.other W390 (Fld.other W384 (Fld.other W378 (Fld.other W372 ((D363 (Or.inr (ww hw 5 rfl)) (ty := (.array .byte)) (by decide)).ext E367) (Or.inl (Nat.ne_of_lt lt_b363_b367))) (Or.inl (Nat.ne_of_lt lt_b363_b367))) (Or.inl (Nat.ne_of_lt lt_b363_b367))) (Or.inl (Nat.ne_of_lt lt_b363_b367))) (Or.inl (Nat.ne_of_lt lt_b363_b367))) (Or.inl (Nat.ne_of_lt lt_b363_b367))) (Or.inl (Nat.ne_of_lt lt_b363_b367)))
         have f415 : Fld Z h408 b363 "java/lang/String" "coder" "B" (.int 0) := (Fld.other W408 (Fld.other W402 (Fld.other W396 (Fld.other W390 (Fld.other W384 (Fld.other W378 (Fld.other W372 ((D363 (Or.inr (ww hw 6 rfl)) (ty := .byte) (by decide)).ext E367) (Or.inl (Nat.ne_of_lt lt_b363_b367))) (Or.inl (Nat.ne_of_lt lt_b363_b367))) (Or.inl (Nat.ne_of_lt lt_b363_b367))) (Or.inl (Nat.ne_of_lt lt_b363_b367))) (Or.inl (Nat.ne_of_lt lt_b363_b367))) (Or.inl (Nat.ne_of_lt lt_b363_b367))) (Or.inl (Nat.ne_of_lt lt_b363_b367)))
         have O416 : Old Z n0 h408 := O0.keep K409 all0
         obtain ⟨v417, T417, L417, X417, hQ417, st417⟩ := callSp X408 hx hZ (y := y_9) rfl hown (ww hw 57 rfl) (ww hw 58 rfl) (ww hw 59 rfl) (by decide) (backOf (W := 1) (rmInit1 l Z a0 hw [] b363 b367 (7 : Int32) k367 ([b0, b1, b2, b3, b4, b5, b6] : List Int32) (.int 0) G1 h408 n0 (Nat.le_trans Z0 K409.1) V408 rfl (leB rfl) (leB rfl) (allI h_b0 (allI h_b1 (allI h_b2 (allI h_b3 (allI h_b4 (allI h_b5 (allI h_b6 (fun _ q => nomatch q)))))))) f413 f414 f415 ge_b363 (Nat.ne_of_lt lt_b363_b367) hp5 hG1 hp7 hp8 hp9 O416) hZ (ww hw 59 rfl) (ww hw 2 rfl) (by decide) (by decide)) (g := (mkF m 297 #[sr a1, si pn] [(.ref b367), (.ref b363), (.ref b363)])) rfl (by rw [hml]; rfl) (a := b363) (kc := 2) (ks := 36) (argsL := [(.ref b367)]) (rest := [(.ref b363)]) (lenOf pd_10 rfl) rfl (mr0 rfl) (hb hby d9_297) e408 (by decide) (by decide)
         obtain ⟨t_417, cd_417, rfl, N417q, Kq417, q417_0, q417_1, q417_2⟩ := hQ417
         have N417 := Fr.app N410 N417q
         have hkS := Nat.le_trans hkS Kq417.1
         have C418 := C411.trans (CHr.keep Kq417 (allS sf412 all0) C411.1)
         have sf419 := Safe.keep Kq417 (allS sf412 all0) C411.1 sf412
         have K420 : Keep h0 T417.heap [] := K409.trans Kq417 (allS (P := fun x => x ∈ [] ∨ h0.size ≤ x) (Or.inr sz_b363) all0)
         have lt_a1_t_417 : a1 < t_417 := Nat.lt_of_lt_of_le (hp_a.keep K409 nin0).lt q417_0
         have lt_b363_t_417 : b363 < t_417 := Nat.lt_of_lt_of_le f413.lt q417_0
         have lt_b367_t_417 : b367 < t_417 := Nat.lt_of_lt_of_le V408.lt q417_0
         have sz_t_417 : h0.size ≤ t_417 := Nat.le_trans K409.1 q417_0
         have ge_t_417 : n0 ≤ t_417 := Nat.le_trans Z0 sz_t_417
         have ne_t_417_b363 := q417_1
         refine go (S' := T417.setTop (mkF m 300 #[sr a1, si pn] [(.ref b363)])) st417 ?_
         refine finRW X417 hx hk hret rfl rfl hS hkS hZ (own_EW hw) C418 rfl (hb hby d9_300) (by decide) (by decide) ?_
         have hnk : n = 7 := oj_inj (i := n) (n := 7) (by omega) (by omega) (hn.symm.trans (hc362.trans (rfl : (7 : Int32) = Int32.ofNat 7)))
         subst hnk
         exact ⟨b363, t_417, cd_417, rfl, N417, K420, sz_b363, q417_2⟩
        ·
         refine go (S' := T0.setTop (mkF m 304 #[sr a1, si pn] [(.int 8), (.int pn)])) (fun t k => XS.icmpYes X0.here hx rfl (pc0 := 242) (pc' := 301) rfl (hb hby d9_242) rfl (feq hc362).2 (by decide) (by decide) (XS.iloadN X0.here hx rfl (hb hby d9_301) rfl (XS.bipush X0.here hx rfl (hb hby d9_302) k))) ?_
         by_cases hc421 : pn = (8 : Int32)
         ·
          refine go (S' := T0.setTop (mkF m 307 #[sr a1, si pn] [])) (fun t k => XS.icmpNo X0.here hx rfl (hb hby d9_304) rfl (teq hc421).2 k) ?_
          obtain ⟨T422, h422, X422, e422, E422, A422, D422, -, st422⟩ := newO X0 hx hZ hown (ww hw 56 rfl) (ww hw 3 rfl) (ww hw 2 rfl) e0 (g := (mkF m 307 #[sr a1, si pn] [])) rfl (hb hby d9_307) (by decide) (by decide)
          obtain ⟨b422, g422⟩ : ∃ z, z = h0.size := ⟨_, rfl⟩
          rw [← g422] at A422 D422 st422
          have lt_a1_b422 : a1 < b422 := by rw [g422]; exact hp_a.lt
          have ge_b422 : n0 ≤ b422 := by rw [g422]; exact (Nat.le_trans Z0 K0.1)
          have sz_b422 : h0.size ≤ b422 := by rw [g422]; exact K0.1
          have K423 : Keep h0 h422 [] := K0.ext E422
          have hkS := Nat.le_trans hkS E422.1
          have C424 := C0.trans (CHr.ext E422 C0.1)
          have sf425 := Safe.ext E422 C0.1 (Safe.new (Nat.le_of_eq g422.symm))
          refine go (S' := T422.setTop (mkF m 313 #[sr a1, si pn] [(.int 8), (.ref b422), (.ref b422)])) (fun t k => st422 _ (XS.dup X422.here hx rfl (hb hby d9_310) rfl rfl (XS.bipush X422.here hx rfl (hb hby d9_311) k))) ?_
          obtain ⟨T426, h426, k426, X426, e426, E426, A426, st426⟩ := newP X422 hx hZ (ww hw 26 rfl) e422 (g := (mkF m 313 #[sr a1, si pn] [(.int 8), (.ref b422), (.ref b422)])) rfl (hb hby d9_313) rfl (by decide) (cap := 8) (by decide) (by decide) (by decide) (by decide)
          obtain ⟨b426, g426⟩ : ∃ z, z = h422.size := ⟨_, rfl⟩
          rw [← g426] at A426 st426
          have lt_a1_b426 : a1 < b426 := by rw [g426]; exact (hp_a.keep K423 nin0).lt
          have lt_b422_b426 : b422 < b426 := by rw [g426]; exact A422.lt
          have ge_b426 : n0 ≤ b426 := by rw [g426]; exact (Nat.le_trans Z0 K423.1)
          have sz_b426 : h0.size ≤ b426 := by rw [g426]; exact K423.1
          have K427 : Keep h0 h426 [] := K423.ext E426
          have hkS := Nat.le_trans hkS E426.1
          have C428 := C424.trans (CHr.ext E426 C424.1)
          have sf429 := Safe.ext E426 C424.1 sf425
          have V426 : Arv Z h426 b426 k426 .char (8 : Int32) [(.int 0), (.int 0), (.int 0), (.int 0), (.int 0), (.int 0), (.int 0), (.int 0)] (.int 0) := (Arv.new A426 (by decide)).pad (pad_rep [] (.int 0) 8)
          refine go (S' := T426.setTop (mkF m 320 #[sr a1, si pn] [(.int b0), (.int 0), (.ref b426), (.ref b426), (.ref b422), (.ref b422)])) (fun t k => st426 _ (XS.dup X426.here hx rfl (hb hby d9_315) rfl rfl (XS.iconst X426.here hx rfl (hb hby d9_316) (XS.aloadN X426.here hx rfl (hb hby d9_317) rfl rfl (XS.iconst X426.here hx rfl (hb hby d9_318) (getC X426 hx hZ e426 (hp_a.keep K427 nin0) (j := (0 : Int32)) (v := (.int b0)) ⟨by decide, by decide⟩ rfl (g := (mkF m 319 #[sr a1, si pn] [(.int 0), (.ref a1), (.int 0), (.ref b426), (.ref b426), (.ref b422), (.ref b422)])) rfl rfl (hb hby d9_319) k)))))) ?_
          obtain ⟨T431, h431, X431, e431, W431, V431, st431⟩ := putC X426 hx hZ e426 V426 (j := (0 : Int32)) (x := b0) (oj_c16 h_b0) ⟨by decide, by decide⟩ (i := 0) rfl (leB rfl) (g := (mkF m 320 #[sr a1, si pn] [(.int b0), (.int 0), (.ref b426), (.ref b426), (.ref b422), (.ref b422)])) rfl rfl (hb hby d9_320)
          have K432 : Keep h0 h431 [] := K427.wr W431 (Or.inr sz_b426)
          have N433 := Fr.snoc X431 N0 ge_b426
          have hkS := Nat.le_trans hkS (Keep.of_wr W431).1
          have C434 := C428.trans (CHr.wr W431 (safeArv hZ.alike V426 (by decide)) C428.1)
          have sf435 := Safe.wr W431 (safeArv hZ.alike V426 (by decide)) C428.1 sf429
          refine go (S' := T431.setTop (mkF m 326 #[sr a1, si pn] [(.int b1), (.int 1), (.ref b426), (.ref b426), (.ref b422), (.ref b422)])) (fun t k => st431 _ (XS.dup X431.here hx rfl (hb hby d9_321) rfl rfl (XS.iconst X431.here hx rfl (hb hby d9_322) (XS.aloadN X431.here hx rfl (hb hby d9_323) rfl rfl (XS.iconst X431.here hx rfl (hb hby d9_324) (getC X431 hx hZ e431 (hp_a.keep K432 nin0) (j := (1 : Int32)) (v := (.int b1)) ⟨by decide, by decide⟩ rfl (g := (mkF m 325 #[sr a1, si pn] [(.int 1), (.ref a1), (.int 1), (.ref b426), (.ref b426), (.ref b422), (.ref b422)])) rfl rfl (hb hby d9_325) k)))))) ?_
          obtain ⟨T437, h437, X437, e437, W437, V437, st437⟩ := putC X431 hx hZ e431 V431 (j := (1 : Int32)) (x := b1) (oj_c16 h_b1) ⟨by decide, by decide⟩ (i := 1) rfl (leB rfl) (g := (mkF m 326 #[sr a1, si pn] [(.int b1), (.int 1), (.ref b426), (.ref b426), (.ref b422), (.ref b422)])) rfl rfl (hb hby d9_326)
          have K438 : Keep h0 h437 [] := K432.wr W437 (Or.inr sz_b426)
          have N439 := Fr.snoc X437 N433 ge_b426
          have hkS := Nat.le_trans hkS (Keep.of_wr W437).1
          have C440 := C434.trans (CHr.wr W437 (safeArv hZ.alike V431 (by decide)) C434.1)
          have sf441 := Safe.wr W437 (safeArv hZ.alike V431 (by decide)) C434.1 sf435
          refine go (S' := T437.setTop (mkF m 332 #[sr a1, si pn] [(.int b2), (.int 2), (.ref b426), (.ref b426), (.ref b422), (.ref b422)])) (fun t k => st437 _ (XS.dup X437.here hx rfl (hb hby d9_327) rfl rfl (XS.iconst X437.here hx rfl (hb hby d9_328) (XS.aloadN X437.here hx rfl (hb hby d9_329) rfl rfl (XS.iconst X437.here hx rfl (hb hby d9_330) (getC X437 hx hZ e437 (hp_a.keep K438 nin0) (j := (2 : Int32)) (v := (.int b2)) ⟨by decide, by decide⟩ rfl (g := (mkF m 331 #[sr a1, si pn] [(.int 2), (.ref a1), (.int 2), (.ref b426), (.ref b426), (.ref b422), (.ref b422)])) rfl rfl (hb hby d9_331) k)))))) ?_
          obtain ⟨T443, h443, X443, e443, W443, V443, st443⟩ := putC X437 hx hZ e437 V437 (j := (2 : Int32)) (x := b2) (oj_c16 h_b2) ⟨by decide, by decide⟩ (i := 2) rfl (leB rfl) (g := (mkF m 332 #[sr a1, si pn] [(.int b2), (.int 2), (.ref b426), (.ref b426), (.ref b422), (.ref b422)])) rfl rfl (hb hby d9_332)
          have K444 : Keep h0 h443 [] := K438.wr W443 (Or.inr sz_b426)
          have N445 := Fr.snoc X443 N439 ge_b426
          have hkS := Nat.le_trans hkS (Keep.of_wr W443).1
          have C446 := C440.trans (CHr.wr W443 (safeArv hZ.alike V437 (by decide)) C440.1)
          have sf447 := Safe.wr W443 (safeArv hZ.alike V437 (by decide)) C440.1 sf441
          refine go (S' := T443.setTop (mkF m 338 #[sr a1, si pn] [(.int b3), (.int 3), (.ref b426), (.ref b426), (.ref b422), (.ref b422)])) (fun t k => st443 _ (XS.dup X443.here hx rfl (hb hby d9_333) rfl rfl (XS.iconst X443.here hx rfl (hb hby d9_334) (XS.aloadN X443.here hx rfl (hb hby d9_335) rfl rfl (XS.iconst X443.here hx rfl (hb hby d9_336) (getC X443 hx hZ e443 (hp_a.keep K444 nin0) (j := (3 : Int32)) (v := (.int b3)) ⟨by decide, by decide⟩ rfl (g := (mkF m 337 #[sr a1, si pn] [(.int 3), (.ref a1), (.int 3), (.ref b426), (.ref b426), (.ref b422), (.ref b422)])) rfl rfl (hb hby d9_337) k)))))) ?_
          obtain ⟨T449, h449, X449, e449, W449, V449, st449⟩ := putC X443 hx hZ e443 V443 (j := (3 : Int32)) (x := b3) (oj_c16 h_b3) ⟨by decide, by decide⟩ (i := 3) rfl (leB rfl) (g := (mkF m 338 #[sr a1, si pn] [(.int b3), (.int 3), (.ref b426), (.ref b426), (.ref b422), (.ref b422)])) rfl rfl (hb hby d9_338)
          have K450 : Keep h0 h449 [] := K444.wr W449 (Or.inr sz_b426)
          have N451 := Fr.snoc X449 N445 ge_b426
          have hkS := Nat.le_trans hkS (Keep.of_wr W449).1
          have C452 := C446.trans (CHr.wr W449 (safeArv hZ.alike V443 (by decide)) C446.1)
          have sf453 := Safe.wr W449 (safeArv hZ.alike V443 (by decide)) C446.1 sf447
          refine go (S' := T449.setTop (mkF m 344 #[sr a1, si pn] [(.int b4), (.int 4), (.ref b426), (.ref b426), (.ref b422), (.ref b422)])) (fun t k => st449 _ (XS.dup X449.here hx rfl (hb hby d9_339) rfl rfl (XS.iconst X449.here hx rfl (hb hby d9_340) (XS.aloadN X449.here hx rfl (hb hby d9_341) rfl rfl (XS.iconst X449.here hx rfl (hb hby d9_342) (getC X449 hx hZ e449 (hp_a.keep K450 nin0) (j := (4 : Int32)) (v := (.int b4)) ⟨by decide, by decide⟩ rfl (g := (mkF m 343 #[sr a1, si pn] [(.int 4), (.ref a1), (.int 4), (.ref b426), (.ref b426), (.ref b422), (.ref b422)])) rfl rfl (hb hby d9_343) k)))))) ?_
          obtain ⟨T455, h455, X455, e455, W455, V455, st455⟩ := putC X449 hx hZ e449 V449 (j := (4 : Int32)) (x := b4) (oj_c16 h_b4) ⟨by decide, by decide⟩ (i := 4) rfl (leB rfl) (g := (mkF m 344 #[sr a1, si pn] [(.int b4), (.int 4), (.ref b426), (.ref b426), (.ref b422), (.ref b422)])) rfl rfl (hb hby d9_344)
          have K456 : Keep h0 h455 [] := K450.wr W455 (Or.inr sz_b426)
          have N457 := Fr.snoc X455 N451 ge_b426
          have hkS := Nat.le_trans hkS (Keep.of_wr W455).1
          have C458 := C452.trans (CHr.wr W455 (safeArv hZ.alike V449 (by decide)) C452.1)
          have sf459 := Safe.wr W455 (safeArv hZ.alike V449 (by decide)) C452.1 sf453
          refine go (S' := T455.setTop (mkF m 350 #[sr a1, si pn] [(.int b5), (.int 5), (.ref b426), (.ref b426), (.ref b422), (.ref b422)])) (fun t k => st455 _ (XS.dup X455.here hx rfl (hb hby d9_345) rfl rfl (XS.iconst X455.here hx rfl (hb hby d9_346) (XS.aloadN X455.here hx rfl (hb hby d9_347) rfl rfl (XS.iconst X455.here hx rfl (hb hby d9_348) (getC X455 hx hZ e455 (hp_a.keep K456 nin0) (j := (5 : Int32)) (v := (.int b5)) ⟨by decide, by decide⟩ rfl (g := (mkF m 349 #[sr a1, si pn] [(.int 5), (.ref a1), (.int 5), (.ref b426), (.ref b426), (.ref b422), (.ref b422)])) rfl rfl (hb hby d9_349) k)))))) ?_
          obtain ⟨T461, h461, X461, e461, W461, V461, st461⟩ := putC X455 hx hZ e455 V455 (j := (5 : Int32)) (x := b5) (oj_c16 h_b5) ⟨by decide, by decide⟩ (i := 5) rfl (leB rfl) (g := (mkF m 350 #[sr a1, si pn] [(.int b5), (.int 5), (.ref b426), (.ref b426), (.ref b422), (.ref b422)])) rfl rfl (hb hby d9_350)
          have K462 : Keep h0 h461 [] := K456.wr W461 (Or.inr sz_b426)
          have N463 := Fr.snoc X461 N457 ge_b426
          have hkS := Nat.le_trans hkS (Keep.of_wr W461).1
          have C464 := C458.trans (CHr.wr W461 (safeArv hZ.alike V455 (by decide)) C458.1)
          have sf465 := Safe.wr W461 (safeArv hZ.alike V455 (by decide)) C458.1 sf459
          refine go (S' := T461.setTop (mkF m 358 #[sr a1, si pn] [(.int b6), (.int 6), (.ref b426), (.ref b426), (.ref b422), (.ref b422)])) (fun t k => st461 _ (XS.dup X461.here hx rfl (hb hby d9_351) rfl rfl (XS.bipush X461.here hx rfl (hb hby d9_352) (XS.aloadN X461.here hx rfl (hb hby d9_354) rfl rfl (XS.bipush X461.here hx rfl (hb hby d9_355) (getC X461 hx hZ e461 (hp_a.keep K462 nin0) (j := (6 : Int32)) (v := (.int b6)) ⟨by decide, by decide⟩ rfl (g := (mkF m 357 #[sr a1, si pn] [(.int 6), (.ref a1), (.int 6), (.ref b426), (.ref b426), (.ref b422), (.ref b422)])) rfl rfl (hb hby d9_357) k)))))) ?_
          obtain ⟨T467, h467, X467, e467, W467, V467, st467⟩ := putC X461 hx hZ e461 V461 (j := (6 : Int32)) (x := b6) (oj_c16 h_b6) ⟨by decide, by decide⟩ (i := 6) rfl (leB rfl) (g := (mkF m 358 #[sr a1, si pn] [(.int b6), (.int 6), (.ref b426), (.ref b426), (.ref b422), (.ref b422)])) rfl rfl (hb hby d9_358)
          have K468 : Keep h0 h467 [] := K462.wr W467 (Or.inr sz_b426)
          have N469 := Fr.snoc X467 N463 ge_b426
          have hkS := Nat.le_trans hkS (Keep.of_wr W467).1
          have C470 := C464.trans (CHr.wr W467 (safeArv hZ.alike V461 (by decide)) C464.1)
          have sf471 := Safe.wr W467 (safeArv hZ.alike V461 (by decide)) C464.1 sf465
          refine go (S' := T467.setTop (mkF m 366 #[sr a1, si pn] [(.int b7), (.int 7), (.ref b426), (.ref b426), (.ref b422), (.ref b422)])) (fun t k => st467 _ (XS.dup X467.here hx rfl (hb hby d9_359) rfl rfl (XS.bipush X467.here hx rfl (hb hby d9_360) (XS.aloadN X467.here hx rfl (hb hby d9_362) rfl rfl (XS.bipush X467.here hx rfl (hb hby d9_363) (getC X467 hx hZ e467 (hp_a.keep K468 nin0) (j := (7 : Int32)) (v := (.int b7)) ⟨by decide, by decide⟩ rfl (g := (mkF m 365 #[sr a1, si pn] [(.int 7), (.ref a1), (.int 7), (.ref b426), (.ref b426), (.ref b422), (.ref b422)])) rfl rfl (hb hby d9_365) k)))))) ?_
          obtain ⟨T473, h473, X473, e473, W473, V473, st473⟩ := putC X467 hx hZ e467 V467 (j := (7 : Int32)) (x := b7) (oj_c16 h_b7) ⟨by decide, by decide⟩ (i := 7) rfl (leB rfl) (g := (mkF m 366 #[sr a1, si pn] [(.int b7), (.int 7), (.ref b426), (.ref b426), (.ref b422), (.ref b422)])) rfl rfl (hb hby d9_366)
          have K474 : Keep h0 h473 [] := K468.wr W473 (Or.inr sz_b426)
          have N475 := Fr.snoc X473 N469 ge_b426
          have hkS := Nat.le_trans hkS (Keep.of_wr W473).1
          have C476 := C470.trans (CHr.wr W473 (safeArv hZ.alike V467 (by decide)) C470.1)
          have sf477 := Safe.wr W473 (safeArv hZ.alike V467 (by decide)) C470.1 sf471
          refine go (S' := T473.setTop (mkF m 367 #[sr a1, si pn] [(.ref b426), (.ref b422), (.ref b422)])) st473 ?_
          have f478 : Exa Z h473 b422 "java/lang/String" := (((((((((A422.ext E426).wr W431).wr W437).wr W443).wr W449).wr W455).wr W461).wr W467).wr W473)
          have f479 : Fld Z h473 b422 "java/lang/String" "value" "[B" .null := (Fld.other W473 (Fld.other W467 (Fld.other W461 (Fld.other W455 (Fld.other W449 (Fld.other W443 (Fld.other W437 (Fld.other W431 ((D422 (Or.inr (ww hw 5 rfl)) (ty := (.array .byte)) (by decide)).ext E426) (Or.inl (Nat.ne_of_lt lt_b422_b426))) (Or.inl (Nat.ne_of_lt lt_b422_b426))) (Or.inl (Nat.ne_of_lt lt_b422_b426))) (Or.inl (Nat.ne_of_lt lt_b422_b426))) (Or.inl (Nat.ne_of_lt lt_b422_b426))) (Or.inl (Nat.ne_of_lt lt_b422_b426))) (Or.inl (Nat.ne_of_lt lt_b422_b426))) (Or.inl (Nat.ne_of_lt lt_b422_b426)))
          have f480 : Fld Z h473 b422 "java/lang/String" "coder" "B" (.int 0) := (Fld.other W473 (Fld.other W467 (Fld.other W461 (Fld.other W455 (Fld.other W449 (Fld.other W443 (Fld.other W437 (Fld.other W431 ((D422 (Or.inr (ww hw 6 rfl)) (ty := .byte) (by decide)).ext E426) (Or.inl (Nat.ne_of_lt lt_b422_b426))) (Or.inl (Nat.ne_of_lt lt_b422_b426))) (Or.inl (Nat.ne_of_lt lt_b422_b426))) (Or.inl (Nat.ne_of_lt lt_b422_b426))) (Or.inl (Nat.ne_of_lt lt_b422_b426))) (Or.inl (Nat.ne_of_lt lt_b422_b426))) (Or.inl (Nat.ne_of_lt lt_b422_b426))) (Or.inl (Nat.ne_of_lt lt_b422_b426)))
          have O481 : Old Z n0 h473 := O0.keep K474 all0
          obtain ⟨v482, T482, L482, X482, hQ482, st482⟩ := callSp X473 hx hZ (y := y_9) rfl hown (ww hw 57 rfl) (ww hw 58 rfl) (ww hw 59 rfl) (by decide) (backOf (W := 1) (rmInit1 l Z a0 hw [] b422 b426 (8 : Int32) k426 ([b0, b1, b2, b3, b4, b5, b6, b7] : List Int32) (.int 0) G1 h473 n0 (Nat.le_trans Z0 K474.1) V473 rfl (leB rfl) (leB rfl) (allI h_b0 (allI h_b1 (allI h_b2 (allI h_b3 (allI h_b4 (allI h_b5 (allI h_b6 (allI h_b7 (fun _ q => nomatch q))))))))) f478 f479 f480 ge_b422 (Nat.ne_of_lt lt_b422_b426) hp5 hG1 hp7 hp8 hp9 O481) hZ (ww hw 59 rfl) (ww hw 2 rfl) (by decide) (by decide)) (g := (mkF m 367 #[sr a1, si pn] [(.ref b426), (.ref b422), (.ref b422)])) rfl (by rw [hml]; rfl) (a := b422) (kc := 2) (ks := 36) (argsL := [(.ref b426)]) (rest := [(.ref b422)]) (lenOf pd_10 rfl) rfl (mr0 rfl) (hb hby d9_367) e473 (by decide) (by decide)
          obtain ⟨t_482, cd_482, rfl, N482q, Kq482, q482_0, q482_1, q482_2⟩ := hQ482
          have N482 := Fr.app N475 N482q
          have hkS := Nat.le_trans hkS Kq482.1
          have C483 := C476.trans (CHr.keep Kq482 (allS sf477 all0) C476.1)
          have sf484 := Safe.keep Kq482 (allS sf477 all0) C476.1 sf477
          have K485 : Keep h0 T482.heap [] := K474.trans Kq482 (allS (P := fun x => x ∈ [] ∨ h0.size ≤ x) (Or.inr sz_b422) all0)
          have lt_a1_t_482 : a1 < t_482 := Nat.lt_of_lt_of_le (hp_a.keep K474 nin0).lt q482_0
          have lt_b422_t_482 : b422 < t_482 := Nat.lt_of_lt_of_le f478.lt q482_0
          have lt_b426_t_482 : b426 < t_482 := Nat.lt_of_lt_of_le V473.lt q482_0
          have sz_t_482 : h0.size ≤ t_482 := Nat.le_trans K474.1 q482_0
          have ge_t_482 : n0 ≤ t_482 := Nat.le_trans Z0 sz_t_482
          have ne_t_482_b422 := q482_1
          refine go (S' := T482.setTop (mkF m 370 #[sr a1, si pn] [(.ref b422)])) st482 ?_
          refine finRW X482 hx hk hret rfl rfl hS hkS hZ (own_EW hw) C483 rfl (hb hby d9_370) (by decide) (by decide) ?_
          have hnk : n = 8 := oj_inj (i := n) (n := 8) (by omega) (by omega) (hn.symm.trans (hc421.trans (rfl : (8 : Int32) = Int32.ofNat 8)))
          subst hnk
          exact ⟨b422, t_482, cd_482, rfl, N482, K485, sz_b422, q482_2⟩
         ·
          refine go (S' := T0.setTop (mkF m 374 #[sr a1, si pn] [(.int 9), (.int pn)])) (fun t k => XS.icmpYes X0.here hx rfl (pc0 := 304) (pc' := 371) rfl (hb hby d9_304) rfl (feq hc421).2 (by decide) (by decide) (XS.iloadN X0.here hx rfl (hb hby d9_371) rfl (XS.bipush X0.here hx rfl (hb hby d9_372) k))) ?_
          by_cases hc486 : pn = (9 : Int32)
          ·
           refine go (S' := T0.setTop (mkF m 377 #[sr a1, si pn] [])) (fun t k => XS.icmpNo X0.here hx rfl (hb hby d9_374) rfl (teq hc486).2 k) ?_
           obtain ⟨T487, h487, X487, e487, E487, A487, D487, -, st487⟩ := newO X0 hx hZ hown (ww hw 56 rfl) (ww hw 3 rfl) (ww hw 2 rfl) e0 (g := (mkF m 377 #[sr a1, si pn] [])) rfl (hb hby d9_377) (by decide) (by decide)
           obtain ⟨b487, g487⟩ : ∃ z, z = h0.size := ⟨_, rfl⟩
           rw [← g487] at A487 D487 st487
           have lt_a1_b487 : a1 < b487 := by rw [g487]; exact hp_a.lt
           have ge_b487 : n0 ≤ b487 := by rw [g487]; exact (Nat.le_trans Z0 K0.1)
           have sz_b487 : h0.size ≤ b487 := by rw [g487]; exact K0.1
           have K488 : Keep h0 h487 [] := K0.ext E487
           have hkS := Nat.le_trans hkS E487.1
           have C489 := C0.trans (CHr.ext E487 C0.1)
           have sf490 := Safe.ext E487 C0.1 (Safe.new (Nat.le_of_eq g487.symm))
           refine go (S' := T487.setTop (mkF m 383 #[sr a1, si pn] [(.int 9), (.ref b487), (.ref b487)])) (fun t k => st487 _ (XS.dup X487.here hx rfl (hb hby d9_380) rfl rfl (XS.bipush X487.here hx rfl (hb hby d9_381) k))) ?_
           obtain ⟨T491, h491, k491, X491, e491, E491, A491, st491⟩ := newP X487 hx hZ (ww hw 26 rfl) e487 (g := (mkF m 383 #[sr a1, si pn] [(.int 9), (.ref b487), (.ref b487)])) rfl (hb hby d9_383) rfl (by decide) (cap := 9) (by decide) (by decide) (by decide) (by decide)
           obtain ⟨b491, g491⟩ : ∃ z, z = h487.size := ⟨_, rfl⟩
           rw [← g491] at A491 st491
           have lt_a1_b491 : a1 < b491 := by rw [g491]; exact (hp_a.keep K488 nin0).lt
           have lt_b487_b491 : b487 < b491 := by rw [g491]; exact A487.lt
           have ge_b491 : n0 ≤ b491 := by rw [g491]; exact (Nat.le_trans Z0 K488.1)
           have sz_b491 : h0.size ≤ b491 := by rw [g491]; exact K488.1
           have K492 : Keep h0 h491 [] := K488.ext E491
           have hkS := Nat.le_trans hkS E491.1
           have C493 := C489.trans (CHr.ext E491 C489.1)
           have sf494 := Safe.ext E491 C489.1 sf490
           have V491 : Arv Z h491 b491 k491 .char (9 : Int32) [(.int 0), (.int 0), (.int 0), (.int 0), (.int 0), (.int 0), (.int 0), (.int 0), (.int 0)] (.int 0) := (Arv.new A491 (by decide)).pad (pad_rep [] (.int 0) 9)
           refine go (S' := T491.setTop (mkF m 390 #[sr a1, si pn] [(.int b0), (.int 0), (.ref b491), (.ref b491), (.ref b487), (.ref b487)])) (fun t k => st491 _ (XS.dup X491.here hx rfl (hb hby d9_385) rfl rfl (XS.iconst X491.here hx rfl (hb hby d9_386) (XS.aloadN X491.here hx rfl (hb hby d9_387) rfl rfl (XS.iconst X491.here hx rfl (hb hby d9_388) (getC X491 hx hZ e491 (hp_a.keep K492 nin0) (j := (0 : Int32)) (v := (.int b0)) ⟨by decide, by decide⟩ rfl (g := (mkF m 389 #[sr a1, si pn] [(.int 0), (.ref a1), (.int 0), (.ref b491), (.ref b491), (.ref b487), (.ref b487)])) rfl rfl (hb hby d9_389) k)))))) ?_
           obtain ⟨T496, h496, X496, e496, W496, V496, st496⟩ := putC X491 hx hZ e491 V491 (j := (0 : Int32)) (x := b0) (oj_c16 h_b0) ⟨by decide, by decide⟩ (i := 0) rfl (leB rfl) (g := (mkF m 390 #[sr a1, si pn] [(.int b0), (.int 0), (.ref b491), (.ref b491), (.ref b487), (.ref b487)])) rfl rfl (hb hby d9_390)
           have K497 : Keep h0 h496 [] := K492.wr W496 (Or.inr sz_b491)
           have N498 := Fr.snoc X496 N0 ge_b491
           have hkS := Nat.le_trans hkS (Keep.of_wr W496).1
           have C499 := C493.trans (CHr.wr W496 (safeArv hZ.alike V491 (by decide)) C493.1)
           have sf500 := Safe.wr W496 (safeArv hZ.alike V491 (by decide)) C493.1 sf494
           refine go (S' := T496.setTop (mkF m 396 #[sr a1, si pn] [(.int b1), (.int 1), (.ref b491), (.ref b491), (.ref b487), (.ref b487)])) (fun t k => st496 _ (XS.dup X496.here hx rfl (hb hby d9_391) rfl rfl (XS.iconst X496.here hx rfl (hb hby d9_392) (XS.aloadN X496.here hx rfl (hb hby d9_393) rfl rfl (XS.iconst X496.here hx rfl (hb hby d9_394) (getC X496 hx hZ e496 (hp_a.keep K497 nin0) (j := (1 : Int32)) (v := (.int b1)) ⟨by decide, by decide⟩ rfl (g := (mkF m 395 #[sr a1, si pn] [(.int 1), (.ref a1), (.int 1), (.ref b491), (.ref b491), (.ref b487), (.ref b487)])) rfl rfl (hb hby d9_395) k)))))) ?_
           obtain ⟨T502, h502, X502, e502, W502, V502, st502⟩ := putC X496 hx hZ e496 V496 (j := (1 : Int32)) (x := b1) (oj_c16 h_b1) ⟨by decide, by decide⟩ (i := 1) rfl (leB rfl) (g := (mkF m 396 #[sr a1, si pn] [(.int b1), (.int 1), (.ref b491), (.ref b491), (.ref b487), (.ref b487)])) rfl rfl (hb hby d9_396)
           have K503 : Keep h0 h502 [] := K497.wr W502 (Or.inr sz_b491)
           have N504 := Fr.snoc X502 N498 ge_b491
           have hkS := Nat.le_trans hkS (Keep.of_wr W502).1
           have C505 := C499.trans (CHr.wr W502 (safeArv hZ.alike V496 (by decide)) C499.1)
           have sf506 := Safe.wr W502 (safeArv hZ.alike V496 (by decide)) C499.1 sf500
           refine go (S' := T502.setTop (mkF m 402 #[sr a1, si pn] [(.int b2), (.int 2), (.ref b491), (.ref b491), (.ref b487), (.ref b487)])) (fun t k => st502 _ (XS.dup X502.here hx rfl (hb hby d9_397) rfl rfl (XS.iconst X502.here hx rfl (hb hby d9_398) (XS.aloadN X502.here hx rfl (hb hby d9_399) rfl rfl (XS.iconst X502.here hx rfl (hb hby d9_400) (getC X502 hx hZ e502 (hp_a.keep K503 nin0) (j := (2 : Int32)) (v := (.int b2)) ⟨by decide, by decide⟩ rfl (g := (mkF m 401 #[sr a1, si pn] [(.int 2), (.ref a1), (.int 2), (.ref b491), (.ref b491), (.ref b487), (.ref b487)])) rfl rfl (hb hby d9_401) k)))))) ?_
           obtain ⟨T508, h508, X508, e508, W508, V508, st508⟩ := putC X502 hx hZ e502 V502 (j := (2 : Int32)) (x := b2) (oj_c16 h_b2) ⟨by decide, by decide⟩ (i := 2) rfl (leB rfl) (g := (mkF m 402 #[sr a1, si pn] [(.int b2), (.int 2), (.ref b491), (.ref b491), (.ref b487), (.ref b487)])) rfl rfl (hb hby d9_402)
           have K509 : Keep h0 h508 [] := K503.wr W508 (Or.inr sz_b491)
           have N510 := Fr.snoc X508 N504 ge_b491
           have hkS := Nat.le_trans hkS (Keep.of_wr W508).1
           have C511 := C505.trans (CHr.wr W508 (safeArv hZ.alike V502 (by decide)) C505.1)
           have sf512 := Safe.wr W508 (safeArv hZ.alike V502 (by decide)) C505.1 sf506
           refine go (S' := T508.setTop (mkF m 408 #[sr a1, si pn] [(.int b3), (.int 3), (.ref b491), (.ref b491), (.ref b487), (.ref b487)])) (fun t k => st508 _ (XS.dup X508.here hx rfl (hb hby d9_403) rfl rfl (XS.iconst X508.here hx rfl (hb hby d9_404) (XS.aloadN X508.here hx rfl (hb hby d9_405) rfl rfl (XS.iconst X508.here hx rfl (hb hby d9_406) (getC X508 hx hZ e508 (hp_a.keep K509 nin0) (j := (3 : Int32)) (v := (.int b3)) ⟨by decide, by decide⟩ rfl (g := (mkF m 407 #[sr a1, si pn] [(.int 3), (.ref a1), (.int 3), (.ref b491), (.ref b491), (.ref b487), (.ref b487)])) rfl rfl (hb hby d9_407) k)))))) ?_
           obtain ⟨T514, h514, X514, e514, W514, V514, st514⟩ := putC X508 hx hZ e508 V508 (j := (3 : Int32)) (x := b3) (oj_c16 h_b3) ⟨by decide, by decide⟩ (i := 3) rfl (leB rfl) (g := (mkF m 408 #[sr a1, si pn] [(.int b3), (.int 3), (.ref b491), (.ref b491), (.ref b487), (.ref b487)])) rfl rfl (hb hby d9_408)
           have K515 : Keep h0 h514 [] := K509.wr W514 (Or.inr sz_b491)
           have N516 := Fr.snoc X514 N510 ge_b491
           have hkS := Nat.le_trans hkS (Keep.of_wr W514).1
           have C517 := C511.trans (CHr.wr W514 (safeArv hZ.alike V508 (by decide)) C511.1)
           have sf518 := Safe.wr W514 (safeArv hZ.alike V508 (by decide)) C511.1 sf512
           refine go (S' := T514.setTop (mkF m 414 #[sr a1, si pn] [(.int b4), (.int 4), (.ref b491), (.ref b491), (.ref b487), (.ref b487)])) (fun t k => st514 _ (XS.dup X514.here hx rfl (hb hby d9_409) rfl rfl (XS.iconst X514.here hx rfl (hb hby d9_410) (XS.aloadN X514.here hx rfl (hb hby d9_411) rfl rfl (XS.iconst X514.here hx rfl (hb hby d9_412) (getC X514 hx hZ e514 (hp_a.keep K515 nin0) (j := (4 : Int32)) (v := (.int b4)) ⟨by decide, by decide⟩ rfl (g := (mkF m 413 #[sr a1, si pn] [(.int 4), (.ref a1), (.int 4), (.ref b491), (.ref b491), (.ref b487), (.ref b487)])) rfl rfl (hb hby d9_413) k)))))) ?_
           obtain ⟨T520, h520, X520, e520, W520, V520, st520⟩ := putC X514 hx hZ e514 V514 (j := (4 : Int32)) (x := b4) (oj_c16 h_b4) ⟨by decide, by decide⟩ (i := 4) rfl (leB rfl) (g := (mkF m 414 #[sr a1, si pn] [(.int b4), (.int 4), (.ref b491), (.ref b491), (.ref b487), (.ref b487)])) rfl rfl (hb hby d9_414)
           have K521 : Keep h0 h520 [] := K515.wr W520 (Or.inr sz_b491)
           have N522 := Fr.snoc X520 N516 ge_b491
           have hkS := Nat.le_trans hkS (Keep.of_wr W520).1
           have C523 := C517.trans (CHr.wr W520 (safeArv hZ.alike V514 (by decide)) C517.1)
           have sf524 := Safe.wr W520 (safeArv hZ.alike V514 (by decide)) C517.1 sf518
           refine go (S' := T520.setTop (mkF m 420 #[sr a1, si pn] [(.int b5), (.int 5), (.ref b491), (.ref b491), (.ref b487), (.ref b487)])) (fun t k => st520 _ (XS.dup X520.here hx rfl (hb hby d9_415) rfl rfl (XS.iconst X520.here hx rfl (hb hby d9_416) (XS.aloadN X520.here hx rfl (hb hby d9_417) rfl rfl (XS.iconst X520.here hx rfl (hb hby d9_418) (getC X520 hx hZ e520 (hp_a.keep K521 nin0) (j := (5 : Int32)) (v := (.int b5)) ⟨by decide, by decide⟩ rfl (g := (mkF m 419 #[sr a1, si pn] [(.int 5), (.ref a1), (.int 5), (.ref b491), (.ref b491), (.ref b487), (.ref b487)])) rfl rfl (hb hby d9_419) k)))))) ?_
           obtain ⟨T526, h526, X526, e526, W526, V526, st526⟩ := putC X520 hx hZ e520 V520 (j := (5 : Int32)) (x := b5) (oj_c16 h_b5) ⟨by decide, by decide⟩ (i := 5) rfl (leB rfl) (g := (mkF m 420 #[sr a1, si pn] [(.int b5), (.int 5), (.ref b491), (.ref b491), (.ref b487), (.ref b487)])) rfl rfl (hb hby d9_420)
           have K527 : Keep h0 h526 [] := K521.wr W526 (Or.inr sz_b491)
           have N528 := Fr.snoc X526 N522 ge_b491
           have hkS := Nat.le_trans hkS (Keep.of_wr W526).1
           have C529 := C523.trans (CHr.wr W526 (safeArv hZ.alike V520 (by decide)) C523.1)
           have sf530 := Safe.wr W526 (safeArv hZ.alike V520 (by decide)) C523.1 sf524
           refine go (S' := T526.setTop (mkF m 428 #[sr a1, si pn] [(.int b6), (.int 6), (.ref b491), (.ref b491), (.ref b487), (.ref b487)])) (fun t k => st526 _ (XS.dup X526.here hx rfl (hb hby d9_421) rfl rfl (XS.bipush X526.here hx rfl (hb hby d9_422) (XS.aloadN X526.here hx rfl (hb hby d9_424) rfl rfl (XS.bipush X526.here hx rfl (hb hby d9_425) (getC X526 hx hZ e526 (hp_a.keep K527 nin0) (j := (6 : Int32)) (v := (.int b6)) ⟨by decide, by decide⟩ rfl (g := (mkF m 427 #[sr a1, si pn] [(.int 6), (.ref a1), (.int 6), (.ref b491), (.ref b491), (.ref b487), (.ref b487)])) rfl rfl (hb hby d9_427) k)))))) ?_
           obtain ⟨T532, h532, X532, e532, W532, V532, st532⟩ := putC X526 hx hZ e526 V526 (j := (6 : Int32)) (x := b6) (oj_c16 h_b6) ⟨by decide, by decide⟩ (i := 6) rfl (leB rfl) (g := (mkF m 428 #[sr a1, si pn] [(.int b6), (.int 6), (.ref b491), (.ref b491), (.ref b487), (.ref b487)])) rfl rfl (hb hby d9_428)
           have K533 : Keep h0 h532 [] := K527.wr W532 (Or.inr sz_b491)
           have N534 := Fr.snoc X532 N528 ge_b491
           have hkS := Nat.le_trans hkS (Keep.of_wr W532).1
           have C535 := C529.trans (CHr.wr W532 (safeArv hZ.alike V526 (by decide)) C529.1)
           have sf536 := Safe.wr W532 (safeArv hZ.alike V526 (by decide)) C529.1 sf530
           refine go (S' := T532.setTop (mkF m 436 #[sr a1, si pn] [(.int b7), (.int 7), (.ref b491), (.ref b491), (.ref b487), (.ref b487)])) (fun t k => st532 _ (XS.dup X532.here hx rfl (hb hby d9_429) rfl rfl (XS.bipush X532.here hx rfl (hb hby d9_430) (XS.aloadN X532.here hx rfl (hb hby d9_432) rfl rfl (XS.bipush X532.here hx rfl (hb hby d9_433) (getC X532 hx hZ e532 (hp_a.keep K533 nin0) (j := (7 : Int32)) (v := (.int b7)) ⟨by decide, by decide⟩ rfl (g := (mkF m 435 #[sr a1, si pn] [(.int 7), (.ref a1), (.int 7), (.ref b491), (.ref b491), (.ref b487), (.ref b487)])) rfl rfl (hb hby d9_435) k)))))) ?_
           obtain ⟨T538, h538, X538, e538, W538, V538, st538⟩ := putC X532 hx hZ e532 V532 (j := (7 : Int32)) (x := b7) (oj_c16 h_b7) ⟨by decide, by decide⟩ (i := 7) rfl (leB rfl) (g := (mkF m 436 #[sr a1, si pn] [(.int b7), (.int 7), (.ref b491), (.ref b491), (.ref b487), (.ref b487)])) rfl rfl (hb hby d9_436)
           have K539 : Keep h0 h538 [] := K533.wr W538 (Or.inr sz_b491)
           have N540 := Fr.snoc X538 N534 ge_b491
           have hkS := Nat.le_trans hkS (Keep.of_wr W538).1
           have C541 := C535.trans (CHr.wr W538 (safeArv hZ.alike V532 (by decide)) C535.1)
           have sf542 := Safe.wr W538 (safeArv hZ.alike V532 (by decide)) C535.1 sf536
           refine go (S' := T538.setTop (mkF m 444 #[sr a1, si pn] [(.int b8), (.int 8), (.ref b491), (.ref b491), (.ref b487), (.ref b487)])) (fun t k => st538 _ (XS.dup X538.here hx rfl (hb hby d9_437) rfl rfl (XS.bipush X538.here hx rfl (hb hby d9_438) (XS.aloadN X538.here hx rfl (hb hby d9_440) rfl rfl (XS.bipush X538.here hx rfl (hb hby d9_441) (getC X538 hx hZ e538 (hp_a.keep K539 nin0) (j := (8 : Int32)) (v := (.int b8)) ⟨by decide, by decide⟩ rfl (g := (mkF m 443 #[sr a1, si pn] [(.int 8), (.ref a1), (.int 8), (.ref b491), (.ref b491), (.ref b487), (.ref b487)])) rfl rfl (hb hby d9_443) k)))))) ?_
           obtain ⟨T544, h544, X544, e544, W544, V544, st544⟩ := putC X538 hx hZ e538 V538 (j := (8 : Int32)) (x := b8) (oj_c16 h_b8) ⟨by decide, by decide⟩ (i := 8) rfl (leB rfl) (g := (mkF m 444 #[sr a1, si pn] [(.int b8), (.int 8), (.ref b491), (.ref b491), (.ref b487), (.ref b487)])) rfl rfl (hb hby d9_444)
           have K545 : Keep h0 h544 [] := K539.wr W544 (Or.inr sz_b491)
           have N546 := Fr.snoc X544 N540 ge_b491
           have hkS := Nat.le_trans hkS (Keep.of_wr W544).1
           have C547 := C541.trans (CHr.wr W544 (safeArv hZ.alike V538 (by decide)) C541.1)
           have sf548 := Safe.wr W544 (safeArv hZ.alike V538 (by decide)) C541.1 sf542
           refine go (S' := T544.setTop (mkF m 445 #[sr a1, si pn] [(.ref b491), (.ref b487), (.ref b487)])) st544 ?_
           have f549 : Exa Z h544 b487 "java/lang/String" := ((((((((((A487.ext E491).wr W496).wr W502).wr W508).wr W514).wr W520).wr W526).wr W532).wr W538).wr W544)
           have f550 : Fld Z h544 b487 "java/lang/String" "value" "[B" .null := (Fld.other W544 (Fld.other W538 (Fld.other W532 (Fld.other W526 (Fld.other W520 (Fld.other W514 (Fld.other W508 (Fld.other W502 (Fld.other W496 ((D487 (Or.inr (ww hw 5 rfl)) (ty := (.array .byte)) (by decide)).ext E491) (Or.inl (Nat.ne_of_lt lt_b487_b491))) (Or.inl (Nat.ne_of_lt lt_b487_b491))) (Or.inl (Nat.ne_of_lt lt_b487_b491))) (Or.inl (Nat.ne_of_lt lt_b487_b491))) (Or.inl (Nat.ne_of_lt lt_b487_b491))) (Or.inl (Nat.ne_of_lt lt_b487_b491))) (Or.inl (Nat.ne_of_lt lt_b487_b491))) (Or.inl (Nat.ne_of_lt lt_b487_b491))) (Or.inl (Nat.ne_of_lt lt_b487_b491)))
           have f551 : Fld Z h544 b487 "java/lang/String" "coder" "B" (.int 0) := (Fld.other W544 (Fld.other W538 (Fld.other W532 (Fld.other W526 (Fld.other W520 (Fld.other W514 (Fld.other W508 (Fld.other W502 (Fld.other W496 ((D487 (Or.inr (ww hw 6 rfl)) (ty := .byte) (by decide)).ext E491) (Or.inl (Nat.ne_of_lt lt_b487_b491))) (Or.inl (Nat.ne_of_lt lt_b487_b491))) (Or.inl (Nat.ne_of_lt lt_b487_b491))) (Or.inl (Nat.ne_of_lt lt_b487_b491))) (Or.inl (Nat.ne_of_lt lt_b487_b491))) (Or.inl (Nat.ne_of_lt lt_b487_b491))) (Or.inl (Nat.ne_of_lt lt_b487_b491))) (Or.inl (Nat.ne_of_lt lt_b487_b491))) (Or.inl (Nat.ne_of_lt lt_b487_b491)))
           have O552 : Old Z n0 h544 := O0.keep K545 all0
           obtain ⟨v553, T553, L553, X553, hQ553, st553⟩ := callSp X544 hx hZ (y := y_9) rfl hown (ww hw 57 rfl) (ww hw 58 rfl) (ww hw 59 rfl) (by decide) (backOf (W := 1) (rmInit1 l Z a0 hw [] b487 b491 (9 : Int32) k491 ([b0, b1, b2, b3, b4, b5, b6, b7, b8] : List Int32) (.int 0) G1 h544 n0 (Nat.le_trans Z0 K545.1) V544 rfl (leB rfl) (leB rfl) (allI h_b0 (allI h_b1 (allI h_b2 (allI h_b3 (allI h_b4 (allI h_b5 (allI h_b6 (allI h_b7 (allI h_b8 (fun _ q => nomatch q)))))))))) f549 f550 f551 ge_b487 (Nat.ne_of_lt lt_b487_b491) hp5 hG1 hp7 hp8 hp9 O552) hZ (ww hw 59 rfl) (ww hw 2 rfl) (by decide) (by decide)) (g := (mkF m 445 #[sr a1, si pn] [(.ref b491), (.ref b487), (.ref b487)])) rfl (by rw [hml]; rfl) (a := b487) (kc := 2) (ks := 36) (argsL := [(.ref b491)]) (rest := [(.ref b487)]) (lenOf pd_10 rfl) rfl (mr0 rfl) (hb hby d9_445) e544 (by decide) (by decide)
           obtain ⟨t_553, cd_553, rfl, N553q, Kq553, q553_0, q553_1, q553_2⟩ := hQ553
           have N553 := Fr.app N546 N553q
           have hkS := Nat.le_trans hkS Kq553.1
           have C554 := C547.trans (CHr.keep Kq553 (allS sf548 all0) C547.1)
           have sf555 := Safe.keep Kq553 (allS sf548 all0) C547.1 sf548
           have K556 : Keep h0 T553.heap [] := K545.trans Kq553 (allS (P := fun x => x ∈ [] ∨ h0.size ≤ x) (Or.inr sz_b487) all0)
           have lt_a1_t_553 : a1 < t_553 := Nat.lt_of_lt_of_le (hp_a.keep K545 nin0).lt q553_0
           have lt_b487_t_553 : b487 < t_553 := Nat.lt_of_lt_of_le f549.lt q553_0
           have lt_b491_t_553 : b491 < t_553 := Nat.lt_of_lt_of_le V544.lt q553_0
           have sz_t_553 : h0.size ≤ t_553 := Nat.le_trans K545.1 q553_0
           have ge_t_553 : n0 ≤ t_553 := Nat.le_trans Z0 sz_t_553
           have ne_t_553_b487 := q553_1
           refine go (S' := T553.setTop (mkF m 448 #[sr a1, si pn] [(.ref b487)])) st553 ?_
           refine finRW X553 hx hk hret rfl rfl hS hkS hZ (own_EW hw) C554 rfl (hb hby d9_448) (by decide) (by decide) ?_
           have hnk : n = 9 := oj_inj (i := n) (n := 9) (by omega) (by omega) (hn.symm.trans (hc486.trans (rfl : (9 : Int32) = Int32.ofNat 9)))
           subst hnk
           exact ⟨b487, t_553, cd_553, rfl, N553, K556, sz_b487, q553_2⟩
          ·
           refine go (S' := T0.setTop (mkF m 452 #[sr a1, si pn] [(.int 10), (.int pn)])) (fun t k => XS.icmpYes X0.here hx rfl (pc0 := 374) (pc' := 449) rfl (hb hby d9_374) rfl (feq hc486).2 (by decide) (by decide) (XS.iloadN X0.here hx rfl (hb hby d9_449) rfl (XS.bipush X0.here hx rfl (hb hby d9_450) k))) ?_
           by_cases hc557 : pn = (10 : Int32)
           ·
            refine go (S' := T0.setTop (mkF m 455 #[sr a1, si pn] [])) (fun t k => XS.icmpNo X0.here hx rfl (hb hby d9_452) rfl (teq hc557).2 k) ?_
            obtain ⟨T558, h558, X558, e558, E558, A558, D558, -, st558⟩ := newO X0 hx hZ hown (ww hw 56 rfl) (ww hw 3 rfl) (ww hw 2 rfl) e0 (g := (mkF m 455 #[sr a1, si pn] [])) rfl (hb hby d9_455) (by decide) (by decide)
            obtain ⟨b558, g558⟩ : ∃ z, z = h0.size := ⟨_, rfl⟩
            rw [← g558] at A558 D558 st558
            have lt_a1_b558 : a1 < b558 := by rw [g558]; exact hp_a.lt
            have ge_b558 : n0 ≤ b558 := by rw [g558]; exact (Nat.le_trans Z0 K0.1)
            have sz_b558 : h0.size ≤ b558 := by rw [g558]; exact K0.1
            have K559 : Keep h0 h558 [] := K0.ext E558
            have hkS := Nat.le_trans hkS E558.1
            have C560 := C0.trans (CHr.ext E558 C0.1)
            have sf561 := Safe.ext E558 C0.1 (Safe.new (Nat.le_of_eq g558.symm))
            refine go (S' := T558.setTop (mkF m 461 #[sr a1, si pn] [(.int 10), (.ref b558), (.ref b558)])) (fun t k => st558 _ (XS.dup X558.here hx rfl (hb hby d9_458) rfl rfl (XS.bipush X558.here hx rfl (hb hby d9_459) k))) ?_
            obtain ⟨T562, h562, k562, X562, e562, E562, A562, st562⟩ := newP X558 hx hZ (ww hw 26 rfl) e558 (g := (mkF m 461 #[sr a1, si pn] [(.int 10), (.ref b558), (.ref b558)])) rfl (hb hby d9_461) rfl (by decide) (cap := 10) (by decide) (by decide) (by decide) (by decide)
            obtain ⟨b562, g562⟩ : ∃ z, z = h558.size := ⟨_, rfl⟩
            rw [← g562] at A562 st562
            have lt_a1_b562 : a1 < b562 := by rw [g562]; exact (hp_a.keep K559 nin0).lt
            have lt_b558_b562 : b558 < b562 := by rw [g562]; exact A558.lt
            have ge_b562 : n0 ≤ b562 := by rw [g562]; exact (Nat.le_trans Z0 K559.1)
            have sz_b562 : h0.size ≤ b562 := by rw [g562]; exact K559.1
            have K563 : Keep h0 h562 [] := K559.ext E562
            have hkS := Nat.le_trans hkS E562.1
            have C564 := C560.trans (CHr.ext E562 C560.1)
            have sf565 := Safe.ext E562 C560.1 sf561
            have V562 : Arv Z h562 b562 k562 .char (10 : Int32) [(.int 0), (.int 0), (.int 0), (.int 0), (.int 0), (.int 0), (.int 0), (.int 0), (.int 0), (.int 0)] (.int 0) := (Arv.new A562 (by decide)).pad (pad_rep [] (.int 0) 10)
            refine go (S' := T562.setTop (mkF m 468 #[sr a1, si pn] [(.int b0), (.int 0), (.ref b562), (.ref b562), (.ref b558), (.ref b558)])) (fun t k => st562 _ (XS.dup X562.here hx rfl (hb hby d9_463) rfl rfl (XS.iconst X562.here hx rfl (hb hby d9_464) (XS.aloadN X562.here hx rfl (hb hby d9_465) rfl rfl (XS.iconst X562.here hx rfl (hb hby d9_466) (getC X562 hx hZ e562 (hp_a.keep K563 nin0) (j := (0 : Int32)) (v := (.int b0)) ⟨by decide, by decide⟩ rfl (g := (mkF m 467 #[sr a1, si pn] [(.int 0), (.ref a1), (.int 0), (.ref b562), (.ref b562), (.ref b558), (.ref b558)])) rfl rfl (hb hby d9_467) k)))))) ?_
            obtain ⟨T567, h567, X567, e567, W567, V567, st567⟩ := putC X562 hx hZ e562 V562 (j := (0 : Int32)) (x := b0) (oj_c16 h_b0) ⟨by decide, by decide⟩ (i := 0) rfl (leB rfl) (g := (mkF m 468 #[sr a1, si pn] [(.int b0), (.int 0), (.ref b562), (.ref b562), (.ref b558), (.ref b558)])) rfl rfl (hb hby d9_468)
            have K568 : Keep h0 h567 [] := K563.wr W567 (Or.inr sz_b562)
            have N569 := Fr.snoc X567 N0 ge_b562
            have hkS := Nat.le_trans hkS (Keep.of_wr W567).1
            have C570 := C564.trans (CHr.wr W567 (safeArv hZ.alike V562 (by decide)) C564.1)
            have sf571 := Safe.wr W567 (safeArv hZ.alike V562 (by decide)) C564.1 sf565
            refine go (S' := T567.setTop (mkF m 474 #[sr a1, si pn] [(.int b1), (.int 1), (.ref b562), (.ref b562), (.ref b558), (.ref b558)])) (fun t k => st567 _ (XS.dup X567.here hx rfl (hb hby d9_469) rfl rfl (XS.iconst X567.here hx rfl (hb hby d9_470) (XS.aloadN X567.here hx rfl (hb hby d9_471) rfl rfl (XS.iconst X567.here hx rfl (hb hby d9_472) (getC X567 hx hZ e567 (hp_a.keep K568 nin0) (j := (1 : Int32)) (v := (.int b1)) ⟨by decide, by decide⟩ rfl (g := (mkF m 473 #[sr a1, si pn] [(.int 1), (.ref a1), (.int 1), (.ref b562), (.ref b562), (.ref b558), (.ref b558)])) rfl rfl (hb hby d9_473) k)))))) ?_
            obtain ⟨T573, h573, X573, e573, W573, V573, st573⟩ := putC X567 hx hZ e567 V567 (j := (1 : Int32)) (x := b1) (oj_c16 h_b1) ⟨by decide, by decide⟩ (i := 1) rfl (leB rfl) (g := (mkF m 474 #[sr a1, si pn] [(.int b1), (.int 1), (.ref b562), (.ref b562), (.ref b558), (.ref b558)])) rfl rfl (hb hby d9_474)
            have K574 : Keep h0 h573 [] := K568.wr W573 (Or.inr sz_b562)
            have N575 := Fr.snoc X573 N569 ge_b562
            have hkS := Nat.le_trans hkS (Keep.of_wr W573).1
            have C576 := C570.trans (CHr.wr W573 (safeArv hZ.alike V567 (by decide)) C570.1)
            have sf577 := Safe.wr W573 (safeArv hZ.alike V567 (by decide)) C570.1 sf571
            refine go (S' := T573.setTop (mkF m 480 #[sr a1, si pn] [(.int b2), (.int 2), (.ref b562), (.ref b562), (.ref b558), (.ref b558)])) (fun t k => st573 _ (XS.dup X573.here hx rfl (hb hby d9_475) rfl rfl (XS.iconst X573.here hx rfl (hb hby d9_476) (XS.aloadN X573.here hx rfl (hb hby d9_477) rfl rfl (XS.iconst X573.here hx rfl (hb hby d9_478) (getC X573 hx hZ e573 (hp_a.keep K574 nin0) (j := (2 : Int32)) (v := (.int b2)) ⟨by decide, by decide⟩ rfl (g := (mkF m 479 #[sr a1, si pn] [(.int 2), (.ref a1), (.int 2), (.ref b562), (.ref b562), (.ref b558), (.ref b558)])) rfl rfl (hb hby d9_479) k)))))) ?_
            obtain ⟨T579, h579, X579, e579, W579, V579, st579⟩ := putC X573 hx hZ e573 V573 (j := (2 : Int32)) (x := b2) (oj_c16 h_b2) ⟨by decide, by decide⟩ (i := 2) rfl (leB rfl) (g := (mkF m 480 #[sr a1, si pn] [(.int b2), (.int 2), (.ref b562), (.ref b562), (.ref b558), (.ref b558)])) rfl rfl (hb hby d9_480)
            have K580 : Keep h0 h579 [] := K574.wr W579 (Or.inr sz_b562)
            have N581 := Fr.snoc X579 N575 ge_b562
            have hkS := Nat.le_trans hkS (Keep.of_wr W579).1
            have C582 := C576.trans (CHr.wr W579 (safeArv hZ.alike V573 (by decide)) C576.1)
            have sf583 := Safe.wr W579 (safeArv hZ.alike V573 (by decide)) C576.1 sf577
            refine go (S' := T579.setTop (mkF m 486 #[sr a1, si pn] [(.int b3), (.int 3), (.ref b562), (.ref b562), (.ref b558), (.ref b558)])) (fun t k => st579 _ (XS.dup X579.here hx rfl (hb hby d9_481) rfl rfl (XS.iconst X579.here hx rfl (hb hby d9_482) (XS.aloadN X579.here hx rfl (hb hby d9_483) rfl rfl (XS.iconst X579.here hx rfl (hb hby d9_484) (getC X579 hx hZ e579 (hp_a.keep K580 nin0) (j := (3 : Int32)) (v := (.int b3)) ⟨by decide, by decide⟩ rfl (g := (mkF m 485 #[sr a1, si pn] [(.int 3), (.ref a1), (.int 3), (.ref b562), (.ref b562), (.ref b558), (.ref b558)])) rfl rfl (hb hby d9_485) k)))))) ?_
            obtain ⟨T585, h585, X585, e585, W585, V585, st585⟩ := putC X579 hx hZ e579 V579 (j := (3 : Int32)) (x := b3) (oj_c16 h_b3) ⟨by decide, by decide⟩ (i := 3) rfl (leB rfl) (g := (mkF m 486 #[sr a1, si pn] [(.int b3), (.int 3), (.ref b562), (.ref b562), (.ref b558), (.ref b558)])) rfl rfl (hb hby d9_486)
            have K586 : Keep h0 h585 [] := K580.wr W585 (Or.inr sz_b562)
            have N587 := Fr.snoc X585 N581 ge_b562
            have hkS := Nat.le_trans hkS (Keep.of_wr W585).1
            have C588 := C582.trans (CHr.wr W585 (safeArv hZ.alike V579 (by decide)) C582.1)
            have sf589 := Safe.wr W585 (safeArv hZ.alike V579 (by decide)) C582.1 sf583
            refine go (S' := T585.setTop (mkF m 492 #[sr a1, si pn] [(.int b4), (.int 4), (.ref b562), (.ref b562), (.ref b558), (.ref b558)])) (fun t k => st585 _ (XS.dup X585.here hx rfl (hb hby d9_487) rfl rfl (XS.iconst X585.here hx rfl (hb hby d9_488) (XS.aloadN X585.here hx rfl (hb hby d9_489) rfl rfl (XS.iconst X585.here hx rfl (hb hby d9_490) (getC X585 hx hZ e585 (hp_a.keep K586 nin0) (j := (4 : Int32)) (v := (.int b4)) ⟨by decide, by decide⟩ rfl (g := (mkF m 491 #[sr a1, si pn] [(.int 4), (.ref a1), (.int 4), (.ref b562), (.ref b562), (.ref b558), (.ref b558)])) rfl rfl (hb hby d9_491) k)))))) ?_
            obtain ⟨T591, h591, X591, e591, W591, V591, st591⟩ := putC X585 hx hZ e585 V585 (j := (4 : Int32)) (x := b4) (oj_c16 h_b4) ⟨by decide, by decide⟩ (i := 4) rfl (leB rfl) (g := (mkF m 492 #[sr a1, si pn] [(.int b4), (.int 4), (.ref b562), (.ref b562), (.ref b558), (.ref b558)])) rfl rfl (hb hby d9_492)
            have K592 : Keep h0 h591 [] := K586.wr W591 (Or.inr sz_b562)
            have N593 := Fr.snoc X591 N587 ge_b562
            have hkS := Nat.le_trans hkS (Keep.of_wr W591).1
            have C594 := C588.trans (CHr.wr W591 (safeArv hZ.alike V585 (by decide)) C588.1)
            have sf595 := Safe.wr W591 (safeArv hZ.alike V585 (by decide)) C588.1 sf589
            refine go (S' := T591.setTop (mkF m 498 #[sr a1, si pn] [(.int b5), (.int 5), (.ref b562), (.ref b562), (.ref b558), (.ref b558)])) (fun t k => st591 _ (XS.dup X591.here hx rfl (hb hby d9_493) rfl rfl (XS.iconst X591.here hx rfl (hb hby d9_494) (XS.aloadN X591.here hx rfl (hb hby d9_495) rfl rfl (XS.iconst X591.here hx rfl (hb hby d9_496) (getC X591 hx hZ e591 (hp_a.keep K592 nin0) (j := (5 : Int32)) (v := (.int b5)) ⟨by decide, by decide⟩ rfl (g := (mkF m 497 #[sr a1, si pn] [(.int 5), (.ref a1), (.int 5), (.ref b562), (.ref b562), (.ref b558), (.ref b558)])) rfl rfl (hb hby d9_497) k)))))) ?_
            obtain ⟨T597, h597, X597, e597, W597, V597, st597⟩ := putC X591 hx hZ e591 V591 (j := (5 : Int32)) (x := b5) (oj_c16 h_b5) ⟨by decide, by decide⟩ (i := 5) rfl (leB rfl) (g := (mkF m 498 #[sr a1, si pn] [(.int b5), (.int 5), (.ref b562), (.ref b562), (.ref b558), (.ref b558)])) rfl rfl (hb hby d9_498)
            have K598 : Keep h0 h597 [] := K592.wr W597 (Or.inr sz_b562)
            have N599 := Fr.snoc X597 N593 ge_b562
            have hkS := Nat.le_trans hkS (Keep.of_wr W597).1
            have C600 := C594.trans (CHr.wr W597 (safeArv hZ.alike V591 (by decide)) C594.1)
            have sf601 := Safe.wr W597 (safeArv hZ.alike V591 (by decide)) C594.1 sf595
            refine go (S' := T597.setTop (mkF m 506 #[sr a1, si pn] [(.int b6), (.int 6), (.ref b562), (.ref b562), (.ref b558), (.ref b558)])) (fun t k => st597 _ (XS.dup X597.here hx rfl (hb hby d9_499) rfl rfl (XS.bipush X597.here hx rfl (hb hby d9_500) (XS.aloadN X597.here hx rfl (hb hby d9_502) rfl rfl (XS.bipush X597.here hx rfl (hb hby d9_503) (getC X597 hx hZ e597 (hp_a.keep K598 nin0) (j := (6 : Int32)) (v := (.int b6)) ⟨by decide, by decide⟩ rfl (g := (mkF m 505 #[sr a1, si pn] [(.int 6), (.ref a1), (.int 6), (.ref b562), (.ref b562), (.ref b558), (.ref b558)])) rfl rfl (hb hby d9_505) k)))))) ?_
            obtain ⟨T603, h603, X603, e603, W603, V603, st603⟩ := putC X597 hx hZ e597 V597 (j := (6 : Int32)) (x := b6) (oj_c16 h_b6) ⟨by decide, by decide⟩ (i := 6) rfl (leB rfl) (g := (mkF m 506 #[sr a1, si pn] [(.int b6), (.int 6), (.ref b562), (.ref b562), (.ref b558), (.ref b558)])) rfl rfl (hb hby d9_506)
            have K604 : Keep h0 h603 [] := K598.wr W603 (Or.inr sz_b562)
            have N605 := Fr.snoc X603 N599 ge_b562
            have hkS := Nat.le_trans hkS (Keep.of_wr W603).1
            have C606 := C600.trans (CHr.wr W603 (safeArv hZ.alike V597 (by decide)) C600.1)
            have sf607 := Safe.wr W603 (safeArv hZ.alike V597 (by decide)) C600.1 sf601
            refine go (S' := T603.setTop (mkF m 514 #[sr a1, si pn] [(.int b7), (.int 7), (.ref b562), (.ref b562), (.ref b558), (.ref b558)])) (fun t k => st603 _ (XS.dup X603.here hx rfl (hb hby d9_507) rfl rfl (XS.bipush X603.here hx rfl (hb hby d9_508) (XS.aloadN X603.here hx rfl (hb hby d9_510) rfl rfl (XS.bipush X603.here hx rfl (hb hby d9_511) (getC X603 hx hZ e603 (hp_a.keep K604 nin0) (j := (7 : Int32)) (v := (.int b7)) ⟨by decide, by decide⟩ rfl (g := (mkF m 513 #[sr a1, si pn] [(.int 7), (.ref a1), (.int 7), (.ref b562), (.ref b562), (.ref b558), (.ref b558)])) rfl rfl (hb hby d9_513) k)))))) ?_
            obtain ⟨T609, h609, X609, e609, W609, V609, st609⟩ := putC X603 hx hZ e603 V603 (j := (7 : Int32)) (x := b7) (oj_c16 h_b7) ⟨by decide, by decide⟩ (i := 7) rfl (leB rfl) (g := (mkF m 514 #[sr a1, si pn] [(.int b7), (.int 7), (.ref b562), (.ref b562), (.ref b558), (.ref b558)])) rfl rfl (hb hby d9_514)
            have K610 : Keep h0 h609 [] := K604.wr W609 (Or.inr sz_b562)
            have N611 := Fr.snoc X609 N605 ge_b562
            have hkS := Nat.le_trans hkS (Keep.of_wr W609).1
            have C612 := C606.trans (CHr.wr W609 (safeArv hZ.alike V603 (by decide)) C606.1)
            have sf613 := Safe.wr W609 (safeArv hZ.alike V603 (by decide)) C606.1 sf607
            refine go (S' := T609.setTop (mkF m 522 #[sr a1, si pn] [(.int b8), (.int 8), (.ref b562), (.ref b562), (.ref b558), (.ref b558)])) (fun t k => st609 _ (XS.dup X609.here hx rfl (hb hby d9_515) rfl rfl (XS.bipush X609.here hx rfl (hb hby d9_516) (XS.aloadN X609.here hx rfl (hb hby d9_518) rfl rfl (XS.bipush X609.here hx rfl (hb hby d9_519) (getC X609 hx hZ e609 (hp_a.keep K610 nin0) (j := (8 : Int32)) (v := (.int b8)) ⟨by decide, by decide⟩ rfl (g := (mkF m 521 #[sr a1, si pn] [(.int 8), (.ref a1), (.int 8), (.ref b562), (.ref b562), (.ref b558), (.ref b558)])) rfl rfl (hb hby d9_521) k)))))) ?_
            obtain ⟨T615, h615, X615, e615, W615, V615, st615⟩ := putC X609 hx hZ e609 V609 (j := (8 : Int32)) (x := b8) (oj_c16 h_b8) ⟨by decide, by decide⟩ (i := 8) rfl (leB rfl) (g := (mkF m 522 #[sr a1, si pn] [(.int b8), (.int 8), (.ref b562), (.ref b562), (.ref b558), (.ref b558)])) rfl rfl (hb hby d9_522)
            have K616 : Keep h0 h615 [] := K610.wr W615 (Or.inr sz_b562)
            have N617 := Fr.snoc X615 N611 ge_b562
            have hkS := Nat.le_trans hkS (Keep.of_wr W615).1
            have C618 := C612.trans (CHr.wr W615 (safeArv hZ.alike V609 (by decide)) C612.1)
            have sf619 := Safe.wr W615 (safeArv hZ.alike V609 (by decide)) C612.1 sf613
            refine go (S' := T615.setTop (mkF m 530 #[sr a1, si pn] [(.int b9), (.int 9), (.ref b562), (.ref b562), (.ref b558), (.ref b558)])) (fun t k => st615 _ (XS.dup X615.here hx rfl (hb hby d9_523) rfl rfl (XS.bipush X615.here hx rfl (hb hby d9_524) (XS.aloadN X615.here hx rfl (hb hby d9_526) rfl rfl (XS.bipush X615.here hx rfl (hb hby d9_527) (getC X615 hx hZ e615 (hp_a.keep K616 nin0) (j := (9 : Int32)) (v := (.int b9)) ⟨by decide, by decide⟩ rfl (g := (mkF m 529 #[sr a1, si pn] [(.int 9), (.ref a1), (.int 9), (.ref b562), (.ref b562), (.ref b558), (.ref b558)])) rfl rfl (hb hby d9_529) k)))))) ?_
            obtain ⟨T621, h621, X621, e621, W621, V621, st621⟩ := putC X615 hx hZ e615 V615 (j := (9 : Int32)) (x := b9) (oj_c16 h_b9) ⟨by decide, by decide⟩ (i := 9) rfl (leB rfl) (g := (mkF m 530 #[sr a1, si pn] [(.int b9), (.int 9), (.ref b562), (.ref b562), (.ref b558), (.ref b558)])) rfl rfl (hb hby d9_530)
            have K622 : Keep h0 h621 [] := K616.wr W621 (Or.inr sz_b562)
            have N623 := Fr.snoc X621 N617 ge_b562
            have hkS := Nat.le_trans hkS (Keep.of_wr W621).1
            have C624 := C618.trans (CHr.wr W621 (safeArv hZ.alike V615 (by decide)) C618.1)
            have sf625 := Safe.wr W621 (safeArv hZ.alike V615 (by decide)) C618.1 sf619
            refine go (S' := T621.setTop (mkF m 531 #[sr a1, si pn] [(.ref b562), (.ref b558), (.ref b558)])) st621 ?_
            have f626 : Exa Z h621 b558 "java/lang/String" := (((((((((((A558.ext E562).wr W567).wr W573).wr W579).wr W585).wr W591).wr W597).wr W603).wr W609).wr W615).wr W621)
            have f627 : Fld Z h621 b558 "java/lang/String" "value" "[B" .null := (Fld.other W621 (Fld.other W615 (Fld.other W609 (Fld.other W603 (Fld.other W597 (Fld.other W591 (Fld.other W585 (Fld.other W579 (Fld.other W573 (Fld.other W567 ((D558 (Or.inr (ww hw 5 rfl)) (ty := (.array .byte)) (by decide)).ext E562) (Or.inl (Nat.ne_of_lt lt_b558_b562))) (Or.inl (Nat.ne_of_lt lt_b558_b562))) (Or.inl (Nat.ne_of_lt lt_b558_b562))) (Or.inl (Nat.ne_of_lt lt_b558_b562))) (Or.inl (Nat.ne_of_lt lt_b558_b562))) (Or.inl (Nat.ne_of_lt lt_b558_b562))) (Or.inl (Nat.ne_of_lt lt_b558_b562))) (Or.inl (Nat.ne_of_lt lt_b558_b562))) (Or.inl (Nat.ne_of_lt lt_b558_b562))) (Or.inl (Nat.ne_of_lt lt_b558_b562)))
            have f628 : Fld Z h621 b558 "java/lang/String" "coder" "B" (.int 0) := (Fld.other W621 (Fld.other W615 (Fld.other W609 (Fld.other W603 (Fld.other W597 (Fld.other W591 (Fld.other W585 (Fld.other W579 (Fld.other W573 (Fld.other W567 ((D558 (Or.inr (ww hw 6 rfl)) (ty := .byte) (by decide)).ext E562) (Or.inl (Nat.ne_of_lt lt_b558_b562))) (Or.inl (Nat.ne_of_lt lt_b558_b562))) (Or.inl (Nat.ne_of_lt lt_b558_b562))) (Or.inl (Nat.ne_of_lt lt_b558_b562))) (Or.inl (Nat.ne_of_lt lt_b558_b562))) (Or.inl (Nat.ne_of_lt lt_b558_b562))) (Or.inl (Nat.ne_of_lt lt_b558_b562))) (Or.inl (Nat.ne_of_lt lt_b558_b562))) (Or.inl (Nat.ne_of_lt lt_b558_b562))) (Or.inl (Nat.ne_of_lt lt_b558_b562)))
            have O629 : Old Z n0 h621 := O0.keep K622 all0
            obtain ⟨v630, T630, L630, X630, hQ630, st630⟩ := callSp X621 hx hZ (y := y_9) rfl hown (ww hw 57 rfl) (ww hw 58 rfl) (ww hw 59 rfl) (by decide) (backOf (W := 1) (rmInit1 l Z a0 hw [] b558 b562 (10 : Int32) k562 ([b0, b1, b2, b3, b4, b5, b6, b7, b8, b9] : List Int32) (.int 0) G1 h621 n0 (Nat.le_trans Z0 K622.1) V621 rfl (leB rfl) (leB rfl) (allI h_b0 (allI h_b1 (allI h_b2 (allI h_b3 (allI h_b4 (allI h_b5 (allI h_b6 (allI h_b7 (allI h_b8 (allI h_b9 (fun _ q => nomatch q))))))))))) f626 f627 f628 ge_b558 (Nat.ne_of_lt lt_b558_b562) hp5 hG1 hp7 hp8 hp9 O629) hZ (ww hw 59 rfl) (ww hw 2 rfl) (by decide) (by decide)) (g := (mkF m 531 #[sr a1, si pn] [(.ref b562), (.ref b558), (.ref b558)])) rfl (by rw [hml]; rfl) (a := b558) (kc := 2) (ks := 36) (argsL := [(.ref b562)]) (rest := [(.ref b558)]) (lenOf pd_10 rfl) rfl (mr0 rfl) (hb hby d9_531) e621 (by decide) (by decide)
            obtain ⟨t_630, cd_630, rfl, N630q, Kq630, q630_0, q630_1, q630_2⟩ := hQ630
            have N630 := Fr.app N623 N630q
            have hkS := Nat.le_trans hkS Kq630.1
            have C631 := C624.trans (CHr.keep Kq630 (allS sf625 all0) C624.1)
            have sf632 := Safe.keep Kq630 (allS sf625 all0) C624.1 sf625
            have K633 : Keep h0 T630.heap [] := K622.trans Kq630 (allS (P := fun x => x ∈ [] ∨ h0.size ≤ x) (Or.inr sz_b558) all0)
            have lt_a1_t_630 : a1 < t_630 := Nat.lt_of_lt_of_le (hp_a.keep K622 nin0).lt q630_0
            have lt_b558_t_630 : b558 < t_630 := Nat.lt_of_lt_of_le f626.lt q630_0
            have lt_b562_t_630 : b562 < t_630 := Nat.lt_of_lt_of_le V621.lt q630_0
            have sz_t_630 : h0.size ≤ t_630 := Nat.le_trans K622.1 q630_0
            have ge_t_630 : n0 ≤ t_630 := Nat.le_trans Z0 sz_t_630
            have ne_t_630_b558 := q630_1
            refine go (S' := T630.setTop (mkF m 534 #[sr a1, si pn] [(.ref b558)])) st630 ?_
            refine finRW X630 hx hk hret rfl rfl hS hkS hZ (own_EW hw) C631 rfl (hb hby d9_534) (by decide) (by decide) ?_
            have hnk : n = 10 := oj_inj (i := n) (n := 10) (by omega) (by omega) (hn.symm.trans (hc557.trans (rfl : (10 : Int32) = Int32.ofNat 10)))
            subst hnk
            exact ⟨b558, t_630, cd_630, rfl, N630, K633, sz_b558, q630_2⟩
           ·
            refine go (S' := T0.setTop (mkF m 535 #[sr a1, si pn] [])) (fun t k => XS.icmpYes X0.here hx rfl (pc0 := 452) (pc' := 535) rfl (hb hby d9_452) rfl (feq hc557).2 (by decide) (by decide) k) ?_
            obtain ⟨T634, h634, X634, e634, E634, A634, D634, -, st634⟩ := newO X0 hx hZ hown (ww hw 56 rfl) (ww hw 3 rfl) (ww hw 2 rfl) e0 (g := (mkF m 535 #[sr a1, si pn] [])) rfl (hb hby d9_535) (by decide) (by decide)
            obtain ⟨b634, g634⟩ : ∃ z, z = h0.size := ⟨_, rfl⟩
            rw [← g634] at A634 D634 st634
            have lt_a1_b634 : a1 < b634 := by rw [g634]; exact hp_a.lt
            have ge_b634 : n0 ≤ b634 := by rw [g634]; exact (Nat.le_trans Z0 K0.1)
            have sz_b634 : h0.size ≤ b634 := by rw [g634]; exact K0.1
            have K635 : Keep h0 h634 [] := K0.ext E634
            have hkS := Nat.le_trans hkS E634.1
            have C636 := C0.trans (CHr.ext E634 C0.1)
            have sf637 := Safe.ext E634 C0.1 (Safe.new (Nat.le_of_eq g634.symm))
            refine go (S' := T634.setTop (mkF m 541 #[sr a1, si pn] [(.int 11), (.ref b634), (.ref b634)])) (fun t k => st634 _ (XS.dup X634.here hx rfl (hb hby d9_538) rfl rfl (XS.bipush X634.here hx rfl (hb hby d9_539) k))) ?_
            obtain ⟨T638, h638, k638, X638, e638, E638, A638, st638⟩ := newP X634 hx hZ (ww hw 26 rfl) e634 (g := (mkF m 541 #[sr a1, si pn] [(.int 11), (.ref b634), (.ref b634)])) rfl (hb hby d9_541) rfl (by decide) (cap := 11) (by decide) (by decide) (by decide) (by decide)
            obtain ⟨b638, g638⟩ : ∃ z, z = h634.size := ⟨_, rfl⟩
            rw [← g638] at A638 st638
            have lt_a1_b638 : a1 < b638 := by rw [g638]; exact (hp_a.keep K635 nin0).lt
            have lt_b634_b638 : b634 < b638 := by rw [g638]; exact A634.lt
            have ge_b638 : n0 ≤ b638 := by rw [g638]; exact (Nat.le_trans Z0 K635.1)
            have sz_b638 : h0.size ≤ b638 := by rw [g638]; exact K635.1
            have K639 : Keep h0 h638 [] := K635.ext E638
            have hkS := Nat.le_trans hkS E638.1
            have C640 := C636.trans (CHr.ext E638 C636.1)
            have sf641 := Safe.ext E638 C636.1 sf637
            have V638 : Arv Z h638 b638 k638 .char (11 : Int32) [(.int 0), (.int 0), (.int 0), (.int 0), (.int 0), (.int 0), (.int 0), (.int 0), (.int 0), (.int 0), (.int 0)] (.int 0) := (Arv.new A638 (by decide)).pad (pad_rep [] (.int 0) 11)
            refine go (S' := T638.setTop (mkF m 548 #[sr a1, si pn] [(.int b0), (.int 0), (.ref b638), (.ref b638), (.ref b634), (.ref b634)])) (fun t k => st638 _ (XS.dup X638.here hx rfl (hb hby d9_543) rfl rfl (XS.iconst X638.here hx rfl (hb hby d9_544) (XS.aloadN X638.here hx rfl (hb hby d9_545) rfl rfl (XS.iconst X638.here hx rfl (hb hby d9_546) (getC X638 hx hZ e638 (hp_a.keep K639 nin0) (j := (0 : Int32)) (v := (.int b0)) ⟨by decide, by decide⟩ rfl (g := (mkF m 547 #[sr a1, si pn] [(.int 0), (.ref a1), (.int 0), (.ref b638), (.ref b638), (.ref b634), (.ref b634)])) rfl rfl (hb hby d9_547) k)))))) ?_
            obtain ⟨T643, h643, X643, e643, W643, V643, st643⟩ := putC X638 hx hZ e638 V638 (j := (0 : Int32)) (x := b0) (oj_c16 h_b0) ⟨by decide, by decide⟩ (i := 0) rfl (leB rfl) (g := (mkF m 548 #[sr a1, si pn] [(.int b0), (.int 0), (.ref b638), (.ref b638), (.ref b634), (.ref b634)])) rfl rfl (hb hby d9_548)
            have K644 : Keep h0 h643 [] := K639.wr W643 (Or.inr sz_b638)
            have N645 := Fr.snoc X643 N0 ge_b638
            have hkS := Nat.le_trans hkS (Keep.of_wr W643).1
            have C646 := C640.trans (CHr.wr W643 (safeArv hZ.alike V638 (by decide)) C640.1)
            have sf647 := Safe.wr W643 (safeArv hZ.alike V638 (by decide)) C640.1 sf641
            refine go (S' := T643.setTop (mkF m 554 #[sr a1, si pn] [(.int b1), (.int 1), (.ref b638), (.ref b638), (.ref b634), (.ref b634)])) (fun t k => st643 _ (XS.dup X643.here hx rfl (hb hby d9_549) rfl rfl (XS.iconst X643.here hx rfl (hb hby d9_550) (XS.aloadN X643.here hx rfl (hb hby d9_551) rfl rfl (XS.iconst X643.here hx rfl (hb hby d9_552) (getC X643 hx hZ e643 (hp_a.keep K644 nin0) (j := (1 : Int32)) (v := (.int b1)) ⟨by decide, by decide⟩ rfl (g := (mkF m 553 #[sr a1, si pn] [(.int 1), (.ref a1), (.int 1), (.ref b638), (.ref b638), (.ref b634), (.ref b634)])) rfl rfl (hb hby d9_553) k)))))) ?_
            obtain ⟨T649, h649, X649, e649, W649, V649, st649⟩ := putC X643 hx hZ e643 V643 (j := (1 : Int32)) (x := b1) (oj_c16 h_b1) ⟨by decide, by decide⟩ (i := 1) rfl (leB rfl) (g := (mkF m 554 #[sr a1, si pn] [(.int b1), (.int 1), (.ref b638), (.ref b638), (.ref b634), (.ref b634)])) rfl rfl (hb hby d9_554)
            have K650 : Keep h0 h649 [] := K644.wr W649 (Or.inr sz_b638)
            have N651 := Fr.snoc X649 N645 ge_b638
            have hkS := Nat.le_trans hkS (Keep.of_wr W649).1
            have C652 := C646.trans (CHr.wr W649 (safeArv hZ.alike V643 (by decide)) C646.1)
            have sf653 := Safe.wr W649 (safeArv hZ.alike V643 (by decide)) C646.1 sf647
            refine go (S' := T649.setTop (mkF m 560 #[sr a1, si pn] [(.int b2), (.int 2), (.ref b638), (.ref b638), (.ref b634), (.ref b634)])) (fun t k => st649 _ (XS.dup X649.here hx rfl (hb hby d9_555) rfl rfl (XS.iconst X649.here hx rfl (hb hby d9_556) (XS.aloadN X649.here hx rfl (hb hby d9_557) rfl rfl (XS.iconst X649.here hx rfl (hb hby d9_558) (getC X649 hx hZ e649 (hp_a.keep K650 nin0) (j := (2 : Int32)) (v := (.int b2)) ⟨by decide, by decide⟩ rfl (g := (mkF m 559 #[sr a1, si pn] [(.int 2), (.ref a1), (.int 2), (.ref b638), (.ref b638), (.ref b634), (.ref b634)])) rfl rfl (hb hby d9_559) k)))))) ?_
            obtain ⟨T655, h655, X655, e655, W655, V655, st655⟩ := putC X649 hx hZ e649 V649 (j := (2 : Int32)) (x := b2) (oj_c16 h_b2) ⟨by decide, by decide⟩ (i := 2) rfl (leB rfl) (g := (mkF m 560 #[sr a1, si pn] [(.int b2), (.int 2), (.ref b638), (.ref b638), (.ref b634), (.ref b634)])) rfl rfl (hb hby d9_560)
            have K656 : Keep h0 h655 [] := K650.wr W655 (Or.inr sz_b638)
            have N657 := Fr.snoc X655 N651 ge_b638
            have hkS := Nat.le_trans hkS (Keep.of_wr W655).1
            have C658 := C652.trans (CHr.wr W655 (safeArv hZ.alike V649 (by decide)) C652.1)
            have sf659 := Safe.wr W655 (safeArv hZ.alike V649 (by decide)) C652.1 sf653
            refine go (S' := T655.setTop (mkF m 566 #[sr a1, si pn] [(.int b3), (.int 3), (.ref b638), (.ref b638), (.ref b634), (.ref b634)])) (fun t k => st655 _ (XS.dup X655.here hx rfl (hb hby d9_561) rfl rfl (XS.iconst X655.here hx rfl (hb hby d9_562) (XS.aloadN X655.here hx rfl (hb hby d9_563) rfl rfl (XS.iconst X655.here hx rfl (hb hby d9_564) (getC X655 hx hZ e655 (hp_a.keep K656 nin0) (j := (3 : Int32)) (v := (.int b3)) ⟨by decide, by decide⟩ rfl (g := (mkF m 565 #[sr a1, si pn] [(.int 3), (.ref a1), (.int 3), (.ref b638), (.ref b638), (.ref b634), (.ref b634)])) rfl rfl (hb hby d9_565) k)))))) ?_
            obtain ⟨T661, h661, X661, e661, W661, V661, st661⟩ := putC X655 hx hZ e655 V655 (j := (3 : Int32)) (x := b3) (oj_c16 h_b3) ⟨by decide, by decide⟩ (i := 3) rfl (leB rfl) (g := (mkF m 566 #[sr a1, si pn] [(.int b3), (.int 3), (.ref b638), (.ref b638), (.ref b634), (.ref b634)])) rfl rfl (hb hby d9_566)
            have K662 : Keep h0 h661 [] := K656.wr W661 (Or.inr sz_b638)
            have N663 := Fr.snoc X661 N657 ge_b638
            have hkS := Nat.le_trans hkS (Keep.of_wr W661).1
            have C664 := C658.trans (CHr.wr W661 (safeArv hZ.alike V655 (by decide)) C658.1)
            have sf665 := Safe.wr W661 (safeArv hZ.alike V655 (by decide)) C658.1 sf659
            refine go (S' := T661.setTop (mkF m 572 #[sr a1, si pn] [(.int b4), (.int 4), (.ref b638), (.ref b638), (.ref b634), (.ref b634)])) (fun t k => st661 _ (XS.dup X661.here hx rfl (hb hby d9_567) rfl rfl (XS.iconst X661.here hx rfl (hb hby d9_568) (XS.aloadN X661.here hx rfl (hb hby d9_569) rfl rfl (XS.iconst X661.here hx rfl (hb hby d9_570) (getC X661 hx hZ e661 (hp_a.keep K662 nin0) (j := (4 : Int32)) (v := (.int b4)) ⟨by decide, by decide⟩ rfl (g := (mkF m 571 #[sr a1, si pn] [(.int 4), (.ref a1), (.int 4), (.ref b638), (.ref b638), (.ref b634), (.ref b634)])) rfl rfl (hb hby d9_571) k)))))) ?_
            obtain ⟨T667, h667, X667, e667, W667, V667, st667⟩ := putC X661 hx hZ e661 V661 (j := (4 : Int32)) (x := b4) (oj_c16 h_b4) ⟨by decide, by decide⟩ (i := 4) rfl (leB rfl) (g := (mkF m 572 #[sr a1, si pn] [(.int b4), (.int 4), (.ref b638), (.ref b638), (.ref b634), (.ref b634)])) rfl rfl (hb hby d9_572)
            have K668 : Keep h0 h667 [] := K662.wr W667 (Or.inr sz_b638)
            have N669 := Fr.snoc X667 N663 ge_b638
            have hkS := Nat.le_trans hkS (Keep.of_wr W667).1
            have C670 := C664.trans (CHr.wr W667 (safeArv hZ.alike V661 (by decide)) C664.1)
            have sf671 := Safe.wr W667 (safeArv hZ.alike V661 (by decide)) C664.1 sf665
            refine go (S' := T667.setTop (mkF m 578 #[sr a1, si pn] [(.int b5), (.int 5), (.ref b638), (.ref b638), (.ref b634), (.ref b634)])) (fun t k => st667 _ (XS.dup X667.here hx rfl (hb hby d9_573) rfl rfl (XS.iconst X667.here hx rfl (hb hby d9_574) (XS.aloadN X667.here hx rfl (hb hby d9_575) rfl rfl (XS.iconst X667.here hx rfl (hb hby d9_576) (getC X667 hx hZ e667 (hp_a.keep K668 nin0) (j := (5 : Int32)) (v := (.int b5)) ⟨by decide, by decide⟩ rfl (g := (mkF m 577 #[sr a1, si pn] [(.int 5), (.ref a1), (.int 5), (.ref b638), (.ref b638), (.ref b634), (.ref b634)])) rfl rfl (hb hby d9_577) k)))))) ?_
            obtain ⟨T673, h673, X673, e673, W673, V673, st673⟩ := putC X667 hx hZ e667 V667 (j := (5 : Int32)) (x := b5) (oj_c16 h_b5) ⟨by decide, by decide⟩ (i := 5) rfl (leB rfl) (g := (mkF m 578 #[sr a1, si pn] [(.int b5), (.int 5), (.ref b638), (.ref b638), (.ref b634), (.ref b634)])) rfl rfl (hb hby d9_578)
            have K674 : Keep h0 h673 [] := K668.wr W673 (Or.inr sz_b638)
            have N675 := Fr.snoc X673 N669 ge_b638
            have hkS := Nat.le_trans hkS (Keep.of_wr W673).1
            have C676 := C670.trans (CHr.wr W673 (safeArv hZ.alike V667 (by decide)) C670.1)
            have sf677 := Safe.wr W673 (safeArv hZ.alike V667 (by decide)) C670.1 sf671
            refine go (S' := T673.setTop (mkF m 586 #[sr a1, si pn] [(.int b6), (.int 6), (.ref b638), (.ref b638), (.ref b634), (.ref b634)])) (fun t k => st673 _ (XS.dup X673.here hx rfl (hb hby d9_579) rfl rfl (XS.bipush X673.here hx rfl (hb hby d9_580) (XS.aloadN X673.here hx rfl (hb hby d9_582) rfl rfl (XS.bipush X673.here hx rfl (hb hby d9_583) (getC X673 hx hZ e673 (hp_a.keep K674 nin0) (j := (6 : Int32)) (v := (.int b6)) ⟨by decide, by decide⟩ rfl (g := (mkF m 585 #[sr a1, si pn] [(.int 6), (.ref a1), (.int 6), (.ref b638), (.ref b638), (.ref b634), (.ref b634)])) rfl rfl (hb hby d9_585) k)))))) ?_
            obtain ⟨T679, h679, X679, e679, W679, V679, st679⟩ := putC X673 hx hZ e673 V673 (j := (6 : Int32)) (x := b6) (oj_c16 h_b6) ⟨by decide, by decide⟩ (i := 6) rfl (leB rfl) (g := (mkF m 586 #[sr a1, si pn] [(.int b6), (.int 6), (.ref b638), (.ref b638), (.ref b634), (.ref b634)])) rfl rfl (hb hby d9_586)
            have K680 : Keep h0 h679 [] := K674.wr W679 (Or.inr sz_b638)
            have N681 := Fr.snoc X679 N675 ge_b638
            have hkS := Nat.le_trans hkS (Keep.of_wr W679).1
            have C682 := C676.trans (CHr.wr W679 (safeArv hZ.alike V673 (by decide)) C676.1)
            have sf683 := Safe.wr W679 (safeArv hZ.alike V673 (by decide)) C676.1 sf677
            refine go (S' := T679.setTop (mkF m 594 #[sr a1, si pn] [(.int b7), (.int 7), (.ref b638), (.ref b638), (.ref b634), (.ref b634)])) (fun t k => st679 _ (XS.dup X679.here hx rfl (hb hby d9_587) rfl rfl (XS.bipush X679.here hx rfl (hb hby d9_588) (XS.aloadN X679.here hx rfl (hb hby d9_590) rfl rfl (XS.bipush X679.here hx rfl (hb hby d9_591) (getC X679 hx hZ e679 (hp_a.keep K680 nin0) (j := (7 : Int32)) (v := (.int b7)) ⟨by decide, by decide⟩ rfl (g := (mkF m 593 #[sr a1, si pn] [(.int 7), (.ref a1), (.int 7), (.ref b638), (.ref b638), (.ref b634), (.ref b634)])) rfl rfl (hb hby d9_593) k)))))) ?_
            obtain ⟨T685, h685, X685, e685, W685, V685, st685⟩ := putC X679 hx hZ e679 V679 (j := (7 : Int32)) (x := b7) (oj_c16 h_b7) ⟨by decide, by decide⟩ (i := 7) rfl (leB rfl) (g := (mkF m 594 #[sr a1, si pn] [(.int b7), (.int 7), (.ref b638), (.ref b638), (.ref b634), (.ref b634)])) rfl rfl (hb hby d9_594)
            have K686 : Keep h0 h685 [] := K680.wr W685 (Or.inr sz_b638)
            have N687 := Fr.snoc X685 N681 ge_b638
            have hkS := Nat.le_trans hkS (Keep.of_wr W685).1
            have C688 := C682.trans (CHr.wr W685 (safeArv hZ.alike V679 (by decide)) C682.1)
            have sf689 := Safe.wr W685 (safeArv hZ.alike V679 (by decide)) C682.1 sf683
            refine go (S' := T685.setTop (mkF m 602 #[sr a1, si pn] [(.int b8), (.int 8), (.ref b638), (.ref b638), (.ref b634), (.ref b634)])) (fun t k => st685 _ (XS.dup X685.here hx rfl (hb hby d9_595) rfl rfl (XS.bipush X685.here hx rfl (hb hby d9_596) (XS.aloadN X685.here hx rfl (hb hby d9_598) rfl rfl (XS.bipush X685.here hx rfl (hb hby d9_599) (getC X685 hx hZ e685 (hp_a.keep K686 nin0) (j := (8 : Int32)) (v := (.int b8)) ⟨by decide, by decide⟩ rfl (g := (mkF m 601 #[sr a1, si pn] [(.int 8), (.ref a1), (.int 8), (.ref b638), (.ref b638), (.ref b634), (.ref b634)])) rfl rfl (hb hby d9_601) k)))))) ?_
            obtain ⟨T691, h691, X691, e691, W691, V691, st691⟩ := putC X685 hx hZ e685 V685 (j := (8 : Int32)) (x := b8) (oj_c16 h_b8) ⟨by decide, by decide⟩ (i := 8) rfl (leB rfl) (g := (mkF m 602 #[sr a1, si pn] [(.int b8), (.int 8), (.ref b638), (.ref b638), (.ref b634), (.ref b634)])) rfl rfl (hb hby d9_602)
            have K692 : Keep h0 h691 [] := K686.wr W691 (Or.inr sz_b638)
            have N693 := Fr.snoc X691 N687 ge_b638
            have hkS := Nat.le_trans hkS (Keep.of_wr W691).1
            have C694 := C688.trans (CHr.wr W691 (safeArv hZ.alike V685 (by decide)) C688.1)
            have sf695 := Safe.wr W691 (safeArv hZ.alike V685 (by decide)) C688.1 sf689
            refine go (S' := T691.setTop (mkF m 610 #[sr a1, si pn] [(.int b9), (.int 9), (.ref b638), (.ref b638), (.ref b634), (.ref b634)])) (fun t k => st691 _ (XS.dup X691.here hx rfl (hb hby d9_603) rfl rfl (XS.bipush X691.here hx rfl (hb hby d9_604) (XS.aloadN X691.here hx rfl (hb hby d9_606) rfl rfl (XS.bipush X691.here hx rfl (hb hby d9_607) (getC X691 hx hZ e691 (hp_a.keep K692 nin0) (j := (9 : Int32)) (v := (.int b9)) ⟨by decide, by decide⟩ rfl (g := (mkF m 609 #[sr a1, si pn] [(.int 9), (.ref a1), (.int 9), (.ref b638), (.ref b638), (.ref b634), (.ref b634)])) rfl rfl (hb hby d9_609) k)))))) ?_
            obtain ⟨T697, h697, X697, e697, W697, V697, st697⟩ := putC X691 hx hZ e691 V691 (j := (9 : Int32)) (x := b9) (oj_c16 h_b9) ⟨by decide, by decide⟩ (i := 9) rfl (leB rfl) (g := (mkF m 610 #[sr a1, si pn] [(.int b9), (.int 9), (.ref b638), (.ref b638), (.ref b634), (.ref b634)])) rfl rfl (hb hby d9_610)
            have K698 : Keep h0 h697 [] := K692.wr W697 (Or.inr sz_b638)
            have N699 := Fr.snoc X697 N693 ge_b638
            have hkS := Nat.le_trans hkS (Keep.of_wr W697).1
            have C700 := C694.trans (CHr.wr W697 (safeArv hZ.alike V691 (by decide)) C694.1)
            have sf701 := Safe.wr W697 (safeArv hZ.alike V691 (by decide)) C694.1 sf695
            refine go (S' := T697.setTop (mkF m 618 #[sr a1, si pn] [(.int b10), (.int 10), (.ref b638), (.ref b638), (.ref b634), (.ref b634)])) (fun t k => st697 _ (XS.dup X697.here hx rfl (hb hby d9_611) rfl rfl (XS.bipush X697.here hx rfl (hb hby d9_612) (XS.aloadN X697.here hx rfl (hb hby d9_614) rfl rfl (XS.bipush X697.here hx rfl (hb hby d9_615) (getC X697 hx hZ e697 (hp_a.keep K698 nin0) (j := (10 : Int32)) (v := (.int b10)) ⟨by decide, by decide⟩ rfl (g := (mkF m 617 #[sr a1, si pn] [(.int 10), (.ref a1), (.int 10), (.ref b638), (.ref b638), (.ref b634), (.ref b634)])) rfl rfl (hb hby d9_617) k)))))) ?_
            obtain ⟨T703, h703, X703, e703, W703, V703, st703⟩ := putC X697 hx hZ e697 V697 (j := (10 : Int32)) (x := b10) (oj_c16 h_b10) ⟨by decide, by decide⟩ (i := 10) rfl (leB rfl) (g := (mkF m 618 #[sr a1, si pn] [(.int b10), (.int 10), (.ref b638), (.ref b638), (.ref b634), (.ref b634)])) rfl rfl (hb hby d9_618)
            have K704 : Keep h0 h703 [] := K698.wr W703 (Or.inr sz_b638)
            have N705 := Fr.snoc X703 N699 ge_b638
            have hkS := Nat.le_trans hkS (Keep.of_wr W703).1
            have C706 := C700.trans (CHr.wr W703 (safeArv hZ.alike V697 (by decide)) C700.1)
            have sf707 := Safe.wr W703 (safeArv hZ.alike V697 (by decide)) C700.1 sf701
            refine go (S' := T703.setTop (mkF m 619 #[sr a1, si pn] [(.ref b638), (.ref b634), (.ref b634)])) st703 ?_
            have f708 : Exa Z h703 b634 "java/lang/String" := ((((((((((((A634.ext E638).wr W643).wr W649).wr W655).wr W661).wr W667).wr W673).wr W679).wr W685).wr W691).wr W697).wr W703)
            have f709 : Fld Z h703 b634 "java/lang/String" "value" "[B" .null := (Fld.other W703 (Fld.other W697 (Fld.other W691 (Fld.other W685 (Fld.other W679 (Fld.other W673 (Fld.other W667 (Fld.other W661 (Fld.other W655 (Fld.other W649 (Fld.other W643 ((D634 (Or.inr (ww hw 5 rfl)) (ty := (.array .byte)) (by decide)).ext E638) (Or.inl (Nat.ne_of_lt lt_b634_b638))) (Or.inl (Nat.ne_of_lt lt_b634_b638))) (Or.inl (Nat.ne_of_lt lt_b634_b638))) (Or.inl (Nat.ne_of_lt lt_b634_b638))) (Or.inl (Nat.ne_of_lt lt_b634_b638))) (Or.inl (Nat.ne_of_lt lt_b634_b638))) (Or.inl (Nat.ne_of_lt lt_b634_b638))) (Or.inl (Nat.ne_of_lt lt_b634_b638))) (Or.inl (Nat.ne_of_lt lt_b634_b638))) (Or.inl (Nat.ne_of_lt lt_b634_b638))) (Or.inl (Nat.ne_of_lt lt_b634_b638)))
            have f710 : Fld Z h703 b634 "java/lang/String" "coder" "B" (.int 0) := (Fld.other W703 (Fld.other W697 (Fld.other W691 (Fld.other W685 (Fld.other W679 (Fld.other W673 (Fld.other W667 (Fld.other W661 (Fld.other W655 (Fld.other W649 (Fld.other W643 ((D634 (Or.inr (ww hw 6 rfl)) (ty := .byte) (by decide)).ext E638) (Or.inl (Nat.ne_of_lt lt_b634_b638))) (Or.inl (Nat.ne_of_lt lt_b634_b638))) (Or.inl (Nat.ne_of_lt lt_b634_b638))) (Or.inl (Nat.ne_of_lt lt_b634_b638))) (Or.inl (Nat.ne_of_lt lt_b634_b638))) (Or.inl (Nat.ne_of_lt lt_b634_b638))) (Or.inl (Nat.ne_of_lt lt_b634_b638))) (Or.inl (Nat.ne_of_lt lt_b634_b638))) (Or.inl (Nat.ne_of_lt lt_b634_b638))) (Or.inl (Nat.ne_of_lt lt_b634_b638))) (Or.inl (Nat.ne_of_lt lt_b634_b638)))
            have O711 : Old Z n0 h703 := O0.keep K704 all0
            obtain ⟨v712, T712, L712, X712, hQ712, st712⟩ := callSp X703 hx hZ (y := y_9) rfl hown (ww hw 57 rfl) (ww hw 58 rfl) (ww hw 59 rfl) (by decide) (backOf (W := 1) (rmInit1 l Z a0 hw [] b634 b638 (11 : Int32) k638 ([b0, b1, b2, b3, b4, b5, b6, b7, b8, b9, b10] : List Int32) (.int 0) G1 h703 n0 (Nat.le_trans Z0 K704.1) V703 rfl (leB rfl) (leB rfl) (allI h_b0 (allI h_b1 (allI h_b2 (allI h_b3 (allI h_b4 (allI h_b5 (allI h_b6 (allI h_b7 (allI h_b8 (allI h_b9 (allI h_b10 (fun _ q => nomatch q)))))))))))) f708 f709 f710 ge_b634 (Nat.ne_of_lt lt_b634_b638) hp5 hG1 hp7 hp8 hp9 O711) hZ (ww hw 59 rfl) (ww hw 2 rfl) (by decide) (by decide)) (g := (mkF m 619 #[sr a1, si pn] [(.ref b638), (.ref b634), (.ref b634)])) rfl (by rw [hml]; rfl) (a := b634) (kc := 2) (ks := 36) (argsL := [(.ref b638)]) (rest := [(.ref b634)]) (lenOf pd_10 rfl) rfl (mr0 rfl) (hb hby d9_619) e703 (by decide) (by decide)
            obtain ⟨t_712, cd_712, rfl, N712q, Kq712, q712_0, q712_1, q712_2⟩ := hQ712
            have N712 := Fr.app N705 N712q
            have hkS := Nat.le_trans hkS Kq712.1
            have C713 := C706.trans (CHr.keep Kq712 (allS sf707 all0) C706.1)
            have sf714 := Safe.keep Kq712 (allS sf707 all0) C706.1 sf707
            have K715 : Keep h0 T712.heap [] := K704.trans Kq712 (allS (P := fun x => x ∈ [] ∨ h0.size ≤ x) (Or.inr sz_b634) all0)
            have lt_a1_t_712 : a1 < t_712 := Nat.lt_of_lt_of_le (hp_a.keep K704 nin0).lt q712_0
            have lt_b634_t_712 : b634 < t_712 := Nat.lt_of_lt_of_le f708.lt q712_0
            have lt_b638_t_712 : b638 < t_712 := Nat.lt_of_lt_of_le V703.lt q712_0
            have sz_t_712 : h0.size ≤ t_712 := Nat.le_trans K704.1 q712_0
            have ge_t_712 : n0 ≤ t_712 := Nat.le_trans Z0 sz_t_712
            have ne_t_712_b634 := q712_1
            refine go (S' := T712.setTop (mkF m 622 #[sr a1, si pn] [(.ref b634)])) st712 ?_
            refine finRW X712 hx hk hret rfl rfl hS hkS hZ (own_EW hw) C713 rfl (hb hby d9_622) (by decide) (by decide) ?_
            have hnk : n = 11 := by
             have hz0 : n ≠ 0 := fun q => hc117 (by rw [hn, q]; rfl)
             have hz1 : n ≠ 1 := fun q => hc134 (by rw [hn, q]; rfl)
             have hz2 : n ≠ 2 := fun q => hc157 (by rw [hn, q]; rfl)
             have hz3 : n ≠ 3 := fun q => hc186 (by rw [hn, q]; rfl)
             have hz4 : n ≠ 4 := fun q => hc221 (by rw [hn, q]; rfl)
             have hz5 : n ≠ 5 := fun q => hc262 (by rw [hn, q]; rfl)
             have hz6 : n ≠ 6 := fun q => hc309 (by rw [hn, q]; rfl)
             have hz7 : n ≠ 7 := fun q => hc362 (by rw [hn, q]; rfl)
             have hz8 : n ≠ 8 := fun q => hc421 (by rw [hn, q]; rfl)
             have hz9 : n ≠ 9 := fun q => hc486 (by rw [hn, q]; rfl)
             have hz10 : n ≠ 10 := fun q => hc557 (by rw [hn, q]; rfl)
             omega
            subst hnk
            exact ⟨b634, t_712, cd_712, rfl, N712, K715, sz_b634, q712_2⟩
theorem d20_0 : dd jdk_32_method_1_code 0 (.getstatic 1) 3 := by decide +kernel
theorem d20_3 : dd jdk_32_method_1_code 3 (.astore_n 0) 1 := by decide +kernel
theorem d20_4 : dd jdk_32_method_1_code 4 (.aload_n 0) 1 := by decide +kernel
theorem d20_5 : dd jdk_32_method_1_code 5 .areturn 1 := by decide +kernel
abbrev y_14 : MethodName := ⟨"java/util/Optional", "empty", "()Ljava/util/Optional;"⟩
theorem pn_12 : plainFor y_14 = true := by first | exact plainFor_of_name (by first | (simp [plainName, overriddenIn]; done) | decide +kernel) | decide +kernel
theorem ef_rmEmp (m : MethodId)  : entryFrame m #[] 1 = mkF m 0 #[un] [] := by first | (simp [entryFrame, mkF, argsToLocals, Value.category]; done) | rfl
def Q_rmEmp (Z : State) (oe : Addr) (h0 : Heap) (n0 : Nat) (v : Option Value) (h : Heap) (L : List Loc) : Prop := v = some (.ref oe) ∧ Fr n0 L ∧ h = h0
set_option maxRecDepth 65536 in
set_option maxHeartbeats 40000000 in
theorem rmEmp (l : Launch) (Z : State) (a0 : Array Value) (hw : ∀ d ∈ tables_1, d.before a0 Z = true) (ws : List Jvm.Cond) (oe : Addr) (h0 : Heap) (n0 : Nat) (Z0 : n0 ≤ h0.size) (hp0 : Sta Z Z.heap "java/util/Optional" "EMPTY" "Ljava/util/Optional;" (.ref oe)) (hp1 : Old Z n0 h0) :
    MetFree l y_14 (head1 (Jvm.Cond.code y_14 jdk_32_method_1_code 1 (some (.object "java/util/Optional")) :: ws) ({ frames := 0, cells := 0, slots := 0, locals := 0 } : Room)) (fun a U => a = #[] ∧ Z.Warmed39 U.vm ∧ U.heap = h0) (fun _ _ _ _ _ => True) (fun _ U o U' => ∃ v L, o = .returned v ∧ Q_rmEmp Z oe h0 n0 v U'.heap L ∧ FrameEnd U o U' L ({ frames := 0, cells := 0, slots := 0, locals := 0 } : Room).cells ({ frames := 0, cells := 0, slots := 0, locals := 0 } : Room).slots) := by
 refine bodyOf pn_12 (fun m => ef_rmEmp m ) ?_
 intro p e s m below meth c T0 X0 hx hby hml hown hnm hret hk hZ e0
 have N0 := Fr.nil n0
 have K0 : Keep h0 h0 [] := Keep.refl _ _
 have O0 := hp1
 have O717 : Old Z n0 h0 := O0.keep K0 all0
 obtain ⟨T716, X716, e716, st716⟩ := getS2 X0 hx hZ hown (host := "") (Or.inl (ww hw 113 rfl)) Via.refl e0 (hp0.ext O717.2) (g := (mkF m 0 #[un] [])) rfl (hb hby d20_0)
 refine go (S' := T716.setTop (mkF m 5 #[sr oe] [(.ref oe)])) (fun t k => st716 _ (XS.astoreN X716.here hx rfl (hb hby d20_3) rfl rfl (l' := #[sr oe]) rfl (XS.aloadN X716.here hx rfl (hb hby d20_4) rfl rfl k))) ?_
 refine finR X716 hx hk hret rfl rfl (hb hby d20_5) (by decide) (by decide) ?_
 rw [e716]
 exact ⟨rfl, N0, rfl⟩
theorem d21_0 : dd jdk_32_method_6_code 0 (.aload_n 0) 1 := by decide +kernel
theorem d21_1 : dd jdk_32_method_6_code 1 (.getfield 13) 3 := by decide +kernel
theorem d21_4 : dd jdk_32_method_6_code 4 (.ifnull 7) 3 := by decide +kernel
theorem d21_11 : dd jdk_32_method_6_code 11 (.iconst 0) 1 := by decide +kernel
theorem d21_12 : dd jdk_32_method_6_code 12 .ireturn 1 := by decide +kernel
abbrev y_15 : MethodName := ⟨"java/util/Optional", "isPresent", "()Z"⟩
theorem pn_13 : plainFor y_15 = true := by first | exact plainFor_of_name (by first | (simp [plainName, overriddenIn]; done) | decide +kernel) | decide +kernel
theorem ef_rmIp0 (m : MethodId) (a1 : Addr) : entryFrame m #[(.ref a1)] 1 = mkF m 0 #[sr a1] [] := by first | (simp [entryFrame, mkF, argsToLocals, Value.category]; done) | rfl
def Q_rmIp0 (Z : State) (a1 : Addr) (h0 : Heap) (n0 : Nat) (v : Option Value) (h : Heap) (L : List Loc) : Prop := v = some (.int 0) ∧ Fr n0 L ∧ h = h0
set_option maxRecDepth 65536 in
set_option maxHeartbeats 40000000 in
theorem rmIp0 (l : Launch) (Z : State) (a0 : Array Value) (hw : ∀ d ∈ tables_1, d.before a0 Z = true) (ws : List Jvm.Cond) (a1 : Addr) (h0 : Heap) (n0 : Nat) (Z0 : n0 ≤ h0.size) (hp0 : Fld Z h0 a1 "java/util/Optional" "value" "Ljava/lang/Object;" .null) :
    MetFree l y_15 (head1 (Jvm.Cond.code y_15 jdk_32_method_6_code 1 (some .boolean) :: ws) ({ frames := 0, cells := 0, slots := 0, locals := 0 } : Room)) (fun a U => a = #[(.ref a1)] ∧ Z.Warmed39 U.vm ∧ U.heap = h0) (fun _ _ _ _ _ => True) (fun _ U o U' => ∃ v L, o = .returned v ∧ Q_rmIp0 Z a1 h0 n0 v U'.heap L ∧ FrameEnd U o U' L ({ frames := 0, cells := 0, slots := 0, locals := 0 } : Room).cells ({ frames := 0, cells := 0, slots := 0, locals := 0 } : Room).slots) := by
 refine bodyOf pn_13 (fun m => ef_rmIp0 m a1) ?_
 intro p e s m below meth c T0 X0 hx hby hml hown hnm hret hk hZ e0
 have N0 := Fr.nil n0
 have K0 : Keep h0 h0 [] := Keep.refl _ _
 refine go (S' := T0.setTop (mkF m 1 #[sr a1] [(.ref a1)])) (fun t k => XS.aloadN X0.here hx rfl (hb hby d21_0) rfl rfl k) ?_
 obtain ⟨T718, X718, e718, st718⟩ := getF X0 hx hZ hown (host := "") (Or.inl (ww hw 119 rfl)) Via.refl e0 hp0 (g := (mkF m 1 #[sr a1] [(.ref a1)])) rfl rfl (hb hby d21_1)
 refine go (S' := T718.setTop (mkF m 12 #[sr a1] [(.int 0)])) (fun t k => st718 _ (XS.ifnullYes X718.here hx rfl (pc0 := 4) (pc' := 11) rfl (hb hby d21_4) rfl (by decide) (by decide) (XS.iconst X718.here hx rfl (hb hby d21_11) k))) ?_
 refine finN X718 hx hk (t := .boolean) hret (by simp) (hb hby d21_12) (by decide) (by decide) ?_
 rw [e718]
 exact ⟨rfl, N0, rfl⟩
theorem d21_7 : dd jdk_32_method_6_code 7 (.iconst 1) 1 := by decide +kernel
theorem d21_8 : dd jdk_32_method_6_code 8 (.goto 4) 3 := by decide +kernel
theorem ef_rmIp1 (m : MethodId) (a1 : Addr) : entryFrame m #[(.ref a1)] 1 = mkF m 0 #[sr a1] [] := by first | (simp [entryFrame, mkF, argsToLocals, Value.category]; done) | rfl
def Q_rmIp1 (Z : State) (a1 : Addr) (v1 : Addr) (h0 : Heap) (n0 : Nat) (v : Option Value) (h : Heap) (L : List Loc) : Prop := v = some (.int 1) ∧ Fr n0 L ∧ h = h0
set_option maxRecDepth 65536 in
set_option maxHeartbeats 40000000 in
theorem rmIp1 (l : Launch) (Z : State) (a0 : Array Value) (hw : ∀ d ∈ tables_1, d.before a0 Z = true) (ws : List Jvm.Cond) (a1 : Addr) (v1 : Addr) (h0 : Heap) (n0 : Nat) (Z0 : n0 ≤ h0.size) (hp0 : Fld Z h0 a1 "java/util/Optional" "value" "Ljava/lang/Object;" (.ref v1)) :
    MetFree l y_15 (head1 (Jvm.Cond.code y_15 jdk_32_method_6_code 1 (some .boolean) :: ws) ({ frames := 0, cells := 0, slots := 0, locals := 0 } : Room)) (fun a U => a = #[(.ref a1)] ∧ Z.Warmed39 U.vm ∧ U.heap = h0) (fun _ _ _ _ _ => True) (fun _ U o U' => ∃ v L, o = .returned v ∧ Q_rmIp1 Z a1 v1 h0 n0 v U'.heap L ∧ FrameEnd U o U' L ({ frames := 0, cells := 0, slots := 0, locals := 0 } : Room).cells ({ frames := 0, cells := 0, slots := 0, locals := 0 } : Room).slots) := by
 refine bodyOf pn_13 (fun m => ef_rmIp1 m a1) ?_
 intro p e s m below meth c T0 X0 hx hby hml hown hnm hret hk hZ e0
 have N0 := Fr.nil n0
 have K0 : Keep h0 h0 [] := Keep.refl _ _
 refine go (S' := T0.setTop (mkF m 1 #[sr a1] [(.ref a1)])) (fun t k => XS.aloadN X0.here hx rfl (hb hby d21_0) rfl rfl k) ?_
 obtain ⟨T719, X719, e719, st719⟩ := getF X0 hx hZ hown (host := "") (Or.inl (ww hw 119 rfl)) Via.refl e0 hp0 (g := (mkF m 1 #[sr a1] [(.ref a1)])) rfl rfl (hb hby d21_1)
 refine go (S' := T719.setTop (mkF m 12 #[sr a1] [(.int 1)])) (fun t k => st719 _ (XS.ifnullNo X719.here hx rfl (hb hby d21_4) rfl (XS.iconst X719.here hx rfl (hb hby d21_7) (XS.goto X719.here hx rfl (pc0 := 8) (pc' := 12) rfl (hb hby d21_8) (by decide) (by decide) k)))) ?_
 refine finN X719 hx hk (t := .boolean) hret (by simp) (hb hby d21_12) (by decide) (by decide) ?_
 rw [e719]
 exact ⟨rfl, N0, rfl⟩
theorem d30_0 : dd jdk_32_method_5_code 0 (.aload_n 0) 1 := by decide +kernel
theorem d30_1 : dd jdk_32_method_5_code 1 (.getfield 13) 3 := by decide +kernel
theorem d30_4 : dd jdk_32_method_5_code 4 (.ifnonnull 13) 3 := by decide +kernel
theorem d30_17 : dd jdk_32_method_5_code 17 (.aload_n 0) 1 := by decide +kernel
theorem d30_18 : dd jdk_32_method_5_code 18 (.getfield 13) 3 := by decide +kernel
theorem d30_21 : dd jdk_32_method_5_code 21 .areturn 1 := by decide +kernel
abbrev y_16 : MethodName := ⟨"java/util/Optional", "get", "()Ljava/lang/Object;"⟩
theorem pn_14 : plainFor y_16 = true := by first | exact plainFor_of_name (by first | (simp [plainName, overriddenIn]; done) | decide +kernel) | decide +kernel
theorem ef_rmOg (m : MethodId) (a1 : Addr) : entryFrame m #[(.ref a1)] 1 = mkF m 0 #[sr a1] [] := by first | (simp [entryFrame, mkF, argsToLocals, Value.category]; done) | rfl
def Q_rmOg (Z : State) (a1 : Addr) (v1 : Addr) (h0 : Heap) (n0 : Nat) (v : Option Value) (h : Heap) (L : List Loc) : Prop := v = some (.ref v1) ∧ Fr n0 L ∧ h = h0
set_option maxRecDepth 65536 in
set_option maxHeartbeats 40000000 in
theorem rmOg (l : Launch) (Z : State) (a0 : Array Value) (hw : ∀ d ∈ tables_1, d.before a0 Z = true) (ws : List Jvm.Cond) (a1 : Addr) (v1 : Addr) (h0 : Heap) (n0 : Nat) (Z0 : n0 ≤ h0.size) (hp0 : Fld Z h0 a1 "java/util/Optional" "value" "Ljava/lang/Object;" (.ref v1)) :
    MetFree l y_16 (head1 (Jvm.Cond.code y_16 jdk_32_method_5_code 1 (some (.object "java/lang/Object")) :: ws) ({ frames := 0, cells := 0, slots := 0, locals := 0 } : Room)) (fun a U => a = #[(.ref a1)] ∧ Z.Warmed39 U.vm ∧ U.heap = h0) (fun _ _ _ _ _ => True) (fun _ U o U' => ∃ v L, o = .returned v ∧ Q_rmOg Z a1 v1 h0 n0 v U'.heap L ∧ FrameEnd U o U' L ({ frames := 0, cells := 0, slots := 0, locals := 0 } : Room).cells ({ frames := 0, cells := 0, slots := 0, locals := 0 } : Room).slots) := by
 refine bodyOf pn_14 (fun m => ef_rmOg m a1) ?_
 intro p e s m below meth c T0 X0 hx hby hml hown hnm hret hk hZ e0
 have N0 := Fr.nil n0
 have K0 : Keep h0 h0 [] := Keep.refl _ _
 refine go (S' := T0.setTop (mkF m 1 #[sr a1] [(.ref a1)])) (fun t k => XS.aloadN X0.here hx rfl (hb hby d30_0) rfl rfl k) ?_
 obtain ⟨T720, X720, e720, st720⟩ := getF X0 hx hZ hown (host := "") (Or.inl (ww hw 119 rfl)) Via.refl e0 hp0 (g := (mkF m 1 #[sr a1] [(.ref a1)])) rfl rfl (hb hby d30_1)
 refine go (S' := T720.setTop (mkF m 18 #[sr a1] [(.ref a1)])) (fun t k => st720 _ (XS.ifnonnullYes X720.here hx rfl (pc0 := 4) (pc' := 17) rfl (hb hby d30_4) rfl (by decide) (by decide) (XS.aloadN X720.here hx rfl (hb hby d30_17) rfl rfl k))) ?_
 obtain ⟨T721, X721, e721, st721⟩ := getF X720 hx hZ hown (host := "") (Or.inl (ww hw 119 rfl)) Via.refl e720 hp0 (g := (mkF m 18 #[sr a1] [(.ref a1)])) rfl rfl (hb hby d30_18)
 refine go (S' := T721.setTop (mkF m 21 #[sr a1] [(.ref v1)])) st721 ?_
 refine finR X721 hx hk hret rfl rfl (hb hby d30_21) (by decide) (by decide) ?_
 rw [e721]
 exact ⟨rfl, N0, rfl⟩
theorem d28_0 : dd jdk_31_method_10_code 0 (.aload_n 0) 1 := by decide +kernel
theorem d28_1 : dd jdk_31_method_10_code 1 (.ifnonnull 11) 3 := by decide +kernel
theorem d28_12 : dd jdk_31_method_10_code 12 (.aload_n 0) 1 := by decide +kernel
theorem d28_13 : dd jdk_31_method_10_code 13 .areturn 1 := by decide +kernel
abbrev y_17 : MethodName := ⟨"java/util/Objects", "requireNonNull", "(Ljava/lang/Object;)Ljava/lang/Object;"⟩
theorem pn_15 : plainFor y_17 = true := by first | exact plainFor_of_name (by first | (simp [plainName, overriddenIn]; done) | decide +kernel) | decide +kernel
theorem ef_rmRn (m : MethodId) (x1 : Addr) : entryFrame m #[(.ref x1)] 1 = mkF m 0 #[sr x1] [] := by first | (simp [entryFrame, mkF, argsToLocals, Value.category]; done) | rfl
def Q_rmRn (Z : State) (x1 : Addr) (h0 : Heap) (n0 : Nat) (v : Option Value) (h : Heap) (L : List Loc) : Prop := v = some (.ref x1) ∧ Fr n0 L ∧ h = h0
set_option maxRecDepth 65536 in
set_option maxHeartbeats 40000000 in
theorem rmRn (l : Launch) (Z : State) (a0 : Array Value) (hw : ∀ d ∈ tables_1, d.before a0 Z = true) (ws : List Jvm.Cond) (x1 : Addr) (h0 : Heap) (n0 : Nat) (Z0 : n0 ≤ h0.size)  :
    MetFree l y_17 (head1 (Jvm.Cond.code y_17 jdk_31_method_10_code 1 (some (.object "java/lang/Object")) :: ws) ({ frames := 0, cells := 0, slots := 0, locals := 0 } : Room)) (fun a U => a = #[(.ref x1)] ∧ Z.Warmed39 U.vm ∧ U.heap = h0) (fun _ _ _ _ _ => True) (fun _ U o U' => ∃ v L, o = .returned v ∧ Q_rmRn Z x1 h0 n0 v U'.heap L ∧ FrameEnd U o U' L ({ frames := 0, cells := 0, slots := 0, locals := 0 } : Room).cells ({ frames := 0, cells := 0, slots := 0, locals := 0 } : Room).slots) := by
 refine bodyOf pn_15 (fun m => ef_rmRn m x1) ?_
 intro p e s m below meth c T0 X0 hx hby hml hown hnm hret hk hZ e0
 have N0 := Fr.nil n0
 have K0 : Keep h0 h0 [] := Keep.refl _ _
 refine go (S' := T0.setTop (mkF m 13 #[sr x1] [(.ref x1)])) (fun t k => XS.aloadN X0.here hx rfl (hb hby d28_0) rfl rfl (XS.ifnonnullYes X0.here hx rfl (pc0 := 1) (pc' := 12) rfl (hb hby d28_1) rfl (by decide) (by decide) (XS.aloadN X0.here hx rfl (hb hby d28_12) rfl rfl k))) ?_
 refine finR X0 hx hk hret rfl rfl (hb hby d28_13) (by decide) (by decide) ?_
 rw [e0]
 exact ⟨rfl, N0, rfl⟩
theorem d29_0 : dd jdk_32_method_2_code 0 (.aload_n 0) 1 := by decide +kernel
theorem d29_1 : dd jdk_32_method_2_code 1 (.invokespecial 7) 3 := by decide +kernel
theorem d29_4 : dd jdk_32_method_2_code 4 (.aload_n 0) 1 := by decide +kernel
theorem d29_5 : dd jdk_32_method_2_code 5 (.aload_n 1) 1 := by decide +kernel
theorem d29_6 : dd jdk_32_method_2_code 6 (.putfield 13) 3 := by decide +kernel
theorem d29_9 : dd jdk_32_method_2_code 9 .return_ 1 := by decide +kernel
abbrev y_18 : MethodName := ⟨"java/util/Optional", "<init>", "(Ljava/lang/Object;)V"⟩
theorem pn_16 : plainFor y_18 = true := by first | exact plainFor_of_name (by first | (simp [plainName, overriddenIn]; done) | decide +kernel) | decide +kernel
theorem ef_rmOi (m : MethodId) (a1 : Addr) (x1 : Addr) : entryFrame m #[(.ref a1), (.ref x1)] 2 = mkF m 0 #[sr a1, sr x1] [] := by first | (simp [entryFrame, mkF, argsToLocals, Value.category]; done) | rfl
def Q_rmOi (Z : State) (a1 : Addr) (x1 : Addr) (h0 : Heap) (n0 : Nat) (v : Option Value) (h : Heap) (L : List Loc) : Prop := v = none ∧ Fr n0 L ∧ Keep h0 h [a1] ∧ (Fld Z h a1 "java/util/Optional" "value" "Ljava/lang/Object;" (.ref x1))
set_option maxRecDepth 65536 in
set_option maxHeartbeats 40000000 in
theorem rmOi (l : Launch) (Z : State) (a0 : Array Value) (hw : ∀ d ∈ tables_1, d.before a0 Z = true) (ws : List Jvm.Cond) (a1 : Addr) (x1 : Addr) (h0 : Heap) (n0 : Nat) (Z0 : n0 ≤ h0.size) (hp0 : Exa Z h0 a1 "java/util/Optional") (hp1 : Fld Z h0 a1 "java/util/Optional" "value" "Ljava/lang/Object;" .null) (hp2 : n0 ≤ a1) :
    MetFree l y_18 (head1 (Jvm.Cond.code y_18 jdk_32_method_2_code 2 none :: ws) ({ frames := 1, cells := 0, slots := 0, locals := 12 } : Room)) (fun a U => a = #[(.ref a1), (.ref x1)] ∧ Z.Warmed39 U.vm ∧ U.heap = h0) (fun _ _ _ _ _ => True) (fun _ U o U' => ∃ v L, o = .returned v ∧ Q_rmOi Z a1 x1 h0 n0 v U'.heap L ∧ FrameEnd U o U' L ({ frames := 1, cells := 0, slots := 0, locals := 12 } : Room).cells ({ frames := 1, cells := 0, slots := 0, locals := 12 } : Room).slots) := by
 refine bodyOf pn_16 (fun m => ef_rmOi m a1 x1) ?_
 intro p e s m below meth c T0 X0 hx hby hml hown hnm hret hk hZ e0
 have N0 := Fr.nil n0
 have K0 : Keep h0 h0 [a1] := Keep.refl _ _
 refine go (S' := T0.setTop (mkF m 1 #[sr a1, sr x1] [(.ref a1)])) (fun t k => XS.aloadN X0.here hx rfl (hb hby d29_0) rfl rfl k) ?_
 obtain ⟨T722, X722, e722, st722⟩ := initO X0 hx hZ hown (ww hw 159 rfl) (ww hw 65 rfl) (ww hw 66 rfl) e0 (g := (mkF m 1 #[sr a1, sr x1] [(.ref a1)])) rfl (by rw [hml]; rfl) rfl (hb hby d29_1) (by decide) (W := 0) (mr0 rfl) (by decide)
 refine go (S' := T722.setTop (mkF m 6 #[sr a1, sr x1] [(.ref x1), (.ref a1)])) (fun t k => st722 _ (XS.aloadN X722.here hx rfl (hb hby d29_4) rfl rfl (XS.aloadN X722.here hx rfl (hb hby d29_5) rfl rfl k))) ?_
 obtain ⟨T723, h723, X723, e723, W723, st723⟩ := putF X722 hx hZ hown (host := "") (Or.inl (ww hw 119 rfl)) Via.refl e722 hp1 hp0 (Or.inr ⟨(ww hw 120 rfl), rfl, hnm⟩) (ww hw 150 rfl) (ty := (.object "java/lang/Object")) (by decide) rfl rfl (g := (mkF m 6 #[sr a1, sr x1] [(.ref x1), (.ref a1)])) rfl rfl (hb hby d29_6)
 have K724 : Keep h0 h723 [a1] := K0.wr W723 (Or.inl (List.mem_of_getElem? (i := 0) rfl))
 have N725 := Fr.snoc X723 N0 hp2
 have f726 : Fld Z h723 a1 "java/util/Optional" "value" "Ljava/lang/Object;" (.ref x1) := (Fld.same W723 hp1)
 refine go (S' := T723.setTop (mkF m 9 #[sr a1, sr x1] [])) st723 ?_
 refine finV X723 hx hk hret (hb hby d29_9) (by decide) (by decide) ?_
 rw [e723]
 exact ⟨rfl, N725, K724, f726⟩
theorem d27_0 : dd jdk_32_method_3_code 0 (.new 2) 3 := by decide +kernel
theorem d27_3 : dd jdk_32_method_3_code 3 .dup 1 := by decide +kernel
theorem d27_4 : dd jdk_32_method_3_code 4 (.aload_n 0) 1 := by decide +kernel
theorem d27_5 : dd jdk_32_method_3_code 5 (.invokestatic 17) 3 := by decide +kernel
theorem pd_11 : parseMethodDescriptor "(Ljava/lang/Object;)Ljava/lang/Object;" = some ⟨[(.object "java/lang/Object")], some (.object "java/lang/Object")⟩ := by decide +kernel
theorem d27_8 : dd jdk_32_method_3_code 8 (.invokespecial 23) 3 := by decide +kernel
theorem pd_12 : parseMethodDescriptor "(Ljava/lang/Object;)V" = some ⟨[(.object "java/lang/Object")], none⟩ := by decide +kernel
theorem d27_11 : dd jdk_32_method_3_code 11 .areturn 1 := by decide +kernel
abbrev y_19 : MethodName := ⟨"java/util/Optional", "of", "(Ljava/lang/Object;)Ljava/util/Optional;"⟩
theorem pn_17 : plainFor y_19 = true := by first | exact plainFor_of_name (by first | (simp [plainName, overriddenIn]; done) | decide +kernel) | decide +kernel
theorem ef_rmOo (m : MethodId) (x1 : Addr) : entryFrame m #[(.ref x1)] 1 = mkF m 0 #[sr x1] [] := by first | (simp [entryFrame, mkF, argsToLocals, Value.category]; done) | rfl
def Q_rmOo (Z : State) (x1 : Addr) (h0 : Heap) (n0 : Nat) (v : Option Value) (h : Heap) (L : List Loc) : Prop := ∃ (r : Addr), v = some (.ref r) ∧ Fr n0 L ∧ Keep h0 h [] ∧ (Exa Z h r "java/util/Optional") ∧ (Fld Z h r "java/util/Optional" "value" "Ljava/lang/Object;" (.ref x1))
set_option maxRecDepth 65536 in
set_option maxHeartbeats 40000000 in
theorem rmOo (l : Launch) (Z : State) (a0 : Array Value) (hw : ∀ d ∈ tables_1, d.before a0 Z = true) (ws : List Jvm.Cond) (x1 : Addr) (h0 : Heap) (n0 : Nat) (Z0 : n0 ≤ h0.size)  :
    MetFree l y_19 (head1 (Jvm.Cond.code y_19 jdk_32_method_3_code 1 (some (.object "java/util/Optional")) :: ws) ({ frames := 2, cells := 1, slots := 1, locals := 26 } : Room)) (fun a U => a = #[(.ref x1)] ∧ Z.Warmed39 U.vm ∧ U.heap = h0) (fun _ _ _ _ _ => True) (fun _ U o U' => ∃ v L, o = .returned v ∧ Q_rmOo Z x1 h0 n0 v U'.heap L ∧ FrameEnd U o U' L ({ frames := 2, cells := 1, slots := 1, locals := 26 } : Room).cells ({ frames := 2, cells := 1, slots := 1, locals := 26 } : Room).slots) := by
 refine bodyOf pn_17 (fun m => ef_rmOo m x1) ?_
 intro p e s m below meth c T0 X0 hx hby hml hown hnm hret hk hZ e0
 have N0 := Fr.nil n0
 have K0 : Keep h0 h0 [] := Keep.refl _ _
 obtain ⟨T727, h727, X727, e727, E727, A727, D727, -, st727⟩ := newO X0 hx hZ hown (ww hw 149 rfl) (ww hw 150 rfl) (ww hw 111 rfl) e0 (g := (mkF m 0 #[sr x1] [])) rfl (hb hby d27_0) (by decide) (by decide)
 obtain ⟨b727, g727⟩ : ∃ z, z = h0.size := ⟨_, rfl⟩
 rw [← g727] at A727 D727 st727
 have ge_b727 : n0 ≤ b727 := by rw [g727]; exact (Nat.le_trans Z0 K0.1)
 have sz_b727 : h0.size ≤ b727 := by rw [g727]; exact K0.1
 have K728 : Keep h0 h727 [] := K0.ext E727
 refine go (S' := T727.setTop (mkF m 5 #[sr x1] [(.ref x1), (.ref b727), (.ref b727)])) (fun t k => st727 _ (XS.dup X727.here hx rfl (hb hby d27_3) rfl rfl (XS.aloadN X727.here hx rfl (hb hby d27_4) rfl rfl k))) ?_
 obtain ⟨v729, T729, L729, X729, hQ729, st729⟩ := callSt X727 hx hZ (y := y_17) hown (ww hw 151 rfl) (ww hw 152 rfl) (ww hw 153 rfl) (ww hw 154 rfl) (by decide) (backOf (W := 2) (rmRn l Z a0 hw [] x1 h727 n0 (Nat.le_trans Z0 K728.1) ) hZ (ww hw 154 rfl) (ww hw 153 rfl) (by decide) (by decide)) (g := (mkF m 5 #[sr x1] [(.ref x1), (.ref b727), (.ref b727)])) rfl (by rw [hml]; rfl) (kc := 0) (ks := 0) (argsL := [(.ref x1)]) (rest := [(.ref b727), (.ref b727)]) (lenOf pd_11 rfl) rfl (mr0 rfl) (hb hby d27_5) e727 (by decide) (by decide)
 obtain ⟨rfl, N729q, e729⟩ := hQ729
 have N729 := Fr.app N0 N729q
 refine go (S' := T729.setTop (mkF m 8 #[sr x1] [(.ref x1), (.ref b727), (.ref b727)])) st729 ?_
 obtain ⟨v730, T730, L730, X730, hQ730, st730⟩ := callSp X729 hx hZ (y := y_18) rfl hown (ww hw 155 rfl) (ww hw 156 rfl) (ww hw 158 rfl) (by decide) (backOf (W := 1) (rmOi l Z a0 hw [] b727 x1 h727 n0 (Nat.le_trans Z0 K728.1) A727 (D727 (Or.inr (ww hw 120 rfl)) (ty := (.object "java/lang/Object")) (by decide)) ge_b727) hZ (ww hw 158 rfl) (ww hw 111 rfl) (by decide) (by decide)) (g := (mkF m 8 #[sr x1] [(.ref x1), (.ref b727), (.ref b727)])) rfl (by rw [hml]; rfl) (a := b727) (kc := 0) (ks := 0) (argsL := [(.ref x1)]) (rest := [(.ref b727)]) (lenOf pd_12 rfl) rfl (mr0 rfl) (hb hby d27_8) e729 (by decide) (by decide)
 obtain ⟨rfl, N730q, Kq730, q730_0⟩ := hQ730
 have N730 := Fr.app N729 N730q
 have K731 : Keep h0 T730.heap [] := K728.trans Kq730 (allS (P := fun x => x ∈ [] ∨ h0.size ≤ x) (Or.inr sz_b727) all0)
 refine go (S' := T730.setTop (mkF m 11 #[sr x1] [(.ref b727)])) st730 ?_
 refine finR X730 hx hk hret rfl rfl (hb hby d27_11) (by decide) (by decide) ?_
 have f732 : Exa Z T730.heap b727 "java/util/Optional" := (A727.keep Kq730)
 exact ⟨b727, rfl, N730, K731, f732, q730_0⟩
theorem d17_0 : dd prog_51_method_1_code 0 (.getstatic 16) 3 := by decide +kernel
theorem d17_3 : dd prog_51_method_1_code 3 (.invokevirtual 20) 3 := by decide +kernel
theorem d17_6 : dd prog_51_method_1_code 6 (.checkcast 21) 3 := by decide +kernel
theorem d17_9 : dd prog_51_method_1_code 9 .areturn 1 := by decide +kernel
abbrev y_20 : MethodName := ⟨"com/example/neti/neti/model/SpaceRole", "values", "()[Lcom/example/neti/neti/model/SpaceRole;"⟩
theorem pn_18 : plainFor y_20 = true := by first | exact plainFor_of_name (by first | (simp [plainName, overriddenIn]; done) | decide +kernel) | decide +kernel
theorem ef_rmVl (m : MethodId)  : entryFrame m #[] 0 = mkF m 0 #[] [] := by first | (simp [entryFrame, mkF, argsToLocals, Value.category]; done) | rfl
def Q_rmVl (Z : State) (av : Addr) (kV : ClassId) (c1 : Addr) (c2 : Addr) (c3 : Addr) (c4 : Addr) (h0 : Heap) (n0 : Nat) (v : Option Value) (h : Heap) (L : List Loc) : Prop := ∃ (r : Addr), v = some (.ref r) ∧ Fr n0 L ∧ Keep h0 h [] ∧ (Arv Z h r kV (.object "com/example/neti/neti/model/SpaceRole") (4 : Int32) [(.ref c1), (.ref c2), (.ref c3), (.ref c4)] .null)
set_option maxRecDepth 65536 in
set_option maxHeartbeats 40000000 in
theorem rmVl (l : Launch) (Z : State) (a0 : Array Value) (hw : ∀ d ∈ tables_1, d.before a0 Z = true) (ws : List Jvm.Cond) (av : Addr) (kV : ClassId) (c1 : Addr) (c2 : Addr) (c3 : Addr) (c4 : Addr) (h0 : Heap) (n0 : Nat) (Z0 : n0 ≤ h0.size) (hp0 : Sta Z Z.heap "com/example/neti/neti/model/SpaceRole" "$VALUES" "[Lcom/example/neti/neti/model/SpaceRole;" (.ref av)) (hp1 : Exa Z Z.heap av "[Lcom/example/neti/neti/model/SpaceRole;") (hp2 : Arv Z Z.heap av kV (.object "com/example/neti/neti/model/SpaceRole") (4 : Int32) [(.ref c1), (.ref c2), (.ref c3), (.ref c4)] .null) (hp3 : Old Z n0 h0) :
    MetFree l y_20 (head1 (Jvm.Cond.code y_20 prog_51_method_1_code 0 (some (.array (.object "com/example/neti/neti/model/SpaceRole"))) :: ws) ({ frames := 1, cells := 1, slots := 4, locals := 14 } : Room)) (fun a U => a = #[] ∧ Z.Warmed39 U.vm ∧ U.heap = h0) (fun _ _ _ _ _ => True) (fun _ U o U' => ∃ v L, o = .returned v ∧ Q_rmVl Z av kV c1 c2 c3 c4 h0 n0 v U'.heap L ∧ FrameEnd U o U' L ({ frames := 1, cells := 1, slots := 4, locals := 14 } : Room).cells ({ frames := 1, cells := 1, slots := 4, locals := 14 } : Room).slots) := by
 refine bodyOf pn_18 (fun m => ef_rmVl m ) ?_
 intro p e s m below meth c T0 X0 hx hby hml hown hnm hret hk hZ e0
 have N0 := Fr.nil n0
 have K0 : Keep h0 h0 [] := Keep.refl _ _
 have O0 := hp3
 have O734 : Old Z n0 h0 := O0.keep K0 all0
 obtain ⟨T733, X733, e733, st733⟩ := getS2 X0 hx hZ hown (host := "") (Or.inl (ww hw 83 rfl)) Via.refl e0 (hp0.ext O734.2) (g := (mkF m 0 #[] [])) rfl (hb hby d17_0)
 refine go (S' := T733.setTop (mkF m 3 #[] [(.ref av)])) st733 ?_
 obtain ⟨T735, h735, X735, e735, E735, A735, AE735, st735⟩ := cloneR X733 hx hZ hown (ww hw 85 rfl) (ww hw 86 rfl) (ww hw 90 rfl) (ww hw 88 rfl) (ww hw 89 rfl) (ww hw 91 rfl) e733 (hp2.ext O734.2) (hp1.ext O734.2) (g := (mkF m 3 #[] [(.ref av)])) rfl (by rw [hml]; rfl) rfl (hb hby d17_3) (by decide) (W := 0) (mr0 rfl) (by decide) (cap := 4) (by decide) (by decide) (by decide)
 obtain ⟨b735, g735⟩ : ∃ z, z = h0.size := ⟨_, rfl⟩
 rw [← g735] at A735 AE735 st735
 have ge_b735 : n0 ≤ b735 := by rw [g735]; exact (Nat.le_trans Z0 K0.1)
 have sz_b735 : h0.size ≤ b735 := by rw [g735]; exact K0.1
 have K736 : Keep h0 h735 [] := K0.ext E735
 refine go (S' := T735.setTop (mkF m 6 #[] [(.ref b735)])) st735 ?_
 obtain ⟨T737, X737, e737, st737⟩ := castY X735 hx hZ hown (ww hw 96 rfl) e735 (Ins.self AE735) (g := (mkF m 6 #[] [(.ref b735)])) rfl rfl (hb hby d17_6)
 refine go (S' := T737.setTop (mkF m 9 #[] [(.ref b735)])) st737 ?_
 refine finR X737 hx hk hret rfl rfl (hb hby d17_9) (by decide) (by decide) ?_
 rw [e737]
 exact ⟨b735, rfl, N0, K736, A735⟩
theorem d18_0 : dd jdk_42_method_66_code 0 (.aload_n 0) 1 := by decide +kernel
theorem d18_1 : dd jdk_42_method_66_code 1 (.aload_n 1) 1 := by decide +kernel
theorem d18_2 : dd jdk_42_method_66_code 2 (.if_acmp .ne 5) 3 := by decide +kernel
theorem d18_7 : dd jdk_42_method_66_code 7 (.aload_n 1) 1 := by decide +kernel
theorem d18_8 : dd jdk_42_method_66_code 8 (.instanceof 10) 3 := by decide +kernel
theorem d18_11 : dd jdk_42_method_66_code 11 (.ifCond .eq 43) 3 := by decide +kernel
theorem d18_54 : dd jdk_42_method_66_code 54 (.iconst 0) 1 := by decide +kernel
theorem d18_55 : dd jdk_42_method_66_code 55 .ireturn 1 := by decide +kernel
abbrev y_21 : MethodName := ⟨"java/lang/String", "equals", "(Ljava/lang/Object;)Z"⟩
theorem pn_19 : plainFor y_21 = true := by first | exact plainFor_of_name (by first | (simp [plainName, overriddenIn]; done) | decide +kernel) | decide +kernel
theorem ef_rmEn (m : MethodId) (x1 : Addr) : entryFrame m #[(.ref x1), .null] 3 = mkF m 0 #[sr x1, .val .null, un] [] := by first | (simp [entryFrame, mkF, argsToLocals, Value.category]; done) | rfl
def Q_rmEn (Z : State) (x1 : Addr) (h0 : Heap) (n0 : Nat) (v : Option Value) (h : Heap) (L : List Loc) : Prop := v = some (.int 0) ∧ Fr n0 L ∧ h = h0
set_option maxRecDepth 65536 in
set_option maxHeartbeats 40000000 in
theorem rmEn (l : Launch) (Z : State) (a0 : Array Value) (hw : ∀ d ∈ tables_1, d.before a0 Z = true) (ws : List Jvm.Cond) (x1 : Addr) (h0 : Heap) (n0 : Nat) (Z0 : n0 ≤ h0.size)  :
    MetFree l y_21 (head1 (Jvm.Cond.code y_21 jdk_42_method_66_code 3 (some .boolean) :: ws) ({ frames := 0, cells := 0, slots := 0, locals := 0 } : Room)) (fun a U => a = #[(.ref x1), .null] ∧ Z.Warmed39 U.vm ∧ U.heap = h0) (fun _ _ _ _ _ => True) (fun _ U o U' => ∃ v L, o = .returned v ∧ Q_rmEn Z x1 h0 n0 v U'.heap L ∧ FrameEnd U o U' L ({ frames := 0, cells := 0, slots := 0, locals := 0 } : Room).cells ({ frames := 0, cells := 0, slots := 0, locals := 0 } : Room).slots) := by
 refine bodyOf pn_19 (fun m => ef_rmEn m x1) ?_
 intro p e s m below meth c T0 X0 hx hby hml hown hnm hret hk hZ e0
 have N0 := Fr.nil n0
 have K0 : Keep h0 h0 [] := Keep.refl _ _
 refine go (S' := T0.setTop (mkF m 11 #[sr x1, .val .null, un] [(.int 0)])) (fun t k => XS.aloadN X0.here hx rfl (hb hby d18_0) rfl rfl (XS.aloadN X0.here hx rfl (hb hby d18_1) rfl rfl (Jvm.RoadKit.acmp (g := (mkF m 2 #[sr x1, .val .null, un] [.null, (.ref x1)])) X0 hx rfl rfl rfl (pc0 := 2) (pc' := 7) (same := false) rfl (hb hby d18_2) rfl (decide_eq_false nofun) (by decide) (by decide) (XS.aloadN X0.here hx rfl (hb hby d18_7) rfl rfl (X0.instanceofNull hx (g := (mkF m 8 #[sr x1, .val .null, un] [.null])) rfl rfl (hb hby d18_8) _ k))))) ?_
 have hc738 : (0 : Int32) = (0 : Int32) := by decide
 refine go (S' := T0.setTop (mkF m 55 #[sr x1, .val .null, un] [(.int 0)])) (fun t k => XS.ifYes X0.here hx rfl (pc0 := 11) (pc' := 54) rfl (hb hby d18_11) rfl ((if0 _ _).trans (teq hc738).1) (by decide) (by decide) (XS.iconst X0.here hx rfl (hb hby d18_54) k)) ?_
 refine finN X0 hx hk (t := .boolean) hret (by simp) (hb hby d18_55) (by decide) (by decide) ?_
 rw [e0]
 exact ⟨rfl, N0, rfl⟩
theorem d16_0 : dd prog_51_method_4_code 0 (.invokestatic 52) 3 := by decide +kernel
theorem pd_13 : parseMethodDescriptor "()[Lcom/example/neti/neti/model/SpaceRole;" = some ⟨[], some (.array (.object "com/example/neti/neti/model/SpaceRole"))⟩ := by decide +kernel
theorem d16_3 : dd prog_51_method_4_code 3 (.astore_n 1) 1 := by decide +kernel
theorem d16_4 : dd prog_51_method_4_code 4 (.aload_n 1) 1 := by decide +kernel
theorem d16_5 : dd prog_51_method_4_code 5 .arraylength 1 := by decide +kernel
theorem d16_6 : dd prog_51_method_4_code 6 (.istore_n 2) 1 := by decide +kernel
theorem d16_7 : dd prog_51_method_4_code 7 (.iconst 0) 1 := by decide +kernel
theorem d16_8 : dd prog_51_method_4_code 8 (.istore_n 3) 1 := by decide +kernel
theorem d16_9 : dd prog_51_method_4_code 9 (.iload_n 3) 1 := by decide +kernel
theorem d16_10 : dd prog_51_method_4_code 10 (.iload_n 2) 1 := by decide +kernel
theorem d16_11 : dd prog_51_method_4_code 11 (.if_icmp .ge 32) 3 := by decide +kernel
theorem d16_14 : dd prog_51_method_4_code 14 (.aload_n 1) 1 := by decide +kernel
theorem d16_15 : dd prog_51_method_4_code 15 (.iload_n 3) 1 := by decide +kernel
theorem d16_16 : dd prog_51_method_4_code 16 .aaload 1 := by decide +kernel
theorem d16_17 : dd prog_51_method_4_code 17 (.astore 4) 2 := by decide +kernel
theorem d16_19 : dd prog_51_method_4_code 19 (.aload 4) 2 := by decide +kernel
theorem d16_21 : dd prog_51_method_4_code 21 (.getfield 35) 3 := by decide +kernel
theorem d16_24 : dd prog_51_method_4_code 24 (.aload_n 0) 1 := by decide +kernel
theorem d16_25 : dd prog_51_method_4_code 25 (.invokevirtual 56) 3 := by decide +kernel
theorem pd_14 : parseMethodDescriptor "(Ljava/lang/Object;)Z" = some ⟨[(.object "java/lang/Object")], some .boolean⟩ := by decide +kernel
theorem d16_28 : dd prog_51_method_4_code 28 (.ifCond .eq 9) 3 := by decide +kernel
theorem d16_37 : dd prog_51_method_4_code 37 (.iinc 3 1) 3 := by decide +kernel
theorem d16_40 : dd prog_51_method_4_code 40 (.goto (-31)) 3 := by decide +kernel
theorem d16_43 : dd prog_51_method_4_code 43 (.invokestatic 67) 3 := by decide +kernel
theorem pd_15 : parseMethodDescriptor "()Ljava/util/Optional;" = some ⟨[], some (.object "java/util/Optional")⟩ := by decide +kernel
theorem d16_46 : dd prog_51_method_4_code 46 .areturn 1 := by decide +kernel
abbrev y_22 : MethodName := ⟨"com/example/neti/neti/model/SpaceRole", "fromLabel", "(Ljava/lang/String;)Ljava/util/Optional;"⟩
theorem pn_20 : plainFor y_22 = true := by first | exact plainFor_of_name (by first | (simp [plainName, overriddenIn]; done) | decide +kernel) | decide +kernel
theorem ef_rmFn (m : MethodId)  : entryFrame m #[.null] 5 = mkF m 0 #[.val .null, un, un, un, un] [] := by first | (simp [entryFrame, mkF, argsToLocals, Value.category]; done) | rfl
def Q_rmFn (Z : State) (av : Addr) (kV : ClassId) (c1 : Addr) (c2 : Addr) (c3 : Addr) (c4 : Addr) (l1 : Addr) (l2 : Addr) (l3 : Addr) (l4 : Addr) (m1 : Addr) (m2 : Addr) (m3 : Addr) (m4 : Addr) (oe : Addr) (G1 : Int32) (h0 : Heap) (n0 : Nat) (v : Option Value) (h : Heap) (L : List Loc) : Prop := ∃ (r : Addr), v = some (.ref r) ∧ Fr n0 L ∧ Keep h0 h [] ∧ (Exa Z h r "java/util/Optional") ∧ (Fld Z h r "java/util/Optional" "value" "Ljava/lang/Object;" .null)
set_option maxRecDepth 65536 in
set_option maxHeartbeats 40000000 in
theorem rmFn (l : Launch) (Z : State) (a0 : Array Value) (hw : ∀ d ∈ tables_1, d.before a0 Z = true) (ws : List Jvm.Cond) (av : Addr) (kV : ClassId) (c1 : Addr) (c2 : Addr) (c3 : Addr) (c4 : Addr) (l1 : Addr) (l2 : Addr) (l3 : Addr) (l4 : Addr) (m1 : Addr) (m2 : Addr) (m3 : Addr) (m4 : Addr) (oe : Addr) (G1 : Int32) (h0 : Heap) (n0 : Nat) (Z0 : n0 ≤ h0.size) (hp0 : Sta Z Z.heap "com/example/neti/neti/model/SpaceRole" "$VALUES" "[Lcom/example/neti/neti/model/SpaceRole;" (.ref av)) (hp1 : Exa Z Z.heap av "[Lcom/example/neti/neti/model/SpaceRole;") (hp2 : Arv Z Z.heap av kV (.object "com/example/neti/neti/model/SpaceRole") (4 : Int32) [(.ref c1), (.ref c2), (.ref c3), (.ref c4)] .null) (hp3 : Fld Z Z.heap c1 "com/example/neti/neti/model/SpaceRole" "label" "Ljava/lang/String;" (.ref l1)) (hp4 : Str Z Z.heap l1 m1 (0 : Int32) ([111, 98, 115, 101, 114, 118, 101, 114] : List Int32)) (hp5 : Fld Z Z.heap c2 "com/example/neti/neti/model/SpaceRole" "label" "Ljava/lang/String;" (.ref l2)) (hp6 : Str Z Z.heap l2 m2 (0 : Int32) ([117, 115, 101, 114] : List Int32)) (hp7 : Fld Z Z.heap c3 "com/example/neti/neti/model/SpaceRole" "label" "Ljava/lang/String;" (.ref l3)) (hp8 : Str Z Z.heap l3 m3 (0 : Int32) ([112, 111, 119, 101, 114, 95, 117, 115, 101, 114] : List Int32)) (hp9 : Fld Z Z.heap c4 "com/example/neti/neti/model/SpaceRole" "label" "Ljava/lang/String;" (.ref l4)) (hp10 : Str Z Z.heap l4 m4 (0 : Int32) ([97, 100, 109, 105, 110] : List Int32)) (hp11 : Sta Z Z.heap "java/util/Optional" "EMPTY" "Ljava/util/Optional;" (.ref oe)) (hp12 : Exa Z Z.heap oe "java/util/Optional") (hp13 : Fld Z Z.heap oe "java/util/Optional" "value" "Ljava/lang/Object;" .null) (hp14 : Sta Z Z.heap "java/lang/String" "COMPACT_STRINGS" "Z" (.int G1)) (hG1 : ¬ (G1 = (0 : Int32))) (hp16 : Old Z n0 h0) :
    MetFree l y_22 (head1 (Jvm.Cond.code y_22 prog_51_method_4_code 5 (some (.object "java/util/Optional")) :: ws) ({ frames := 2, cells := 1, slots := 4, locals := 25 } : Room)) (fun a U => a = #[.null] ∧ Z.Warmed39 U.vm ∧ U.heap = h0) (fun _ _ _ _ _ => True) (fun _ U o U' => ∃ v L, o = .returned v ∧ Q_rmFn Z av kV c1 c2 c3 c4 l1 l2 l3 l4 m1 m2 m3 m4 oe G1 h0 n0 v U'.heap L ∧ FrameEnd U o U' L ({ frames := 2, cells := 1, slots := 4, locals := 25 } : Room).cells ({ frames := 2, cells := 1, slots := 4, locals := 25 } : Room).slots) := by
 refine bodyOf pn_20 (fun m => ef_rmFn m ) ?_
 intro p e s m below meth c T0 X0 hx hby hml hown hnm hret hk hZ e0
 have N0 := Fr.nil n0
 have K0 : Keep h0 h0 [] := Keep.refl _ _
 have O0 := hp16
 have O739 : Old Z n0 h0 := O0.keep K0 all0
 obtain ⟨v740, T740, L740, X740, hQ740, st740⟩ := callSt X0 hx hZ (y := y_20) hown (ww hw 80 rfl) (ww hw 81 rfl) (ww hw 10 rfl) (ww hw 82 rfl) (by decide) (backOf (W := 0) (rmVl l Z a0 hw [] av kV c1 c2 c3 c4 h0 n0 (Nat.le_trans Z0 K0.1) hp0 hp1 hp2 O739) hZ (ww hw 82 rfl) (ww hw 10 rfl) (by decide) (by decide)) (g := (mkF m 0 #[.val .null, un, un, un, un] [])) rfl (by rw [hml]; rfl) (kc := 1) (ks := 4) (argsL := []) (rest := []) (lenOf pd_13 rfl) rfl (mr0 rfl) (hb hby d16_0) e0 (by decide) (by decide)
 obtain ⟨r_740, rfl, N740q, Kq740, q740_0⟩ := hQ740
 have N740 := Fr.app N0 N740q
 have K741 : Keep h0 T740.heap [] := K0.trans Kq740 all0
 refine go (S' := T740.setTop (mkF m 5 #[.val .null, sr r_740, un, un, un] [(.ref r_740)])) (fun t k => st740 _ (XS.astoreN X740.here hx rfl (hb hby d16_3) rfl rfl (l' := #[.val .null, sr r_740, un, un, un]) rfl (XS.aloadN X740.here hx rfl (hb hby d16_4) rfl rfl k))) ?_
 obtain ⟨cl742, Ar742, -, S742, M742, -, -⟩ := id q740_0
 refine go (S' := T740.setTop (mkF m 11 #[.val .null, sr r_740, si 4, si 0, un] [(.int 4), (.int 0)])) (fun t k => X740.arraylength hx Ar742.1 (State.isArrayOf_alike hZ.alike Ar742.2.1) (g := (mkF m 5 #[.val .null, sr r_740, un, un, un] [(.ref r_740)])) rfl rfl (hb hby d16_5) _ (by rw [len_of S742 M742]; exact (XS.istoreN X740.here hx rfl (hb hby d16_6) rfl (l' := #[.val .null, sr r_740, si 4, un, un]) rfl (XS.iconst X740.here hx rfl (hb hby d16_7) (XS.istoreN X740.here hx rfl (hb hby d16_8) rfl (l' := #[.val .null, sr r_740, si 4, si 0, un]) rfl (XS.iloadN X740.here hx rfl (hb hby d16_9) rfl (XS.iloadN X740.here hx rfl (hb hby d16_10) rfl k))))))) ?_
 have hc743 : (0 : Int32) < (4 : Int32) := by decide
 refine go (S' := T740.setTop (mkF m 16 #[.val .null, sr r_740, si 4, si 0, un] [(.int 0), (.ref r_740)])) (fun t k => XS.icmpNo X740.here hx rfl (hb hby d16_11) rfl (tlt hc743).2.1 (XS.aloadN X740.here hx rfl (hb hby d16_14) rfl rfl (XS.iloadN X740.here hx rfl (hb hby d16_15) rfl k))) ?_
 obtain ⟨cl744, Ar744, q744, S744, M744, H744, G744⟩ := id q740_0
 have hin744 : ¬ ((0 : Int32) < 0 ∨ cl744.slots.size ≤ ((0 : Int32)).toNatClampNeg) := inb_of S744 ⟨by decide, by decide⟩
 have hat744 : cl744.slots[((0 : Int32)).toNatClampNeg]? = some (.ref c1) := Has.at H744 hin744 rfl
 refine go (S' := T740.setTop (mkF m 21 #[.val .null, sr r_740, si 4, si 0, sr c1] [(.ref c1)])) (fun t k => X740.aaload hx (j := (0 : Int32)) (v := (.ref c1)) Ar744.1 (State.isArrayOf_alike hZ.alike Ar744.2.1) rfl Ar744.2.2 hin744 hat744 (g := (mkF m 16 #[.val .null, sr r_740, si 4, si 0, un] [(.int 0), (.ref r_740)])) rfl rfl (hb hby d16_16) _ (XS.astore X740.here hx rfl (hb hby d16_17) rfl rfl (l' := #[.val .null, sr r_740, si 4, si 0, sr c1]) rfl (XS.aload X740.here hx rfl (hb hby d16_19) rfl rfl k))) ?_
 have O745 : Old Z n0 T740.heap := O0.keep K741 all0
 obtain ⟨T746, X746, e746, st746⟩ := getF X740 hx hZ hown (host := "") (Or.inl (ww hw 98 rfl)) Via.refl rfl (hp3.ext O745.2) (g := (mkF m 21 #[.val .null, sr r_740, si 4, si 0, sr c1] [(.ref c1)])) rfl rfl (hb hby d16_21)
 refine go (S' := T746.setTop (mkF m 25 #[.val .null, sr r_740, si 4, si 0, sr c1] [.null, (.ref l1)])) (fun t k => st746 _ (XS.aloadN X746.here hx rfl (hb hby d16_24) rfl rfl k)) ?_
 obtain ⟨v747, T747, L747, X747, hQ747, st747⟩ := callV X746 hx hZ (y := y_21) (z := y_21) hown (ww hw 100 rfl) (ww hw 101 rfl) (notFace_of_selects (args := #[]) (mvT hZ (ww hw 103 rfl))) (ww hw 103 rfl) (ww hw 102 rfl) (by decide) (backOf (W := 0) (rmEn l Z a0 hw [] l1 T740.heap n0 (Nat.le_trans Z0 K741.1) ) hZ (ww hw 104 rfl) (ww hw 2 rfl) (by decide) (by decide)) (hp4.ext O745.2).exa (g := (mkF m 25 #[.val .null, sr r_740, si 4, si 0, sr c1] [.null, (.ref l1)])) rfl (by rw [hml]; rfl) (kc := 0) (ks := 0) (argsL := [.null]) (rest := []) (lenOf pd_14 rfl) rfl (mr0 rfl) (hb hby d16_25) e746 (by decide) (by decide)
 obtain ⟨rfl, N747q, e747⟩ := hQ747
 have N747 := Fr.app N740 N747q
 refine go (S' := T747.setTop (mkF m 28 #[.val .null, sr r_740, si 4, si 0, sr c1] [(.int 0)])) st747 ?_
 have hc748 : (0 : Int32) = (0 : Int32) := by decide
 refine go (S' := T747.setTop (mkF m 11 #[.val .null, sr r_740, si 4, si 1, sr c1] [(.int 4), (.int 1)])) (fun t k => XS.ifYes X747.here hx rfl (pc0 := 28) (pc' := 37) rfl (hb hby d16_28) rfl ((if0 _ _).trans (teq hc748).1) (by decide) (by decide) (XS.iinc X747.here hx rfl (hb hby d16_37) rfl (l' := #[.val .null, sr r_740, si 4, si 1, sr c1]) rfl (XS.goto X747.here hx rfl (pc0 := 40) (pc' := 9) rfl (hb hby d16_40) (by decide) (by decide) (XS.iloadN X747.here hx rfl (hb hby d16_9) rfl (XS.iloadN X747.here hx rfl (hb hby d16_10) rfl k))))) ?_
 have hc749 : (1 : Int32) < (4 : Int32) := by decide
 refine go (S' := T747.setTop (mkF m 16 #[.val .null, sr r_740, si 4, si 1, sr c1] [(.int 1), (.ref r_740)])) (fun t k => XS.icmpNo X747.here hx rfl (hb hby d16_11) rfl (tlt hc749).2.1 (XS.aloadN X747.here hx rfl (hb hby d16_14) rfl rfl (XS.iloadN X747.here hx rfl (hb hby d16_15) rfl k))) ?_
 obtain ⟨cl750, Ar750, q750, S750, M750, H750, G750⟩ := id q740_0
 have hin750 : ¬ ((1 : Int32) < 0 ∨ cl750.slots.size ≤ ((1 : Int32)).toNatClampNeg) := inb_of S750 ⟨by decide, by decide⟩
 have hat750 : cl750.slots[((1 : Int32)).toNatClampNeg]? = some (.ref c2) := Has.at H750 hin750 rfl
 refine go (S' := T747.setTop (mkF m 21 #[.val .null, sr r_740, si 4, si 1, sr c2] [(.ref c2)])) (fun t k => X747.aaload hx (j := (1 : Int32)) (v := (.ref c2)) (by rw [e747]; exact Ar750.1) (State.isArrayOf_alike hZ.alike Ar750.2.1) rfl Ar750.2.2 hin750 hat750 (g := (mkF m 16 #[.val .null, sr r_740, si 4, si 1, sr c1] [(.int 1), (.ref r_740)])) rfl rfl (hb hby d16_16) _ (XS.astore X747.here hx rfl (hb hby d16_17) rfl rfl (l' := #[.val .null, sr r_740, si 4, si 1, sr c2]) rfl (XS.aload X747.here hx rfl (hb hby d16_19) rfl rfl k))) ?_
 obtain ⟨T751, X751, e751, st751⟩ := getF X747 hx hZ hown (host := "") (Or.inl (ww hw 98 rfl)) Via.refl e747 (hp5.ext O745.2) (g := (mkF m 21 #[.val .null, sr r_740, si 4, si 1, sr c2] [(.ref c2)])) rfl rfl (hb hby d16_21)
 refine go (S' := T751.setTop (mkF m 25 #[.val .null, sr r_740, si 4, si 1, sr c2] [.null, (.ref l2)])) (fun t k => st751 _ (XS.aloadN X751.here hx rfl (hb hby d16_24) rfl rfl k)) ?_
 obtain ⟨v752, T752, L752, X752, hQ752, st752⟩ := callV X751 hx hZ (y := y_21) (z := y_21) hown (ww hw 100 rfl) (ww hw 101 rfl) (notFace_of_selects (args := #[]) (mvT hZ (ww hw 103 rfl))) (ww hw 103 rfl) (ww hw 102 rfl) (by decide) (backOf (W := 0) (rmEn l Z a0 hw [] l2 T740.heap n0 (Nat.le_trans Z0 K741.1) ) hZ (ww hw 104 rfl) (ww hw 2 rfl) (by decide) (by decide)) (hp6.ext O745.2).exa (g := (mkF m 25 #[.val .null, sr r_740, si 4, si 1, sr c2] [.null, (.ref l2)])) rfl (by rw [hml]; rfl) (kc := 0) (ks := 0) (argsL := [.null]) (rest := []) (lenOf pd_14 rfl) rfl (mr0 rfl) (hb hby d16_25) e751 (by decide) (by decide)
 obtain ⟨rfl, N752q, e752⟩ := hQ752
 have N752 := Fr.app N747 N752q
 refine go (S' := T752.setTop (mkF m 28 #[.val .null, sr r_740, si 4, si 1, sr c2] [(.int 0)])) st752 ?_
 have hc753 : (0 : Int32) = (0 : Int32) := by decide
 refine go (S' := T752.setTop (mkF m 11 #[.val .null, sr r_740, si 4, si 2, sr c2] [(.int 4), (.int 2)])) (fun t k => XS.ifYes X752.here hx rfl (pc0 := 28) (pc' := 37) rfl (hb hby d16_28) rfl ((if0 _ _).trans (teq hc753).1) (by decide) (by decide) (XS.iinc X752.here hx rfl (hb hby d16_37) rfl (l' := #[.val .null, sr r_740, si 4, si 2, sr c2]) rfl (XS.goto X752.here hx rfl (pc0 := 40) (pc' := 9) rfl (hb hby d16_40) (by decide) (by decide) (XS.iloadN X752.here hx rfl (hb hby d16_9) rfl (XS.iloadN X752.here hx rfl (hb hby d16_10) rfl k))))) ?_
 have hc754 : (2 : Int32) < (4 : Int32) := by decide
 refine go (S' := T752.setTop (mkF m 16 #[.val .null, sr r_740, si 4, si 2, sr c2] [(.int 2), (.ref r_740)])) (fun t k => XS.icmpNo X752.here hx rfl (hb hby d16_11) rfl (tlt hc754).2.1 (XS.aloadN X752.here hx rfl (hb hby d16_14) rfl rfl (XS.iloadN X752.here hx rfl (hb hby d16_15) rfl k))) ?_
 obtain ⟨cl755, Ar755, q755, S755, M755, H755, G755⟩ := id q740_0
 have hin755 : ¬ ((2 : Int32) < 0 ∨ cl755.slots.size ≤ ((2 : Int32)).toNatClampNeg) := inb_of S755 ⟨by decide, by decide⟩
 have hat755 : cl755.slots[((2 : Int32)).toNatClampNeg]? = some (.ref c3) := Has.at H755 hin755 rfl
 refine go (S' := T752.setTop (mkF m 21 #[.val .null, sr r_740, si 4, si 2, sr c3] [(.ref c3)])) (fun t k => X752.aaload hx (j := (2 : Int32)) (v := (.ref c3)) (by rw [e752]; exact Ar755.1) (State.isArrayOf_alike hZ.alike Ar755.2.1) rfl Ar755.2.2 hin755 hat755 (g := (mkF m 16 #[.val .null, sr r_740, si 4, si 2, sr c2] [(.int 2), (.ref r_740)])) rfl rfl (hb hby d16_16) _ (XS.astore X752.here hx rfl (hb hby d16_17) rfl rfl (l' := #[.val .null, sr r_740, si 4, si 2, sr c3]) rfl (XS.aload X752.here hx rfl (hb hby d16_19) rfl rfl k))) ?_
 obtain ⟨T756, X756, e756, st756⟩ := getF X752 hx hZ hown (host := "") (Or.inl (ww hw 98 rfl)) Via.refl e752 (hp7.ext O745.2) (g := (mkF m 21 #[.val .null, sr r_740, si 4, si 2, sr c3] [(.ref c3)])) rfl rfl (hb hby d16_21)
 refine go (S' := T756.setTop (mkF m 25 #[.val .null, sr r_740, si 4, si 2, sr c3] [.null, (.ref l3)])) (fun t k => st756 _ (XS.aloadN X756.here hx rfl (hb hby d16_24) rfl rfl k)) ?_
 obtain ⟨v757, T757, L757, X757, hQ757, st757⟩ := callV X756 hx hZ (y := y_21) (z := y_21) hown (ww hw 100 rfl) (ww hw 101 rfl) (notFace_of_selects (args := #[]) (mvT hZ (ww hw 103 rfl))) (ww hw 103 rfl) (ww hw 102 rfl) (by decide) (backOf (W := 0) (rmEn l Z a0 hw [] l3 T740.heap n0 (Nat.le_trans Z0 K741.1) ) hZ (ww hw 104 rfl) (ww hw 2 rfl) (by decide) (by decide)) (hp8.ext O745.2).exa (g := (mkF m 25 #[.val .null, sr r_740, si 4, si 2, sr c3] [.null, (.ref l3)])) rfl (by rw [hml]; rfl) (kc := 0) (ks := 0) (argsL := [.null]) (rest := []) (lenOf pd_14 rfl) rfl (mr0 rfl) (hb hby d16_25) e756 (by decide) (by decide)
 obtain ⟨rfl, N757q, e757⟩ := hQ757
 have N757 := Fr.app N752 N757q
 refine go (S' := T757.setTop (mkF m 28 #[.val .null, sr r_740, si 4, si 2, sr c3] [(.int 0)])) st757 ?_
 have hc758 : (0 : Int32) = (0 : Int32) := by decide
 refine go (S' := T757.setTop (mkF m 11 #[.val .null, sr r_740, si 4, si 3, sr c3] [(.int 4), (.int 3)])) (fun t k => XS.ifYes X757.here hx rfl (pc0 := 28) (pc' := 37) rfl (hb hby d16_28) rfl ((if0 _ _).trans (teq hc758).1) (by decide) (by decide) (XS.iinc X757.here hx rfl (hb hby d16_37) rfl (l' := #[.val .null, sr r_740, si 4, si 3, sr c3]) rfl (XS.goto X757.here hx rfl (pc0 := 40) (pc' := 9) rfl (hb hby d16_40) (by decide) (by decide) (XS.iloadN X757.here hx rfl (hb hby d16_9) rfl (XS.iloadN X757.here hx rfl (hb hby d16_10) rfl k))))) ?_
 have hc759 : (3 : Int32) < (4 : Int32) := by decide
 refine go (S' := T757.setTop (mkF m 16 #[.val .null, sr r_740, si 4, si 3, sr c3] [(.int 3), (.ref r_740)])) (fun t k => XS.icmpNo X757.here hx rfl (hb hby d16_11) rfl (tlt hc759).2.1 (XS.aloadN X757.here hx rfl (hb hby d16_14) rfl rfl (XS.iloadN X757.here hx rfl (hb hby d16_15) rfl k))) ?_
 obtain ⟨cl760, Ar760, q760, S760, M760, H760, G760⟩ := id q740_0
 have hin760 : ¬ ((3 : Int32) < 0 ∨ cl760.slots.size ≤ ((3 : Int32)).toNatClampNeg) := inb_of S760 ⟨by decide, by decide⟩
 have hat760 : cl760.slots[((3 : Int32)).toNatClampNeg]? = some (.ref c4) := Has.at H760 hin760 rfl
 refine go (S' := T757.setTop (mkF m 21 #[.val .null, sr r_740, si 4, si 3, sr c4] [(.ref c4)])) (fun t k => X757.aaload hx (j := (3 : Int32)) (v := (.ref c4)) (by rw [e757]; exact Ar760.1) (State.isArrayOf_alike hZ.alike Ar760.2.1) rfl Ar760.2.2 hin760 hat760 (g := (mkF m 16 #[.val .null, sr r_740, si 4, si 3, sr c3] [(.int 3), (.ref r_740)])) rfl rfl (hb hby d16_16) _ (XS.astore X757.here hx rfl (hb hby d16_17) rfl rfl (l' := #[.val .null, sr r_740, si 4, si 3, sr c4]) rfl (XS.aload X757.here hx rfl (hb hby d16_19) rfl rfl k))) ?_
 obtain ⟨T761, X761, e761, st761⟩ := getF X757 hx hZ hown (host := "") (Or.inl (ww hw 98 rfl)) Via.refl e757 (hp9.ext O745.2) (g := (mkF m 21 #[.val .null, sr r_740, si 4, si 3, sr c4] [(.ref c4)])) rfl rfl (hb hby d16_21)
 refine go (S' := T761.setTop (mkF m 25 #[.val .null, sr r_740, si 4, si 3, sr c4] [.null, (.ref l4)])) (fun t k => st761 _ (XS.aloadN X761.here hx rfl (hb hby d16_24) rfl rfl k)) ?_
 obtain ⟨v762, T762, L762, X762, hQ762, st762⟩ := callV X761 hx hZ (y := y_21) (z := y_21) hown (ww hw 100 rfl) (ww hw 101 rfl) (notFace_of_selects (args := #[]) (mvT hZ (ww hw 103 rfl))) (ww hw 103 rfl) (ww hw 102 rfl) (by decide) (backOf (W := 0) (rmEn l Z a0 hw [] l4 T740.heap n0 (Nat.le_trans Z0 K741.1) ) hZ (ww hw 104 rfl) (ww hw 2 rfl) (by decide) (by decide)) (hp10.ext O745.2).exa (g := (mkF m 25 #[.val .null, sr r_740, si 4, si 3, sr c4] [.null, (.ref l4)])) rfl (by rw [hml]; rfl) (kc := 0) (ks := 0) (argsL := [.null]) (rest := []) (lenOf pd_14 rfl) rfl (mr0 rfl) (hb hby d16_25) e761 (by decide) (by decide)
 obtain ⟨rfl, N762q, e762⟩ := hQ762
 have N762 := Fr.app N757 N762q
 refine go (S' := T762.setTop (mkF m 28 #[.val .null, sr r_740, si 4, si 3, sr c4] [(.int 0)])) st762 ?_
 have hc763 : (0 : Int32) = (0 : Int32) := by decide
 refine go (S' := T762.setTop (mkF m 11 #[.val .null, sr r_740, si 4, si 4, sr c4] [(.int 4), (.int 4)])) (fun t k => XS.ifYes X762.here hx rfl (pc0 := 28) (pc' := 37) rfl (hb hby d16_28) rfl ((if0 _ _).trans (teq hc763).1) (by decide) (by decide) (XS.iinc X762.here hx rfl (hb hby d16_37) rfl (l' := #[.val .null, sr r_740, si 4, si 4, sr c4]) rfl (XS.goto X762.here hx rfl (pc0 := 40) (pc' := 9) rfl (hb hby d16_40) (by decide) (by decide) (XS.iloadN X762.here hx rfl (hb hby d16_9) rfl (XS.iloadN X762.here hx rfl (hb hby d16_10) rfl k))))) ?_
 have hc764 : ¬ ((4 : Int32) < (4 : Int32)) := by decide
 refine go (S' := T762.setTop (mkF m 43 #[.val .null, sr r_740, si 4, si 4, sr c4] [])) (fun t k => XS.icmpYes X762.here hx rfl (pc0 := 11) (pc' := 43) rfl (hb hby d16_11) rfl (flt hc764).2.1 (by decide) (by decide) k) ?_
 obtain ⟨v765, T765, L765, X765, hQ765, st765⟩ := callSt X762 hx hZ (y := y_14) hown (ww hw 109 rfl) (ww hw 110 rfl) (ww hw 111 rfl) (ww hw 112 rfl) (by decide) (backOf (W := 0) (rmEmp l Z a0 hw [] oe T740.heap n0 (Nat.le_trans Z0 K741.1) hp11 O745) hZ (ww hw 112 rfl) (ww hw 111 rfl) (by decide) (by decide)) (g := (mkF m 43 #[.val .null, sr r_740, si 4, si 4, sr c4] [])) rfl (by rw [hml]; rfl) (kc := 0) (ks := 0) (argsL := []) (rest := []) (lenOf pd_15 rfl) rfl (mr0 rfl) (hb hby d16_43) e762 (by decide) (by decide)
 obtain ⟨rfl, N765q, e765⟩ := hQ765
 have N765 := Fr.app N762 N765q
 refine go (S' := T765.setTop (mkF m 46 #[.val .null, sr r_740, si 4, si 4, sr c4] [(.ref oe)])) st765 ?_
 refine finR X765 hx hk hret rfl rfl (hb hby d16_46) (by decide) (by decide) ?_
 rw [e765]
 exact ⟨oe, rfl, N765, K741, (hp12.ext O745.2), (hp13.ext O745.2)⟩
theorem d16_31 : dd prog_51_method_4_code 31 (.aload 4) 2 := by decide +kernel
theorem d16_33 : dd prog_51_method_4_code 33 (.invokestatic 62) 3 := by decide +kernel
theorem pd_16 : parseMethodDescriptor "(Ljava/lang/Object;)Ljava/util/Optional;" = some ⟨[(.object "java/lang/Object")], some (.object "java/util/Optional")⟩ := by decide +kernel
theorem d16_36 : dd prog_51_method_4_code 36 .areturn 1 := by decide +kernel
theorem ef_rmFl (m : MethodId) (x1 : Addr) : entryFrame m #[(.ref x1)] 5 = mkF m 0 #[sr x1, un, un, un, un] [] := by first | (simp [entryFrame, mkF, argsToLocals, Value.category]; done) | rfl
def Q_rmFl (Z : State) (x1 : Addr) (t1 : Addr) (cd : Int32) (cs : List Int32) (av : Addr) (kV : ClassId) (c1 : Addr) (c2 : Addr) (c3 : Addr) (c4 : Addr) (l1 : Addr) (l2 : Addr) (l3 : Addr) (l4 : Addr) (m1 : Addr) (m2 : Addr) (m3 : Addr) (m4 : Addr) (oe : Addr) (G1 : Int32) (h0 : Heap) (n0 : Nat) (v : Option Value) (h : Heap) (L : List Loc) : Prop := ∃ (r : Addr), ∃ (rv : Value), v = some (.ref r) ∧ Fr n0 L ∧ Keep h0 h [] ∧ (Exa Z h r "java/util/Optional") ∧ (Fld Z h r "java/util/Optional" "value" "Ljava/lang/Object;" rv) ∧ (rv = own_find cs c1 c2 c3 c4)
set_option maxRecDepth 65536 in
set_option maxHeartbeats 40000000 in
theorem rmFl (l : Launch) (Z : State) (a0 : Array Value) (hw : ∀ d ∈ tables_1, d.before a0 Z = true) (ws : List Jvm.Cond) (x1 : Addr) (t1 : Addr) (cd : Int32) (cs : List Int32) (av : Addr) (kV : ClassId) (c1 : Addr) (c2 : Addr) (c3 : Addr) (c4 : Addr) (l1 : Addr) (l2 : Addr) (l3 : Addr) (l4 : Addr) (m1 : Addr) (m2 : Addr) (m3 : Addr) (m4 : Addr) (oe : Addr) (G1 : Int32) (h0 : Heap) (n0 : Nat) (Z0 : n0 ≤ h0.size) (hp0 : Str Z h0 x1 t1 cd cs) (hp1 : Sta Z Z.heap "com/example/neti/neti/model/SpaceRole" "$VALUES" "[Lcom/example/neti/neti/model/SpaceRole;" (.ref av)) (hp2 : Exa Z Z.heap av "[Lcom/example/neti/neti/model/SpaceRole;") (hp3 : Arv Z Z.heap av kV (.object "com/example/neti/neti/model/SpaceRole") (4 : Int32) [(.ref c1), (.ref c2), (.ref c3), (.ref c4)] .null) (hp4 : Fld Z Z.heap c1 "com/example/neti/neti/model/SpaceRole" "label" "Ljava/lang/String;" (.ref l1)) (hp5 : Str Z Z.heap l1 m1 (0 : Int32) ([111, 98, 115, 101, 114, 118, 101, 114] : List Int32)) (hp6 : Fld Z Z.heap c2 "com/example/neti/neti/model/SpaceRole" "label" "Ljava/lang/String;" (.ref l2)) (hp7 : Str Z Z.heap l2 m2 (0 : Int32) ([117, 115, 101, 114] : List Int32)) (hp8 : Fld Z Z.heap c3 "com/example/neti/neti/model/SpaceRole" "label" "Ljava/lang/String;" (.ref l3)) (hp9 : Str Z Z.heap l3 m3 (0 : Int32) ([112, 111, 119, 101, 114, 95, 117, 115, 101, 114] : List Int32)) (hp10 : Fld Z Z.heap c4 "com/example/neti/neti/model/SpaceRole" "label" "Ljava/lang/String;" (.ref l4)) (hp11 : Str Z Z.heap l4 m4 (0 : Int32) ([97, 100, 109, 105, 110] : List Int32)) (hp12 : Sta Z Z.heap "java/util/Optional" "EMPTY" "Ljava/util/Optional;" (.ref oe)) (hp13 : Exa Z Z.heap oe "java/util/Optional") (hp14 : Fld Z Z.heap oe "java/util/Optional" "value" "Ljava/lang/Object;" .null) (hp15 : Sta Z Z.heap "java/lang/String" "COMPACT_STRINGS" "Z" (.int G1)) (hG1 : ¬ (G1 = (0 : Int32))) (hp17 : Old Z n0 h0) :
    MetFree l y_22 (head1 (Jvm.Cond.code y_22 prog_51_method_4_code 5 (some (.object "java/util/Optional")) :: ws) ({ frames := 3, cells := 2, slots := 5, locals := 38 } : Room)) (fun a U => a = #[(.ref x1)] ∧ Z.Warmed39 U.vm ∧ U.heap = h0) (fun _ _ _ _ _ => True) (fun _ U o U' => ∃ v L, o = .returned v ∧ Q_rmFl Z x1 t1 cd cs av kV c1 c2 c3 c4 l1 l2 l3 l4 m1 m2 m3 m4 oe G1 h0 n0 v U'.heap L ∧ FrameEnd U o U' L ({ frames := 3, cells := 2, slots := 5, locals := 38 } : Room).cells ({ frames := 3, cells := 2, slots := 5, locals := 38 } : Room).slots) := by
 refine bodyOf pn_20 (fun m => ef_rmFl m x1) ?_
 intro p e s m below meth c T0 X0 hx hby hml hown hnm hret hk hZ e0
 have N0 := Fr.nil n0
 have K0 : Keep h0 h0 [] := Keep.refl _ _
 have O0 := hp17
 have O766 : Old Z n0 h0 := O0.keep K0 all0
 obtain ⟨v767, T767, L767, X767, hQ767, st767⟩ := callSt X0 hx hZ (y := y_20) hown (ww hw 80 rfl) (ww hw 81 rfl) (ww hw 10 rfl) (ww hw 82 rfl) (by decide) (backOf (W := 0) (rmVl l Z a0 hw [] av kV c1 c2 c3 c4 h0 n0 (Nat.le_trans Z0 K0.1) hp1 hp2 hp3 O766) hZ (ww hw 82 rfl) (ww hw 10 rfl) (by decide) (by decide)) (g := (mkF m 0 #[sr x1, un, un, un, un] [])) rfl (by rw [hml]; rfl) (kc := 1) (ks := 4) (argsL := []) (rest := []) (lenOf pd_13 rfl) rfl (mr0 rfl) (hb hby d16_0) e0 (by decide) (by decide)
 obtain ⟨r_767, rfl, N767q, Kq767, q767_0⟩ := hQ767
 have N767 := Fr.app N0 N767q
 have K768 : Keep h0 T767.heap [] := K0.trans Kq767 all0
 refine go (S' := T767.setTop (mkF m 5 #[sr x1, sr r_767, un, un, un] [(.ref r_767)])) (fun t k => st767 _ (XS.astoreN X767.here hx rfl (hb hby d16_3) rfl rfl (l' := #[sr x1, sr r_767, un, un, un]) rfl (XS.aloadN X767.here hx rfl (hb hby d16_4) rfl rfl k))) ?_
 obtain ⟨cl769, Ar769, -, S769, M769, -, -⟩ := id q767_0
 refine go (S' := T767.setTop (mkF m 11 #[sr x1, sr r_767, si 4, si 0, un] [(.int 4), (.int 0)])) (fun t k => X767.arraylength hx Ar769.1 (State.isArrayOf_alike hZ.alike Ar769.2.1) (g := (mkF m 5 #[sr x1, sr r_767, un, un, un] [(.ref r_767)])) rfl rfl (hb hby d16_5) _ (by rw [len_of S769 M769]; exact (XS.istoreN X767.here hx rfl (hb hby d16_6) rfl (l' := #[sr x1, sr r_767, si 4, un, un]) rfl (XS.iconst X767.here hx rfl (hb hby d16_7) (XS.istoreN X767.here hx rfl (hb hby d16_8) rfl (l' := #[sr x1, sr r_767, si 4, si 0, un]) rfl (XS.iloadN X767.here hx rfl (hb hby d16_9) rfl (XS.iloadN X767.here hx rfl (hb hby d16_10) rfl k))))))) ?_
 have hc770 : (0 : Int32) < (4 : Int32) := by decide
 refine go (S' := T767.setTop (mkF m 16 #[sr x1, sr r_767, si 4, si 0, un] [(.int 0), (.ref r_767)])) (fun t k => XS.icmpNo X767.here hx rfl (hb hby d16_11) rfl (tlt hc770).2.1 (XS.aloadN X767.here hx rfl (hb hby d16_14) rfl rfl (XS.iloadN X767.here hx rfl (hb hby d16_15) rfl k))) ?_
 obtain ⟨cl771, Ar771, q771, S771, M771, H771, G771⟩ := id q767_0
 have hin771 : ¬ ((0 : Int32) < 0 ∨ cl771.slots.size ≤ ((0 : Int32)).toNatClampNeg) := inb_of S771 ⟨by decide, by decide⟩
 have hat771 : cl771.slots[((0 : Int32)).toNatClampNeg]? = some (.ref c1) := Has.at H771 hin771 rfl
 refine go (S' := T767.setTop (mkF m 21 #[sr x1, sr r_767, si 4, si 0, sr c1] [(.ref c1)])) (fun t k => X767.aaload hx (j := (0 : Int32)) (v := (.ref c1)) Ar771.1 (State.isArrayOf_alike hZ.alike Ar771.2.1) rfl Ar771.2.2 hin771 hat771 (g := (mkF m 16 #[sr x1, sr r_767, si 4, si 0, un] [(.int 0), (.ref r_767)])) rfl rfl (hb hby d16_16) _ (XS.astore X767.here hx rfl (hb hby d16_17) rfl rfl (l' := #[sr x1, sr r_767, si 4, si 0, sr c1]) rfl (XS.aload X767.here hx rfl (hb hby d16_19) rfl rfl k))) ?_
 have O772 : Old Z n0 T767.heap := O0.keep K768 all0
 obtain ⟨T773, X773, e773, st773⟩ := getF X767 hx hZ hown (host := "") (Or.inl (ww hw 98 rfl)) Via.refl rfl (hp4.ext O772.2) (g := (mkF m 21 #[sr x1, sr r_767, si 4, si 0, sr c1] [(.ref c1)])) rfl rfl (hb hby d16_21)
 refine go (S' := T773.setTop (mkF m 25 #[sr x1, sr r_767, si 4, si 0, sr c1] [(.ref x1), (.ref l1)])) (fun t k => st773 _ (XS.aloadN X773.here hx rfl (hb hby d16_24) rfl rfl k)) ?_
 obtain ⟨kb774, N2774, vs774, qE774, qV774, qC774, qA774, qcd774, qbd774, ql774⟩ := id (hp5.ext O772.2)
 obtain ⟨kb775, N2775, vs775, qE775, qV775, qC775, qA775, qcd775, qbd775, ql775⟩ := id (hp0.keep K768 nin0 nin0)
 obtain ⟨v776, T776, L776, X776, hQ776, st776⟩ := callV X773 hx hZ (y := y_21) (z := y_21) hown (ww hw 100 rfl) (ww hw 101 rfl) (notFace_of_selects (args := #[]) (mvT hZ (ww hw 103 rfl))) (ww hw 103 rfl) (ww hw 102 rfl) (by decide) (StrChars.Road.eqW (W := 0) hZ (own_sub StrChars_wordsEq hw) (kI := 4) (ww hw 3 rfl) qE774 qV774 qC774 qA774 qcd774 qbd774 ql774 qE775 qV775 qC775 qA775 qcd775 qbd775 ql775 (hp15.ext O772.2) hG1 (by decide) (by decide)) (hp5.ext O772.2).exa (g := (mkF m 25 #[sr x1, sr r_767, si 4, si 0, sr c1] [(.ref x1), (.ref l1)])) rfl (by rw [hml]; rfl) (Q := (fun v h' L => ((v = some (.int 1) ∧ ([111, 98, 115, 101, 114, 118, 101, 114] : List Int32) = cs) ∨ (v = some (.int 0) ∧ ¬ ([111, 98, 115, 101, 114, 118, 101, 114] : List Int32) = cs)) ∧ L = [] ∧ h' = T767.heap)) (kc := 0) (ks := 0) (argsL := [(.ref x1)]) (rest := []) (lenOf pd_14 rfl) rfl (mr0 rfl) (hb hby d16_25) e773 (by decide) (by decide)
 obtain ⟨hv776, rfl, e776⟩ := hQ776
 have hw776 : v776 = some (.int (if ([111, 98, 115, 101, 114, 118, 101, 114] : List Int32) = cs then (1 : Int32) else (0 : Int32))) := by rcases hv776 with ⟨a, b⟩ | ⟨a, b⟩; rw [a, if_pos b]; rw [a, if_neg b]
 subst hw776
 have N776 := Fr.app N767 (Fr.nil n0)
 refine go (S' := T776.setTop (mkF m 28 #[sr x1, sr r_767, si 4, si 0, sr c1] [(.int (if ([111, 98, 115, 101, 114, 118, 101, 114] : List Int32) = cs then (1 : Int32) else (0 : Int32)))])) st776 ?_
 by_cases hc777 : (if ([111, 98, 115, 101, 114, 118, 101, 114] : List Int32) = cs then (1 : Int32) else (0 : Int32)) = (0 : Int32)
 ·
  refine go (S' := T776.setTop (mkF m 11 #[sr x1, sr r_767, si 4, si 1, sr c1] [(.int 4), (.int 1)])) (fun t k => XS.ifYes X776.here hx rfl (pc0 := 28) (pc' := 37) rfl (hb hby d16_28) rfl ((if0 _ _).trans (teq hc777).1) (by decide) (by decide) (XS.iinc X776.here hx rfl (hb hby d16_37) rfl (l' := #[sr x1, sr r_767, si 4, si 1, sr c1]) rfl (XS.goto X776.here hx rfl (pc0 := 40) (pc' := 9) rfl (hb hby d16_40) (by decide) (by decide) (XS.iloadN X776.here hx rfl (hb hby d16_9) rfl (XS.iloadN X776.here hx rfl (hb hby d16_10) rfl k))))) ?_
  have hc778 : (1 : Int32) < (4 : Int32) := by decide
  refine go (S' := T776.setTop (mkF m 16 #[sr x1, sr r_767, si 4, si 1, sr c1] [(.int 1), (.ref r_767)])) (fun t k => XS.icmpNo X776.here hx rfl (hb hby d16_11) rfl (tlt hc778).2.1 (XS.aloadN X776.here hx rfl (hb hby d16_14) rfl rfl (XS.iloadN X776.here hx rfl (hb hby d16_15) rfl k))) ?_
  obtain ⟨cl779, Ar779, q779, S779, M779, H779, G779⟩ := id q767_0
  have hin779 : ¬ ((1 : Int32) < 0 ∨ cl779.slots.size ≤ ((1 : Int32)).toNatClampNeg) := inb_of S779 ⟨by decide, by decide⟩
  have hat779 : cl779.slots[((1 : Int32)).toNatClampNeg]? = some (.ref c2) := Has.at H779 hin779 rfl
  refine go (S' := T776.setTop (mkF m 21 #[sr x1, sr r_767, si 4, si 1, sr c2] [(.ref c2)])) (fun t k => X776.aaload hx (j := (1 : Int32)) (v := (.ref c2)) (by rw [e776]; exact Ar779.1) (State.isArrayOf_alike hZ.alike Ar779.2.1) rfl Ar779.2.2 hin779 hat779 (g := (mkF m 16 #[sr x1, sr r_767, si 4, si 1, sr c1] [(.int 1), (.ref r_767)])) rfl rfl (hb hby d16_16) _ (XS.astore X776.here hx rfl (hb hby d16_17) rfl rfl (l' := #[sr x1, sr r_767, si 4, si 1, sr c2]) rfl (XS.aload X776.here hx rfl (hb hby d16_19) rfl rfl k))) ?_
  obtain ⟨T780, X780, e780, st780⟩ := getF X776 hx hZ hown (host := "") (Or.inl (ww hw 98 rfl)) Via.refl e776 (hp6.ext O772.2) (g := (mkF m 21 #[sr x1, sr r_767, si 4, si 1, sr c2] [(.ref c2)])) rfl rfl (hb hby d16_21)
  refine go (S' := T780.setTop (mkF m 25 #[sr x1, sr r_767, si 4, si 1, sr c2] [(.ref x1), (.ref l2)])) (fun t k => st780 _ (XS.aloadN X780.here hx rfl (hb hby d16_24) rfl rfl k)) ?_
  obtain ⟨kb781, N2781, vs781, qE781, qV781, qC781, qA781, qcd781, qbd781, ql781⟩ := id (hp7.ext O772.2)
  obtain ⟨kb782, N2782, vs782, qE782, qV782, qC782, qA782, qcd782, qbd782, ql782⟩ := id (hp0.keep K768 nin0 nin0)
  obtain ⟨v783, T783, L783, X783, hQ783, st783⟩ := callV X780 hx hZ (y := y_21) (z := y_21) hown (ww hw 100 rfl) (ww hw 101 rfl) (notFace_of_selects (args := #[]) (mvT hZ (ww hw 103 rfl))) (ww hw 103 rfl) (ww hw 102 rfl) (by decide) (StrChars.Road.eqW (W := 0) hZ (own_sub StrChars_wordsEq hw) (kI := 4) (ww hw 3 rfl) qE781 qV781 qC781 qA781 qcd781 qbd781 ql781 qE782 qV782 qC782 qA782 qcd782 qbd782 ql782 (hp15.ext O772.2) hG1 (by decide) (by decide)) (hp7.ext O772.2).exa (g := (mkF m 25 #[sr x1, sr r_767, si 4, si 1, sr c2] [(.ref x1), (.ref l2)])) rfl (by rw [hml]; rfl) (Q := (fun v h' L => ((v = some (.int 1) ∧ ([117, 115, 101, 114] : List Int32) = cs) ∨ (v = some (.int 0) ∧ ¬ ([117, 115, 101, 114] : List Int32) = cs)) ∧ L = [] ∧ h' = T767.heap)) (kc := 0) (ks := 0) (argsL := [(.ref x1)]) (rest := []) (lenOf pd_14 rfl) rfl (mr0 rfl) (hb hby d16_25) e780 (by decide) (by decide)
  obtain ⟨hv783, rfl, e783⟩ := hQ783
  have hw783 : v783 = some (.int (if ([117, 115, 101, 114] : List Int32) = cs then (1 : Int32) else (0 : Int32))) := by rcases hv783 with ⟨a, b⟩ | ⟨a, b⟩; rw [a, if_pos b]; rw [a, if_neg b]
  subst hw783
  have N783 := Fr.app N776 (Fr.nil n0)
  refine go (S' := T783.setTop (mkF m 28 #[sr x1, sr r_767, si 4, si 1, sr c2] [(.int (if ([117, 115, 101, 114] : List Int32) = cs then (1 : Int32) else (0 : Int32)))])) st783 ?_
  by_cases hc784 : (if ([117, 115, 101, 114] : List Int32) = cs then (1 : Int32) else (0 : Int32)) = (0 : Int32)
  ·
   refine go (S' := T783.setTop (mkF m 11 #[sr x1, sr r_767, si 4, si 2, sr c2] [(.int 4), (.int 2)])) (fun t k => XS.ifYes X783.here hx rfl (pc0 := 28) (pc' := 37) rfl (hb hby d16_28) rfl ((if0 _ _).trans (teq hc784).1) (by decide) (by decide) (XS.iinc X783.here hx rfl (hb hby d16_37) rfl (l' := #[sr x1, sr r_767, si 4, si 2, sr c2]) rfl (XS.goto X783.here hx rfl (pc0 := 40) (pc' := 9) rfl (hb hby d16_40) (by decide) (by decide) (XS.iloadN X783.here hx rfl (hb hby d16_9) rfl (XS.iloadN X783.here hx rfl (hb hby d16_10) rfl k))))) ?_
   have hc785 : (2 : Int32) < (4 : Int32) := by decide
   refine go (S' := T783.setTop (mkF m 16 #[sr x1, sr r_767, si 4, si 2, sr c2] [(.int 2), (.ref r_767)])) (fun t k => XS.icmpNo X783.here hx rfl (hb hby d16_11) rfl (tlt hc785).2.1 (XS.aloadN X783.here hx rfl (hb hby d16_14) rfl rfl (XS.iloadN X783.here hx rfl (hb hby d16_15) rfl k))) ?_
   obtain ⟨cl786, Ar786, q786, S786, M786, H786, G786⟩ := id q767_0
   have hin786 : ¬ ((2 : Int32) < 0 ∨ cl786.slots.size ≤ ((2 : Int32)).toNatClampNeg) := inb_of S786 ⟨by decide, by decide⟩
   have hat786 : cl786.slots[((2 : Int32)).toNatClampNeg]? = some (.ref c3) := Has.at H786 hin786 rfl
   refine go (S' := T783.setTop (mkF m 21 #[sr x1, sr r_767, si 4, si 2, sr c3] [(.ref c3)])) (fun t k => X783.aaload hx (j := (2 : Int32)) (v := (.ref c3)) (by rw [e783]; exact Ar786.1) (State.isArrayOf_alike hZ.alike Ar786.2.1) rfl Ar786.2.2 hin786 hat786 (g := (mkF m 16 #[sr x1, sr r_767, si 4, si 2, sr c2] [(.int 2), (.ref r_767)])) rfl rfl (hb hby d16_16) _ (XS.astore X783.here hx rfl (hb hby d16_17) rfl rfl (l' := #[sr x1, sr r_767, si 4, si 2, sr c3]) rfl (XS.aload X783.here hx rfl (hb hby d16_19) rfl rfl k))) ?_
   obtain ⟨T787, X787, e787, st787⟩ := getF X783 hx hZ hown (host := "") (Or.inl (ww hw 98 rfl)) Via.refl e783 (hp8.ext O772.2) (g := (mkF m 21 #[sr x1, sr r_767, si 4, si 2, sr c3] [(.ref c3)])) rfl rfl (hb hby d16_21)
   refine go (S' := T787.setTop (mkF m 25 #[sr x1, sr r_767, si 4, si 2, sr c3] [(.ref x1), (.ref l3)])) (fun t k => st787 _ (XS.aloadN X787.here hx rfl (hb hby d16_24) rfl rfl k)) ?_
   obtain ⟨kb788, N2788, vs788, qE788, qV788, qC788, qA788, qcd788, qbd788, ql788⟩ := id (hp9.ext O772.2)
   obtain ⟨kb789, N2789, vs789, qE789, qV789, qC789, qA789, qcd789, qbd789, ql789⟩ := id (hp0.keep K768 nin0 nin0)
   obtain ⟨v790, T790, L790, X790, hQ790, st790⟩ := callV X787 hx hZ (y := y_21) (z := y_21) hown (ww hw 100 rfl) (ww hw 101 rfl) (notFace_of_selects (args := #[]) (mvT hZ (ww hw 103 rfl))) (ww hw 103 rfl) (ww hw 102 rfl) (by decide) (StrChars.Road.eqW (W := 0) hZ (own_sub StrChars_wordsEq hw) (kI := 4) (ww hw 3 rfl) qE788 qV788 qC788 qA788 qcd788 qbd788 ql788 qE789 qV789 qC789 qA789 qcd789 qbd789 ql789 (hp15.ext O772.2) hG1 (by decide) (by decide)) (hp9.ext O772.2).exa (g := (mkF m 25 #[sr x1, sr r_767, si 4, si 2, sr c3] [(.ref x1), (.ref l3)])) rfl (by rw [hml]; rfl) (Q := (fun v h' L => ((v = some (.int 1) ∧ ([112, 111, 119, 101, 114, 95, 117, 115, 101, 114] : List Int32) = cs) ∨ (v = some (.int 0) ∧ ¬ ([112, 111, 119, 101, 114, 95, 117, 115, 101, 114] : List Int32) = cs)) ∧ L = [] ∧ h' = T767.heap)) (kc := 0) (ks := 0) (argsL := [(.ref x1)]) (rest := []) (lenOf pd_14 rfl) rfl (mr0 rfl) (hb hby d16_25) e787 (by decide) (by decide)
   obtain ⟨hv790, rfl, e790⟩ := hQ790
   have hw790 : v790 = some (.int (if ([112, 111, 119, 101, 114, 95, 117, 115, 101, 114] : List Int32) = cs then (1 : Int32) else (0 : Int32))) := by rcases hv790 with ⟨a, b⟩ | ⟨a, b⟩; rw [a, if_pos b]; rw [a, if_neg b]
   subst hw790
   have N790 := Fr.app N783 (Fr.nil n0)
   refine go (S' := T790.setTop (mkF m 28 #[sr x1, sr r_767, si 4, si 2, sr c3] [(.int (if ([112, 111, 119, 101, 114, 95, 117, 115, 101, 114] : List Int32) = cs then (1 : Int32) else (0 : Int32)))])) st790 ?_
   by_cases hc791 : (if ([112, 111, 119, 101, 114, 95, 117, 115, 101, 114] : List Int32) = cs then (1 : Int32) else (0 : Int32)) = (0 : Int32)
   ·
    refine go (S' := T790.setTop (mkF m 11 #[sr x1, sr r_767, si 4, si 3, sr c3] [(.int 4), (.int 3)])) (fun t k => XS.ifYes X790.here hx rfl (pc0 := 28) (pc' := 37) rfl (hb hby d16_28) rfl ((if0 _ _).trans (teq hc791).1) (by decide) (by decide) (XS.iinc X790.here hx rfl (hb hby d16_37) rfl (l' := #[sr x1, sr r_767, si 4, si 3, sr c3]) rfl (XS.goto X790.here hx rfl (pc0 := 40) (pc' := 9) rfl (hb hby d16_40) (by decide) (by decide) (XS.iloadN X790.here hx rfl (hb hby d16_9) rfl (XS.iloadN X790.here hx rfl (hb hby d16_10) rfl k))))) ?_
    have hc792 : (3 : Int32) < (4 : Int32) := by decide
    refine go (S' := T790.setTop (mkF m 16 #[sr x1, sr r_767, si 4, si 3, sr c3] [(.int 3), (.ref r_767)])) (fun t k => XS.icmpNo X790.here hx rfl (hb hby d16_11) rfl (tlt hc792).2.1 (XS.aloadN X790.here hx rfl (hb hby d16_14) rfl rfl (XS.iloadN X790.here hx rfl (hb hby d16_15) rfl k))) ?_
    obtain ⟨cl793, Ar793, q793, S793, M793, H793, G793⟩ := id q767_0
    have hin793 : ¬ ((3 : Int32) < 0 ∨ cl793.slots.size ≤ ((3 : Int32)).toNatClampNeg) := inb_of S793 ⟨by decide, by decide⟩
    have hat793 : cl793.slots[((3 : Int32)).toNatClampNeg]? = some (.ref c4) := Has.at H793 hin793 rfl
    refine go (S' := T790.setTop (mkF m 21 #[sr x1, sr r_767, si 4, si 3, sr c4] [(.ref c4)])) (fun t k => X790.aaload hx (j := (3 : Int32)) (v := (.ref c4)) (by rw [e790]; exact Ar793.1) (State.isArrayOf_alike hZ.alike Ar793.2.1) rfl Ar793.2.2 hin793 hat793 (g := (mkF m 16 #[sr x1, sr r_767, si 4, si 3, sr c3] [(.int 3), (.ref r_767)])) rfl rfl (hb hby d16_16) _ (XS.astore X790.here hx rfl (hb hby d16_17) rfl rfl (l' := #[sr x1, sr r_767, si 4, si 3, sr c4]) rfl (XS.aload X790.here hx rfl (hb hby d16_19) rfl rfl k))) ?_
    obtain ⟨T794, X794, e794, st794⟩ := getF X790 hx hZ hown (host := "") (Or.inl (ww hw 98 rfl)) Via.refl e790 (hp10.ext O772.2) (g := (mkF m 21 #[sr x1, sr r_767, si 4, si 3, sr c4] [(.ref c4)])) rfl rfl (hb hby d16_21)
    refine go (S' := T794.setTop (mkF m 25 #[sr x1, sr r_767, si 4, si 3, sr c4] [(.ref x1), (.ref l4)])) (fun t k => st794 _ (XS.aloadN X794.here hx rfl (hb hby d16_24) rfl rfl k)) ?_
    obtain ⟨kb795, N2795, vs795, qE795, qV795, qC795, qA795, qcd795, qbd795, ql795⟩ := id (hp11.ext O772.2)
    obtain ⟨kb796, N2796, vs796, qE796, qV796, qC796, qA796, qcd796, qbd796, ql796⟩ := id (hp0.keep K768 nin0 nin0)
    obtain ⟨v797, T797, L797, X797, hQ797, st797⟩ := callV X794 hx hZ (y := y_21) (z := y_21) hown (ww hw 100 rfl) (ww hw 101 rfl) (notFace_of_selects (args := #[]) (mvT hZ (ww hw 103 rfl))) (ww hw 103 rfl) (ww hw 102 rfl) (by decide) (StrChars.Road.eqW (W := 0) hZ (own_sub StrChars_wordsEq hw) (kI := 4) (ww hw 3 rfl) qE795 qV795 qC795 qA795 qcd795 qbd795 ql795 qE796 qV796 qC796 qA796 qcd796 qbd796 ql796 (hp15.ext O772.2) hG1 (by decide) (by decide)) (hp11.ext O772.2).exa (g := (mkF m 25 #[sr x1, sr r_767, si 4, si 3, sr c4] [(.ref x1), (.ref l4)])) rfl (by rw [hml]; rfl) (Q := (fun v h' L => ((v = some (.int 1) ∧ ([97, 100, 109, 105, 110] : List Int32) = cs) ∨ (v = some (.int 0) ∧ ¬ ([97, 100, 109, 105, 110] : List Int32) = cs)) ∧ L = [] ∧ h' = T767.heap)) (kc := 0) (ks := 0) (argsL := [(.ref x1)]) (rest := []) (lenOf pd_14 rfl) rfl (mr0 rfl) (hb hby d16_25) e794 (by decide) (by decide)
    obtain ⟨hv797, rfl, e797⟩ := hQ797
    have hw797 : v797 = some (.int (if ([97, 100, 109, 105, 110] : List Int32) = cs then (1 : Int32) else (0 : Int32))) := by rcases hv797 with ⟨a, b⟩ | ⟨a, b⟩; rw [a, if_pos b]; rw [a, if_neg b]
    subst hw797
    have N797 := Fr.app N790 (Fr.nil n0)
    refine go (S' := T797.setTop (mkF m 28 #[sr x1, sr r_767, si 4, si 3, sr c4] [(.int (if ([97, 100, 109, 105, 110] : List Int32) = cs then (1 : Int32) else (0 : Int32)))])) st797 ?_
    by_cases hc798 : (if ([97, 100, 109, 105, 110] : List Int32) = cs then (1 : Int32) else (0 : Int32)) = (0 : Int32)
    ·
     refine go (S' := T797.setTop (mkF m 11 #[sr x1, sr r_767, si 4, si 4, sr c4] [(.int 4), (.int 4)])) (fun t k => XS.ifYes X797.here hx rfl (pc0 := 28) (pc' := 37) rfl (hb hby d16_28) rfl ((if0 _ _).trans (teq hc798).1) (by decide) (by decide) (XS.iinc X797.here hx rfl (hb hby d16_37) rfl (l' := #[sr x1, sr r_767, si 4, si 4, sr c4]) rfl (XS.goto X797.here hx rfl (pc0 := 40) (pc' := 9) rfl (hb hby d16_40) (by decide) (by decide) (XS.iloadN X797.here hx rfl (hb hby d16_9) rfl (XS.iloadN X797.here hx rfl (hb hby d16_10) rfl k))))) ?_
     have hc799 : ¬ ((4 : Int32) < (4 : Int32)) := by decide
     refine go (S' := T797.setTop (mkF m 43 #[sr x1, sr r_767, si 4, si 4, sr c4] [])) (fun t k => XS.icmpYes X797.here hx rfl (pc0 := 11) (pc' := 43) rfl (hb hby d16_11) rfl (flt hc799).2.1 (by decide) (by decide) k) ?_
     obtain ⟨v800, T800, L800, X800, hQ800, st800⟩ := callSt X797 hx hZ (y := y_14) hown (ww hw 109 rfl) (ww hw 110 rfl) (ww hw 111 rfl) (ww hw 112 rfl) (by decide) (backOf (W := 0) (rmEmp l Z a0 hw [] oe T767.heap n0 (Nat.le_trans Z0 K768.1) hp12 O772) hZ (ww hw 112 rfl) (ww hw 111 rfl) (by decide) (by decide)) (g := (mkF m 43 #[sr x1, sr r_767, si 4, si 4, sr c4] [])) rfl (by rw [hml]; rfl) (kc := 0) (ks := 0) (argsL := []) (rest := []) (lenOf pd_15 rfl) rfl (mr0 rfl) (hb hby d16_43) e797 (by decide) (by decide)
     obtain ⟨rfl, N800q, e800⟩ := hQ800
     have N800 := Fr.app N797 N800q
     refine go (S' := T800.setTop (mkF m 46 #[sr x1, sr r_767, si 4, si 4, sr c4] [(.ref oe)])) st800 ?_
     refine finR X800 hx hk hret rfl rfl (hb hby d16_46) (by decide) (by decide) ?_
     rw [e800]
     exact ⟨oe, .null, rfl, N800, K768, (hp13.ext O772.2), (hp14.ext O772.2), by rw [own_find, if_neg fun q => absurd ((if_pos q).symm.trans hc777) (by decide), if_neg fun q => absurd ((if_pos q).symm.trans hc784) (by decide), if_neg fun q => absurd ((if_pos q).symm.trans hc791) (by decide), if_neg fun q => absurd ((if_pos q).symm.trans hc798) (by decide)]⟩
    ·
     refine go (S' := T797.setTop (mkF m 33 #[sr x1, sr r_767, si 4, si 3, sr c4] [(.ref c4)])) (fun t k => XS.ifNo X797.here hx rfl (hb hby d16_28) rfl ((if0 _ _).trans (feq hc798).1) (XS.aload X797.here hx rfl (hb hby d16_31) rfl rfl k)) ?_
     obtain ⟨v801, T801, L801, X801, hQ801, st801⟩ := callSt X797 hx hZ (y := y_19) hown (ww hw 146 rfl) (ww hw 147 rfl) (ww hw 111 rfl) (ww hw 148 rfl) (by decide) (backOf (W := 0) (rmOo l Z a0 hw [] c4 T767.heap n0 (Nat.le_trans Z0 K768.1) ) hZ (ww hw 148 rfl) (ww hw 111 rfl) (by decide) (by decide)) (g := (mkF m 33 #[sr x1, sr r_767, si 4, si 3, sr c4] [(.ref c4)])) rfl (by rw [hml]; rfl) (kc := 1) (ks := 1) (argsL := [(.ref c4)]) (rest := []) (lenOf pd_16 rfl) rfl (mr0 rfl) (hb hby d16_33) e797 (by decide) (by decide)
     obtain ⟨r_801, rfl, N801q, Kq801, q801_0, q801_1⟩ := hQ801
     have N801 := Fr.app N797 N801q
     have K802 : Keep h0 T801.heap [] := K768.trans Kq801 all0
     refine go (S' := T801.setTop (mkF m 36 #[sr x1, sr r_767, si 4, si 3, sr c4] [(.ref r_801)])) st801 ?_
     refine finR X801 hx hk hret rfl rfl (hb hby d16_36) (by decide) (by decide) ?_
     exact ⟨r_801, (.ref c4), rfl, N801, K802, q801_0, q801_1, by rw [own_find, if_neg fun q => absurd ((if_pos q).symm.trans hc777) (by decide), if_neg fun q => absurd ((if_pos q).symm.trans hc784) (by decide), if_neg fun q => absurd ((if_pos q).symm.trans hc791) (by decide), if_pos (Classical.byContradiction fun q => hc798 (if_neg q))]⟩
   ·
    refine go (S' := T790.setTop (mkF m 33 #[sr x1, sr r_767, si 4, si 2, sr c3] [(.ref c3)])) (fun t k => XS.ifNo X790.here hx rfl (hb hby d16_28) rfl ((if0 _ _).trans (feq hc791).1) (XS.aload X790.here hx rfl (hb hby d16_31) rfl rfl k)) ?_
    obtain ⟨v803, T803, L803, X803, hQ803, st803⟩ := callSt X790 hx hZ (y := y_19) hown (ww hw 146 rfl) (ww hw 147 rfl) (ww hw 111 rfl) (ww hw 148 rfl) (by decide) (backOf (W := 0) (rmOo l Z a0 hw [] c3 T767.heap n0 (Nat.le_trans Z0 K768.1) ) hZ (ww hw 148 rfl) (ww hw 111 rfl) (by decide) (by decide)) (g := (mkF m 33 #[sr x1, sr r_767, si 4, si 2, sr c3] [(.ref c3)])) rfl (by rw [hml]; rfl) (kc := 1) (ks := 1) (argsL := [(.ref c3)]) (rest := []) (lenOf pd_16 rfl) rfl (mr0 rfl) (hb hby d16_33) e790 (by decide) (by decide)
    obtain ⟨r_803, rfl, N803q, Kq803, q803_0, q803_1⟩ := hQ803
    have N803 := Fr.app N790 N803q
    have K804 : Keep h0 T803.heap [] := K768.trans Kq803 all0
    refine go (S' := T803.setTop (mkF m 36 #[sr x1, sr r_767, si 4, si 2, sr c3] [(.ref r_803)])) st803 ?_
    refine finR X803 hx hk hret rfl rfl (hb hby d16_36) (by decide) (by decide) ?_
    exact ⟨r_803, (.ref c3), rfl, N803, K804, q803_0, q803_1, by rw [own_find, if_neg fun q => absurd ((if_pos q).symm.trans hc777) (by decide), if_neg fun q => absurd ((if_pos q).symm.trans hc784) (by decide), if_pos (Classical.byContradiction fun q => hc791 (if_neg q))]⟩
  ·
   refine go (S' := T783.setTop (mkF m 33 #[sr x1, sr r_767, si 4, si 1, sr c2] [(.ref c2)])) (fun t k => XS.ifNo X783.here hx rfl (hb hby d16_28) rfl ((if0 _ _).trans (feq hc784).1) (XS.aload X783.here hx rfl (hb hby d16_31) rfl rfl k)) ?_
   obtain ⟨v805, T805, L805, X805, hQ805, st805⟩ := callSt X783 hx hZ (y := y_19) hown (ww hw 146 rfl) (ww hw 147 rfl) (ww hw 111 rfl) (ww hw 148 rfl) (by decide) (backOf (W := 0) (rmOo l Z a0 hw [] c2 T767.heap n0 (Nat.le_trans Z0 K768.1) ) hZ (ww hw 148 rfl) (ww hw 111 rfl) (by decide) (by decide)) (g := (mkF m 33 #[sr x1, sr r_767, si 4, si 1, sr c2] [(.ref c2)])) rfl (by rw [hml]; rfl) (kc := 1) (ks := 1) (argsL := [(.ref c2)]) (rest := []) (lenOf pd_16 rfl) rfl (mr0 rfl) (hb hby d16_33) e783 (by decide) (by decide)
   obtain ⟨r_805, rfl, N805q, Kq805, q805_0, q805_1⟩ := hQ805
   have N805 := Fr.app N783 N805q
   have K806 : Keep h0 T805.heap [] := K768.trans Kq805 all0
   refine go (S' := T805.setTop (mkF m 36 #[sr x1, sr r_767, si 4, si 1, sr c2] [(.ref r_805)])) st805 ?_
   refine finR X805 hx hk hret rfl rfl (hb hby d16_36) (by decide) (by decide) ?_
   exact ⟨r_805, (.ref c2), rfl, N805, K806, q805_0, q805_1, by rw [own_find, if_neg fun q => absurd ((if_pos q).symm.trans hc777) (by decide), if_pos (Classical.byContradiction fun q => hc784 (if_neg q))]⟩
 ·
  refine go (S' := T776.setTop (mkF m 33 #[sr x1, sr r_767, si 4, si 0, sr c1] [(.ref c1)])) (fun t k => XS.ifNo X776.here hx rfl (hb hby d16_28) rfl ((if0 _ _).trans (feq hc777).1) (XS.aload X776.here hx rfl (hb hby d16_31) rfl rfl k)) ?_
  obtain ⟨v807, T807, L807, X807, hQ807, st807⟩ := callSt X776 hx hZ (y := y_19) hown (ww hw 146 rfl) (ww hw 147 rfl) (ww hw 111 rfl) (ww hw 148 rfl) (by decide) (backOf (W := 0) (rmOo l Z a0 hw [] c1 T767.heap n0 (Nat.le_trans Z0 K768.1) ) hZ (ww hw 148 rfl) (ww hw 111 rfl) (by decide) (by decide)) (g := (mkF m 33 #[sr x1, sr r_767, si 4, si 0, sr c1] [(.ref c1)])) rfl (by rw [hml]; rfl) (kc := 1) (ks := 1) (argsL := [(.ref c1)]) (rest := []) (lenOf pd_16 rfl) rfl (mr0 rfl) (hb hby d16_33) e776 (by decide) (by decide)
  obtain ⟨r_807, rfl, N807q, Kq807, q807_0, q807_1⟩ := hQ807
  have N807 := Fr.app N776 N807q
  have K808 : Keep h0 T807.heap [] := K768.trans Kq807 all0
  refine go (S' := T807.setTop (mkF m 36 #[sr x1, sr r_767, si 4, si 0, sr c1] [(.ref r_807)])) st807 ?_
  refine finR X807 hx hk hret rfl rfl (hb hby d16_36) (by decide) (by decide) ?_
  exact ⟨r_807, (.ref c1), rfl, N807, K808, q807_0, q807_1, by rw [own_find, if_pos (Classical.byContradiction fun q => hc777 (if_neg q))]⟩
theorem pd_17 : parseMethodDescriptor "(Ljava/lang/String;I)C" = some ⟨[(.object "java/lang/String"), .int], some .char⟩ := by decide +kernel
theorem pd_18 : parseMethodDescriptor "([CI)Ljava/lang/String;" = some ⟨[(.array .char), .int], some (.object "java/lang/String")⟩ := by decide +kernel
theorem pd_19 : parseMethodDescriptor "(Ljava/lang/String;)Ljava/util/Optional;" = some ⟨[(.object "java/lang/String")], some (.object "java/util/Optional")⟩ := by decide +kernel
theorem pd_20 : parseMethodDescriptor "()Z" = some ⟨[], some .boolean⟩ := by decide +kernel
theorem pd_21 : parseMethodDescriptor "()Ljava/lang/Object;" = some ⟨[], some (.object "java/lang/Object")⟩ := by decide +kernel
abbrev y_23 : MethodName := ⟨"com/example/neti/neti/model/SpaceRoleFromLabelPinLaw", "law", "(IIII)Z"⟩
theorem pn_21 : plainFor y_23 = true := by first | exact plainFor_of_name (by first | (simp [plainName, overriddenIn]; done) | decide +kernel) | decide +kernel
theorem ef_rmLaw (m : MethodId) (p1 : Int32) (p2 : Int32) (p3 : Int32) (p4 : Int32) : entryFrame m #[(.int p1), (.int p2), (.int p3), (.int p4)] maxLocals = mkF m 0 #[si p1, si p2, si p3, si p4, un, un, un, un, un, un, un, un, un, un, un, un] [] := by first | (simp [entryFrame, mkF, argsToLocals, Value.category, maxLocals]; done) | rfl
def Q_rmLaw (Z : State) (p1 : Int32) (p2 : Int32) (p3 : Int32) (p4 : Int32) (av : Addr) (kV : ClassId) (c1 : Addr) (c2 : Addr) (c3 : Addr) (c4 : Addr) (l1 : Addr) (l2 : Addr) (l3 : Addr) (l4 : Addr) (m1 : Addr) (m2 : Addr) (m3 : Addr) (m4 : Addr) (oe : Addr) (G1 : Int32) (fm : Value) (h0 : Heap) (n0 : Nat) (v : Option Value) (h : Heap) (L : List Loc) : Prop := v = some (.int 1) ∧ Fr n0 L ∧ Keep h0 h []
set_option maxRecDepth 65536 in
set_option maxHeartbeats 40000000 in
theorem rmLaw (l : Launch) (Z : State) (a0 : Array Value) (hw : ∀ d ∈ tables_1, d.before a0 Z = true) (ws : List Jvm.Cond) (p1 : Int32) (p2 : Int32) (p3 : Int32) (p4 : Int32) (av : Addr) (kV : ClassId) (c1 : Addr) (c2 : Addr) (c3 : Addr) (c4 : Addr) (l1 : Addr) (l2 : Addr) (l3 : Addr) (l4 : Addr) (m1 : Addr) (m2 : Addr) (m3 : Addr) (m4 : Addr) (oe : Addr) (G1 : Int32) (fm : Value) (h0 : Heap) (n0 : Nat) (Z0 : n0 ≤ h0.size) (hp0 : Sta Z Z.heap "java/lang/String" "COMPACT_STRINGS" "Z" (.int G1)) (hG1 : ¬ (G1 = (0 : Int32))) (hp2 : Sta Z Z.heap "jdk/internal/util/Preconditions" "SIOOBE_FORMATTER" "Ljava/util/function/BiFunction;" fm) (hfm : fm.isRef = true) (hp4 : Sta Z Z.heap "java/lang/StringUTF16" "$assertionsDisabled" "Z" (.int 1)) (hp5 : Sta Z Z.heap "java/lang/StringUTF16" "HI_BYTE_SHIFT" "I" (.int 0)) (hp6 : Sta Z Z.heap "java/lang/StringUTF16" "LO_BYTE_SHIFT" "I" (.int 8)) (hp7 : Sta Z Z.heap "com/example/neti/neti/model/SpaceRole" "OBSERVER" "Lcom/example/neti/neti/model/SpaceRole;" (.ref c1)) (hp8 : Sta Z Z.heap "com/example/neti/neti/model/SpaceRole" "USER" "Lcom/example/neti/neti/model/SpaceRole;" (.ref c2)) (hp9 : Sta Z Z.heap "com/example/neti/neti/model/SpaceRole" "POWER_USER" "Lcom/example/neti/neti/model/SpaceRole;" (.ref c3)) (hp10 : Sta Z Z.heap "com/example/neti/neti/model/SpaceRole" "ADMIN" "Lcom/example/neti/neti/model/SpaceRole;" (.ref c4)) (hp11 : Sta Z Z.heap "com/example/neti/neti/model/SpaceRole" "$VALUES" "[Lcom/example/neti/neti/model/SpaceRole;" (.ref av)) (hp12 : Exa Z Z.heap av "[Lcom/example/neti/neti/model/SpaceRole;") (hp13 : Arv Z Z.heap av kV (.object "com/example/neti/neti/model/SpaceRole") (4 : Int32) [(.ref c1), (.ref c2), (.ref c3), (.ref c4)] .null) (hp14 : Fld Z Z.heap c1 "com/example/neti/neti/model/SpaceRole" "label" "Ljava/lang/String;" (.ref l1)) (hp15 : Str Z Z.heap l1 m1 (0 : Int32) ([111, 98, 115, 101, 114, 118, 101, 114] : List Int32)) (hp16 : Fld Z Z.heap c2 "com/example/neti/neti/model/SpaceRole" "label" "Ljava/lang/String;" (.ref l2)) (hp17 : Str Z Z.heap l2 m2 (0 : Int32) ([117, 115, 101, 114] : List Int32)) (hp18 : Fld Z Z.heap c3 "com/example/neti/neti/model/SpaceRole" "label" "Ljava/lang/String;" (.ref l3)) (hp19 : Str Z Z.heap l3 m3 (0 : Int32) ([112, 111, 119, 101, 114, 95, 117, 115, 101, 114] : List Int32)) (hp20 : Fld Z Z.heap c4 "com/example/neti/neti/model/SpaceRole" "label" "Ljava/lang/String;" (.ref l4)) (hp21 : Str Z Z.heap l4 m4 (0 : Int32) ([97, 100, 109, 105, 110] : List Int32)) (hp22 : Sta Z Z.heap "java/util/Optional" "EMPTY" "Ljava/util/Optional;" (.ref oe)) (hp23 : Exa Z Z.heap oe "java/util/Optional") (hp24 : Fld Z Z.heap oe "java/util/Optional" "value" "Ljava/lang/Object;" .null) (hp25 : Old Z n0 h0) :
    MetFree l x (head1 (Jvm.Cond.code x code maxLocals ret :: ws) room_1) (fun a U => a = #[(.int p1), (.int p2), (.int p3), (.int p4)] ∧ Z.Warmed39 U.vm ∧ U.heap = h0 ∧ CHv Z consts_1 U.vm h0 ∧ ∀ x ∈ ([] : List Addr), Safe Z consts_1 U.vm h0 x) (fun _ _ _ _ _ => True) (fun _ U o U' => ∃ v L, o = .returned v ∧ Q_rmLaw Z p1 p2 p3 p4 av kV c1 c2 c3 c4 l1 l2 l3 l4 m1 m2 m3 m4 oe G1 fm h0 n0 v U'.heap L ∧ CHr Z consts_1 U.vm U.heap U'.vm U'.heap ∧ ReturnedEndW U o U' L room_1.cells room_1.slots) := by
 refine bodyOfW pn_21 (fun m => ef_rmLaw m p1 p2 p3 p4) ?_
 intro p e s m below meth c T0 X0 hx hby hml hown hnm hret hk hZ e0 hS C0 hsf
 have hkS := Nat.le_refl h0.size
 have N0 := Fr.nil n0
 have K0 : Keep h0 h0 [] := Keep.refl _ _
 have O0 := hp25
 refine go (S' := T0.setTop (mkF m 8 #[si p1, si p2, si p3, si p4, si ((p1 &&& (2147483647 : Int32)) % (4 : Int32)), un, un, un, un, un, un, un, un, un, un, un] [])) (fun t k => XS.iloadN X0.here hx rfl (hb hby at_0) rfl (X0.ldcInt hx hown (mvT hZ (ww hw 0 rfl)) (g := (mkF m 1 #[si p1, si p2, si p3, si p4, un, un, un, un, un, un, un, un, un, un, un, un] [(.int p1)])) rfl (hb hby at_1) _ (XS.iand X0.here hx rfl (hb hby at_3) rfl (XS.iconst X0.here hx rfl (hb hby at_4) (iremM X0 hx rfl (hb hby at_5) rfl (by decide) (XS.istore X0.here hx rfl (hb hby at_6) rfl (l' := #[si p1, si p2, si p3, si p4, si ((p1 &&& (2147483647 : Int32)) % (4 : Int32)), un, un, un, un, un, un, un, un, un, un, un]) rfl k)))))) ?_
 obtain ⟨kk, hkk⟩ : ∃ z : Int32, z = ((p1 &&& (2147483647 : Int32)) % (4 : Int32)) := ⟨_, rfl⟩
 rw [← hkk]
 have tail : ∀ (vm0 : Vm) (k0 : Nat) (la : Addr) (lb : Addr) (rr : Addr) (cs : List Int32) (T : State) (locs : List Loc) (h : Heap), (own_Lab cs rr c1 c2 c3 c4) → Stand p l e room_1 (s.setVm vm0) m #[(.int p1), (.int p2), (.int p3), (.int p4)] below meth c T locs 2 44 → T.heap = h → Fr n0 locs → Keep h0 h [] → s.Since vm0 k0 → k0 ≤ h.size → Z.Warmed39 vm0 → vm0.findClass x.cls = some m.cls → CHr Z consts_1 s.vm s.heap vm0 h → Str Z h la lb (0 : Int32) cs → Goes p.tables e below (EndW Z consts_1 s below (Q_rmLaw Z p1 p2 p3 p4 av kV c1 c2 c3 c4 l1 l2 l3 l4 m1 m2 m3 m4 oe G1 fm h0 n0) room_1.cells room_1.slots) (T.setTop (mkF m 70 #[si p1, si p2, si p3, si p4, si kk, sr la, sr rr, un, un, un, un, un, un, un, un, un] [])) := by
  intro vm0 k0 la lb rr cs T locs h hcs X eT N K hS hkS hZ hown C mf809_0
  obtain ⟨-, -, -, -, -, -, -, -, hbd0, hln⟩ := id mf809_0
  have hbd := own_bd hbd0
  refine go (S' := T.setTop (mkF m 72 #[si p1, si p2, si p3, si p4, si kk, sr la, sr rr, un, un, un, un, un, un, un, un, un] [(.ref la)])) (fun t k => XS.aload X.here hx rfl (hb hby at_70) rfl rfl k) ?_
  have O810 : Old Z n0 h := O0.keep K all0
  obtain ⟨kb811, N2811, vs811, qE811, qV811, qC811, qA811, qcd811, qbd811, ql811⟩ := id mf809_0
  obtain ⟨v812, T812, L812, X812, hQ812, st812⟩ := callV X hx hZ (y := y_10) (z := y_10) hown (ww hw 12 rfl) (ww hw 13 rfl) (notFace_of_selects (args := #[]) (mvT hZ (ww hw 15 rfl))) (ww hw 15 rfl) (ww hw 14 rfl) (by decide) (StrChars.Road.lenW (W := 0) hZ (own_sub StrChars_wordsLen hw) (kI := 4) (ww hw 3 rfl) qE811 qV811 qC811 qA811 qcd811 qbd811 (hp0.ext O810.2) hG1 ql811 (by decide) (by decide)) mf809_0.exa (g := (mkF m 72 #[si p1, si p2, si p3, si p4, si kk, sr la, sr rr, un, un, un, un, un, un, un, un, un] [(.ref la)])) rfl (by rw [hml]; rfl) (Q := (fun v h' L => v = some (.int (Int32.ofNat cs.length)) ∧ L = [] ∧ h' = h)) (kc := 0) (ks := 0) (argsL := []) (rest := []) (lenOf pd_8 rfl) rfl (mr0 rfl) (hb hby at_72) eT (by decide) (by decide)
  obtain ⟨rfl, rfl, e812⟩ := hQ812
  have N812 := Fr.app N (Fr.nil n0)
  refine go (S' := T812.setTop (mkF m 75 #[si p1, si p2, si p3, si p4, si kk, sr la, sr rr, un, un, un, un, un, un, un, un, un] [(.int (Int32.ofNat cs.length))])) st812 ?_
  obtain ⟨ll, hll⟩ : ∃ z : Int32, z = (Int32.ofNat cs.length) := ⟨_, rfl⟩
  rw [← hll]
  have hlz : ll ≠ 0 := by rw [hll]; exact own_LabZ hcs
  have hcl := own_LabL hcs
  refine go (S' := T812.setTop (mkF m 86 #[si p1, si p2, si p3, si p4, si kk, sr la, sr rr, si ll, si ((p2 &&& (2147483647 : Int32)) % (6 : Int32)), un, un, un, un, un, un, un] [])) (fun t k => XS.istore X812.here hx rfl (hb hby at_75) rfl (l' := #[si p1, si p2, si p3, si p4, si kk, sr la, sr rr, si ll, un, un, un, un, un, un, un, un]) rfl (XS.iloadN X812.here hx rfl (hb hby at_77) rfl (X812.ldcInt hx hown (mvT hZ (ww hw 0 rfl)) (g := (mkF m 78 #[si p1, si p2, si p3, si p4, si kk, sr la, sr rr, si ll, un, un, un, un, un, un, un, un] [(.int p2)])) rfl (hb hby at_78) _ (XS.iand X812.here hx rfl (hb hby at_80) rfl (XS.bipush X812.here hx rfl (hb hby at_81) (iremM X812 hx rfl (hb hby at_83) rfl (by decide) (XS.istore X812.here hx rfl (hb hby at_84) rfl (l' := #[si p1, si p2, si p3, si p4, si kk, sr la, sr rr, si ll, si ((p2 &&& (2147483647 : Int32)) % (6 : Int32)), un, un, un, un, un, un, un]) rfl k))))))) ?_
  obtain ⟨mm, hmm⟩ : ∃ z : Int32, z = ((p2 &&& (2147483647 : Int32)) % (6 : Int32)) := ⟨_, rfl⟩
  rw [← hmm]
  have h6 : mm = 0 ∨ mm = 1 ∨ mm = 2 ∨ mm = 3 ∨ mm = 4 ∨ mm = 5 := by rw [hmm]; exact own_six _
  refine go (S' := T812.setTop (mkF m 95 #[si p1, si p2, si p3, si p4, si kk, sr la, sr rr, si ll, si mm, si ((p3 &&& (2147483647 : Int32)) % ll), un, un, un, un, un, un] [])) (fun t k => XS.iloadN X812.here hx rfl (hb hby at_86) rfl (X812.ldcInt hx hown (mvT hZ (ww hw 0 rfl)) (g := (mkF m 87 #[si p1, si p2, si p3, si p4, si kk, sr la, sr rr, si ll, si mm, un, un, un, un, un, un, un] [(.int p3)])) rfl (hb hby at_87) _ (XS.iand X812.here hx rfl (hb hby at_89) rfl (XS.iload X812.here hx rfl (hb hby at_90) rfl (iremM X812 hx rfl (hb hby at_92) rfl hlz (XS.istore X812.here hx rfl (hb hby at_93) rfl (l' := #[si p1, si p2, si p3, si p4, si kk, sr la, sr rr, si ll, si mm, si ((p3 &&& (2147483647 : Int32)) % ll), un, un, un, un, un, un]) rfl k)))))) ?_
  obtain ⟨pJ, hpJ⟩ : ∃ z : Int32, z = ((p3 &&& (2147483647 : Int32)) % ll) := ⟨_, rfl⟩
  rw [← hpJ]
  obtain ⟨pN, hpN, hpe⟩ : ∃ j : Nat, j < cs.length ∧ pJ = Int32.ofNat j := by rw [hpJ, hll]; exact own_Labp hcs p3
  refine go (S' := T812.setTop (mkF m 102 #[si p1, si p2, si p3, si p4, si kk, sr la, sr rr, si ll, si mm, si pJ, si ((p4 &&& (65535 : Int32)).toUInt32.toUInt16.toUInt32.toInt32), un, un, un, un, un] [])) (fun t k => XS.iloadN X812.here hx rfl (hb hby at_95) rfl (X812.ldcInt hx hown (mvT hZ (ww hw 25 rfl)) (g := (mkF m 96 #[si p1, si p2, si p3, si p4, si kk, sr la, sr rr, si ll, si mm, si pJ, un, un, un, un, un, un] [(.int p4)])) rfl (hb hby at_96) _ (XS.iand X812.here hx rfl (hb hby at_98) rfl (XS.i2c X812.here hx rfl (hb hby at_99) rfl (XS.istore X812.here hx rfl (hb hby at_100) rfl (l' := #[si p1, si p2, si p3, si p4, si kk, sr la, sr rr, si ll, si mm, si pJ, si ((p4 &&& (65535 : Int32)).toUInt32.toUInt16.toUInt32.toInt32), un, un, un, un, un]) rfl k))))) ?_
  obtain ⟨cc, hcc⟩ : ∃ z : Int32, z = ((p4 &&& (65535 : Int32)).toUInt32.toUInt16.toUInt32.toInt32) := ⟨_, rfl⟩
  rw [← hcc]
  have hbcc : ¬ cc < 0 ∧ ¬ (65535 : Int32) < cc := by rw [hcc]; exact own_c16 _
  refine go (S' := T812.setTop (mkF m 104 #[si p1, si p2, si p3, si p4, si kk, sr la, sr rr, si ll, si mm, si pJ, si cc, un, un, un, un, un] [(.int 12)])) (fun t k => XS.bipush X812.here hx rfl (hb hby at_102) k) ?_
  obtain ⟨T813, h813, k813, X813, e813, E813, A813, st813⟩ := newP X812 hx hZ (ww hw 26 rfl) e812 (g := (mkF m 104 #[si p1, si p2, si p3, si p4, si kk, sr la, sr rr, si ll, si mm, si pJ, si cc, un, un, un, un, un] [(.int 12)])) rfl (hb hby at_104) rfl (by decide) (cap := 12) (by decide) (by decide) (by decide) (by decide)
  obtain ⟨b813, g813⟩ : ∃ z, z = h.size := ⟨_, rfl⟩
  rw [← g813] at A813 st813
  have lt_la_b813 : la < b813 := by rw [g813]; exact mf809_0.lt1
  have lt_lb_b813 : lb < b813 := by rw [g813]; exact mf809_0.lt2
  have ge_b813 : n0 ≤ b813 := by rw [g813]; exact (Nat.le_trans Z0 K.1)
  have sz_b813 : h0.size ≤ b813 := by rw [g813]; exact K.1
  have K814 : Keep h0 h813 [] := K.ext E813
  have hkS := Nat.le_trans hkS E813.1
  have C815 := C.trans (CHr.ext E813 C.1)
  have V813 : Arv Z h813 b813 k813 .char (12 : Int32) [(.int 0), (.int 0), (.int 0), (.int 0), (.int 0), (.int 0), (.int 0), (.int 0), (.int 0), (.int 0), (.int 0), (.int 0)] (.int 0) := (Arv.new A813 (by decide)).pad (pad_rep [] (.int 0) 12)
  refine go (S' := T813.setTop (mkF m 114 #[si p1, si p2, si p3, si p4, si kk, sr la, sr rr, si ll, si mm, si pJ, si cc, sr b813, un, un, un, un] [(.int 0), (.ref la), (.int 0), (.ref b813)])) (fun t k => st813 _ (XS.astore X813.here hx rfl (hb hby at_106) rfl rfl (l' := #[si p1, si p2, si p3, si p4, si kk, sr la, sr rr, si ll, si mm, si pJ, si cc, sr b813, un, un, un, un]) rfl (XS.aload X813.here hx rfl (hb hby at_108) rfl rfl (XS.iconst X813.here hx rfl (hb hby at_110) (XS.aload X813.here hx rfl (hb hby at_111) rfl rfl (XS.iconst X813.here hx rfl (hb hby at_113) k)))))) ?_
  have f816 : Str Z h813 la lb (0 : Int32) cs := (mf809_0.ext E813)
  have O817 : Old Z n0 h813 := O0.keep K814 all0
  obtain ⟨v818, T818, L818, X818, hQ818, st818⟩ := callSt X813 hx hZ (y := y_12) hown (ww hw 27 rfl) (ww hw 28 rfl) (ww hw 29 rfl) (ww hw 30 rfl) (by decide) (backOf (W := 2) (rmAt l Z a0 hw [] la (0 : Int32) lb cs 0 G1 fm h813 n0 (Nat.le_trans Z0 K814.1) f816 rfl (by decide) hfm hp2 hp0 hG1 O817) hZ (ww hw 30 rfl) (ww hw 29 rfl) (by decide) (by decide)) (g := (mkF m 114 #[si p1, si p2, si p3, si p4, si kk, sr la, sr rr, si ll, si mm, si pJ, si cc, sr b813, un, un, un, un] [(.int 0), (.ref la), (.int 0), (.ref b813)])) rfl (by rw [hml]; rfl) (kc := 0) (ks := 0) (argsL := [(.ref la), (.int 0)]) (rest := [(.int 0), (.ref b813)]) (lenOf pd_17 rfl) rfl (mr0 rfl) (hb hby at_114) e813 (by decide) (by decide)
  obtain ⟨rfl, N818q, e818⟩ := hQ818
  have N818 := Fr.app N812 N818q
  refine go (S' := T818.setTop (mkF m 117 #[si p1, si p2, si p3, si p4, si kk, sr la, sr rr, si ll, si mm, si pJ, si cc, sr b813, un, un, un, un] [(.int (cs.getD 0 0)), (.int 0), (.ref b813)])) st818 ?_
  obtain ⟨u0, hu0⟩ : ∃ z : Int32, z = (cs.getD 0 0) := ⟨_, rfl⟩
  rw [← hu0]
  have hbu0 : ¬ u0 < 0 ∧ ¬ (65535 : Int32) < u0 := by rw [hu0]; exact hbd 0
  obtain ⟨T819, h819, X819, e819, W819, V819, st819⟩ := putC X818 hx hZ e818 V813 (j := (0 : Int32)) (x := u0) (oj_c16 hbu0) ⟨by decide, by decide⟩ (i := 0) rfl (leB rfl) (g := (mkF m 117 #[si p1, si p2, si p3, si p4, si kk, sr la, sr rr, si ll, si mm, si pJ, si cc, sr b813, un, un, un, un] [(.int u0), (.int 0), (.ref b813)])) rfl rfl (hb hby at_117)
  have K820 : Keep h0 h819 [] := K814.wr W819 (Or.inr sz_b813)
  have N821 := Fr.snoc X819 N818 ge_b813
  have hkS := Nat.le_trans hkS (Keep.of_wr W819).1
  have C822 := C815.trans (CHr.wr W819 (safeArv hZ.alike V813 (by decide)) C815.1)
  refine go (S' := T819.setTop (mkF m 124 #[si p1, si p2, si p3, si p4, si kk, sr la, sr rr, si ll, si mm, si pJ, si cc, sr b813, un, un, un, un] [(.int 1), (.ref la), (.int 1), (.ref b813)])) (fun t k => st819 _ (XS.aload X819.here hx rfl (hb hby at_118) rfl rfl (XS.iconst X819.here hx rfl (hb hby at_120) (XS.aload X819.here hx rfl (hb hby at_121) rfl rfl (XS.iconst X819.here hx rfl (hb hby at_123) k))))) ?_
  have f823 : Str Z h819 la lb (0 : Int32) cs := (f816.wr W819 (Nat.ne_of_lt lt_la_b813) (Nat.ne_of_lt lt_lb_b813))
  have O824 : Old Z n0 h819 := O0.keep K820 all0
  obtain ⟨v825, T825, L825, X825, hQ825, st825⟩ := callSt X819 hx hZ (y := y_12) hown (ww hw 27 rfl) (ww hw 28 rfl) (ww hw 29 rfl) (ww hw 30 rfl) (by decide) (backOf (W := 2) (rmAt l Z a0 hw [] la (1 : Int32) lb cs 1 G1 fm h819 n0 (Nat.le_trans Z0 K820.1) f823 rfl (by decide) hfm hp2 hp0 hG1 O824) hZ (ww hw 30 rfl) (ww hw 29 rfl) (by decide) (by decide)) (g := (mkF m 124 #[si p1, si p2, si p3, si p4, si kk, sr la, sr rr, si ll, si mm, si pJ, si cc, sr b813, un, un, un, un] [(.int 1), (.ref la), (.int 1), (.ref b813)])) rfl (by rw [hml]; rfl) (kc := 0) (ks := 0) (argsL := [(.ref la), (.int 1)]) (rest := [(.int 1), (.ref b813)]) (lenOf pd_17 rfl) rfl (mr0 rfl) (hb hby at_124) e819 (by decide) (by decide)
  obtain ⟨rfl, N825q, e825⟩ := hQ825
  have N825 := Fr.app N821 N825q
  refine go (S' := T825.setTop (mkF m 127 #[si p1, si p2, si p3, si p4, si kk, sr la, sr rr, si ll, si mm, si pJ, si cc, sr b813, un, un, un, un] [(.int (cs.getD 1 0)), (.int 1), (.ref b813)])) st825 ?_
  obtain ⟨u1, hu1⟩ : ∃ z : Int32, z = (cs.getD 1 0) := ⟨_, rfl⟩
  rw [← hu1]
  have hbu1 : ¬ u1 < 0 ∧ ¬ (65535 : Int32) < u1 := by rw [hu1]; exact hbd 1
  obtain ⟨T826, h826, X826, e826, W826, V826, st826⟩ := putC X825 hx hZ e825 V819 (j := (1 : Int32)) (x := u1) (oj_c16 hbu1) ⟨by decide, by decide⟩ (i := 1) rfl (leB rfl) (g := (mkF m 127 #[si p1, si p2, si p3, si p4, si kk, sr la, sr rr, si ll, si mm, si pJ, si cc, sr b813, un, un, un, un] [(.int u1), (.int 1), (.ref b813)])) rfl rfl (hb hby at_127)
  have K827 : Keep h0 h826 [] := K820.wr W826 (Or.inr sz_b813)
  have N828 := Fr.snoc X826 N825 ge_b813
  have hkS := Nat.le_trans hkS (Keep.of_wr W826).1
  have C829 := C822.trans (CHr.wr W826 (safeArv hZ.alike V819 (by decide)) C822.1)
  refine go (S' := T826.setTop (mkF m 134 #[si p1, si p2, si p3, si p4, si kk, sr la, sr rr, si ll, si mm, si pJ, si cc, sr b813, un, un, un, un] [(.int 2), (.ref la), (.int 2), (.ref b813)])) (fun t k => st826 _ (XS.aload X826.here hx rfl (hb hby at_128) rfl rfl (XS.iconst X826.here hx rfl (hb hby at_130) (XS.aload X826.here hx rfl (hb hby at_131) rfl rfl (XS.iconst X826.here hx rfl (hb hby at_133) k))))) ?_
  have f830 : Str Z h826 la lb (0 : Int32) cs := (f823.wr W826 (Nat.ne_of_lt lt_la_b813) (Nat.ne_of_lt lt_lb_b813))
  have O831 : Old Z n0 h826 := O0.keep K827 all0
  obtain ⟨v832, T832, L832, X832, hQ832, st832⟩ := callSt X826 hx hZ (y := y_12) hown (ww hw 27 rfl) (ww hw 28 rfl) (ww hw 29 rfl) (ww hw 30 rfl) (by decide) (backOf (W := 2) (rmAt l Z a0 hw [] la (2 : Int32) lb cs 2 G1 fm h826 n0 (Nat.le_trans Z0 K827.1) f830 rfl (by decide) hfm hp2 hp0 hG1 O831) hZ (ww hw 30 rfl) (ww hw 29 rfl) (by decide) (by decide)) (g := (mkF m 134 #[si p1, si p2, si p3, si p4, si kk, sr la, sr rr, si ll, si mm, si pJ, si cc, sr b813, un, un, un, un] [(.int 2), (.ref la), (.int 2), (.ref b813)])) rfl (by rw [hml]; rfl) (kc := 0) (ks := 0) (argsL := [(.ref la), (.int 2)]) (rest := [(.int 2), (.ref b813)]) (lenOf pd_17 rfl) rfl (mr0 rfl) (hb hby at_134) e826 (by decide) (by decide)
  obtain ⟨rfl, N832q, e832⟩ := hQ832
  have N832 := Fr.app N828 N832q
  refine go (S' := T832.setTop (mkF m 137 #[si p1, si p2, si p3, si p4, si kk, sr la, sr rr, si ll, si mm, si pJ, si cc, sr b813, un, un, un, un] [(.int (cs.getD 2 0)), (.int 2), (.ref b813)])) st832 ?_
  obtain ⟨u2, hu2⟩ : ∃ z : Int32, z = (cs.getD 2 0) := ⟨_, rfl⟩
  rw [← hu2]
  have hbu2 : ¬ u2 < 0 ∧ ¬ (65535 : Int32) < u2 := by rw [hu2]; exact hbd 2
  obtain ⟨T833, h833, X833, e833, W833, V833, st833⟩ := putC X832 hx hZ e832 V826 (j := (2 : Int32)) (x := u2) (oj_c16 hbu2) ⟨by decide, by decide⟩ (i := 2) rfl (leB rfl) (g := (mkF m 137 #[si p1, si p2, si p3, si p4, si kk, sr la, sr rr, si ll, si mm, si pJ, si cc, sr b813, un, un, un, un] [(.int u2), (.int 2), (.ref b813)])) rfl rfl (hb hby at_137)
  have K834 : Keep h0 h833 [] := K827.wr W833 (Or.inr sz_b813)
  have N835 := Fr.snoc X833 N832 ge_b813
  have hkS := Nat.le_trans hkS (Keep.of_wr W833).1
  have C836 := C829.trans (CHr.wr W833 (safeArv hZ.alike V826 (by decide)) C829.1)
  refine go (S' := T833.setTop (mkF m 144 #[si p1, si p2, si p3, si p4, si kk, sr la, sr rr, si ll, si mm, si pJ, si cc, sr b813, un, un, un, un] [(.int 3), (.ref la), (.int 3), (.ref b813)])) (fun t k => st833 _ (XS.aload X833.here hx rfl (hb hby at_138) rfl rfl (XS.iconst X833.here hx rfl (hb hby at_140) (XS.aload X833.here hx rfl (hb hby at_141) rfl rfl (XS.iconst X833.here hx rfl (hb hby at_143) k))))) ?_
  have f837 : Str Z h833 la lb (0 : Int32) cs := (f830.wr W833 (Nat.ne_of_lt lt_la_b813) (Nat.ne_of_lt lt_lb_b813))
  have O838 : Old Z n0 h833 := O0.keep K834 all0
  obtain ⟨v839, T839, L839, X839, hQ839, st839⟩ := callSt X833 hx hZ (y := y_12) hown (ww hw 27 rfl) (ww hw 28 rfl) (ww hw 29 rfl) (ww hw 30 rfl) (by decide) (backOf (W := 2) (rmAt l Z a0 hw [] la (3 : Int32) lb cs 3 G1 fm h833 n0 (Nat.le_trans Z0 K834.1) f837 rfl (by decide) hfm hp2 hp0 hG1 O838) hZ (ww hw 30 rfl) (ww hw 29 rfl) (by decide) (by decide)) (g := (mkF m 144 #[si p1, si p2, si p3, si p4, si kk, sr la, sr rr, si ll, si mm, si pJ, si cc, sr b813, un, un, un, un] [(.int 3), (.ref la), (.int 3), (.ref b813)])) rfl (by rw [hml]; rfl) (kc := 0) (ks := 0) (argsL := [(.ref la), (.int 3)]) (rest := [(.int 3), (.ref b813)]) (lenOf pd_17 rfl) rfl (mr0 rfl) (hb hby at_144) e833 (by decide) (by decide)
  obtain ⟨rfl, N839q, e839⟩ := hQ839
  have N839 := Fr.app N835 N839q
  refine go (S' := T839.setTop (mkF m 147 #[si p1, si p2, si p3, si p4, si kk, sr la, sr rr, si ll, si mm, si pJ, si cc, sr b813, un, un, un, un] [(.int (cs.getD 3 0)), (.int 3), (.ref b813)])) st839 ?_
  obtain ⟨u3, hu3⟩ : ∃ z : Int32, z = (cs.getD 3 0) := ⟨_, rfl⟩
  rw [← hu3]
  have hbu3 : ¬ u3 < 0 ∧ ¬ (65535 : Int32) < u3 := by rw [hu3]; exact hbd 3
  obtain ⟨T840, h840, X840, e840, W840, V840, st840⟩ := putC X839 hx hZ e839 V833 (j := (3 : Int32)) (x := u3) (oj_c16 hbu3) ⟨by decide, by decide⟩ (i := 3) rfl (leB rfl) (g := (mkF m 147 #[si p1, si p2, si p3, si p4, si kk, sr la, sr rr, si ll, si mm, si pJ, si cc, sr b813, un, un, un, un] [(.int u3), (.int 3), (.ref b813)])) rfl rfl (hb hby at_147)
  have K841 : Keep h0 h840 [] := K834.wr W840 (Or.inr sz_b813)
  have N842 := Fr.snoc X840 N839 ge_b813
  have hkS := Nat.le_trans hkS (Keep.of_wr W840).1
  have C843 := C836.trans (CHr.wr W840 (safeArv hZ.alike V833 (by decide)) C836.1)
  refine go (S' := T840.setTop (mkF m 154 #[si p1, si p2, si p3, si p4, si kk, sr la, sr rr, si ll, si mm, si pJ, si cc, sr b813, un, un, un, un] [(.int 4), (.ref la), (.int 4), (.ref b813)])) (fun t k => st840 _ (XS.aload X840.here hx rfl (hb hby at_148) rfl rfl (XS.iconst X840.here hx rfl (hb hby at_150) (XS.aload X840.here hx rfl (hb hby at_151) rfl rfl (XS.iconst X840.here hx rfl (hb hby at_153) k))))) ?_
  have f844 : Str Z h840 la lb (0 : Int32) cs := (f837.wr W840 (Nat.ne_of_lt lt_la_b813) (Nat.ne_of_lt lt_lb_b813))
  have O845 : Old Z n0 h840 := O0.keep K841 all0
  obtain ⟨v846, T846, L846, X846, hQ846, st846⟩ := callSt X840 hx hZ (y := y_12) hown (ww hw 27 rfl) (ww hw 28 rfl) (ww hw 29 rfl) (ww hw 30 rfl) (by decide) (backOf (W := 2) (rmAt l Z a0 hw [] la (4 : Int32) lb cs 4 G1 fm h840 n0 (Nat.le_trans Z0 K841.1) f844 rfl (by decide) hfm hp2 hp0 hG1 O845) hZ (ww hw 30 rfl) (ww hw 29 rfl) (by decide) (by decide)) (g := (mkF m 154 #[si p1, si p2, si p3, si p4, si kk, sr la, sr rr, si ll, si mm, si pJ, si cc, sr b813, un, un, un, un] [(.int 4), (.ref la), (.int 4), (.ref b813)])) rfl (by rw [hml]; rfl) (kc := 0) (ks := 0) (argsL := [(.ref la), (.int 4)]) (rest := [(.int 4), (.ref b813)]) (lenOf pd_17 rfl) rfl (mr0 rfl) (hb hby at_154) e840 (by decide) (by decide)
  obtain ⟨rfl, N846q, e846⟩ := hQ846
  have N846 := Fr.app N842 N846q
  refine go (S' := T846.setTop (mkF m 157 #[si p1, si p2, si p3, si p4, si kk, sr la, sr rr, si ll, si mm, si pJ, si cc, sr b813, un, un, un, un] [(.int (cs.getD 4 0)), (.int 4), (.ref b813)])) st846 ?_
  obtain ⟨u4, hu4⟩ : ∃ z : Int32, z = (cs.getD 4 0) := ⟨_, rfl⟩
  rw [← hu4]
  have hbu4 : ¬ u4 < 0 ∧ ¬ (65535 : Int32) < u4 := by rw [hu4]; exact hbd 4
  obtain ⟨T847, h847, X847, e847, W847, V847, st847⟩ := putC X846 hx hZ e846 V840 (j := (4 : Int32)) (x := u4) (oj_c16 hbu4) ⟨by decide, by decide⟩ (i := 4) rfl (leB rfl) (g := (mkF m 157 #[si p1, si p2, si p3, si p4, si kk, sr la, sr rr, si ll, si mm, si pJ, si cc, sr b813, un, un, un, un] [(.int u4), (.int 4), (.ref b813)])) rfl rfl (hb hby at_157)
  have K848 : Keep h0 h847 [] := K841.wr W847 (Or.inr sz_b813)
  have N849 := Fr.snoc X847 N846 ge_b813
  have hkS := Nat.le_trans hkS (Keep.of_wr W847).1
  have C850 := C843.trans (CHr.wr W847 (safeArv hZ.alike V840 (by decide)) C843.1)
  refine go (S' := T847.setTop (mkF m 164 #[si p1, si p2, si p3, si p4, si kk, sr la, sr rr, si ll, si mm, si pJ, si cc, sr b813, un, un, un, un] [(.int 5), (.ref la), (.int 5), (.ref b813)])) (fun t k => st847 _ (XS.aload X847.here hx rfl (hb hby at_158) rfl rfl (XS.iconst X847.here hx rfl (hb hby at_160) (XS.aload X847.here hx rfl (hb hby at_161) rfl rfl (XS.iconst X847.here hx rfl (hb hby at_163) k))))) ?_
  have f851 : Str Z h847 la lb (0 : Int32) cs := (f844.wr W847 (Nat.ne_of_lt lt_la_b813) (Nat.ne_of_lt lt_lb_b813))
  have O852 : Old Z n0 h847 := O0.keep K848 all0
  obtain ⟨v853, T853, L853, X853, hQ853, st853⟩ := callSt X847 hx hZ (y := y_12) hown (ww hw 27 rfl) (ww hw 28 rfl) (ww hw 29 rfl) (ww hw 30 rfl) (by decide) (backOf (W := 2) (rmAt l Z a0 hw [] la (5 : Int32) lb cs 5 G1 fm h847 n0 (Nat.le_trans Z0 K848.1) f851 rfl (by decide) hfm hp2 hp0 hG1 O852) hZ (ww hw 30 rfl) (ww hw 29 rfl) (by decide) (by decide)) (g := (mkF m 164 #[si p1, si p2, si p3, si p4, si kk, sr la, sr rr, si ll, si mm, si pJ, si cc, sr b813, un, un, un, un] [(.int 5), (.ref la), (.int 5), (.ref b813)])) rfl (by rw [hml]; rfl) (kc := 0) (ks := 0) (argsL := [(.ref la), (.int 5)]) (rest := [(.int 5), (.ref b813)]) (lenOf pd_17 rfl) rfl (mr0 rfl) (hb hby at_164) e847 (by decide) (by decide)
  obtain ⟨rfl, N853q, e853⟩ := hQ853
  have N853 := Fr.app N849 N853q
  refine go (S' := T853.setTop (mkF m 167 #[si p1, si p2, si p3, si p4, si kk, sr la, sr rr, si ll, si mm, si pJ, si cc, sr b813, un, un, un, un] [(.int (cs.getD 5 0)), (.int 5), (.ref b813)])) st853 ?_
  obtain ⟨u5, hu5⟩ : ∃ z : Int32, z = (cs.getD 5 0) := ⟨_, rfl⟩
  rw [← hu5]
  have hbu5 : ¬ u5 < 0 ∧ ¬ (65535 : Int32) < u5 := by rw [hu5]; exact hbd 5
  obtain ⟨T854, h854, X854, e854, W854, V854, st854⟩ := putC X853 hx hZ e853 V847 (j := (5 : Int32)) (x := u5) (oj_c16 hbu5) ⟨by decide, by decide⟩ (i := 5) rfl (leB rfl) (g := (mkF m 167 #[si p1, si p2, si p3, si p4, si kk, sr la, sr rr, si ll, si mm, si pJ, si cc, sr b813, un, un, un, un] [(.int u5), (.int 5), (.ref b813)])) rfl rfl (hb hby at_167)
  have K855 : Keep h0 h854 [] := K848.wr W854 (Or.inr sz_b813)
  have N856 := Fr.snoc X854 N853 ge_b813
  have hkS := Nat.le_trans hkS (Keep.of_wr W854).1
  have C857 := C850.trans (CHr.wr W854 (safeArv hZ.alike V847 (by decide)) C850.1)
  refine go (S' := T854.setTop (mkF m 176 #[si p1, si p2, si p3, si p4, si kk, sr la, sr rr, si ll, si mm, si pJ, si cc, sr b813, un, un, un, un] [(.int 6), (.ref la), (.int 6), (.ref b813)])) (fun t k => st854 _ (XS.aload X854.here hx rfl (hb hby at_168) rfl rfl (XS.bipush X854.here hx rfl (hb hby at_170) (XS.aload X854.here hx rfl (hb hby at_172) rfl rfl (XS.bipush X854.here hx rfl (hb hby at_174) k))))) ?_
  have f858 : Str Z h854 la lb (0 : Int32) cs := (f851.wr W854 (Nat.ne_of_lt lt_la_b813) (Nat.ne_of_lt lt_lb_b813))
  have O859 : Old Z n0 h854 := O0.keep K855 all0
  obtain ⟨v860, T860, L860, X860, hQ860, st860⟩ := callSt X854 hx hZ (y := y_12) hown (ww hw 27 rfl) (ww hw 28 rfl) (ww hw 29 rfl) (ww hw 30 rfl) (by decide) (backOf (W := 2) (rmAt l Z a0 hw [] la (6 : Int32) lb cs 6 G1 fm h854 n0 (Nat.le_trans Z0 K855.1) f858 rfl (by decide) hfm hp2 hp0 hG1 O859) hZ (ww hw 30 rfl) (ww hw 29 rfl) (by decide) (by decide)) (g := (mkF m 176 #[si p1, si p2, si p3, si p4, si kk, sr la, sr rr, si ll, si mm, si pJ, si cc, sr b813, un, un, un, un] [(.int 6), (.ref la), (.int 6), (.ref b813)])) rfl (by rw [hml]; rfl) (kc := 0) (ks := 0) (argsL := [(.ref la), (.int 6)]) (rest := [(.int 6), (.ref b813)]) (lenOf pd_17 rfl) rfl (mr0 rfl) (hb hby at_176) e854 (by decide) (by decide)
  obtain ⟨rfl, N860q, e860⟩ := hQ860
  have N860 := Fr.app N856 N860q
  refine go (S' := T860.setTop (mkF m 179 #[si p1, si p2, si p3, si p4, si kk, sr la, sr rr, si ll, si mm, si pJ, si cc, sr b813, un, un, un, un] [(.int (cs.getD 6 0)), (.int 6), (.ref b813)])) st860 ?_
  obtain ⟨u6, hu6⟩ : ∃ z : Int32, z = (cs.getD 6 0) := ⟨_, rfl⟩
  rw [← hu6]
  have hbu6 : ¬ u6 < 0 ∧ ¬ (65535 : Int32) < u6 := by rw [hu6]; exact hbd 6
  obtain ⟨T861, h861, X861, e861, W861, V861, st861⟩ := putC X860 hx hZ e860 V854 (j := (6 : Int32)) (x := u6) (oj_c16 hbu6) ⟨by decide, by decide⟩ (i := 6) rfl (leB rfl) (g := (mkF m 179 #[si p1, si p2, si p3, si p4, si kk, sr la, sr rr, si ll, si mm, si pJ, si cc, sr b813, un, un, un, un] [(.int u6), (.int 6), (.ref b813)])) rfl rfl (hb hby at_179)
  have K862 : Keep h0 h861 [] := K855.wr W861 (Or.inr sz_b813)
  have N863 := Fr.snoc X861 N860 ge_b813
  have hkS := Nat.le_trans hkS (Keep.of_wr W861).1
  have C864 := C857.trans (CHr.wr W861 (safeArv hZ.alike V854 (by decide)) C857.1)
  refine go (S' := T861.setTop (mkF m 188 #[si p1, si p2, si p3, si p4, si kk, sr la, sr rr, si ll, si mm, si pJ, si cc, sr b813, un, un, un, un] [(.int 7), (.ref la), (.int 7), (.ref b813)])) (fun t k => st861 _ (XS.aload X861.here hx rfl (hb hby at_180) rfl rfl (XS.bipush X861.here hx rfl (hb hby at_182) (XS.aload X861.here hx rfl (hb hby at_184) rfl rfl (XS.bipush X861.here hx rfl (hb hby at_186) k))))) ?_
  have f865 : Str Z h861 la lb (0 : Int32) cs := (f858.wr W861 (Nat.ne_of_lt lt_la_b813) (Nat.ne_of_lt lt_lb_b813))
  have O866 : Old Z n0 h861 := O0.keep K862 all0
  obtain ⟨v867, T867, L867, X867, hQ867, st867⟩ := callSt X861 hx hZ (y := y_12) hown (ww hw 27 rfl) (ww hw 28 rfl) (ww hw 29 rfl) (ww hw 30 rfl) (by decide) (backOf (W := 2) (rmAt l Z a0 hw [] la (7 : Int32) lb cs 7 G1 fm h861 n0 (Nat.le_trans Z0 K862.1) f865 rfl (by decide) hfm hp2 hp0 hG1 O866) hZ (ww hw 30 rfl) (ww hw 29 rfl) (by decide) (by decide)) (g := (mkF m 188 #[si p1, si p2, si p3, si p4, si kk, sr la, sr rr, si ll, si mm, si pJ, si cc, sr b813, un, un, un, un] [(.int 7), (.ref la), (.int 7), (.ref b813)])) rfl (by rw [hml]; rfl) (kc := 0) (ks := 0) (argsL := [(.ref la), (.int 7)]) (rest := [(.int 7), (.ref b813)]) (lenOf pd_17 rfl) rfl (mr0 rfl) (hb hby at_188) e861 (by decide) (by decide)
  obtain ⟨rfl, N867q, e867⟩ := hQ867
  have N867 := Fr.app N863 N867q
  refine go (S' := T867.setTop (mkF m 191 #[si p1, si p2, si p3, si p4, si kk, sr la, sr rr, si ll, si mm, si pJ, si cc, sr b813, un, un, un, un] [(.int (cs.getD 7 0)), (.int 7), (.ref b813)])) st867 ?_
  obtain ⟨u7, hu7⟩ : ∃ z : Int32, z = (cs.getD 7 0) := ⟨_, rfl⟩
  rw [← hu7]
  have hbu7 : ¬ u7 < 0 ∧ ¬ (65535 : Int32) < u7 := by rw [hu7]; exact hbd 7
  obtain ⟨T868, h868, X868, e868, W868, V868, st868⟩ := putC X867 hx hZ e867 V861 (j := (7 : Int32)) (x := u7) (oj_c16 hbu7) ⟨by decide, by decide⟩ (i := 7) rfl (leB rfl) (g := (mkF m 191 #[si p1, si p2, si p3, si p4, si kk, sr la, sr rr, si ll, si mm, si pJ, si cc, sr b813, un, un, un, un] [(.int u7), (.int 7), (.ref b813)])) rfl rfl (hb hby at_191)
  have K869 : Keep h0 h868 [] := K862.wr W868 (Or.inr sz_b813)
  have N870 := Fr.snoc X868 N867 ge_b813
  have hkS := Nat.le_trans hkS (Keep.of_wr W868).1
  have C871 := C864.trans (CHr.wr W868 (safeArv hZ.alike V861 (by decide)) C864.1)
  refine go (S' := T868.setTop (mkF m 200 #[si p1, si p2, si p3, si p4, si kk, sr la, sr rr, si ll, si mm, si pJ, si cc, sr b813, un, un, un, un] [(.int 8), (.ref la), (.int 8), (.ref b813)])) (fun t k => st868 _ (XS.aload X868.here hx rfl (hb hby at_192) rfl rfl (XS.bipush X868.here hx rfl (hb hby at_194) (XS.aload X868.here hx rfl (hb hby at_196) rfl rfl (XS.bipush X868.here hx rfl (hb hby at_198) k))))) ?_
  have f872 : Str Z h868 la lb (0 : Int32) cs := (f865.wr W868 (Nat.ne_of_lt lt_la_b813) (Nat.ne_of_lt lt_lb_b813))
  have O873 : Old Z n0 h868 := O0.keep K869 all0
  obtain ⟨v874, T874, L874, X874, hQ874, st874⟩ := callSt X868 hx hZ (y := y_12) hown (ww hw 27 rfl) (ww hw 28 rfl) (ww hw 29 rfl) (ww hw 30 rfl) (by decide) (backOf (W := 2) (rmAt l Z a0 hw [] la (8 : Int32) lb cs 8 G1 fm h868 n0 (Nat.le_trans Z0 K869.1) f872 rfl (by decide) hfm hp2 hp0 hG1 O873) hZ (ww hw 30 rfl) (ww hw 29 rfl) (by decide) (by decide)) (g := (mkF m 200 #[si p1, si p2, si p3, si p4, si kk, sr la, sr rr, si ll, si mm, si pJ, si cc, sr b813, un, un, un, un] [(.int 8), (.ref la), (.int 8), (.ref b813)])) rfl (by rw [hml]; rfl) (kc := 0) (ks := 0) (argsL := [(.ref la), (.int 8)]) (rest := [(.int 8), (.ref b813)]) (lenOf pd_17 rfl) rfl (mr0 rfl) (hb hby at_200) e868 (by decide) (by decide)
  obtain ⟨rfl, N874q, e874⟩ := hQ874
  have N874 := Fr.app N870 N874q
  refine go (S' := T874.setTop (mkF m 203 #[si p1, si p2, si p3, si p4, si kk, sr la, sr rr, si ll, si mm, si pJ, si cc, sr b813, un, un, un, un] [(.int (cs.getD 8 0)), (.int 8), (.ref b813)])) st874 ?_
  obtain ⟨u8, hu8⟩ : ∃ z : Int32, z = (cs.getD 8 0) := ⟨_, rfl⟩
  rw [← hu8]
  have hbu8 : ¬ u8 < 0 ∧ ¬ (65535 : Int32) < u8 := by rw [hu8]; exact hbd 8
  obtain ⟨T875, h875, X875, e875, W875, V875, st875⟩ := putC X874 hx hZ e874 V868 (j := (8 : Int32)) (x := u8) (oj_c16 hbu8) ⟨by decide, by decide⟩ (i := 8) rfl (leB rfl) (g := (mkF m 203 #[si p1, si p2, si p3, si p4, si kk, sr la, sr rr, si ll, si mm, si pJ, si cc, sr b813, un, un, un, un] [(.int u8), (.int 8), (.ref b813)])) rfl rfl (hb hby at_203)
  have K876 : Keep h0 h875 [] := K869.wr W875 (Or.inr sz_b813)
  have N877 := Fr.snoc X875 N874 ge_b813
  have hkS := Nat.le_trans hkS (Keep.of_wr W875).1
  have C878 := C871.trans (CHr.wr W875 (safeArv hZ.alike V868 (by decide)) C871.1)
  refine go (S' := T875.setTop (mkF m 212 #[si p1, si p2, si p3, si p4, si kk, sr la, sr rr, si ll, si mm, si pJ, si cc, sr b813, un, un, un, un] [(.int 9), (.ref la), (.int 9), (.ref b813)])) (fun t k => st875 _ (XS.aload X875.here hx rfl (hb hby at_204) rfl rfl (XS.bipush X875.here hx rfl (hb hby at_206) (XS.aload X875.here hx rfl (hb hby at_208) rfl rfl (XS.bipush X875.here hx rfl (hb hby at_210) k))))) ?_
  have f879 : Str Z h875 la lb (0 : Int32) cs := (f872.wr W875 (Nat.ne_of_lt lt_la_b813) (Nat.ne_of_lt lt_lb_b813))
  have O880 : Old Z n0 h875 := O0.keep K876 all0
  obtain ⟨v881, T881, L881, X881, hQ881, st881⟩ := callSt X875 hx hZ (y := y_12) hown (ww hw 27 rfl) (ww hw 28 rfl) (ww hw 29 rfl) (ww hw 30 rfl) (by decide) (backOf (W := 2) (rmAt l Z a0 hw [] la (9 : Int32) lb cs 9 G1 fm h875 n0 (Nat.le_trans Z0 K876.1) f879 rfl (by decide) hfm hp2 hp0 hG1 O880) hZ (ww hw 30 rfl) (ww hw 29 rfl) (by decide) (by decide)) (g := (mkF m 212 #[si p1, si p2, si p3, si p4, si kk, sr la, sr rr, si ll, si mm, si pJ, si cc, sr b813, un, un, un, un] [(.int 9), (.ref la), (.int 9), (.ref b813)])) rfl (by rw [hml]; rfl) (kc := 0) (ks := 0) (argsL := [(.ref la), (.int 9)]) (rest := [(.int 9), (.ref b813)]) (lenOf pd_17 rfl) rfl (mr0 rfl) (hb hby at_212) e875 (by decide) (by decide)
  obtain ⟨rfl, N881q, e881⟩ := hQ881
  have N881 := Fr.app N877 N881q
  refine go (S' := T881.setTop (mkF m 215 #[si p1, si p2, si p3, si p4, si kk, sr la, sr rr, si ll, si mm, si pJ, si cc, sr b813, un, un, un, un] [(.int (cs.getD 9 0)), (.int 9), (.ref b813)])) st881 ?_
  obtain ⟨u9, hu9⟩ : ∃ z : Int32, z = (cs.getD 9 0) := ⟨_, rfl⟩
  rw [← hu9]
  have hbu9 : ¬ u9 < 0 ∧ ¬ (65535 : Int32) < u9 := by rw [hu9]; exact hbd 9
  obtain ⟨T882, h882, X882, e882, W882, V882, st882⟩ := putC X881 hx hZ e881 V875 (j := (9 : Int32)) (x := u9) (oj_c16 hbu9) ⟨by decide, by decide⟩ (i := 9) rfl (leB rfl) (g := (mkF m 215 #[si p1, si p2, si p3, si p4, si kk, sr la, sr rr, si ll, si mm, si pJ, si cc, sr b813, un, un, un, un] [(.int u9), (.int 9), (.ref b813)])) rfl rfl (hb hby at_215)
  have K883 : Keep h0 h882 [] := K876.wr W882 (Or.inr sz_b813)
  have N884 := Fr.snoc X882 N881 ge_b813
  have hkS := Nat.le_trans hkS (Keep.of_wr W882).1
  have C885 := C878.trans (CHr.wr W882 (safeArv hZ.alike V875 (by decide)) C878.1)
  refine go (S' := T882.setTop (mkF m 224 #[si p1, si p2, si p3, si p4, si kk, sr la, sr rr, si ll, si mm, si pJ, si cc, sr b813, un, un, un, un] [(.int 10), (.ref la), (.int 10), (.ref b813)])) (fun t k => st882 _ (XS.aload X882.here hx rfl (hb hby at_216) rfl rfl (XS.bipush X882.here hx rfl (hb hby at_218) (XS.aload X882.here hx rfl (hb hby at_220) rfl rfl (XS.bipush X882.here hx rfl (hb hby at_222) k))))) ?_
  have f886 : Str Z h882 la lb (0 : Int32) cs := (f879.wr W882 (Nat.ne_of_lt lt_la_b813) (Nat.ne_of_lt lt_lb_b813))
  have O887 : Old Z n0 h882 := O0.keep K883 all0
  obtain ⟨v888, T888, L888, X888, hQ888, st888⟩ := callSt X882 hx hZ (y := y_12) hown (ww hw 27 rfl) (ww hw 28 rfl) (ww hw 29 rfl) (ww hw 30 rfl) (by decide) (backOf (W := 2) (rmAt l Z a0 hw [] la (10 : Int32) lb cs 10 G1 fm h882 n0 (Nat.le_trans Z0 K883.1) f886 rfl (by decide) hfm hp2 hp0 hG1 O887) hZ (ww hw 30 rfl) (ww hw 29 rfl) (by decide) (by decide)) (g := (mkF m 224 #[si p1, si p2, si p3, si p4, si kk, sr la, sr rr, si ll, si mm, si pJ, si cc, sr b813, un, un, un, un] [(.int 10), (.ref la), (.int 10), (.ref b813)])) rfl (by rw [hml]; rfl) (kc := 0) (ks := 0) (argsL := [(.ref la), (.int 10)]) (rest := [(.int 10), (.ref b813)]) (lenOf pd_17 rfl) rfl (mr0 rfl) (hb hby at_224) e882 (by decide) (by decide)
  obtain ⟨rfl, N888q, e888⟩ := hQ888
  have N888 := Fr.app N884 N888q
  refine go (S' := T888.setTop (mkF m 227 #[si p1, si p2, si p3, si p4, si kk, sr la, sr rr, si ll, si mm, si pJ, si cc, sr b813, un, un, un, un] [(.int (cs.getD 10 0)), (.int 10), (.ref b813)])) st888 ?_
  obtain ⟨u10, hu10⟩ : ∃ z : Int32, z = (cs.getD 10 0) := ⟨_, rfl⟩
  rw [← hu10]
  have hbu10 : ¬ u10 < 0 ∧ ¬ (65535 : Int32) < u10 := by rw [hu10]; exact hbd 10
  obtain ⟨T889, h889, X889, e889, W889, V889, st889⟩ := putC X888 hx hZ e888 V882 (j := (10 : Int32)) (x := u10) (oj_c16 hbu10) ⟨by decide, by decide⟩ (i := 10) rfl (leB rfl) (g := (mkF m 227 #[si p1, si p2, si p3, si p4, si kk, sr la, sr rr, si ll, si mm, si pJ, si cc, sr b813, un, un, un, un] [(.int u10), (.int 10), (.ref b813)])) rfl rfl (hb hby at_227)
  have K890 : Keep h0 h889 [] := K883.wr W889 (Or.inr sz_b813)
  have N891 := Fr.snoc X889 N888 ge_b813
  have hkS := Nat.le_trans hkS (Keep.of_wr W889).1
  have C892 := C885.trans (CHr.wr W889 (safeArv hZ.alike V882 (by decide)) C885.1)
  refine go (S' := T889.setTop (mkF m 228 #[si p1, si p2, si p3, si p4, si kk, sr la, sr rr, si ll, si mm, si pJ, si cc, sr b813, un, un, un, un] [])) st889 ?_
  obtain ⟨bl, hbl⟩ : ∃ z : List Int32, z = [u0, u1, u2, u3, u4, u5, u6, u7, u8, u9, u10, 0] := ⟨_, rfl⟩
  have hbV : Arv Z h889 b813 k813 .char (12 : Int32) (bl.map Value.int) (.int 0) := by rw [hbl]; exact V889
  have hbc : bl = own_b12 cs := by rw [hbl, hu0, hu1, hu2, hu3, hu4, hu5, hu6, hu7, hu8, hu9, hu10]; rfl
  have hb12 : bl.length = 12 := by rw [hbl]; rfl
  have hbp : ∀ z ∈ bl, ¬ z < 0 ∧ ¬ (65535 : Int32) < z := by rw [hbl]; exact (allI hbu0 (allI hbu1 (allI hbu2 (allI hbu3 (allI hbu4 (allI hbu5 (allI hbu6 (allI hbu7 (allI hbu8 (allI hbu9 (allI hbu10 (allI ⟨by decide, by decide⟩ (fun _ q => nomatch q)))))))))))))
  refine go (S' := T889.setTop (mkF m 234 #[si p1, si p2, si p3, si p4, si kk, sr la, sr rr, si ll, si mm, si pJ, si cc, sr b813, si ll, un, un, un] [(.int mm)])) (fun t k => XS.iload X889.here hx rfl (hb hby at_228) rfl (XS.istore X889.here hx rfl (hb hby at_230) rfl (l' := #[si p1, si p2, si p3, si p4, si kk, sr la, sr rr, si ll, si mm, si pJ, si cc, sr b813, si ll, un, un, un]) rfl (XS.iload X889.here hx rfl (hb hby at_232) rfl k))) ?_
  by_cases hc893 : mm = (0 : Int32)
  ·
   refine go (S' := T889.setTop (mkF m 358 #[si p1, si p2, si p3, si p4, si kk, sr la, sr rr, si ll, si mm, si pJ, si cc, sr b813, si ll, si 1, un, un] [(.ref b813)])) (fun t k => XS.ifNo X889.here hx rfl (hb hby at_234) rfl ((if0 _ _).trans (teq hc893).2) (XS.iconst X889.here hx rfl (hb hby at_237) (XS.istore X889.here hx rfl (hb hby at_238) rfl (l' := #[si p1, si p2, si p3, si p4, si kk, sr la, sr rr, si ll, si mm, si pJ, si cc, sr b813, si ll, si 1, un, un]) rfl (XS.goto X889.here hx rfl (pc0 := 240) (pc' := 346) rfl (hb hby at_240) (by decide) (by decide) (XS.iload X889.here hx rfl (hb hby at_346) rfl (XS.iconst X889.here hx rfl (hb hby at_348) (XS.icmpYes X889.here hx rfl (pc0 := 349) (pc' := 356) rfl (hb hby at_349) rfl (feq (fun q => absurd (hc893.symm.trans q) (by decide))).2 (by decide) (by decide) (XS.aload X889.here hx rfl (hb hby at_356) rfl rfl k)))))))) ?_
   refine go (S' := T889.setTop (mkF m 360 #[si p1, si p2, si p3, si p4, si kk, sr la, sr rr, si ll, si mm, si pJ, si cc, sr b813, si ll, si 1, un, un] [(.int ll), (.ref b813)])) (fun t k => XS.iload X889.here hx rfl (hb hby at_358) rfl k) ?_
   have O894 : Old Z n0 h889 := O0.keep K890 all0
   obtain ⟨v895, T895, L895, X895, hQ895, hS, hZ, hown, Cq895, st895⟩ := callStW X889 hx hZ (y := y_13) hown (ww hw 53 rfl) (ww hw 54 rfl) (ww hw 29 rfl) (ww hw 55 rfl) (by decide) (backW (W := 0) (rmMk l Z a0 hw [] b813 ll k813 bl cs.length G1 (.int 0) h889 n0 (Nat.le_trans Z0 K890.1) hbV hll (by omega) hb12 hbp hp0 hG1 hp4 hp5 hp6 O894) hZ (ww hw 55 rfl) (ww hw 29 rfl) (by decide) (by decide) (own_EW hw) C892.1 all0) (g := (mkF m 360 #[si p1, si p2, si p3, si p4, si kk, sr la, sr rr, si ll, si mm, si pJ, si cc, sr b813, si ll, si 1, un, un] [(.int ll), (.ref b813)])) rfl (by rw [hml]; rfl) (kc := 6) (ks := 51) (argsL := [(.ref b813), (.int ll)]) (rest := []) (lenOf pd_18 rfl) rfl (mr0 rfl) (hb hby at_360) e889 (by decide) (by decide) hS hkS
   obtain ⟨x_895, t_895, cd_895, rfl, N895q, Kq895, q895_0, q895_1⟩ := hQ895
   have N895 := Fr.app N891 N895q
   have f896 : Str Z h889 la lb (0 : Int32) cs := (f886.wr W889 (Nat.ne_of_lt lt_la_b813) (Nat.ne_of_lt lt_lb_b813))
   have hkS := Nat.le_refl T895.heap.size
   have C897 := C892.trans Cq895
   have K898 : Keep h0 T895.heap [] := K890.trans Kq895 all0
   have lt_la_x_895 : la < x_895 := Nat.lt_of_lt_of_le f896.lt1 q895_0
   have lt_lb_x_895 : lb < x_895 := Nat.lt_of_lt_of_le f896.lt2 q895_0
   have lt_b813_x_895 : b813 < x_895 := Nat.lt_of_lt_of_le hbV.lt q895_0
   have sz_x_895 : h0.size ≤ x_895 := Nat.le_trans K890.1 q895_0
   have ge_x_895 : n0 ≤ x_895 := Nat.le_trans Z0 sz_x_895
   refine go (S' := T895.setTop (mkF m 367 #[si p1, si p2, si p3, si p4, si kk, sr la, sr rr, si ll, si mm, si pJ, si cc, sr b813, si ll, si 1, sr x_895, un] [(.ref x_895)])) (fun t k => st895 _ (XS.astore X895.here hx rfl (hb hby at_363) rfl rfl (l' := #[si p1, si p2, si p3, si p4, si kk, sr la, sr rr, si ll, si mm, si pJ, si cc, sr b813, si ll, si 1, sr x_895, un]) rfl (XS.aload X895.here hx rfl (hb hby at_365) rfl rfl k))) ?_
   have O899 : Old Z n0 T895.heap := O0.keep K898 all0
   obtain ⟨v900, T900, L900, X900, hQ900, st900⟩ := callSt X895 hx hZ (y := y_22) hown (ww hw 77 rfl) (ww hw 78 rfl) (ww hw 10 rfl) (ww hw 79 rfl) (by decide) (backOf (W := 0) (rmFl l Z a0 hw [] x_895 t_895 cd_895 (bl.take cs.length) av kV c1 c2 c3 c4 l1 l2 l3 l4 m1 m2 m3 m4 oe G1 T895.heap n0 (Nat.le_trans Z0 K898.1) q895_1 hp11 hp12 hp13 hp14 hp15 hp16 hp17 hp18 hp19 hp20 hp21 hp22 hp23 hp24 hp0 hG1 O899) hZ (ww hw 79 rfl) (ww hw 10 rfl) (by decide) (by decide)) (g := (mkF m 367 #[si p1, si p2, si p3, si p4, si kk, sr la, sr rr, si ll, si mm, si pJ, si cc, sr b813, si ll, si 1, sr x_895, un] [(.ref x_895)])) rfl (by rw [hml]; rfl) (kc := 2) (ks := 5) (argsL := [(.ref x_895)]) (rest := []) (lenOf pd_19 rfl) rfl (mr0 rfl) (hb hby at_367) rfl (by decide) (by decide)
   obtain ⟨r_900, rv_900, rfl, N900q, Kq900, q900_0, q900_1, q900_2⟩ := hQ900
   have N900 := Fr.app N895 N900q
   have hkS := Nat.le_trans hkS Kq900.1
   have C901 := C897.trans (CHr.keep Kq900 all0 C897.1)
   have K902 : Keep h0 T900.heap [] := K898.trans Kq900 all0
   refine go (S' := T900.setTop (mkF m 370 #[si p1, si p2, si p3, si p4, si kk, sr la, sr rr, si ll, si mm, si pJ, si cc, sr b813, si ll, si 1, sr x_895, un] [(.ref r_900)])) st900 ?_
   have hr900 : rv_900 = (.ref rr) := q900_2.trans (own_M0 hcs hbc)
   subst hr900
   refine go (S' := T900.setTop (mkF m 374 #[si p1, si p2, si p3, si p4, si kk, sr la, sr rr, si ll, si mm, si pJ, si cc, sr b813, si ll, si 1, sr x_895, sr r_900] [(.int 1)])) (fun t k => XS.astore X900.here hx rfl (hb hby at_370) rfl rfl (l' := #[si p1, si p2, si p3, si p4, si kk, sr la, sr rr, si ll, si mm, si pJ, si cc, sr b813, si ll, si 1, sr x_895, sr r_900]) rfl (XS.iload X900.here hx rfl (hb hby at_372) rfl k)) ?_
   have hc903 : ¬ ((1 : Int32) = (0 : Int32)) := by decide
   refine go (S' := T900.setTop (mkF m 393 #[si p1, si p2, si p3, si p4, si kk, sr la, sr rr, si ll, si mm, si pJ, si cc, sr b813, si ll, si 1, sr x_895, sr r_900] [(.ref r_900)])) (fun t k => XS.ifYes X900.here hx rfl (pc0 := 374) (pc' := 391) rfl (hb hby at_374) rfl ((if0 _ _).trans (feq hc903).2) (by decide) (by decide) (XS.aload X900.here hx rfl (hb hby at_391) rfl rfl k)) ?_
   obtain ⟨v904, T904, L904, X904, hQ904, st904⟩ := callV X900 hx hZ (y := y_15) (z := y_15) hown (ww hw 114 rfl) (ww hw 115 rfl) (notFace_of_selects (args := #[]) (mvT hZ (ww hw 117 rfl))) (ww hw 117 rfl) (ww hw 116 rfl) (by decide) (backOf (W := 0) (rmIp1 l Z a0 hw [] r_900 rr T900.heap n0 (Nat.le_trans Z0 K902.1) q900_1) hZ (ww hw 118 rfl) (ww hw 111 rfl) (by decide) (by decide)) q900_0 (g := (mkF m 393 #[si p1, si p2, si p3, si p4, si kk, sr la, sr rr, si ll, si mm, si pJ, si cc, sr b813, si ll, si 1, sr x_895, sr r_900] [(.ref r_900)])) rfl (by rw [hml]; rfl) (kc := 0) (ks := 0) (argsL := []) (rest := []) (lenOf pd_20 rfl) rfl (mr0 rfl) (hb hby at_393) rfl (by decide) (by decide)
   obtain ⟨rfl, N904q, e904⟩ := hQ904
   have N904 := Fr.app N900 N904q
   refine go (S' := T904.setTop (mkF m 396 #[si p1, si p2, si p3, si p4, si kk, sr la, sr rr, si ll, si mm, si pJ, si cc, sr b813, si ll, si 1, sr x_895, sr r_900] [(.int 1)])) st904 ?_
   have hc905 : ¬ ((1 : Int32) = (0 : Int32)) := by decide
   refine go (S' := T904.setTop (mkF m 401 #[si p1, si p2, si p3, si p4, si kk, sr la, sr rr, si ll, si mm, si pJ, si cc, sr b813, si ll, si 1, sr x_895, sr r_900] [(.ref r_900)])) (fun t k => XS.ifNo X904.here hx rfl (hb hby at_396) rfl ((if0 _ _).trans (feq hc905).1) (XS.aload X904.here hx rfl (hb hby at_399) rfl rfl k)) ?_
   obtain ⟨v906, T906, L906, X906, hQ906, st906⟩ := callV X904 hx hZ (y := y_16) (z := y_16) hown (ww hw 160 rfl) (ww hw 161 rfl) (notFace_of_selects (args := #[]) (mvT hZ (ww hw 163 rfl))) (ww hw 163 rfl) (ww hw 162 rfl) (by decide) (backOf (W := 0) (rmOg l Z a0 hw [] r_900 rr T900.heap n0 (Nat.le_trans Z0 K902.1) q900_1) hZ (ww hw 164 rfl) (ww hw 111 rfl) (by decide) (by decide)) q900_0 (g := (mkF m 401 #[si p1, si p2, si p3, si p4, si kk, sr la, sr rr, si ll, si mm, si pJ, si cc, sr b813, si ll, si 1, sr x_895, sr r_900] [(.ref r_900)])) rfl (by rw [hml]; rfl) (kc := 0) (ks := 0) (argsL := []) (rest := []) (lenOf pd_21 rfl) rfl (mr0 rfl) (hb hby at_401) e904 (by decide) (by decide)
   obtain ⟨rfl, N906q, e906⟩ := hQ906
   have N906 := Fr.app N904 N906q
   refine go (S' := T906.setTop (mkF m 414 #[si p1, si p2, si p3, si p4, si kk, sr la, sr rr, si ll, si mm, si pJ, si cc, sr b813, si ll, si 1, sr x_895, sr r_900] [(.int 1)])) (fun t k => st906 _ (XS.aload X906.here hx rfl (hb hby at_404) rfl rfl (Jvm.RoadKit.acmp (g := (mkF m 406 #[si p1, si p2, si p3, si p4, si kk, sr la, sr rr, si ll, si mm, si pJ, si cc, sr b813, si ll, si 1, sr x_895, sr r_900] [(.ref rr), (.ref rr)])) X906 hx rfl rfl rfl (pc0 := 406) (pc' := 409) (same := true) rfl (hb hby at_406) rfl (decide_eq_true rfl) (by decide) (by decide) (XS.iconst X906.here hx rfl (hb hby at_409) (XS.goto X906.here hx rfl (pc0 := 410) (pc' := 414) rfl (hb hby at_410) (by decide) (by decide) k))))) ?_
   refine finNW X906 hx hk (t := .boolean) hret (by simp) hS hkS hZ (own_EW hw) C901 e906 (hb hby at_414) (by decide) (by decide) ?_
   exact ⟨rfl, N906, K902⟩
  ·
   refine go (S' := T889.setTop (mkF m 246 #[si p1, si p2, si p3, si p4, si kk, sr la, sr rr, si ll, si mm, si pJ, si cc, sr b813, si ll, un, un, un] [(.int 1), (.int mm)])) (fun t k => XS.ifYes X889.here hx rfl (pc0 := 234) (pc' := 243) rfl (hb hby at_234) rfl ((if0 _ _).trans (feq hc893).2) (by decide) (by decide) (XS.iload X889.here hx rfl (hb hby at_243) rfl (XS.iconst X889.here hx rfl (hb hby at_245) k))) ?_
   by_cases hc907 : mm = (1 : Int32)
   ·
    refine go (S' := T889.setTop (mkF m 253 #[si p1, si p2, si p3, si p4, si kk, sr la, sr rr, si ll, si mm, si pJ, si cc, sr b813, si ll, un, un, un] [(.int pJ), (.ref b813)])) (fun t k => XS.icmpNo X889.here hx rfl (hb hby at_246) rfl (teq hc907).2 (XS.aload X889.here hx rfl (hb hby at_249) rfl rfl (XS.iload X889.here hx rfl (hb hby at_251) rfl k))) ?_
    obtain ⟨cl908, Ar908, q908, S908, M908, H908, G908⟩ := id hbV
    have hin908 : ¬ (pJ < 0 ∨ cl908.slots.size ≤ (pJ).toNatClampNeg) := by rw [hpe]; exact oj_in (n := 12) S908 rfl (show pN < 12 by omega) (by decide)
    have hat908 : cl908.slots[(pJ).toNatClampNeg]? = some (.int (bl.getD pN 0)) := Has.at H908 hin908 (by rw [hpe, oj_n (by omega)]; exact oj_get bl (by rw [hb12]; omega) _)
    refine go (S' := T889.setTop (mkF m 256 #[si p1, si p2, si p3, si p4, si kk, sr la, sr rr, si ll, si mm, si pJ, si cc, sr b813, si ll, un, un, un] [(.int cc), (.int (bl.getD pN 0))])) (fun t k => X889.caload hx (j := pJ) (v := (.int (bl.getD pN 0))) (by rw [e889]; exact Ar908.1) (State.isArrayOf_alike hZ.alike Ar908.2.1) Ar908.2.2 hin908 hat908 (g := (mkF m 253 #[si p1, si p2, si p3, si p4, si kk, sr la, sr rr, si ll, si mm, si pJ, si cc, sr b813, si ll, un, un, un] [(.int pJ), (.ref b813)])) rfl rfl (hb hby at_253) _ (XS.iload X889.here hx rfl (hb hby at_254) rfl k)) ?_
    by_cases hc909 : (bl.getD pN 0) = cc
    ·
     refine go (S' := T889.setTop (mkF m 272 #[si p1, si p2, si p3, si p4, si kk, sr la, sr rr, si ll, si mm, si pJ, si cc, sr b813, si ll, si 1, un, un] [(.int cc), (.int pJ), (.ref b813)])) (fun t k => XS.icmpNo X889.here hx rfl (hb hby at_256) rfl (teq hc909).2 (XS.iconst X889.here hx rfl (hb hby at_259) (XS.goto X889.here hx rfl (pc0 := 260) (pc' := 264) rfl (hb hby at_260) (by decide) (by decide) (XS.istore X889.here hx rfl (hb hby at_264) rfl (l' := #[si p1, si p2, si p3, si p4, si kk, sr la, sr rr, si ll, si mm, si pJ, si cc, sr b813, si ll, si 1, un, un]) rfl (XS.aload X889.here hx rfl (hb hby at_266) rfl rfl (XS.iload X889.here hx rfl (hb hby at_268) rfl (XS.iload X889.here hx rfl (hb hby at_270) rfl k))))))) ?_
     obtain ⟨cl910, Ar910, q910, S910, M910, H910, G910⟩ := id hbV
     have hin910 : ¬ (pJ < 0 ∨ cl910.slots.size ≤ (pJ).toNatClampNeg) := by rw [hpe]; exact oj_in (n := 12) S910 rfl (show pN < 12 by omega) (by decide)
     obtain ⟨T910, h910, X910, e910, W910, st910⟩ := stC X889 hx hZ e889 Ar910 (j := pJ) hin910 (g := (mkF m 272 #[si p1, si p2, si p3, si p4, si kk, sr la, sr rr, si ll, si mm, si pJ, si cc, sr b813, si ll, si 1, un, un] [(.int cc), (.int pJ), (.ref b813)])) rfl rfl (hb hby at_272)
     rw [oj_c16 hbcc] at W910
     have V910 : Arv Z h910 b813 k813 .char (12 : Int32) ((bl.set pN cc).map Value.int) (.int 0) := by
      have q := Arv.set Ar910 q910 S910 M910 H910 G910 (by rw [← oj_c16 hbcc]; exact fits_nar_char _) W910 (pN) (by rw [hpe]; exact oj_n (by omega)) (by rw [List.length_map, hb12]; omega)
      rw [List.map_set]; exact q
     have K911 : Keep h0 h910 [] := K890.wr W910 (Or.inr sz_b813)
     have N912 := Fr.snoc X910 N891 ge_b813
     have hkS := Nat.le_trans hkS (Keep.of_wr W910).1
     have C913 := C892.trans (CHr.wr W910 (safeArv hZ.alike hbV (by decide)) C892.1)
     refine go (S' := T910.setTop (mkF m 360 #[si p1, si p2, si p3, si p4, si kk, sr la, sr rr, si ll, si mm, si pJ, si cc, sr b813, si ll, si 1, un, un] [(.int ll), (.ref b813)])) (fun t k => st910 _ (XS.goto X910.here hx rfl (pc0 := 273) (pc' := 346) rfl (hb hby at_273) (by decide) (by decide) (XS.iload X910.here hx rfl (hb hby at_346) rfl (XS.iconst X910.here hx rfl (hb hby at_348) (XS.icmpYes X910.here hx rfl (pc0 := 349) (pc' := 356) rfl (hb hby at_349) rfl (feq (fun q => absurd (hc907.symm.trans q) (by decide))).2 (by decide) (by decide) (XS.aload X910.here hx rfl (hb hby at_356) rfl rfl (XS.iload X910.here hx rfl (hb hby at_358) rfl k))))))) ?_
     have O914 : Old Z n0 h910 := O0.keep K911 all0
     obtain ⟨v915, T915, L915, X915, hQ915, hS, hZ, hown, Cq915, st915⟩ := callStW X910 hx hZ (y := y_13) hown (ww hw 53 rfl) (ww hw 54 rfl) (ww hw 29 rfl) (ww hw 55 rfl) (by decide) (backW (W := 0) (rmMk l Z a0 hw [] b813 ll k813 (bl.set pN cc) cs.length G1 (.int 0) h910 n0 (Nat.le_trans Z0 K911.1) V910 hll (by omega) (by rw [List.length_set]; exact hb12) (own_set hbp hbcc) hp0 hG1 hp4 hp5 hp6 O914) hZ (ww hw 55 rfl) (ww hw 29 rfl) (by decide) (by decide) (own_EW hw) C913.1 all0) (g := (mkF m 360 #[si p1, si p2, si p3, si p4, si kk, sr la, sr rr, si ll, si mm, si pJ, si cc, sr b813, si ll, si 1, un, un] [(.int ll), (.ref b813)])) rfl (by rw [hml]; rfl) (kc := 6) (ks := 51) (argsL := [(.ref b813), (.int ll)]) (rest := []) (lenOf pd_18 rfl) rfl (mr0 rfl) (hb hby at_360) e910 (by decide) (by decide) hS hkS
     obtain ⟨x_915, t_915, cd_915, rfl, N915q, Kq915, q915_0, q915_1⟩ := hQ915
     have N915 := Fr.app N912 N915q
     have f916 : Str Z h910 la lb (0 : Int32) cs := ((f886.wr W889 (Nat.ne_of_lt lt_la_b813) (Nat.ne_of_lt lt_lb_b813)).wr W910 (Nat.ne_of_lt lt_la_b813) (Nat.ne_of_lt lt_lb_b813))
     have hkS := Nat.le_refl T915.heap.size
     have C917 := C913.trans Cq915
     have K918 : Keep h0 T915.heap [] := K911.trans Kq915 all0
     have lt_la_x_915 : la < x_915 := Nat.lt_of_lt_of_le f916.lt1 q915_0
     have lt_lb_x_915 : lb < x_915 := Nat.lt_of_lt_of_le f916.lt2 q915_0
     have lt_b813_x_915 : b813 < x_915 := Nat.lt_of_lt_of_le V910.lt q915_0
     have sz_x_915 : h0.size ≤ x_915 := Nat.le_trans K911.1 q915_0
     have ge_x_915 : n0 ≤ x_915 := Nat.le_trans Z0 sz_x_915
     refine go (S' := T915.setTop (mkF m 367 #[si p1, si p2, si p3, si p4, si kk, sr la, sr rr, si ll, si mm, si pJ, si cc, sr b813, si ll, si 1, sr x_915, un] [(.ref x_915)])) (fun t k => st915 _ (XS.astore X915.here hx rfl (hb hby at_363) rfl rfl (l' := #[si p1, si p2, si p3, si p4, si kk, sr la, sr rr, si ll, si mm, si pJ, si cc, sr b813, si ll, si 1, sr x_915, un]) rfl (XS.aload X915.here hx rfl (hb hby at_365) rfl rfl k))) ?_
     have O919 : Old Z n0 T915.heap := O0.keep K918 all0
     obtain ⟨v920, T920, L920, X920, hQ920, st920⟩ := callSt X915 hx hZ (y := y_22) hown (ww hw 77 rfl) (ww hw 78 rfl) (ww hw 10 rfl) (ww hw 79 rfl) (by decide) (backOf (W := 0) (rmFl l Z a0 hw [] x_915 t_915 cd_915 ((bl.set pN cc).take cs.length) av kV c1 c2 c3 c4 l1 l2 l3 l4 m1 m2 m3 m4 oe G1 T915.heap n0 (Nat.le_trans Z0 K918.1) q915_1 hp11 hp12 hp13 hp14 hp15 hp16 hp17 hp18 hp19 hp20 hp21 hp22 hp23 hp24 hp0 hG1 O919) hZ (ww hw 79 rfl) (ww hw 10 rfl) (by decide) (by decide)) (g := (mkF m 367 #[si p1, si p2, si p3, si p4, si kk, sr la, sr rr, si ll, si mm, si pJ, si cc, sr b813, si ll, si 1, sr x_915, un] [(.ref x_915)])) rfl (by rw [hml]; rfl) (kc := 2) (ks := 5) (argsL := [(.ref x_915)]) (rest := []) (lenOf pd_19 rfl) rfl (mr0 rfl) (hb hby at_367) rfl (by decide) (by decide)
     obtain ⟨r_920, rv_920, rfl, N920q, Kq920, q920_0, q920_1, q920_2⟩ := hQ920
     have N920 := Fr.app N915 N920q
     have hkS := Nat.le_trans hkS Kq920.1
     have C921 := C917.trans (CHr.keep Kq920 all0 C917.1)
     have K922 : Keep h0 T920.heap [] := K918.trans Kq920 all0
     refine go (S' := T920.setTop (mkF m 370 #[si p1, si p2, si p3, si p4, si kk, sr la, sr rr, si ll, si mm, si pJ, si cc, sr b813, si ll, si 1, sr x_915, un] [(.ref r_920)])) st920 ?_
     have hr920 : rv_920 = (.ref rr) := q920_2.trans (own_M1e hcs hbc hpN hc909)
     subst hr920
     refine go (S' := T920.setTop (mkF m 374 #[si p1, si p2, si p3, si p4, si kk, sr la, sr rr, si ll, si mm, si pJ, si cc, sr b813, si ll, si 1, sr x_915, sr r_920] [(.int 1)])) (fun t k => XS.astore X920.here hx rfl (hb hby at_370) rfl rfl (l' := #[si p1, si p2, si p3, si p4, si kk, sr la, sr rr, si ll, si mm, si pJ, si cc, sr b813, si ll, si 1, sr x_915, sr r_920]) rfl (XS.iload X920.here hx rfl (hb hby at_372) rfl k)) ?_
     have hc923 : ¬ ((1 : Int32) = (0 : Int32)) := by decide
     refine go (S' := T920.setTop (mkF m 393 #[si p1, si p2, si p3, si p4, si kk, sr la, sr rr, si ll, si mm, si pJ, si cc, sr b813, si ll, si 1, sr x_915, sr r_920] [(.ref r_920)])) (fun t k => XS.ifYes X920.here hx rfl (pc0 := 374) (pc' := 391) rfl (hb hby at_374) rfl ((if0 _ _).trans (feq hc923).2) (by decide) (by decide) (XS.aload X920.here hx rfl (hb hby at_391) rfl rfl k)) ?_
     obtain ⟨v924, T924, L924, X924, hQ924, st924⟩ := callV X920 hx hZ (y := y_15) (z := y_15) hown (ww hw 114 rfl) (ww hw 115 rfl) (notFace_of_selects (args := #[]) (mvT hZ (ww hw 117 rfl))) (ww hw 117 rfl) (ww hw 116 rfl) (by decide) (backOf (W := 0) (rmIp1 l Z a0 hw [] r_920 rr T920.heap n0 (Nat.le_trans Z0 K922.1) q920_1) hZ (ww hw 118 rfl) (ww hw 111 rfl) (by decide) (by decide)) q920_0 (g := (mkF m 393 #[si p1, si p2, si p3, si p4, si kk, sr la, sr rr, si ll, si mm, si pJ, si cc, sr b813, si ll, si 1, sr x_915, sr r_920] [(.ref r_920)])) rfl (by rw [hml]; rfl) (kc := 0) (ks := 0) (argsL := []) (rest := []) (lenOf pd_20 rfl) rfl (mr0 rfl) (hb hby at_393) rfl (by decide) (by decide)
     obtain ⟨rfl, N924q, e924⟩ := hQ924
     have N924 := Fr.app N920 N924q
     refine go (S' := T924.setTop (mkF m 396 #[si p1, si p2, si p3, si p4, si kk, sr la, sr rr, si ll, si mm, si pJ, si cc, sr b813, si ll, si 1, sr x_915, sr r_920] [(.int 1)])) st924 ?_
     have hc925 : ¬ ((1 : Int32) = (0 : Int32)) := by decide
     refine go (S' := T924.setTop (mkF m 401 #[si p1, si p2, si p3, si p4, si kk, sr la, sr rr, si ll, si mm, si pJ, si cc, sr b813, si ll, si 1, sr x_915, sr r_920] [(.ref r_920)])) (fun t k => XS.ifNo X924.here hx rfl (hb hby at_396) rfl ((if0 _ _).trans (feq hc925).1) (XS.aload X924.here hx rfl (hb hby at_399) rfl rfl k)) ?_
     obtain ⟨v926, T926, L926, X926, hQ926, st926⟩ := callV X924 hx hZ (y := y_16) (z := y_16) hown (ww hw 160 rfl) (ww hw 161 rfl) (notFace_of_selects (args := #[]) (mvT hZ (ww hw 163 rfl))) (ww hw 163 rfl) (ww hw 162 rfl) (by decide) (backOf (W := 0) (rmOg l Z a0 hw [] r_920 rr T920.heap n0 (Nat.le_trans Z0 K922.1) q920_1) hZ (ww hw 164 rfl) (ww hw 111 rfl) (by decide) (by decide)) q920_0 (g := (mkF m 401 #[si p1, si p2, si p3, si p4, si kk, sr la, sr rr, si ll, si mm, si pJ, si cc, sr b813, si ll, si 1, sr x_915, sr r_920] [(.ref r_920)])) rfl (by rw [hml]; rfl) (kc := 0) (ks := 0) (argsL := []) (rest := []) (lenOf pd_21 rfl) rfl (mr0 rfl) (hb hby at_401) e924 (by decide) (by decide)
     obtain ⟨rfl, N926q, e926⟩ := hQ926
     have N926 := Fr.app N924 N926q
     refine go (S' := T926.setTop (mkF m 414 #[si p1, si p2, si p3, si p4, si kk, sr la, sr rr, si ll, si mm, si pJ, si cc, sr b813, si ll, si 1, sr x_915, sr r_920] [(.int 1)])) (fun t k => st926 _ (XS.aload X926.here hx rfl (hb hby at_404) rfl rfl (Jvm.RoadKit.acmp (g := (mkF m 406 #[si p1, si p2, si p3, si p4, si kk, sr la, sr rr, si ll, si mm, si pJ, si cc, sr b813, si ll, si 1, sr x_915, sr r_920] [(.ref rr), (.ref rr)])) X926 hx rfl rfl rfl (pc0 := 406) (pc' := 409) (same := true) rfl (hb hby at_406) rfl (decide_eq_true rfl) (by decide) (by decide) (XS.iconst X926.here hx rfl (hb hby at_409) (XS.goto X926.here hx rfl (pc0 := 410) (pc' := 414) rfl (hb hby at_410) (by decide) (by decide) k))))) ?_
     refine finNW X926 hx hk (t := .boolean) hret (by simp) hS hkS hZ (own_EW hw) C921 e926 (hb hby at_414) (by decide) (by decide) ?_
     exact ⟨rfl, N926, K922⟩
    ·
     refine go (S' := T889.setTop (mkF m 272 #[si p1, si p2, si p3, si p4, si kk, sr la, sr rr, si ll, si mm, si pJ, si cc, sr b813, si ll, si 0, un, un] [(.int cc), (.int pJ), (.ref b813)])) (fun t k => XS.icmpYes X889.here hx rfl (pc0 := 256) (pc' := 263) rfl (hb hby at_256) rfl (feq hc909).2 (by decide) (by decide) (XS.iconst X889.here hx rfl (hb hby at_263) (XS.istore X889.here hx rfl (hb hby at_264) rfl (l' := #[si p1, si p2, si p3, si p4, si kk, sr la, sr rr, si ll, si mm, si pJ, si cc, sr b813, si ll, si 0, un, un]) rfl (XS.aload X889.here hx rfl (hb hby at_266) rfl rfl (XS.iload X889.here hx rfl (hb hby at_268) rfl (XS.iload X889.here hx rfl (hb hby at_270) rfl k)))))) ?_
     obtain ⟨cl927, Ar927, q927, S927, M927, H927, G927⟩ := id hbV
     have hin927 : ¬ (pJ < 0 ∨ cl927.slots.size ≤ (pJ).toNatClampNeg) := by rw [hpe]; exact oj_in (n := 12) S927 rfl (show pN < 12 by omega) (by decide)
     obtain ⟨T927, h927, X927, e927, W927, st927⟩ := stC X889 hx hZ e889 Ar927 (j := pJ) hin927 (g := (mkF m 272 #[si p1, si p2, si p3, si p4, si kk, sr la, sr rr, si ll, si mm, si pJ, si cc, sr b813, si ll, si 0, un, un] [(.int cc), (.int pJ), (.ref b813)])) rfl rfl (hb hby at_272)
     rw [oj_c16 hbcc] at W927
     have V927 : Arv Z h927 b813 k813 .char (12 : Int32) ((bl.set pN cc).map Value.int) (.int 0) := by
      have q := Arv.set Ar927 q927 S927 M927 H927 G927 (by rw [← oj_c16 hbcc]; exact fits_nar_char _) W927 (pN) (by rw [hpe]; exact oj_n (by omega)) (by rw [List.length_map, hb12]; omega)
      rw [List.map_set]; exact q
     have K928 : Keep h0 h927 [] := K890.wr W927 (Or.inr sz_b813)
     have N929 := Fr.snoc X927 N891 ge_b813
     have hkS := Nat.le_trans hkS (Keep.of_wr W927).1
     have C930 := C892.trans (CHr.wr W927 (safeArv hZ.alike hbV (by decide)) C892.1)
     refine go (S' := T927.setTop (mkF m 360 #[si p1, si p2, si p3, si p4, si kk, sr la, sr rr, si ll, si mm, si pJ, si cc, sr b813, si ll, si 0, un, un] [(.int ll), (.ref b813)])) (fun t k => st927 _ (XS.goto X927.here hx rfl (pc0 := 273) (pc' := 346) rfl (hb hby at_273) (by decide) (by decide) (XS.iload X927.here hx rfl (hb hby at_346) rfl (XS.iconst X927.here hx rfl (hb hby at_348) (XS.icmpYes X927.here hx rfl (pc0 := 349) (pc' := 356) rfl (hb hby at_349) rfl (feq (fun q => absurd (hc907.symm.trans q) (by decide))).2 (by decide) (by decide) (XS.aload X927.here hx rfl (hb hby at_356) rfl rfl (XS.iload X927.here hx rfl (hb hby at_358) rfl k))))))) ?_
     have O931 : Old Z n0 h927 := O0.keep K928 all0
     obtain ⟨v932, T932, L932, X932, hQ932, hS, hZ, hown, Cq932, st932⟩ := callStW X927 hx hZ (y := y_13) hown (ww hw 53 rfl) (ww hw 54 rfl) (ww hw 29 rfl) (ww hw 55 rfl) (by decide) (backW (W := 0) (rmMk l Z a0 hw [] b813 ll k813 (bl.set pN cc) cs.length G1 (.int 0) h927 n0 (Nat.le_trans Z0 K928.1) V927 hll (by omega) (by rw [List.length_set]; exact hb12) (own_set hbp hbcc) hp0 hG1 hp4 hp5 hp6 O931) hZ (ww hw 55 rfl) (ww hw 29 rfl) (by decide) (by decide) (own_EW hw) C930.1 all0) (g := (mkF m 360 #[si p1, si p2, si p3, si p4, si kk, sr la, sr rr, si ll, si mm, si pJ, si cc, sr b813, si ll, si 0, un, un] [(.int ll), (.ref b813)])) rfl (by rw [hml]; rfl) (kc := 6) (ks := 51) (argsL := [(.ref b813), (.int ll)]) (rest := []) (lenOf pd_18 rfl) rfl (mr0 rfl) (hb hby at_360) e927 (by decide) (by decide) hS hkS
     obtain ⟨x_932, t_932, cd_932, rfl, N932q, Kq932, q932_0, q932_1⟩ := hQ932
     have N932 := Fr.app N929 N932q
     have f933 : Str Z h927 la lb (0 : Int32) cs := ((f886.wr W889 (Nat.ne_of_lt lt_la_b813) (Nat.ne_of_lt lt_lb_b813)).wr W927 (Nat.ne_of_lt lt_la_b813) (Nat.ne_of_lt lt_lb_b813))
     have hkS := Nat.le_refl T932.heap.size
     have C934 := C930.trans Cq932
     have K935 : Keep h0 T932.heap [] := K928.trans Kq932 all0
     have lt_la_x_932 : la < x_932 := Nat.lt_of_lt_of_le f933.lt1 q932_0
     have lt_lb_x_932 : lb < x_932 := Nat.lt_of_lt_of_le f933.lt2 q932_0
     have lt_b813_x_932 : b813 < x_932 := Nat.lt_of_lt_of_le V927.lt q932_0
     have sz_x_932 : h0.size ≤ x_932 := Nat.le_trans K928.1 q932_0
     have ge_x_932 : n0 ≤ x_932 := Nat.le_trans Z0 sz_x_932
     refine go (S' := T932.setTop (mkF m 367 #[si p1, si p2, si p3, si p4, si kk, sr la, sr rr, si ll, si mm, si pJ, si cc, sr b813, si ll, si 0, sr x_932, un] [(.ref x_932)])) (fun t k => st932 _ (XS.astore X932.here hx rfl (hb hby at_363) rfl rfl (l' := #[si p1, si p2, si p3, si p4, si kk, sr la, sr rr, si ll, si mm, si pJ, si cc, sr b813, si ll, si 0, sr x_932, un]) rfl (XS.aload X932.here hx rfl (hb hby at_365) rfl rfl k))) ?_
     have O936 : Old Z n0 T932.heap := O0.keep K935 all0
     obtain ⟨v937, T937, L937, X937, hQ937, st937⟩ := callSt X932 hx hZ (y := y_22) hown (ww hw 77 rfl) (ww hw 78 rfl) (ww hw 10 rfl) (ww hw 79 rfl) (by decide) (backOf (W := 0) (rmFl l Z a0 hw [] x_932 t_932 cd_932 ((bl.set pN cc).take cs.length) av kV c1 c2 c3 c4 l1 l2 l3 l4 m1 m2 m3 m4 oe G1 T932.heap n0 (Nat.le_trans Z0 K935.1) q932_1 hp11 hp12 hp13 hp14 hp15 hp16 hp17 hp18 hp19 hp20 hp21 hp22 hp23 hp24 hp0 hG1 O936) hZ (ww hw 79 rfl) (ww hw 10 rfl) (by decide) (by decide)) (g := (mkF m 367 #[si p1, si p2, si p3, si p4, si kk, sr la, sr rr, si ll, si mm, si pJ, si cc, sr b813, si ll, si 0, sr x_932, un] [(.ref x_932)])) rfl (by rw [hml]; rfl) (kc := 2) (ks := 5) (argsL := [(.ref x_932)]) (rest := []) (lenOf pd_19 rfl) rfl (mr0 rfl) (hb hby at_367) rfl (by decide) (by decide)
     obtain ⟨r_937, rv_937, rfl, N937q, Kq937, q937_0, q937_1, q937_2⟩ := hQ937
     have N937 := Fr.app N932 N937q
     have hkS := Nat.le_trans hkS Kq937.1
     have C938 := C934.trans (CHr.keep Kq937 all0 C934.1)
     have K939 : Keep h0 T937.heap [] := K935.trans Kq937 all0
     refine go (S' := T937.setTop (mkF m 370 #[si p1, si p2, si p3, si p4, si kk, sr la, sr rr, si ll, si mm, si pJ, si cc, sr b813, si ll, si 0, sr x_932, un] [(.ref r_937)])) st937 ?_
     have hr937 : rv_937 = .null := q937_2.trans (own_M1 hcs hbc hpN hc909)
     subst hr937
     refine go (S' := T937.setTop (mkF m 374 #[si p1, si p2, si p3, si p4, si kk, sr la, sr rr, si ll, si mm, si pJ, si cc, sr b813, si ll, si 0, sr x_932, sr r_937] [(.int 0)])) (fun t k => XS.astore X937.here hx rfl (hb hby at_370) rfl rfl (l' := #[si p1, si p2, si p3, si p4, si kk, sr la, sr rr, si ll, si mm, si pJ, si cc, sr b813, si ll, si 0, sr x_932, sr r_937]) rfl (XS.iload X937.here hx rfl (hb hby at_372) rfl k)) ?_
     have hc940 : (0 : Int32) = (0 : Int32) := by decide
     refine go (S' := T937.setTop (mkF m 379 #[si p1, si p2, si p3, si p4, si kk, sr la, sr rr, si ll, si mm, si pJ, si cc, sr b813, si ll, si 0, sr x_932, sr r_937] [(.ref r_937)])) (fun t k => XS.ifNo X937.here hx rfl (hb hby at_374) rfl ((if0 _ _).trans (teq hc940).2) (XS.aload X937.here hx rfl (hb hby at_377) rfl rfl k)) ?_
     obtain ⟨v941, T941, L941, X941, hQ941, st941⟩ := callV X937 hx hZ (y := y_15) (z := y_15) hown (ww hw 114 rfl) (ww hw 115 rfl) (notFace_of_selects (args := #[]) (mvT hZ (ww hw 117 rfl))) (ww hw 117 rfl) (ww hw 116 rfl) (by decide) (backOf (W := 0) (rmIp0 l Z a0 hw [] r_937 T937.heap n0 (Nat.le_trans Z0 K939.1) q937_1) hZ (ww hw 118 rfl) (ww hw 111 rfl) (by decide) (by decide)) q937_0 (g := (mkF m 379 #[si p1, si p2, si p3, si p4, si kk, sr la, sr rr, si ll, si mm, si pJ, si cc, sr b813, si ll, si 0, sr x_932, sr r_937] [(.ref r_937)])) rfl (by rw [hml]; rfl) (kc := 0) (ks := 0) (argsL := []) (rest := []) (lenOf pd_20 rfl) rfl (mr0 rfl) (hb hby at_379) rfl (by decide) (by decide)
     obtain ⟨rfl, N941q, e941⟩ := hQ941
     have N941 := Fr.app N937 N941q
     refine go (S' := T941.setTop (mkF m 382 #[si p1, si p2, si p3, si p4, si kk, sr la, sr rr, si ll, si mm, si pJ, si cc, sr b813, si ll, si 0, sr x_932, sr r_937] [(.int 0)])) st941 ?_
     have hc942 : (0 : Int32) = (0 : Int32) := by decide
     refine go (S' := T941.setTop (mkF m 390 #[si p1, si p2, si p3, si p4, si kk, sr la, sr rr, si ll, si mm, si pJ, si cc, sr b813, si ll, si 0, sr x_932, sr r_937] [(.int 1)])) (fun t k => XS.ifNo X941.here hx rfl (hb hby at_382) rfl ((if0 _ _).trans (teq hc942).2) (XS.iconst X941.here hx rfl (hb hby at_385) (XS.goto X941.here hx rfl (pc0 := 386) (pc' := 390) rfl (hb hby at_386) (by decide) (by decide) k))) ?_
     refine finNW X941 hx hk (t := .boolean) hret (by simp) hS hkS hZ (own_EW hw) C938 e941 (hb hby at_390) (by decide) (by decide) ?_
     exact ⟨rfl, N941, K939⟩
   ·
    refine go (S' := T889.setTop (mkF m 279 #[si p1, si p2, si p3, si p4, si kk, sr la, sr rr, si ll, si mm, si pJ, si cc, sr b813, si ll, un, un, un] [(.int 2), (.int mm)])) (fun t k => XS.icmpYes X889.here hx rfl (pc0 := 246) (pc' := 276) rfl (hb hby at_246) rfl (feq hc907).2 (by decide) (by decide) (XS.iload X889.here hx rfl (hb hby at_276) rfl (XS.iconst X889.here hx rfl (hb hby at_278) k))) ?_
    by_cases hc943 : mm = (2 : Int32)
    ·
     refine go (S' := T889.setTop (mkF m 290 #[si p1, si p2, si p3, si p4, si kk, sr la, sr rr, si ll, si mm, si pJ, si cc, sr b813, si ll, un, un, un] [(.int pJ), (.ref b813), (.int pJ), (.ref b813)])) (fun t k => XS.icmpNo X889.here hx rfl (hb hby at_279) rfl (teq hc943).2 (XS.aload X889.here hx rfl (hb hby at_282) rfl rfl (XS.iload X889.here hx rfl (hb hby at_284) rfl (XS.aload X889.here hx rfl (hb hby at_286) rfl rfl (XS.iload X889.here hx rfl (hb hby at_288) rfl k))))) ?_
     obtain ⟨cl944, Ar944, q944, S944, M944, H944, G944⟩ := id hbV
     have hin944 : ¬ (pJ < 0 ∨ cl944.slots.size ≤ (pJ).toNatClampNeg) := by rw [hpe]; exact oj_in (n := 12) S944 rfl (show pN < 12 by omega) (by decide)
     have hat944 : cl944.slots[(pJ).toNatClampNeg]? = some (.int (bl.getD pN 0)) := Has.at H944 hin944 (by rw [hpe, oj_n (by omega)]; exact oj_get bl (by rw [hb12]; omega) _)
     refine go (S' := T889.setTop (mkF m 295 #[si p1, si p2, si p3, si p4, si kk, sr la, sr rr, si ll, si mm, si pJ, si cc, sr b813, si ll, un, un, un] [(.int (((bl.getD pN 0) ^^^ (32 : Int32)).toUInt32.toUInt16.toUInt32.toInt32)), (.int pJ), (.ref b813)])) (fun t k => X889.caload hx (j := pJ) (v := (.int (bl.getD pN 0))) (by rw [e889]; exact Ar944.1) (State.isArrayOf_alike hZ.alike Ar944.2.1) Ar944.2.2 hin944 hat944 (g := (mkF m 290 #[si p1, si p2, si p3, si p4, si kk, sr la, sr rr, si ll, si mm, si pJ, si cc, sr b813, si ll, un, un, un] [(.int pJ), (.ref b813), (.int pJ), (.ref b813)])) rfl rfl (hb hby at_290) _ (XS.bipush X889.here hx rfl (hb hby at_291) (XS.ixor X889.here hx rfl (hb hby at_293) rfl (XS.i2c X889.here hx rfl (hb hby at_294) rfl k)))) ?_
     obtain ⟨xx, hxx⟩ : ∃ z : Int32, z = (((bl.getD pN 0) ^^^ (32 : Int32)).toUInt32.toUInt16.toUInt32.toInt32) := ⟨_, rfl⟩
     rw [← hxx]
     have hbxx : ¬ xx < 0 ∧ ¬ (65535 : Int32) < xx := by rw [hxx]; exact own_c16 _
     obtain ⟨cl945, Ar945, q945, S945, M945, H945, G945⟩ := id hbV
     have hin945 : ¬ (pJ < 0 ∨ cl945.slots.size ≤ (pJ).toNatClampNeg) := by rw [hpe]; exact oj_in (n := 12) S945 rfl (show pN < 12 by omega) (by decide)
     obtain ⟨T945, h945, X945, e945, W945, st945⟩ := stC X889 hx hZ e889 Ar945 (j := pJ) hin945 (g := (mkF m 295 #[si p1, si p2, si p3, si p4, si kk, sr la, sr rr, si ll, si mm, si pJ, si cc, sr b813, si ll, un, un, un] [(.int xx), (.int pJ), (.ref b813)])) rfl rfl (hb hby at_295)
     rw [oj_c16 hbxx] at W945
     have V945 : Arv Z h945 b813 k813 .char (12 : Int32) ((bl.set pN xx).map Value.int) (.int 0) := by
      have q := Arv.set Ar945 q945 S945 M945 H945 G945 (by rw [← oj_c16 hbxx]; exact fits_nar_char _) W945 (pN) (by rw [hpe]; exact oj_n (by omega)) (by rw [List.length_map, hb12]; omega)
      rw [List.map_set]; exact q
     have K946 : Keep h0 h945 [] := K890.wr W945 (Or.inr sz_b813)
     have N947 := Fr.snoc X945 N891 ge_b813
     have hkS := Nat.le_trans hkS (Keep.of_wr W945).1
     have C948 := C892.trans (CHr.wr W945 (safeArv hZ.alike hbV (by decide)) C892.1)
     refine go (S' := T945.setTop (mkF m 358 #[si p1, si p2, si p3, si p4, si kk, sr la, sr rr, si ll, si mm, si pJ, si cc, sr b813, si ll, si 0, un, un] [(.ref b813)])) (fun t k => st945 _ (XS.iconst X945.here hx rfl (hb hby at_296) (XS.istore X945.here hx rfl (hb hby at_297) rfl (l' := #[si p1, si p2, si p3, si p4, si kk, sr la, sr rr, si ll, si mm, si pJ, si cc, sr b813, si ll, si 0, un, un]) rfl (XS.goto X945.here hx rfl (pc0 := 299) (pc' := 346) rfl (hb hby at_299) (by decide) (by decide) (XS.iload X945.here hx rfl (hb hby at_346) rfl (XS.iconst X945.here hx rfl (hb hby at_348) (XS.icmpYes X945.here hx rfl (pc0 := 349) (pc' := 356) rfl (hb hby at_349) rfl (feq (fun q => absurd (hc943.symm.trans q) (by decide))).2 (by decide) (by decide) (XS.aload X945.here hx rfl (hb hby at_356) rfl rfl k)))))))) ?_
     refine go (S' := T945.setTop (mkF m 360 #[si p1, si p2, si p3, si p4, si kk, sr la, sr rr, si ll, si mm, si pJ, si cc, sr b813, si ll, si 0, un, un] [(.int ll), (.ref b813)])) (fun t k => XS.iload X945.here hx rfl (hb hby at_358) rfl k) ?_
     have O949 : Old Z n0 h945 := O0.keep K946 all0
     obtain ⟨v950, T950, L950, X950, hQ950, hS, hZ, hown, Cq950, st950⟩ := callStW X945 hx hZ (y := y_13) hown (ww hw 53 rfl) (ww hw 54 rfl) (ww hw 29 rfl) (ww hw 55 rfl) (by decide) (backW (W := 0) (rmMk l Z a0 hw [] b813 ll k813 (bl.set pN xx) cs.length G1 (.int 0) h945 n0 (Nat.le_trans Z0 K946.1) V945 hll (by omega) (by rw [List.length_set]; exact hb12) (own_set hbp hbxx) hp0 hG1 hp4 hp5 hp6 O949) hZ (ww hw 55 rfl) (ww hw 29 rfl) (by decide) (by decide) (own_EW hw) C948.1 all0) (g := (mkF m 360 #[si p1, si p2, si p3, si p4, si kk, sr la, sr rr, si ll, si mm, si pJ, si cc, sr b813, si ll, si 0, un, un] [(.int ll), (.ref b813)])) rfl (by rw [hml]; rfl) (kc := 6) (ks := 51) (argsL := [(.ref b813), (.int ll)]) (rest := []) (lenOf pd_18 rfl) rfl (mr0 rfl) (hb hby at_360) e945 (by decide) (by decide) hS hkS
     obtain ⟨x_950, t_950, cd_950, rfl, N950q, Kq950, q950_0, q950_1⟩ := hQ950
     have N950 := Fr.app N947 N950q
     have f951 : Str Z h945 la lb (0 : Int32) cs := ((f886.wr W889 (Nat.ne_of_lt lt_la_b813) (Nat.ne_of_lt lt_lb_b813)).wr W945 (Nat.ne_of_lt lt_la_b813) (Nat.ne_of_lt lt_lb_b813))
     have hkS := Nat.le_refl T950.heap.size
     have C952 := C948.trans Cq950
     have K953 : Keep h0 T950.heap [] := K946.trans Kq950 all0
     have lt_la_x_950 : la < x_950 := Nat.lt_of_lt_of_le f951.lt1 q950_0
     have lt_lb_x_950 : lb < x_950 := Nat.lt_of_lt_of_le f951.lt2 q950_0
     have lt_b813_x_950 : b813 < x_950 := Nat.lt_of_lt_of_le V945.lt q950_0
     have sz_x_950 : h0.size ≤ x_950 := Nat.le_trans K946.1 q950_0
     have ge_x_950 : n0 ≤ x_950 := Nat.le_trans Z0 sz_x_950
     refine go (S' := T950.setTop (mkF m 367 #[si p1, si p2, si p3, si p4, si kk, sr la, sr rr, si ll, si mm, si pJ, si cc, sr b813, si ll, si 0, sr x_950, un] [(.ref x_950)])) (fun t k => st950 _ (XS.astore X950.here hx rfl (hb hby at_363) rfl rfl (l' := #[si p1, si p2, si p3, si p4, si kk, sr la, sr rr, si ll, si mm, si pJ, si cc, sr b813, si ll, si 0, sr x_950, un]) rfl (XS.aload X950.here hx rfl (hb hby at_365) rfl rfl k))) ?_
     have O954 : Old Z n0 T950.heap := O0.keep K953 all0
     obtain ⟨v955, T955, L955, X955, hQ955, st955⟩ := callSt X950 hx hZ (y := y_22) hown (ww hw 77 rfl) (ww hw 78 rfl) (ww hw 10 rfl) (ww hw 79 rfl) (by decide) (backOf (W := 0) (rmFl l Z a0 hw [] x_950 t_950 cd_950 ((bl.set pN xx).take cs.length) av kV c1 c2 c3 c4 l1 l2 l3 l4 m1 m2 m3 m4 oe G1 T950.heap n0 (Nat.le_trans Z0 K953.1) q950_1 hp11 hp12 hp13 hp14 hp15 hp16 hp17 hp18 hp19 hp20 hp21 hp22 hp23 hp24 hp0 hG1 O954) hZ (ww hw 79 rfl) (ww hw 10 rfl) (by decide) (by decide)) (g := (mkF m 367 #[si p1, si p2, si p3, si p4, si kk, sr la, sr rr, si ll, si mm, si pJ, si cc, sr b813, si ll, si 0, sr x_950, un] [(.ref x_950)])) rfl (by rw [hml]; rfl) (kc := 2) (ks := 5) (argsL := [(.ref x_950)]) (rest := []) (lenOf pd_19 rfl) rfl (mr0 rfl) (hb hby at_367) rfl (by decide) (by decide)
     obtain ⟨r_955, rv_955, rfl, N955q, Kq955, q955_0, q955_1, q955_2⟩ := hQ955
     have N955 := Fr.app N950 N955q
     have hkS := Nat.le_trans hkS Kq955.1
     have C956 := C952.trans (CHr.keep Kq955 all0 C952.1)
     have K957 : Keep h0 T955.heap [] := K953.trans Kq955 all0
     refine go (S' := T955.setTop (mkF m 370 #[si p1, si p2, si p3, si p4, si kk, sr la, sr rr, si ll, si mm, si pJ, si cc, sr b813, si ll, si 0, sr x_950, un] [(.ref r_955)])) st955 ?_
     have hr955 : rv_955 = .null := q955_2.trans (own_M2 hcs hbc hpN hxx)
     subst hr955
     refine go (S' := T955.setTop (mkF m 374 #[si p1, si p2, si p3, si p4, si kk, sr la, sr rr, si ll, si mm, si pJ, si cc, sr b813, si ll, si 0, sr x_950, sr r_955] [(.int 0)])) (fun t k => XS.astore X955.here hx rfl (hb hby at_370) rfl rfl (l' := #[si p1, si p2, si p3, si p4, si kk, sr la, sr rr, si ll, si mm, si pJ, si cc, sr b813, si ll, si 0, sr x_950, sr r_955]) rfl (XS.iload X955.here hx rfl (hb hby at_372) rfl k)) ?_
     have hc958 : (0 : Int32) = (0 : Int32) := by decide
     refine go (S' := T955.setTop (mkF m 379 #[si p1, si p2, si p3, si p4, si kk, sr la, sr rr, si ll, si mm, si pJ, si cc, sr b813, si ll, si 0, sr x_950, sr r_955] [(.ref r_955)])) (fun t k => XS.ifNo X955.here hx rfl (hb hby at_374) rfl ((if0 _ _).trans (teq hc958).2) (XS.aload X955.here hx rfl (hb hby at_377) rfl rfl k)) ?_
     obtain ⟨v959, T959, L959, X959, hQ959, st959⟩ := callV X955 hx hZ (y := y_15) (z := y_15) hown (ww hw 114 rfl) (ww hw 115 rfl) (notFace_of_selects (args := #[]) (mvT hZ (ww hw 117 rfl))) (ww hw 117 rfl) (ww hw 116 rfl) (by decide) (backOf (W := 0) (rmIp0 l Z a0 hw [] r_955 T955.heap n0 (Nat.le_trans Z0 K957.1) q955_1) hZ (ww hw 118 rfl) (ww hw 111 rfl) (by decide) (by decide)) q955_0 (g := (mkF m 379 #[si p1, si p2, si p3, si p4, si kk, sr la, sr rr, si ll, si mm, si pJ, si cc, sr b813, si ll, si 0, sr x_950, sr r_955] [(.ref r_955)])) rfl (by rw [hml]; rfl) (kc := 0) (ks := 0) (argsL := []) (rest := []) (lenOf pd_20 rfl) rfl (mr0 rfl) (hb hby at_379) rfl (by decide) (by decide)
     obtain ⟨rfl, N959q, e959⟩ := hQ959
     have N959 := Fr.app N955 N959q
     refine go (S' := T959.setTop (mkF m 382 #[si p1, si p2, si p3, si p4, si kk, sr la, sr rr, si ll, si mm, si pJ, si cc, sr b813, si ll, si 0, sr x_950, sr r_955] [(.int 0)])) st959 ?_
     have hc960 : (0 : Int32) = (0 : Int32) := by decide
     refine go (S' := T959.setTop (mkF m 390 #[si p1, si p2, si p3, si p4, si kk, sr la, sr rr, si ll, si mm, si pJ, si cc, sr b813, si ll, si 0, sr x_950, sr r_955] [(.int 1)])) (fun t k => XS.ifNo X959.here hx rfl (hb hby at_382) rfl ((if0 _ _).trans (teq hc960).2) (XS.iconst X959.here hx rfl (hb hby at_385) (XS.goto X959.here hx rfl (pc0 := 386) (pc' := 390) rfl (hb hby at_386) (by decide) (by decide) k))) ?_
     refine finNW X959 hx hk (t := .boolean) hret (by simp) hS hkS hZ (own_EW hw) C956 e959 (hb hby at_390) (by decide) (by decide) ?_
     exact ⟨rfl, N959, K957⟩
    ·
     refine go (S' := T889.setTop (mkF m 305 #[si p1, si p2, si p3, si p4, si kk, sr la, sr rr, si ll, si mm, si pJ, si cc, sr b813, si ll, un, un, un] [(.int 3), (.int mm)])) (fun t k => XS.icmpYes X889.here hx rfl (pc0 := 279) (pc' := 302) rfl (hb hby at_279) rfl (feq hc943).2 (by decide) (by decide) (XS.iload X889.here hx rfl (hb hby at_302) rfl (XS.iconst X889.here hx rfl (hb hby at_304) k))) ?_
     by_cases hc961 : mm = (3 : Int32)
     ·
      refine go (S' := T889.setTop (mkF m 349 #[si p1, si p2, si p3, si p4, si kk, sr la, sr rr, si ll, si mm, si pJ, si cc, sr b813, si pJ, si 0, un, un] [(.int 5), (.int mm)])) (fun t k => XS.icmpNo X889.here hx rfl (hb hby at_305) rfl (teq hc961).2 (XS.iload X889.here hx rfl (hb hby at_308) rfl (XS.istore X889.here hx rfl (hb hby at_310) rfl (l' := #[si p1, si p2, si p3, si p4, si kk, sr la, sr rr, si ll, si mm, si pJ, si cc, sr b813, si pJ, un, un, un]) rfl (XS.iconst X889.here hx rfl (hb hby at_312) (XS.istore X889.here hx rfl (hb hby at_313) rfl (l' := #[si p1, si p2, si p3, si p4, si kk, sr la, sr rr, si ll, si mm, si pJ, si cc, sr b813, si pJ, si 0, un, un]) rfl (XS.goto X889.here hx rfl (pc0 := 315) (pc' := 346) rfl (hb hby at_315) (by decide) (by decide) (XS.iload X889.here hx rfl (hb hby at_346) rfl (XS.iconst X889.here hx rfl (hb hby at_348) k)))))))) ?_
      refine go (S' := T889.setTop (mkF m 360 #[si p1, si p2, si p3, si p4, si kk, sr la, sr rr, si ll, si mm, si pJ, si cc, sr b813, si pJ, si 0, un, un] [(.int pJ), (.ref b813)])) (fun t k => XS.icmpYes X889.here hx rfl (pc0 := 349) (pc' := 356) rfl (hb hby at_349) rfl (feq (fun q => absurd (hc961.symm.trans q) (by decide))).2 (by decide) (by decide) (XS.aload X889.here hx rfl (hb hby at_356) rfl rfl (XS.iload X889.here hx rfl (hb hby at_358) rfl k))) ?_
      have O962 : Old Z n0 h889 := O0.keep K890 all0
      obtain ⟨v963, T963, L963, X963, hQ963, hS, hZ, hown, Cq963, st963⟩ := callStW X889 hx hZ (y := y_13) hown (ww hw 53 rfl) (ww hw 54 rfl) (ww hw 29 rfl) (ww hw 55 rfl) (by decide) (backW (W := 0) (rmMk l Z a0 hw [] b813 pJ k813 bl pN G1 (.int 0) h889 n0 (Nat.le_trans Z0 K890.1) hbV hpe (by omega) hb12 hbp hp0 hG1 hp4 hp5 hp6 O962) hZ (ww hw 55 rfl) (ww hw 29 rfl) (by decide) (by decide) (own_EW hw) C892.1 all0) (g := (mkF m 360 #[si p1, si p2, si p3, si p4, si kk, sr la, sr rr, si ll, si mm, si pJ, si cc, sr b813, si pJ, si 0, un, un] [(.int pJ), (.ref b813)])) rfl (by rw [hml]; rfl) (kc := 6) (ks := 51) (argsL := [(.ref b813), (.int pJ)]) (rest := []) (lenOf pd_18 rfl) rfl (mr0 rfl) (hb hby at_360) e889 (by decide) (by decide) hS hkS
      obtain ⟨x_963, t_963, cd_963, rfl, N963q, Kq963, q963_0, q963_1⟩ := hQ963
      have N963 := Fr.app N891 N963q
      have f964 : Str Z h889 la lb (0 : Int32) cs := (f886.wr W889 (Nat.ne_of_lt lt_la_b813) (Nat.ne_of_lt lt_lb_b813))
      have hkS := Nat.le_refl T963.heap.size
      have C965 := C892.trans Cq963
      have K966 : Keep h0 T963.heap [] := K890.trans Kq963 all0
      have lt_la_x_963 : la < x_963 := Nat.lt_of_lt_of_le f964.lt1 q963_0
      have lt_lb_x_963 : lb < x_963 := Nat.lt_of_lt_of_le f964.lt2 q963_0
      have lt_b813_x_963 : b813 < x_963 := Nat.lt_of_lt_of_le hbV.lt q963_0
      have sz_x_963 : h0.size ≤ x_963 := Nat.le_trans K890.1 q963_0
      have ge_x_963 : n0 ≤ x_963 := Nat.le_trans Z0 sz_x_963
      refine go (S' := T963.setTop (mkF m 367 #[si p1, si p2, si p3, si p4, si kk, sr la, sr rr, si ll, si mm, si pJ, si cc, sr b813, si pJ, si 0, sr x_963, un] [(.ref x_963)])) (fun t k => st963 _ (XS.astore X963.here hx rfl (hb hby at_363) rfl rfl (l' := #[si p1, si p2, si p3, si p4, si kk, sr la, sr rr, si ll, si mm, si pJ, si cc, sr b813, si pJ, si 0, sr x_963, un]) rfl (XS.aload X963.here hx rfl (hb hby at_365) rfl rfl k))) ?_
      have O967 : Old Z n0 T963.heap := O0.keep K966 all0
      obtain ⟨v968, T968, L968, X968, hQ968, st968⟩ := callSt X963 hx hZ (y := y_22) hown (ww hw 77 rfl) (ww hw 78 rfl) (ww hw 10 rfl) (ww hw 79 rfl) (by decide) (backOf (W := 0) (rmFl l Z a0 hw [] x_963 t_963 cd_963 (bl.take pN) av kV c1 c2 c3 c4 l1 l2 l3 l4 m1 m2 m3 m4 oe G1 T963.heap n0 (Nat.le_trans Z0 K966.1) q963_1 hp11 hp12 hp13 hp14 hp15 hp16 hp17 hp18 hp19 hp20 hp21 hp22 hp23 hp24 hp0 hG1 O967) hZ (ww hw 79 rfl) (ww hw 10 rfl) (by decide) (by decide)) (g := (mkF m 367 #[si p1, si p2, si p3, si p4, si kk, sr la, sr rr, si ll, si mm, si pJ, si cc, sr b813, si pJ, si 0, sr x_963, un] [(.ref x_963)])) rfl (by rw [hml]; rfl) (kc := 2) (ks := 5) (argsL := [(.ref x_963)]) (rest := []) (lenOf pd_19 rfl) rfl (mr0 rfl) (hb hby at_367) rfl (by decide) (by decide)
      obtain ⟨r_968, rv_968, rfl, N968q, Kq968, q968_0, q968_1, q968_2⟩ := hQ968
      have N968 := Fr.app N963 N968q
      have hkS := Nat.le_trans hkS Kq968.1
      have C969 := C965.trans (CHr.keep Kq968 all0 C965.1)
      have K970 : Keep h0 T968.heap [] := K966.trans Kq968 all0
      refine go (S' := T968.setTop (mkF m 370 #[si p1, si p2, si p3, si p4, si kk, sr la, sr rr, si ll, si mm, si pJ, si cc, sr b813, si pJ, si 0, sr x_963, un] [(.ref r_968)])) st968 ?_
      have hr968 : rv_968 = .null := q968_2.trans (own_M3 hcs hbc hpN)
      subst hr968
      refine go (S' := T968.setTop (mkF m 374 #[si p1, si p2, si p3, si p4, si kk, sr la, sr rr, si ll, si mm, si pJ, si cc, sr b813, si pJ, si 0, sr x_963, sr r_968] [(.int 0)])) (fun t k => XS.astore X968.here hx rfl (hb hby at_370) rfl rfl (l' := #[si p1, si p2, si p3, si p4, si kk, sr la, sr rr, si ll, si mm, si pJ, si cc, sr b813, si pJ, si 0, sr x_963, sr r_968]) rfl (XS.iload X968.here hx rfl (hb hby at_372) rfl k)) ?_
      have hc971 : (0 : Int32) = (0 : Int32) := by decide
      refine go (S' := T968.setTop (mkF m 379 #[si p1, si p2, si p3, si p4, si kk, sr la, sr rr, si ll, si mm, si pJ, si cc, sr b813, si pJ, si 0, sr x_963, sr r_968] [(.ref r_968)])) (fun t k => XS.ifNo X968.here hx rfl (hb hby at_374) rfl ((if0 _ _).trans (teq hc971).2) (XS.aload X968.here hx rfl (hb hby at_377) rfl rfl k)) ?_
      obtain ⟨v972, T972, L972, X972, hQ972, st972⟩ := callV X968 hx hZ (y := y_15) (z := y_15) hown (ww hw 114 rfl) (ww hw 115 rfl) (notFace_of_selects (args := #[]) (mvT hZ (ww hw 117 rfl))) (ww hw 117 rfl) (ww hw 116 rfl) (by decide) (backOf (W := 0) (rmIp0 l Z a0 hw [] r_968 T968.heap n0 (Nat.le_trans Z0 K970.1) q968_1) hZ (ww hw 118 rfl) (ww hw 111 rfl) (by decide) (by decide)) q968_0 (g := (mkF m 379 #[si p1, si p2, si p3, si p4, si kk, sr la, sr rr, si ll, si mm, si pJ, si cc, sr b813, si pJ, si 0, sr x_963, sr r_968] [(.ref r_968)])) rfl (by rw [hml]; rfl) (kc := 0) (ks := 0) (argsL := []) (rest := []) (lenOf pd_20 rfl) rfl (mr0 rfl) (hb hby at_379) rfl (by decide) (by decide)
      obtain ⟨rfl, N972q, e972⟩ := hQ972
      have N972 := Fr.app N968 N972q
      refine go (S' := T972.setTop (mkF m 382 #[si p1, si p2, si p3, si p4, si kk, sr la, sr rr, si ll, si mm, si pJ, si cc, sr b813, si pJ, si 0, sr x_963, sr r_968] [(.int 0)])) st972 ?_
      have hc973 : (0 : Int32) = (0 : Int32) := by decide
      refine go (S' := T972.setTop (mkF m 390 #[si p1, si p2, si p3, si p4, si kk, sr la, sr rr, si ll, si mm, si pJ, si cc, sr b813, si pJ, si 0, sr x_963, sr r_968] [(.int 1)])) (fun t k => XS.ifNo X972.here hx rfl (hb hby at_382) rfl ((if0 _ _).trans (teq hc973).2) (XS.iconst X972.here hx rfl (hb hby at_385) (XS.goto X972.here hx rfl (pc0 := 386) (pc' := 390) rfl (hb hby at_386) (by decide) (by decide) k))) ?_
      refine finNW X972 hx hk (t := .boolean) hret (by simp) hS hkS hZ (own_EW hw) C969 e972 (hb hby at_390) (by decide) (by decide) ?_
      exact ⟨rfl, N972, K970⟩
     ·
      refine go (S' := T889.setTop (mkF m 321 #[si p1, si p2, si p3, si p4, si kk, sr la, sr rr, si ll, si mm, si pJ, si cc, sr b813, si ll, un, un, un] [(.int 4), (.int mm)])) (fun t k => XS.icmpYes X889.here hx rfl (pc0 := 305) (pc' := 318) rfl (hb hby at_305) rfl (feq hc961).2 (by decide) (by decide) (XS.iload X889.here hx rfl (hb hby at_318) rfl (XS.iconst X889.here hx rfl (hb hby at_320) k))) ?_
      by_cases hc974 : mm = (4 : Int32)
      ·
       refine go (S' := T889.setTop (mkF m 330 #[si p1, si p2, si p3, si p4, si kk, sr la, sr rr, si ll, si mm, si pJ, si cc, sr b813, si ll, un, un, un] [(.int cc), (.int ll), (.ref b813)])) (fun t k => XS.icmpNo X889.here hx rfl (hb hby at_321) rfl (teq hc974).2 (XS.aload X889.here hx rfl (hb hby at_324) rfl rfl (XS.iload X889.here hx rfl (hb hby at_326) rfl (XS.iload X889.here hx rfl (hb hby at_328) rfl k)))) ?_
       obtain ⟨cl975, Ar975, q975, S975, M975, H975, G975⟩ := id hbV
       have hin975 : ¬ (ll < 0 ∨ cl975.slots.size ≤ (ll).toNatClampNeg) := by rw [hll]; exact oj_in (n := 12) S975 rfl (show cs.length < 12 by omega) (by decide)
       obtain ⟨T975, h975, X975, e975, W975, st975⟩ := stC X889 hx hZ e889 Ar975 (j := ll) hin975 (g := (mkF m 330 #[si p1, si p2, si p3, si p4, si kk, sr la, sr rr, si ll, si mm, si pJ, si cc, sr b813, si ll, un, un, un] [(.int cc), (.int ll), (.ref b813)])) rfl rfl (hb hby at_330)
       rw [oj_c16 hbcc] at W975
       have V975 : Arv Z h975 b813 k813 .char (12 : Int32) ((bl.set cs.length cc).map Value.int) (.int 0) := by
        have q := Arv.set Ar975 q975 S975 M975 H975 G975 (by rw [← oj_c16 hbcc]; exact fits_nar_char _) W975 (cs.length) (by rw [hll]; exact oj_n (by omega)) (by rw [List.length_map, hb12]; omega)
        rw [List.map_set]; exact q
       have K976 : Keep h0 h975 [] := K890.wr W975 (Or.inr sz_b813)
       have N977 := Fr.snoc X975 N891 ge_b813
       have hkS := Nat.le_trans hkS (Keep.of_wr W975).1
       have C978 := C892.trans (CHr.wr W975 (safeArv hZ.alike hbV (by decide)) C892.1)
       refine go (S' := T975.setTop (mkF m 346 #[si p1, si p2, si p3, si p4, si kk, sr la, sr rr, si ll, si mm, si pJ, si cc, sr b813, si (ll + (1 : Int32)), si 0, un, un] [])) (fun t k => st975 _ (XS.iload X975.here hx rfl (hb hby at_331) rfl (XS.iconst X975.here hx rfl (hb hby at_333) (XS.iadd X975.here hx rfl (hb hby at_334) rfl (XS.istore X975.here hx rfl (hb hby at_335) rfl (l' := #[si p1, si p2, si p3, si p4, si kk, sr la, sr rr, si ll, si mm, si pJ, si cc, sr b813, si (ll + (1 : Int32)), un, un, un]) rfl (XS.iconst X975.here hx rfl (hb hby at_337) (XS.istore X975.here hx rfl (hb hby at_338) rfl (l' := #[si p1, si p2, si p3, si p4, si kk, sr la, sr rr, si ll, si mm, si pJ, si cc, sr b813, si (ll + (1 : Int32)), si 0, un, un]) rfl (XS.goto X975.here hx rfl (pc0 := 340) (pc' := 346) rfl (hb hby at_340) (by decide) (by decide) k)))))))) ?_
       refine go (S' := T975.setTop (mkF m 360 #[si p1, si p2, si p3, si p4, si kk, sr la, sr rr, si ll, si mm, si pJ, si cc, sr b813, si (ll + (1 : Int32)), si 0, un, un] [(.int (ll + (1 : Int32))), (.ref b813)])) (fun t k => XS.iload X975.here hx rfl (hb hby at_346) rfl (XS.iconst X975.here hx rfl (hb hby at_348) (XS.icmpYes X975.here hx rfl (pc0 := 349) (pc' := 356) rfl (hb hby at_349) rfl (feq (fun q => absurd (hc974.symm.trans q) (by decide))).2 (by decide) (by decide) (XS.aload X975.here hx rfl (hb hby at_356) rfl rfl (XS.iload X975.here hx rfl (hb hby at_358) rfl k))))) ?_
       have O979 : Old Z n0 h975 := O0.keep K976 all0
       obtain ⟨v980, T980, L980, X980, hQ980, hS, hZ, hown, Cq980, st980⟩ := callStW X975 hx hZ (y := y_13) hown (ww hw 53 rfl) (ww hw 54 rfl) (ww hw 29 rfl) (ww hw 55 rfl) (by decide) (backW (W := 0) (rmMk l Z a0 hw [] b813 (ll + (1 : Int32)) k813 (bl.set cs.length cc) (cs.length + 1) G1 (.int 0) h975 n0 (Nat.le_trans Z0 K976.1) V975 (by rw [hll]; exact own_LabS hcs) (by omega) (by rw [List.length_set]; exact hb12) (own_set hbp hbcc) hp0 hG1 hp4 hp5 hp6 O979) hZ (ww hw 55 rfl) (ww hw 29 rfl) (by decide) (by decide) (own_EW hw) C978.1 all0) (g := (mkF m 360 #[si p1, si p2, si p3, si p4, si kk, sr la, sr rr, si ll, si mm, si pJ, si cc, sr b813, si (ll + (1 : Int32)), si 0, un, un] [(.int (ll + (1 : Int32))), (.ref b813)])) rfl (by rw [hml]; rfl) (kc := 6) (ks := 51) (argsL := [(.ref b813), (.int (ll + (1 : Int32)))]) (rest := []) (lenOf pd_18 rfl) rfl (mr0 rfl) (hb hby at_360) e975 (by decide) (by decide) hS hkS
       obtain ⟨x_980, t_980, cd_980, rfl, N980q, Kq980, q980_0, q980_1⟩ := hQ980
       have N980 := Fr.app N977 N980q
       have f981 : Str Z h975 la lb (0 : Int32) cs := ((f886.wr W889 (Nat.ne_of_lt lt_la_b813) (Nat.ne_of_lt lt_lb_b813)).wr W975 (Nat.ne_of_lt lt_la_b813) (Nat.ne_of_lt lt_lb_b813))
       have hkS := Nat.le_refl T980.heap.size
       have C982 := C978.trans Cq980
       have K983 : Keep h0 T980.heap [] := K976.trans Kq980 all0
       have lt_la_x_980 : la < x_980 := Nat.lt_of_lt_of_le f981.lt1 q980_0
       have lt_lb_x_980 : lb < x_980 := Nat.lt_of_lt_of_le f981.lt2 q980_0
       have lt_b813_x_980 : b813 < x_980 := Nat.lt_of_lt_of_le V975.lt q980_0
       have sz_x_980 : h0.size ≤ x_980 := Nat.le_trans K976.1 q980_0
       have ge_x_980 : n0 ≤ x_980 := Nat.le_trans Z0 sz_x_980
       refine go (S' := T980.setTop (mkF m 367 #[si p1, si p2, si p3, si p4, si kk, sr la, sr rr, si ll, si mm, si pJ, si cc, sr b813, si (ll + (1 : Int32)), si 0, sr x_980, un] [(.ref x_980)])) (fun t k => st980 _ (XS.astore X980.here hx rfl (hb hby at_363) rfl rfl (l' := #[si p1, si p2, si p3, si p4, si kk, sr la, sr rr, si ll, si mm, si pJ, si cc, sr b813, si (ll + (1 : Int32)), si 0, sr x_980, un]) rfl (XS.aload X980.here hx rfl (hb hby at_365) rfl rfl k))) ?_
       have O984 : Old Z n0 T980.heap := O0.keep K983 all0
       obtain ⟨v985, T985, L985, X985, hQ985, st985⟩ := callSt X980 hx hZ (y := y_22) hown (ww hw 77 rfl) (ww hw 78 rfl) (ww hw 10 rfl) (ww hw 79 rfl) (by decide) (backOf (W := 0) (rmFl l Z a0 hw [] x_980 t_980 cd_980 ((bl.set cs.length cc).take (cs.length + 1)) av kV c1 c2 c3 c4 l1 l2 l3 l4 m1 m2 m3 m4 oe G1 T980.heap n0 (Nat.le_trans Z0 K983.1) q980_1 hp11 hp12 hp13 hp14 hp15 hp16 hp17 hp18 hp19 hp20 hp21 hp22 hp23 hp24 hp0 hG1 O984) hZ (ww hw 79 rfl) (ww hw 10 rfl) (by decide) (by decide)) (g := (mkF m 367 #[si p1, si p2, si p3, si p4, si kk, sr la, sr rr, si ll, si mm, si pJ, si cc, sr b813, si (ll + (1 : Int32)), si 0, sr x_980, un] [(.ref x_980)])) rfl (by rw [hml]; rfl) (kc := 2) (ks := 5) (argsL := [(.ref x_980)]) (rest := []) (lenOf pd_19 rfl) rfl (mr0 rfl) (hb hby at_367) rfl (by decide) (by decide)
       obtain ⟨r_985, rv_985, rfl, N985q, Kq985, q985_0, q985_1, q985_2⟩ := hQ985
       have N985 := Fr.app N980 N985q
       have hkS := Nat.le_trans hkS Kq985.1
       have C986 := C982.trans (CHr.keep Kq985 all0 C982.1)
       have K987 : Keep h0 T985.heap [] := K983.trans Kq985 all0
       refine go (S' := T985.setTop (mkF m 370 #[si p1, si p2, si p3, si p4, si kk, sr la, sr rr, si ll, si mm, si pJ, si cc, sr b813, si (ll + (1 : Int32)), si 0, sr x_980, un] [(.ref r_985)])) st985 ?_
       have hr985 : rv_985 = .null := q985_2.trans (own_M4 hcs hbc cc)
       subst hr985
       refine go (S' := T985.setTop (mkF m 374 #[si p1, si p2, si p3, si p4, si kk, sr la, sr rr, si ll, si mm, si pJ, si cc, sr b813, si (ll + (1 : Int32)), si 0, sr x_980, sr r_985] [(.int 0)])) (fun t k => XS.astore X985.here hx rfl (hb hby at_370) rfl rfl (l' := #[si p1, si p2, si p3, si p4, si kk, sr la, sr rr, si ll, si mm, si pJ, si cc, sr b813, si (ll + (1 : Int32)), si 0, sr x_980, sr r_985]) rfl (XS.iload X985.here hx rfl (hb hby at_372) rfl k)) ?_
       have hc988 : (0 : Int32) = (0 : Int32) := by decide
       refine go (S' := T985.setTop (mkF m 379 #[si p1, si p2, si p3, si p4, si kk, sr la, sr rr, si ll, si mm, si pJ, si cc, sr b813, si (ll + (1 : Int32)), si 0, sr x_980, sr r_985] [(.ref r_985)])) (fun t k => XS.ifNo X985.here hx rfl (hb hby at_374) rfl ((if0 _ _).trans (teq hc988).2) (XS.aload X985.here hx rfl (hb hby at_377) rfl rfl k)) ?_
       obtain ⟨v989, T989, L989, X989, hQ989, st989⟩ := callV X985 hx hZ (y := y_15) (z := y_15) hown (ww hw 114 rfl) (ww hw 115 rfl) (notFace_of_selects (args := #[]) (mvT hZ (ww hw 117 rfl))) (ww hw 117 rfl) (ww hw 116 rfl) (by decide) (backOf (W := 0) (rmIp0 l Z a0 hw [] r_985 T985.heap n0 (Nat.le_trans Z0 K987.1) q985_1) hZ (ww hw 118 rfl) (ww hw 111 rfl) (by decide) (by decide)) q985_0 (g := (mkF m 379 #[si p1, si p2, si p3, si p4, si kk, sr la, sr rr, si ll, si mm, si pJ, si cc, sr b813, si (ll + (1 : Int32)), si 0, sr x_980, sr r_985] [(.ref r_985)])) rfl (by rw [hml]; rfl) (kc := 0) (ks := 0) (argsL := []) (rest := []) (lenOf pd_20 rfl) rfl (mr0 rfl) (hb hby at_379) rfl (by decide) (by decide)
       obtain ⟨rfl, N989q, e989⟩ := hQ989
       have N989 := Fr.app N985 N989q
       refine go (S' := T989.setTop (mkF m 382 #[si p1, si p2, si p3, si p4, si kk, sr la, sr rr, si ll, si mm, si pJ, si cc, sr b813, si (ll + (1 : Int32)), si 0, sr x_980, sr r_985] [(.int 0)])) st989 ?_
       have hc990 : (0 : Int32) = (0 : Int32) := by decide
       refine go (S' := T989.setTop (mkF m 390 #[si p1, si p2, si p3, si p4, si kk, sr la, sr rr, si ll, si mm, si pJ, si cc, sr b813, si (ll + (1 : Int32)), si 0, sr x_980, sr r_985] [(.int 1)])) (fun t k => XS.ifNo X989.here hx rfl (hb hby at_382) rfl ((if0 _ _).trans (teq hc990).2) (XS.iconst X989.here hx rfl (hb hby at_385) (XS.goto X989.here hx rfl (pc0 := 386) (pc' := 390) rfl (hb hby at_386) (by decide) (by decide) k))) ?_
       refine finNW X989 hx hk (t := .boolean) hret (by simp) hS hkS hZ (own_EW hw) C986 e989 (hb hby at_390) (by decide) (by decide) ?_
       exact ⟨rfl, N989, K987⟩
      ·
       refine go (S' := T889.setTop (mkF m 349 #[si p1, si p2, si p3, si p4, si kk, sr la, sr rr, si ll, si mm, si pJ, si cc, sr b813, si ll, si 0, un, un] [(.int 5), (.int mm)])) (fun t k => XS.icmpYes X889.here hx rfl (pc0 := 321) (pc' := 343) rfl (hb hby at_321) rfl (feq hc974).2 (by decide) (by decide) (XS.iconst X889.here hx rfl (hb hby at_343) (XS.istore X889.here hx rfl (hb hby at_344) rfl (l' := #[si p1, si p2, si p3, si p4, si kk, sr la, sr rr, si ll, si mm, si pJ, si cc, sr b813, si ll, si 0, un, un]) rfl (XS.iload X889.here hx rfl (hb hby at_346) rfl (XS.iconst X889.here hx rfl (hb hby at_348) k))))) ?_
       by_cases hc991 : mm = (5 : Int32)
       ·
        refine go (S' := T889.setTop (mkF m 367 #[si p1, si p2, si p3, si p4, si kk, sr la, sr rr, si ll, si mm, si pJ, si cc, sr b813, si ll, si 0, .val .null, un] [.null])) (fun t k => XS.icmpNo X889.here hx rfl (hb hby at_349) rfl (teq hc991).2 (XS.aconstNull X889.here hx rfl (hb hby at_352) (XS.goto X889.here hx rfl (pc0 := 353) (pc' := 363) rfl (hb hby at_353) (by decide) (by decide) (XS.astore X889.here hx rfl (hb hby at_363) rfl rfl (l' := #[si p1, si p2, si p3, si p4, si kk, sr la, sr rr, si ll, si mm, si pJ, si cc, sr b813, si ll, si 0, .val .null, un]) rfl (XS.aload X889.here hx rfl (hb hby at_365) rfl rfl k))))) ?_
        have O992 : Old Z n0 h889 := O0.keep K890 all0
        obtain ⟨v993, T993, L993, X993, hQ993, st993⟩ := callSt X889 hx hZ (y := y_22) hown (ww hw 77 rfl) (ww hw 78 rfl) (ww hw 10 rfl) (ww hw 79 rfl) (by decide) (backOf (W := 0) (rmFn l Z a0 hw [] av kV c1 c2 c3 c4 l1 l2 l3 l4 m1 m2 m3 m4 oe G1 h889 n0 (Nat.le_trans Z0 K890.1) hp11 hp12 hp13 hp14 hp15 hp16 hp17 hp18 hp19 hp20 hp21 hp22 hp23 hp24 hp0 hG1 O992) hZ (ww hw 79 rfl) (ww hw 10 rfl) (by decide) (by decide)) (g := (mkF m 367 #[si p1, si p2, si p3, si p4, si kk, sr la, sr rr, si ll, si mm, si pJ, si cc, sr b813, si ll, si 0, .val .null, un] [.null])) rfl (by rw [hml]; rfl) (kc := 1) (ks := 4) (argsL := [.null]) (rest := []) (lenOf pd_19 rfl) rfl (mr0 rfl) (hb hby at_367) e889 (by decide) (by decide)
        obtain ⟨r_993, rfl, N993q, Kq993, q993_0, q993_1⟩ := hQ993
        have N993 := Fr.app N891 N993q
        have hkS := Nat.le_trans hkS Kq993.1
        have C994 := C892.trans (CHr.keep Kq993 all0 C892.1)
        have K995 : Keep h0 T993.heap [] := K890.trans Kq993 all0
        refine go (S' := T993.setTop (mkF m 374 #[si p1, si p2, si p3, si p4, si kk, sr la, sr rr, si ll, si mm, si pJ, si cc, sr b813, si ll, si 0, .val .null, sr r_993] [(.int 0)])) (fun t k => st993 _ (XS.astore X993.here hx rfl (hb hby at_370) rfl rfl (l' := #[si p1, si p2, si p3, si p4, si kk, sr la, sr rr, si ll, si mm, si pJ, si cc, sr b813, si ll, si 0, .val .null, sr r_993]) rfl (XS.iload X993.here hx rfl (hb hby at_372) rfl k))) ?_
        have hc996 : (0 : Int32) = (0 : Int32) := by decide
        refine go (S' := T993.setTop (mkF m 379 #[si p1, si p2, si p3, si p4, si kk, sr la, sr rr, si ll, si mm, si pJ, si cc, sr b813, si ll, si 0, .val .null, sr r_993] [(.ref r_993)])) (fun t k => XS.ifNo X993.here hx rfl (hb hby at_374) rfl ((if0 _ _).trans (teq hc996).2) (XS.aload X993.here hx rfl (hb hby at_377) rfl rfl k)) ?_
        obtain ⟨v997, T997, L997, X997, hQ997, st997⟩ := callV X993 hx hZ (y := y_15) (z := y_15) hown (ww hw 114 rfl) (ww hw 115 rfl) (notFace_of_selects (args := #[]) (mvT hZ (ww hw 117 rfl))) (ww hw 117 rfl) (ww hw 116 rfl) (by decide) (backOf (W := 0) (rmIp0 l Z a0 hw [] r_993 T993.heap n0 (Nat.le_trans Z0 K995.1) q993_1) hZ (ww hw 118 rfl) (ww hw 111 rfl) (by decide) (by decide)) q993_0 (g := (mkF m 379 #[si p1, si p2, si p3, si p4, si kk, sr la, sr rr, si ll, si mm, si pJ, si cc, sr b813, si ll, si 0, .val .null, sr r_993] [(.ref r_993)])) rfl (by rw [hml]; rfl) (kc := 0) (ks := 0) (argsL := []) (rest := []) (lenOf pd_20 rfl) rfl (mr0 rfl) (hb hby at_379) rfl (by decide) (by decide)
        obtain ⟨rfl, N997q, e997⟩ := hQ997
        have N997 := Fr.app N993 N997q
        refine go (S' := T997.setTop (mkF m 382 #[si p1, si p2, si p3, si p4, si kk, sr la, sr rr, si ll, si mm, si pJ, si cc, sr b813, si ll, si 0, .val .null, sr r_993] [(.int 0)])) st997 ?_
        have hc998 : (0 : Int32) = (0 : Int32) := by decide
        refine go (S' := T997.setTop (mkF m 390 #[si p1, si p2, si p3, si p4, si kk, sr la, sr rr, si ll, si mm, si pJ, si cc, sr b813, si ll, si 0, .val .null, sr r_993] [(.int 1)])) (fun t k => XS.ifNo X997.here hx rfl (hb hby at_382) rfl ((if0 _ _).trans (teq hc998).2) (XS.iconst X997.here hx rfl (hb hby at_385) (XS.goto X997.here hx rfl (pc0 := 386) (pc' := 390) rfl (hb hby at_386) (by decide) (by decide) k))) ?_
        refine finNW X997 hx hk (t := .boolean) hret (by simp) hS hkS hZ (own_EW hw) C994 e997 (hb hby at_390) (by decide) (by decide) ?_
        exact ⟨rfl, N997, K995⟩
       ·
        exact absurd h6 (by simp only [eq_false hc893, eq_false hc907, eq_false hc943, eq_false hc961, eq_false hc974, eq_false hc991, or_self]; exact id)
 refine go (S' := T0.setTop (mkF m 10 #[si p1, si p2, si p3, si p4, si kk, un, un, un, un, un, un, un, un, un, un, un] [(.int kk)])) (fun t k => XS.iload X0.here hx rfl (hb hby at_8) rfl k) ?_
 by_cases hc999 : kk = (0 : Int32)
 ·
  refine go (S' := T0.setTop (mkF m 13 #[si p1, si p2, si p3, si p4, si kk, un, un, un, un, un, un, un, un, un, un, un] [])) (fun t k => XS.ifNo X0.here hx rfl (hb hby at_10) rfl ((if0 _ _).trans (teq hc999).2) k) ?_
  obtain ⟨la1000, T1000, h1000, k1000, lb1000, lk1000, X1000, e1000, E1000, hS, hkS, hZ, hown, lE1000, lC1000, lV1000, lA1000, la1000_lt, lb1000_lt, Cq1000, lit1000, lne1000, st1000⟩ := ldcCH X0 hx hZ hown (ww hw 1 rfl) (own_sub own_strAtoms hw) e0 hS hkS (own_EW hw) (by decide) C0.1 (vs := [(.int 111), (.int 98), (.int 115), (.int 101), (.int 114), (.int 118), (.int 101), (.int 114)]) (z := (8 : Int32)) ⟨by decide, by decide⟩ (by decide) (by decide) (g := (mkF m 13 #[si p1, si p2, si p3, si p4, si kk, un, un, un, un, un, un, un, un, un, un, un] [])) rfl (hb hby at_13) (n := 40) (by decide) (by decide) (by decide) (by decide)
  have K1001 : Keep h0 h1000 [] := K0.ext E1000
  have C1002 := C0.trans Cq1000
  have lstr1000 : Str Z h1000 la1000 lb1000 (0 : Int32) ([111, 98, 115, 101, 114, 118, 101, 114] : List Int32) := ⟨_, _, _, lE1000, lV1000, lC1000, lA1000, own_codOf rfl (by decide), by decide, Nat.le_of_ble_eq_true rfl⟩
  refine go (S' := T1000.setTop (mkF m 17 #[si p1, si p2, si p3, si p4, si kk, sr la1000, un, un, un, un, un, un, un, un, un, un] [])) (fun t k => st1000 _ (XS.astore X1000.here hx rfl (hb hby at_15) rfl rfl (l' := #[si p1, si p2, si p3, si p4, si kk, sr la1000, un, un, un, un, un, un, un, un, un, un]) rfl k)) ?_
  have O1004 : Old Z n0 h1000 := O0.keep K1001 all0
  obtain ⟨T1003, X1003, e1003, st1003⟩ := getS2 X1000 hx hZ hown (host := "") (Or.inl (ww hw 9 rfl)) Via.refl e1000 (hp7.ext O1004.2) (g := (mkF m 17 #[si p1, si p2, si p3, si p4, si kk, sr la1000, un, un, un, un, un, un, un, un, un, un] [])) rfl (hb hby at_17)
  refine go (S' := T1003.setTop (mkF m 70 #[si p1, si p2, si p3, si p4, si kk, sr la1000, sr c1, un, un, un, un, un, un, un, un, un] [])) (fun t k => st1003 _ (XS.astore X1003.here hx rfl (hb hby at_20) rfl rfl (l' := #[si p1, si p2, si p3, si p4, si kk, sr la1000, sr c1, un, un, un, un, un, un, un, un, un]) rfl (XS.goto X1003.here hx rfl (pc0 := 22) (pc' := 70) rfl (hb hby at_22) (by decide) (by decide) k))) ?_
  exact tail _ _ la1000 lb1000 c1 ([111, 98, 115, 101, 114, 118, 101, 114] : List Int32) _ _ _ (Or.inl ⟨rfl, rfl⟩) X1003 e1003 N0 K1001 hS hkS hZ hown C1002 lstr1000
 ·
  refine go (S' := T0.setTop (mkF m 28 #[si p1, si p2, si p3, si p4, si kk, un, un, un, un, un, un, un, un, un, un, un] [(.int 1), (.int kk)])) (fun t k => XS.ifYes X0.here hx rfl (pc0 := 10) (pc' := 25) rfl (hb hby at_10) rfl ((if0 _ _).trans (feq hc999).2) (by decide) (by decide) (XS.iload X0.here hx rfl (hb hby at_25) rfl (XS.iconst X0.here hx rfl (hb hby at_27) k))) ?_
  by_cases hc1005 : kk = (1 : Int32)
  ·
   refine go (S' := T0.setTop (mkF m 31 #[si p1, si p2, si p3, si p4, si kk, un, un, un, un, un, un, un, un, un, un, un] [])) (fun t k => XS.icmpNo X0.here hx rfl (hb hby at_28) rfl (teq hc1005).2 k) ?_
   obtain ⟨la1006, T1006, h1006, k1006, lb1006, lk1006, X1006, e1006, E1006, hS, hkS, hZ, hown, lE1006, lC1006, lV1006, lA1006, la1006_lt, lb1006_lt, Cq1006, lit1006, lne1006, st1006⟩ := ldcCH X0 hx hZ hown (ww hw 144 rfl) (own_sub own_strAtoms hw) e0 hS hkS (own_EW hw) (by decide) C0.1 (vs := [(.int 117), (.int 115), (.int 101), (.int 114)]) (z := (4 : Int32)) ⟨by decide, by decide⟩ (by decide) (by decide) (g := (mkF m 31 #[si p1, si p2, si p3, si p4, si kk, un, un, un, un, un, un, un, un, un, un, un] [])) rfl (hb hby at_31) (n := 40) (by decide) (by decide) (by decide) (by decide)
   have K1007 : Keep h0 h1006 [] := K0.ext E1006
   have C1008 := C0.trans Cq1006
   have lstr1006 : Str Z h1006 la1006 lb1006 (0 : Int32) ([117, 115, 101, 114] : List Int32) := ⟨_, _, _, lE1006, lV1006, lC1006, lA1006, own_codOf rfl (by decide), by decide, Nat.le_of_ble_eq_true rfl⟩
   refine go (S' := T1006.setTop (mkF m 35 #[si p1, si p2, si p3, si p4, si kk, sr la1006, un, un, un, un, un, un, un, un, un, un] [])) (fun t k => st1006 _ (XS.astore X1006.here hx rfl (hb hby at_33) rfl rfl (l' := #[si p1, si p2, si p3, si p4, si kk, sr la1006, un, un, un, un, un, un, un, un, un, un]) rfl k)) ?_
   have O1010 : Old Z n0 h1006 := O0.keep K1007 all0
   obtain ⟨T1009, X1009, e1009, st1009⟩ := getS2 X1006 hx hZ hown (host := "") (Or.inl (ww hw 145 rfl)) Via.refl e1006 (hp8.ext O1010.2) (g := (mkF m 35 #[si p1, si p2, si p3, si p4, si kk, sr la1006, un, un, un, un, un, un, un, un, un, un] [])) rfl (hb hby at_35)
   refine go (S' := T1009.setTop (mkF m 70 #[si p1, si p2, si p3, si p4, si kk, sr la1006, sr c2, un, un, un, un, un, un, un, un, un] [])) (fun t k => st1009 _ (XS.astore X1009.here hx rfl (hb hby at_38) rfl rfl (l' := #[si p1, si p2, si p3, si p4, si kk, sr la1006, sr c2, un, un, un, un, un, un, un, un, un]) rfl (XS.goto X1009.here hx rfl (pc0 := 40) (pc' := 70) rfl (hb hby at_40) (by decide) (by decide) k))) ?_
   exact tail _ _ la1006 lb1006 c2 ([117, 115, 101, 114] : List Int32) _ _ _ (Or.inr (Or.inl ⟨rfl, rfl⟩)) X1009 e1009 N0 K1007 hS hkS hZ hown C1008 lstr1006
  ·
   refine go (S' := T0.setTop (mkF m 46 #[si p1, si p2, si p3, si p4, si kk, un, un, un, un, un, un, un, un, un, un, un] [(.int 2), (.int kk)])) (fun t k => XS.icmpYes X0.here hx rfl (pc0 := 28) (pc' := 43) rfl (hb hby at_28) rfl (feq hc1005).2 (by decide) (by decide) (XS.iload X0.here hx rfl (hb hby at_43) rfl (XS.iconst X0.here hx rfl (hb hby at_45) k))) ?_
   by_cases hc1011 : kk = (2 : Int32)
   ·
    refine go (S' := T0.setTop (mkF m 49 #[si p1, si p2, si p3, si p4, si kk, un, un, un, un, un, un, un, un, un, un, un] [])) (fun t k => XS.icmpNo X0.here hx rfl (hb hby at_46) rfl (teq hc1011).2 k) ?_
    obtain ⟨la1012, T1012, h1012, k1012, lb1012, lk1012, X1012, e1012, E1012, hS, hkS, hZ, hown, lE1012, lC1012, lV1012, lA1012, la1012_lt, lb1012_lt, Cq1012, lit1012, lne1012, st1012⟩ := ldcCH X0 hx hZ hown (ww hw 123 rfl) (own_sub own_strAtoms hw) e0 hS hkS (own_EW hw) (by decide) C0.1 (vs := [(.int 112), (.int 111), (.int 119), (.int 101), (.int 114), (.int 95), (.int 117), (.int 115), (.int 101), (.int 114)]) (z := (10 : Int32)) ⟨by decide, by decide⟩ (by decide) (by decide) (g := (mkF m 49 #[si p1, si p2, si p3, si p4, si kk, un, un, un, un, un, un, un, un, un, un, un] [])) rfl (hb hby at_49) (n := 40) (by decide) (by decide) (by decide) (by decide)
    have K1013 : Keep h0 h1012 [] := K0.ext E1012
    have C1014 := C0.trans Cq1012
    have lstr1012 : Str Z h1012 la1012 lb1012 (0 : Int32) ([112, 111, 119, 101, 114, 95, 117, 115, 101, 114] : List Int32) := ⟨_, _, _, lE1012, lV1012, lC1012, lA1012, own_codOf rfl (by decide), by decide, Nat.le_of_ble_eq_true rfl⟩
    refine go (S' := T1012.setTop (mkF m 53 #[si p1, si p2, si p3, si p4, si kk, sr la1012, un, un, un, un, un, un, un, un, un, un] [])) (fun t k => st1012 _ (XS.astore X1012.here hx rfl (hb hby at_51) rfl rfl (l' := #[si p1, si p2, si p3, si p4, si kk, sr la1012, un, un, un, un, un, un, un, un, un, un]) rfl k)) ?_
    have O1016 : Old Z n0 h1012 := O0.keep K1013 all0
    obtain ⟨T1015, X1015, e1015, st1015⟩ := getS2 X1012 hx hZ hown (host := "") (Or.inl (ww hw 124 rfl)) Via.refl e1012 (hp9.ext O1016.2) (g := (mkF m 53 #[si p1, si p2, si p3, si p4, si kk, sr la1012, un, un, un, un, un, un, un, un, un, un] [])) rfl (hb hby at_53)
    refine go (S' := T1015.setTop (mkF m 70 #[si p1, si p2, si p3, si p4, si kk, sr la1012, sr c3, un, un, un, un, un, un, un, un, un] [])) (fun t k => st1015 _ (XS.astore X1015.here hx rfl (hb hby at_56) rfl rfl (l' := #[si p1, si p2, si p3, si p4, si kk, sr la1012, sr c3, un, un, un, un, un, un, un, un, un]) rfl (XS.goto X1015.here hx rfl (pc0 := 58) (pc' := 70) rfl (hb hby at_58) (by decide) (by decide) k))) ?_
    exact tail _ _ la1012 lb1012 c3 ([112, 111, 119, 101, 114, 95, 117, 115, 101, 114] : List Int32) _ _ _ (Or.inr (Or.inr (Or.inl ⟨rfl, rfl⟩))) X1015 e1015 N0 K1013 hS hkS hZ hown C1014 lstr1012
   ·
    refine go (S' := T0.setTop (mkF m 61 #[si p1, si p2, si p3, si p4, si kk, un, un, un, un, un, un, un, un, un, un, un] [])) (fun t k => XS.icmpYes X0.here hx rfl (pc0 := 46) (pc' := 61) rfl (hb hby at_46) rfl (feq hc1011).2 (by decide) (by decide) k) ?_
    obtain ⟨la1017, T1017, h1017, k1017, lb1017, lk1017, X1017, e1017, E1017, hS, hkS, hZ, hown, lE1017, lC1017, lV1017, lA1017, la1017_lt, lb1017_lt, Cq1017, lit1017, lne1017, st1017⟩ := ldcCH X0 hx hZ hown (ww hw 121 rfl) (own_sub own_strAtoms hw) e0 hS hkS (own_EW hw) (by decide) C0.1 (vs := [(.int 97), (.int 100), (.int 109), (.int 105), (.int 110)]) (z := (5 : Int32)) ⟨by decide, by decide⟩ (by decide) (by decide) (g := (mkF m 61 #[si p1, si p2, si p3, si p4, si kk, un, un, un, un, un, un, un, un, un, un, un] [])) rfl (hb hby at_61) (n := 40) (by decide) (by decide) (by decide) (by decide)
    have K1018 : Keep h0 h1017 [] := K0.ext E1017
    have C1019 := C0.trans Cq1017
    have lstr1017 : Str Z h1017 la1017 lb1017 (0 : Int32) ([97, 100, 109, 105, 110] : List Int32) := ⟨_, _, _, lE1017, lV1017, lC1017, lA1017, own_codOf rfl (by decide), by decide, Nat.le_of_ble_eq_true rfl⟩
    refine go (S' := T1017.setTop (mkF m 65 #[si p1, si p2, si p3, si p4, si kk, sr la1017, un, un, un, un, un, un, un, un, un, un] [])) (fun t k => st1017 _ (XS.astore X1017.here hx rfl (hb hby at_63) rfl rfl (l' := #[si p1, si p2, si p3, si p4, si kk, sr la1017, un, un, un, un, un, un, un, un, un, un]) rfl k)) ?_
    have O1021 : Old Z n0 h1017 := O0.keep K1018 all0
    obtain ⟨T1020, X1020, e1020, st1020⟩ := getS2 X1017 hx hZ hown (host := "") (Or.inl (ww hw 122 rfl)) Via.refl e1017 (hp10.ext O1021.2) (g := (mkF m 65 #[si p1, si p2, si p3, si p4, si kk, sr la1017, un, un, un, un, un, un, un, un, un, un] [])) rfl (hb hby at_65)
    refine go (S' := T1020.setTop (mkF m 70 #[si p1, si p2, si p3, si p4, si kk, sr la1017, sr c4, un, un, un, un, un, un, un, un, un] [])) (fun t k => st1020 _ (XS.astore X1020.here hx rfl (hb hby at_68) rfl rfl (l' := #[si p1, si p2, si p3, si p4, si kk, sr la1017, sr c4, un, un, un, un, un, un, un, un, un]) rfl k)) ?_
    exact tail _ _ la1017 lb1017 c4 ([97, 100, 109, 105, 110] : List Int32) _ _ _ (Or.inr (Or.inr (Or.inr ⟨rfl, rfl⟩))) X1020 e1020 N0 K1018 hS hkS hZ hown C1019 lstr1017
set_option maxRecDepth 65536 in
set_option maxHeartbeats 40000000 in
theorem comes_1 {Post : Tables → Env → Array Value → State → Outcome → State → Prop} (hpost : ∀ tb e args s v u, (limb_1_1.after args s (.returned v) u = true ∧ limb_1_2.after args s (.returned v) u = true ∧ True) → ReturnedEndW s (.returned v) u (Jvm.fieldLocs frame_1_writes args s ++ Jvm.arrayLocs frame_1_arrays args s ++ Jvm.staticLocs frame_1_statics s) 32 5376 → Post tb e args s (.returned v) u) :
    ArmFor flags0 classFile x code maxLocals ret World_1 tables_1 room_1 Calls_1 rest_1 Pre_1 Post := by
  intro l hfl _ _ p e ha hc hk s m args below hf hA hF happ hP
  obtain ⟨hcalls, hrest, hpre⟩ := hP
  obtain ⟨-, -, -, hnamed, -, -, -, hat⟩ := (Spec.applies_iff hf).mp happ
  obtain ⟨hg, hn⟩ := and_e (Cond.before_iff.mp (show (Jvm.Cond.and given_1 narrow_1).before args s = true from hpre))
  obtain ⟨hcount, hg0⟩ := and_e hg
  obtain ⟨ha0, hg1⟩ := and_e hg0
  obtain ⟨ha1, hg2⟩ := and_e hg1
  obtain ⟨ha2, hg3⟩ := and_e hg2
  have ha3 := hg3
  obtain ⟨w0, w1, w2, w3, rfl⟩ : ∃ w0 w1 w2 w3 : Value, args = #[w0, w1, w2, w3] := by
    have hs : args.size = 4 := by simpa [Cond.value, given_1] using hcount
    obtain ⟨L⟩ := args
    match L, hs with
    | [w0, w1, w2, w3], _ => exact ⟨w0, w1, w2, w3, rfl⟩
  have hw := fun d (hd : d ∈ tables_1) => atoms_spec (ws := Jvm.Cond.code x code maxLocals ret :: tables_1) hat d (List.mem_cons_of_mem _ hd)
  have hfit : Fit s := fun {y c} hc i hi => by
    obtain ⟨ha, rfl⟩ := Array.getElem?_eq_some_iff.mp hc
    have q := List.all_eq_true.mp ((Array.all_eq_true_iff_forall_mem.mp hF) _ (Array.getElem_mem ha)) i (List.mem_range.mpr hi)
    simpa [Array.getElem?_eq_getElem hi] using q
  obtain ⟨hsets, hown0⟩ := atoms_of _ (rest_1_c_eq ▸ (show rest_1_c.before _ s = true from hrest))
  obtain ⟨i0, ei0⟩ := is_v ha0
  obtain rfl : w0 = (.int i0) := Option.some.inj ei0
  obtain ⟨i1, ei1⟩ := is_v ha1
  obtain rfl : w1 = (.int i1) := Option.some.inj ei1
  obtain ⟨i2, ei2⟩ := is_v ha2
  obtain rfl : w2 = (.int i2) := Option.some.inj ei2
  obtain ⟨i3, ei3⟩ := is_v ha3
  obtain rfl : w3 = (.int i3) := Option.some.inj ei3
  obtain ⟨hn_0, hr_0⟩ := and_e hn
  obtain ⟨hn_1, hr_1⟩ := and_e hr_0
  obtain ⟨hn_2, hr_2⟩ := and_e hr_1
  obtain ⟨hn_3, hr_3⟩ := and_e hr_2
  obtain ⟨hn_4, hr_4⟩ := and_e hr_3
  obtain ⟨hn_5, hr_5⟩ := and_e hr_4
  obtain ⟨hn_6, hr_6⟩ := and_e hr_5
  obtain ⟨hn_7, hr_7⟩ := and_e hr_6
  obtain ⟨hn_8, hr_8⟩ := and_e hr_7
  obtain ⟨hn_9, hr_9⟩ := and_e hr_8
  obtain ⟨hn_10, hr_10⟩ := and_e hr_9
  obtain ⟨hn_11, hr_11⟩ := and_e hr_10
  obtain ⟨hn_12, hr_12⟩ := and_e hr_11
  obtain ⟨hn_13, hr_13⟩ := and_e hr_12
  obtain ⟨hn_14, hr_14⟩ := and_e hr_13
  obtain ⟨hn_15, hr_15⟩ := and_e hr_14
  obtain ⟨hn_16, hr_16⟩ := and_e hr_15
  obtain ⟨hn_17, hr_17⟩ := and_e hr_16
  obtain ⟨hn_18, hr_18⟩ := and_e hr_17
  obtain ⟨hn_19, hr_19⟩ := and_e hr_18
  obtain ⟨hn_20, hr_20⟩ := and_e hr_19
  obtain ⟨hn_21, hr_21⟩ := and_e hr_20
  obtain ⟨hn_22, hr_22⟩ := and_e hr_21
  obtain ⟨hn_23, hr_23⟩ := and_e hr_22
  obtain ⟨hn_24, hr_24⟩ := and_e hr_23
  obtain ⟨hn_25, hr_25⟩ := and_e hr_24
  obtain ⟨hn_26, hr_26⟩ := and_e hr_25
  obtain ⟨hn_27, hr_27⟩ := and_e hr_26
  obtain ⟨hn_28, hr_28⟩ := and_e hr_27
  obtain ⟨hn_29, hr_29⟩ := and_e hr_28
  obtain ⟨hn_30, hr_30⟩ := and_e hr_29
  obtain ⟨hn_31, hr_31⟩ := and_e hr_30
  obtain ⟨hn_32, hr_32⟩ := and_e hr_31
  obtain ⟨hn_33, hr_33⟩ := and_e hr_32
  obtain ⟨hn_34, hr_34⟩ := and_e hr_33
  obtain ⟨hn_35, hr_35⟩ := and_e hr_34
  obtain ⟨hn_36, hr_36⟩ := and_e hr_35
  obtain ⟨hn_37, hr_37⟩ := and_e hr_36
  obtain ⟨hn_38, hr_38⟩ := and_e hr_37
  obtain ⟨hn_39, hr_39⟩ := and_e hr_38
  obtain ⟨hn_40, hr_40⟩ := and_e hr_39
  obtain ⟨hn_41, hr_41⟩ := and_e hr_40
  obtain ⟨hn_42, hr_42⟩ := and_e hr_41
  obtain ⟨hn_43, hr_43⟩ := and_e hr_42
  obtain ⟨hn_44, hr_44⟩ := and_e hr_43
  obtain ⟨hn_45, hr_45⟩ := and_e hr_44
  obtain ⟨hn_46, hr_46⟩ := and_e hr_45
  obtain ⟨hn_47, hr_47⟩ := and_e hr_46
  obtain ⟨hn_48, hr_48⟩ := and_e hr_47
  obtain ⟨hn_49, hr_49⟩ := and_e hr_48
  obtain ⟨hn_50, hr_50⟩ := and_e hr_49
  obtain ⟨hn_51, hr_51⟩ := and_e hr_50
  obtain ⟨hn_52, hr_52⟩ := and_e hr_51
  have hn_53 := hr_52
  obtain ⟨g1022, eg1022⟩ := is_v (Cond.before_iff.mp (hsets _ (List.mem_of_getElem? (i := 1) rfl)))
  have sg1022 : Sta s s.heap "java/lang/String" "COMPACT_STRINGS" "Z" (.int g1022) := Sta.start eg1022 (Or.inl (hsets _ (List.mem_of_getElem? (i := 0) rfl)))
  obtain ⟨g1023, eg1023, rg1023⟩ := isR_v (Cond.before_iff.mp (hsets _ (List.mem_of_getElem? (i := 8) rfl)))
  have sg1023 : Sta s s.heap "jdk/internal/util/Preconditions" "SIOOBE_FORMATTER" "Ljava/util/function/BiFunction;" g1023 := Sta.start eg1023 (Or.inl (hsets _ (List.mem_of_getElem? (i := 7) rfl)))
  have eg1024 := eqInt_v (Cond.before_iff.mp (hsets _ (List.mem_of_getElem? (i := 16) rfl)))
  have sg1024 : Sta s s.heap "java/lang/StringUTF16" "$assertionsDisabled" "Z" (.int 1) := Sta.start eg1024 (Or.inl (hsets _ (List.mem_of_getElem? (i := 15) rfl)))
  have eg1025 := eqInt_v (Cond.before_iff.mp (hsets _ (List.mem_of_getElem? (i := 19) rfl)))
  have sg1025 : Sta s s.heap "java/lang/StringUTF16" "HI_BYTE_SHIFT" "I" (.int 0) := Sta.start eg1025 (Or.inl (hsets _ (List.mem_of_getElem? (i := 18) rfl)))
  have eg1026 := eqInt_v (Cond.before_iff.mp (hsets _ (List.mem_of_getElem? (i := 22) rfl)))
  have sg1026 : Sta s s.heap "java/lang/StringUTF16" "LO_BYTE_SHIFT" "I" (.int 8) := Sta.start eg1026 (Or.inl (hsets _ (List.mem_of_getElem? (i := 21) rfl)))
  obtain ⟨g1027, eg1027⟩ := exa_v hn_0
  have xg1027 := Exa.start eg1027 hn_0
  have sg1027 : Sta s s.heap "com/example/neti/neti/model/SpaceRole" "OBSERVER" "Lcom/example/neti/neti/model/SpaceRole;" (.ref g1027) := Sta.start eg1027 (Or.inr ⟨(ww hw 10 rfl), (ww hw 11 rfl)⟩)
  obtain ⟨g1028, eg1028⟩ := exa_v hn_5
  have xg1028 := Exa.start eg1028 hn_5
  have sg1028 : Sta s s.heap "com/example/neti/neti/model/SpaceRole" "USER" "Lcom/example/neti/neti/model/SpaceRole;" (.ref g1028) := Sta.start eg1028 (Or.inr ⟨(ww hw 10 rfl), (ww hw 92 rfl)⟩)
  obtain ⟨g1029, eg1029⟩ := exa_v hn_7
  have xg1029 := Exa.start eg1029 hn_7
  have sg1029 : Sta s s.heap "com/example/neti/neti/model/SpaceRole" "POWER_USER" "Lcom/example/neti/neti/model/SpaceRole;" (.ref g1029) := Sta.start eg1029 (Or.inr ⟨(ww hw 10 rfl), (ww hw 93 rfl)⟩)
  obtain ⟨g1030, eg1030⟩ := exa_v hn_9
  have xg1030 := Exa.start eg1030 hn_9
  have sg1030 : Sta s s.heap "com/example/neti/neti/model/SpaceRole" "ADMIN" "Lcom/example/neti/neti/model/SpaceRole;" (.ref g1030) := Sta.start eg1030 (Or.inr ⟨(ww hw 10 rfl), (ww hw 94 rfl)⟩)
  obtain ⟨g1031, eg1031⟩ := exa_v hn_2
  have xg1031 := Exa.start eg1031 hn_2
  have sg1031 : Sta s s.heap "com/example/neti/neti/model/SpaceRole" "$VALUES" "[Lcom/example/neti/neti/model/SpaceRole;" (.ref g1031) := Sta.start eg1031 (Or.inl (ww hw 95 rfl))
  obtain ⟨g1032, eg1032⟩ := exa_v (Cond.before_iff.mp (hsets _ (List.mem_of_getElem? (i := 11) rfl)))
  have xg1032 := Exa.start eg1032 (Cond.before_iff.mp (hsets _ (List.mem_of_getElem? (i := 11) rfl)))
  have sg1032 : Sta s s.heap "java/util/Optional" "EMPTY" "Ljava/util/Optional;" (.ref g1032) := Sta.start eg1032 (Or.inl (hsets _ (List.mem_of_getElem? (i := 10) rfl)))
  have c1033 : ¬ (g1022 = (0 : Int32)) := gotF (Cond.eq_ints eg1022 (Term.int_eval (0))) (not_v (Cond.before_iff.mp (hsets _ (List.mem_of_getElem? (i := 2) rfl))))
  obtain ⟨kV, hzV⟩ := arvStart (d := .null) (vs := [(.ref g1027), (.ref g1028), (.ref g1029), (.ref g1030)]) hfit eg1031 hn_1 hn_3 (by decide) rfl (fun c q => ⟨(q 0 (by decide)).symm.trans (eqRef_v eg1027 hn_4), (q 1 (by decide)).symm.trans (eqRef_v eg1028 hn_6), (q 2 (by decide)).symm.trans (eqRef_v eg1029 hn_8), (q 3 (by decide)).symm.trans (eqRef_v eg1030 hn_10), trivial⟩)
  obtain ⟨zl0, ezl0⟩ := exa_v hn_11
  have fzl0 := Fld.start ((fld_at eg1027).symm.trans ezl0)
  obtain ⟨zm0, ezm0⟩ := arr_v hn_13
  obtain ⟨kz0, az0⟩ := arvStart (d := .int (0 : Int32)) (vs := [(.int 111), (.int 98), (.int 115), (.int 101), (.int 114), (.int 118), (.int 101), (.int 114)]) hfit ezm0 hn_13 hn_14 (by decide) rfl (fun c q => ⟨(q 0 (by decide)).symm.trans (eqInt_v hn_31), (q 1 (by decide)).symm.trans (eqInt_v hn_32), (q 2 (by decide)).symm.trans (eqInt_v hn_33), (q 3 (by decide)).symm.trans (eqInt_v hn_34), (q 4 (by decide)).symm.trans (eqInt_v hn_35), (q 5 (by decide)).symm.trans (eqInt_v hn_36), (q 6 (by decide)).symm.trans (eqInt_v hn_37), (q 7 (by decide)).symm.trans (eqInt_v hn_38), trivial⟩)
  have sz0 : Str s s.heap zl0 zm0 (0 : Int32) ([111, 98, 115, 101, 114, 118, 101, 114] : List Int32) := ⟨_, _, _, Exa.start ezl0 hn_11, Fld.start ((fld_at ezl0).symm.trans ezm0), Fld.start ((fld_at ezl0).symm.trans (eqInt_v hn_12)), az0, own_codOf rfl (by decide), by decide, Nat.le_of_ble_eq_true rfl⟩
  obtain ⟨zl1, ezl1⟩ := exa_v hn_15
  have fzl1 := Fld.start ((fld_at eg1028).symm.trans ezl1)
  obtain ⟨zm1, ezm1⟩ := arr_v hn_17
  obtain ⟨kz1, az1⟩ := arvStart (d := .int (0 : Int32)) (vs := [(.int 117), (.int 115), (.int 101), (.int 114)]) hfit ezm1 hn_17 hn_18 (by decide) rfl (fun c q => ⟨(q 0 (by decide)).symm.trans (eqInt_v hn_27), (q 1 (by decide)).symm.trans (eqInt_v hn_28), (q 2 (by decide)).symm.trans (eqInt_v hn_29), (q 3 (by decide)).symm.trans (eqInt_v hn_30), trivial⟩)
  have sz1 : Str s s.heap zl1 zm1 (0 : Int32) ([117, 115, 101, 114] : List Int32) := ⟨_, _, _, Exa.start ezl1 hn_15, Fld.start ((fld_at ezl1).symm.trans ezm1), Fld.start ((fld_at ezl1).symm.trans (eqInt_v hn_16)), az1, own_codOf rfl (by decide), by decide, Nat.le_of_ble_eq_true rfl⟩
  obtain ⟨zl2, ezl2⟩ := exa_v hn_19
  have fzl2 := Fld.start ((fld_at eg1029).symm.trans ezl2)
  obtain ⟨zm2, ezm2⟩ := arr_v hn_21
  obtain ⟨kz2, az2⟩ := arvStart (d := .int (0 : Int32)) (vs := [(.int 112), (.int 111), (.int 119), (.int 101), (.int 114), (.int 95), (.int 117), (.int 115), (.int 101), (.int 114)]) hfit ezm2 hn_21 hn_22 (by decide) rfl (fun c q => ⟨(q 0 (by decide)).symm.trans (eqInt_v hn_39), (q 1 (by decide)).symm.trans (eqInt_v hn_40), (q 2 (by decide)).symm.trans (eqInt_v hn_41), (q 3 (by decide)).symm.trans (eqInt_v hn_42), (q 4 (by decide)).symm.trans (eqInt_v hn_43), (q 5 (by decide)).symm.trans (eqInt_v hn_44), (q 6 (by decide)).symm.trans (eqInt_v hn_45), (q 7 (by decide)).symm.trans (eqInt_v hn_46), (q 8 (by decide)).symm.trans (eqInt_v hn_47), (q 9 (by decide)).symm.trans (eqInt_v hn_48), trivial⟩)
  have sz2 : Str s s.heap zl2 zm2 (0 : Int32) ([112, 111, 119, 101, 114, 95, 117, 115, 101, 114] : List Int32) := ⟨_, _, _, Exa.start ezl2 hn_19, Fld.start ((fld_at ezl2).symm.trans ezm2), Fld.start ((fld_at ezl2).symm.trans (eqInt_v hn_20)), az2, own_codOf rfl (by decide), by decide, Nat.le_of_ble_eq_true rfl⟩
  obtain ⟨zl3, ezl3⟩ := exa_v hn_23
  have fzl3 := Fld.start ((fld_at eg1030).symm.trans ezl3)
  obtain ⟨zm3, ezm3⟩ := arr_v hn_25
  obtain ⟨kz3, az3⟩ := arvStart (d := .int (0 : Int32)) (vs := [(.int 97), (.int 100), (.int 109), (.int 105), (.int 110)]) hfit ezm3 hn_25 hn_26 (by decide) rfl (fun c q => ⟨(q 0 (by decide)).symm.trans (eqInt_v hn_49), (q 1 (by decide)).symm.trans (eqInt_v hn_50), (q 2 (by decide)).symm.trans (eqInt_v hn_51), (q 3 (by decide)).symm.trans (eqInt_v hn_52), (q 4 (by decide)).symm.trans (eqInt_v hn_53), trivial⟩)
  have sz3 : Str s s.heap zl3 zm3 (0 : Int32) ([97, 100, 109, 105, 110] : List Int32) := ⟨_, _, _, Exa.start ezl3 hn_23, Fld.start ((fld_at ezl3).symm.trans ezm3), Fld.start ((fld_at ezl3).symm.trans (eqInt_v hn_24)), az3, own_codOf rfl (by decide), by decide, Nat.le_of_ble_eq_true rfl⟩
  have hCH : CHv s consts_1 s.vm s.heap := CHv.start (own_EW hw) (fun p hp => hcalls.1 p hp) (show Jvm.Lit.compactW.before _ s = true from hsets _ (List.mem_of_getElem? (i := 2) rfl)) (ww hw 4 rfl) (ww hw 3 rfl)
  obtain ⟨n, o, h1, h2, h3, _, L, rfl, ⟨rfl, N, -⟩, -, hq⟩ := rmLaw l s _ hw tables_1 i0 i1 i2 i3 g1031 kV g1027 g1028 g1029 g1030 zl0 zl1 zl2 zl3 zm0 zm1 zm2 zm3 g1032 g1022 g1023 s.heap s.heap.size (Nat.le_refl _) sg1022 c1033 sg1023 rg1023 sg1024 sg1025 sg1026 sg1027 sg1028 sg1029 sg1030 sg1031 xg1031 hzV fzl0 sz0 fzl1 sz1 fzl2 sz2 fzl3 sz3 sg1032 xg1032 (Fld.start ((fld_at eg1032).symm.trans (eqNull_v (Cond.before_iff.mp (hsets _ (List.mem_of_getElem? (i := 12) rfl)))))) (Old.start s) p e ha hc hk s m _ below hf ((Spec.applies_iff_loose hf).mp happ).1 ⟨rfl, State.Warmed39.refl s, rfl, hCH, all0⟩ trivial
  refine ⟨n, _, h1, h2, h3, hpost _ _ _ _ _ _ ⟨Cond.after_iff.mpr rfl, Cond.after_iff.mpr (eq_i res_at (Term.int_eval (1)) rfl), trivial⟩ ⟨hq.1, hq.2.1, hq.2.2.1, (hq.2.2.2.sift fun y hy => Or.inr (N y hy)).mono (by decide) (by decide)⟩⟩
theorem main_1_1 : Claimed_1_1 := comes_1 fun _ _ _ _ _ _ h hF => ⟨h.1, hF⟩
theorem main_1_2 : Claimed_1_2 := comes_1 fun _ _ _ _ _ _ h hF => ⟨h.2.1, hF⟩
end Jvm.Pilot.@@N@@
namespace Jvm.Pilot.@@N@@
open Jvm Jvm.ClassFile Sem Op Lib Jvm.Free Jvm.Stand Jvm.Pilot.@@N@@.Jvm.D
/-! MADE BY PROGRAM (witnessworld.py) out of the Statement's table words and the real class files: 24 classes; the members and pool entries that the words name. The judged class is class 1, her method 3. -/
namespace start1
open Jvm.ClassFile
def u (s : String) : CpInfo := .utf8 (stringToUtf16 s)
/-- a pool by its gaps: so many unusable entries, then the entry; so many at the end -/
def gap : Nat → List CpInfo → List CpInfo
  | 0, r => r
  | n + 1, r => .unusable :: gap n r
def poolList (es : List (Nat × CpInfo)) (last : Nat) : List CpInfo := es.foldr (fun e r => gap e.1 (e.2 :: r)) (gap last [])
def pool (es : List (Nat × CpInfo)) (last : Nat) : Array CpInfo := ⟨poolList es last⟩
def fileOf (pool : Array CpInfo) (this : Nat) (attrs : Array Attribute := #[]) (ms : Array MethodInfo := #[]) (fl : Nat := 33) (sup : Nat := 0) (ifs : Array Nat := #[]) (fds : Array FieldInfo := #[]) : ClassFile where
  minorVersion := 0
  majorVersion := 65
  constantPool := pool
  accessFlags := fl
  thisClass := this
  superClass := sup
  interfaces := ifs
  fields := fds
  methods := ms
  attributes := attrs
def plain (name : String) (sup : Option ClassId) : Class where
  name := name
  kind := .ordinary
  loader := none
  accessFlags := 33
  super := sup
  interfaces := #[]
  cf := none
  fields := #[]
  methods := #[]
  instanceTypes := #[]
  staticTypes := #[]
  resolved := #[]
  callSites := []
  init := .initialized
  statics := none
  mirror := none

def pool0 : Array CpInfo := pool [(5, u "<init>"), (0, u "()V"), (1, .class_ 10), (1, u "java/lang/Object"), (85, u "clone"), (0, u "()Ljava/lang/Object;")] 26

def k0c0 : Code := { maxStack := 0, maxLocals := 1, code := object_method_1_code, exceptionTable := #[], attributes := #[] }
def k0m0 : Method := { name := "<init>", desc := "()V", sig := { parameters := [], returnType := none }, accessFlags := 1, code := some k0c0 }
def k0m1 : Method := { name := "clone", desc := "()Ljava/lang/Object;", sig := { parameters := [], returnType := some (.object "java/lang/Object") }, accessFlags := 260, code := none }
/-- java/lang/Object -/
def k0 : Class := { plain "java/lang/Object" none with
  accessFlags := 33
  interfaces := #[]
  cf := some (fileOf pool0 8 #[] #[{ accessFlags := 1, nameIndex := 5, descriptorIndex := 6, attributes := #[] }, { accessFlags := 260, nameIndex := 96, descriptorIndex := 97, attributes := #[] }] 33 0 #[] #[])
  fields := #[]
  methods := #[k0m0, k0m1]
  instanceTypes := #[]
  staticTypes := #[]
  resolved := Array.replicate 124 none
  statics := none }

def pool1 : Array CpInfo := pool [(2, .class_ 4), (1, u "java/lang/Object"), (0, u "<init>"), (0, u "()V"), (0, .methodref 8 9), (0, .class_ 10), (0, .nameAndType 11 12), (0, u "java/lang/String"), (0, u "length"), (0, u "()I"), (0, .methodref 8 14), (0, .nameAndType 15 16), (0, u "charAt"), (0, u "(I)C"), (0, .methodref 8 18), (0, .nameAndType 5 19), (0, u "([C)V"), (0, .integer 2147483647), (0, .string 22), (0, u "observer"), (0, .fieldref 24 25), (0, .class_ 26), (0, .nameAndType 27 28), (0, u "com/example/neti/neti/model/SpaceRole"), (0, u "OBSERVER"), (0, u "Lcom/example/neti/neti/model/SpaceRole;"), (0, .string 30), (0, u "user"), (0, .fieldref 24 32), (0, .nameAndType 33 28), (0, u "USER"), (0, .string 35), (0, u "power_user"), (0, .fieldref 24 37), (0, .nameAndType 38 28), (0, u "POWER_USER"), (0, .string 40), (0, u "admin"), (0, .fieldref 24 42), (0, .nameAndType 43 28), (0, u "ADMIN"), (0, .integer 65535), (0, .methodref 46 47), (0, .class_ 48), (0, .nameAndType 49 50), (0, u "com/example/neti/neti/model/SpaceRoleFromLabelPinLaw"), (0, u "at"), (0, u "(Ljava/lang/String;I)C"), (0, .methodref 46 52), (0, .nameAndType 53 54), (0, u "mk"), (0, u "([CI)Ljava/lang/String;"), (0, .methodref 24 56), (0, .nameAndType 57 58), (0, u "fromLabel"), (0, u "(Ljava/lang/String;)Ljava/util/Optional;"), (0, .methodref 60 61), (0, .class_ 62), (0, .nameAndType 63 64), (0, u "java/util/Optional"), (0, u "isPresent"), (0, u "()Z"), (0, .methodref 60 66), (0, .nameAndType 67 68), (0, u "get"), (0, u "()Ljava/lang/Object;"), (3, u "law"), (0, u "(IIII)Z")] 4

def k1m0 : Method := { name := "<init>", desc := "()V", sig := { parameters := [], returnType := none }, accessFlags := 1, code := none }
def k1c1 : Code := { maxStack := 2, maxLocals := 2, code := method_2_code, exceptionTable := #[], attributes := #[] }
def k1m1 : Method := { name := "at", desc := "(Ljava/lang/String;I)C", sig := { parameters := [(.object "java/lang/String"), .int], returnType := some .char }, accessFlags := 10, code := some k1c1 }
def k1c2 : Code := { maxStack := 7, maxLocals := 2, code := method_3_code, exceptionTable := #[], attributes := #[] }
def k1m2 : Method := { name := "mk", desc := "([CI)Ljava/lang/String;", sig := { parameters := [(.array .char), .int], returnType := some (.object "java/lang/String") }, accessFlags := 10, code := some k1c2 }
def k1c3 : Code := { maxStack := 4, maxLocals := 16, code := code, exceptionTable := #[], attributes := #[] }
def k1m3 : Method := { name := "law", desc := "(IIII)Z", sig := { parameters := [.int, .int, .int, .int], returnType := some .boolean }, accessFlags := 9, code := some k1c3 }
/-- com/example/neti/neti/model/SpaceRoleFromLabelPinLaw -/
def k1 : Class := { plain "com/example/neti/neti/model/SpaceRoleFromLabelPinLaw" (some 0) with
  accessFlags := 49
  interfaces := #[]
  cf := some (fileOf pool1 46 #[] #[{ accessFlags := 1, nameIndex := 5, descriptorIndex := 6, attributes := #[] }, { accessFlags := 10, nameIndex := 49, descriptorIndex := 50, attributes := #[] }, { accessFlags := 10, nameIndex := 53, descriptorIndex := 54, attributes := #[] }, { accessFlags := 9, nameIndex := 72, descriptorIndex := 73, attributes := #[] }] 49 2 #[] #[])
  fields := #[]
  methods := #[k1m0, k1m1, k1m2, k1m3]
  instanceTypes := #[]
  staticTypes := #[]
  resolved := Array.replicate 78 none
  statics := none }

def pool2 : Array CpInfo := pool [(1, .class_ 2), (0, u "java/io/Serializable"), (0, .class_ 4), (0, u "java/lang/Object")] 2

/-- java/io/Serializable -/
def k2 : Class := { plain "java/io/Serializable" (some 0) with
  accessFlags := 1537
  interfaces := #[]
  cf := some (fileOf pool2 1 #[] #[] 1537 3 #[] #[])
  fields := #[]
  methods := #[]
  instanceTypes := #[]
  staticTypes := #[]
  resolved := Array.replicate 7 none
  statics := none }

def pool3 : Array CpInfo := pool [(1, .class_ 2), (0, u "java/lang/Comparable"), (0, .class_ 4), (0, u "java/lang/Object")] 7

/-- java/lang/Comparable -/
def k3 : Class := { plain "java/lang/Comparable" (some 0) with
  accessFlags := 1537
  interfaces := #[]
  cf := some (fileOf pool3 1 #[] #[] 1537 3 #[] #[])
  fields := #[]
  methods := #[]
  instanceTypes := #[]
  staticTypes := #[]
  resolved := Array.replicate 12 none
  statics := none }

def pool4 : Array CpInfo := pool [(2, .class_ 4), (1, u "java/lang/CharSequence"), (42, .class_ 48), (0, u "java/lang/CharSequence$1CodePointIterator"), (10, .class_ 60), (0, u "java/lang/CharSequence$1CharIterator"), (5, .class_ 67), (0, u "java/lang/Object")] 63

/-- java/lang/CharSequence -/
def k4 : Class := { plain "java/lang/CharSequence" (some 0) with
  accessFlags := 1537
  interfaces := #[]
  cf := some (fileOf pool4 2 #[.nestMembers #[47, 59]] #[] 1537 66 #[] #[])
  fields := #[]
  methods := #[]
  instanceTypes := #[]
  staticTypes := #[]
  resolved := Array.replicate 131 none
  statics := none }

def pool5 : Array CpInfo := pool [(1, .class_ 2), (0, u "java/lang/constant/Constable"), (0, .class_ 4), (0, u "java/lang/Object")] 6

/-- java/lang/constant/Constable -/
def k5 : Class := { plain "java/lang/constant/Constable" (some 0) with
  accessFlags := 1537
  interfaces := #[]
  cf := some (fileOf pool5 1 #[] #[] 1537 3 #[] #[])
  fields := #[]
  methods := #[]
  instanceTypes := #[]
  staticTypes := #[]
  resolved := Array.replicate 11 none
  statics := none }

def pool6 : Array CpInfo := pool [(1, .class_ 2), (0, u "java/lang/constant/ConstantDesc"), (0, .class_ 4), (0, u "java/lang/Object")] 32

/-- java/lang/constant/ConstantDesc -/
def k6 : Class := { plain "java/lang/constant/ConstantDesc" (some 0) with
  accessFlags := 1537
  interfaces := #[]
  cf := some (fileOf pool6 1 #[] #[] 1537 3 #[] #[])
  fields := #[]
  methods := #[]
  instanceTypes := #[]
  staticTypes := #[]
  resolved := Array.replicate 37 none
  statics := none }

def pool7 : Array CpInfo := pool [(1, .methodref 2 3), (0, .class_ 4), (0, .nameAndType 5 6), (0, u "java/lang/Object"), (0, u "<init>"), (0, u "()V"), (0, .string 8), (0, u ""), (0, .fieldref 10 11), (0, .class_ 12), (0, .nameAndType 13 14), (0, u "java/lang/String"), (0, u "value"), (0, u "[B"), (0, .fieldref 10 16), (0, .nameAndType 17 18), (0, u "coder"), (0, u "B"), (2, u "hash"), (0, u "I"), (2, u "hashIsZero"), (0, u "Z"), (0, .methodref 10 28), (0, .nameAndType 5 29), (0, u "([CIILjava/lang/Void;)V"), (8, .fieldref 10 39), (0, .nameAndType 40 26), (0, u "COMPACT_STRINGS"), (1, .class_ 44), (1, u "java/lang/StringUTF16"), (0, u "compress"), (1, .methodref 42 48), (0, .nameAndType 49 50), (0, u "coderFromArrayLen"), (0, u "([BI)B"), (56, .class_ 109), (1, u "java/lang/StringLatin1"), (32, u "()Z"), (34, .methodref 42 178), (0, .nameAndType 45 179), (0, u "([CII)[B"), (154, u "()I"), (0, .methodref 10 336), (0, .nameAndType 17 337), (0, u "()B"), (25, u "([BI)C"), (27, u "(II)V"), (35, u "(I)C"), (64, .methodref 10 493), (0, .nameAndType 494 142), (0, u "isLatin1"), (0, .methodref 107 496), (0, .nameAndType 497 363), (0, u "charAt"), (3, u "checkIndex"), (5, u "length"), (33, .methodref 107 542), (0, .nameAndType 543 544), (0, u "equals"), (0, u "([B[B)Z"), (28, u "(Ljava/lang/Object;)Z"), (1, .class_ 576), (0, u "java/lang/CharSequence"), (22, u "CASE_INSENSITIVE_ORDER"), (0, u "Ljava/util/Comparator;"), (409, u "([C)V"), (42, .fieldref 1054 1055), (0, .class_ 1056), (0, .nameAndType 1057 1058), (0, u "jdk/internal/util/Preconditions"), (0, u "SIOOBE_FORMATTER"), (0, u "Ljava/util/function/BiFunction;"), (0, .methodref 1054 1060), (0, .nameAndType 501 1061), (0, u "(IILjava/util/function/BiFunction;)I"), (39, u "serialPersistentFields"), (0, u "[Ljava/io/ObjectStreamField;"), (0, .class_ 1104), (0, u "java/lang/String$CaseInsensitiveComparator"), (1, .class_ 1107), (0, u "java/io/Serializable"), (0, .class_ 1109), (0, u "java/lang/Comparable"), (0, .class_ 1111), (0, u "java/lang/constant/Constable"), (0, .class_ 1113), (0, u "java/lang/constant/ConstantDesc"), (2, u "serialVersionUID"), (0, u "J"), (3, u "REPL"), (0, u "C"), (2, u "LATIN1"), (1, u "UTF16")] 323

def k7m0 : Method := { name := "<init>", desc := "()V", sig := { parameters := [], returnType := none }, accessFlags := 1, code := none }
def k7c1 : Code := { maxStack := 5, maxLocals := 2, code := jdk_42_method_3_code, exceptionTable := #[], attributes := #[] }
def k7m1 : Method := { name := "<init>", desc := "([C)V", sig := { parameters := [(.array .char)], returnType := none }, accessFlags := 1, code := some k7c1 }
def k7c2 : Code := { maxStack := 2, maxLocals := 1, code := jdk_42_method_54_code, exceptionTable := #[], attributes := #[] }
def k7m2 : Method := { name := "length", desc := "()I", sig := { parameters := [], returnType := some .int }, accessFlags := 1, code := some k7c2 }
def k7c3 : Code := { maxStack := 2, maxLocals := 2, code := jdk_42_method_56_code, exceptionTable := #[], attributes := #[] }
def k7m3 : Method := { name := "charAt", desc := "(I)C", sig := { parameters := [.int], returnType := some .char }, accessFlags := 1, code := some k7c3 }
def k7c4 : Code := { maxStack := 2, maxLocals := 3, code := jdk_42_method_66_code, exceptionTable := #[], attributes := #[] }
def k7m4 : Method := { name := "equals", desc := "(Ljava/lang/Object;)Z", sig := { parameters := [(.object "java/lang/Object")], returnType := some .boolean }, accessFlags := 1, code := some k7c4 }
def k7c5 : Code := { maxStack := 4, maxLocals := 6, code := jdk_42_method_149_code, exceptionTable := #[], attributes := #[] }
def k7m5 : Method := { name := "<init>", desc := "([CIILjava/lang/Void;)V", sig := { parameters := [(.array .char), .int, .int, (.object "java/lang/Void")], returnType := none }, accessFlags := 2, code := some k7c5 }
def k7c6 : Code := { maxStack := 1, maxLocals := 1, code := jdk_42_method_152_code, exceptionTable := #[], attributes := #[] }
def k7m6 : Method := { name := "coder", desc := "()B", sig := { parameters := [], returnType := some .byte }, accessFlags := 0, code := some k7c6 }
def k7c7 : Code := { maxStack := 1, maxLocals := 1, code := jdk_42_method_154_code, exceptionTable := #[], attributes := #[] }
def k7m7 : Method := { name := "isLatin1", desc := "()Z", sig := { parameters := [], returnType := some .boolean }, accessFlags := 0, code := some k7c7 }
def k7c8 : Code := { maxStack := 3, maxLocals := 2, code := jdk_42_method_155_code, exceptionTable := #[], attributes := #[] }
def k7m8 : Method := { name := "checkIndex", desc := "(II)V", sig := { parameters := [.int, .int], returnType := none }, accessFlags := 8, code := some k7c8 }
/-- java/lang/String -/
def k7 : Class := { plain "java/lang/String" (some 0) with
  accessFlags := 49
  interfaces := #[2, 3, 4, 5, 6]
  cf := some (fileOf pool7 10 #[.nestMembers #[1103]] #[{ accessFlags := 1, nameIndex := 5, descriptorIndex := 6, attributes := #[] }, { accessFlags := 1, nameIndex := 5, descriptorIndex := 1010, attributes := #[] }, { accessFlags := 1, nameIndex := 507, descriptorIndex := 334, attributes := #[] }, { accessFlags := 1, nameIndex := 497, descriptorIndex := 427, attributes := #[] }, { accessFlags := 1, nameIndex := 543, descriptorIndex := 573, attributes := #[] }, { accessFlags := 2, nameIndex := 5, descriptorIndex := 29, attributes := #[] }, { accessFlags := 0, nameIndex := 17, descriptorIndex := 337, attributes := #[] }, { accessFlags := 0, nameIndex := 494, descriptorIndex := 142, attributes := #[] }, { accessFlags := 8, nameIndex := 501, descriptorIndex := 391, attributes := #[] }] 49 2 #[1106, 1108, 575, 1110, 1112] #[{ accessFlags := 18, nameIndex := 13, descriptorIndex := 14, attributes := #[] }, { accessFlags := 18, nameIndex := 17, descriptorIndex := 18, attributes := #[] }, { accessFlags := 2, nameIndex := 21, descriptorIndex := 22, attributes := #[] }, { accessFlags := 2, nameIndex := 25, descriptorIndex := 26, attributes := #[] }, { accessFlags := 26, nameIndex := 1116, descriptorIndex := 1117, attributes := #[] }, { accessFlags := 24, nameIndex := 40, descriptorIndex := 26, attributes := #[] }, { accessFlags := 26, nameIndex := 1101, descriptorIndex := 1102, attributes := #[] }, { accessFlags := 26, nameIndex := 1121, descriptorIndex := 1122, attributes := #[] }, { accessFlags := 25, nameIndex := 599, descriptorIndex := 600, attributes := #[] }, { accessFlags := 24, nameIndex := 1125, descriptorIndex := 18, attributes := #[] }, { accessFlags := 24, nameIndex := 1127, descriptorIndex := 18, attributes := #[] }])
  fields := #[{ name := "value", type := (.array .byte), accessFlags := 18, slot := 0, constantValue := 0 }, { name := "coder", type := .byte, accessFlags := 18, slot := 1, constantValue := 0 }, { name := "hash", type := .int, accessFlags := 2, slot := 2, constantValue := 0 }, { name := "hashIsZero", type := .boolean, accessFlags := 2, slot := 3, constantValue := 0 }, { name := "serialVersionUID", type := .long, accessFlags := 26, slot := 0, constantValue := 0 }, { name := "COMPACT_STRINGS", type := .boolean, accessFlags := 24, slot := 1, constantValue := 0 }, { name := "serialPersistentFields", type := (.array (.object "java/io/ObjectStreamField")), accessFlags := 26, slot := 2, constantValue := 0 }, { name := "REPL", type := .char, accessFlags := 26, slot := 3, constantValue := 0 }, { name := "CASE_INSENSITIVE_ORDER", type := (.object "java/util/Comparator"), accessFlags := 25, slot := 4, constantValue := 0 }, { name := "LATIN1", type := .byte, accessFlags := 24, slot := 5, constantValue := 0 }, { name := "UTF16", type := .byte, accessFlags := 24, slot := 6, constantValue := 0 }]
  methods := #[k7m0, k7m1, k7m2, k7m3, k7m4, k7m5, k7m6, k7m7, k7m8]
  instanceTypes := #[(.array .byte), .byte, .int, .boolean]
  staticTypes := #[.long, .boolean, (.array (.object "java/io/ObjectStreamField")), .char, (.object "java/util/Comparator"), .byte, .byte]
  resolved := Array.replicate 1451 none
  statics := some 0 }

def pool8 : Array CpInfo := pool [(2, .class_ 4), (1, u "java/lang/Enum"), (0, u "name"), (0, u "Ljava/lang/String;"), (2, u "ordinal"), (0, u "I"), (1, .class_ 14), (1, u "java/lang/Object"), (4, u "hash"), (86, .class_ 108), (1, u "java/lang/Enum$EnumDesc"), (2, .class_ 112), (0, u "java/lang/constant/Constable"), (0, .class_ 114), (0, u "java/lang/Comparable"), (0, .class_ 116), (0, u "java/io/Serializable")] 87

/-- java/lang/Enum -/
def k8 : Class := { plain "java/lang/Enum" (some 0) with
  accessFlags := 1057
  interfaces := #[5, 3, 2]
  cf := some (fileOf pool8 2 #[.nestMembers #[106]] #[] 1057 12 #[111, 113, 115] #[{ accessFlags := 18, nameIndex := 5, descriptorIndex := 6, attributes := #[] }, { accessFlags := 18, nameIndex := 9, descriptorIndex := 10, attributes := #[] }, { accessFlags := 2, nameIndex := 19, descriptorIndex := 10, attributes := #[] }])
  fields := #[{ name := "name", type := (.object "java/lang/String"), accessFlags := 18, slot := 0, constantValue := 0 }, { name := "ordinal", type := .int, accessFlags := 18, slot := 1, constantValue := 0 }, { name := "hash", type := .int, accessFlags := 2, slot := 2, constantValue := 0 }]
  methods := #[]
  instanceTypes := #[(.object "java/lang/String"), .int, .int]
  staticTypes := #[]
  resolved := Array.replicate 204 none
  statics := none }

def pool9 : Array CpInfo := pool [(1, .class_ 2), (0, u "com/example/neti/neti/model/SpaceRole"), (2, u "OBSERVER"), (0, u "Lcom/example/neti/neti/model/SpaceRole;"), (2, u "USER"), (2, u "POWER_USER"), (2, u "ADMIN"), (0, .fieldref 1 17), (0, .nameAndType 18 19), (0, u "$VALUES"), (0, u "[Lcom/example/neti/neti/model/SpaceRole;"), (0, .methodref 21 22), (0, .class_ 19), (0, .nameAndType 23 24), (0, u "clone"), (0, u "()Ljava/lang/Object;"), (1, .class_ 28), (1, u "java/lang/Enum"), (6, .fieldref 1 36), (0, .nameAndType 37 38), (0, u "label"), (0, u "Ljava/lang/String;"), (4, u "of"), (3, u "onSpace"), (0, u "Lcom/example/neti/neti/model/Permission;"), (2, u "onInstance"), (0, .methodref 1 53), (0, .nameAndType 54 55), (0, u "values"), (0, u "()[Lcom/example/neti/neti/model/SpaceRole;"), (0, .methodref 57 58), (0, .class_ 59), (0, .nameAndType 60 61), (0, u "java/lang/String"), (0, u "equals"), (0, u "(Ljava/lang/Object;)Z"), (0, .methodref 63 64), (0, .class_ 65), (0, .nameAndType 43 66), (0, u "java/util/Optional"), (0, u "(Ljava/lang/Object;)Ljava/util/Optional;"), (0, .methodref 63 68), (0, .nameAndType 69 70), (0, u "empty"), (0, u "()Ljava/util/Optional;"), (28, u "fromLabel"), (0, u "(Ljava/lang/String;)Ljava/util/Optional;")] 9

def k9c0 : Code := { maxStack := 1, maxLocals := 0, code := prog_51_method_1_code, exceptionTable := #[], attributes := #[] }
def k9m0 : Method := { name := "values", desc := "()[Lcom/example/neti/neti/model/SpaceRole;", sig := { parameters := [], returnType := some (.array (.object "com/example/neti/neti/model/SpaceRole")) }, accessFlags := 9, code := some k9c0 }
def k9c1 : Code := { maxStack := 2, maxLocals := 5, code := prog_51_method_4_code, exceptionTable := #[], attributes := #[] }
def k9m1 : Method := { name := "fromLabel", desc := "(Ljava/lang/String;)Ljava/util/Optional;", sig := { parameters := [(.object "java/lang/String")], returnType := some (.object "java/util/Optional") }, accessFlags := 9, code := some k9c1 }
/-- com/example/neti/neti/model/SpaceRole -/
def k9 : Class := { plain "com/example/neti/neti/model/SpaceRole" (some 8) with
  accessFlags := 16433
  interfaces := #[]
  cf := some (fileOf pool9 1 #[] #[{ accessFlags := 9, nameIndex := 54, descriptorIndex := 55, attributes := #[] }, { accessFlags := 9, nameIndex := 99, descriptorIndex := 100, attributes := #[] }] 16433 26 #[] #[{ accessFlags := 16409, nameIndex := 5, descriptorIndex := 6, attributes := #[] }, { accessFlags := 16409, nameIndex := 9, descriptorIndex := 6, attributes := #[] }, { accessFlags := 16409, nameIndex := 12, descriptorIndex := 6, attributes := #[] }, { accessFlags := 16409, nameIndex := 15, descriptorIndex := 6, attributes := #[] }, { accessFlags := 18, nameIndex := 37, descriptorIndex := 38, attributes := #[] }, { accessFlags := 18, nameIndex := 47, descriptorIndex := 48, attributes := #[] }, { accessFlags := 18, nameIndex := 51, descriptorIndex := 48, attributes := #[] }, { accessFlags := 4122, nameIndex := 18, descriptorIndex := 19, attributes := #[] }])
  fields := #[{ name := "OBSERVER", type := (.object "com/example/neti/neti/model/SpaceRole"), accessFlags := 16409, slot := 0, constantValue := 0 }, { name := "USER", type := (.object "com/example/neti/neti/model/SpaceRole"), accessFlags := 16409, slot := 1, constantValue := 0 }, { name := "POWER_USER", type := (.object "com/example/neti/neti/model/SpaceRole"), accessFlags := 16409, slot := 2, constantValue := 0 }, { name := "ADMIN", type := (.object "com/example/neti/neti/model/SpaceRole"), accessFlags := 16409, slot := 3, constantValue := 0 }, { name := "label", type := (.object "java/lang/String"), accessFlags := 18, slot := 3, constantValue := 0 }, { name := "onSpace", type := (.object "com/example/neti/neti/model/Permission"), accessFlags := 18, slot := 4, constantValue := 0 }, { name := "onInstance", type := (.object "com/example/neti/neti/model/Permission"), accessFlags := 18, slot := 5, constantValue := 0 }, { name := "$VALUES", type := (.array (.object "com/example/neti/neti/model/SpaceRole")), accessFlags := 4122, slot := 4, constantValue := 0 }]
  methods := #[k9m0, k9m1]
  instanceTypes := #[(.object "java/lang/String"), .int, .int, (.object "java/lang/String"), (.object "com/example/neti/neti/model/Permission"), (.object "com/example/neti/neti/model/Permission")]
  staticTypes := #[(.object "com/example/neti/neti/model/SpaceRole"), (.object "com/example/neti/neti/model/SpaceRole"), (.object "com/example/neti/neti/model/SpaceRole"), (.object "com/example/neti/neti/model/SpaceRole"), (.array (.object "com/example/neti/neti/model/SpaceRole"))]
  resolved := Array.replicate 110 none
  statics := some 1 }

def pool10 : Array CpInfo := pool [(1, .class_ 2), (0, u "java/lang/String"), (1, .class_ 6), (1, u "java/lang/Object"), (0, u "<init>"), (0, u "()V"), (0, .methodref 1 10), (0, .nameAndType 11 12), (0, u "checkIndex"), (0, u "(II)V"), (1, .class_ 16), (1, u "java/lang/StringLatin1"), (36, u "([BI)C"), (67, u "$assertionsDisabled"), (0, u "Z"), (98, .class_ 223), (1, u "java/lang/StringLatin1$LinesSpliterator"), (28, u "charAt"), (28, u "equals"), (0, u "([B[B)Z"), (107, .class_ 391), (0, u "java/lang/StringLatin1$CharsSpliterator")] 3

def k10m0 : Method := { name := "<init>", desc := "()V", sig := { parameters := [], returnType := none }, accessFlags := 0, code := none }
def k10c1 : Code := { maxStack := 2, maxLocals := 2, code := jdk_43_method_2_code, exceptionTable := #[], attributes := #[] }
def k10m1 : Method := { name := "charAt", desc := "([BI)C", sig := { parameters := [(.array .byte), .int], returnType := some .char }, accessFlags := 9, code := some k10c1 }
def k10c2 : Code := { maxStack := 3, maxLocals := 3, code := jdk_43_method_13_code, exceptionTable := #[], attributes := #[] }
def k10m2 : Method := { name := "equals", desc := "([B[B)Z", sig := { parameters := [(.array .byte), (.array .byte)], returnType := some .boolean }, accessFlags := 9, code := some k10c2 }
/-- java/lang/StringLatin1 -/
def k10 : Class := { plain "java/lang/StringLatin1" (some 0) with
  accessFlags := 48
  interfaces := #[]
  cf := some (fileOf pool10 14 #[.nestMembers #[390, 221]] #[{ accessFlags := 0, nameIndex := 7, descriptorIndex := 8, attributes := #[] }, { accessFlags := 9, nameIndex := 252, descriptorIndex := 53, attributes := #[] }, { accessFlags := 9, nameIndex := 281, descriptorIndex := 282, attributes := #[] }] 48 4 #[] #[{ accessFlags := 4120, nameIndex := 121, descriptorIndex := 122, attributes := #[] }])
  fields := #[{ name := "$assertionsDisabled", type := .boolean, accessFlags := 4120, slot := 0, constantValue := 0 }]
  methods := #[k10m0, k10m1, k10m2]
  instanceTypes := #[]
  staticTypes := #[.boolean]
  resolved := Array.replicate 395 none
  statics := none }

def pool11 : Array CpInfo := pool [(2, .class_ 4), (1, u "java/lang/Object"), (0, u "<init>"), (0, u "()V"), (17, .class_ 26), (1, u "jdk/internal/util/Preconditions"), (6, u "checkIndex"), (21, .class_ 56), (0, u "jdk/internal/util/Preconditions$4"), (57, .class_ 115), (0, u "jdk/internal/util/Preconditions$1"), (7, u "SIOOBE_FORMATTER"), (0, u "Ljava/util/function/BiFunction;"), (0, .class_ 126), (0, u "jdk/internal/util/Preconditions$2"), (3, u "AIOOBE_FORMATTER"), (0, .class_ 132), (0, u "jdk/internal/util/Preconditions$3"), (3, u "IOOBE_FORMATTER"), (41, u "(IILjava/util/function/BiFunction;)I")] 15

def k11m0 : Method := { name := "<init>", desc := "()V", sig := { parameters := [], returnType := none }, accessFlags := 1, code := none }
def k11c1 : Code := { maxStack := 3, maxLocals := 3, code := jdk_41_method_11_code, exceptionTable := #[], attributes := #[] }
def k11m1 : Method := { name := "checkIndex", desc := "(IILjava/util/function/BiFunction;)I", sig := { parameters := [.int, .int, (.object "java/util/function/BiFunction")], returnType := some .int }, accessFlags := 9, code := some k11c1 }
/-- jdk/internal/util/Preconditions -/
def k11 : Class := { plain "jdk/internal/util/Preconditions" (some 0) with
  accessFlags := 33
  interfaces := #[]
  cf := some (fileOf pool11 24 #[.nestMembers #[55, 131, 125, 114]] #[{ accessFlags := 1, nameIndex := 5, descriptorIndex := 6, attributes := #[] }, { accessFlags := 9, nameIndex := 33, descriptorIndex := 178, attributes := #[] }] 33 2 #[] #[{ accessFlags := 25, nameIndex := 123, descriptorIndex := 124, attributes := #[] }, { accessFlags := 25, nameIndex := 130, descriptorIndex := 124, attributes := #[] }, { accessFlags := 25, nameIndex := 136, descriptorIndex := 124, attributes := #[] }])
  fields := #[{ name := "SIOOBE_FORMATTER", type := (.object "java/util/function/BiFunction"), accessFlags := 25, slot := 0, constantValue := 0 }, { name := "AIOOBE_FORMATTER", type := (.object "java/util/function/BiFunction"), accessFlags := 25, slot := 1, constantValue := 0 }, { name := "IOOBE_FORMATTER", type := (.object "java/util/function/BiFunction"), accessFlags := 25, slot := 2, constantValue := 0 }]
  methods := #[k11m0, k11m1]
  instanceTypes := #[]
  staticTypes := #[(.object "java/util/function/BiFunction"), (.object "java/util/function/BiFunction"), (.object "java/util/function/BiFunction")]
  resolved := Array.replicate 194 none
  statics := some 2 }

def pool12 : Array CpInfo := pool [(6, .class_ 8), (1, u "java/lang/Object"), (0, u "<init>"), (0, u "()V"), (0, .methodref 12 13), (0, .class_ 14), (0, .nameAndType 15 16), (0, u "java/lang/StringUTF16"), (0, u "newBytesLength"), (0, u "(I)I"), (3, .integer 1073741823), (23, .fieldref 12 45), (0, .nameAndType 46 47), (0, u "$assertionsDisabled"), (0, u "Z"), (11, .fieldref 12 60), (0, .nameAndType 61 62), (0, u "HI_BYTE_SHIFT"), (0, u "I"), (0, .fieldref 12 64), (0, .nameAndType 65 62), (0, u "LO_BYTE_SHIFT"), (5, .methodref 12 72), (0, .nameAndType 73 74), (0, u "getChar"), (0, u "([BI)C"), (32, .methodref 12 108), (0, .nameAndType 109 110), (0, u "newBytesFor"), (0, u "(I)[B"), (0, .methodref 12 112), (0, .nameAndType 113 114), (0, u "putChar"), (0, u "([BII)V"), (0, .methodref 12 116), (0, .nameAndType 117 118), (0, u "compress"), (0, u "([CI[BII)I"), (0, .methodref 12 120), (0, .nameAndType 121 122), (0, u "toBytes"), (0, u "([CII)[B"), (138, u "coderFromArrayLen"), (0, u "([BI)B"), (106, .class_ 371), (1, u "java/lang/StringUTF16$LinesSpliterator"), (58, u "MAX_LENGTH"), (196, .class_ 628), (0, u "java/lang/StringUTF16$CodePointsSpliterator"), (0, .class_ 630), (0, u "java/lang/StringUTF16$CharsSpliterator")] 4

def k12m0 : Method := { name := "<init>", desc := "()V", sig := { parameters := [], returnType := none }, accessFlags := 0, code := none }
def k12c1 : Code := { maxStack := 1, maxLocals := 1, code := jdk_52_method_2_code, exceptionTable := #[], attributes := #[] }
def k12m1 : Method := { name := "newBytesFor", desc := "(I)[B", sig := { parameters := [.int], returnType := some (.array .byte) }, accessFlags := 9, code := some k12c1 }
def k12c2 : Code := { maxStack := 4, maxLocals := 1, code := jdk_52_method_3_code, exceptionTable := #[], attributes := #[] }
def k12m2 : Method := { name := "newBytesLength", desc := "(I)I", sig := { parameters := [.int], returnType := some .int }, accessFlags := 9, code := some k12c2 }
def k12c3 : Code := { maxStack := 4, maxLocals := 3, code := jdk_52_method_4_code, exceptionTable := #[], attributes := #[] }
def k12m3 : Method := { name := "putChar", desc := "([BII)V", sig := { parameters := [(.array .byte), .int, .int], returnType := none }, accessFlags := 8, code := some k12c3 }
def k12c4 : Code := { maxStack := 3, maxLocals := 2, code := jdk_52_method_5_code, exceptionTable := #[], attributes := #[] }
def k12m4 : Method := { name := "getChar", desc := "([BI)C", sig := { parameters := [(.array .byte), .int], returnType := some .char }, accessFlags := 8, code := some k12c4 }
def k12c5 : Code := { maxStack := 4, maxLocals := 5, code := jdk_52_method_14_code, exceptionTable := #[], attributes := #[] }
def k12m5 : Method := { name := "toBytes", desc := "([CII)[B", sig := { parameters := [(.array .char), .int, .int], returnType := some (.array .byte) }, accessFlags := 9, code := some k12c5 }
def k12c6 : Code := { maxStack := 2, maxLocals := 2, code := jdk_52_method_15_code, exceptionTable := #[], attributes := #[] }
def k12m6 : Method := { name := "coderFromArrayLen", desc := "([BI)B", sig := { parameters := [(.array .byte), .int], returnType := some .byte }, accessFlags := 8, code := some k12c6 }
def k12c7 : Code := { maxStack := 5, maxLocals := 6, code := jdk_52_method_16_code, exceptionTable := #[], attributes := #[] }
def k12m7 : Method := { name := "compress", desc := "([CII)[B", sig := { parameters := [(.array .char), .int, .int], returnType := some (.array .byte) }, accessFlags := 9, code := some k12c7 }
def k12c8 : Code := { maxStack := 3, maxLocals := 7, code := jdk_52_method_21_code, exceptionTable := #[], attributes := #[] }
def k12m8 : Method := { name := "compress", desc := "([CI[BII)I", sig := { parameters := [(.array .char), .int, (.array .byte), .int, .int], returnType := some .int }, accessFlags := 9, code := some k12c8 }
/-- java/lang/StringUTF16 -/
def k12 : Class := { plain "java/lang/StringUTF16" (some 0) with
  accessFlags := 48
  interfaces := #[]
  cf := some (fileOf pool12 12 #[.nestMembers #[627, 629, 369]] #[{ accessFlags := 0, nameIndex := 9, descriptorIndex := 10, attributes := #[] }, { accessFlags := 9, nameIndex := 109, descriptorIndex := 110, attributes := #[] }, { accessFlags := 9, nameIndex := 15, descriptorIndex := 16, attributes := #[] }, { accessFlags := 8, nameIndex := 113, descriptorIndex := 114, attributes := #[] }, { accessFlags := 8, nameIndex := 73, descriptorIndex := 74, attributes := #[] }, { accessFlags := 9, nameIndex := 121, descriptorIndex := 122, attributes := #[] }, { accessFlags := 8, nameIndex := 261, descriptorIndex := 262, attributes := #[] }, { accessFlags := 9, nameIndex := 117, descriptorIndex := 122, attributes := #[] }, { accessFlags := 9, nameIndex := 117, descriptorIndex := 118, attributes := #[] }] 48 6 #[] #[{ accessFlags := 26, nameIndex := 61, descriptorIndex := 62, attributes := #[] }, { accessFlags := 26, nameIndex := 65, descriptorIndex := 62, attributes := #[] }, { accessFlags := 24, nameIndex := 430, descriptorIndex := 62, attributes := #[] }, { accessFlags := 4120, nameIndex := 46, descriptorIndex := 47, attributes := #[] }])
  fields := #[{ name := "HI_BYTE_SHIFT", type := .int, accessFlags := 26, slot := 0, constantValue := 0 }, { name := "LO_BYTE_SHIFT", type := .int, accessFlags := 26, slot := 1, constantValue := 0 }, { name := "MAX_LENGTH", type := .int, accessFlags := 24, slot := 2, constantValue := 0 }, { name := "$assertionsDisabled", type := .boolean, accessFlags := 4120, slot := 3, constantValue := 0 }]
  methods := #[k12m0, k12m1, k12m2, k12m3, k12m4, k12m5, k12m6, k12m7, k12m8]
  instanceTypes := #[]
  staticTypes := #[.int, .int, .int, .boolean]
  resolved := Array.replicate 635 none
  statics := some 3 }

def pool13 : Array CpInfo := pool [(1, .class_ 2), (0, u "java/lang/Cloneable"), (0, .class_ 4), (0, u "java/lang/Object")] 2

/-- java/lang/Cloneable -/
def k13 : Class := { plain "java/lang/Cloneable" (some 0) with
  accessFlags := 1537
  interfaces := #[]
  cf := some (fileOf pool13 1 #[] #[] 1537 3 #[] #[])
  fields := #[]
  methods := #[]
  instanceTypes := #[]
  staticTypes := #[]
  resolved := Array.replicate 7 none
  statics := none }

def pool14 : Array CpInfo := pool [(1, .fieldref 2 3), (0, .class_ 4), (0, .nameAndType 5 6), (0, u "java/util/Optional"), (0, u "EMPTY"), (0, u "Ljava/util/Optional;"), (0, .methodref 8 9), (0, .class_ 10), (0, .nameAndType 11 12), (0, u "java/lang/Object"), (0, u "<init>"), (0, u "()V"), (0, .fieldref 2 14), (0, .nameAndType 15 16), (0, u "value"), (0, u "Ljava/lang/Object;"), (0, .methodref 18 19), (0, .class_ 20), (0, .nameAndType 21 22), (0, u "java/util/Objects"), (0, u "requireNonNull"), (0, u "(Ljava/lang/Object;)Ljava/lang/Object;"), (0, .methodref 2 24), (0, .nameAndType 11 25), (0, u "(Ljava/lang/Object;)V"), (20, u "()Z"), (8, u "empty"), (0, u "()Ljava/util/Optional;"), (8, u "(Ljava/lang/Object;)Ljava/util/Optional;"), (2, u "isPresent"), (4, u "get"), (0, u "()Ljava/lang/Object;"), (7, u "of")] 104

def k14c0 : Code := { maxStack := 1, maxLocals := 1, code := jdk_32_method_1_code, exceptionTable := #[], attributes := #[] }
def k14m0 : Method := { name := "empty", desc := "()Ljava/util/Optional;", sig := { parameters := [], returnType := some (.object "java/util/Optional") }, accessFlags := 9, code := some k14c0 }
def k14c1 : Code := { maxStack := 2, maxLocals := 2, code := jdk_32_method_2_code, exceptionTable := #[], attributes := #[] }
def k14m1 : Method := { name := "<init>", desc := "(Ljava/lang/Object;)V", sig := { parameters := [(.object "java/lang/Object")], returnType := none }, accessFlags := 2, code := some k14c1 }
def k14c2 : Code := { maxStack := 3, maxLocals := 1, code := jdk_32_method_3_code, exceptionTable := #[], attributes := #[] }
def k14m2 : Method := { name := "of", desc := "(Ljava/lang/Object;)Ljava/util/Optional;", sig := { parameters := [(.object "java/lang/Object")], returnType := some (.object "java/util/Optional") }, accessFlags := 9, code := some k14c2 }
def k14c3 : Code := { maxStack := 3, maxLocals := 1, code := jdk_32_method_5_code, exceptionTable := #[], attributes := #[] }
def k14m3 : Method := { name := "get", desc := "()Ljava/lang/Object;", sig := { parameters := [], returnType := some (.object "java/lang/Object") }, accessFlags := 1, code := some k14c3 }
def k14c4 : Code := { maxStack := 1, maxLocals := 1, code := jdk_32_method_6_code, exceptionTable := #[], attributes := #[] }
def k14m4 : Method := { name := "isPresent", desc := "()Z", sig := { parameters := [], returnType := some .boolean }, accessFlags := 1, code := some k14c4 }
/-- java/util/Optional -/
def k14 : Class := { plain "java/util/Optional" (some 0) with
  accessFlags := 49
  interfaces := #[]
  cf := some (fileOf pool14 2 #[] #[{ accessFlags := 9, nameIndex := 55, descriptorIndex := 56, attributes := #[] }, { accessFlags := 2, nameIndex := 11, descriptorIndex := 25, attributes := #[] }, { accessFlags := 9, nameIndex := 82, descriptorIndex := 65, attributes := #[] }, { accessFlags := 1, nameIndex := 73, descriptorIndex := 74, attributes := #[] }, { accessFlags := 1, nameIndex := 68, descriptorIndex := 46, attributes := #[] }] 49 8 #[] #[{ accessFlags := 26, nameIndex := 5, descriptorIndex := 6, attributes := #[] }, { accessFlags := 18, nameIndex := 15, descriptorIndex := 16, attributes := #[] }])
  fields := #[{ name := "EMPTY", type := (.object "java/util/Optional"), accessFlags := 26, slot := 0, constantValue := 0 }, { name := "value", type := (.object "java/lang/Object"), accessFlags := 18, slot := 0, constantValue := 0 }]
  methods := #[k14m0, k14m1, k14m2, k14m3, k14m4]
  instanceTypes := #[(.object "java/lang/Object")]
  staticTypes := #[(.object "java/util/Optional")]
  resolved := Array.replicate 187 none
  statics := some 4 }

def pool15 : Array CpInfo := pool [(2, .class_ 4), (1, u "java/lang/Object"), (0, u "<init>"), (0, u "()V"), (35, .class_ 44), (1, u "java/util/Objects"), (0, u "requireNonNull"), (0, u "(Ljava/lang/Object;)Ljava/lang/Object;")] 137

def k15m0 : Method := { name := "<init>", desc := "()V", sig := { parameters := [], returnType := none }, accessFlags := 2, code := none }
def k15c1 : Code := { maxStack := 2, maxLocals := 1, code := jdk_31_method_10_code, exceptionTable := #[], attributes := #[] }
def k15m1 : Method := { name := "requireNonNull", desc := "(Ljava/lang/Object;)Ljava/lang/Object;", sig := { parameters := [(.object "java/lang/Object")], returnType := some (.object "java/lang/Object") }, accessFlags := 9, code := some k15c1 }
/-- java/util/Objects -/
def k15 : Class := { plain "java/util/Objects" (some 0) with
  accessFlags := 49
  interfaces := #[]
  cf := some (fileOf pool15 42 #[] #[{ accessFlags := 2, nameIndex := 5, descriptorIndex := 6, attributes := #[] }, { accessFlags := 9, nameIndex := 45, descriptorIndex := 46, attributes := #[] }] 49 2 #[] #[])
  fields := #[]
  methods := #[k15m0, k15m1]
  instanceTypes := #[]
  staticTypes := #[]
  resolved := Array.replicate 184 none
  statics := none }

def pool16 : Array CpInfo := pool [(9, u "<init>"), (6, .class_ 18), (1, u "java/lang/Object"), (0, u "()V"), (1, .class_ 23), (1, u "jdk/internal/util/ArraysSupport"), (0, u "LOG2_ARRAY_LONG_INDEX_SCALE"), (0, u "I"), (2, u "U"), (0, u "Ljdk/internal/misc/Unsafe;"), (8, u "BIG_ENDIAN"), (0, u "Z"), (8, u "LOG2_BYTE_BIT_SIZE"), (4, u "LOG2_ARRAY_INT_INDEX_SCALE"), (54, u "JLA"), (0, u "Ljdk/internal/access/JavaLangAccess;"), (11, u "LOG2_ARRAY_BOOLEAN_INDEX_SCALE"), (9, u "LOG2_ARRAY_BYTE_INDEX_SCALE"), (5, u "LOG2_ARRAY_CHAR_INDEX_SCALE"), (5, u "LOG2_ARRAY_SHORT_INDEX_SCALE"), (18, u "LOG2_ARRAY_FLOAT_INDEX_SCALE"), (24, u "LOG2_ARRAY_DOUBLE_INDEX_SCALE"), (89, u "T_BOOLEAN"), (2, u "T_CHAR"), (1, u "T_FLOAT"), (1, u "T_DOUBLE"), (1, u "T_BYTE"), (1, u "T_SHORT"), (1, u "T_INT"), (1, u "T_LONG"), (1, u "SOFT_MAX_ARRAY_LENGTH")] 83

def k16m0 : Method := { name := "<init>", desc := "()V", sig := { parameters := [], returnType := none }, accessFlags := 2, code := none }
/-- jdk/internal/util/ArraysSupport -/
def k16 : Class := { plain "jdk/internal/util/ArraysSupport" (some 0) with
  accessFlags := 33
  interfaces := #[]
  cf := some (fileOf pool16 21 #[] #[{ accessFlags := 2, nameIndex := 9, descriptorIndex := 19, attributes := #[] }] 33 16 #[] #[{ accessFlags := 24, nameIndex := 28, descriptorIndex := 29, attributes := #[] }, { accessFlags := 26, nameIndex := 38, descriptorIndex := 39, attributes := #[] }, { accessFlags := 25, nameIndex := 121, descriptorIndex := 25, attributes := #[] }, { accessFlags := 25, nameIndex := 131, descriptorIndex := 25, attributes := #[] }, { accessFlags := 25, nameIndex := 137, descriptorIndex := 25, attributes := #[] }, { accessFlags := 25, nameIndex := 143, descriptorIndex := 25, attributes := #[] }, { accessFlags := 25, nameIndex := 53, descriptorIndex := 25, attributes := #[] }, { accessFlags := 25, nameIndex := 24, descriptorIndex := 25, attributes := #[] }, { accessFlags := 25, nameIndex := 162, descriptorIndex := 25, attributes := #[] }, { accessFlags := 25, nameIndex := 187, descriptorIndex := 25, attributes := #[] }, { accessFlags := 26, nameIndex := 48, descriptorIndex := 25, attributes := #[] }, { accessFlags := 25, nameIndex := 277, descriptorIndex := 25, attributes := #[] }, { accessFlags := 25, nameIndex := 280, descriptorIndex := 25, attributes := #[] }, { accessFlags := 25, nameIndex := 282, descriptorIndex := 25, attributes := #[] }, { accessFlags := 25, nameIndex := 284, descriptorIndex := 25, attributes := #[] }, { accessFlags := 25, nameIndex := 286, descriptorIndex := 25, attributes := #[] }, { accessFlags := 25, nameIndex := 288, descriptorIndex := 25, attributes := #[] }, { accessFlags := 25, nameIndex := 290, descriptorIndex := 25, attributes := #[] }, { accessFlags := 25, nameIndex := 292, descriptorIndex := 25, attributes := #[] }, { accessFlags := 26, nameIndex := 108, descriptorIndex := 109, attributes := #[] }, { accessFlags := 25, nameIndex := 294, descriptorIndex := 25, attributes := #[] }])
  fields := #[{ name := "U", type := (.object "jdk/internal/misc/Unsafe"), accessFlags := 24, slot := 0, constantValue := 0 }, { name := "BIG_ENDIAN", type := .boolean, accessFlags := 26, slot := 1, constantValue := 0 }, { name := "LOG2_ARRAY_BOOLEAN_INDEX_SCALE", type := .int, accessFlags := 25, slot := 2, constantValue := 0 }, { name := "LOG2_ARRAY_BYTE_INDEX_SCALE", type := .int, accessFlags := 25, slot := 3, constantValue := 0 }, { name := "LOG2_ARRAY_CHAR_INDEX_SCALE", type := .int, accessFlags := 25, slot := 4, constantValue := 0 }, { name := "LOG2_ARRAY_SHORT_INDEX_SCALE", type := .int, accessFlags := 25, slot := 5, constantValue := 0 }, { name := "LOG2_ARRAY_INT_INDEX_SCALE", type := .int, accessFlags := 25, slot := 6, constantValue := 0 }, { name := "LOG2_ARRAY_LONG_INDEX_SCALE", type := .int, accessFlags := 25, slot := 7, constantValue := 0 }, { name := "LOG2_ARRAY_FLOAT_INDEX_SCALE", type := .int, accessFlags := 25, slot := 8, constantValue := 0 }, { name := "LOG2_ARRAY_DOUBLE_INDEX_SCALE", type := .int, accessFlags := 25, slot := 9, constantValue := 0 }, { name := "LOG2_BYTE_BIT_SIZE", type := .int, accessFlags := 26, slot := 10, constantValue := 0 }, { name := "T_BOOLEAN", type := .int, accessFlags := 25, slot := 11, constantValue := 0 }, { name := "T_CHAR", type := .int, accessFlags := 25, slot := 12, constantValue := 0 }, { name := "T_FLOAT", type := .int, accessFlags := 25, slot := 13, constantValue := 0 }, { name := "T_DOUBLE", type := .int, accessFlags := 25, slot := 14, constantValue := 0 }, { name := "T_BYTE", type := .int, accessFlags := 25, slot := 15, constantValue := 0 }, { name := "T_SHORT", type := .int, accessFlags := 25, slot := 16, constantValue := 0 }, { name := "T_INT", type := .int, accessFlags := 25, slot := 17, constantValue := 0 }, { name := "T_LONG", type := .int, accessFlags := 25, slot := 18, constantValue := 0 }, { name := "JLA", type := (.object "jdk/internal/access/JavaLangAccess"), accessFlags := 26, slot := 19, constantValue := 0 }, { name := "SOFT_MAX_ARRAY_LENGTH", type := .int, accessFlags := 25, slot := 20, constantValue := 0 }]
  methods := #[k16m0]
  instanceTypes := #[]
  staticTypes := #[(.object "jdk/internal/misc/Unsafe"), .boolean, .int, .int, .int, .int, .int, .int, .int, .int, .int, .int, .int, .int, .int, .int, .int, .int, .int, (.object "jdk/internal/access/JavaLangAccess"), .int]
  resolved := Array.replicate 378 none
  statics := none }

/-- the primitive byte -/
def k17 : Class := { plain "byte" none with kind := .primitive 'B', accessFlags := 0x411 }
/-- [B -/
def k18 : Class := { plain "[B" (some 0) with kind := .array 17 .byte, interfaces := #[13, 2], accessFlags := 1041 }

/-- the primitive char -/
def k19 : Class := { plain "char" none with kind := .primitive 'C', accessFlags := 0x411 }
/-- [C -/
def k20 : Class := { plain "[C" (some 0) with kind := .array 19 .char, interfaces := #[13, 2], accessFlags := 1041 }

/-- the primitive int -/
def k21 : Class := { plain "int" none with kind := .primitive 'I', accessFlags := 0x411 }
/-- [I -/
def k22 : Class := { plain "[I" (some 0) with kind := .array 21 .int, interfaces := #[13, 2], accessFlags := 1041 }

/-- [Lcom/example/neti/neti/model/SpaceRole; -/
def k23 : Class := { plain "[Lcom/example/neti/neti/model/SpaceRole;" (some 0) with kind := .array 9 (.object "com/example/neti/neti/model/SpaceRole"), interfaces := #[13, 2], accessFlags := 1041 }

def heap : Heap := #[{ cls := 7, slots := #[.long 0, .int 1, .null, .int 0, .null, .int 0, .int 0], vm := .statics 7 },
  { cls := 9, slots := #[.ref 6, .ref 7, .ref 8, .ref 9, .ref 5], vm := .statics 9 },
  { cls := 11, slots := #[.null, .null, .null], vm := .statics 11 },
  { cls := 12, slots := #[.int 0, .int 8, .int 0, .int 1], vm := .statics 12 },
  { cls := 14, slots := #[.ref 18], vm := .statics 14 },
  { cls := 23, slots := #[.ref 6, .ref 7, .ref 8, .ref 9], vm := .none },
  { cls := 9, slots := #[.null, .int 0, .int 0, .ref 10, .null, .null], vm := .none },
  { cls := 9, slots := #[.null, .int 1, .int 0, .ref 11, .null, .null], vm := .none },
  { cls := 9, slots := #[.null, .int 2, .int 0, .ref 12, .null, .null], vm := .none },
  { cls := 9, slots := #[.null, .int 3, .int 0, .ref 13, .null, .null], vm := .none },
  { cls := 7, slots := #[.ref 14, .int 0, .int 0, .int 0], vm := .none },
  { cls := 7, slots := #[.ref 15, .int 0, .int 0, .int 0], vm := .none },
  { cls := 7, slots := #[.ref 16, .int 0, .int 0, .int 0], vm := .none },
  { cls := 7, slots := #[.ref 17, .int 0, .int 0, .int 0], vm := .none },
  { cls := 18, slots := #[.int 111, .int 98, .int 115, .int 101, .int 114, .int 118, .int 101, .int 114], vm := .none },
  { cls := 18, slots := #[.int 117, .int 115, .int 101, .int 114], vm := .none },
  { cls := 18, slots := #[.int 112, .int 111, .int 119, .int 101, .int 114, .int 95, .int 117, .int 115, .int 101, .int 114], vm := .none },
  { cls := 18, slots := #[.int 97, .int 100, .int 109, .int 105, .int 110], vm := .none },
  { cls := 14, slots := #[.null], vm := .none }]
def classes : Array Class := #[k0, k1, k2, k3, k4, k5, k6, k7, k8, k9, k10, k11, k12, k13, k14, k15, k16, k17, k18, k19, k20, k21, k22, k23]
def interned : List (Array UInt16 × Addr) := []
def slotsUsed : Nat := 92
def theMethod : MethodId := ⟨1, 3⟩
def args0 : Array Value := #[.int 5, .int 7, .int 5, .int 1]
def aboutOver (below : List Frame) : State where
  vm := { classes := classes, interned := interned.toArray }
  heap := heap
  slotsUsed := slotsUsed
  threads := #[{ frames := .invoking theMethod args0 :: below }]
def below0 : List Frame := [.native { method := ⟨0, 0⟩, args := #[] }]
def about1 : State := aboutOver below0
def p0 : Program := .bare "" "" ""
def e0 : Env := launch0.env 0 0 0
theorem w_frames : about1.frames = Frame.invoking theMethod args0 :: below0 := rfl
set_option maxRecDepth 65536 in
theorem w_args : argsFit about1.vm theMethod args0 = true := by decide +kernel
set_option maxRecDepth 65536 in
theorem w_heap : heapFits about1 = true := by decide +kernel
set_option maxRecDepth 65536 in
theorem w_runnable : about1.curStatus? = some .runnable := by decide +kernel
set_option maxRecDepth 65536 in
theorem w_alone : about1.alone = true := by decide +kernel
set_option maxRecDepth 65536 in
theorem w_named : about1.methodNamed? x = some theMethod := by decide +kernel
set_option maxRecDepth 65536 in
theorem w_hears : about1.hears theMethod below0 = true := by decide +kernel
set_option maxRecDepth 65536 in
theorem w_ripe : about1.ripe theMethod args0 below0 = true := by decide +kernel
theorem w_running : about1.status = .running := rfl
set_option maxRecDepth 65536 in
theorem w_room : about1.hasRoom e0.platform room_1 = true :=
  launch0.hasRoom_least _ room_1 (by decide +kernel) (by decide +kernel) (by decide +kernel) (by decide +kernel) (by decide +kernel) (by decide +kernel)
theorem allAtoms_all (ts : List Jvm.Cond) (a : Array Jvm.Value) (st : Jvm.State) : (allAtoms ts).before a st = ts.all (fun c => c.before a st) := by
  induction ts with
  | nil => rfl
  | cons c t ih =>
    show (Jvm.Cond.and c (allAtoms t)).before a st = _
    rw [Jvm.Cond.before_and, ih, List.all_cons]
def words1 : List Jvm.Cond := Jvm.Cond.code x code maxLocals ret :: tables_1
/-- a 'code' word, met by the world's own term for the bytes: nothing is compared byte by byte -/
theorem code_word {y : MethodName} {bytes : ByteArray} {mx : Nat} {rt : Option FieldType} {a : Array Value} {s : State} {m : MethodId} {meth : Method} {c : Code} (h1 : s.methodNamed? y = some m) (h2 : s.vm.method? m = some meth) (h3 : meth.code = some c) (h4 : c.code = bytes)
    (h5 : (c.maxLocals == mx && c.exceptionTable.isEmpty && decide (c.maxStack ≤ mostOperands) && decide (meth.sig.returnType = rt) && !meth.locks && decide (parseMethodDescriptor y.desc = some meth.sig)) = true) : (Jvm.Cond.code y bytes mx rt).before a s = true := by
  simp only [Bool.and_eq_true, beq_iff_eq, Bool.not_eq_true', decide_eq_true_eq] at h5
  obtain ⟨⟨⟨⟨⟨g1, g2⟩, g3⟩, g4⟩, g5⟩, g6⟩ := h5
  simp [Cond.before, Cond.holds, Cond.value, h1, h2, h3, h4, g1, g2, g3, g4, g5, g6]
def isCode : Jvm.Cond → Bool
  | .code _ _ _ _ => true
  | _ => false
theorem all_split {L : List Jvm.Cond} {P : Jvm.Cond → Bool} (h1 : L.all (fun c => isCode c || P c) = true) (h2 : ∀ c ∈ L.filter isCode, P c = true) : L.all P = true := by
  refine List.all_eq_true.mpr fun c hc => ?_
  have h := List.all_eq_true.mp h1 c hc
  rcases Bool.eq_false_or_eq_true (isCode c) with hi | hi
  · exact h2 c (List.mem_filter.mpr ⟨hc, hi⟩)
  · simpa [hi] using h
set_option maxRecDepth 65536 in
theorem w_c0 : (Jvm.Cond.code x code maxLocals ret).before args0 about1 = true := code_word (m := ⟨1, 3⟩) (meth := k1m3) (c := k1c3) (by decide +kernel) rfl rfl rfl (by decide +kernel)
set_option maxRecDepth 65536 in
theorem w_c1 : (Jvm.Cond.code ({ cls := "java/lang/String", name := "length", desc := "()I" } : Jvm.MethodName) jdk_42_method_54_code (1 : Nat) (Option.some Jvm.ClassFile.FieldType.int)).before args0 about1 = true := code_word (m := ⟨7, 2⟩) (meth := k7m2) (c := k7c2) (by decide +kernel) rfl rfl rfl (by decide +kernel)
set_option maxRecDepth 65536 in
theorem w_c2 : (Jvm.Cond.code ({ cls := "java/lang/String", name := "coder", desc := "()B" } : Jvm.MethodName) jdk_42_method_152_code (1 : Nat) (Option.some Jvm.ClassFile.FieldType.byte)).before args0 about1 = true := code_word (m := ⟨7, 6⟩) (meth := k7m6) (c := k7c6) (by decide +kernel) rfl rfl rfl (by decide +kernel)
set_option maxRecDepth 65536 in
theorem w_c3 : (Jvm.Cond.code ({ cls := "com/example/neti/neti/model/SpaceRoleFromLabelPinLaw", name := "at", desc := "(Ljava/lang/String;I)C" } : Jvm.MethodName) method_2_code (2 : Nat) (Option.some Jvm.ClassFile.FieldType.char)).before args0 about1 = true := code_word (m := ⟨1, 1⟩) (meth := k1m1) (c := k1c1) (by decide +kernel) rfl rfl rfl (by decide +kernel)
set_option maxRecDepth 65536 in
theorem w_c4 : (Jvm.Cond.code ({ cls := "java/lang/String", name := "charAt", desc := "(I)C" } : Jvm.MethodName) jdk_42_method_56_code (2 : Nat) (Option.some Jvm.ClassFile.FieldType.char)).before args0 about1 = true := code_word (m := ⟨7, 3⟩) (meth := k7m3) (c := k7c3) (by decide +kernel) rfl rfl rfl (by decide +kernel)
set_option maxRecDepth 65536 in
theorem w_c5 : (Jvm.Cond.code ({ cls := "java/lang/String", name := "isLatin1", desc := "()Z" } : Jvm.MethodName) jdk_42_method_154_code (1 : Nat) (Option.some Jvm.ClassFile.FieldType.boolean)).before args0 about1 = true := code_word (m := ⟨7, 7⟩) (meth := k7m7) (c := k7c7) (by decide +kernel) rfl rfl rfl (by decide +kernel)
set_option maxRecDepth 65536 in
theorem w_c6 : (Jvm.Cond.code ({ cls := "java/lang/StringLatin1", name := "charAt", desc := "([BI)C" } : Jvm.MethodName) jdk_43_method_2_code (2 : Nat) (Option.some Jvm.ClassFile.FieldType.char)).before args0 about1 = true := code_word (m := ⟨10, 1⟩) (meth := k10m1) (c := k10c1) (by decide +kernel) rfl rfl rfl (by decide +kernel)
set_option maxRecDepth 65536 in
theorem w_c7 : (Jvm.Cond.code ({ cls := "java/lang/String", name := "checkIndex", desc := "(II)V" } : Jvm.MethodName) jdk_42_method_155_code (2 : Nat) (Option.none : Option Jvm.ClassFile.FieldType)).before args0 about1 = true := code_word (m := ⟨7, 8⟩) (meth := k7m8) (c := k7c8) (by decide +kernel) rfl rfl rfl (by decide +kernel)
set_option maxRecDepth 65536 in
theorem w_c8 : (Jvm.Cond.code ({ cls := "jdk/internal/util/Preconditions", name := "checkIndex", desc := "(IILjava/util/function/BiFunction;)I" } : Jvm.MethodName) jdk_41_method_11_code (3 : Nat) (Option.some Jvm.ClassFile.FieldType.int)).before args0 about1 = true := code_word (m := ⟨11, 1⟩) (meth := k11m1) (c := k11c1) (by decide +kernel) rfl rfl rfl (by decide +kernel)
set_option maxRecDepth 65536 in
theorem w_c9 : (Jvm.Cond.code ({ cls := "com/example/neti/neti/model/SpaceRoleFromLabelPinLaw", name := "mk", desc := "([CI)Ljava/lang/String;" } : Jvm.MethodName) method_3_code (2 : Nat) (Option.some (Jvm.ClassFile.FieldType.object "java/lang/String"))).before args0 about1 = true := code_word (m := ⟨1, 2⟩) (meth := k1m2) (c := k1c2) (by decide +kernel) rfl rfl rfl (by decide +kernel)
set_option maxRecDepth 65536 in
theorem w_c10 : (Jvm.Cond.code ({ cls := "java/lang/String", name := "<init>", desc := "([C)V" } : Jvm.MethodName) jdk_42_method_3_code (2 : Nat) (Option.none : Option Jvm.ClassFile.FieldType)).before args0 about1 = true := code_word (m := ⟨7, 1⟩) (meth := k7m1) (c := k7c1) (by decide +kernel) rfl rfl rfl (by decide +kernel)
set_option maxRecDepth 65536 in
theorem w_c11 : (Jvm.Cond.code ({ cls := "java/lang/String", name := "<init>", desc := "([CIILjava/lang/Void;)V" } : Jvm.MethodName) jdk_42_method_149_code (6 : Nat) (Option.none : Option Jvm.ClassFile.FieldType)).before args0 about1 = true := code_word (m := ⟨7, 5⟩) (meth := k7m5) (c := k7c5) (by decide +kernel) rfl rfl rfl (by decide +kernel)
set_option maxRecDepth 65536 in
theorem w_c12 : (Jvm.Cond.code ({ cls := "java/lang/Object", name := "<init>", desc := "()V" } : Jvm.MethodName) object_method_1_code (1 : Nat) (Option.none : Option Jvm.ClassFile.FieldType)).before args0 about1 = true := code_word (m := ⟨0, 0⟩) (meth := k0m0) (c := k0c0) (by decide +kernel) rfl rfl rfl (by decide +kernel)
set_option maxRecDepth 65536 in
theorem w_c13 : (Jvm.Cond.code ({ cls := "java/lang/StringUTF16", name := "compress", desc := "([CII)[B" } : Jvm.MethodName) jdk_52_method_16_code (6 : Nat) (Option.some (Jvm.ClassFile.FieldType.array Jvm.ClassFile.FieldType.byte))).before args0 about1 = true := code_word (m := ⟨12, 7⟩) (meth := k12m7) (c := k12c7) (by decide +kernel) rfl rfl rfl (by decide +kernel)
set_option maxRecDepth 65536 in
theorem w_c14 : (Jvm.Cond.code ({ cls := "java/lang/StringUTF16", name := "compress", desc := "([CI[BII)I" } : Jvm.MethodName) jdk_52_method_21_code (7 : Nat) (Option.some Jvm.ClassFile.FieldType.int)).before args0 about1 = true := code_word (m := ⟨12, 8⟩) (meth := k12m8) (c := k12c8) (by decide +kernel) rfl rfl rfl (by decide +kernel)
set_option maxRecDepth 65536 in
theorem w_c15 : (Jvm.Cond.code ({ cls := "java/lang/StringUTF16", name := "coderFromArrayLen", desc := "([BI)B" } : Jvm.MethodName) jdk_52_method_15_code (2 : Nat) (Option.some Jvm.ClassFile.FieldType.byte)).before args0 about1 = true := code_word (m := ⟨12, 6⟩) (meth := k12m6) (c := k12c6) (by decide +kernel) rfl rfl rfl (by decide +kernel)
set_option maxRecDepth 65536 in
theorem w_c16 : (Jvm.Cond.code ({ cls := "com/example/neti/neti/model/SpaceRole", name := "fromLabel", desc := "(Ljava/lang/String;)Ljava/util/Optional;" } : Jvm.MethodName) prog_51_method_4_code (5 : Nat) (Option.some (Jvm.ClassFile.FieldType.object "java/util/Optional"))).before args0 about1 = true := code_word (m := ⟨9, 1⟩) (meth := k9m1) (c := k9c1) (by decide +kernel) rfl rfl rfl (by decide +kernel)
set_option maxRecDepth 65536 in
theorem w_c17 : (Jvm.Cond.code ({ cls := "com/example/neti/neti/model/SpaceRole", name := "values", desc := "()[Lcom/example/neti/neti/model/SpaceRole;" } : Jvm.MethodName) prog_51_method_1_code (0 : Nat) (Option.some (Jvm.ClassFile.FieldType.array (Jvm.ClassFile.FieldType.object "com/example/neti/neti/model/SpaceRole")))).before args0 about1 = true := code_word (m := ⟨9, 0⟩) (meth := k9m0) (c := k9c0) (by decide +kernel) rfl rfl rfl (by decide +kernel)
set_option maxRecDepth 65536 in
theorem w_c18 : (Jvm.Cond.code ({ cls := "java/lang/String", name := "equals", desc := "(Ljava/lang/Object;)Z" } : Jvm.MethodName) jdk_42_method_66_code (3 : Nat) (Option.some Jvm.ClassFile.FieldType.boolean)).before args0 about1 = true := code_word (m := ⟨7, 4⟩) (meth := k7m4) (c := k7c4) (by decide +kernel) rfl rfl rfl (by decide +kernel)
set_option maxRecDepth 65536 in
theorem w_c19 : (Jvm.Cond.code ({ cls := "java/lang/StringLatin1", name := "equals", desc := "([B[B)Z" } : Jvm.MethodName) jdk_43_method_13_code (3 : Nat) (Option.some Jvm.ClassFile.FieldType.boolean)).before args0 about1 = true := code_word (m := ⟨10, 2⟩) (meth := k10m2) (c := k10c2) (by decide +kernel) rfl rfl rfl (by decide +kernel)
set_option maxRecDepth 65536 in
theorem w_c20 : (Jvm.Cond.code ({ cls := "java/util/Optional", name := "empty", desc := "()Ljava/util/Optional;" } : Jvm.MethodName) jdk_32_method_1_code (1 : Nat) (Option.some (Jvm.ClassFile.FieldType.object "java/util/Optional"))).before args0 about1 = true := code_word (m := ⟨14, 0⟩) (meth := k14m0) (c := k14c0) (by decide +kernel) rfl rfl rfl (by decide +kernel)
set_option maxRecDepth 65536 in
theorem w_c21 : (Jvm.Cond.code ({ cls := "java/util/Optional", name := "isPresent", desc := "()Z" } : Jvm.MethodName) jdk_32_method_6_code (1 : Nat) (Option.some Jvm.ClassFile.FieldType.boolean)).before args0 about1 = true := code_word (m := ⟨14, 4⟩) (meth := k14m4) (c := k14c4) (by decide +kernel) rfl rfl rfl (by decide +kernel)
set_option maxRecDepth 65536 in
theorem w_c22 : (Jvm.Cond.code ({ cls := "java/lang/StringUTF16", name := "toBytes", desc := "([CII)[B" } : Jvm.MethodName) jdk_52_method_14_code (5 : Nat) (Option.some (Jvm.ClassFile.FieldType.array Jvm.ClassFile.FieldType.byte))).before args0 about1 = true := code_word (m := ⟨12, 5⟩) (meth := k12m5) (c := k12c5) (by decide +kernel) rfl rfl rfl (by decide +kernel)
set_option maxRecDepth 65536 in
theorem w_c23 : (Jvm.Cond.code ({ cls := "java/lang/StringUTF16", name := "newBytesFor", desc := "(I)[B" } : Jvm.MethodName) jdk_52_method_2_code (1 : Nat) (Option.some (Jvm.ClassFile.FieldType.array Jvm.ClassFile.FieldType.byte))).before args0 about1 = true := code_word (m := ⟨12, 1⟩) (meth := k12m1) (c := k12c1) (by decide +kernel) rfl rfl rfl (by decide +kernel)
set_option maxRecDepth 65536 in
theorem w_c24 : (Jvm.Cond.code ({ cls := "java/lang/StringUTF16", name := "newBytesLength", desc := "(I)I" } : Jvm.MethodName) jdk_52_method_3_code (1 : Nat) (Option.some Jvm.ClassFile.FieldType.int)).before args0 about1 = true := code_word (m := ⟨12, 2⟩) (meth := k12m2) (c := k12c2) (by decide +kernel) rfl rfl rfl (by decide +kernel)
set_option maxRecDepth 65536 in
theorem w_c25 : (Jvm.Cond.code ({ cls := "java/lang/StringUTF16", name := "putChar", desc := "([BII)V" } : Jvm.MethodName) jdk_52_method_4_code (3 : Nat) (Option.none : Option Jvm.ClassFile.FieldType)).before args0 about1 = true := code_word (m := ⟨12, 3⟩) (meth := k12m3) (c := k12c3) (by decide +kernel) rfl rfl rfl (by decide +kernel)
set_option maxRecDepth 65536 in
theorem w_c26 : (Jvm.Cond.code ({ cls := "java/lang/StringUTF16", name := "getChar", desc := "([BI)C" } : Jvm.MethodName) jdk_52_method_5_code (2 : Nat) (Option.some Jvm.ClassFile.FieldType.char)).before args0 about1 = true := code_word (m := ⟨12, 4⟩) (meth := k12m4) (c := k12c4) (by decide +kernel) rfl rfl rfl (by decide +kernel)
set_option maxRecDepth 65536 in
theorem w_c27 : (Jvm.Cond.code ({ cls := "java/util/Optional", name := "of", desc := "(Ljava/lang/Object;)Ljava/util/Optional;" } : Jvm.MethodName) jdk_32_method_3_code (1 : Nat) (Option.some (Jvm.ClassFile.FieldType.object "java/util/Optional"))).before args0 about1 = true := code_word (m := ⟨14, 2⟩) (meth := k14m2) (c := k14c2) (by decide +kernel) rfl rfl rfl (by decide +kernel)
set_option maxRecDepth 65536 in
theorem w_c28 : (Jvm.Cond.code ({ cls := "java/util/Objects", name := "requireNonNull", desc := "(Ljava/lang/Object;)Ljava/lang/Object;" } : Jvm.MethodName) jdk_31_method_10_code (1 : Nat) (Option.some (Jvm.ClassFile.FieldType.object "java/lang/Object"))).before args0 about1 = true := code_word (m := ⟨15, 1⟩) (meth := k15m1) (c := k15c1) (by decide +kernel) rfl rfl rfl (by decide +kernel)
set_option maxRecDepth 65536 in
theorem w_c29 : (Jvm.Cond.code ({ cls := "java/util/Optional", name := "<init>", desc := "(Ljava/lang/Object;)V" } : Jvm.MethodName) jdk_32_method_2_code (2 : Nat) (Option.none : Option Jvm.ClassFile.FieldType)).before args0 about1 = true := code_word (m := ⟨14, 1⟩) (meth := k14m1) (c := k14c1) (by decide +kernel) rfl rfl rfl (by decide +kernel)
set_option maxRecDepth 65536 in
theorem w_c30 : (Jvm.Cond.code ({ cls := "java/util/Optional", name := "get", desc := "()Ljava/lang/Object;" } : Jvm.MethodName) jdk_32_method_5_code (1 : Nat) (Option.some (Jvm.ClassFile.FieldType.object "java/lang/Object"))).before args0 about1 = true := code_word (m := ⟨14, 3⟩) (meth := k14m3) (c := k14c3) (by decide +kernel) rfl rfl rfl (by decide +kernel)
def codes1 : List Jvm.Cond := [Jvm.Cond.code x code maxLocals ret, Jvm.Cond.code ({ cls := "java/lang/String", name := "length", desc := "()I" } : Jvm.MethodName) jdk_42_method_54_code (1 : Nat) (Option.some Jvm.ClassFile.FieldType.int), Jvm.Cond.code ({ cls := "java/lang/String", name := "coder", desc := "()B" } : Jvm.MethodName) jdk_42_method_152_code (1 : Nat) (Option.some Jvm.ClassFile.FieldType.byte), Jvm.Cond.code ({ cls := "com/example/neti/neti/model/SpaceRoleFromLabelPinLaw", name := "at", desc := "(Ljava/lang/String;I)C" } : Jvm.MethodName) method_2_code (2 : Nat) (Option.some Jvm.ClassFile.FieldType.char), Jvm.Cond.code ({ cls := "java/lang/String", name := "charAt", desc := "(I)C" } : Jvm.MethodName) jdk_42_method_56_code (2 : Nat) (Option.some Jvm.ClassFile.FieldType.char), Jvm.Cond.code ({ cls := "java/lang/String", name := "isLatin1", desc := "()Z" } : Jvm.MethodName) jdk_42_method_154_code (1 : Nat) (Option.some Jvm.ClassFile.FieldType.boolean), Jvm.Cond.code ({ cls := "java/lang/StringLatin1", name := "charAt", desc := "([BI)C" } : Jvm.MethodName) jdk_43_method_2_code (2 : Nat) (Option.some Jvm.ClassFile.FieldType.char), Jvm.Cond.code ({ cls := "java/lang/String", name := "checkIndex", desc := "(II)V" } : Jvm.MethodName) jdk_42_method_155_code (2 : Nat) (Option.none : Option Jvm.ClassFile.FieldType), Jvm.Cond.code ({ cls := "jdk/internal/util/Preconditions", name := "checkIndex", desc := "(IILjava/util/function/BiFunction;)I" } : Jvm.MethodName) jdk_41_method_11_code (3 : Nat) (Option.some Jvm.ClassFile.FieldType.int), Jvm.Cond.code ({ cls := "com/example/neti/neti/model/SpaceRoleFromLabelPinLaw", name := "mk", desc := "([CI)Ljava/lang/String;" } : Jvm.MethodName) method_3_code (2 : Nat) (Option.some (Jvm.ClassFile.FieldType.object "java/lang/String")), Jvm.Cond.code ({ cls := "java/lang/String", name := "<init>", desc := "([C)V" } : Jvm.MethodName) jdk_42_method_3_code (2 : Nat) (Option.none : Option Jvm.ClassFile.FieldType), Jvm.Cond.code ({ cls := "java/lang/String", name := "<init>", desc := "([CIILjava/lang/Void;)V" } : Jvm.MethodName) jdk_42_method_149_code (6 : Nat) (Option.none : Option Jvm.ClassFile.FieldType), Jvm.Cond.code ({ cls := "java/lang/Object", name := "<init>", desc := "()V" } : Jvm.MethodName) object_method_1_code (1 : Nat) (Option.none : Option Jvm.ClassFile.FieldType), Jvm.Cond.code ({ cls := "java/lang/StringUTF16", name := "compress", desc := "([CII)[B" } : Jvm.MethodName) jdk_52_method_16_code (6 : Nat) (Option.some (Jvm.ClassFile.FieldType.array Jvm.ClassFile.FieldType.byte)), Jvm.Cond.code ({ cls := "java/lang/StringUTF16", name := "compress", desc := "([CI[BII)I" } : Jvm.MethodName) jdk_52_method_21_code (7 : Nat) (Option.some Jvm.ClassFile.FieldType.int), Jvm.Cond.code ({ cls := "java/lang/StringUTF16", name := "coderFromArrayLen", desc := "([BI)B" } : Jvm.MethodName) jdk_52_method_15_code (2 : Nat) (Option.some Jvm.ClassFile.FieldType.byte), Jvm.Cond.code ({ cls := "com/example/neti/neti/model/SpaceRole", name := "fromLabel", desc := "(Ljava/lang/String;)Ljava/util/Optional;" } : Jvm.MethodName) prog_51_method_4_code (5 : Nat) (Option.some (Jvm.ClassFile.FieldType.object "java/util/Optional")), Jvm.Cond.code ({ cls := "com/example/neti/neti/model/SpaceRole", name := "values", desc := "()[Lcom/example/neti/neti/model/SpaceRole;" } : Jvm.MethodName) prog_51_method_1_code (0 : Nat) (Option.some (Jvm.ClassFile.FieldType.array (Jvm.ClassFile.FieldType.object "com/example/neti/neti/model/SpaceRole"))), Jvm.Cond.code ({ cls := "java/lang/String", name := "equals", desc := "(Ljava/lang/Object;)Z" } : Jvm.MethodName) jdk_42_method_66_code (3 : Nat) (Option.some Jvm.ClassFile.FieldType.boolean), Jvm.Cond.code ({ cls := "java/lang/StringLatin1", name := "equals", desc := "([B[B)Z" } : Jvm.MethodName) jdk_43_method_13_code (3 : Nat) (Option.some Jvm.ClassFile.FieldType.boolean), Jvm.Cond.code ({ cls := "java/util/Optional", name := "empty", desc := "()Ljava/util/Optional;" } : Jvm.MethodName) jdk_32_method_1_code (1 : Nat) (Option.some (Jvm.ClassFile.FieldType.object "java/util/Optional")), Jvm.Cond.code ({ cls := "java/util/Optional", name := "isPresent", desc := "()Z" } : Jvm.MethodName) jdk_32_method_6_code (1 : Nat) (Option.some Jvm.ClassFile.FieldType.boolean), Jvm.Cond.code ({ cls := "java/lang/StringUTF16", name := "toBytes", desc := "([CII)[B" } : Jvm.MethodName) jdk_52_method_14_code (5 : Nat) (Option.some (Jvm.ClassFile.FieldType.array Jvm.ClassFile.FieldType.byte)), Jvm.Cond.code ({ cls := "java/lang/StringUTF16", name := "newBytesFor", desc := "(I)[B" } : Jvm.MethodName) jdk_52_method_2_code (1 : Nat) (Option.some (Jvm.ClassFile.FieldType.array Jvm.ClassFile.FieldType.byte)), Jvm.Cond.code ({ cls := "java/lang/StringUTF16", name := "newBytesLength", desc := "(I)I" } : Jvm.MethodName) jdk_52_method_3_code (1 : Nat) (Option.some Jvm.ClassFile.FieldType.int), Jvm.Cond.code ({ cls := "java/lang/StringUTF16", name := "putChar", desc := "([BII)V" } : Jvm.MethodName) jdk_52_method_4_code (3 : Nat) (Option.none : Option Jvm.ClassFile.FieldType), Jvm.Cond.code ({ cls := "java/lang/StringUTF16", name := "getChar", desc := "([BI)C" } : Jvm.MethodName) jdk_52_method_5_code (2 : Nat) (Option.some Jvm.ClassFile.FieldType.char), Jvm.Cond.code ({ cls := "java/util/Optional", name := "of", desc := "(Ljava/lang/Object;)Ljava/util/Optional;" } : Jvm.MethodName) jdk_32_method_3_code (1 : Nat) (Option.some (Jvm.ClassFile.FieldType.object "java/util/Optional")), Jvm.Cond.code ({ cls := "java/util/Objects", name := "requireNonNull", desc := "(Ljava/lang/Object;)Ljava/lang/Object;" } : Jvm.MethodName) jdk_31_method_10_code (1 : Nat) (Option.some (Jvm.ClassFile.FieldType.object "java/lang/Object")), Jvm.Cond.code ({ cls := "java/util/Optional", name := "<init>", desc := "(Ljava/lang/Object;)V" } : Jvm.MethodName) jdk_32_method_2_code (2 : Nat) (Option.none : Option Jvm.ClassFile.FieldType), Jvm.Cond.code ({ cls := "java/util/Optional", name := "get", desc := "()Ljava/lang/Object;" } : Jvm.MethodName) jdk_32_method_5_code (1 : Nat) (Option.some (Jvm.ClassFile.FieldType.object "java/lang/Object"))]
set_option maxRecDepth 65536 in
theorem codes_eq : words1.filter isCode = codes1 := rfl
theorem w_codes : ∀ c ∈ words1.filter isCode, c.before args0 about1 = true := by
  rw [codes_eq]
  intro c hc
  simp only [codes1, List.mem_cons, List.not_mem_nil, or_false] at hc
  rcases hc with rfl | rfl | rfl | rfl | rfl | rfl | rfl | rfl | rfl | rfl | rfl | rfl | rfl | rfl | rfl | rfl | rfl | rfl | rfl | rfl | rfl | rfl | rfl | rfl | rfl | rfl | rfl | rfl | rfl | rfl | rfl
  · exact w_c0
  · exact w_c1
  · exact w_c2
  · exact w_c3
  · exact w_c4
  · exact w_c5
  · exact w_c6
  · exact w_c7
  · exact w_c8
  · exact w_c9
  · exact w_c10
  · exact w_c11
  · exact w_c12
  · exact w_c13
  · exact w_c14
  · exact w_c15
  · exact w_c16
  · exact w_c17
  · exact w_c18
  · exact w_c19
  · exact w_c20
  · exact w_c21
  · exact w_c22
  · exact w_c23
  · exact w_c24
  · exact w_c25
  · exact w_c26
  · exact w_c27
  · exact w_c28
  · exact w_c29
  · exact w_c30
set_option maxRecDepth 65536 in
theorem w_t1 : (words1.take 24).all (fun c => isCode c || c.before args0 about1) = true := by decide +kernel
set_option maxRecDepth 65536 in
theorem w_t2 : ((words1.drop 24).take 24).all (fun c => isCode c || c.before args0 about1) = true := by decide +kernel
set_option maxRecDepth 65536 in
theorem w_t3 : (((words1.drop 24).drop 24).take 24).all (fun c => isCode c || c.before args0 about1) = true := by decide +kernel
set_option maxRecDepth 65536 in
theorem w_t4 : ((((words1.drop 24).drop 24).drop 24).take 24).all (fun c => isCode c || c.before args0 about1) = true := by decide +kernel
set_option maxRecDepth 65536 in
theorem w_t5 : (((((words1.drop 24).drop 24).drop 24).drop 24).take 24).all (fun c => isCode c || c.before args0 about1) = true := by decide +kernel
set_option maxRecDepth 65536 in
theorem w_t6 : ((((((words1.drop 24).drop 24).drop 24).drop 24).drop 24).take 24).all (fun c => isCode c || c.before args0 about1) = true := by decide +kernel
set_option maxRecDepth 65536 in
theorem w_t7 : ((((((words1.drop 24).drop 24).drop 24).drop 24).drop 24).drop 24).all (fun c => isCode c || c.before args0 about1) = true := by decide +kernel
theorem w_tables : (allAtoms (Jvm.Cond.code x code maxLocals ret :: tables_1)).before args0 about1 = true := by
  rw [allAtoms_all]
  show words1.all (fun c => c.before args0 about1) = true
  refine all_split ?_ w_codes
  rw [← List.take_append_drop 24 words1, List.all_append, w_t1, ← List.take_append_drop 24 (words1.drop 24), List.all_append, w_t2, ← List.take_append_drop 24 ((words1.drop 24).drop 24), List.all_append, w_t3, ← List.take_append_drop 24 (((words1.drop 24).drop 24).drop 24), List.all_append, w_t4, ← List.take_append_drop 24 ((((words1.drop 24).drop 24).drop 24).drop 24), List.all_append, w_t5, ← List.take_append_drop 24 (((((words1.drop 24).drop 24).drop 24).drop 24).drop 24), List.all_append, w_t6, w_t7]
  rfl
set_option maxRecDepth 65536 in
theorem w_rest : rest_1_c.before args0 about1 = true := by decide +kernel
set_option maxRecDepth 65536 in
theorem w_case : (Jvm.Cond.and given_1 narrow_1).before args0 about1 = true := by decide +kernel
set_option maxRecDepth 65536 in
theorem w_consts : constsHeld consts_1 about1 := Jvm.Lit.constsHeldB_iff.mp (by decide +kernel)
theorem w_applies : (headSpec (Jvm.Cond.code x code maxLocals ret :: tables_1) room_1).applies x e0.platform about1 = true :=
  (Spec.applies_iff w_frames).mpr ⟨w_running, w_runnable, w_alone, w_named, w_hears, w_ripe, w_room, w_tables⟩
theorem atStart : AtStart classFile x code maxLocals ret World_1 tables_1 room_1 Calls_1 rest_1 Pre_1 launch0 p0 e0 about1 theMethod args0 below0 :=
  ⟨lists_1, trivial, launch0.admits_env _ _ _, launch0.least_env, fairChoices_fair.cas, fairChoices_fair.clock, w_frames, w_args, w_heap, w_applies, ⟨w_consts, trivial⟩, w_rest, w_case⟩
end start1
theorem witness_1 : WitnessClaimed_1 := ⟨start1.p0, start1.e0, start1.about1, start1.theMethod, start1.args0, start1.below0, start1.atStart⟩
end Jvm.Pilot.@@N@@
