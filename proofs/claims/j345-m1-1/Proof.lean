import JvmDerived
import JvmDerived.Pilot.@@N@@Statement
import JvmDerived.Pilot.@@N@@Code
set_option linter.unusedVariables false
set_option linter.unusedSimpArgs false
namespace Jvm.RoadKit
open Sem ClassFile Op Lib Jvm.Stand Jvm.Free Jvm.LawKit
section New
variable {p : Program} {l : Launch} {e : Env} {R : Room} {s : State} {m : MethodId} {args : Array Value} {below : List Frame} {meth : Method} {c : Code} {T : State} {locs : List Loc} {cells slots : Nat}
theorem retI (X : Stand p l e R s m args below meth c T locs cells slots) (hx : p.tables.exec = Jvm.exec) {pc : Nat} {Ls : Array Slot} {z : Int32} {rest : List Value} (hret : meth.sig.returnType = some .int) (hd : decode c.code pc = .ok (.ireturn, 1)) {fs : List Frame}
    (hl : ∀ (f : JFrame) (acts : List Action), f.method = m → f.locked = none → f.entered = [] → (doReturn e (T.setTop f) acts (some (.int z))).1 = T.setFrames fs) : Steps p.tables e below (T.setTop (mkF m pc Ls (.int z :: rest))) (T.setFrames fs) := by
  have hm' : T.vm.method? m = some meth := X.method'
  have hn : narrow .int (.int z) = .int z := rfl
  show Steps p.tables e below (T.setTop { method := m, pc := pc, locals := Ls, stack := _ :: rest, locked := none }) _
  jvm_step X.here [X.here.top, hx, hd, hm', hret, hn]
  first | (intro acts; rw [hl _ acts rfl rfl rfl]) | rw [hl _ _ rfl rfl rfl]
  exact Steps.refl _
end New
end Jvm.RoadKit
/- laws to paste: Road.chN, Road.lenW, Road.empW (cut by pick.py; bodies as the Statement names them) -/
namespace Jvm.Pilot.@@N@@
namespace StrChars
open Jvm Sem ClassFile Op Lib Jvm.Stand Jvm.Free.XT Jvm.Free.ALB Jvm.Free.JM Jvm.Free
open Jvm.Lib.Cold (StaticIs)
/-- the byte that i2b leaves of a char -/
def lo8 (x : Int32) : Int32 := x.toInt8.toInt32
def U16 : String := "java/lang/StringUTF16"
namespace Cmp5
def yN : MethodName := ⟨"java/lang/StringUTF16", "compress", "([CI[BII)I"⟩
abbrev yB : ByteArray := jdk_52_method_21_code
end Cmp5
namespace Cmp3
def yN : MethodName := ⟨"java/lang/StringUTF16", "compress", "([CII)[B"⟩
abbrev yB : ByteArray := jdk_52_method_16_code
end Cmp3
namespace CodL
def yN : MethodName := ⟨"java/lang/StringUTF16", "coderFromArrayLen", "([BI)B"⟩
abbrev yB : ByteArray := jdk_52_method_15_code
end CodL
namespace New4
def yN : MethodName := ⟨"java/lang/String", "<init>", "([CIILjava/lang/Void;)V"⟩
abbrev yB : ByteArray := jdk_42_method_149_code
end New4
namespace New1
def yN : MethodName := ⟨"java/lang/String", "<init>", "([C)V"⟩
abbrev yB : ByteArray := jdk_42_method_3_code
end New1
/-- the byte, read back as charAt reads it, is the char -/
theorem lo8_mask {x : Int32} (h0 : ¬ x < 0) (h1 : ¬ 255 < x) : lo8 x &&& 255 = x := by
  have t : ∀ k : Fin 256, lo8 (Int32.ofNat k.val) &&& 255 = Int32.ofNat k.val := by decide +kernel
  rw [Int32.lt_iff_toInt_lt] at h0 h1
  have e0 : (0 : Int32).toInt = 0 := rfl
  have e1 : (255 : Int32).toInt = 255 := rfl
  obtain ⟨k, hk⟩ : ∃ k : Nat, x.toInt = k := ⟨x.toInt.toNat, by omega⟩
  have hx : x = Int32.ofNat k := Int32.toInt_inj.mp (by rw [hk, Int32.toInt_ofNat_small (by omega)])
  rw [hx]
  exact t ⟨k, by omega⟩
end StrChars
namespace StrChars.Road
open Jvm Sem ClassFile Op Lib Jvm.Stand Jvm.Free Jvm.Free.XT
open Jvm.Lib.Cold (StaticIs)
abbrev ST : String := "java/lang/String"
/-- every table word that New1's law asks, flat -/
abbrev words : List Jvm.Cond := [.code New1.yN New1.yB 2 none, .initialized ST, .methodLink ST 27 New4.yN, .instanceMethod New4.yN,
  .code New4.yN New4.yB 6 none, .fieldLink ST 38 ST "COMPACT_STRINGS" "Z", .laysFinal ST ST "value" "[B", .fieldLink ST 9 ST "value" "[B", .laysFinal ST ST "coder" "B", .fieldLink ST 15 ST "coder" "B",
  .methodLink ST 1 Lib.objectInit, .instanceMethod Lib.objectInit, .code Lib.objectInit ⟨#[0xb1]⟩ 1 none, .methodLink ST 177 Cmp3.yN, .static Cmp3.yN, .methodLink ST 47 CodL.yN, .static CodL.yN,
  .code Cmp3.yN Cmp3.yB 6 (some (.array .byte)), .initialized U16, .arrayClass .byte, .methodLink U16 115 Cmp5.yN, .static Cmp5.yN, .code Cmp5.yN Cmp5.yB 7 (some .int), .code CodL.yN CodL.yB 2 (some .byte)]
end StrChars.Road
namespace StrChars
open Jvm Sem ClassFile Op Lib Jvm.Stand Jvm.Free.XT Jvm.Free.ALB Jvm.Free.JM Jvm.Free
open Jvm.Lib.Cold (StaticIs)
def hi8 (x : Int32) : Int32 := lo8 (x >>> ((8 : Int32) &&& 31))
/-- what StringUTF16.getChar makes of two bytes -/
def pairCh (u v : Int32) : Int32 := (((u &&& 255) <<< ((0 : Int32) &&& 31)) ||| ((v &&& 255) <<< ((8 : Int32) &&& 31))).toUInt32.toUInt16.toUInt32.toInt32
theorem shr0 (c : Int32) : c >>> ((0 : Int32) &&& 31) = c := by
  have e : ((0 : Int32) &&& 31) = 0 := by decide
  rw [e]
  apply Int32.toBitVec_inj.mp
  rw [Int32.toBitVec_shiftRight]
  have e1 : ((0 : Int32).toBitVec.smod 32) = 0#32 := by decide
  rw [e1, BitVec.sshiftRight_eq']
  exact BitVec.sshiftRight_zero
theorem lo8_and (x : Int32) : (lo8 x &&& 255).toBitVec.toNat = x.toBitVec.toNat % 256 := by
  have h : (lo8 x).toBitVec = (x.toBitVec.signExtend 8).signExtend 32 := by rw [lo8, Int8.toBitVec_toInt32, Int32.toBitVec_toInt8]
  rw [Int32.toBitVec_and, BitVec.toNat_and, h]
  have e : ((x.toBitVec.signExtend 8).signExtend 32).toNat % 256 = x.toBitVec.toNat % 256 := by
    rw [BitVec.toNat_signExtend]
    have hlt := x.toBitVec.isLt
    simp only [BitVec.toNat_setWidth, BitVec.toNat_signExtend]
    split <;> split <;> omega
  rw [← e]
  exact Nat.and_two_pow_sub_one_eq_mod _ 8
theorem pair_says {c : Int32} (h0 : ¬ c < 0) (h1 : ¬ 65535 < c) : pairCh (lo8 c) (hi8 c) = c := by
  rw [Int32.lt_iff_toInt_lt] at h0 h1
  have e0 : (0 : Int32).toInt = 0 := rfl
  have e1 : (65535 : Int32).toInt = 65535 := rfl
  have hc : c.toInt = c.toBitVec.toNat := by
    have := c.toBitVec.isLt
    have e : c.toInt = c.toBitVec.toInt := rfl
    rw [e] at h0 h1
    rw [e]
    rw [BitVec.toInt_eq_toNat_cond] at h0 h1 ⊢
    split at h0 <;> split <;> omega
  have hn : c.toBitVec.toNat < 65536 := by omega
  have a1 := lo8_and c
  have a2 : (hi8 c &&& 255).toBitVec.toNat = c.toBitVec.toNat / 256 := by
    rw [hi8, lo8_and]
    have e : ((8 : Int32) &&& 31) = 8 := by decide
    rw [e, Int32.toBitVec_shiftRight]
    have e2 : ((8 : Int32).toBitVec.smod 32) = 8#32 := by decide
    rw [e2, BitVec.sshiftRight_eq', BitVec.toNat_sshiftRight_of_msb_false (by rw [BitVec.msb_eq_false_iff_two_mul_lt]; omega)]
    show c.toBitVec.toNat >>> 8 % 256 = _
    rw [Nat.shiftRight_eq_div_pow]
    omega
  unfold pairCh
  apply Int32.toBitVec_inj.mp
  apply BitVec.eq_of_toNat_eq
  have f0 : ((0 : Int32) &&& 31) = 0 := by decide
  have f8 : ((8 : Int32) &&& 31) = 8 := by decide
  rw [f0, f8]
  have g : (((lo8 c &&& 255) <<< (0 : Int32)) ||| ((hi8 c &&& 255) <<< (8 : Int32))).toBitVec.toNat = c.toBitVec.toNat := by
    rw [Int32.toBitVec_or, Int32.toBitVec_shiftLeft, Int32.toBitVec_shiftLeft]
    have s0 : ((0 : Int32).toBitVec.smod 32) = 0#32 := by decide
    have s8 : ((8 : Int32).toBitVec.smod 32) = 8#32 := by decide
    rw [s0, s8, BitVec.toNat_or]
    simp only [BitVec.shiftLeft_eq', BitVec.toNat_shiftLeft, a1, a2]
    show (c.toBitVec.toNat % 256) <<< 0 % 2 ^ 32 ||| (c.toBitVec.toNat / 256) <<< 8 % 2 ^ 32 = _
    rw [Nat.shiftLeft_zero, Nat.mod_eq_of_lt (show c.toBitVec.toNat % 256 < 2 ^ 32 by omega), Nat.mod_eq_of_lt (show (c.toBitVec.toNat / 256) <<< 8 < 2 ^ 32 by rw [Nat.shiftLeft_eq]; omega), Nat.or_comm, ← Nat.shiftLeft_add_eq_or_of_lt (by omega), Nat.shiftLeft_eq]
    omega
  show BitVec.toNat (((((lo8 c &&& 255) <<< (0 : Int32)) ||| ((hi8 c &&& 255) <<< (8 : Int32))).toBitVec.setWidth 16).setWidth 32) = _
  rw [BitVec.toNat_setWidth, BitVec.toNat_setWidth, g]
  omega
end StrChars
namespace StrChars
open Jvm Sem ClassFile Op Lib Jvm.Stand Jvm.Free.XT Jvm.Free.ALB Jvm.Free.JM Jvm.Free
open Jvm.Lib.Cold (StaticIs)
theorem shr1 {n : Nat} (h : 2 * n < 2 ^ 31) : Int32.ofNat (2 * n) >>> ((1 : Int32) &&& 31) = Int32.ofNat n := by
  have e : ((1 : Int32) &&& 31) = 1 := by decide
  rw [e]
  apply Int32.toBitVec_inj.mp
  rw [Int32.toBitVec_shiftRight]
  have e1 : ((1 : Int32).toBitVec.smod 32) = 1#32 := by decide
  have hm : (BitVec.ofNat 32 (2 * n)).toNat = 2 * n := by rw [BitVec.toNat_ofNat, Nat.mod_eq_of_lt (by omega)]
  rw [e1, BitVec.sshiftRight_eq']
  apply BitVec.eq_of_toNat_eq
  show ((BitVec.ofNat 32 (2 * n)).sshiftRight 1).toNat = (BitVec.ofNat 32 n).toNat
  rw [BitVec.toNat_sshiftRight_of_msb_false (by rw [BitVec.msb_eq_false_iff_two_mul_lt, hm]; omega), hm, BitVec.toNat_ofNat, Nat.shiftRight_eq_div_pow]
  omega
/-- charAt's cast of a byte read back -/
def chr8 (u : Int32) : Int32 := (u &&& 255).toUInt32.toUInt16.toUInt32.toInt32
theorem chr8_lo8 {c : Int32} (h0 : ¬ c < 0) (h1 : ¬ 255 < c) : chr8 (lo8 c) = c := by
  have t : ∀ k : Fin 256, (Int32.ofNat k.val).toUInt32.toUInt16.toUInt32.toInt32 = Int32.ofNat k.val := by decide +kernel
  unfold chr8
  rw [lo8_mask h0 h1]
  rw [Int32.lt_iff_toInt_lt] at h0 h1
  have e0 : (0 : Int32).toInt = 0 := rfl
  have e1 : (255 : Int32).toInt = 255 := rfl
  obtain ⟨k, hk⟩ : ∃ k : Nat, c.toInt = k := ⟨c.toInt.toNat, by omega⟩
  have hx : c = Int32.ofNat k := Int32.toInt_inj.mp (by rw [hk, Int32.toInt_ofNat_small (by omega)])
  rw [hx]
  exact t ⟨k, by omega⟩
theorem narrow_ch {c : Int32} (h0 : ¬ c < 0) (h1 : ¬ 65535 < c) : narrow .char (.int c) = .int c := by
  have q : narrow .char (.int (pairCh (lo8 c) (hi8 c))) = .int (pairCh (lo8 c) (hi8 c)) := narrow_c _
  rwa [pair_says h0 h1] at q
/-- the array's cell V codes the n chars f 0 .. f (n - 1) by the coder cd, as the JDK does: coder 1 just where some char is above 255 -/
def Cod (cd : Int32) (n : Nat) (f : Nat → Int32) (V : Cell) : Prop := (cd = 0 ∧ V.slots.size = n ∧ ∀ j, j < n → V.slots[j]? = some (.int (lo8 (f j))) ∧ ¬ 255 < f j) ∨ (cd = 1 ∧ V.slots.size = 2 * n ∧ (∀ j, j < n → V.slots[2 * j]? = some (.int (lo8 (f j))) ∧ V.slots[2 * j + 1]? = some (.int (hi8 (f j)))) ∧ ∃ j, j < n ∧ 255 < f j)
theorem Cod.cd {cd : Int32} {n : Nat} {f : Nat → Int32} {V : Cell} (h : Cod cd n f V) : cd = 0 ∨ cd = 1 := h.imp (fun q => q.1) fun q => q.1
theorem Cod.len {cd : Int32} {n : Nat} {f : Nat → Int32} {V : Cell} (h : Cod cd n f V) (hs : V.slots.size < 2 ^ 31) : Int32.ofNat V.slots.size >>> (cd &&& 31) = Int32.ofNat n := by
  rcases h with ⟨rfl, h, -⟩ | ⟨rfl, h, -⟩
  · rw [shr0, h]
  · rw [h, shr1 (by omega)]
/-- **x is a String of the n chars f 0 .. f (n - 1)**, Latin-1 or UTF-16; its array at t has the cell V -/
def Txt (x t : Addr) (V : Cell) (cd : Int32) (n : Nat) (f : Nat → Int32) (U : State) : Prop := Exact "java/lang/String" x U ∧ Has x "java/lang/String" "value" "[B" (.ref t) U ∧ Has x "java/lang/String" "coder" "B" (.int cd) U ∧ XT.Arr .byte t V U ∧ Cod cd n f V ∧ ∀ j, j < n → ¬ f j < 0 ∧ ¬ 65535 < f j
theorem Txt.mv {x t : Addr} {V : Cell} {cd : Int32} {n : Nat} {f : Nat → Int32} {U U' : State} (h : Txt x t V cd n f U) (hal : U.vm.Alike U'.vm) (hh : U'.heap = U.heap) : Txt x t V cd n f U' := ⟨h.1.mv hal hh, h.2.1.mv hal hh, h.2.2.1.mv hal hh, h.2.2.2.1.mv hal hh, h.2.2.2.2⟩
namespace Cdr
def yN : MethodName := ⟨"java/lang/String", "coder", "()B"⟩
abbrev yB : ByteArray := jdk_42_method_152_code
theorem d0 : decode yB 0 = .ok (.getstatic 38, 3) := by decide +kernel
theorem d3 : decode yB 3 = .ok (.ifCond (.eq) 10, 3) := by decide +kernel
theorem d6 : decode yB 6 = .ok (.aload_n 0, 1) := by decide +kernel
theorem d7 : decode yB 7 = .ok (.getfield 15, 3) := by decide +kernel
theorem d10 : decode yB 10 = .ok (.goto 4, 3) := by decide +kernel
theorem d14 : decode yB 14 = .ok (.ireturn, 1) := by decide +kernel
def site : List Cond := [.fieldLink "java/lang/String" 38 "java/lang/String" "COMPACT_STRINGS" "Z", .fieldLink "java/lang/String" 15 "java/lang/String" "coder" "B"]
def tab : Cond := tabOf yN yB 1 (some .byte) site
def P (x : Addr) (cd z : Int32) (args : Array Value) (s : State) : Prop := args = #[.ref x] ∧ Has x "java/lang/String" "coder" "B" (.int cd) s ∧ (cd = 0 ∨ cd = 1) ∧ StaticIs s "java/lang/String" "COMPACT_STRINGS" "Z" (.int z) ∧ ¬ z = 0
def E (cd : Int32) (r : Option Value) (s u : State) : Prop := XT.PureE (some (.int cd)) r s u
theorem law (l : Launch) (x : Addr) (cd z : Int32) : Law l yN 1 0 0 0 yB 1 (some .byte) site (P x cd z) (E cd) [] 0 0 := by
  refine Law.of_walk (plainFor_of_name (by decide +kernel)) (by decide +kernel) (by decide +kernel) (by decide) (fun _ _ h => by rw [h.1]; rfl) (fun _ U U' hal hh h => ⟨h.1, h.2.1.mv hal hh, h.2.2.1, h.2.2.2.1.there hal hh, h.2.2.2.2⟩) (fun r U U' V V' h1 hal h2 h => XT.PureE.mv r U U' V V' h1 hal h2 h) ?_
  intro p e s m args below meth c s₁ X0 hexec hbytes hml hret hlk hnm hown hh0 W hP
  obtain ⟨rfl, hx, hc, s1, hz⟩ := hP
  have c1 : Steps p.tables e below (s₁.setTop (entryFrame m #[.ref x] 1)) (s₁.setTop (mkF m 0 #[.val (.ref x)] [])) := entry rfl
  obtain ⟨T2, X2, q2, st2⟩ := X0.sget hexec hown (wk W (.fieldLink "java/lang/String" 38 "java/lang/String" "COMPACT_STRINGS" "Z")) s1 (fun _ _ h => by rw [hh0]; exact h) (g := (mkF m 0 #[.val (.ref x)] [])) rfl (hb hbytes d0)
  have hh2 := q2.trans hh0
  have c3 : Steps p.tables e below (s₁.setTop (entryFrame m #[.ref x] 1)) (T2.setTop (mkF m 7 #[.val (.ref x)] [.ref x])) := (c1.trans (st2 _ (Steps.refl _))).trans (by
    refine XS.ifNo X2.here hexec rfl (hb hbytes d3) rfl (i0_eq_f hz) ?_
    refine XS.aloadN X2.here hexec rfl (hb hbytes d6) rfl rfl ?_
    exact Steps.refl _)
  obtain ⟨T4, X4, q4, st4⟩ := X2.hget hexec hown (wk W (.fieldLink "java/lang/String" 15 "java/lang/String" "coder" "B")) (hx.mv X2.warmed.alike hh2) (g := (mkF m 7 #[.val (.ref x)] [.ref x])) rfl (rest := []) rfl (hb hbytes d7)
  have c5 : Steps p.tables e below (s₁.setTop (entryFrame m #[.ref x] 1)) (T4.setTop (mkF m 14 #[.val (.ref x)] [.int cd])) := (c3.trans (st4 _ (Steps.refl _))).trans (by
    refine XS.goto X4.here hexec rfl (pc0 := 10) rfl (hb hbytes d10) (by decide) rfl ?_
    exact Steps.refl _)
  exact ⟨T4, some (.int cd), _, _, _, X4, rfl, rfl, rfl, (fun h => by cases h), ⟨rfl, q4.trans hh2⟩, fun fs hl => c5.trans (X4.ireturnOut hexec hret (by rcases hc with rfl | rfl <;> rfl) (Or.inr (Or.inr (Or.inl rfl))) (hb hbytes d14) hl)⟩
end Cdr
namespace Len
def yN : MethodName := ⟨"java/lang/String", "length", "()I"⟩
abbrev yB : ByteArray := jdk_42_method_54_code
theorem d0 : decode yB 0 = .ok (.aload_n 0, 1) := by decide +kernel
theorem d1 : decode yB 1 = .ok (.getfield 9, 3) := by decide +kernel
theorem d4 : decode yB 4 = .ok (.arraylength, 1) := by decide +kernel
theorem d5 : decode yB 5 = .ok (.aload_n 0, 1) := by decide +kernel
theorem d6 : decode yB 6 = .ok (.invokevirtual 335, 3) := by decide +kernel
theorem d9 : decode yB 9 = .ok (.ishr, 1) := by decide +kernel
theorem d10 : decode yB 10 = .ok (.ireturn, 1) := by decide +kernel
def site : List Cond := [.fieldLink "java/lang/String" 9 "java/lang/String" "value" "[B", Cdr.tab] ++ virtW "java/lang/String" 335 "java/lang/String" Cdr.yN Cdr.yN
def tab : Cond := tabOf yN yB 1 (some .int) site
def P (x t : Addr) (V : Cell) (cd : Int32) (n : Nat) (f : Nat → Int32) (z : Int32) (args : Array Value) (s : State) : Prop := args = #[.ref x] ∧ Txt x t V cd n f s ∧ StaticIs s "java/lang/String" "COMPACT_STRINGS" "Z" (.int z) ∧ ¬ z = 0
def E (n : Nat) (r : Option Value) (s u : State) : Prop := XT.PureE (some (.int (Int32.ofNat n))) r s u
/-- length() of a String of n chars, in either coding -/
theorem law (l : Launch) (x t : Addr) (V : Cell) (cd : Int32) (n : Nat) (f : Nat → Int32) (z : Int32) : Law l yN 1 0 1 13 yB 1 (some .int) site (P x t V cd n f z) (E n) [] 0 0 := by
  refine Law.of_walk (plainFor_of_name (by decide +kernel)) (by decide +kernel) (by decide +kernel) (by decide) (fun _ _ h => by rw [h.1]; rfl) (fun _ U U' hal hh h => ⟨h.1, h.2.1.mv hal hh, h.2.2.1.there hal hh, h.2.2.2⟩) (fun r U U' V V' h1 hal h2 h => XT.PureE.mv r U U' V V' h1 hal h2 h) ?_
  intro p e s m args below meth c s₁ X0 hexec hbytes hml hret hlk hnm hown hh0 W hP
  obtain ⟨rfl, hx, s1, hz⟩ := hP
  have v31 := hx.2.2.2.1.2.2.2
  have c1 : Steps p.tables e below (s₁.setTop (entryFrame m #[.ref x] 1)) (s₁.setTop (mkF m 1 #[.val (.ref x)] [.ref x])) := Steps.trans (entry rfl) (by
    show Steps p.tables e below (s₁.setTop (mkF m 0 #[.val (.ref x)] [])) _
    refine XS.aloadN X0.here hexec rfl (hb hbytes d0) rfl rfl ?_
    exact Steps.refl _)
  obtain ⟨T2, X2, q2, st2⟩ := X0.hget hexec hown (wk W (.fieldLink "java/lang/String" 9 "java/lang/String" "value" "[B")) (hx.mv X0.warmed.alike hh0).2.1 (g := (mkF m 1 #[.val (.ref x)] [.ref x])) rfl (rest := []) rfl (hb hbytes d1)
  have hh2 := q2.trans hh0
  have hx2 := hx.mv X2.warmed.alike hh2
  have c3 : Steps p.tables e below (s₁.setTop (entryFrame m #[.ref x] 1)) (T2.setTop (mkF m 6 #[.val (.ref x)] [.ref x, .int (Int32.ofNat V.slots.size)])) := (c1.trans (st2 _ (Steps.refl _))).trans (by
    refine X2.alen hexec hx2.2.2.2.1 rfl rfl (hb hbytes d4) ?_
    refine XS.aloadN X2.here hexec rfl (hb hbytes d5) rfl rfl ?_
    exact Steps.refl _)
  obtain ⟨v4, T4, X4, E4, g4⟩ := X2.callV hexec (Cdr.law l x cd z) hown (wks W (virtW "java/lang/String" 335 "java/lang/String" Cdr.yN Cdr.yN)) rfl (by decide) (wk W Cdr.tab) (W := 1) (Nat.le_of_ble_eq_true rfl) (Nat.le_of_ble_eq_true rfl) (Nat.le_refl _) (Nat.le_refl _) (hx2.1.fc X2.warmed.alike) hx2.1.is (g := (mkF m 6 #[.val (.ref x)] [.ref x, .int (Int32.ofNat V.slots.size)])) rfl (by rw [hml]; rfl) c3 (argsL := []) (rest := [.int (Int32.ofNat V.slots.size)]) rfl rfl (by show 2 * 0 + (1 + 0) ≤ _; decide) (hb hbytes d6) (⟨rfl, hx2.2.2.1, hx.2.2.2.2.1.cd, s1.there X2.warmed.alike hh2, hz⟩)
  obtain ⟨rfl, q4⟩ := E4
  have c5 : Steps p.tables e below (s₁.setTop (entryFrame m #[.ref x] 1)) (T4.setTop (mkF m 10 #[.val (.ref x)] [.int (Int32.ofNat V.slots.size >>> (cd &&& 31))])) := Steps.trans g4 (by
    refine ishr X4.here hexec rfl (hb hbytes d9) rfl ?_
    exact Steps.refl _)
  rw [hx.2.2.2.2.1.len v31] at c5
  exact ⟨T4, some (.int (Int32.ofNat n)), _, _, _, X4, rfl, rfl, rfl, (fun h => by cases h), ⟨rfl, q4.trans hh2⟩, fun fs hl => c5.trans (X4.ireturnOut hexec hret rfl (Or.inl rfl) (hb hbytes d10) hl)⟩
theorem pays {l : Launch} {R : Room} {p : Program} {e : Env} {below : List Frame} {s : State} {sargs : Array Value} {len W : Nat} (x t : Addr) (V : Cell) (cd : Int32) (n : Nat) (f : Nat → Int32) (z : Int32) (htab : tab.before sargs s = true) (hfr : 2 ≤ R.frames) (hlo : W + 25 ≤ R.locals) :
    Back l R p e below s sargs yN len W (fun A₁ a₁ => A₁.cells + 0 ≤ R.cells ∧ A₁.slots + 0 ≤ R.slots ∧ P x t V cd n f z a₁ A₁.U) (fun A₁ _ v₁ B₁ => E n v₁ A₁.U B₁.U ∧ B₁.locs = A₁.locs ++ [] ∧ B₁.cells = A₁.cells + 0 ∧ B₁.slots = A₁.slots + 0) :=
  (law l x t V cd n f z).pays htab hfr (by omega)
end Len
namespace IsL
def yN : MethodName := ⟨"java/lang/String", "isLatin1", "()Z"⟩
abbrev yB : ByteArray := jdk_42_method_154_code
theorem d0 : decode yB 0 = .ok (.getstatic 38, 3) := by decide +kernel
theorem d3 : decode yB 3 = .ok (.ifCond (.eq) 14, 3) := by decide +kernel
theorem d6 : decode yB 6 = .ok (.aload_n 0, 1) := by decide +kernel
theorem d7 : decode yB 7 = .ok (.getfield 15, 3) := by decide +kernel
theorem d10 : decode yB 10 = .ok (.ifCond (.ne) 7, 3) := by decide +kernel
theorem d13 : decode yB 13 = .ok (.iconst 1, 1) := by decide +kernel
theorem d14 : decode yB 14 = .ok (.goto 4, 3) := by decide +kernel
theorem d17 : decode yB 17 = .ok (.iconst 0, 1) := by decide +kernel
theorem d18 : decode yB 18 = .ok (.ireturn, 1) := by decide +kernel
def site : List Cond := [.fieldLink "java/lang/String" 38 "java/lang/String" "COMPACT_STRINGS" "Z", .fieldLink "java/lang/String" 15 "java/lang/String" "coder" "B"]
def tab : Cond := tabOf yN yB 1 (some .boolean) site
def P (x : Addr) (cd z : Int32) (args : Array Value) (s : State) : Prop := args = #[.ref x] ∧ Has x "java/lang/String" "coder" "B" (.int cd) s ∧ (cd = 0 ∨ cd = 1) ∧ StaticIs s "java/lang/String" "COMPACT_STRINGS" "Z" (.int z) ∧ ¬ z = 0
def E (cd : Int32) (r : Option Value) (s u : State) : Prop := XT.PureE (some (.int (1 - cd))) r s u
theorem law (l : Launch) (x : Addr) (cd z : Int32) : Law l yN 1 0 0 0 yB 1 (some .boolean) site (P x cd z) (E cd) [] 0 0 := by
  refine Law.of_walk (plainFor_of_name (by decide +kernel)) (by decide +kernel) (by decide +kernel) (by decide) (fun _ _ h => by rw [h.1]; rfl) (fun _ U U' hal hh h => ⟨h.1, h.2.1.mv hal hh, h.2.2.1, h.2.2.2.1.there hal hh, h.2.2.2.2⟩) (fun r U U' V V' h1 hal h2 h => XT.PureE.mv r U U' V V' h1 hal h2 h) ?_
  intro p e s m args below meth c s₁ X0 hexec hbytes hml hret hlk hnm hown hh0 W hP
  obtain ⟨rfl, hx, hc, s1, hz⟩ := hP
  have c1 : Steps p.tables e below (s₁.setTop (entryFrame m #[.ref x] 1)) (s₁.setTop (mkF m 0 #[.val (.ref x)] [])) := entry rfl
  obtain ⟨T2, X2, q2, st2⟩ := X0.sget hexec hown (wk W (.fieldLink "java/lang/String" 38 "java/lang/String" "COMPACT_STRINGS" "Z")) s1 (fun _ _ h => by rw [hh0]; exact h) (g := (mkF m 0 #[.val (.ref x)] [])) rfl (hb hbytes d0)
  have hh2 := q2.trans hh0
  have c3 : Steps p.tables e below (s₁.setTop (entryFrame m #[.ref x] 1)) (T2.setTop (mkF m 7 #[.val (.ref x)] [.ref x])) := (c1.trans (st2 _ (Steps.refl _))).trans (by
    refine XS.ifNo X2.here hexec rfl (hb hbytes d3) rfl (i0_eq_f hz) ?_
    refine XS.aloadN X2.here hexec rfl (hb hbytes d6) rfl rfl ?_
    exact Steps.refl _)
  obtain ⟨T4, X4, q4, st4⟩ := X2.hget hexec hown (wk W (.fieldLink "java/lang/String" 15 "java/lang/String" "coder" "B")) (hx.mv X2.warmed.alike hh2) (g := (mkF m 7 #[.val (.ref x)] [.ref x])) rfl (rest := []) rfl (hb hbytes d7)
  have c5 : Steps p.tables e below (s₁.setTop (entryFrame m #[.ref x] 1)) (T4.setTop (mkF m 10 #[.val (.ref x)] [.int cd])) := c3.trans (st4 _ (Steps.refl _))
  have c6 : Steps p.tables e below (s₁.setTop (entryFrame m #[.ref x] 1)) (T4.setTop (mkF m 18 #[.val (.ref x)] [.int (1 - cd)])) := by
    rcases hc with rfl | rfl
    · exact c5.trans (by
        refine XS.ifNo X4.here hexec rfl (hb hbytes d10) rfl (i0_ne_f rfl) ?_
        refine iconstV X4.here hexec rfl 1 (hb hbytes d13) (by decide) ?_
        refine XS.goto X4.here hexec rfl (pc0 := 14) rfl (hb hbytes d14) (by decide) rfl ?_
        exact Steps.refl _)
    · exact c5.trans (by
        refine XS.ifYes X4.here hexec rfl (pc0 := 10) rfl (hb hbytes d10) rfl (i0_ne_t (by decide)) (by decide) rfl ?_
        refine iconstV X4.here hexec rfl 0 (hb hbytes d17) (by decide) ?_
        exact Steps.refl _)
  exact ⟨T4, some (.int (1 - cd)), _, _, _, X4, rfl, rfl, rfl, (fun h => by cases h), ⟨rfl, q4.trans hh2⟩, fun fs hl => c6.trans (X4.ireturnOut hexec hret (by rcases hc with rfl | rfl <;> rfl) (Or.inr (Or.inl rfl)) (hb hbytes d18) hl)⟩
end IsL
namespace LChA
def yN : MethodName := ⟨"java/lang/StringLatin1", "charAt", "([BI)C"⟩
abbrev yB : ByteArray := jdk_43_method_2_code
theorem d0 : decode yB 0 = .ok (.iload_n 1, 1) := by decide +kernel
theorem d1 : decode yB 1 = .ok (.aload_n 0, 1) := by decide +kernel
theorem d2 : decode yB 2 = .ok (.arraylength, 1) := by decide +kernel
theorem d3 : decode yB 3 = .ok (.invokestatic 9, 3) := by decide +kernel
theorem d6 : decode yB 6 = .ok (.aload_n 0, 1) := by decide +kernel
theorem d7 : decode yB 7 = .ok (.iload_n 1, 1) := by decide +kernel
theorem d8 : decode yB 8 = .ok (.baload, 1) := by decide +kernel
theorem d9 : decode yB 9 = .ok (.sipush 255, 3) := by decide +kernel
theorem d12 : decode yB 12 = .ok (.iand, 1) := by decide +kernel
theorem d13 : decode yB 13 = .ok (.i2c, 1) := by decide +kernel
theorem d14 : decode yB 14 = .ok (.ireturn, 1) := by decide +kernel
def site : List Cond := [JO.Str_checkIndex.tab] ++ staticW "java/lang/StringLatin1" 9 JO.Str_checkIndex.yN
def tab : Cond := tabOf yN yB 2 (some .char) site
def P (t : Addr) (V : Cell) (i : Nat) (u : Int32) (fm : Value) (args : Array Value) (s : State) : Prop := args = #[.ref t, .int (Int32.ofNat i)] ∧ XT.Arr .byte t V s ∧ V.slots[i]? = some (.int u) ∧ (StaticIs s "jdk/internal/util/Preconditions" "SIOOBE_FORMATTER" "Ljava/util/function/BiFunction;" fm ∧ fm.isRef = true)
def E (u : Int32) (r : Option Value) (s w : State) : Prop := XT.PureE (some (.int (chr8 u))) r s w
theorem law (l : Launch) (t : Addr) (V : Cell) (i : Nat) (u : Int32) (fm : Value) : Law l yN 2 2 2 27 yB 2 (some .char) site (P t V i u fm) (E u) [] 0 0 := by
  refine Law.of_walk (plainFor_of_name (by decide +kernel)) (by decide +kernel) (by decide +kernel) (by decide) (fun _ _ h => by rw [h.1]; rfl) (fun _ U U' hal hh h => ⟨h.1, h.2.1.mv hal hh, h.2.2.1, h.2.2.2.1.there hal hh, h.2.2.2.2⟩) (fun r U U' V V' h1 hal h2 h => XT.PureE.mv r U U' V V' h1 hal h2 h) ?_
  intro p e s m args below meth c s₁ X0 hexec hbytes hml hret hlk hnm hown hh0 W hP
  obtain ⟨rfl, hV, hu, s1, rf⟩ := hP
  have v31 := hV.2.2.2
  have hi : i < V.slots.size := (Array.getElem?_eq_some_iff.mp hu).1
  have c1 : Steps p.tables e below (s₁.setTop (entryFrame m #[.ref t, .int (Int32.ofNat i)] 2)) (s₁.setTop (mkF m 0 #[.val (.ref t), .val (.int (Int32.ofNat i))] [])) := entry rfl
  have c2 : Steps p.tables e below (s₁.setTop (entryFrame m #[.ref t, .int (Int32.ofNat i)] 2)) (s₁.setTop (mkF m 3 #[.val (.ref t), .val (.int (Int32.ofNat i))] [.int (Int32.ofNat V.slots.size), .int (Int32.ofNat i)])) := c1.trans (by
    refine XS.iloadN X0.here hexec rfl (hb hbytes d0) rfl ?_
    refine XS.aloadN X0.here hexec rfl (hb hbytes d1) rfl rfl ?_
    refine X0.alen hexec (hV.mv X0.warmed.alike hh0) rfl rfl (hb hbytes d2) ?_
    exact Steps.refl _)
  obtain ⟨v3, T3, X3, E3, g3⟩ := X0.callS hexec (JO.Str_checkIndex.law l (Int32.ofNat i) (Int32.ofNat V.slots.size) fm) hown (wks W (staticW "java/lang/StringLatin1" 9 JO.Str_checkIndex.yN)) (wk W JO.Str_checkIndex.tab) (W := 0) (Nat.le_of_ble_eq_true rfl) (Nat.le_of_ble_eq_true rfl) (Nat.le_refl _) (Nat.le_refl _) (g := (mkF m 3 #[.val (.ref t), .val (.int (Int32.ofNat i))] [.int (Int32.ofNat V.slots.size), .int (Int32.ofNat i)])) rfl (by rw [hml]; rfl) c2 (argsL := [.int (Int32.ofNat i), .int (Int32.ofNat V.slots.size)]) (rest := []) rfl rfl (by show 2 * 0 + 0 ≤ _; decide) (hb hbytes d3) (⟨rfl, rf, s1.there X0.warmed.alike hh0, Int32.ofNat_not_neg (by omega), lt32 v31 hi⟩)
  obtain ⟨rfl, q3⟩ := E3
  have hh3 := q3.trans hh0
  have c4 : Steps p.tables e below (s₁.setTop (entryFrame m #[.ref t, .int (Int32.ofNat i)] 2)) (T3.setTop (mkF m 14 #[.val (.ref t), .val (.int (Int32.ofNat i))] [.int (chr8 u)])) := Steps.trans g3 (by
    refine XS.aloadN X3.here hexec rfl (hb hbytes d6) rfl rfl ?_
    refine XS.iloadN X3.here hexec rfl (hb hbytes d7) rfl ?_
    refine X3.aget hexec (hV.mv X3.warmed.alike hh3) rfl hu rfl rfl (hb hbytes d8) ?_
    refine sipushV X3.here hexec rfl 255 (hb hbytes d9) (by decide) ?_
    refine XS.iand X3.here hexec rfl (hb hbytes d12) rfl ?_
    refine i2c X3.here hexec rfl (hb hbytes d13) rfl ?_
    exact Steps.refl _)
  exact ⟨T3, some (.int (chr8 u)), _, _, _, X3, rfl, rfl, rfl, (fun h => by cases h), ⟨rfl, hh3⟩, fun fs hl => c4.trans (X3.ireturnOut hexec hret (narrow_c _) (Or.inr (Or.inr (Or.inr (Or.inl rfl)))) (hb hbytes d14) hl)⟩
end LChA
end StrChars
namespace StrChars.Road
open Jvm Sem ClassFile Op Lib Jvm.Stand Jvm.Free Jvm.Free.XT
open Jvm.Lib.Cold (StaticIs)
theorem consq {a : Array Value} {s : State} {c : Jvm.Cond} {L : List Jvm.Cond} (h0 : c.before a s = true) (h : ∀ w ∈ L, w.before a s = true) : ∀ w ∈ c :: L, w.before a s = true := fun w hw => (List.mem_cons.mp hw).elim (fun e => e ▸ h0) (h w)
/-- the words of String.length(), either coding -/
abbrev wordsLen : List Jvm.Cond := [.code Len.yN Len.yB 1 (some .int), .initialized ST, .fieldLink ST 9 ST "value" "[B", .fieldLink ST 38 ST "COMPACT_STRINGS" "Z", .fieldLink ST 15 ST "coder" "B", .code Cdr.yN Cdr.yB 1 (some .byte), .methodLink ST 335 Cdr.yN, .declares Cdr.yN, .selects ST Cdr.yN Cdr.yN, .instanceMethod Cdr.yN]
theorem tabLen_of {a : Array Value} {s : State} (h : ∀ w ∈ wordsLen, w.before a s = true) : Len.tab.before a s = true := by
  have hc : Cdr.tab.before a s = true := unparts (wk h (.code Cdr.yN Cdr.yB 1 (some .byte))) (wks h (.initialized Cdr.yN.cls :: Cdr.site))
  have q := consq hc h
  exact unparts (wk q (.code Len.yN Len.yB 1 (some .int))) (wks q (.initialized Len.yN.cls :: Len.site))
theorem movedLen {Z s : State} {a0 args : Array Value} (hZ : Z.Warmed39 s.vm) (hw : ∀ d ∈ wordsLen, d.before a0 Z = true) : ∀ d ∈ wordsLen, d.before args s = true := fun d hd => by
  have q := hw d hd
  have t : ∀ d ∈ wordsLen, d = .arrayClass .byte ∨ (d.onTables && d.keepsFace) = true := by decide +kernel
  rcases t d hd with rfl | t
  · exact RoadKit.mvA hZ q
  · exact RoadKit.mv hZ q t
/-- the bytes of the chars cs, low before high -/
def wideBytes : List Int32 → List Value
  | [] => []
  | c :: cs => .int (lo8 c) :: .int (hi8 c) :: wideBytes cs
theorem wide_lo (d : Value) : ∀ (cs : List Int32) (j : Nat), j < cs.length → (wideBytes cs).getD (2 * j) d = .int (lo8 (cs.getD j 0))
  | [], j, h => absurd h (Nat.not_lt_zero j)
  | c :: cs, 0, _ => rfl
  | c :: cs, j + 1, h => by
    have q := wide_lo d cs j (by simpa using h)
    rw [show 2 * (j + 1) = 2 * j + 1 + 1 from by omega]
    simpa [wideBytes] using q
theorem wide_hi (d : Value) : ∀ (cs : List Int32) (j : Nat), j < cs.length → (wideBytes cs).getD (2 * j + 1) d = .int (hi8 (cs.getD j 0))
  | [], j, h => absurd h (Nat.not_lt_zero j)
  | c :: cs, 0, _ => rfl
  | c :: cs, j + 1, h => by
    have q := wide_hi d cs j (by simpa using h)
    rw [show 2 * (j + 1) + 1 = 2 * j + 1 + 1 + 1 from by omega]
    simpa [wideBytes] using q
theorem low_at (d : Value) (cs : List Int32) (j : Nat) (h : j < cs.length) : (cs.map fun c => Value.int (lo8 c)).getD j d = .int (lo8 (cs.getD j 0)) := by
  simp [List.getD_eq_getElem?_getD, h]
/-- an array of N2 bytes vs codes the chars cs by the coder cd -/
def CodA (cs : List Int32) (cd N2 : Int32) (vs : List Value) : Prop := (cd = 0 ∧ N2 = Int32.ofNat cs.length ∧ vs = (cs.map fun c => Value.int (lo8 c)) ∧ ∀ c ∈ cs, ¬ 255 < c) ∨ (cd = 1 ∧ N2 = Int32.ofNat (2 * cs.length) ∧ vs = wideBytes cs ∧ ∃ c ∈ cs, 255 < c)
theorem CodA.cod {cs : List Int32} {cd N2 : Int32} {vs : List Value} {V : Cell} (h : CodA cs cd N2 vs) (hn : 2 * cs.length < 2 ^ 31) (hs : V.slots.size = N2.toNatClampNeg) (hv : RoadKit.Has V vs (.int 0)) : Cod cd cs.length (fun j => cs.getD j 0) V := by
  rcases h with ⟨rfl, rfl, rfl, h⟩ | ⟨rfl, rfl, rfl, c, hc, hw⟩
  · rw [n32 (by omega)] at hs
    exact Or.inl ⟨rfl, hs, fun j hj => ⟨by rw [hv j (by omega), low_at _ _ _ hj], by
      have e : cs.getD j 0 = cs[j] := by simp [List.getD_eq_getElem?_getD, hj]
      show ¬ 255 < cs.getD j 0
      rw [e]; exact h _ (List.getElem_mem _)⟩⟩
  · rw [n32 (by omega)] at hs
    obtain ⟨j, hj, rfl⟩ := List.getElem_of_mem hc
    exact Or.inr ⟨rfl, hs, fun j hj => ⟨by rw [hv _ (by omega), wide_lo _ _ _ hj], by rw [hv _ (by omega), wide_hi _ _ _ hj]⟩, j, hj, by
      have e : cs.getD j 0 = cs[j] := by simp [List.getD_eq_getElem?_getD, hj]
      show 255 < cs.getD j 0
      rw [e]; exact hw⟩
/-- an object of exactly java/lang/String, its two fields found: as the laws ask it -/
theorem strObj {Z U : State} {a0 : Array Value} {kI : Nat} (wi : (Jvm.Cond.instantiable ST kI).before a0 Z = true) (al : Z.vm.Alike U.vm) {x : Addr} {v0 c0 : Value} (E : RoadKit.Exa Z U.heap x ST) (V : RoadKit.Fld Z U.heap x ST "value" "[B" v0) (C : RoadKit.Fld Z U.heap x ST "coder" "B" c0) :
    ∃ (D : Cell) (fV fC : Field), Blank ST x D U ∧ Found ST "value" "[B" fV U ∧ Found ST "coder" "B" fC U ∧ D.slots[fV.slot]? = some v0 ∧ D.slots[fC.slot]? = some c0 ∧ RoadKit.slotOf Z ST "value" "[B" = fV.slot ∧ RoadKit.slotOf Z ST "coder" "B" = fC.slot := by
  obtain ⟨D, cfV, kV, iV, fV, hD, gV, stV, knV, obV, asV, slV⟩ := V
  obtain ⟨D', cfC, kC, iC, fC, hD', gC, stC, -, -, asC, slC⟩ := C
  cases hD.symm.trans hD'
  obtain ⟨D2, kD, e1, e2, e3, e4, e5⟩ := E
  cases hD.symm.trans e1
  obtain ⟨c2, k2, i1, i2, i3, -⟩ := Cond.instantiable_spec wi
  cases e2.symm.trans i1
  cases e3.symm.trans i2
  obtain ⟨kU, u1, u2⟩ := al.2.2 _ _ e3
  exact ⟨D, fV, fC, ⟨hD, ⟨knV, fun q hq => by rw [hq] at obV; cases obV⟩, by rw [al.findClass]; exact e2, kU, u1, by rw [u2]; exact i3, by rw [u2]; exact e5 i3⟩, ⟨SBG.found_only al ⟨cfV, kV, iV, gV⟩, stV⟩, ⟨SBG.found_only al ⟨cfC, kC, iC, gC⟩, stC⟩, slV, slC, by simp [RoadKit.slotOf, gV], by simp [RoadKit.slotOf, gC]⟩
theorem sta_is {Z U : State} (al : Z.vm.Alike U.vm) {C n d : String} {v : Value} (S : RoadKit.Sta Z U.heap C n d v) : StaticIs U C n d v := by
  obtain ⟨cfS, iS, kS, fS, st, cS, t1, t2, t3, t4, t5, t6, t7⟩ := S
  exact StaticIs.there (s := { Z with heap := U.heap }) ⟨cfS, iS, kS, fS, st, cS, t1, t2, t3, t4, t5, (fun q => by rw [q] at t6; cases t6), t7⟩ al rfl
/-- **length() OF SUCH A STRING** -/
theorem lenW {p : Program} {l : Launch} {e : Env} {R : Room} {s : State} {args : Array Value} {below : List Frame} {len W : Nat} {Z : State} {a0 : Array Value} {h : Heap} (hZ : Z.Warmed39 s.vm) (hw : ∀ d ∈ wordsLen, d.before a0 Z = true) {kI : Nat} (wi : (Jvm.Cond.instantiable ST kI).before a0 Z = true)
    {x t : Addr} {kb : ClassId} {cs : List Int32} {cd N2 z : Int32} {vs : List Value} (E : RoadKit.Exa Z h x ST) (V : RoadKit.Fld Z h x ST "value" "[B" (.ref t)) (C : RoadKit.Fld Z h x ST "coder" "B" (.int cd)) (K : RoadKit.Arv Z h t kb .byte N2 vs (.int 0)) (hc : CodA cs cd N2 vs) (hb : ∀ c ∈ cs, ¬ c < 0 ∧ ¬ (65535 : Int32) < c)
    (S : RoadKit.Sta Z h ST "COMPACT_STRINGS" "Z" (.int z)) (hz : ¬ z = 0) (l2 : cs.length ≤ 4000) (hfr : 2 ≤ R.frames) (hlo : W + 25 ≤ R.locals) :
    Back l R p e below s args (⟨"java/lang/String", "length", "()I"⟩ : MethodName) len W (fun P a => a = #[.ref x] ∧ P.U.heap = h ∧ P.cells + 0 ≤ R.cells ∧ P.slots + 0 ≤ R.slots)
      (fun P _ v B => ∃ L, (v = some (.int (Int32.ofNat cs.length)) ∧ L = [] ∧ B.U.heap = h) ∧ B.locs = P.locs ++ L ∧ B.cells = P.cells + 0 ∧ B.slots = P.slots + 0) := by
  obtain ⟨A, K1, K2, K3, K4, K5, K6⟩ := K
  have hcod := hc.cod (by omega) K3 K5
  intro m meth c P g ig mk a X hg hsize hdg hW hn hp'
  obtain ⟨rfl, rfl, r1, r2⟩ := hp'
  have al : Z.vm.Alike P.U.vm := hZ.alike.trans X.warmed.alike
  obtain ⟨D, fV, fC, hB, F1, F2, g1, g2, -, -⟩ := strObj wi al E V C
  have hx : Txt x t A cd cs.length (fun j => cs.getD j 0) P.U := ⟨⟨_, hB.2.2.1, D, hB.1, rfl, by cases q : D.vm <;> first | rfl | exact absurd q (hB.2.1.2 _)⟩, Has.of hB F1 g1, Has.of hB F2 g2, ⟨K1.1, State.isArrayOf_alike al K1.2.1, K1.2.2, by rcases hcod with ⟨-, q, -⟩ | ⟨-, q, -⟩ <;> omega⟩, hcod, fun j hj => by
    have e : cs.getD j 0 = cs[j] := by simp [List.getD_eq_getElem?_getD, hj]
    show ¬ cs.getD j 0 < 0 ∧ ¬ 65535 < cs.getD j 0
    rw [e]; exact hb _ (List.getElem_mem _)⟩
  obtain ⟨v, B, X', ⟨⟨hv, hh⟩, hl, hk, hs⟩, st⟩ := Len.pays x t A cd cs.length (fun j => cs.getD j 0) z (tabLen_of (movedLen hZ hw)) hfr hlo m meth c P g ig mk _ X hg hsize hdg hW hn ⟨r1, r2, rfl, hx, sta_is al S, hz⟩
  exact ⟨v, B, X', ⟨[], ⟨hv, rfl, hh⟩, hl, hk, hs⟩, st⟩
end StrChars.Road
namespace StrChars
open Jvm Sem ClassFile Op Lib Jvm.Stand Jvm.Free.XT Jvm.Free.ALB Jvm.Free.JM Jvm.Free
open Jvm.Lib.Cold (StaticIs)
namespace Emp
def yN : MethodName := ⟨"java/lang/String", "isEmpty", "()Z"⟩
abbrev yB : ByteArray := jdk_42_method_55_code
theorem d0 : decode yB 0 = .ok (.aload_n 0, 1) := by decide +kernel
theorem d1 : decode yB 1 = .ok (.getfield 9, 3) := by decide +kernel
theorem d4 : decode yB 4 = .ok (.arraylength, 1) := by decide +kernel
theorem d5 : decode yB 5 = .ok (.ifCond (.ne) 7, 3) := by decide +kernel
theorem d8 : decode yB 8 = .ok (.iconst 1, 1) := by decide +kernel
theorem d9 : decode yB 9 = .ok (.goto 4, 3) := by decide +kernel
theorem d12 : decode yB 12 = .ok (.iconst 0, 1) := by decide +kernel
theorem d13 : decode yB 13 = .ok (.ireturn, 1) := by decide +kernel
def site : List Cond := [.fieldLink "java/lang/String" 9 "java/lang/String" "value" "[B"]
def tab : Cond := tabOf yN yB 1 (some .boolean) site
def P (x t : Addr) (V : Cell) (cd : Int32) (n : Nat) (f : Nat → Int32) (args : Array Value) (s : State) : Prop := args = #[.ref x] ∧ Txt x t V cd n f s
def E (n : Nat) (r : Option Value) (s u : State) : Prop := XT.PureE (some (.int (if n = 0 then 1 else 0))) r s u
/-- isEmpty() of a String of n chars -/
theorem law (l : Launch) (x t : Addr) (V : Cell) (cd : Int32) (n : Nat) (f : Nat → Int32) : Law l yN 1 0 0 0 yB 1 (some .boolean) site (P x t V cd n f) (E n) [] 0 0 := by
  refine Law.of_walk (plainFor_of_name (by decide +kernel)) (by decide +kernel) (by decide +kernel) (by decide) (fun _ _ h => by rw [h.1]; rfl) (fun _ U U' hal hh h => ⟨h.1, h.2.mv hal hh⟩) (fun r U U' V V' h1 hal h2 h => XT.PureE.mv r U U' V V' h1 hal h2 h) ?_
  intro p e s m args below meth c s₁ X0 hexec hbytes hml hret hlk hnm hown hh0 W hP
  obtain ⟨rfl, hx⟩ := hP
  have v31 := hx.2.2.2.1.2.2.2
  have c1 : Steps p.tables e below (s₁.setTop (entryFrame m #[.ref x] 1)) (s₁.setTop (mkF m 1 #[.val (.ref x)] [.ref x])) := Steps.trans (entry rfl) (by
    show Steps p.tables e below (s₁.setTop (mkF m 0 #[.val (.ref x)] [])) _
    refine XS.aloadN X0.here hexec rfl (hb hbytes d0) rfl rfl ?_
    exact Steps.refl _)
  obtain ⟨T2, X2, q2, st2⟩ := X0.hget hexec hown (wk W (.fieldLink "java/lang/String" 9 "java/lang/String" "value" "[B")) (hx.mv X0.warmed.alike hh0).2.1 (g := (mkF m 1 #[.val (.ref x)] [.ref x])) rfl (rest := []) rfl (hb hbytes d1)
  have hh2 := q2.trans hh0
  have hx2 := hx.mv X2.warmed.alike hh2
  have c3 : Steps p.tables e below (s₁.setTop (entryFrame m #[.ref x] 1)) (T2.setTop (mkF m 5 #[.val (.ref x)] [.int (Int32.ofNat V.slots.size)])) := (c1.trans (st2 _ (Steps.refl _))).trans (by
    refine X2.alen hexec hx2.2.2.2.1 rfl rfl (hb hbytes d4) ?_
    exact Steps.refl _)
  have hz : V.slots.size = 0 ↔ n = 0 := by
    rcases hx.2.2.2.2.1 with ⟨-, q, -⟩ | ⟨-, q, -⟩ <;> omega
  by_cases h0 : n = 0
  · have c4 : Steps p.tables e below (s₁.setTop (entryFrame m #[.ref x] 1)) (T2.setTop (mkF m 13 #[.val (.ref x)] [.int 1])) := c3.trans (by
      refine XS.ifNo X2.here hexec rfl (hb hbytes d5) rfl (i0_ne_f (by rw [hz.mpr h0]; rfl)) ?_
      refine iconstV X2.here hexec rfl 1 (hb hbytes d8) (by decide) ?_
      refine XS.goto X2.here hexec rfl (pc0 := 9) rfl (hb hbytes d9) (by decide) rfl ?_
      exact Steps.refl _)
    exact ⟨T2, some (.int 1), _, _, _, X2, rfl, rfl, rfl, (fun h => by cases h), ⟨by rw [if_pos h0], hh2⟩, fun fs hl => c4.trans (X2.ireturnOut hexec hret rfl (Or.inr (Or.inl rfl)) (hb hbytes d13) hl)⟩
  · have c4 : Steps p.tables e below (s₁.setTop (entryFrame m #[.ref x] 1)) (T2.setTop (mkF m 13 #[.val (.ref x)] [.int 0])) := c3.trans (by
      refine XS.ifYes X2.here hexec rfl (pc0 := 5) rfl (hb hbytes d5) rfl (i0_ne_t (nz32 v31 (by omega))) (by decide) rfl ?_
      refine iconstV X2.here hexec rfl 0 (hb hbytes d12) (by decide) ?_
      exact Steps.refl _)
    exact ⟨T2, some (.int 0), _, _, _, X2, rfl, rfl, rfl, (fun h => by cases h), ⟨by rw [if_neg h0], hh2⟩, fun fs hl => c4.trans (X2.ireturnOut hexec hret rfl (Or.inr (Or.inl rfl)) (hb hbytes d13) hl)⟩
theorem pays {l : Launch} {R : Room} {p : Program} {e : Env} {below : List Frame} {s : State} {sargs : Array Value} {len W : Nat} (x t : Addr) (V : Cell) (cd : Int32) (n : Nat) (f : Nat → Int32) (htab : tab.before sargs s = true) (hfr : 1 ≤ R.frames) (hlo : W + 12 ≤ R.locals) :
    Back l R p e below s sargs yN len W (fun A₁ a₁ => A₁.cells + 0 ≤ R.cells ∧ A₁.slots + 0 ≤ R.slots ∧ P x t V cd n f a₁ A₁.U) (fun A₁ _ v₁ B₁ => E n v₁ A₁.U B₁.U ∧ B₁.locs = A₁.locs ++ [] ∧ B₁.cells = A₁.cells + 0 ∧ B₁.slots = A₁.slots + 0) :=
  (law l x t V cd n f).pays htab hfr (by omega)
end Emp
end StrChars
namespace StrChars.Road
open Jvm Sem ClassFile Op Lib Jvm.Stand Jvm.Free Jvm.Free.XT
open Jvm.Lib.Cold (StaticIs)
/-- the words of String.isEmpty() -/
abbrev wordsEmp : List Jvm.Cond := [.code Emp.yN Emp.yB 1 (some .boolean), .initialized ST, .fieldLink ST 9 ST "value" "[B"]
theorem tabEmp_of {a : Array Value} {s : State} (h : ∀ w ∈ wordsEmp, w.before a s = true) : Emp.tab.before a s = true := unparts (wk h (.code Emp.yN Emp.yB 1 (some .boolean))) (wks h (.initialized Emp.yN.cls :: Emp.site))
theorem movedEmp {Z s : State} {a0 args : Array Value} (hZ : Z.Warmed39 s.vm) (hw : ∀ d ∈ wordsEmp, d.before a0 Z = true) : ∀ d ∈ wordsEmp, d.before args s = true := fun d hd => by
  have t : ∀ d ∈ wordsEmp, (d.onTables && d.keepsFace) = true := by decide +kernel
  exact RoadKit.mv hZ (hw d hd) (t d hd)
/-- the road's facts of a String, as the laws ask it -/
theorem txt_of {Z U : State} {a0 : Array Value} {kI : Nat} (wi : (Jvm.Cond.instantiable ST kI).before a0 Z = true) (al : Z.vm.Alike U.vm) {x t : Addr} {kb : ClassId} {cs : List Int32} {cd N2 : Int32} {vs : List Value} (E : RoadKit.Exa Z U.heap x ST) (V : RoadKit.Fld Z U.heap x ST "value" "[B" (.ref t)) (C : RoadKit.Fld Z U.heap x ST "coder" "B" (.int cd)) (K : RoadKit.Arv Z U.heap t kb .byte N2 vs (.int 0)) (hc : CodA cs cd N2 vs) (hb : ∀ c ∈ cs, ¬ c < 0 ∧ ¬ (65535 : Int32) < c) (l2 : cs.length ≤ 4000) :
    ∃ A, Txt x t A cd cs.length (fun j => cs.getD j 0) U := by
  obtain ⟨A, K1, K2, K3, K4, K5, K6⟩ := K
  have hcod := hc.cod (by omega) K3 K5
  obtain ⟨D, fV, fC, hB, F1, F2, g1, g2, -, -⟩ := strObj wi al E V C
  exact ⟨A, ⟨_, hB.2.2.1, D, hB.1, rfl, by cases q : D.vm <;> first | rfl | exact absurd q (hB.2.1.2 _)⟩, Has.of hB F1 g1, Has.of hB F2 g2, ⟨K1.1, State.isArrayOf_alike al K1.2.1, K1.2.2, by rcases hcod with ⟨-, q, -⟩ | ⟨-, q, -⟩ <;> omega⟩, hcod, fun j hj => by
    have e : cs.getD j 0 = cs[j] := by simp [List.getD_eq_getElem?_getD, hj]
    show ¬ cs.getD j 0 < 0 ∧ ¬ 65535 < cs.getD j 0
    rw [e]; exact hb _ (List.getElem_mem _)⟩
/-- **isEmpty() OF SUCH A STRING** -/
theorem empW {p : Program} {l : Launch} {e : Env} {R : Room} {s : State} {args : Array Value} {below : List Frame} {len W : Nat} {Z : State} {a0 : Array Value} {h : Heap} (hZ : Z.Warmed39 s.vm) (hw : ∀ d ∈ wordsEmp, d.before a0 Z = true) {kI : Nat} (wi : (Jvm.Cond.instantiable ST kI).before a0 Z = true)
    {x t : Addr} {kb : ClassId} {cs : List Int32} {cd N2 : Int32} {vs : List Value} (E : RoadKit.Exa Z h x ST) (V : RoadKit.Fld Z h x ST "value" "[B" (.ref t)) (C : RoadKit.Fld Z h x ST "coder" "B" (.int cd)) (K : RoadKit.Arv Z h t kb .byte N2 vs (.int 0)) (hc : CodA cs cd N2 vs) (hb : ∀ c ∈ cs, ¬ c < 0 ∧ ¬ (65535 : Int32) < c) (l2 : cs.length ≤ 4000) (hfr : 1 ≤ R.frames) (hlo : W + 12 ≤ R.locals) :
    Back l R p e below s args (⟨"java/lang/String", "isEmpty", "()Z"⟩ : MethodName) len W (fun P a => a = #[.ref x] ∧ P.U.heap = h ∧ P.cells + 0 ≤ R.cells ∧ P.slots + 0 ≤ R.slots)
      (fun P _ v B => ∃ L, (v = some (.int (if cs.length = 0 then 1 else 0)) ∧ L = [] ∧ B.U.heap = h) ∧ B.locs = P.locs ++ L ∧ B.cells = P.cells + 0 ∧ B.slots = P.slots + 0) := by
  intro m meth c P g ig mk a X hg hsize hdg hW hn hp'
  obtain ⟨rfl, rfl, r1, r2⟩ := hp'
  have al : Z.vm.Alike P.U.vm := hZ.alike.trans X.warmed.alike
  obtain ⟨A, hx⟩ := txt_of wi al E V C K hc hb l2
  obtain ⟨v, B, X', ⟨⟨hv, hh⟩, hl, hk, hs⟩, st⟩ := Emp.pays x t A cd cs.length (fun j => cs.getD j 0) (tabEmp_of (movedEmp hZ hw)) hfr hlo m meth c P g ig mk _ X hg hsize hdg hW hn ⟨r1, r2, rfl, hx⟩
  exact ⟨v, B, X', ⟨[], ⟨hv, rfl, hh⟩, hl, hk, hs⟩, st⟩
end StrChars.Road
namespace StrChars
open Jvm Sem ClassFile Op Lib Jvm.Stand Jvm.Free.XT Jvm.Free.ALB Jvm.Free.JM Jvm.Free
open Jvm.Lib.Cold (StaticIs)
namespace ChN
def yN : MethodName := ⟨"java/lang/String", "charAt", "(I)C"⟩
abbrev yB : ByteArray := jdk_42_method_56_code
theorem d0 : decode yB 0 = .ok (.aload_n 0, 1) := by decide +kernel
theorem d1 : decode yB 1 = .ok (.invokevirtual 492, 3) := by decide +kernel
theorem d4 : decode yB 4 = .ok (.ifCond (.eq) 12, 3) := by decide +kernel
theorem d7 : decode yB 7 = .ok (.aload_n 0, 1) := by decide +kernel
theorem d8 : decode yB 8 = .ok (.getfield 9, 3) := by decide +kernel
theorem d11 : decode yB 11 = .ok (.iload_n 1, 1) := by decide +kernel
theorem d12 : decode yB 12 = .ok (.invokestatic 495, 3) := by decide +kernel
theorem d15 : decode yB 15 = .ok (.ireturn, 1) := by decide +kernel
def site : List Cond := [.fieldLink "java/lang/String" 9 "java/lang/String" "value" "[B", IsL.tab, LChA.tab] ++ virtW "java/lang/String" 492 "java/lang/String" IsL.yN IsL.yN ++ staticW "java/lang/String" 495 LChA.yN
def tab : Cond := tabOf yN yB 2 (some .char) site
def P (x t : Addr) (V : Cell) (n : Nat) (f : Nat → Int32) (z : Int32) (fm : Value) (i : Nat) (args : Array Value) (s : State) : Prop := args = #[.ref x, .int (Int32.ofNat i)] ∧ Txt x t V 0 n f s ∧ i < n ∧ StaticIs s "java/lang/String" "COMPACT_STRINGS" "Z" (.int z) ∧ ¬ z = 0 ∧ StaticIs s "jdk/internal/util/Preconditions" "SIOOBE_FORMATTER" "Ljava/util/function/BiFunction;" fm ∧ fm.isRef = true
def E (f : Nat → Int32) (i : Nat) (r : Option Value) (s u : State) : Prop := XT.PureE (some (.int (f i))) r s u
/-- charAt(i) of a Latin-1 String of n chars, i < n: f i -/
theorem law (l : Launch) (x t : Addr) (V : Cell) (n : Nat) (f : Nat → Int32) (z : Int32) (fm : Value) (i : Nat) : Law l yN 2 1 3 40 yB 2 (some .char) site (P x t V n f z fm i) (E f i) [] 0 0 := by
  refine Law.of_walk (plainFor_of_name (by decide +kernel)) (by decide +kernel) (by decide +kernel) (by decide) (fun _ _ h => by rw [h.1]; rfl) (fun _ U U' hal hh h => ⟨h.1, h.2.1.mv hal hh, h.2.2.1, h.2.2.2.1.there hal hh, h.2.2.2.2.1, h.2.2.2.2.2.1.there hal hh, h.2.2.2.2.2.2⟩) (fun r U U' V V' h1 hal h2 h => XT.PureE.mv r U U' V V' h1 hal h2 h) ?_
  intro p e s m args below meth c s₁ X0 hexec hbytes hml hret hlk hnm hown hh0 W hP
  obtain ⟨rfl, hx, hi, s1, hz, s3, rf⟩ := hP
  have v31 := hx.2.2.2.1.2.2.2
  have hr := hx.2.2.2.2.2 i hi
  have hx0 := hx.mv X0.warmed.alike hh0
  have c1 : Steps p.tables e below (s₁.setTop (entryFrame m #[.ref x, .int (Int32.ofNat i)] 2)) (s₁.setTop (mkF m 1 #[.val (.ref x), .val (.int (Int32.ofNat i))] [.ref x])) := Steps.trans (entry rfl) (by
    show Steps p.tables e below (s₁.setTop (mkF m 0 #[.val (.ref x), .val (.int (Int32.ofNat i))] [])) _
    refine XS.aloadN X0.here hexec rfl (hb hbytes d0) rfl rfl ?_
    exact Steps.refl _)
  obtain ⟨v2, T2, X2, E2, g2⟩ := X0.callV hexec (IsL.law l x 0 z) hown (wks W (virtW "java/lang/String" 492 "java/lang/String" IsL.yN IsL.yN)) rfl (by decide) (wk W IsL.tab) (W := 0) (Nat.le_of_ble_eq_true rfl) (Nat.le_of_ble_eq_true rfl) (Nat.le_refl _) (Nat.le_refl _) (hx0.1.fc X0.warmed.alike) hx0.1.is (g := (mkF m 1 #[.val (.ref x), .val (.int (Int32.ofNat i))] [.ref x])) rfl (by rw [hml]; rfl) c1 (argsL := []) (rest := []) rfl rfl (by show 2 * 0 + 0 ≤ _; decide) (hb hbytes d1) (⟨rfl, hx0.2.2.1, hx.2.2.2.2.1.cd, s1.there X0.warmed.alike hh0, hz⟩)
  obtain ⟨rfl, q2⟩ := E2
  have hh2 := q2.trans hh0
  have hx2 := hx.mv X2.warmed.alike hh2
  obtain ⟨-, k1, k2⟩ | ⟨k0, -⟩ := hx.2.2.2.2.1
  · have c3 : Steps p.tables e below (s₁.setTop (entryFrame m #[.ref x, .int (Int32.ofNat i)] 2)) (T2.setTop (mkF m 8 #[.val (.ref x), .val (.int (Int32.ofNat i))] [.ref x])) := Steps.trans g2 (by
      refine XS.ifNo X2.here hexec rfl (hb hbytes d4) rfl (i0_eq_f (by decide)) ?_
      refine XS.aloadN X2.here hexec rfl (hb hbytes d7) rfl rfl ?_
      exact Steps.refl _)
    obtain ⟨T4, X4, q4, st4⟩ := X2.hget hexec hown (wk W (.fieldLink "java/lang/String" 9 "java/lang/String" "value" "[B")) hx2.2.1 (g := (mkF m 8 #[.val (.ref x), .val (.int (Int32.ofNat i))] [.ref x])) rfl (rest := []) rfl (hb hbytes d8)
    have hh4 := q4.trans hh2
    have c5 : Steps p.tables e below (s₁.setTop (entryFrame m #[.ref x, .int (Int32.ofNat i)] 2)) (T4.setTop (mkF m 12 #[.val (.ref x), .val (.int (Int32.ofNat i))] [.int (Int32.ofNat i), .ref t])) := (c3.trans (st4 _ (Steps.refl _))).trans (by
      refine XS.iloadN X4.here hexec rfl (hb hbytes d11) rfl ?_
      exact Steps.refl _)
    obtain ⟨v6, T6, X6, E6, g6⟩ := X4.callS hexec (LChA.law l t V i (lo8 (f i)) fm) hown (wks W (staticW "java/lang/String" 495 LChA.yN)) (wk W LChA.tab) (W := 0) (Nat.le_of_ble_eq_true rfl) (Nat.le_of_ble_eq_true rfl) (Nat.le_refl _) (Nat.le_refl _) (g := (mkF m 12 #[.val (.ref x), .val (.int (Int32.ofNat i))] [.int (Int32.ofNat i), .ref t])) rfl (by rw [hml]; rfl) c5 (argsL := [.ref t, .int (Int32.ofNat i)]) (rest := []) rfl rfl (by show 2 * 0 + 0 ≤ _; decide) (hb hbytes d12) (⟨rfl, hx.2.2.2.1.mv X4.warmed.alike hh4, (k2 i hi).1, s3.there X4.warmed.alike hh4, rf⟩)
    obtain ⟨rfl, q6⟩ := E6
    rw [chr8_lo8 hr.1 (k2 i hi).2] at g6
    exact ⟨T6, some (.int (f i)), _, _, _, X6, rfl, rfl, rfl, (fun h => by cases h), ⟨rfl, q6.trans hh4⟩, fun fs hl => Steps.trans g6 (X6.ireturnOut hexec hret (narrow_ch hr.1 hr.2) (Or.inr (Or.inr (Or.inr (Or.inl rfl)))) (hb hbytes d15) hl)⟩
  · exact absurd k0 (by decide)
theorem pays {l : Launch} {R : Room} {p : Program} {e : Env} {below : List Frame} {s : State} {sargs : Array Value} {len W : Nat} (x t : Addr) (V : Cell) (n : Nat) (f : Nat → Int32) (z : Int32) (fm : Value) (i : Nat) (htab : tab.before sargs s = true) (hfr : 4 ≤ R.frames) (hlo : W + 53 ≤ R.locals) :
    Back l R p e below s sargs yN len W (fun A₁ a₁ => A₁.cells + 0 ≤ R.cells ∧ A₁.slots + 0 ≤ R.slots ∧ P x t V n f z fm i a₁ A₁.U) (fun A₁ _ v₁ B₁ => E f i v₁ A₁.U B₁.U ∧ B₁.locs = A₁.locs ++ [] ∧ B₁.cells = A₁.cells + 0 ∧ B₁.slots = A₁.slots + 0) :=
  (law l x t V n f z fm i).pays htab hfr (by omega)
end ChN
end StrChars
namespace StrChars.Road
open Jvm Sem ClassFile Op Lib Jvm.Stand Jvm.Free Jvm.Free.XT
open Jvm.Lib.Cold (StaticIs)
/-- the words of String.charAt(int), the Latin-1 road alone -/
abbrev wordsChN : List Jvm.Cond := [.code ChN.yN ChN.yB 2 (some .char), .initialized ST, .fieldLink ST 9 ST "value" "[B", .fieldLink ST 38 ST "COMPACT_STRINGS" "Z", .fieldLink ST 15 ST "coder" "B", .code IsL.yN IsL.yB 1 (some .boolean), .methodLink ST 492 IsL.yN, .declares IsL.yN, .selects ST IsL.yN IsL.yN, .instanceMethod IsL.yN,
  .methodLink ST 495 LChA.yN, .static LChA.yN, .code LChA.yN LChA.yB 2 (some .char), .initialized "java/lang/StringLatin1", .methodLink "java/lang/StringLatin1" 9 JO.Str_checkIndex.yN, .static JO.Str_checkIndex.yN, .code JO.Str_checkIndex.yN JO.Str_checkIndex.yB 2 none,
  .fieldLink ST 1053 "jdk/internal/util/Preconditions" "SIOOBE_FORMATTER" "Ljava/util/function/BiFunction;", .methodLink ST 1059 JC.PreCheck.yN, .static JC.PreCheck.yN, .code JC.PreCheck.yN JC.PreCheck.yB 3 (some .int), .initialized "jdk/internal/util/Preconditions"]
theorem tabChN_of {a : Array Value} {s : State} (h : ∀ w ∈ wordsChN, w.before a s = true) : ChN.tab.before a s = true := by
  have hp : JC.PreCheck.tab.before a s = true := unparts (wk h (.code JC.PreCheck.yN JC.PreCheck.yB 3 (some .int))) (wks h (.initialized JC.PreCheck.yN.cls :: JC.PreCheck.site))
  have qk := consq hp h
  have hk : JO.Str_checkIndex.tab.before a s = true := unparts (wk qk (.code JO.Str_checkIndex.yN JO.Str_checkIndex.yB 2 none)) (wks qk (.initialized JO.Str_checkIndex.yN.cls :: JO.Str_checkIndex.site))
  have ql := consq hk h
  have hl : LChA.tab.before a s = true := unparts (wk ql (.code LChA.yN LChA.yB 2 (some .char))) (wks ql (.initialized LChA.yN.cls :: LChA.site))
  have hi : IsL.tab.before a s = true := unparts (wk h (.code IsL.yN IsL.yB 1 (some .boolean))) (wks h (.initialized IsL.yN.cls :: IsL.site))
  have q := consq hi (consq hl h)
  exact unparts (wk q (.code ChN.yN ChN.yB 2 (some .char))) (wks q (.initialized ChN.yN.cls :: ChN.site))
theorem movedChN {Z s : State} {a0 args : Array Value} (hZ : Z.Warmed39 s.vm) (hw : ∀ d ∈ wordsChN, d.before a0 Z = true) : ∀ d ∈ wordsChN, d.before args s = true := fun d hd => by
  have t : ∀ d ∈ wordsChN, (d.onTables && d.keepsFace) = true := by decide +kernel
  exact RoadKit.mv hZ (hw d hd) (t d hd)
/-- **charAt(i) OF A LATIN-1 STRING**, i < n: the char -/
theorem chN {p : Program} {l : Launch} {e : Env} {R : Room} {s : State} {args : Array Value} {below : List Frame} {len W : Nat} {Z : State} {a0 : Array Value} {h : Heap} (hZ : Z.Warmed39 s.vm) (hw : ∀ d ∈ wordsChN, d.before a0 Z = true) {kI : Nat} (wi : (Jvm.Cond.instantiable ST kI).before a0 Z = true)
    {x t : Addr} {kb : ClassId} {cs : List Int32} {N2 z : Int32} {vs : List Value} {fm : Value} {i : Nat} {j : Int32} (E : RoadKit.Exa Z h x ST) (V : RoadKit.Fld Z h x ST "value" "[B" (.ref t)) (C : RoadKit.Fld Z h x ST "coder" "B" (.int 0)) (K : RoadKit.Arv Z h t kb .byte N2 vs (.int 0)) (hc : CodA cs 0 N2 vs) (hb : ∀ c ∈ cs, ¬ c < 0 ∧ ¬ (65535 : Int32) < c)
    (S : RoadKit.Sta Z h ST "COMPACT_STRINGS" "Z" (.int z)) (hz : ¬ z = 0) (F : RoadKit.Sta Z h "jdk/internal/util/Preconditions" "SIOOBE_FORMATTER" "Ljava/util/function/BiFunction;" fm) (rf : fm.isRef = true) (l2 : cs.length ≤ 4000) (hi : i < cs.length) (hj : j = Int32.ofNat i) (hfr : 4 ≤ R.frames) (hlo : W + 53 ≤ R.locals) :
    Back l R p e below s args (⟨"java/lang/String", "charAt", "(I)C"⟩ : MethodName) len W (fun P a => a = #[.ref x, .int j] ∧ P.U.heap = h ∧ P.cells + 0 ≤ R.cells ∧ P.slots + 0 ≤ R.slots)
      (fun P _ v B => ∃ L, (v = some (.int (cs.getD i 0)) ∧ L = [] ∧ B.U.heap = h) ∧ B.locs = P.locs ++ L ∧ B.cells = P.cells + 0 ∧ B.slots = P.slots + 0) := by
  subst hj
  intro m meth c P g ig mk a X hg hsize hdg hW hn hp'
  obtain ⟨rfl, rfl, r1, r2⟩ := hp'
  have al : Z.vm.Alike P.U.vm := hZ.alike.trans X.warmed.alike
  obtain ⟨A, hx⟩ := txt_of wi al E V C K hc hb l2
  obtain ⟨v, B, X', ⟨⟨hv, hh⟩, hl, hk, hs⟩, st⟩ := ChN.pays x t A cs.length (fun j => cs.getD j 0) z fm i (tabChN_of (movedChN hZ hw)) hfr hlo m meth c P g ig mk _ X hg hsize hdg hW hn ⟨r1, r2, rfl, hx, hi, sta_is al S, hz, sta_is al F, rf⟩
  exact ⟨v, B, X', ⟨[], ⟨hv, rfl, hh⟩, hl, hk, hs⟩, st⟩
end StrChars.Road
end Jvm.Pilot.@@N@@
namespace Jvm.Pilot.@@N@@
open Jvm Jvm.ClassFile Sem Op Lib Jvm.Free Jvm.Stand Jvm.LawKit Jvm.RoadKit Bundle Jvm.Pilot.@@N@@.Jvm.D
abbrev si (x : Int32) : Slot := .val (.int x)
abbrev sr (x : Addr) : Slot := .val (.ref x)
theorem ww {a0 : Array Value} {Z : State} {d : Jvm.Cond} (hw : ∀ d ∈ tables_1, d.before a0 Z = true) (i : Nat) (h : tables_1[i]? = some d) : d.before a0 Z = true := hw _ (List.mem_of_getElem? h)
theorem mr0 {a b : Nat} (h : a = b) : a ≤ b := Nat.le_of_eq h
section Own
variable {p : Program} {l : Launch} {e : Env} {R : Room} {s : State} {m : MethodId} {args : Array Value} {below : List Frame} {meth : Method} {c : Code} {T : State} {locs : List Loc} {cells slots : Nat} {Z : State} {a0 : Array Value} {h : Heap}
/-- from S the run comes to an end that P speaks of -/
def Goes (tb : Tables) (e : Env) (below : List Frame) (P : State → Outcome → Prop) (S : State) : Prop := ∃ s₂ o, Steps tb e below S s₂ ∧ P s₂ o
theorem go {tb : Tables} {P : State → Outcome → Prop} {S S' : State} (st : ∀ t, Steps tb e below S' t → Steps tb e below S t) (h : Goes tb e below P S') : Goes tb e below P S := by
  obtain ⟨s₂, o, h1, h2⟩ := h
  exact ⟨s₂, o, st _ h1, h2⟩
/-- from S the run comes to the frame F, in a state that P speaks of -/
def Reach (tb : Tables) (e : Env) (below : List Frame) (F : JFrame) (P : State → Prop) (S : State) : Prop := ∃ T', P T' ∧ ∀ t, Steps tb e below (T'.setTop F) t → Steps tb e below S t
theorem goR {tb : Tables} {F : JFrame} {P : State → Prop} {S S' : State} (st : ∀ t, Steps tb e below S' t → Steps tb e below S t) (h : Reach tb e below F P S') : Reach tb e below F P S := by
  obtain ⟨T', h1, h2⟩ := h
  exact ⟨T', h1, fun t k => st t (h2 t k)⟩
def Same (X : Stand p l e R s m args below meth c T locs cells slots) (n0 : Nat) (h : Heap) : State → Prop := fun T' => ∃ locs', Stand p l e R s m args below meth c T' locs' cells slots ∧ Fr n0 locs' ∧ T'.heap = h
/-- the end of a body: it returned, and Q holds of the value, the heap, the written places -/
def EndP (s : State) (below : List Frame) (Q : Option Value → Heap → List Loc → Prop) (kc ks : Nat) (s₂ : State) (o : Outcome) : Prop :=
  s₂.status = .running ∧ Ended s₂ below o ∧ ∃ v L, o = .returned v ∧ Q v s₂.heap L ∧ FrameEnd s o s₂ L kc ks
variable {Q : Option Value → Heap → List Loc → Prop} {kc ks : Nat}
theorem finG {g : JFrame} (X : Stand p l e R s m args below meth c T locs cells slots) (hk : meth.locks = false) (v : Option Value) (hv : meth.sig.returnType = none → v = none)
    (st : ∀ fs, (∀ (f : JFrame) (acts : List Action), f.method = m → f.locked = none → f.entered = [] → (doReturn e (T.setTop f) acts v).1 = T.setFrames fs) → Steps p.tables e below (T.setTop g) (T.setFrames fs))
    (hc : cells ≤ kc) (hs : slots ≤ ks) (hQ : Q v T.heap locs) : Goes p.tables e below (EndP s below Q kc ks) (T.setTop g) := by
  obtain ⟨fs, hr, hrun, hended, hW, hsame⟩ := X.leave (v := v) hv hk
  exact ⟨_, _, st fs hr, hrun, hended, v, locs, rfl, hQ, ⟨_, rfl⟩, hW, hsame.mono hc hs⟩
theorem finV (X : Stand p l e R s m args below meth c T locs cells slots) (hx : p.tables.exec = Jvm.exec) (hk : meth.locks = false) (hret : meth.sig.returnType = none) {pc : Nat} {Ls : Array Slot} (hd : decode c.code pc = .ok (.return_, 1)) (hc : cells ≤ kc) (hs : slots ≤ ks) (hQ : Q none T.heap locs) :
    Goes p.tables e below (EndP s below Q kc ks) (T.setTop (mkF m pc Ls [])) := finG X hk none (fun _ => rfl) (fun _ hr => X.returnOut hx hret hd hr) hc hs hQ
theorem finI (X : Stand p l e R s m args below meth c T locs cells slots) (hx : p.tables.exec = Jvm.exec) (hk : meth.locks = false) (hret : meth.sig.returnType = some .int) {pc : Nat} {Ls : Array Slot} {z : Int32} {rest : List Value} (hd : decode c.code pc = .ok (.ireturn, 1)) (hc : cells ≤ kc) (hs : slots ≤ ks) (hQ : Q (some (.int z)) T.heap locs) :
    Goes p.tables e below (EndP s below Q kc ks) (T.setTop (mkF m pc Ls (.int z :: rest))) := finG X hk _ (fun q => by rw [hret] at q; cases q) (fun _ hr => retI X hx hret hd hr) hc hs hQ
theorem finN (X : Stand p l e R s m args below meth c T locs cells slots) (hx : p.tables.exec = Jvm.exec) (hk : meth.locks = false) {t : FieldType} (hret : meth.sig.returnType = some t) (ht : t = .boolean ∨ t = .byte ∨ t = .char ∨ t = .short) {pc : Nat} {Ls : Array Slot} {z : Int32} {rest : List Value} (hd : decode c.code pc = .ok (.ireturn, 1)) (hc : cells ≤ kc) (hs : slots ≤ ks) (hQ : Q (some (.int (nar t z))) T.heap locs) :
    Goes p.tables e below (EndP s below Q kc ks) (T.setTop (mkF m pc Ls (.int z :: rest))) := finG X hk _ (fun q => by rw [hret] at q; cases q) (fun _ hr => retN X hx hret ht hd hr) hc hs hQ
theorem finR (X : Stand p l e R s m args below meth c T locs cells slots) (hx : p.tables.exec = Jvm.exec) (hk : meth.locks = false) {t : FieldType} (hret : meth.sig.returnType = some t) (ht : t.isReference = true) {w : Value} (hw : w.isRef = true) {pc : Nat} {Ls : Array Slot} (hd : decode c.code pc = .ok (.areturn, 1)) (hc : cells ≤ kc) (hs : slots ≤ ks) (hQ : Q (some w) T.heap locs) :
    Goes p.tables e below (EndP s below Q kc ks) (T.setTop (mkF m pc Ls [w])) := finG X hk _ (fun q => by rw [hret] at q; cases q) (fun _ hr => X.areturnOut hx hw hret ht hd hr) hc hs hQ
theorem finJ (X : Stand p l e R s m args below meth c T locs cells slots) (hx : p.tables.exec = Jvm.exec) (hk : meth.locks = false) (hret : meth.sig.returnType = some .long) {pc : Nat} {Ls : Array Slot} {z : Int64} (hd : decode c.code pc = .ok (.lreturn, 1)) (hc : cells ≤ kc) (hs : slots ≤ ks) (hQ : Q (some (.long z)) T.heap locs) :
    Goes p.tables e below (EndP s below Q kc ks) (T.setTop (mkF m pc Ls [.long z])) := finG X hk _ (fun q => by rw [hret] at q; cases q) (fun _ hr => X.lreturnOut hx hret hd hr) hc hs hQ
theorem bodyOf {y : MethodName} {bytes : ByteArray} {maxL : Nat} {ret : Option FieldType} {ws : List Jvm.Cond} {rm : Room} {as' : Array Value} {Ls : Array Slot} {h0 : Heap}
    (pn : plainFor y = true) (ef : ∀ m, entryFrame m as' maxL = mkF m 0 Ls [])
    (body : ∀ (p : Program) (e : Env) (s : State) (m : MethodId) (below : List Frame) (meth : Method) (c : Code) (T : State), Stand p l e rm s m as' below meth c T [] 0 0 → p.tables.exec = Jvm.exec → c.code = bytes → c.maxLocals = maxL →
      s.vm.findClass y.cls = some m.cls → meth.name = y.name → meth.sig.returnType = ret → meth.locks = false → Z.Warmed39 s.vm → T.heap = h0 → Goes p.tables e below (EndP s below Q rm.cells rm.slots) (T.setTop (mkF m 0 Ls []))) :
    MetFree l y (head1 (Jvm.Cond.code y bytes maxL ret :: ws) rm) (fun a U => a = as' ∧ Z.Warmed39 U.vm ∧ U.heap = h0) (fun _ _ _ _ _ => True) (fun _ U o U' => ∃ v L, o = .returned v ∧ Q v U'.heap L ∧ FrameEnd U o U' L rm.cells rm.slots) := by
  refine MetFree.of_bodySF pn hisR ?_
  intro p e s m args below meth c s₁ Bd hml0 hP hK
  obtain ⟨rfl, hZ, hh⟩ := hP
  have e0 : s₁.heap = h0 := by rw [← hh, Bd.state]; rfl
  obtain ⟨s₂, o, st, hrun, hend, hq⟩ := body p e s m below meth c s₁ (Stand.of_body Bd) Bd.exec Bd.bytes hml0 (findClass_of_methodNamed Bd.named) (name_of_methodNamed Bd.named Bd.method).1 Bd.returns Bd.notSynchronized hZ e0
  exact ⟨s₂, o, castTop (ef m) st, hrun, hend, hq⟩
variable {y z : MethodName} {own C : String} {index W len : Nat} {bytes : ByteArray} {maxL : Nat} {ret : Option FieldType} {as' : Array Value} {argsL rest : List Value} {g : JFrame}
theorem callSt (X : Stand p l e R s m args below meth c T locs cells slots) (hx : p.tables.exec = Jvm.exec) (hZ : Z.Warmed39 s.vm) (hown : s.vm.findClass own = some m.cls)
    (w1 : (Jvm.Cond.methodLink own index y).before a0 Z = true) (w2 : (Jvm.Cond.static y).before a0 Z = true) (w3 : (Jvm.Cond.initialized y.cls).before a0 Z = true) (w4 : (Jvm.Cond.code y bytes maxL ret).before a0 Z = true)
    (hy : y.cls ≠ "java/lang/invoke/MethodHandle" ∧ y.cls ≠ "java/lang/invoke/VarHandle")
    (hB : Back l R p e below s args y 3 W (fun A a => a = argsL.toArray ∧ A.U.heap = h ∧ A.cells + kc ≤ R.cells ∧ A.slots + ks ≤ R.slots) (fun A _ v B => ∃ L, Q v B.U.heap L ∧ B.locs = A.locs ++ L ∧ B.cells = A.cells + kc ∧ B.slots = A.slots + ks))
    (hg : g.method = m) (hsize : g.locals.size = c.maxLocals) (hlen : ∀ sig, parseMethodDescriptor y.desc = some sig → argsL.length = sig.parameters.length) (hstack : g.stack = argsL.reverse ++ rest) (hW : 2 * g.monitorRoom + (rest.map fun v => v.category).sum ≤ W)
    (hd : decode c.code g.pc = .ok (.invokestatic index, 3)) (eT : T.heap = h) (hc : cells + kc ≤ R.cells) (hs : slots + ks ≤ R.slots) :
    ∃ v T' L, Stand p l e R s m args below meth c T' (locs ++ L) (cells + kc) (slots + ks) ∧ Q v T'.heap L ∧ ∀ t, Steps p.tables e below (T'.setTop { g with pc := g.pc + 3, stack := v.toList ++ rest }) t → Steps p.tables e below (T.setTop g) t := by
  obtain ⟨v, _, ⟨T1, L1, k1, n1⟩, -, X1, ⟨L, hQ, hl, hk, hn⟩, st⟩ := Jvm.LawKit.callS X hx hown (mvT hZ w1) (mvT hZ w2) (mvT hZ w3) (mvT hZ w4) hy hB hg hsize hlen hstack hW hd (fun _ _ => ⟨rfl, eT, hc, hs⟩)
  dsimp only [Pt.U, Pt.locs, Pt.cells, Pt.slots] at X1 hl hk hn st hQ
  subst hl hk hn
  exact ⟨v, T1, L, X1, hQ, st⟩
theorem callSp {a : Addr} (X : Stand p l e R s m args below meth c T locs cells slots) (hx : p.tables.exec = Jvm.exec) (hZ : Z.Warmed39 s.vm) (hy1 : y.name = "<init>") (hown : s.vm.findClass own = some m.cls)
    (w1 : (Jvm.Cond.methodLink own index y).before a0 Z = true) (w2 : (Jvm.Cond.instanceMethod y).before a0 Z = true) (w4 : (Jvm.Cond.code y bytes maxL none).before a0 Z = true)
    (hy : y.cls ≠ "java/lang/invoke/MethodHandle" ∧ y.cls ≠ "java/lang/invoke/VarHandle")
    (hB : Back l R p e below s args y 3 W (fun A b => b = (Value.ref a :: argsL).toArray ∧ A.U.heap = h ∧ A.cells + kc ≤ R.cells ∧ A.slots + ks ≤ R.slots) (fun A _ v B => ∃ L, Q v B.U.heap L ∧ B.locs = A.locs ++ L ∧ B.cells = A.cells + kc ∧ B.slots = A.slots + ks))
    (hg : g.method = m) (hsize : g.locals.size = c.maxLocals) (hlen : ∀ sig, parseMethodDescriptor y.desc = some sig → argsL.length = sig.parameters.length) (hstack : g.stack = argsL.reverse ++ .ref a :: rest) (hW : 2 * g.monitorRoom + (rest.map fun v => v.category).sum ≤ W)
    (hd : decode c.code g.pc = .ok (.invokespecial index, 3)) (eT : T.heap = h) (hc : cells + kc ≤ R.cells) (hs : slots + ks ≤ R.slots) :
    ∃ v T' L, Stand p l e R s m args below meth c T' (locs ++ L) (cells + kc) (slots + ks) ∧ Q v T'.heap L ∧ ∀ t, Steps p.tables e below (T'.setTop { g with pc := g.pc + 3, stack := v.toList ++ rest }) t → Steps p.tables e below (T.setTop g) t := by
  obtain ⟨v, _, ⟨T1, L1, k1, n1⟩, -, X1, ⟨L, hQ, hl, hk, hn⟩, st⟩ := X.specialBack hx hy1 hown (mvT hZ w1) (mvT hZ w2) (mvT hZ w4) hy hB hg hsize (Steps.refl _) hlen hstack hW hd (fun _ _ => ⟨rfl, eT, hc, hs⟩)
  dsimp only [Pt.U, Pt.locs, Pt.cells, Pt.slots] at X1 hl hk hn st hQ
  subst hl hk hn
  exact ⟨v, T1, L, X1, hQ, fun t k => st.trans k⟩
theorem callV {a : Addr} (X : Stand p l e R s m args below meth c T locs cells slots) (hx : p.tables.exec = Jvm.exec) (hZ : Z.Warmed39 s.vm) (hown : s.vm.findClass own = some m.cls)
    (w1 : (Jvm.Cond.methodLink own index y).before a0 Z = true) (w2 : (Jvm.Cond.declares y).before a0 Z = true) (nf : NotFace s y) (w3 : (Jvm.Cond.selects C y z).before a0 Z = true) (w4 : (Jvm.Cond.instanceMethod z).before a0 Z = true)
    (hy : y.cls ≠ "java/lang/invoke/MethodHandle" ∧ y.cls ≠ "java/lang/invoke/VarHandle")
    (hB : Back l R p e below s args z 3 W (fun A b => b = (Value.ref a :: argsL).toArray ∧ A.U.heap = h ∧ A.cells + kc ≤ R.cells ∧ A.slots + ks ≤ R.slots) (fun A _ v B => ∃ L, Q v B.U.heap L ∧ B.locs = A.locs ++ L ∧ B.cells = A.cells + kc ∧ B.slots = A.slots + ks))
    (E : Exa Z h a C) (hg : g.method = m) (hsize : g.locals.size = c.maxLocals) (hlen : ∀ sig, parseMethodDescriptor y.desc = some sig → argsL.length = sig.parameters.length) (hstack : g.stack = argsL.reverse ++ .ref a :: rest) (hW : 2 * g.monitorRoom + (rest.map fun v => v.category).sum ≤ W)
    (hd : decode c.code g.pc = .ok (.invokevirtual index, 3)) (eT : T.heap = h) (hc : cells + kc ≤ R.cells) (hs : slots + ks ≤ R.slots) :
    ∃ v T' L, Stand p l e R s m args below meth c T' (locs ++ L) (cells + kc) (slots + ks) ∧ Q v T'.heap L ∧ ∀ t, Steps p.tables e below (T'.setTop { g with pc := g.pc + 3, stack := v.toList ++ rest }) t → Steps p.tables e below (T.setTop g) t := by
  obtain ⟨cq, kq, qa, qb, qc⟩ := isOf hZ eT E
  obtain ⟨v, _, ⟨T1, L1, k1, n1⟩, -, X1, ⟨L, hQ, hl, hk, hn⟩, st⟩ := X.virtualBack hx hown (mvT hZ w1) (mvT hZ w2) nf (mvT hZ w3) (mvT hZ w4) hy hB qa qc hg hsize (Steps.refl _) hlen hstack hW hd (fun _ _ => ⟨rfl, eT, hc, hs⟩)
  dsimp only [Pt.U, Pt.locs, Pt.cells, Pt.slots] at X1 hl hk hn st hQ
  subst hl hk hn
  exact ⟨v, T1, L, X1, hQ, fun t k => st.trans k⟩
theorem nsRoot {O K : String} {n : Nat} (w : (Jvm.Cond.noSuperclass O).before a0 Z = true) (wk : (Jvm.Cond.instantiable K n).before a0 Z = true) (hn : O ≠ K) : NS Z O K := by
  obtain ⟨c, k, h1, h2, h3, -, -⟩ := Cond.noSuperclass_spec w
  obtain ⟨t, kt, g1, -⟩ := Cond.instantiable_spec wk
  have ne := ids_ne h1 g1 hn
  refine ⟨c, t, h1, g1, fun fuel => ?_⟩
  cases fuel with
  | zero => rfl
  | succ f => simp [Vm.isSubclassAux, ne, h2, h3]
theorem nsNo {C S K : String} {n : Nat} (w : (Jvm.Cond.superclass C S).before a0 Z = true) (wk : (Jvm.Cond.instantiable K n).before a0 Z = true) (n : NS Z C K) (hn : C ≠ K) : ∃ c t, Z.vm.findClass C = some c ∧ Z.vm.findClass K = some t ∧ Z.vm.assignable c t = false := by
  obtain ⟨c, t, h0, g0, n3⟩ := n
  obtain ⟨p, k, kp, h1, h2, h3, h4, h5, -, h7⟩ := Cond.superclass_spec h0 w
  obtain ⟨t', kt, g1, g2, g3, g4, -⟩ := Cond.instantiable_spec wk
  cases g0.symm.trans g1
  have g7 : kt.isInterface = false := (Bool.or_eq_false_iff.mp g4).1
  have ne := ids_ne h0 g0 hn
  refine ⟨c, t, h0, g0, ?_⟩
  show Z.vm.assignableAux (255 + 1) c t = false
  simp [Vm.assignableAux, ne, h2, g2, h5, g3, g7, Vm.isSubclass, n3]
theorem lsw {tb : Tables} [Ours tb] {target : State} {g : JFrame} (h : At T m c below) (hx : tb.exec = Jvm.exec) (hg : g.method = m) {dflt : Int} {pairs : Array (Int × Int)} {len : Nat} {pc0 pc' : Nat} (hpc : g.pc = pc0) (hd : decode c.code g.pc = .ok (.lookupswitch dflt pairs, len)) {i : Int32} {rest : List Value} (hs : g.stack = .int i :: rest)
    (hsrt : (pairs.toList.zip pairs.toList.tail).all (fun z => decide (z.1.1 < z.2.1)) = true) (ho : 0 ≤ (pc0 : Int) + lookupswitch.offset pairs.toList dflt i.toInt) (hp : ((pc0 : Int) + lookupswitch.offset pairs.toList dflt i.toInt).toNat = pc') (hr : Steps tb e below (T.setTop { g with pc := pc', stack := rest }) target) : Steps tb e below (T.setTop g) target := by
  subst hg hpc hp
  jvm_step h [h.top, hx, hd, hs, ho, lookupswitch.wp_chain]
  exact ⟨fun a b a1 b1 q => of_decide_eq_true (List.all_eq_true.mp hsrt _ q), hr⟩
theorem eqInt_v {t : Term} {n : Int32} (h : (Jvm.Cond.eq t (.int n)).value args s none s [] = some true) : t.eval args s none [] s = some (.int n) := by
  obtain ⟨x, y, hx, hy, k1, -⟩ := cmp_v (Or.inl h)
  have hy' : (Term.int n).eval args s none [] s = some (.int n) := Term.int_eval n
  have e : y = .int n := Option.some.inj (hy.symm.trans hy')
  subst e
  cases x <;> simp [Kin, Value.isRef] at k1
  rw [gotT (Cond.eq_ints hx hy') h] at hx
  exact hx
theorem putC (X : Stand p l e R s m args below meth c T locs cells slots) (hx : p.tables.exec = Jvm.exec) (hZ : Z.Warmed39 s.vm) (eT : T.heap = h) {b : Addr} {kB : ClassId} {nB : Int32} {vB : List Value} {dB : Value} (B : Arv Z h b kB .char nB vB dB) {j x : Int32} {i : Nat} (hn : nar .char x = x) (hj : ¬ j < 0 ∧ j < nB) (hi : j.toNatClampNeg = i) (hl : i < vB.length) (hg : g.method = m) (hs : g.stack = .int x :: .int j :: .ref b :: rest) (hd : decode c.code g.pc = .ok (.castore, 1)) :
    ∃ T' h', Stand p l e R s m args below meth c T' (locs ++ [⟨b, j.toNatClampNeg⟩]) cells slots ∧ T'.heap = h' ∧ Wr h h' b j.toNatClampNeg (.int x) ∧ Arv Z h' b kB .char nB (vB.set i (.int x)) dB ∧ ∀ t, Steps p.tables e below (T'.setTop { g with pc := g.pc + 1, stack := rest }) t → Steps p.tables e below (T.setTop g) t := by
  obtain ⟨cl, A, q1, S1, M1, H1, G1⟩ := B
  obtain ⟨T', h', X', e', W, st⟩ := stC X hx hZ eT A (inb_of S1 hj) hg hs hd
  rw [hn] at W
  exact ⟨T', h', X', e', W, Arv.set A q1 S1 M1 H1 G1 (by rw [← hn]; exact fits_nar_char _) W i hi hl, st⟩
theorem getC (X : Stand p l e R s m args below meth c T locs cells slots) (hx : p.tables.exec = Jvm.exec) (hZ : Z.Warmed39 s.vm) (eT : T.heap = h) {b : Addr} {kB : ClassId} {nB : Int32} {vB : List Value} {dB v : Value} (B : Arv Z h b kB .char nB vB dB) {j : Int32} (hj : ¬ j < 0 ∧ j < nB) (hv : vB.getD j.toNatClampNeg dB = v) (hg : g.method = m) (hs : g.stack = .int j :: .ref b :: rest) (hd : decode c.code g.pc = .ok (.caload, 1)) {t : State} (hr : Steps p.tables e below (T.setTop { g with pc := g.pc + 1, stack := v :: rest }) t) : Steps p.tables e below (T.setTop g) t := by
  obtain ⟨cl, A, q1, S1, M1, H1, G1⟩ := B
  have hin := inb_of S1 hj
  exact X.caload hx (j := j) (v := v) (by rw [eT]; exact A.1) (State.isArrayOf_alike hZ.alike A.2.1) A.2.2 hin (Has.at H1 hin hv) hg hs hd _ hr
theorem narc (x : Int32) : nar .char x.toUInt32.toUInt16.toUInt32.toInt32 = x.toUInt32.toUInt16.toUInt32.toInt32 := by
  have h1 := c_i2c x
  have h2 := c_i2c x.toUInt32.toUInt16.toUInt32.toInt32
  apply Int32.toInt_inj.mp
  show (x.toUInt32.toUInt16.toUInt32.toInt32).toUInt32.toUInt16.toUInt32.toInt32.toInt = _
  omega
end Own
end Jvm.Pilot.@@N@@
namespace Jvm.Pilot.@@N@@
open Jvm Jvm.ClassFile Sem Op Lib Jvm.Free Jvm.Stand Jvm.LawKit Jvm.RoadKit Bundle Jvm.Pilot.@@N@@.Jvm.D
theorem allI {P : Int32 → Prop} {y : Int32} {L : List Int32} (q : P y) (r : ∀ x ∈ L, P x) : ∀ x ∈ y :: L, P x := fun x z => (List.mem_cons.mp z).elim (fun u => u ▸ q) (r x)
theorem own_sub {L : List Jvm.Cond} {a0 : Array Value} {Z : State} (hs : ∀ d ∈ L, d ∈ tables_1) (hw : ∀ d ∈ tables_1, d.before a0 Z = true) : ∀ d ∈ L, d.before a0 Z = true := fun d hd => hw d (hs d hd)
set_option maxRecDepth 65536 in
theorem StrChars_wordsLen : ∀ d ∈ StrChars.Road.wordsLen, d ∈ tables_1 := by decide +kernel
set_option maxRecDepth 65536 in
theorem StrChars_wordsEmp : ∀ d ∈ StrChars.Road.wordsEmp, d ∈ tables_1 := by decide +kernel
end Jvm.Pilot.@@N@@
namespace Jvm.Pilot.@@N@@
open Jvm Jvm.ClassFile Sem Op Lib Jvm.Free Jvm.Stand Jvm.LawKit Jvm.RoadKit Bundle Jvm.Pilot.@@N@@.Jvm.D
section OwnW
variable {p : Program} {l : Launch} {e : Env} {R : Room} {s : State} {vm0 : Vm} {k0 : Nat} {m : MethodId} {args : Array Value} {below : List Frame} {meth : Method} {c : Code} {T : State} {locs : List Loc} {cells slots : Nat} {Z : State} {a0 : Array Value} {h : Heap} {EL : List (String × Nat)}
/-- the end of a body that may intern -/
def EndW (Z : State) (EL : List (String × Nat)) (s : State) (below : List Frame) (Q : Option Value → Heap → List Loc → Prop) (kc ks : Nat) (s₂ : State) (o : Outcome) : Prop :=
  s₂.status = .running ∧ Ended s₂ below o ∧ ∃ v L, o = .returned v ∧ Q v s₂.heap L ∧ CHr Z EL s.vm s.heap s₂.vm s₂.heap ∧ ReturnedEndW s o s₂ L kc ks
variable {Q : Option Value → Heap → List Loc → Prop} {kc ks : Nat}
theorem finGW {g : JFrame} (X : Stand p l e R (s.setVm vm0) m args below meth c T locs cells slots) (hk : meth.locks = false) (hS : s.Since vm0 k0) (hkS : k0 ≤ h.size) (hZ : Z.Warmed39 vm0) (hEL : EW Z a0 EL) (hC : CHr Z EL s.vm s.heap vm0 h) (eT : T.heap = h) (v : Option Value) (hv : meth.sig.returnType = none → v = none)
    (st : ∀ fs, (∀ (f : JFrame) (acts : List Action), f.method = m → f.locked = none → f.entered = [] → (doReturn e (T.setTop f) acts v).1 = T.setFrames fs) → Steps p.tables e below (T.setTop g) (T.setFrames fs))
    (hc : cells ≤ kc) (hs : slots ≤ ks) (hQ : Q v h locs) : Goes p.tables e below (EndW Z EL s below Q kc ks) (T.setTop g) := by
  subst eT
  obtain ⟨fs, hr, hrun, hended, hW⟩ := X.leaveW hS hkS (v := v) hv hk
  have q : CHr Z EL s.vm s.heap T.vm T.heap := hC.trans (CHv.at X hZ hEL hC.1)
  exact ⟨_, _, st fs hr, hrun, hended, v, locs, rfl, hQ, q, hW.1, hW.2.1, hW.2.2.1, hW.2.2.2.mono hc hs⟩
theorem finVW (X : Stand p l e R (s.setVm vm0) m args below meth c T locs cells slots) (hx : p.tables.exec = Jvm.exec) (hk : meth.locks = false) (hret : meth.sig.returnType = none) (hS : s.Since vm0 k0) (hkS : k0 ≤ h.size) (hZ : Z.Warmed39 vm0) (hEL : EW Z a0 EL) (hC : CHr Z EL s.vm s.heap vm0 h) (eT : T.heap = h) {pc : Nat} {Ls : Array Slot} (hd : decode c.code pc = .ok (.return_, 1)) (hc : cells ≤ kc) (hs : slots ≤ ks) (hQ : Q none h locs) :
    Goes p.tables e below (EndW Z EL s below Q kc ks) (T.setTop (mkF m pc Ls [])) := finGW X hk hS hkS hZ hEL hC eT none (fun _ => rfl) (fun _ hr => X.returnOut hx hret hd hr) hc hs hQ
theorem finIW (X : Stand p l e R (s.setVm vm0) m args below meth c T locs cells slots) (hx : p.tables.exec = Jvm.exec) (hk : meth.locks = false) (hret : meth.sig.returnType = some .int) (hS : s.Since vm0 k0) (hkS : k0 ≤ h.size) (hZ : Z.Warmed39 vm0) (hEL : EW Z a0 EL) (hC : CHr Z EL s.vm s.heap vm0 h) (eT : T.heap = h) {pc : Nat} {Ls : Array Slot} {z : Int32} {rest : List Value} (hd : decode c.code pc = .ok (.ireturn, 1)) (hc : cells ≤ kc) (hs : slots ≤ ks) (hQ : Q (some (.int z)) h locs) :
    Goes p.tables e below (EndW Z EL s below Q kc ks) (T.setTop (mkF m pc Ls (.int z :: rest))) := finGW X hk hS hkS hZ hEL hC eT _ (fun q => by rw [hret] at q; cases q) (fun _ hr => retI X hx hret hd hr) hc hs hQ
theorem finNW (X : Stand p l e R (s.setVm vm0) m args below meth c T locs cells slots) (hx : p.tables.exec = Jvm.exec) (hk : meth.locks = false) {t : FieldType} (hret : meth.sig.returnType = some t) (ht : t = .boolean ∨ t = .byte ∨ t = .char ∨ t = .short) (hS : s.Since vm0 k0) (hkS : k0 ≤ h.size) (hZ : Z.Warmed39 vm0) (hEL : EW Z a0 EL) (hC : CHr Z EL s.vm s.heap vm0 h) (eT : T.heap = h) {pc : Nat} {Ls : Array Slot} {z : Int32} {rest : List Value} (hd : decode c.code pc = .ok (.ireturn, 1)) (hc : cells ≤ kc) (hs : slots ≤ ks) (hQ : Q (some (.int (nar t z))) h locs) :
    Goes p.tables e below (EndW Z EL s below Q kc ks) (T.setTop (mkF m pc Ls (.int z :: rest))) := finGW X hk hS hkS hZ hEL hC eT _ (fun q => by rw [hret] at q; cases q) (fun _ hr => retN X hx hret ht hd hr) hc hs hQ
theorem finRW (X : Stand p l e R (s.setVm vm0) m args below meth c T locs cells slots) (hx : p.tables.exec = Jvm.exec) (hk : meth.locks = false) {t : FieldType} (hret : meth.sig.returnType = some t) (ht : t.isReference = true) {w : Value} (hw : w.isRef = true) (hS : s.Since vm0 k0) (hkS : k0 ≤ h.size) (hZ : Z.Warmed39 vm0) (hEL : EW Z a0 EL) (hC : CHr Z EL s.vm s.heap vm0 h) (eT : T.heap = h) {pc : Nat} {Ls : Array Slot} (hd : decode c.code pc = .ok (.areturn, 1)) (hc : cells ≤ kc) (hs : slots ≤ ks) (hQ : Q (some w) h locs) :
    Goes p.tables e below (EndW Z EL s below Q kc ks) (T.setTop (mkF m pc Ls [w])) := finGW X hk hS hkS hZ hEL hC eT _ (fun q => by rw [hret] at q; cases q) (fun _ hr => X.areturnOut hx hw hret ht hd hr) hc hs hQ
theorem bodyOfW {xs : List Addr} {y : MethodName} {bytes : ByteArray} {maxL : Nat} {ret : Option FieldType} {ws : List Jvm.Cond} {rm : Room} {as' : Array Value} {Ls : Array Slot} {h0 : Heap}
    (pn : plainFor y = true) (ef : ∀ m, entryFrame m as' maxL = mkF m 0 Ls [])
    (body : ∀ (p : Program) (e : Env) (s : State) (m : MethodId) (below : List Frame) (meth : Method) (c : Code) (T : State), Stand p l e rm (s.setVm s.vm) m as' below meth c T [] 0 0 → p.tables.exec = Jvm.exec → c.code = bytes → c.maxLocals = maxL →
      s.vm.findClass y.cls = some m.cls → meth.name = y.name → meth.sig.returnType = ret → meth.locks = false → Z.Warmed39 s.vm → T.heap = h0 → s.Since s.vm h0.size → CHr Z EL s.vm s.heap s.vm h0 → (∀ x ∈ xs, Safe Z EL s.vm h0 x) → Goes p.tables e below (EndW Z EL s below Q rm.cells rm.slots) (T.setTop (mkF m 0 Ls []))) :
    MetFree l y (head1 (Jvm.Cond.code y bytes maxL ret :: ws) rm) (fun a U => a = as' ∧ Z.Warmed39 U.vm ∧ U.heap = h0 ∧ CHv Z EL U.vm h0 ∧ ∀ x ∈ xs, Safe Z EL U.vm h0 x) (fun _ _ _ _ _ => True) (fun _ U o U' => ∃ v L, o = .returned v ∧ Q v U'.heap L ∧ CHr Z EL U.vm U.heap U'.vm U'.heap ∧ ReturnedEndW U o U' L rm.cells rm.slots) := by
  refine MetFree.of_bodySF pn hisR ?_
  intro p e s m args below meth c s₁ Bd hml0 hP hK
  obtain ⟨rfl, hZ, hh, hH, hsf⟩ := hP
  have e0 : s₁.heap = h0 := by rw [← hh, Bd.state]; rfl
  have hC : CHr Z EL s.vm s.heap s.vm h0 := by rw [hh]; exact CHr.refl hH
  obtain ⟨s₂, o, st, hrun, hend, hq⟩ := body p e s m below meth c s₁ (Stand.of_body Bd) Bd.exec Bd.bytes hml0 (findClass_of_methodNamed Bd.named) (name_of_methodNamed Bd.named Bd.method).1 Bd.returns Bd.notSynchronized hZ e0 ((State.WarmedH.refl s).since _) hC hsf
  exact ⟨s₂, o, castTop (ef m) st, hrun, hend, hq⟩
variable {y z : MethodName} {own C : String} {index W len : Nat} {bytes : ByteArray} {maxL : Nat} {ret : Option FieldType} {as' : Array Value} {argsL rest : List Value} {g : JFrame}
/-- what pays a call of a body that may intern; xs: cells that no booked String has -/
theorem backW {rm : Room} {xs : List Addr}
    (hM : MetFree l y (head1 [Jvm.Cond.code y bytes maxL ret] rm) (fun a U => a = as' ∧ Z.Warmed39 U.vm ∧ U.heap = h ∧ CHv Z EL U.vm h ∧ ∀ x ∈ xs, Safe Z EL U.vm h x) (fun _ _ _ _ _ => True) (fun _ U o U' => ∃ v L, o = .returned v ∧ Q v U'.heap L ∧ CHr Z EL U.vm U.heap U'.vm U'.heap ∧ ReturnedEndW U o U' L rm.cells rm.slots))
    (hZ : Z.Warmed39 vm0) (wc : (Jvm.Cond.code y bytes maxL ret).before a0 Z = true) (wz : (Jvm.Cond.initialized y.cls).before a0 Z = true) (hf : rm.frames + 1 ≤ R.frames) (hl : W + (maxL + 11) + rm.locals ≤ R.locals) (hEL : EW Z a0 EL) (H : CHv Z EL vm0 h) (hsf : ∀ x ∈ xs, Safe Z EL vm0 h x ∧ x < h.size) :
    BackS l R p e below (s.setVm vm0) args y len W (fun A a => a = as' ∧ A.U.heap = h ∧ A.cells + rm.cells ≤ R.cells ∧ A.slots + rm.slots ≤ R.slots)
      (fun A _ v B => ∃ L, Q v B.U.heap L ∧ B.locs = A.locs ++ L ∧ B.cells = A.cells + rm.cells ∧ B.slots = A.slots + rm.slots ∧ CHr Z EL vm0 h B.U.vm B.U.heap) := by
  refine BackS.of_freeW (bytes := bytes) (maxL := maxL) (ret := ret) (E := fun _ first o t L k n => k = rm.cells ∧ n = rm.slots ∧ (∃ v, o = .returned v ∧ Q v t.heap L) ∧ CHr Z EL first.vm first.heap t.vm t.heap) hM hf hl ?_ ?_ (fun _ _ _ _ _ _ _ _ _ => trivial) ?_ ?_
  · intro m meth c A a Y hp
    have hU : Z.Warmed39 A.U.vm := wtrans (s := s.setVm vm0) hZ Y.warmed
    exact ⟨by show (Jvm.Cond.and _ .tt).before a A.U = true; rw [Cond.before_and, mv hU wc]; rfl, mv hU wc, mv hU wz, hp.2.2.1, hp.2.2.2⟩
  · intro m meth c A a g mk Y hp
    have hC := CHv.at Y hZ hEL H
    exact ⟨hp.1, wtrans (s := s.setVm vm0) hZ Y.warmed, hp.2.1, hC.1, fun x hx => hC.safe (hsf x hx).2 (hsf x hx).1⟩
  · rintro a first o t ⟨v, L, h1, h2, h3, h4⟩
    exact ⟨L, _, _, h4, rfl, rfl, ⟨v, h1, h2⟩, h3⟩
  · rintro m meth c A a g mk v t L k n Y hp _ _ ⟨e1, e2, ⟨v', e3, e4⟩, e5⟩
    cases e3
    subst e1 e2
    refine ⟨L, e4, rfl, rfl, rfl, (CHv.at Y hZ hEL H).trans ?_⟩
    rw [← hp.2.1]; exact e5
theorem callStW (X : Stand p l e R (s.setVm vm0) m args below meth c T locs cells slots) (hx : p.tables.exec = Jvm.exec) (hZ : Z.Warmed39 vm0) (hown : vm0.findClass own = some m.cls)
    (w1 : (Jvm.Cond.methodLink own index y).before a0 Z = true) (w2 : (Jvm.Cond.static y).before a0 Z = true) (w3 : (Jvm.Cond.initialized y.cls).before a0 Z = true) (w4 : (Jvm.Cond.code y bytes maxL ret).before a0 Z = true)
    (hy : y.cls ≠ "java/lang/invoke/MethodHandle" ∧ y.cls ≠ "java/lang/invoke/VarHandle")
    (hB : BackS l R p e below (s.setVm vm0) args y 3 W (fun A a => a = argsL.toArray ∧ A.U.heap = h ∧ A.cells + kc ≤ R.cells ∧ A.slots + ks ≤ R.slots) (fun A _ v B => ∃ L, Q v B.U.heap L ∧ B.locs = A.locs ++ L ∧ B.cells = A.cells + kc ∧ B.slots = A.slots + ks ∧ CHr Z EL vm0 h B.U.vm B.U.heap))
    (hg : g.method = m) (hsize : g.locals.size = c.maxLocals) (hlen : ∀ sig, parseMethodDescriptor y.desc = some sig → argsL.length = sig.parameters.length) (hstack : g.stack = argsL.reverse ++ rest) (hW : 2 * g.monitorRoom + (rest.map fun v => v.category).sum ≤ W)
    (hd : decode c.code g.pc = .ok (.invokestatic index, 3)) (eT : T.heap = h) (hc : cells + kc ≤ R.cells) (hs : slots + ks ≤ R.slots) (hS : s.Since vm0 k0) (hkS : k0 ≤ h.size) :
    ∃ v T' L, Stand p l e R (s.setVm T'.vm) m args below meth c T' (locs ++ L) (cells + kc) (slots + ks) ∧ Q v T'.heap L ∧ s.Since T'.vm T'.heap.size ∧ Z.Warmed39 T'.vm ∧ T'.vm.findClass own = some m.cls ∧ CHr Z EL vm0 h T'.vm T'.heap ∧ ∀ t, Steps p.tables e below (T'.setTop { g with pc := g.pc + 3, stack := v.toList ++ rest }) t → Steps p.tables e below (T.setTop g) t := by
  obtain ⟨v, _, ⟨T1, L1, k1, n1⟩, -, X1, h2, hgr, ⟨L, hQ, hl, hk, hn, hC⟩, st⟩ := callSS X hx (s := s.setVm vm0) hown (mvT (s := s.setVm vm0) hZ w1) (mvT (s := s.setVm vm0) hZ w2) (mvT (s := s.setVm vm0) hZ w3) (mvT (s := s.setVm vm0) hZ w4) hy hB hg hsize hlen hstack hW hd (fun _ _ => ⟨rfl, eT, hc, hs⟩)
  dsimp only [Pt.U, Pt.locs, Pt.cells, Pt.slots] at X1 hl hk hn st hQ h2 hgr hC
  subst hl hk hn
  obtain ⟨X2, hS2, hZ2, hown2⟩ := rebS hS hkS X1 h2 (by rw [← eT]; exact hgr) hZ hown
  exact ⟨v, T1, L, X2, hQ, hS2, hZ2, hown2, hC, fun t k => st.trans k⟩
theorem callSpW {a : Addr} (X : Stand p l e R (s.setVm vm0) m args below meth c T locs cells slots) (hx : p.tables.exec = Jvm.exec) (hZ : Z.Warmed39 vm0) (hy1 : y.name = "<init>") (hown : vm0.findClass own = some m.cls)
    (w1 : (Jvm.Cond.methodLink own index y).before a0 Z = true) (w2 : (Jvm.Cond.instanceMethod y).before a0 Z = true) (w4 : (Jvm.Cond.code y bytes maxL none).before a0 Z = true)
    (hy : y.cls ≠ "java/lang/invoke/MethodHandle" ∧ y.cls ≠ "java/lang/invoke/VarHandle")
    (hB : BackS l R p e below (s.setVm vm0) args y 3 W (fun A b => b = (Value.ref a :: argsL).toArray ∧ A.U.heap = h ∧ A.cells + kc ≤ R.cells ∧ A.slots + ks ≤ R.slots) (fun A _ v B => ∃ L, Q v B.U.heap L ∧ B.locs = A.locs ++ L ∧ B.cells = A.cells + kc ∧ B.slots = A.slots + ks ∧ CHr Z EL vm0 h B.U.vm B.U.heap))
    (hg : g.method = m) (hsize : g.locals.size = c.maxLocals) (hlen : ∀ sig, parseMethodDescriptor y.desc = some sig → argsL.length = sig.parameters.length) (hstack : g.stack = argsL.reverse ++ .ref a :: rest) (hW : 2 * g.monitorRoom + (rest.map fun v => v.category).sum ≤ W)
    (hd : decode c.code g.pc = .ok (.invokespecial index, 3)) (eT : T.heap = h) (hc : cells + kc ≤ R.cells) (hs : slots + ks ≤ R.slots) (hS : s.Since vm0 k0) (hkS : k0 ≤ h.size) :
    ∃ v T' L, Stand p l e R (s.setVm T'.vm) m args below meth c T' (locs ++ L) (cells + kc) (slots + ks) ∧ Q v T'.heap L ∧ s.Since T'.vm T'.heap.size ∧ Z.Warmed39 T'.vm ∧ T'.vm.findClass own = some m.cls ∧ CHr Z EL vm0 h T'.vm T'.heap ∧ ∀ t, Steps p.tables e below (T'.setTop { g with pc := g.pc + 3, stack := v.toList ++ rest }) t → Steps p.tables e below (T.setTop g) t := by
  obtain ⟨v, _, ⟨T1, L1, k1, n1⟩, -, X1, h2, hgr, ⟨L, hQ, hl, hk, hn, hC⟩, st⟩ := X.specialBackS hx hy1 hown (mvT (s := s.setVm vm0) hZ w1) (mvT (s := s.setVm vm0) hZ w2) (mvT (s := s.setVm vm0) hZ w4) hy hB hg hsize (Steps.refl _) hlen hstack hW hd (fun _ _ => ⟨rfl, eT, hc, hs⟩)
  dsimp only [Pt.U, Pt.locs, Pt.cells, Pt.slots] at X1 hl hk hn st hQ h2 hgr hC
  subst hl hk hn
  obtain ⟨X2, hS2, hZ2, hown2⟩ := rebS hS hkS X1 h2 (by rw [← eT]; exact hgr) hZ hown
  exact ⟨v, T1, L, X2, hQ, hS2, hZ2, hown2, hC, fun t k => st.trans k⟩
theorem callVW {a : Addr} (X : Stand p l e R (s.setVm vm0) m args below meth c T locs cells slots) (hx : p.tables.exec = Jvm.exec) (hZ : Z.Warmed39 vm0) (hown : vm0.findClass own = some m.cls)
    (w1 : (Jvm.Cond.methodLink own index y).before a0 Z = true) (w2 : (Jvm.Cond.declares y).before a0 Z = true) (nf : NotFace (s.setVm vm0) y) (w3 : (Jvm.Cond.selects C y z).before a0 Z = true) (w4 : (Jvm.Cond.instanceMethod z).before a0 Z = true)
    (hy : y.cls ≠ "java/lang/invoke/MethodHandle" ∧ y.cls ≠ "java/lang/invoke/VarHandle")
    (hB : BackS l R p e below (s.setVm vm0) args z 3 W (fun A b => b = (Value.ref a :: argsL).toArray ∧ A.U.heap = h ∧ A.cells + kc ≤ R.cells ∧ A.slots + ks ≤ R.slots) (fun A _ v B => ∃ L, Q v B.U.heap L ∧ B.locs = A.locs ++ L ∧ B.cells = A.cells + kc ∧ B.slots = A.slots + ks ∧ CHr Z EL vm0 h B.U.vm B.U.heap))
    (E : Exa Z h a C) (hg : g.method = m) (hsize : g.locals.size = c.maxLocals) (hlen : ∀ sig, parseMethodDescriptor y.desc = some sig → argsL.length = sig.parameters.length) (hstack : g.stack = argsL.reverse ++ .ref a :: rest) (hW : 2 * g.monitorRoom + (rest.map fun v => v.category).sum ≤ W)
    (hd : decode c.code g.pc = .ok (.invokevirtual index, 3)) (eT : T.heap = h) (hc : cells + kc ≤ R.cells) (hs : slots + ks ≤ R.slots) (hS : s.Since vm0 k0) (hkS : k0 ≤ h.size) :
    ∃ v T' L, Stand p l e R (s.setVm T'.vm) m args below meth c T' (locs ++ L) (cells + kc) (slots + ks) ∧ Q v T'.heap L ∧ s.Since T'.vm T'.heap.size ∧ Z.Warmed39 T'.vm ∧ T'.vm.findClass own = some m.cls ∧ CHr Z EL vm0 h T'.vm T'.heap ∧ ∀ t, Steps p.tables e below (T'.setTop { g with pc := g.pc + 3, stack := v.toList ++ rest }) t → Steps p.tables e below (T.setTop g) t := by
  obtain ⟨cq, kq, qa, qb, qc⟩ := isOf (s := s.setVm vm0) hZ eT E
  obtain ⟨v, _, ⟨T1, L1, k1, n1⟩, -, X1, h2, hgr, ⟨L, hQ, hl, hk, hn, hC⟩, st⟩ := X.virtualBackS hx hown (mvT (s := s.setVm vm0) hZ w1) (mvT (s := s.setVm vm0) hZ w2) nf (mvT (s := s.setVm vm0) hZ w3) (mvT (s := s.setVm vm0) hZ w4) hy hB qa qc hg hsize (Steps.refl _) hlen hstack hW hd (fun _ _ => ⟨rfl, eT, hc, hs⟩)
  dsimp only [Pt.U, Pt.locs, Pt.cells, Pt.slots] at X1 hl hk hn st hQ h2 hgr hC
  subst hl hk hn
  obtain ⟨X2, hS2, hZ2, hown2⟩ := rebS hS hkS X1 h2 (by rw [← eT]; exact hgr) hZ hown
  exact ⟨v, T1, L, X2, hQ, hS2, hZ2, hown2, hC, fun t k => st.trans k⟩
theorem safeArv {vm : Vm} {x : Addr} {k : ClassId} {ty : FieldType} {n : Int32} {vs : List Value} {d : Value} (hal : Z.vm.Alike vm) (V : Arv Z h x k ty n vs d) (ht : ty ≠ .byte) : Safe Z EL vm h x := by
  obtain ⟨_, A, -⟩ := V
  exact Safe.arr hal A ht
end OwnW
end Jvm.Pilot.@@N@@
namespace Jvm.Pilot.@@N@@
open Jvm Jvm.ClassFile Sem Op Lib Jvm.Free Jvm.Stand Jvm.LawKit Jvm.RoadKit Bundle Jvm.Pilot.@@N@@.Jvm.D
theorem own_EW {a0 : Array Value} {Z : State} (hw : ∀ d ∈ tables_1, d.before a0 Z = true) : EW Z a0 consts_1 := (EW.cons (ww hw 14 rfl) (by decide) EW.nil)
set_option maxRecDepth 65536 in
theorem own_strAtoms : ∀ d ∈ Bundle.stringAtoms, d ∈ tables_1 := by decide +kernel
theorem safeBlank {Z : State} {EL : List (String × Nat)} {vm : Vm} {h : Heap} {x : Addr} (hal : Z.vm.Alike vm) (E : Exa Z h x "java/lang/String") (F : Fld Z h x "java/lang/String" "value" "[B" .null) : Safe Z EL vm h x := fun B => by
  obtain ⟨cell, k, e1, e2, e3, -, -⟩ := E
  obtain ⟨p, -, u, a, -, q, -, G, rfl | rfl⟩ := B
  · obtain ⟨cell', cf, kf, i, f, g1, g2, -, -, -, -, g7⟩ := F
    cases e1.symm.trans g1
    cases (show h[q.sa]? = some q.sC from G.ha).symm.trans e1
    obtain ⟨cS, ⟨⟨-, -, -, ⟨c1, k1, i1, f1, -⟩, -, -, -, v1, -⟩, -⟩, -⟩ := G
    obtain ⟨k3, e5, -⟩ := State.fieldFound?_setVm (s := Z) hal g2
    have e4 := (show (Wst Z vm h).fieldFound? _ _ _ = _ from e5).symm.trans f1
    simp only [Option.some.injEq, Prod.mk.injEq] at e4
    rw [← e4.2.2.2, g7] at v1
    simp at v1
  · cases (show h[q.sd]? = some q.SA from G.hd).symm.trans e1
    obtain ⟨cS, -, -, f, -⟩ := G
    have f' : Z.vm.findClass "[B" = some q.SA.cls := by rw [← hal.findClass]; exact f
    obtain ⟨k1, q1, q2⟩ := Vm.findClass_spec f'
    obtain ⟨k2, q3, q4⟩ := Vm.findClass_spec e2
    cases q1.symm.trans q3
    exact absurd (q2.symm.trans q4) (by decide)
end Jvm.Pilot.@@N@@
namespace Jvm.Pilot.@@N@@
open Jvm Jvm.ClassFile Sem Op Lib Jvm.Free Jvm.Stand Jvm.LawKit Jvm.RoadKit Bundle Jvm.Pilot.@@N@@.Jvm.D
/-- x is a String whose bytes, at t, spell the chars cs by the coder cd -/
def Str (Z : State) (h : Heap) (x t : Addr) (cd : Int32) (cs : List Int32) : Prop := ∃ (kb : ClassId) (N2 : Int32) (vs : List Value), Exa Z h x "java/lang/String" ∧ Fld Z h x "java/lang/String" "value" "[B" (.ref t) ∧ Fld Z h x "java/lang/String" "coder" "B" (.int cd) ∧ Arv Z h t kb .byte N2 vs (.int 0) ∧ StrChars.Road.CodA cs cd N2 vs ∧ (∀ c ∈ cs, ¬ c < 0 ∧ ¬ (65535 : Int32) < c) ∧ cs.length ≤ 4000
theorem own_codOf {cs : List Int32} {n : Nat} (hn : cs.length = n) (hb : ∀ c ∈ cs, ¬ (255 : Int32) < c) : StrChars.Road.CodA cs 0 (Int32.ofNat n) ((cs.map StrChars.lo8).map Value.int) := Or.inl ⟨rfl, by rw [hn], by simp [List.map_map, Function.comp_def], hb⟩
section StrF
variable {Z : State} {h h' : Heap} {x t a : Addr} {cd : Int32} {cs : List Int32} {sl : Nat} {v : Value} {ws : List Addr}
theorem Str.exa (F : Str Z h x t cd cs) : Exa Z h x "java/lang/String" := by obtain ⟨_, _, _, q, -⟩ := F; exact q
theorem Str.val (F : Str Z h x t cd cs) : Fld Z h x "java/lang/String" "value" "[B" (.ref t) := by obtain ⟨_, _, _, -, q, -⟩ := F; exact q
theorem Str.cod (F : Str Z h x t cd cs) : Fld Z h x "java/lang/String" "coder" "B" (.int cd) := by obtain ⟨_, _, _, -, -, q, -⟩ := F; exact q
theorem Str.lt1 (F : Str Z h x t cd cs) : x < h.size := F.exa.lt
theorem Str.lt2 (F : Str Z h x t cd cs) : t < h.size := by obtain ⟨_, _, _, -, -, -, q, -⟩ := F; exact q.lt
theorem Str.ext (F : Str Z h x t cd cs) (E : Ext h h') : Str Z h' x t cd cs := by obtain ⟨k, n, vs, a1, a2, a3, a4, r⟩ := F; exact ⟨k, n, vs, a1.ext E, a2.ext E, a3.ext E, a4.ext E, r⟩
theorem Str.keep (F : Str Z h x t cd cs) (K : Keep h h' ws) (q1 : x ∉ ws) (q2 : t ∉ ws) : Str Z h' x t cd cs := by obtain ⟨k, n, vs, a1, a2, a3, a4, r⟩ := F; exact ⟨k, n, vs, a1.keep K, a2.keep K q1, a3.keep K q1, a4.keep K q2, r⟩
theorem Str.wr (F : Str Z h x t cd cs) (W : Wr h h' a sl v) (q1 : x ≠ a) (q2 : t ≠ a) : Str Z h' x t cd cs := by obtain ⟨k, n, vs, a1, a2, a3, a4, r⟩ := F; exact ⟨k, n, vs, a1.wr W, Fld.other W a2 (Or.inl q1), Fld.other W a3 (Or.inl q1), a4.other W q2, r⟩
theorem Str.ne1 {b : Addr} {C : String} (F : Str Z h x t cd cs) (E : Exa Z h b C) (hC : "java/lang/String" ≠ C) : x ≠ b := F.exa.ne E hC
theorem Str.ne2 {b : Addr} {C : String} {n : Nat} {a0 : Array Value} (F : Str Z h x t cd cs) (E : Exa Z h b C) (w : (Jvm.Cond.instantiable C n).before a0 Z = true) : t ≠ b := by obtain ⟨_, _, _, -, -, -, q, -⟩ := F; exact Ne.symm (E.neArv q w)
end StrF
theorem up16 (cs : List Int32) (h : ∀ c ∈ cs, ¬ c < 0 ∧ ¬ (255 : Int32) < c) : ∀ c ∈ cs, ¬ c < 0 ∧ ¬ (65535 : Int32) < c := fun c hc => ⟨(h c hc).1, fun q => (h c hc).2 (by rw [Int32.lt_iff_toInt_lt] at q ⊢; have e1 : (65535 : Int32).toInt = 65535 := rfl; have e2 : (255 : Int32).toInt = 255 := rfl; omega)⟩
theorem oj_lt {i n : Nat} (h : i < n) (hn : n ≤ 8000) : Int32.ofNat i < Int32.ofNat n := (Int32.ofNat_lt_ofNat (by omega) (by omega)).mpr h
theorem oj_nlt {i n : Nat} (h : ¬ i < n) (hi : i ≤ 8000) (hn : n ≤ 8000) : ¬ Int32.ofNat i < Int32.ofNat n := fun q => h ((Int32.ofNat_lt_ofNat (by omega) (by omega)).mp q)
theorem oj_nn {n : Nat} (hn : n ≤ 8000) : ¬ Int32.ofNat n < 0 := Int32.ofNat_not_neg (by omega)
theorem oj_n {n : Nat} (hn : n ≤ 8000) : (Int32.ofNat n).toNatClampNeg = n := by
  rw [Int32.toNatClampNeg, Int32.toInt_ofNat_of_lt (by omega)]; rfl
theorem oj_inj {i n : Nat} (hi : i ≤ 8000) (hn : n ≤ 8000) (h : Int32.ofNat i = Int32.ofNat n) : i = n := by
  have := congrArg Int32.toNatClampNeg h
  rwa [oj_n hi, oj_n hn] at this
theorem oj_one (i : Nat) : Int32.ofNat i + (1 : Int32) = Int32.ofNat (i + 1) := (Int32.ofNat_add i 1).symm
theorem oj_in {c : Cell} {n i : Nat} {z : Int32} (S : c.slots.size = z.toNatClampNeg) (hz : z = Int32.ofNat n) (h : i < n) (hn : n ≤ 8000) : ¬ (Int32.ofNat i < 0 ∨ c.slots.size ≤ (Int32.ofNat i).toNatClampNeg) := by
  rw [S, hz, oj_n hn, oj_n (by omega)]
  exact fun q => q.elim (oj_nn (by omega)) (by omega)
theorem oj_dbl {n : Nat} (hn : n ≤ 4000) : (Int32.ofNat n) <<< ((1 : Int32) &&& 31) = Int32.ofNat (2 * n) := by
  have q := c_ishl (Int32.ofNat n) 1 1 (by decide)
  rw [Int32.toInt_ofNat_of_lt (by omega)] at q
  apply Int32.toInt_inj.mp
  rw [Int32.toInt_ofNat_of_lt (by omega)]
  have r := rng32 (Int32.ofNat n <<< ((1 : Int32) &&& 31))
  omega
theorem oj_half {n : Nat} (hn : n ≤ 4000) : (Int32.ofNat (2 * n)) >>> ((1 : Int32) &&& 31) = Int32.ofNat n := by
  have q := c_ishr (Int32.ofNat (2 * n)) 1 1 (by decide)
  rw [Int32.toInt_ofNat_of_lt (by omega)] at q
  apply Int32.toInt_inj.mp
  rw [Int32.toInt_ofNat_of_lt (by omega), q]
  omega
theorem oj_get (cs : List Int32) {i : Nat} (h : i < cs.length) (d : Value) : (cs.map Value.int).getD i d = .int (cs.getD i 0) := by
  simp [List.getD_eq_getElem?_getD, h]
theorem oj_take (cs : List Int32) {i : Nat} (h : i < cs.length) (f : Int32 → Value) : (cs.take i).map f ++ [f (cs.getD i 0)] = (cs.take (i + 1)).map f := by
  rw [List.take_add_one, List.map_append, List.getD_eq_getElem?_getD, List.getElem?_eq_getElem h]; rfl
theorem oj_narb (x : Int32) : nar .byte (x.toInt8.toInt32) = x.toInt8.toInt32 := by simp [nar]
theorem oj_shr0 (c : Int32) : c >>> ((0 : Int32) &&& 31) = c := by
  have q := c_ishr c 0 0 (by decide)
  apply Int32.toInt_inj.mp
  first | omega | (rw [q]; simp)
theorem oj_bb (x : Int32) : x.toInt8.toInt32.toInt8.toInt32 = x.toInt8.toInt32 := by simp
theorem arvSnoc {Z : State} {h h' : Heap} {a : Addr} {k : ClassId} {ty : FieldType} {z j : Int32} {vs : List Value} {dv v : Value} {c : Cell} (A : Arr Z h a c ty) (q1 : c.cls = k) (S : c.slots.size = z.toNatClampNeg) (q3 : ¬ z < 0) (H : Has c vs dv) (G : ∀ i, i < c.slots.size → fits ty (vs.getD i dv) = true) (hv : fits ty v = true) (W : Wr h h' a j.toNatClampNeg v) (hj : j.toNatClampNeg = vs.length) : Arv Z h' a k ty z (vs ++ [v]) dv := by
  have H' : Has c (vs ++ [dv]) dv := fun i hi => by rw [show [dv] = List.replicate 1 dv from rfl, pad_rep vs dv 1 i]; exact H i hi
  have G' : ∀ i, i < c.slots.size → fits ty ((vs ++ [dv]).getD i dv) = true := fun i hi => by rw [show [dv] = List.replicate 1 dv from rfl, pad_rep vs dv 1 i]; exact G i hi
  have q := Arv.set A q1 S q3 H' G' hv W vs.length hj (by simp)
  have e : (vs ++ [dv]).set vs.length v = vs ++ [v] := by simp
  rwa [e] at q
/-- how many chars ahead of the first above 255 -/
def own_k : List Int32 → Nat
  | [] => 0
  | c :: r => if (255 : Int32) < c then 0 else own_k r + 1
theorem own_k_at : ∀ (cs : List Int32) (i : Nat), (∀ j, j < i → ¬ (255 : Int32) < cs.getD j 0) → i < cs.length → (255 : Int32) < cs.getD i 0 → own_k cs = i
  | [], _, _, h, _ => absurd h (Nat.not_lt_zero _)
  | c :: r, 0, _, _, hc => by simp only [own_k]; exact if_pos hc
  | c :: r, i + 1, hb, h, hc => by
    have h0 : ¬ (255 : Int32) < c := hb 0 (Nat.succ_pos _)
    simp only [own_k, if_neg h0]
    rw [own_k_at r i (fun j hj => hb (j + 1) (by omega)) (by simpa using h) hc]
theorem own_k_all : ∀ (cs : List Int32), (∀ j, j < cs.length → ¬ (255 : Int32) < cs.getD j 0) → own_k cs = cs.length
  | [], _ => rfl
  | c :: r, hb => by
    have h0 : ¬ (255 : Int32) < c := hb 0 (Nat.succ_pos _)
    simp only [own_k, if_neg h0]
    rw [own_k_all r fun j hj => hb (j + 1) (by simpa using hj)]; rfl
theorem own_k_le : ∀ cs : List Int32, own_k cs ≤ cs.length
  | [] => Nat.le_refl _
  | c :: r => by
    simp only [own_k]
    split
    · exact Nat.zero_le _
    · exact Nat.succ_le_succ (own_k_le r)
theorem own_k_hi : ∀ cs : List Int32, own_k cs ≠ cs.length → own_k cs < cs.length ∧ (255 : Int32) < cs.getD (own_k cs) 0
  | [], h => absurd rfl h
  | c :: r, h => by
    by_cases q : (255 : Int32) < c
    · simp only [own_k, if_pos q]; exact ⟨Nat.succ_pos _, q⟩
    · simp only [own_k, if_neg q] at h ⊢
      obtain ⟨h1, h2⟩ := own_k_hi r fun e => h (congrArg (· + 1) e)
      exact ⟨Nat.succ_lt_succ h1, h2⟩
theorem own_k_lo (cs : List Int32) (h : own_k cs = cs.length) : ∀ c ∈ cs, ¬ (255 : Int32) < c := by
  induction cs with
  | nil => exact fun _ q => nomatch q
  | cons c r ih =>
    by_cases q : (255 : Int32) < c
    · simp only [own_k, if_pos q] at h; exact absurd h (Nat.succ_ne_zero _).symm
    · simp only [own_k, if_neg q] at h
      intro x hx
      rcases List.mem_cons.mp hx with rfl | hx
      · exact q
      · exact ih (Nat.succ.inj h) x hx
theorem oj_mem {cs : List Int32} {i : Nat} (h : i < cs.length) : cs.getD i 0 ∈ cs := by
  rw [List.getD_eq_getElem?_getD, List.getElem?_eq_getElem h]; exact List.getElem_mem h
theorem wide_len : ∀ cs : List Int32, (StrChars.Road.wideBytes cs).length = 2 * cs.length
  | [] => rfl
  | c :: r => by simp only [StrChars.Road.wideBytes, List.length_cons, wide_len r]; omega
theorem wide_snoc : ∀ (cs : List Int32) (c : Int32), StrChars.Road.wideBytes (cs ++ [c]) = StrChars.Road.wideBytes cs ++ [.int (StrChars.lo8 c)] ++ [.int (StrChars.hi8 c)]
  | [], _ => rfl
  | d :: r, c => by simp only [List.cons_append, StrChars.Road.wideBytes, wide_snoc r c]
theorem oj_take1 (cs : List Int32) {i : Nat} (h : i < cs.length) : cs.take i ++ [cs.getD i 0] = cs.take (i + 1) := by
  rw [List.take_add_one, List.getD_eq_getElem?_getD, List.getElem?_eq_getElem h]; rfl
theorem oj_cod0 {n : Nat} (h : n ≤ 4000) : nar .byte ((((Int32.ofNat n - Int32.ofNat n).toUInt32 >>> ((31 : Int32) &&& 31).toUInt32).toInt32).toInt8.toInt32) = 0 := by
  rw [Int32.sub_self]; decide
theorem oj_cod1 {n : Nat} (h0 : 0 < n) (h : n ≤ 4000) : nar .byte ((((Int32.ofNat n - Int32.ofNat (2 * n)).toUInt32 >>> ((31 : Int32) &&& 31).toUInt32).toInt32).toInt8.toInt32) = 1 := by
  have q := c_iushr (Int32.ofNat n - Int32.ofNat (2 * n)) 31 31 (by decide) (by decide)
  have e := c_isub (Int32.ofNat n) (Int32.ofNat (2 * n))
  have r := rng32 (Int32.ofNat n - Int32.ofNat (2 * n))
  rw [Int32.toInt_ofNat_of_lt (by omega), Int32.toInt_ofNat_of_lt (by omega)] at e
  have v : ((((Int32.ofNat n - Int32.ofNat (2 * n)).toUInt32 >>> ((31 : Int32) &&& 31).toUInt32).toInt32)) = 1 := by
    apply Int32.toInt_inj.mp
    rw [q]
    have : ((1 : Int32).toInt) = 1 := rfl
    omega
  rw [v]; decide
theorem oj_c16 {c : Int32} (h : ¬ c < 0 ∧ ¬ (65535 : Int32) < c) : nar .char c = c := by
  show c.toUInt32.toUInt16.toUInt32.toInt32 = c
  have q := c_i2c c
  have r := rng32 c
  obtain ⟨h0, h1⟩ := h
  rw [Int32.lt_iff_toInt_lt] at h0 h1
  have e0 : (0 : Int32).toInt = 0 := rfl
  have e1 : (65535 : Int32).toInt = 65535 := rfl
  apply Int32.toInt_inj.mp
  omega
def own_let (c : Int32) : Int32 := if c < 97 then 0 else if (122 : Int32) < c then 0 else 1
def own_par (c : Int32) : Int32 := if own_let c = 0 then (if c < 48 then (if c = 45 then 1 else 0) else if (57 : Int32) < c then (if c = 45 then 1 else 0) else 1) else 1
def own_all : List Int32 → Int32
  | [] => 1
  | c :: r => if own_par c = 0 then 0 else own_all r
def own_val (cs : List Int32) : Int32 := if (if cs.length = 0 then (1 : Int32) else (0 : Int32)) = (0 : Int32) then (if (64 : Int32) < Int32.ofNat cs.length then 0 else if own_let (cs.getD 0 0) = 0 then 0 else own_all (cs.drop 1)) else 0
theorem own_skip : ∀ (L R : List Int32), (∀ c ∈ L, ¬ own_par c = 0) → own_all (L ++ R) = own_all R
  | [], _, _ => rfl
  | c :: r, R, h => by
    simp only [List.cons_append, own_all]
    rw [if_neg (h c (List.mem_cons_self ..))]
    exact own_skip r R fun d hd => h d (List.mem_cons_of_mem _ hd)
theorem own_drop {cs : List Int32} {i : Nat} (h : i < cs.length) : cs.drop i = cs.getD i 0 :: cs.drop (i + 1) := by
  rw [List.getD_eq_getElem?_getD, List.getElem?_eq_getElem h]
  exact List.drop_eq_getElem_cons h
theorem own_c16 (x : Int32) : ¬ x.toUInt32.toUInt16.toUInt32.toInt32 < 0 ∧ ¬ (65535 : Int32) < x.toUInt32.toUInt16.toUInt32.toInt32 := by
  have h := c_i2c x
  simp only [Int32.lt_iff_toInt_lt]
  have e0 : (0 : Int32).toInt = 0 := rfl
  have e1 : (65535 : Int32).toInt = 65535 := rfl
  omega

theorem d7_0 : decode jdk_52_method_21_code 0 = .ok (.iconst 0, 1) := by decide +kernel
theorem d7_1 : decode jdk_52_method_21_code 1 = .ok (.istore 5, 2) := by decide +kernel
theorem d7_3 : decode jdk_52_method_21_code 3 = .ok (.iload 5, 2) := by decide +kernel
theorem d7_5 : decode jdk_52_method_21_code 5 = .ok (.iload 4, 2) := by decide +kernel
theorem d7_7 : decode jdk_52_method_21_code 7 = .ok (.if_icmp .ge 37, 3) := by decide +kernel
theorem d7_44 : decode jdk_52_method_21_code 44 = .ok (.iload 4, 2) := by decide +kernel
theorem d7_46 : decode jdk_52_method_21_code 46 = .ok (.ireturn, 1) := by decide +kernel
theorem d7_10 : decode jdk_52_method_21_code 10 = .ok (.aload_n 0, 1) := by decide +kernel
theorem d7_11 : decode jdk_52_method_21_code 11 = .ok (.iload_n 1, 1) := by decide +kernel
theorem d7_12 : decode jdk_52_method_21_code 12 = .ok (.caload, 1) := by decide +kernel
theorem d7_13 : decode jdk_52_method_21_code 13 = .ok (.istore 6, 2) := by decide +kernel
theorem d7_15 : decode jdk_52_method_21_code 15 = .ok (.iload 6, 2) := by decide +kernel
theorem d7_17 : decode jdk_52_method_21_code 17 = .ok (.sipush 255, 3) := by decide +kernel
theorem d7_20 : decode jdk_52_method_21_code 20 = .ok (.if_icmp .le 6, 3) := by decide +kernel
theorem d7_23 : decode jdk_52_method_21_code 23 = .ok (.iload 5, 2) := by decide +kernel
theorem d7_25 : decode jdk_52_method_21_code 25 = .ok (.ireturn, 1) := by decide +kernel
theorem d7_26 : decode jdk_52_method_21_code 26 = .ok (.aload_n 2, 1) := by decide +kernel
theorem d7_27 : decode jdk_52_method_21_code 27 = .ok (.iload_n 3, 1) := by decide +kernel
theorem d7_28 : decode jdk_52_method_21_code 28 = .ok (.iload 6, 2) := by decide +kernel
theorem d7_30 : decode jdk_52_method_21_code 30 = .ok (.i2b, 1) := by decide +kernel
theorem d7_31 : decode jdk_52_method_21_code 31 = .ok (.bastore, 1) := by decide +kernel
theorem d7_32 : decode jdk_52_method_21_code 32 = .ok (.iinc 1 1, 3) := by decide +kernel
theorem d7_35 : decode jdk_52_method_21_code 35 = .ok (.iinc 3 1, 3) := by decide +kernel
theorem d7_38 : decode jdk_52_method_21_code 38 = .ok (.iinc 5 1, 3) := by decide +kernel
theorem d7_41 : decode jdk_52_method_21_code 41 = .ok (.goto (-38), 3) := by decide +kernel
abbrev y_0 : MethodName := ⟨"java/lang/StringUTF16", "compress", "([CI[BII)I"⟩
theorem pn_0 : plainFor y_0 = true := by first | exact plainFor_of_name (by first | (simp [plainName, overriddenIn]; done) | decide +kernel) | decide +kernel
theorem ef_rmCmp5 (m : MethodId) (a1 : Addr) (a3 : Addr) (pn : Int32) : entryFrame m #[(.ref a1), (.int 0), (.ref a3), (.int 0), (.int pn)] 7 = mkF m 0 #[sr a1, si 0, sr a3, si 0, si pn, .unset, .unset] [] := by first | (simp [entryFrame, mkF, argsToLocals, Value.category]; done) | rfl
def Q_rmCmp5 (Z : State) (a1 : Addr) (a3 : Addr) (pn : Int32) (kC : ClassId) (kB : ClassId) (cs : List Int32) (dC : Value) (h0 : Heap) (n0 : Nat) (v : Option Value) (h : Heap) (L : List Loc) : Prop := v = some (.int (Int32.ofNat (own_k cs))) ∧ Fr n0 L ∧ Keep h0 h [a3] ∧ (Arv Z h a3 kB .byte pn ((cs.take (own_k cs)).map fun c => Value.int (StrChars.lo8 c)) (.int 0))
set_option maxRecDepth 65536 in
set_option maxHeartbeats 40000000 in
theorem rmCmp5 (l : Launch) (Z : State) (a0 : Array Value) (hw : ∀ d ∈ tables_1, d.before a0 Z = true) (ws : List Jvm.Cond) (a1 : Addr) (a3 : Addr) (pn : Int32) (kC : ClassId) (kB : ClassId) (cs : List Int32) (dC : Value) (h0 : Heap) (n0 : Nat) (Z0 : n0 ≤ h0.size) (hn : pn = Int32.ofNat cs.length) (hl : cs.length ≤ 65) (hp2 : Arv Z h0 a1 kC .char pn (cs.map Value.int) dC) (hp3 : Arv Z h0 a3 kB .byte pn [] (.int 0)) (hp4 : n0 ≤ a3) (hp5 : a1 ≠ a3) :
    MetFree l y_0 (head1 (Jvm.Cond.code y_0 jdk_52_method_21_code 7 (some .int) :: ws) ({ frames := 0, cells := 0, slots := 0, locals := 0 } : Room)) (fun a U => a = #[(.ref a1), (.int 0), (.ref a3), (.int 0), (.int pn)] ∧ Z.Warmed39 U.vm ∧ U.heap = h0) (fun _ _ _ _ _ => True) (fun _ U o U' => ∃ v L, o = .returned v ∧ Q_rmCmp5 Z a1 a3 pn kC kB cs dC h0 n0 v U'.heap L ∧ FrameEnd U o U' L ({ frames := 0, cells := 0, slots := 0, locals := 0 } : Room).cells ({ frames := 0, cells := 0, slots := 0, locals := 0 } : Room).slots) := by
 refine bodyOf pn_0 (fun m => ef_rmCmp5 m a1 a3 pn) ?_
 intro p e s m below meth c T0 X0 hx hby hml hown hnm hret hk hZ e0
 have N0 := Fr.nil n0
 have K0 : Keep h0 h0 [a3] := Keep.refl _ _
 have ne_a1_a3 := hp5
 refine go (S' := T0.setTop (mkF m 3 #[sr a1, si 0, sr a3, si 0, si pn, si 0, .unset] [])) (fun t k => XS.iconst X0.here hx rfl (hb hby d7_0) (XS.istore X0.here hx rfl (hb hby d7_1) rfl (l' := #[sr a1, si 0, sr a3, si 0, si pn, si 0, .unset]) rfl k)) ?_
 have loop5 : ∀ (r : Nat) (i : Nat) (s6 : Slot) (T : State) (locs : List Loc) (h : Heap), (i + r = cs.length) → (∀ j, j < i → ¬ (255 : Int32) < cs.getD j 0) → (One s6) → Stand p l e ({ frames := 0, cells := 0, slots := 0, locals := 0 } : Room) s m #[(.ref a1), (.int 0), (.ref a3), (.int 0), (.int pn)] below meth c T locs 0 0 → T.heap = h → Fr n0 locs → Keep h0 h [a3] → Arv Z h a1 kC .char pn (cs.map Value.int) dC → Arv Z h a3 kB .byte pn ((cs.take i).map fun c => Value.int (StrChars.lo8 c)) (.int 0) → Goes p.tables e below (EndP s below (Q_rmCmp5 Z a1 a3 pn kC kB cs dC h0 n0) ({ frames := 0, cells := 0, slots := 0, locals := 0 } : Room).cells ({ frames := 0, cells := 0, slots := 0, locals := 0 } : Room).slots) (T.setTop (mkF m 3 #[sr a1, si (Int32.ofNat i), sr a3, si (Int32.ofNat i), si pn, si (Int32.ofNat i), s6] [])) := by
  intro r
  induction r with
  | zero =>
   intro i s6 T locs h hi hbd hs6 X eT N K lf1_0 lf1_1
   refine go (S' := T.setTop (mkF m 7 #[sr a1, si (Int32.ofNat i), sr a3, si (Int32.ofNat i), si pn, si (Int32.ofNat i), s6] [(.int pn), (.int (Int32.ofNat i))])) (fun t k => XS.iload X.here hx rfl (hb hby d7_3) rfl (XS.iload X.here hx rfl (hb hby d7_5) rfl k)) ?_
   have hc2 : ¬ ((Int32.ofNat i) < pn) := by rw [hn]; exact oj_nlt (by omega) (by omega) (by omega)
   refine go (S' := T.setTop (mkF m 46 #[sr a1, si (Int32.ofNat i), sr a3, si (Int32.ofNat i), si pn, si (Int32.ofNat i), s6] [(.int pn)])) (fun t k => XS.icmpYes X.here hx rfl (pc0 := 7) (pc' := 44) rfl (hb hby d7_7) rfl (flt hc2).2.1 (by decide) (by decide) (XS.iload X.here hx rfl (hb hby d7_44) rfl k)) ?_
   refine finI X hx hk hret (hb hby d7_46) (by decide) (by decide) ?_
   have hk5 : own_k cs = i := (own_k_all cs (fun j hj => hbd j (by omega))).trans (by omega)
   rw [eT]
   refine ⟨?_, N, K, ?_⟩
   · rw [hk5, hn, ← (by omega : i = cs.length)]
   · rw [hk5]; exact lf1_1
  | succ r ih =>
   intro i s6 T locs h hi hbd hs6 X eT N K lf1_0 lf1_1
   refine go (S' := T.setTop (mkF m 7 #[sr a1, si (Int32.ofNat i), sr a3, si (Int32.ofNat i), si pn, si (Int32.ofNat i), s6] [(.int pn), (.int (Int32.ofNat i))])) (fun t k => XS.iload X.here hx rfl (hb hby d7_3) rfl (XS.iload X.here hx rfl (hb hby d7_5) rfl k)) ?_
   have hc3 : (Int32.ofNat i) < pn := by rw [hn]; exact oj_lt (by omega) (by omega)
   refine go (S' := T.setTop (mkF m 12 #[sr a1, si (Int32.ofNat i), sr a3, si (Int32.ofNat i), si pn, si (Int32.ofNat i), s6] [(.int (Int32.ofNat i)), (.ref a1)])) (fun t k => XS.icmpNo X.here hx rfl (hb hby d7_7) rfl (tlt hc3).2.1 (XS.aloadN X.here hx rfl (hb hby d7_10) rfl rfl (XS.iloadN X.here hx rfl (hb hby d7_11) rfl k))) ?_
   obtain ⟨cl4, Ar4, q4, S4, M4, H4, G4⟩ := id lf1_0
   have hin4 : ¬ ((Int32.ofNat i) < 0 ∨ cl4.slots.size ≤ ((Int32.ofNat i)).toNatClampNeg) := oj_in S4 hn (by omega) (by omega)
   have hat4 : cl4.slots[((Int32.ofNat i)).toNatClampNeg]? = some (.int (cs.getD i 0)) := Has.at H4 hin4 (by rw [oj_n (by omega)]; exact oj_get cs (by omega) _)
   refine go (S' := T.setTop (mkF m 20 #[sr a1, si (Int32.ofNat i), sr a3, si (Int32.ofNat i), si pn, si (Int32.ofNat i), si (cs.getD i 0)] [(.int 255), (.int (cs.getD i 0))])) (fun t k => X.caload hx (j := (Int32.ofNat i)) (v := (.int (cs.getD i 0))) (by rw [eT]; exact Ar4.1) (State.isArrayOf_alike hZ.alike Ar4.2.1) Ar4.2.2 hin4 hat4 (g := (mkF m 12 #[sr a1, si (Int32.ofNat i), sr a3, si (Int32.ofNat i), si pn, si (Int32.ofNat i), s6] [(.int (Int32.ofNat i)), (.ref a1)])) rfl rfl (hb hby d7_12) _ (XS.istore X.here hx rfl (hb hby d7_13) rfl (l' := #[sr a1, si (Int32.ofNat i), sr a3, si (Int32.ofNat i), si pn, si (Int32.ofNat i), si (cs.getD i 0)]) (XS.store1 rfl hs6 rfl) (XS.iload X.here hx rfl (hb hby d7_15) rfl (XS.sipush X.here hx rfl (hb hby d7_17) k)))) ?_
   by_cases hc5 : (255 : Int32) < (cs.getD i 0)
   ·
    refine go (S' := T.setTop (mkF m 25 #[sr a1, si (Int32.ofNat i), sr a3, si (Int32.ofNat i), si pn, si (Int32.ofNat i), si (cs.getD i 0)] [(.int (Int32.ofNat i))])) (fun t k => XS.icmpNo X.here hx rfl (hb hby d7_20) rfl (tlt hc5).2.2.2 (XS.iload X.here hx rfl (hb hby d7_23) rfl k)) ?_
    refine finI X hx hk hret (hb hby d7_25) (by decide) (by decide) ?_
    have hk5 : own_k cs = i := own_k_at cs i hbd (by omega) hc5
    rw [eT]
    refine ⟨?_, N, K, ?_⟩
    · rw [hk5]
    · rw [hk5]; exact lf1_1
   ·
    refine go (S' := T.setTop (mkF m 31 #[sr a1, si (Int32.ofNat i), sr a3, si (Int32.ofNat i), si pn, si (Int32.ofNat i), si (cs.getD i 0)] [(.int ((cs.getD i 0).toInt8.toInt32)), (.int (Int32.ofNat i)), (.ref a3)])) (fun t k => XS.icmpYes X.here hx rfl (pc0 := 20) (pc' := 26) rfl (hb hby d7_20) rfl (flt hc5).2.2.2 (by decide) (by decide) (XS.aloadN X.here hx rfl (hb hby d7_26) rfl rfl (XS.iloadN X.here hx rfl (hb hby d7_27) rfl (XS.iload X.here hx rfl (hb hby d7_28) rfl (XS.i2b X.here hx rfl (hb hby d7_30) rfl k))))) ?_
    obtain ⟨cl6, Ar6, q6, S6, M6, H6, G6⟩ := id lf1_1
    have hin6 : ¬ ((Int32.ofNat i) < 0 ∨ cl6.slots.size ≤ ((Int32.ofNat i)).toNatClampNeg) := oj_in S6 hn (by omega) (by omega)
    obtain ⟨T6, h6, X6, e6, W6, st6⟩ := stB X hx hZ eT Ar6 (j := (Int32.ofNat i)) hin6 (g := (mkF m 31 #[sr a1, si (Int32.ofNat i), sr a3, si (Int32.ofNat i), si pn, si (Int32.ofNat i), si (cs.getD i 0)] [(.int ((cs.getD i 0).toInt8.toInt32)), (.int (Int32.ofNat i)), (.ref a3)])) rfl rfl (hb hby d7_31)
    have V6 : Arv Z h6 a3 kB .byte pn ((cs.take (i + 1)).map fun c => Value.int (StrChars.lo8 c)) (.int 0) := by
     have q := arvSnoc Ar6 q6 S6 M6 H6 G6 (fits_nar_byte _) W6 (by rw [oj_n (by omega)]; simp; omega)
     (first | rw [oj_narb] at q | rw [oj_bb] at q); rw [← StrChars.lo8] at q; rw [← oj_take cs (by omega)]; exact q
    have K7 : Keep h0 h6 [a3] := K.wr W6 (Or.inl (List.mem_of_getElem? (i := 0) rfl))
    have N8 := Fr.snoc X6 N hp4
    refine go (S' := T6.setTop (mkF m 3 #[sr a1, si ((Int32.ofNat i) + (1 : Int32)), sr a3, si ((Int32.ofNat i) + (1 : Int32)), si pn, si ((Int32.ofNat i) + (1 : Int32)), si (cs.getD i 0)] [])) (fun t k => st6 _ (XS.iinc X6.here hx rfl (hb hby d7_32) rfl (l' := #[sr a1, si ((Int32.ofNat i) + (1 : Int32)), sr a3, si (Int32.ofNat i), si pn, si (Int32.ofNat i), si (cs.getD i 0)]) rfl (XS.iinc X6.here hx rfl (hb hby d7_35) rfl (l' := #[sr a1, si ((Int32.ofNat i) + (1 : Int32)), sr a3, si ((Int32.ofNat i) + (1 : Int32)), si pn, si (Int32.ofNat i), si (cs.getD i 0)]) rfl (XS.iinc X6.here hx rfl (hb hby d7_38) rfl (l' := #[sr a1, si ((Int32.ofNat i) + (1 : Int32)), sr a3, si ((Int32.ofNat i) + (1 : Int32)), si pn, si ((Int32.ofNat i) + (1 : Int32)), si (cs.getD i 0)]) rfl (XS.goto X6.here hx rfl (pc0 := 41) (pc' := 3) rfl (hb hby d7_41) (by decide) (by decide) k))))) ?_
    rw [oj_one i]
    have f9 : Arv Z h6 a1 kC .char pn (cs.map Value.int) dC := (lf1_0.other W6 ne_a1_a3)
    exact ih (i + 1) _ _ _ _ (by omega) (fun j hj => by by_cases qj : j < i; exact hbd j qj; rw [(by omega : j = i)]; exact hc5) (One.val rfl) X6 e6 N8 K7 f9 V6
 exact loop5 cs.length 0 _ _ _ _ (Nat.zero_add _) (fun j hj => absurd hj (Nat.not_lt_zero _)) One.u X0 e0 N0 K0 hp2 hp3
theorem d20_0 : decode jdk_52_method_3_code 0 = .ok (.iload_n 0, 1) := by decide +kernel
theorem d20_1 : decode jdk_52_method_3_code 1 = .ok (.ifCond .ge 11, 3) := by decide +kernel
theorem d20_12 : decode jdk_52_method_3_code 12 = .ok (.iload_n 0, 1) := by decide +kernel
theorem d20_13 : decode jdk_52_method_3_code 13 = .ok (.ldc 20, 2) := by decide +kernel
theorem d20_15 : decode jdk_52_method_3_code 15 = .ok (.if_icmp .lt 40, 3) := by decide +kernel
theorem d20_55 : decode jdk_52_method_3_code 55 = .ok (.iload_n 0, 1) := by decide +kernel
theorem d20_56 : decode jdk_52_method_3_code 56 = .ok (.iconst 1, 1) := by decide +kernel
theorem d20_57 : decode jdk_52_method_3_code 57 = .ok (.ishl, 1) := by decide +kernel
theorem d20_58 : decode jdk_52_method_3_code 58 = .ok (.ireturn, 1) := by decide +kernel
abbrev y_1 : MethodName := ⟨"java/lang/StringUTF16", "newBytesLength", "(I)I"⟩
theorem pn_1 : plainFor y_1 = true := by first | exact plainFor_of_name (by first | (simp [plainName, overriddenIn]; done) | decide +kernel) | decide +kernel
theorem ef_rmNbl (m : MethodId) (p1 : Int32) : entryFrame m #[(.int p1)] 1 = mkF m 0 #[si p1] [] := by first | (simp [entryFrame, mkF, argsToLocals, Value.category]; done) | rfl
def Q_rmNbl (Z : State) (p1 : Int32) (h0 : Heap) (n0 : Nat) (v : Option Value) (h : Heap) (L : List Loc) : Prop := v = some (.int (p1 <<< ((1 : Int32) &&& 31))) ∧ Fr n0 L ∧ h = h0
set_option maxRecDepth 65536 in
set_option maxHeartbeats 40000000 in
theorem rmNbl (l : Launch) (Z : State) (a0 : Array Value) (hw : ∀ d ∈ tables_1, d.before a0 Z = true) (ws : List Jvm.Cond) (p1 : Int32) (h0 : Heap) (n0 : Nat) (Z0 : n0 ≤ h0.size) (hz0 : ¬ (p1 < (0 : Int32))) (hz1 : p1 < (1073741823 : Int32)) :
    MetFree l y_1 (head1 (Jvm.Cond.code y_1 jdk_52_method_3_code 1 (some .int) :: ws) ({ frames := 0, cells := 0, slots := 0, locals := 0 } : Room)) (fun a U => a = #[(.int p1)] ∧ Z.Warmed39 U.vm ∧ U.heap = h0) (fun _ _ _ _ _ => True) (fun _ U o U' => ∃ v L, o = .returned v ∧ Q_rmNbl Z p1 h0 n0 v U'.heap L ∧ FrameEnd U o U' L ({ frames := 0, cells := 0, slots := 0, locals := 0 } : Room).cells ({ frames := 0, cells := 0, slots := 0, locals := 0 } : Room).slots) := by
 refine bodyOf pn_1 (fun m => ef_rmNbl m p1) ?_
 intro p e s m below meth c T0 X0 hx hby hml hown hnm hret hk hZ e0
 have N0 := Fr.nil n0
 have K0 : Keep h0 h0 [] := Keep.refl _ _
 refine go (S' := T0.setTop (mkF m 58 #[si p1] [(.int (p1 <<< ((1 : Int32) &&& 31)))])) (fun t k => XS.iloadN X0.here hx rfl (hb hby d20_0) rfl (XS.ifYes X0.here hx rfl (pc0 := 1) (pc' := 12) rfl (hb hby d20_1) rfl ((if0 _ _).trans (flt hz0).2.1) (by decide) (by decide) (XS.iloadN X0.here hx rfl (hb hby d20_12) rfl (X0.ldcInt hx hown (mvT hZ (ww hw 90 rfl)) (g := (mkF m 13 #[si p1] [(.int p1)])) rfl (hb hby d20_13) _ (XS.icmpYes X0.here hx rfl (pc0 := 15) (pc' := 55) rfl (hb hby d20_15) rfl (tlt hz1).1 (by decide) (by decide) (XS.iloadN X0.here hx rfl (hb hby d20_55) rfl (XS.iconst X0.here hx rfl (hb hby d20_56) (XS.ishl X0.here hx rfl (hb hby d20_57) rfl k)))))))) ?_
 refine finI X0 hx hk hret (hb hby d20_58) (by decide) (by decide) ?_
 rw [e0]
 exact ⟨rfl, N0, rfl⟩
theorem d19_0 : decode jdk_52_method_2_code 0 = .ok (.iload_n 0, 1) := by decide +kernel
theorem d19_1 : decode jdk_52_method_2_code 1 = .ok (.invokestatic 11, 3) := by decide +kernel
theorem pd_0 : parseMethodDescriptor "(I)I" = some ⟨[.int], some .int⟩ := by decide +kernel
theorem d19_4 : decode jdk_52_method_2_code 4 = .ok (.newarray .byte, 2) := by decide +kernel
theorem d19_6 : decode jdk_52_method_2_code 6 = .ok (.areturn, 1) := by decide +kernel
abbrev y_2 : MethodName := ⟨"java/lang/StringUTF16", "newBytesFor", "(I)[B"⟩
theorem pn_2 : plainFor y_2 = true := by first | exact plainFor_of_name (by first | (simp [plainName, overriddenIn]; done) | decide +kernel) | decide +kernel
theorem ef_rmNbf (m : MethodId) (p1 : Int32) : entryFrame m #[(.int p1)] 1 = mkF m 0 #[si p1] [] := by first | (simp [entryFrame, mkF, argsToLocals, Value.category]; done) | rfl
def Q_rmNbf (Z : State) (p1 : Int32) (n : Nat) (h0 : Heap) (n0 : Nat) (v : Option Value) (h : Heap) (L : List Loc) : Prop := ∃ (t : Addr), ∃ (kb : ClassId), v = some (.ref t) ∧ Fr n0 L ∧ Keep h0 h [] ∧ (h0.size ≤ t) ∧ (Arv Z h t kb .byte (Int32.ofNat (2 * n)) [] (.int 0))
set_option maxRecDepth 65536 in
set_option maxHeartbeats 40000000 in
theorem rmNbf (l : Launch) (Z : State) (a0 : Array Value) (hw : ∀ d ∈ tables_1, d.before a0 Z = true) (ws : List Jvm.Cond) (p1 : Int32) (n : Nat) (h0 : Heap) (n0 : Nat) (Z0 : n0 ≤ h0.size) (hn : p1 = Int32.ofNat n) (hl : n ≤ 65) :
    MetFree l y_2 (head1 (Jvm.Cond.code y_2 jdk_52_method_2_code 1 (some (.array .byte)) :: ws) ({ frames := 1, cells := 1, slots := 130, locals := 12 } : Room)) (fun a U => a = #[(.int p1)] ∧ Z.Warmed39 U.vm ∧ U.heap = h0) (fun _ _ _ _ _ => True) (fun _ U o U' => ∃ v L, o = .returned v ∧ Q_rmNbf Z p1 n h0 n0 v U'.heap L ∧ FrameEnd U o U' L ({ frames := 1, cells := 1, slots := 130, locals := 12 } : Room).cells ({ frames := 1, cells := 1, slots := 130, locals := 12 } : Room).slots) := by
 refine bodyOf pn_2 (fun m => ef_rmNbf m p1) ?_
 intro p e s m below meth c T0 X0 hx hby hml hown hnm hret hk hZ e0
 have N0 := Fr.nil n0
 have K0 : Keep h0 h0 [] := Keep.refl _ _
 have hz0 : ¬ (p1 < (0 : Int32)) := by rw [hn]; exact oj_nn (by omega)
 have hz1 : p1 < (1073741823 : Int32) := by rw [hn]; exact (Int32.ofNat_lt_ofNat (n := 1073741823) (by omega) (by omega)).mpr (by omega)
 refine go (S' := T0.setTop (mkF m 1 #[si p1] [(.int p1)])) (fun t k => XS.iloadN X0.here hx rfl (hb hby d19_0) rfl k) ?_
 obtain ⟨v10, T10, L10, X10, hQ10, st10⟩ := callSt X0 hx hZ (y := y_1) hown (ww hw 87 rfl) (ww hw 88 rfl) (ww hw 34 rfl) (ww hw 89 rfl) (by decide) (backOf (W := 0) (rmNbl l Z a0 hw [] p1 h0 n0 (Nat.le_trans Z0 K0.1) hz0 hz1) hZ (ww hw 89 rfl) (ww hw 34 rfl) (by decide) (by decide)) (g := (mkF m 1 #[si p1] [(.int p1)])) rfl (by rw [hml]; rfl) (kc := 0) (ks := 0) (argsL := [(.int p1)]) (rest := []) (lenOf pd_0 rfl) rfl (mr0 rfl) (hb hby d19_1) e0 (by decide) (by decide)
 obtain ⟨rfl, N10q, e10⟩ := hQ10
 have N10 := Fr.app N0 N10q
 refine go (S' := T10.setTop (mkF m 4 #[si p1] [(.int (p1 <<< ((1 : Int32) &&& 31)))])) st10 ?_
 rw [hn, oj_dbl (by omega)]
 obtain ⟨T11, h11, k11, X11, e11, E11, A11, st11⟩ := newP X10 hx hZ (ww hw 15 rfl) e10 (g := (mkF m 4 #[si (Int32.ofNat n)] [(.int (Int32.ofNat (2 * n)))])) rfl (hb hby d19_4) rfl (oj_nn (by omega)) (cap := 130) (by rw [oj_n (by omega)]; omega) (by decide) (by decide) (by decide)
 obtain ⟨b11, g11⟩ : ∃ z, z = h0.size := ⟨_, rfl⟩
 rw [← g11] at A11 st11
 have ge_b11 : n0 ≤ b11 := by rw [g11]; exact (Nat.le_trans Z0 K0.1)
 have sz_b11 : h0.size ≤ b11 := by rw [g11]; exact K0.1
 have K12 : Keep h0 h11 [] := K0.ext E11
 have V11 : Arv Z h11 b11 k11 .byte (Int32.ofNat (2 * n)) [] (.int 0) := Arv.new A11 (oj_nn (by omega))
 refine go (S' := T11.setTop (mkF m 6 #[si (Int32.ofNat n)] [(.ref b11)])) st11 ?_
 refine finR X11 hx hk hret rfl rfl (hb hby d19_6) (by decide) (by decide) ?_
 rw [e11]
 exact ⟨b11, k11, rfl, N10, K12, sz_b11, V11⟩
theorem d21_0 : decode jdk_52_method_4_code 0 = .ok (.getstatic 44, 3) := by decide +kernel
theorem d21_3 : decode jdk_52_method_4_code 3 = .ok (.ifCond .ne 25, 3) := by decide +kernel
theorem d21_28 : decode jdk_52_method_4_code 28 = .ok (.iload_n 1, 1) := by decide +kernel
theorem d21_29 : decode jdk_52_method_4_code 29 = .ok (.iconst 1, 1) := by decide +kernel
theorem d21_30 : decode jdk_52_method_4_code 30 = .ok (.ishl, 1) := by decide +kernel
theorem d21_31 : decode jdk_52_method_4_code 31 = .ok (.istore_n 1, 1) := by decide +kernel
theorem d21_32 : decode jdk_52_method_4_code 32 = .ok (.aload_n 0, 1) := by decide +kernel
theorem d21_33 : decode jdk_52_method_4_code 33 = .ok (.iload_n 1, 1) := by decide +kernel
theorem d21_34 : decode jdk_52_method_4_code 34 = .ok (.iinc 1 1, 3) := by decide +kernel
theorem d21_37 : decode jdk_52_method_4_code 37 = .ok (.iload_n 2, 1) := by decide +kernel
theorem d21_38 : decode jdk_52_method_4_code 38 = .ok (.getstatic 59, 3) := by decide +kernel
theorem d21_41 : decode jdk_52_method_4_code 41 = .ok (.ishr, 1) := by decide +kernel
theorem d21_42 : decode jdk_52_method_4_code 42 = .ok (.i2b, 1) := by decide +kernel
theorem d21_43 : decode jdk_52_method_4_code 43 = .ok (.bastore, 1) := by decide +kernel
theorem d21_44 : decode jdk_52_method_4_code 44 = .ok (.aload_n 0, 1) := by decide +kernel
theorem d21_45 : decode jdk_52_method_4_code 45 = .ok (.iload_n 1, 1) := by decide +kernel
theorem d21_46 : decode jdk_52_method_4_code 46 = .ok (.iload_n 2, 1) := by decide +kernel
theorem d21_47 : decode jdk_52_method_4_code 47 = .ok (.getstatic 63, 3) := by decide +kernel
theorem d21_50 : decode jdk_52_method_4_code 50 = .ok (.ishr, 1) := by decide +kernel
theorem d21_51 : decode jdk_52_method_4_code 51 = .ok (.i2b, 1) := by decide +kernel
theorem d21_52 : decode jdk_52_method_4_code 52 = .ok (.bastore, 1) := by decide +kernel
theorem d21_53 : decode jdk_52_method_4_code 53 = .ok (.return_, 1) := by decide +kernel
abbrev y_3 : MethodName := ⟨"java/lang/StringUTF16", "putChar", "([BII)V"⟩
theorem pn_3 : plainFor y_3 = true := by first | exact plainFor_of_name (by first | (simp [plainName, overriddenIn]; done) | decide +kernel) | decide +kernel
theorem ef_rmPut (m : MethodId) (a1 : Addr) (p2 : Int32) (p3 : Int32) : entryFrame m #[(.ref a1), (.int p2), (.int p3)] 3 = mkF m 0 #[sr a1, si p2, si p3] [] := by first | (simp [entryFrame, mkF, argsToLocals, Value.category]; done) | rfl
def Q_rmPut (Z : State) (a1 : Addr) (p2 : Int32) (p3 : Int32) (kB : ClassId) (m_ : Nat) (n : Nat) (vs : List Value) (h0 : Heap) (n0 : Nat) (v : Option Value) (h : Heap) (L : List Loc) : Prop := v = none ∧ Fr n0 L ∧ Keep h0 h [a1] ∧ (Arv Z h a1 kB .byte (Int32.ofNat (2 * n)) (vs ++ [.int (StrChars.lo8 p3)] ++ [.int (StrChars.hi8 p3)]) (.int 0))
set_option maxRecDepth 65536 in
set_option maxHeartbeats 40000000 in
theorem rmPut (l : Launch) (Z : State) (a0 : Array Value) (hw : ∀ d ∈ tables_1, d.before a0 Z = true) (ws : List Jvm.Cond) (a1 : Addr) (p2 : Int32) (p3 : Int32) (kB : ClassId) (m_ : Nat) (n : Nat) (vs : List Value) (h0 : Heap) (n0 : Nat) (Z0 : n0 ≤ h0.size) (hp0 : Arv Z h0 a1 kB .byte (Int32.ofNat (2 * n)) vs (.int 0)) (hm : p2 = Int32.ofNat m_) (hv : vs.length = 2 * m_) (hmn : m_ < n) (hl : n ≤ 65) (hp5 : n0 ≤ a1) (hp6 : Sta Z Z.heap "java/lang/StringUTF16" "$assertionsDisabled" "Z" (.int 1)) (hp7 : Sta Z Z.heap "java/lang/StringUTF16" "HI_BYTE_SHIFT" "I" (.int 0)) (hp8 : Sta Z Z.heap "java/lang/StringUTF16" "LO_BYTE_SHIFT" "I" (.int 8)) (hp9 : Old Z n0 h0) :
    MetFree l y_3 (head1 (Jvm.Cond.code y_3 jdk_52_method_4_code 3 none :: ws) ({ frames := 0, cells := 0, slots := 0, locals := 0 } : Room)) (fun a U => a = #[(.ref a1), (.int p2), (.int p3)] ∧ Z.Warmed39 U.vm ∧ U.heap = h0) (fun _ _ _ _ _ => True) (fun _ U o U' => ∃ v L, o = .returned v ∧ Q_rmPut Z a1 p2 p3 kB m_ n vs h0 n0 v U'.heap L ∧ FrameEnd U o U' L ({ frames := 0, cells := 0, slots := 0, locals := 0 } : Room).cells ({ frames := 0, cells := 0, slots := 0, locals := 0 } : Room).slots) := by
 refine bodyOf pn_3 (fun m => ef_rmPut m a1 p2 p3) ?_
 intro p e s m below meth c T0 X0 hx hby hml hown hnm hret hk hZ e0
 have N0 := Fr.nil n0
 have K0 : Keep h0 h0 [a1] := Keep.refl _ _
 have O0 := hp9
 have O14 : Old Z n0 h0 := O0.keep K0 (allS hp5 all0)
 obtain ⟨T13, X13, e13, st13⟩ := getS2 X0 hx hZ hown (host := "") (Or.inl (ww hw 94 rfl)) Via.refl e0 (hp6.ext O14.2) (g := (mkF m 0 #[sr a1, si p2, si p3] [])) rfl (hb hby d21_0)
 refine go (S' := T13.setTop (mkF m 3 #[sr a1, si p2, si p3] [(.int 1)])) st13 ?_
 have hc15 : ¬ ((1 : Int32) = (0 : Int32)) := by decide
 refine go (S' := T13.setTop (mkF m 32 #[sr a1, si (p2 <<< ((1 : Int32) &&& 31)), si p3] [])) (fun t k => XS.ifYes X13.here hx rfl (pc0 := 3) (pc' := 28) rfl (hb hby d21_3) rfl ((if0 _ _).trans (feq hc15).2) (by decide) (by decide) (XS.iloadN X13.here hx rfl (hb hby d21_28) rfl (XS.iconst X13.here hx rfl (hb hby d21_29) (XS.ishl X13.here hx rfl (hb hby d21_30) rfl (XS.istoreN X13.here hx rfl (hb hby d21_31) rfl (l' := #[sr a1, si (p2 <<< ((1 : Int32) &&& 31)), si p3]) rfl k))))) ?_
 rw [hm, oj_dbl (by omega)]
 refine go (S' := T13.setTop (mkF m 37 #[sr a1, si ((Int32.ofNat (2 * m_)) + (1 : Int32)), si p3] [(.int (Int32.ofNat (2 * m_))), (.ref a1)])) (fun t k => XS.aloadN X13.here hx rfl (hb hby d21_32) rfl rfl (XS.iloadN X13.here hx rfl (hb hby d21_33) rfl (XS.iinc X13.here hx rfl (hb hby d21_34) rfl (l' := #[sr a1, si ((Int32.ofNat (2 * m_)) + (1 : Int32)), si p3]) rfl k))) ?_
 rw [oj_one]
 refine go (S' := T13.setTop (mkF m 38 #[sr a1, si (Int32.ofNat (2 * m_ + 1)), si p3] [(.int p3), (.int (Int32.ofNat (2 * m_))), (.ref a1)])) (fun t k => XS.iloadN X13.here hx rfl (hb hby d21_37) rfl k) ?_
 obtain ⟨T16, X16, e16, st16⟩ := getS2 X13 hx hZ hown (host := "") (Or.inl (ww hw 95 rfl)) Via.refl e13 (hp7.ext O14.2) (g := (mkF m 38 #[sr a1, si (Int32.ofNat (2 * m_ + 1)), si p3] [(.int p3), (.int (Int32.ofNat (2 * m_))), (.ref a1)])) rfl (hb hby d21_38)
 refine go (S' := T16.setTop (mkF m 43 #[sr a1, si (Int32.ofNat (2 * m_ + 1)), si p3] [(.int ((p3 >>> ((0 : Int32) &&& 31)).toInt8.toInt32)), (.int (Int32.ofNat (2 * m_))), (.ref a1)])) (fun t k => st16 _ (XS.ishr X16.here hx rfl (hb hby d21_41) rfl (XS.i2b X16.here hx rfl (hb hby d21_42) rfl k))) ?_
 obtain ⟨cl17, Ar17, q17, S17, M17, H17, G17⟩ := id hp0
 have hin17 : ¬ ((Int32.ofNat (2 * m_)) < 0 ∨ cl17.slots.size ≤ ((Int32.ofNat (2 * m_))).toNatClampNeg) := oj_in S17 rfl (by omega) (by omega)
 obtain ⟨T17, h17, X17, e17, W17, st17⟩ := stB X16 hx hZ e16 Ar17 (j := (Int32.ofNat (2 * m_))) hin17 (g := (mkF m 43 #[sr a1, si (Int32.ofNat (2 * m_ + 1)), si p3] [(.int ((p3 >>> ((0 : Int32) &&& 31)).toInt8.toInt32)), (.int (Int32.ofNat (2 * m_))), (.ref a1)])) rfl rfl (hb hby d21_43)
 have V17 : Arv Z h17 a1 kB .byte (Int32.ofNat (2 * n)) (vs ++ [.int (StrChars.lo8 p3)]) (.int 0) := by
  have q := arvSnoc Ar17 q17 S17 M17 H17 G17 (fits_nar_byte _) W17 (by rw [oj_n (by omega)]; exact hv.symm)
  (first | rw [oj_narb] at q | rw [oj_bb] at q); rw [oj_shr0, ← StrChars.lo8] at q; exact q
 have K18 : Keep h0 h17 [a1] := K0.wr W17 (Or.inl (List.mem_of_getElem? (i := 0) rfl))
 have N19 := Fr.snoc X17 N0 hp5
 refine go (S' := T17.setTop (mkF m 47 #[sr a1, si (Int32.ofNat (2 * m_ + 1)), si p3] [(.int p3), (.int (Int32.ofNat (2 * m_ + 1))), (.ref a1)])) (fun t k => st17 _ (XS.aloadN X17.here hx rfl (hb hby d21_44) rfl rfl (XS.iloadN X17.here hx rfl (hb hby d21_45) rfl (XS.iloadN X17.here hx rfl (hb hby d21_46) rfl k)))) ?_
 have O21 : Old Z n0 h17 := O0.keep K18 (allS hp5 all0)
 obtain ⟨T20, X20, e20, st20⟩ := getS2 X17 hx hZ hown (host := "") (Or.inl (ww hw 96 rfl)) Via.refl e17 (hp8.ext O21.2) (g := (mkF m 47 #[sr a1, si (Int32.ofNat (2 * m_ + 1)), si p3] [(.int p3), (.int (Int32.ofNat (2 * m_ + 1))), (.ref a1)])) rfl (hb hby d21_47)
 refine go (S' := T20.setTop (mkF m 52 #[sr a1, si (Int32.ofNat (2 * m_ + 1)), si p3] [(.int ((p3 >>> ((8 : Int32) &&& 31)).toInt8.toInt32)), (.int (Int32.ofNat (2 * m_ + 1))), (.ref a1)])) (fun t k => st20 _ (XS.ishr X20.here hx rfl (hb hby d21_50) rfl (XS.i2b X20.here hx rfl (hb hby d21_51) rfl k))) ?_
 obtain ⟨cl22, Ar22, q22, S22, M22, H22, G22⟩ := id V17
 have hin22 : ¬ ((Int32.ofNat (2 * m_ + 1)) < 0 ∨ cl22.slots.size ≤ ((Int32.ofNat (2 * m_ + 1))).toNatClampNeg) := oj_in S22 rfl (by omega) (by omega)
 obtain ⟨T22, h22, X22, e22, W22, st22⟩ := stB X20 hx hZ e20 Ar22 (j := (Int32.ofNat (2 * m_ + 1))) hin22 (g := (mkF m 52 #[sr a1, si (Int32.ofNat (2 * m_ + 1)), si p3] [(.int ((p3 >>> ((8 : Int32) &&& 31)).toInt8.toInt32)), (.int (Int32.ofNat (2 * m_ + 1))), (.ref a1)])) rfl rfl (hb hby d21_52)
 have V22 : Arv Z h22 a1 kB .byte (Int32.ofNat (2 * n)) (vs ++ [.int (StrChars.lo8 p3)] ++ [.int (StrChars.hi8 p3)]) (.int 0) := by
  have q := arvSnoc Ar22 q22 S22 M22 H22 G22 (fits_nar_byte _) W22 (by rw [oj_n (by omega)]; simp; omega)
  (first | rw [oj_narb] at q | rw [oj_bb] at q); rw [← StrChars.lo8, ← StrChars.hi8] at q; exact q
 have K23 : Keep h0 h22 [a1] := K18.wr W22 (Or.inl (List.mem_of_getElem? (i := 0) rfl))
 have N24 := Fr.snoc X22 N19 hp5
 refine go (S' := T22.setTop (mkF m 53 #[sr a1, si (Int32.ofNat (2 * m_ + 1)), si p3] [])) st22 ?_
 refine finV X22 hx hk hret (hb hby d21_53) (by decide) (by decide) ?_
 rw [e22]
 exact ⟨rfl, N24, K23, V22⟩
theorem d22_0 : decode jdk_52_method_5_code 0 = .ok (.getstatic 44, 3) := by decide +kernel
theorem d22_3 : decode jdk_52_method_5_code 3 = .ok (.ifCond .ne 25, 3) := by decide +kernel
theorem d22_28 : decode jdk_52_method_5_code 28 = .ok (.iload_n 1, 1) := by decide +kernel
theorem d22_29 : decode jdk_52_method_5_code 29 = .ok (.iconst 1, 1) := by decide +kernel
theorem d22_30 : decode jdk_52_method_5_code 30 = .ok (.ishl, 1) := by decide +kernel
theorem d22_31 : decode jdk_52_method_5_code 31 = .ok (.istore_n 1, 1) := by decide +kernel
theorem d22_32 : decode jdk_52_method_5_code 32 = .ok (.aload_n 0, 1) := by decide +kernel
theorem d22_33 : decode jdk_52_method_5_code 33 = .ok (.iload_n 1, 1) := by decide +kernel
theorem d22_34 : decode jdk_52_method_5_code 34 = .ok (.iinc 1 1, 3) := by decide +kernel
theorem d22_37 : decode jdk_52_method_5_code 37 = .ok (.baload, 1) := by decide +kernel
theorem d22_38 : decode jdk_52_method_5_code 38 = .ok (.sipush 255, 3) := by decide +kernel
theorem d22_41 : decode jdk_52_method_5_code 41 = .ok (.iand, 1) := by decide +kernel
theorem d22_42 : decode jdk_52_method_5_code 42 = .ok (.getstatic 59, 3) := by decide +kernel
theorem d22_45 : decode jdk_52_method_5_code 45 = .ok (.ishl, 1) := by decide +kernel
theorem d22_46 : decode jdk_52_method_5_code 46 = .ok (.aload_n 0, 1) := by decide +kernel
theorem d22_47 : decode jdk_52_method_5_code 47 = .ok (.iload_n 1, 1) := by decide +kernel
theorem d22_48 : decode jdk_52_method_5_code 48 = .ok (.baload, 1) := by decide +kernel
theorem d22_49 : decode jdk_52_method_5_code 49 = .ok (.sipush 255, 3) := by decide +kernel
theorem d22_52 : decode jdk_52_method_5_code 52 = .ok (.iand, 1) := by decide +kernel
theorem d22_53 : decode jdk_52_method_5_code 53 = .ok (.getstatic 63, 3) := by decide +kernel
theorem d22_56 : decode jdk_52_method_5_code 56 = .ok (.ishl, 1) := by decide +kernel
theorem d22_57 : decode jdk_52_method_5_code 57 = .ok (.ior, 1) := by decide +kernel
theorem d22_58 : decode jdk_52_method_5_code 58 = .ok (.i2c, 1) := by decide +kernel
theorem d22_59 : decode jdk_52_method_5_code 59 = .ok (.ireturn, 1) := by decide +kernel
abbrev y_4 : MethodName := ⟨"java/lang/StringUTF16", "getChar", "([BI)C"⟩
theorem pn_4 : plainFor y_4 = true := by first | exact plainFor_of_name (by first | (simp [plainName, overriddenIn]; done) | decide +kernel) | decide +kernel
theorem ef_rmGet (m : MethodId) (a1 : Addr) (p2 : Int32) : entryFrame m #[(.ref a1), (.int p2)] 2 = mkF m 0 #[sr a1, si p2] [] := by first | (simp [entryFrame, mkF, argsToLocals, Value.category]; done) | rfl
def Q_rmGet (Z : State) (a1 : Addr) (p2 : Int32) (kB : ClassId) (m_ : Nat) (n : Nat) (vs : List Value) (ch : Int32) (h0 : Heap) (n0 : Nat) (v : Option Value) (h : Heap) (L : List Loc) : Prop := v = some (.int ch) ∧ Fr n0 L ∧ h = h0
set_option maxRecDepth 65536 in
set_option maxHeartbeats 40000000 in
theorem rmGet (l : Launch) (Z : State) (a0 : Array Value) (hw : ∀ d ∈ tables_1, d.before a0 Z = true) (ws : List Jvm.Cond) (a1 : Addr) (p2 : Int32) (kB : ClassId) (m_ : Nat) (n : Nat) (vs : List Value) (ch : Int32) (h0 : Heap) (n0 : Nat) (Z0 : n0 ≤ h0.size) (hp0 : Arv Z h0 a1 kB .byte (Int32.ofNat (2 * n)) vs (.int 0)) (hm : p2 = Int32.ofNat m_) (hmn : m_ < n) (hl : n ≤ 65) (hlo : vs.getD (2 * m_) (.int 0) = .int (StrChars.lo8 ch)) (hhi : vs.getD (2 * m_ + 1) (.int 0) = .int (StrChars.hi8 ch)) (hch : ¬ ch < 0 ∧ ¬ (65535 : Int32) < ch) (hp7 : Sta Z Z.heap "java/lang/StringUTF16" "$assertionsDisabled" "Z" (.int 1)) (hp8 : Sta Z Z.heap "java/lang/StringUTF16" "HI_BYTE_SHIFT" "I" (.int 0)) (hp9 : Sta Z Z.heap "java/lang/StringUTF16" "LO_BYTE_SHIFT" "I" (.int 8)) (hp10 : Old Z n0 h0) :
    MetFree l y_4 (head1 (Jvm.Cond.code y_4 jdk_52_method_5_code 2 (some .char) :: ws) ({ frames := 0, cells := 0, slots := 0, locals := 0 } : Room)) (fun a U => a = #[(.ref a1), (.int p2)] ∧ Z.Warmed39 U.vm ∧ U.heap = h0) (fun _ _ _ _ _ => True) (fun _ U o U' => ∃ v L, o = .returned v ∧ Q_rmGet Z a1 p2 kB m_ n vs ch h0 n0 v U'.heap L ∧ FrameEnd U o U' L ({ frames := 0, cells := 0, slots := 0, locals := 0 } : Room).cells ({ frames := 0, cells := 0, slots := 0, locals := 0 } : Room).slots) := by
 refine bodyOf pn_4 (fun m => ef_rmGet m a1 p2) ?_
 intro p e s m below meth c T0 X0 hx hby hml hown hnm hret hk hZ e0
 have N0 := Fr.nil n0
 have K0 : Keep h0 h0 [] := Keep.refl _ _
 have O0 := hp10
 have O26 : Old Z n0 h0 := O0.keep K0 all0
 obtain ⟨T25, X25, e25, st25⟩ := getS2 X0 hx hZ hown (host := "") (Or.inl (ww hw 94 rfl)) Via.refl e0 (hp7.ext O26.2) (g := (mkF m 0 #[sr a1, si p2] [])) rfl (hb hby d22_0)
 refine go (S' := T25.setTop (mkF m 3 #[sr a1, si p2] [(.int 1)])) st25 ?_
 have hc27 : ¬ ((1 : Int32) = (0 : Int32)) := by decide
 refine go (S' := T25.setTop (mkF m 32 #[sr a1, si (p2 <<< ((1 : Int32) &&& 31))] [])) (fun t k => XS.ifYes X25.here hx rfl (pc0 := 3) (pc' := 28) rfl (hb hby d22_3) rfl ((if0 _ _).trans (feq hc27).2) (by decide) (by decide) (XS.iloadN X25.here hx rfl (hb hby d22_28) rfl (XS.iconst X25.here hx rfl (hb hby d22_29) (XS.ishl X25.here hx rfl (hb hby d22_30) rfl (XS.istoreN X25.here hx rfl (hb hby d22_31) rfl (l' := #[sr a1, si (p2 <<< ((1 : Int32) &&& 31))]) rfl k))))) ?_
 rw [hm, oj_dbl (by omega)]
 refine go (S' := T25.setTop (mkF m 37 #[sr a1, si ((Int32.ofNat (2 * m_)) + (1 : Int32))] [(.int (Int32.ofNat (2 * m_))), (.ref a1)])) (fun t k => XS.aloadN X25.here hx rfl (hb hby d22_32) rfl rfl (XS.iloadN X25.here hx rfl (hb hby d22_33) rfl (XS.iinc X25.here hx rfl (hb hby d22_34) rfl (l' := #[sr a1, si ((Int32.ofNat (2 * m_)) + (1 : Int32))]) rfl k))) ?_
 rw [oj_one]
 obtain ⟨cl28, Ar28, q28, S28, M28, H28, G28⟩ := id hp0
 have hin28 : ¬ ((Int32.ofNat (2 * m_)) < 0 ∨ cl28.slots.size ≤ ((Int32.ofNat (2 * m_))).toNatClampNeg) := oj_in S28 rfl (by omega) (by omega)
 have hat28 : cl28.slots[((Int32.ofNat (2 * m_))).toNatClampNeg]? = some (.int (StrChars.lo8 ch)) := Has.at H28 hin28 (by rw [oj_n (by omega)]; exact hlo)
 refine go (S' := T25.setTop (mkF m 42 #[sr a1, si (Int32.ofNat (2 * m_ + 1))] [(.int ((StrChars.lo8 ch) &&& (255 : Int32)))])) (fun t k => X25.baloadBytes hx (j := (Int32.ofNat (2 * m_))) (v := (.int (StrChars.lo8 ch))) (by rw [e25]; exact Ar28.1) (State.isArrayOf_alike hZ.alike Ar28.2.1) Ar28.2.2 hin28 hat28 (g := (mkF m 37 #[sr a1, si (Int32.ofNat (2 * m_ + 1))] [(.int (Int32.ofNat (2 * m_))), (.ref a1)])) rfl rfl (hb hby d22_37) _ (XS.sipush X25.here hx rfl (hb hby d22_38) (XS.iand X25.here hx rfl (hb hby d22_41) rfl k))) ?_
 obtain ⟨T29, X29, e29, st29⟩ := getS2 X25 hx hZ hown (host := "") (Or.inl (ww hw 95 rfl)) Via.refl e25 (hp8.ext O26.2) (g := (mkF m 42 #[sr a1, si (Int32.ofNat (2 * m_ + 1))] [(.int ((StrChars.lo8 ch) &&& (255 : Int32)))])) rfl (hb hby d22_42)
 refine go (S' := T29.setTop (mkF m 48 #[sr a1, si (Int32.ofNat (2 * m_ + 1))] [(.int (Int32.ofNat (2 * m_ + 1))), (.ref a1), (.int (((StrChars.lo8 ch) &&& (255 : Int32)) <<< ((0 : Int32) &&& 31)))])) (fun t k => st29 _ (XS.ishl X29.here hx rfl (hb hby d22_45) rfl (XS.aloadN X29.here hx rfl (hb hby d22_46) rfl rfl (XS.iloadN X29.here hx rfl (hb hby d22_47) rfl k)))) ?_
 obtain ⟨cl30, Ar30, q30, S30, M30, H30, G30⟩ := id hp0
 have hin30 : ¬ ((Int32.ofNat (2 * m_ + 1)) < 0 ∨ cl30.slots.size ≤ ((Int32.ofNat (2 * m_ + 1))).toNatClampNeg) := oj_in S30 rfl (by omega) (by omega)
 have hat30 : cl30.slots[((Int32.ofNat (2 * m_ + 1))).toNatClampNeg]? = some (.int (StrChars.hi8 ch)) := Has.at H30 hin30 (by rw [oj_n (by omega)]; exact hhi)
 refine go (S' := T29.setTop (mkF m 53 #[sr a1, si (Int32.ofNat (2 * m_ + 1))] [(.int ((StrChars.hi8 ch) &&& (255 : Int32))), (.int (((StrChars.lo8 ch) &&& (255 : Int32)) <<< ((0 : Int32) &&& 31)))])) (fun t k => X29.baloadBytes hx (j := (Int32.ofNat (2 * m_ + 1))) (v := (.int (StrChars.hi8 ch))) (by rw [e29]; exact Ar30.1) (State.isArrayOf_alike hZ.alike Ar30.2.1) Ar30.2.2 hin30 hat30 (g := (mkF m 48 #[sr a1, si (Int32.ofNat (2 * m_ + 1))] [(.int (Int32.ofNat (2 * m_ + 1))), (.ref a1), (.int (((StrChars.lo8 ch) &&& (255 : Int32)) <<< ((0 : Int32) &&& 31)))])) rfl rfl (hb hby d22_48) _ (XS.sipush X29.here hx rfl (hb hby d22_49) (XS.iand X29.here hx rfl (hb hby d22_52) rfl k))) ?_
 obtain ⟨T31, X31, e31, st31⟩ := getS2 X29 hx hZ hown (host := "") (Or.inl (ww hw 96 rfl)) Via.refl e29 (hp9.ext O26.2) (g := (mkF m 53 #[sr a1, si (Int32.ofNat (2 * m_ + 1))] [(.int ((StrChars.hi8 ch) &&& (255 : Int32))), (.int (((StrChars.lo8 ch) &&& (255 : Int32)) <<< ((0 : Int32) &&& 31)))])) rfl (hb hby d22_53)
 refine go (S' := T31.setTop (mkF m 59 #[sr a1, si (Int32.ofNat (2 * m_ + 1))] [(.int (((((StrChars.lo8 ch) &&& (255 : Int32)) <<< ((0 : Int32) &&& 31)) ||| (((StrChars.hi8 ch) &&& (255 : Int32)) <<< ((8 : Int32) &&& 31))).toUInt32.toUInt16.toUInt32.toInt32))])) (fun t k => st31 _ (XS.ishl X31.here hx rfl (hb hby d22_56) rfl (XS.ior X31.here hx rfl (hb hby d22_57) rfl (XS.i2c X31.here hx rfl (hb hby d22_58) rfl k)))) ?_
 refine finN X31 hx hk (t := .char) hret (by simp) (hb hby d22_59) (by decide) (by decide) ?_
 rw [e31]
 exact ⟨(by rw [narc]; exact congrArg (fun z => some (Value.int z)) (StrChars.pair_says hch.1 hch.2)), N0, rfl⟩
theorem d18_0 : decode jdk_52_method_14_code 0 = .ok (.iload_n 2, 1) := by decide +kernel
theorem d18_1 : decode jdk_52_method_14_code 1 = .ok (.invokestatic 107, 3) := by decide +kernel
theorem pd_1 : parseMethodDescriptor "(I)[B" = some ⟨[.int], some (.array .byte)⟩ := by decide +kernel
theorem d18_4 : decode jdk_52_method_14_code 4 = .ok (.astore_n 3, 1) := by decide +kernel
theorem d18_5 : decode jdk_52_method_14_code 5 = .ok (.iconst 0, 1) := by decide +kernel
theorem d18_6 : decode jdk_52_method_14_code 6 = .ok (.istore 4, 2) := by decide +kernel
theorem d18_8 : decode jdk_52_method_14_code 8 = .ok (.iload 4, 2) := by decide +kernel
theorem d18_10 : decode jdk_52_method_14_code 10 = .ok (.iload_n 2, 1) := by decide +kernel
theorem d18_11 : decode jdk_52_method_14_code 11 = .ok (.if_icmp .ge 21, 3) := by decide +kernel
theorem d18_32 : decode jdk_52_method_14_code 32 = .ok (.aload_n 3, 1) := by decide +kernel
theorem d18_33 : decode jdk_52_method_14_code 33 = .ok (.areturn, 1) := by decide +kernel
theorem d18_14 : decode jdk_52_method_14_code 14 = .ok (.aload_n 3, 1) := by decide +kernel
theorem d18_15 : decode jdk_52_method_14_code 15 = .ok (.iload 4, 2) := by decide +kernel
theorem d18_17 : decode jdk_52_method_14_code 17 = .ok (.aload_n 0, 1) := by decide +kernel
theorem d18_18 : decode jdk_52_method_14_code 18 = .ok (.iload_n 1, 1) := by decide +kernel
theorem d18_19 : decode jdk_52_method_14_code 19 = .ok (.caload, 1) := by decide +kernel
theorem d18_20 : decode jdk_52_method_14_code 20 = .ok (.invokestatic 111, 3) := by decide +kernel
theorem pd_2 : parseMethodDescriptor "([BII)V" = some ⟨[(.array .byte), .int, .int], none⟩ := by decide +kernel
theorem d18_23 : decode jdk_52_method_14_code 23 = .ok (.iinc 1 1, 3) := by decide +kernel
theorem d18_26 : decode jdk_52_method_14_code 26 = .ok (.iinc 4 1, 3) := by decide +kernel
theorem d18_29 : decode jdk_52_method_14_code 29 = .ok (.goto (-21), 3) := by decide +kernel
abbrev y_5 : MethodName := ⟨"java/lang/StringUTF16", "toBytes", "([CII)[B"⟩
theorem pn_5 : plainFor y_5 = true := by first | exact plainFor_of_name (by first | (simp [plainName, overriddenIn]; done) | decide +kernel) | decide +kernel
theorem ef_rmTob (m : MethodId) (a1 : Addr) (pn : Int32) : entryFrame m #[(.ref a1), (.int 0), (.int pn)] 5 = mkF m 0 #[sr a1, si 0, si pn, .unset, .unset] [] := by first | (simp [entryFrame, mkF, argsToLocals, Value.category]; done) | rfl
def Q_rmTob (Z : State) (a1 : Addr) (pn : Int32) (kC : ClassId) (cs : List Int32) (dC : Value) (h0 : Heap) (n0 : Nat) (v : Option Value) (h : Heap) (L : List Loc) : Prop := ∃ (t : Addr), ∃ (kb : ClassId), v = some (.ref t) ∧ Fr n0 L ∧ Keep h0 h [] ∧ (h0.size ≤ t) ∧ (Arv Z h t kb .byte (Int32.ofNat (2 * cs.length)) (StrChars.Road.wideBytes cs) (.int 0))
set_option maxRecDepth 65536 in
set_option maxHeartbeats 40000000 in
theorem rmTob (l : Launch) (Z : State) (a0 : Array Value) (hw : ∀ d ∈ tables_1, d.before a0 Z = true) (ws : List Jvm.Cond) (a1 : Addr) (pn : Int32) (kC : ClassId) (cs : List Int32) (dC : Value) (h0 : Heap) (n0 : Nat) (Z0 : n0 ≤ h0.size) (hn : pn = Int32.ofNat cs.length) (hl : cs.length ≤ 65) (hp2 : Arv Z h0 a1 kC .char pn (cs.map Value.int) dC) (hp3 : Sta Z Z.heap "java/lang/StringUTF16" "$assertionsDisabled" "Z" (.int 1)) (hp4 : Sta Z Z.heap "java/lang/StringUTF16" "HI_BYTE_SHIFT" "I" (.int 0)) (hp5 : Sta Z Z.heap "java/lang/StringUTF16" "LO_BYTE_SHIFT" "I" (.int 8)) (hp6 : Old Z n0 h0) :
    MetFree l y_5 (head1 (Jvm.Cond.code y_5 jdk_52_method_14_code 5 (some (.array .byte)) :: ws) ({ frames := 2, cells := 1, slots := 130, locals := 24 } : Room)) (fun a U => a = #[(.ref a1), (.int 0), (.int pn)] ∧ Z.Warmed39 U.vm ∧ U.heap = h0) (fun _ _ _ _ _ => True) (fun _ U o U' => ∃ v L, o = .returned v ∧ Q_rmTob Z a1 pn kC cs dC h0 n0 v U'.heap L ∧ FrameEnd U o U' L ({ frames := 2, cells := 1, slots := 130, locals := 24 } : Room).cells ({ frames := 2, cells := 1, slots := 130, locals := 24 } : Room).slots) := by
 refine bodyOf pn_5 (fun m => ef_rmTob m a1 pn) ?_
 intro p e s m below meth c T0 X0 hx hby hml hown hnm hret hk hZ e0
 have N0 := Fr.nil n0
 have K0 : Keep h0 h0 [] := Keep.refl _ _
 have O0 := hp6
 refine go (S' := T0.setTop (mkF m 1 #[sr a1, si 0, si pn, .unset, .unset] [(.int pn)])) (fun t k => XS.iloadN X0.here hx rfl (hb hby d18_0) rfl k) ?_
 obtain ⟨v32, T32, L32, X32, hQ32, st32⟩ := callSt X0 hx hZ (y := y_2) hown (ww hw 84 rfl) (ww hw 85 rfl) (ww hw 34 rfl) (ww hw 86 rfl) (by decide) (backOf (W := 0) (rmNbf l Z a0 hw [] pn cs.length h0 n0 (Nat.le_trans Z0 K0.1) hn hl) hZ (ww hw 86 rfl) (ww hw 34 rfl) (by decide) (by decide)) (g := (mkF m 1 #[sr a1, si 0, si pn, .unset, .unset] [(.int pn)])) rfl (by rw [hml]; rfl) (kc := 1) (ks := 130) (argsL := [(.int pn)]) (rest := []) (lenOf pd_1 rfl) rfl (mr0 rfl) (hb hby d18_1) e0 (by decide) (by decide)
 obtain ⟨t_32, kb_32, rfl, N32q, Kq32, q32_0, q32_1⟩ := hQ32
 have N32 := Fr.app N0 N32q
 have K33 : Keep h0 T32.heap [] := K0.trans Kq32 all0
 have lt_a1_t_32 : a1 < t_32 := Nat.lt_of_lt_of_le hp2.lt q32_0
 have sz_t_32 : h0.size ≤ t_32 := Nat.le_trans K0.1 q32_0
 have ge_t_32 : n0 ≤ t_32 := Nat.le_trans Z0 sz_t_32
 refine go (S' := T32.setTop (mkF m 8 #[sr a1, si 0, si pn, sr t_32, si 0] [])) (fun t k => st32 _ (XS.astoreN X32.here hx rfl (hb hby d18_4) rfl rfl (l' := #[sr a1, si 0, si pn, sr t_32, .unset]) rfl (XS.iconst X32.here hx rfl (hb hby d18_5) (XS.istore X32.here hx rfl (hb hby d18_6) rfl (l' := #[sr a1, si 0, si pn, sr t_32, si 0]) rfl k)))) ?_
 have loopT : ∀ (r : Nat) (i : Nat) (T : State) (locs : List Loc) (h : Heap), (i + r = cs.length) → Stand p l e ({ frames := 2, cells := 1, slots := 130, locals := 24 } : Room) s m #[(.ref a1), (.int 0), (.int pn)] below meth c T locs 1 130 → T.heap = h → Fr n0 locs → Keep h0 h [] → Arv Z h a1 kC .char pn (cs.map Value.int) dC → Arv Z h t_32 kb_32 .byte (Int32.ofNat (2 * cs.length)) (StrChars.Road.wideBytes (cs.take i)) (.int 0) → Goes p.tables e below (EndP s below (Q_rmTob Z a1 pn kC cs dC h0 n0) ({ frames := 2, cells := 1, slots := 130, locals := 24 } : Room).cells ({ frames := 2, cells := 1, slots := 130, locals := 24 } : Room).slots) (T.setTop (mkF m 8 #[sr a1, si (Int32.ofNat i), si pn, sr t_32, si (Int32.ofNat i)] [])) := by
  intro r
  induction r with
  | zero =>
   intro i T locs h hi X eT N K lf34_0 lf34_1
   refine go (S' := T.setTop (mkF m 11 #[sr a1, si (Int32.ofNat i), si pn, sr t_32, si (Int32.ofNat i)] [(.int pn), (.int (Int32.ofNat i))])) (fun t k => XS.iload X.here hx rfl (hb hby d18_8) rfl (XS.iloadN X.here hx rfl (hb hby d18_10) rfl k)) ?_
   have hc35 : ¬ ((Int32.ofNat i) < pn) := by rw [hn]; exact oj_nlt (by omega) (by omega) (by omega)
   refine go (S' := T.setTop (mkF m 33 #[sr a1, si (Int32.ofNat i), si pn, sr t_32, si (Int32.ofNat i)] [(.ref t_32)])) (fun t k => XS.icmpYes X.here hx rfl (pc0 := 11) (pc' := 32) rfl (hb hby d18_11) rfl (flt hc35).2.1 (by decide) (by decide) (XS.aloadN X.here hx rfl (hb hby d18_32) rfl rfl k)) ?_
   refine finR X hx hk hret rfl rfl (hb hby d18_33) (by decide) (by decide) ?_
   have ht : cs.take i = cs := List.take_of_length_le (by omega)
   rw [eT]
   exact ⟨t_32, kb_32, rfl, N, K, sz_t_32, by have q := lf34_1; rw [ht] at q; exact q⟩
  | succ r ih =>
   intro i T locs h hi X eT N K lf34_0 lf34_1
   refine go (S' := T.setTop (mkF m 11 #[sr a1, si (Int32.ofNat i), si pn, sr t_32, si (Int32.ofNat i)] [(.int pn), (.int (Int32.ofNat i))])) (fun t k => XS.iload X.here hx rfl (hb hby d18_8) rfl (XS.iloadN X.here hx rfl (hb hby d18_10) rfl k)) ?_
   have hc36 : (Int32.ofNat i) < pn := by rw [hn]; exact oj_lt (by omega) (by omega)
   refine go (S' := T.setTop (mkF m 19 #[sr a1, si (Int32.ofNat i), si pn, sr t_32, si (Int32.ofNat i)] [(.int (Int32.ofNat i)), (.ref a1), (.int (Int32.ofNat i)), (.ref t_32)])) (fun t k => XS.icmpNo X.here hx rfl (hb hby d18_11) rfl (tlt hc36).2.1 (XS.aloadN X.here hx rfl (hb hby d18_14) rfl rfl (XS.iload X.here hx rfl (hb hby d18_15) rfl (XS.aloadN X.here hx rfl (hb hby d18_17) rfl rfl (XS.iloadN X.here hx rfl (hb hby d18_18) rfl k))))) ?_
   obtain ⟨cl37, Ar37, q37, S37, M37, H37, G37⟩ := id lf34_0
   have hin37 : ¬ ((Int32.ofNat i) < 0 ∨ cl37.slots.size ≤ ((Int32.ofNat i)).toNatClampNeg) := oj_in S37 hn (by omega) (by omega)
   have hat37 : cl37.slots[((Int32.ofNat i)).toNatClampNeg]? = some (.int (cs.getD i 0)) := Has.at H37 hin37 (by rw [oj_n (by omega)]; exact oj_get cs (by omega) _)
   refine go (S' := T.setTop (mkF m 20 #[sr a1, si (Int32.ofNat i), si pn, sr t_32, si (Int32.ofNat i)] [(.int (cs.getD i 0)), (.int (Int32.ofNat i)), (.ref t_32)])) (fun t k => X.caload hx (j := (Int32.ofNat i)) (v := (.int (cs.getD i 0))) (by rw [eT]; exact Ar37.1) (State.isArrayOf_alike hZ.alike Ar37.2.1) Ar37.2.2 hin37 hat37 (g := (mkF m 19 #[sr a1, si (Int32.ofNat i), si pn, sr t_32, si (Int32.ofNat i)] [(.int (Int32.ofNat i)), (.ref a1), (.int (Int32.ofNat i)), (.ref t_32)])) rfl rfl (hb hby d18_19) _ k) ?_
   have O38 : Old Z n0 h := O0.keep K all0
   obtain ⟨v39, T39, L39, X39, hQ39, st39⟩ := callSt X hx hZ (y := y_3) hown (ww hw 91 rfl) (ww hw 92 rfl) (ww hw 34 rfl) (ww hw 93 rfl) (by decide) (backOf (W := 0) (rmPut l Z a0 hw [] t_32 (Int32.ofNat i) (cs.getD i 0) kb_32 i cs.length (StrChars.Road.wideBytes (cs.take i)) h n0 (Nat.le_trans Z0 K.1) lf34_1 rfl (by rw [wide_len, List.length_take]; omega) (by omega) hl ge_t_32 hp3 hp4 hp5 O38) hZ (ww hw 93 rfl) (ww hw 34 rfl) (by decide) (by decide)) (g := (mkF m 20 #[sr a1, si (Int32.ofNat i), si pn, sr t_32, si (Int32.ofNat i)] [(.int (cs.getD i 0)), (.int (Int32.ofNat i)), (.ref t_32)])) rfl (by rw [hml]; rfl) (kc := 0) (ks := 0) (argsL := [(.ref t_32), (.int (Int32.ofNat i)), (.int (cs.getD i 0))]) (rest := []) (lenOf pd_2 rfl) rfl (mr0 rfl) (hb hby d18_20) eT (by decide) (by decide)
   obtain ⟨rfl, N39q, Kq39, q39_0⟩ := hQ39
   have N39 := Fr.app N N39q
   have K40 : Keep h0 T39.heap [] := K.trans Kq39 (allS (P := fun x => x ∈ [] ∨ h0.size ≤ x) (Or.inr sz_t_32) all0)
   refine go (S' := T39.setTop (mkF m 8 #[sr a1, si ((Int32.ofNat i) + (1 : Int32)), si pn, sr t_32, si ((Int32.ofNat i) + (1 : Int32))] [])) (fun t k => st39 _ (XS.iinc X39.here hx rfl (hb hby d18_23) rfl (l' := #[sr a1, si ((Int32.ofNat i) + (1 : Int32)), si pn, sr t_32, si (Int32.ofNat i)]) rfl (XS.iinc X39.here hx rfl (hb hby d18_26) rfl (l' := #[sr a1, si ((Int32.ofNat i) + (1 : Int32)), si pn, sr t_32, si ((Int32.ofNat i) + (1 : Int32))]) rfl (XS.goto X39.here hx rfl (pc0 := 29) (pc' := 8) rfl (hb hby d18_29) (by decide) (by decide) k)))) ?_
   have V41 : Arv Z T39.heap t_32 kb_32 .byte (Int32.ofNat (2 * cs.length)) (StrChars.Road.wideBytes (cs.take (i + 1))) (.int 0) := by rw [← oj_take1 cs (by omega), wide_snoc]; exact q39_0
   rw [oj_one i]
   have f42 : Arv Z T39.heap a1 kC .char pn (cs.map Value.int) dC := (lf34_0.keep Kq39 (ninS (Nat.ne_of_lt lt_a1_t_32) nin0))
   exact ih (i + 1) _ _ _ (by omega) X39 rfl N39 K40 f42 V41
 exact loopT cs.length 0 _ _ _ (Nat.zero_add _) X32 rfl N32 K33 (hp2.keep K33 nin0) q32_1
theorem d6_0 : decode jdk_52_method_16_code 0 = .ok (.iload_n 2, 1) := by decide +kernel
theorem d6_1 : decode jdk_52_method_16_code 1 = .ok (.newarray .byte, 2) := by decide +kernel
theorem d6_3 : decode jdk_52_method_16_code 3 = .ok (.astore_n 3, 1) := by decide +kernel
theorem d6_4 : decode jdk_52_method_16_code 4 = .ok (.aload_n 0, 1) := by decide +kernel
theorem d6_5 : decode jdk_52_method_16_code 5 = .ok (.iload_n 1, 1) := by decide +kernel
theorem d6_6 : decode jdk_52_method_16_code 6 = .ok (.aload_n 3, 1) := by decide +kernel
theorem d6_7 : decode jdk_52_method_16_code 7 = .ok (.iconst 0, 1) := by decide +kernel
theorem d6_8 : decode jdk_52_method_16_code 8 = .ok (.iload_n 2, 1) := by decide +kernel
theorem d6_9 : decode jdk_52_method_16_code 9 = .ok (.invokestatic 115, 3) := by decide +kernel
theorem pd_3 : parseMethodDescriptor "([CI[BII)I" = some ⟨[(.array .char), .int, (.array .byte), .int, .int], some .int⟩ := by decide +kernel
theorem d6_12 : decode jdk_52_method_16_code 12 = .ok (.istore 4, 2) := by decide +kernel
theorem d6_14 : decode jdk_52_method_16_code 14 = .ok (.iload 4, 2) := by decide +kernel
theorem d6_16 : decode jdk_52_method_16_code 16 = .ok (.iload_n 2, 1) := by decide +kernel
theorem d6_17 : decode jdk_52_method_16_code 17 = .ok (.if_icmp .eq 40, 3) := by decide +kernel
theorem d6_57 : decode jdk_52_method_16_code 57 = .ok (.aload_n 3, 1) := by decide +kernel
theorem d6_58 : decode jdk_52_method_16_code 58 = .ok (.areturn, 1) := by decide +kernel
theorem d6_20 : decode jdk_52_method_16_code 20 = .ok (.aload_n 0, 1) := by decide +kernel
theorem d6_21 : decode jdk_52_method_16_code 21 = .ok (.iload_n 1, 1) := by decide +kernel
theorem d6_22 : decode jdk_52_method_16_code 22 = .ok (.iload_n 2, 1) := by decide +kernel
theorem d6_23 : decode jdk_52_method_16_code 23 = .ok (.invokestatic 119, 3) := by decide +kernel
theorem pd_4 : parseMethodDescriptor "([CII)[B" = some ⟨[(.array .char), .int, .int], some (.array .byte)⟩ := by decide +kernel
theorem d6_26 : decode jdk_52_method_16_code 26 = .ok (.astore 5, 2) := by decide +kernel
theorem d6_28 : decode jdk_52_method_16_code 28 = .ok (.aload 5, 2) := by decide +kernel
theorem d6_30 : decode jdk_52_method_16_code 30 = .ok (.iload 4, 2) := by decide +kernel
theorem d6_32 : decode jdk_52_method_16_code 32 = .ok (.invokestatic 71, 3) := by decide +kernel
theorem pd_5 : parseMethodDescriptor "([BI)C" = some ⟨[(.array .byte), .int], some .char⟩ := by decide +kernel
theorem d6_35 : decode jdk_52_method_16_code 35 = .ok (.sipush 255, 3) := by decide +kernel
theorem d6_38 : decode jdk_52_method_16_code 38 = .ok (.if_icmp .gt 16, 3) := by decide +kernel
theorem d6_54 : decode jdk_52_method_16_code 54 = .ok (.aload 5, 2) := by decide +kernel
theorem d6_56 : decode jdk_52_method_16_code 56 = .ok (.areturn, 1) := by decide +kernel
abbrev y_6 : MethodName := ⟨"java/lang/StringUTF16", "compress", "([CII)[B"⟩
theorem pn_6 : plainFor y_6 = true := by first | exact plainFor_of_name (by first | (simp [plainName, overriddenIn]; done) | decide +kernel) | decide +kernel
theorem ef_rmCmp3 (m : MethodId) (a1 : Addr) (pn : Int32) : entryFrame m #[(.ref a1), (.int 0), (.int pn)] 6 = mkF m 0 #[sr a1, si 0, si pn, .unset, .unset, .unset] [] := by first | (simp [entryFrame, mkF, argsToLocals, Value.category]; done) | rfl
def Q_rmCmp3 (Z : State) (a1 : Addr) (pn : Int32) (kC : ClassId) (cs : List Int32) (dC : Value) (h0 : Heap) (n0 : Nat) (v : Option Value) (h : Heap) (L : List Loc) : Prop := ∃ (t : Addr), ∃ (kb : ClassId), ∃ (cd : Int32), ∃ (N2 : Int32), ∃ (vs : List Value), v = some (.ref t) ∧ Fr n0 L ∧ Keep h0 h [] ∧ (h0.size ≤ t) ∧ (Arv Z h t kb .byte N2 vs (.int 0)) ∧ (StrChars.Road.CodA cs cd N2 vs)
set_option maxRecDepth 65536 in
set_option maxHeartbeats 40000000 in
theorem rmCmp3 (l : Launch) (Z : State) (a0 : Array Value) (hw : ∀ d ∈ tables_1, d.before a0 Z = true) (ws : List Jvm.Cond) (a1 : Addr) (pn : Int32) (kC : ClassId) (cs : List Int32) (dC : Value) (h0 : Heap) (n0 : Nat) (Z0 : n0 ≤ h0.size) (hn : pn = Int32.ofNat cs.length) (hl : cs.length ≤ 65) (hpc : ∀ c ∈ cs, ¬ c < 0 ∧ ¬ (65535 : Int32) < c) (hp3 : Arv Z h0 a1 kC .char pn (cs.map Value.int) dC) (hp4 : Sta Z Z.heap "java/lang/StringUTF16" "$assertionsDisabled" "Z" (.int 1)) (hp5 : Sta Z Z.heap "java/lang/StringUTF16" "HI_BYTE_SHIFT" "I" (.int 0)) (hp6 : Sta Z Z.heap "java/lang/StringUTF16" "LO_BYTE_SHIFT" "I" (.int 8)) (hp7 : Old Z n0 h0) :
    MetFree l y_6 (head1 (Jvm.Cond.code y_6 jdk_52_method_16_code 6 (some (.array .byte)) :: ws) ({ frames := 3, cells := 2, slots := 195, locals := 40 } : Room)) (fun a U => a = #[(.ref a1), (.int 0), (.int pn)] ∧ Z.Warmed39 U.vm ∧ U.heap = h0) (fun _ _ _ _ _ => True) (fun _ U o U' => ∃ v L, o = .returned v ∧ Q_rmCmp3 Z a1 pn kC cs dC h0 n0 v U'.heap L ∧ FrameEnd U o U' L ({ frames := 3, cells := 2, slots := 195, locals := 40 } : Room).cells ({ frames := 3, cells := 2, slots := 195, locals := 40 } : Room).slots) := by
 refine bodyOf pn_6 (fun m => ef_rmCmp3 m a1 pn) ?_
 intro p e s m below meth c T0 X0 hx hby hml hown hnm hret hk hZ e0
 have N0 := Fr.nil n0
 have K0 : Keep h0 h0 [] := Keep.refl _ _
 have O0 := hp7
 refine go (S' := T0.setTop (mkF m 1 #[sr a1, si 0, si pn, .unset, .unset, .unset] [(.int pn)])) (fun t k => XS.iloadN X0.here hx rfl (hb hby d6_0) rfl k) ?_
 obtain ⟨T43, h43, k43, X43, e43, E43, A43, st43⟩ := newP X0 hx hZ (ww hw 15 rfl) e0 (g := (mkF m 1 #[sr a1, si 0, si pn, .unset, .unset, .unset] [(.int pn)])) rfl (hb hby d6_1) rfl (by rw [hn]; exact oj_nn (by omega)) (cap := 65) (by rw [hn, oj_n (by omega)]; omega) (by decide) (by decide) (by decide)
 obtain ⟨b43, g43⟩ : ∃ z, z = h0.size := ⟨_, rfl⟩
 rw [← g43] at A43 st43
 have lt_a1_b43 : a1 < b43 := by rw [g43]; exact hp3.lt
 have ge_b43 : n0 ≤ b43 := by rw [g43]; exact (Nat.le_trans Z0 K0.1)
 have sz_b43 : h0.size ≤ b43 := by rw [g43]; exact K0.1
 have K44 : Keep h0 h43 [] := K0.ext E43
 have V43 : Arv Z h43 b43 k43 .byte pn [] (.int 0) := Arv.new A43 (by rw [hn]; exact oj_nn (by omega))
 refine go (S' := T43.setTop (mkF m 9 #[sr a1, si 0, si pn, sr b43, .unset, .unset] [(.int pn), (.int 0), (.ref b43), (.int 0), (.ref a1)])) (fun t k => st43 _ (XS.astoreN X43.here hx rfl (hb hby d6_3) rfl rfl (l' := #[sr a1, si 0, si pn, sr b43, .unset, .unset]) rfl (XS.aloadN X43.here hx rfl (hb hby d6_4) rfl rfl (XS.iloadN X43.here hx rfl (hb hby d6_5) rfl (XS.aloadN X43.here hx rfl (hb hby d6_6) rfl rfl (XS.iconst X43.here hx rfl (hb hby d6_7) (XS.iloadN X43.here hx rfl (hb hby d6_8) rfl k))))))) ?_
 obtain ⟨v45, T45, L45, X45, hQ45, st45⟩ := callSt X43 hx hZ (y := y_0) hown (ww hw 36 rfl) (ww hw 37 rfl) (ww hw 34 rfl) (ww hw 38 rfl) (by decide) (backOf (W := 0) (rmCmp5 l Z a0 hw [] a1 b43 pn kC k43 cs dC h43 n0 (Nat.le_trans Z0 K44.1) hn hl (hp3.keep K44 nin0) V43 ge_b43 (Nat.ne_of_lt lt_a1_b43)) hZ (ww hw 38 rfl) (ww hw 34 rfl) (by decide) (by decide)) (g := (mkF m 9 #[sr a1, si 0, si pn, sr b43, .unset, .unset] [(.int pn), (.int 0), (.ref b43), (.int 0), (.ref a1)])) rfl (by rw [hml]; rfl) (kc := 0) (ks := 0) (argsL := [(.ref a1), (.int 0), (.ref b43), (.int 0), (.int pn)]) (rest := []) (lenOf pd_3 rfl) rfl (mr0 rfl) (hb hby d6_9) e43 (by decide) (by decide)
 obtain ⟨rfl, N45q, Kq45, q45_0⟩ := hQ45
 have N45 := Fr.app N0 N45q
 have K46 : Keep h0 T45.heap [] := K44.trans Kq45 (allS (P := fun x => x ∈ [] ∨ h0.size ≤ x) (Or.inr sz_b43) all0)
 refine go (S' := T45.setTop (mkF m 17 #[sr a1, si 0, si pn, sr b43, si (Int32.ofNat (own_k cs)), .unset] [(.int pn), (.int (Int32.ofNat (own_k cs)))])) (fun t k => st45 _ (XS.istore X45.here hx rfl (hb hby d6_12) rfl (l' := #[sr a1, si 0, si pn, sr b43, si (Int32.ofNat (own_k cs)), .unset]) rfl (XS.iload X45.here hx rfl (hb hby d6_14) rfl (XS.iloadN X45.here hx rfl (hb hby d6_16) rfl k)))) ?_
 by_cases hq : own_k cs = cs.length
 ·
  have hqq : (Int32.ofNat (own_k cs)) = pn := by rw [hn, hq]
  refine go (S' := T45.setTop (mkF m 58 #[sr a1, si 0, si pn, sr b43, si (Int32.ofNat (own_k cs)), .unset] [(.ref b43)])) (fun t k => XS.icmpYes X45.here hx rfl (pc0 := 17) (pc' := 57) rfl (hb hby d6_17) rfl (teq hqq).1 (by decide) (by decide) (XS.aloadN X45.here hx rfl (hb hby d6_57) rfl rfl k)) ?_
  refine finR X45 hx hk hret rfl rfl (hb hby d6_58) (by decide) (by decide) ?_
  have hV : (cs.take (own_k cs)) = cs := List.take_of_length_le (by omega)
  exact ⟨b43, k43, 0, pn, _, rfl, N45, K46, sz_b43, q45_0, Or.inl ⟨rfl, hn, by rw [hV], own_k_lo cs hq⟩⟩
 ·
  have hkk := own_k_hi cs hq
  have hqq : ¬ ((Int32.ofNat (own_k cs)) = pn) := fun q => hq (oj_inj (by omega) (by omega) (q.trans hn))
  refine go (S' := T45.setTop (mkF m 23 #[sr a1, si 0, si pn, sr b43, si (Int32.ofNat (own_k cs)), .unset] [(.int pn), (.int 0), (.ref a1)])) (fun t k => XS.icmpNo X45.here hx rfl (hb hby d6_17) rfl (feq hqq).1 (XS.aloadN X45.here hx rfl (hb hby d6_20) rfl rfl (XS.iloadN X45.here hx rfl (hb hby d6_21) rfl (XS.iloadN X45.here hx rfl (hb hby d6_22) rfl k)))) ?_
  have O47 : Old Z n0 T45.heap := O0.keep K46 all0
  obtain ⟨v48, T48, L48, X48, hQ48, st48⟩ := callSt X45 hx hZ (y := y_5) hown (ww hw 81 rfl) (ww hw 82 rfl) (ww hw 34 rfl) (ww hw 83 rfl) (by decide) (backOf (W := 0) (rmTob l Z a0 hw [] a1 pn kC cs dC T45.heap n0 (Nat.le_trans Z0 K46.1) hn hl (hp3.keep K46 nin0) hp4 hp5 hp6 O47) hZ (ww hw 83 rfl) (ww hw 34 rfl) (by decide) (by decide)) (g := (mkF m 23 #[sr a1, si 0, si pn, sr b43, si (Int32.ofNat (own_k cs)), .unset] [(.int pn), (.int 0), (.ref a1)])) rfl (by rw [hml]; rfl) (kc := 1) (ks := 130) (argsL := [(.ref a1), (.int 0), (.int pn)]) (rest := []) (lenOf pd_4 rfl) rfl (mr0 rfl) (hb hby d6_23) rfl (by decide) (by decide)
  obtain ⟨t_48, kb_48, rfl, N48q, Kq48, q48_0, q48_1⟩ := hQ48
  have N48 := Fr.app N45 N48q
  have K49 : Keep h0 T48.heap [] := K46.trans Kq48 all0
  have lt_a1_t_48 : a1 < t_48 := Nat.lt_of_lt_of_le (hp3.keep K46 nin0).lt q48_0
  have lt_b43_t_48 : b43 < t_48 := Nat.lt_of_lt_of_le q45_0.lt q48_0
  have sz_t_48 : h0.size ≤ t_48 := Nat.le_trans K46.1 q48_0
  have ge_t_48 : n0 ≤ t_48 := Nat.le_trans Z0 sz_t_48
  refine go (S' := T48.setTop (mkF m 32 #[sr a1, si 0, si pn, sr b43, si (Int32.ofNat (own_k cs)), sr t_48] [(.int (Int32.ofNat (own_k cs))), (.ref t_48)])) (fun t k => st48 _ (XS.astore X48.here hx rfl (hb hby d6_26) rfl rfl (l' := #[sr a1, si 0, si pn, sr b43, si (Int32.ofNat (own_k cs)), sr t_48]) rfl (XS.aload X48.here hx rfl (hb hby d6_28) rfl rfl (XS.iload X48.here hx rfl (hb hby d6_30) rfl k)))) ?_
  have O50 : Old Z n0 T48.heap := O0.keep K49 all0
  obtain ⟨v51, T51, L51, X51, hQ51, st51⟩ := callSt X48 hx hZ (y := y_4) hown (ww hw 97 rfl) (ww hw 98 rfl) (ww hw 34 rfl) (ww hw 99 rfl) (by decide) (backOf (W := 0) (rmGet l Z a0 hw [] t_48 (Int32.ofNat (own_k cs)) kb_48 (own_k cs) cs.length (StrChars.Road.wideBytes cs) (cs.getD (own_k cs) 0) T48.heap n0 (Nat.le_trans Z0 K49.1) q48_1 rfl hkk.1 hl (StrChars.Road.wide_lo _ cs _ hkk.1) (StrChars.Road.wide_hi _ cs _ hkk.1) (hpc _ (oj_mem hkk.1)) hp4 hp5 hp6 O50) hZ (ww hw 99 rfl) (ww hw 34 rfl) (by decide) (by decide)) (g := (mkF m 32 #[sr a1, si 0, si pn, sr b43, si (Int32.ofNat (own_k cs)), sr t_48] [(.int (Int32.ofNat (own_k cs))), (.ref t_48)])) rfl (by rw [hml]; rfl) (kc := 0) (ks := 0) (argsL := [(.ref t_48), (.int (Int32.ofNat (own_k cs)))]) (rest := []) (lenOf pd_5 rfl) rfl (mr0 rfl) (hb hby d6_32) rfl (by decide) (by decide)
  obtain ⟨rfl, N51q, e51⟩ := hQ51
  have N51 := Fr.app N48 N51q
  refine go (S' := T51.setTop (mkF m 56 #[sr a1, si 0, si pn, sr b43, si (Int32.ofNat (own_k cs)), sr t_48] [(.ref t_48)])) (fun t k => st51 _ (XS.sipush X51.here hx rfl (hb hby d6_35) (XS.icmpYes X51.here hx rfl (pc0 := 38) (pc' := 54) rfl (hb hby d6_38) rfl (tlt hkk.2).2.2.1 (by decide) (by decide) (XS.aload X51.here hx rfl (hb hby d6_54) rfl rfl k)))) ?_
  refine finR X51 hx hk hret rfl rfl (hb hby d6_56) (by decide) (by decide) ?_
  rw [e51]
  exact ⟨t_48, kb_48, 1, _, _, rfl, N51, K49, sz_t_48, q48_1, Or.inr ⟨rfl, rfl, rfl, _, oj_mem hkk.1, hkk.2⟩⟩
theorem d8_0 : decode jdk_52_method_15_code 0 = .ok (.iload_n 1, 1) := by decide +kernel
theorem d8_1 : decode jdk_52_method_15_code 1 = .ok (.aload_n 0, 1) := by decide +kernel
theorem d8_2 : decode jdk_52_method_15_code 2 = .ok (.arraylength, 1) := by decide +kernel
theorem d8_3 : decode jdk_52_method_15_code 3 = .ok (.isub, 1) := by decide +kernel
theorem d8_4 : decode jdk_52_method_15_code 4 = .ok (.bipush 31, 2) := by decide +kernel
theorem d8_6 : decode jdk_52_method_15_code 6 = .ok (.iushr, 1) := by decide +kernel
theorem d8_7 : decode jdk_52_method_15_code 7 = .ok (.i2b, 1) := by decide +kernel
theorem d8_8 : decode jdk_52_method_15_code 8 = .ok (.ireturn, 1) := by decide +kernel
abbrev y_7 : MethodName := ⟨"java/lang/StringUTF16", "coderFromArrayLen", "([BI)B"⟩
theorem pn_7 : plainFor y_7 = true := by first | exact plainFor_of_name (by first | (simp [plainName, overriddenIn]; done) | decide +kernel) | decide +kernel
theorem ef_rmCfl (m : MethodId) (a1 : Addr) (pn : Int32) : entryFrame m #[(.ref a1), (.int pn)] 2 = mkF m 0 #[sr a1, si pn] [] := by first | (simp [entryFrame, mkF, argsToLocals, Value.category]; done) | rfl
def Q_rmCfl (Z : State) (a1 : Addr) (pn : Int32) (kb : ClassId) (cd : Int32) (N2 : Int32) (vs : List Value) (cs : List Int32) (h0 : Heap) (n0 : Nat) (v : Option Value) (h : Heap) (L : List Loc) : Prop := v = some (.int cd) ∧ Fr n0 L ∧ h = h0
set_option maxRecDepth 65536 in
set_option maxHeartbeats 40000000 in
theorem rmCfl (l : Launch) (Z : State) (a0 : Array Value) (hw : ∀ d ∈ tables_1, d.before a0 Z = true) (ws : List Jvm.Cond) (a1 : Addr) (pn : Int32) (kb : ClassId) (cd : Int32) (N2 : Int32) (vs : List Value) (cs : List Int32) (h0 : Heap) (n0 : Nat) (Z0 : n0 ≤ h0.size) (hp0 : Arv Z h0 a1 kb .byte N2 vs (.int 0)) (hcod : StrChars.Road.CodA cs cd N2 vs) (hn : pn = Int32.ofNat cs.length) (hl : cs.length ≤ 4000) (hl0 : 0 < cs.length) :
    MetFree l y_7 (head1 (Jvm.Cond.code y_7 jdk_52_method_15_code 2 (some .byte) :: ws) ({ frames := 0, cells := 0, slots := 0, locals := 0 } : Room)) (fun a U => a = #[(.ref a1), (.int pn)] ∧ Z.Warmed39 U.vm ∧ U.heap = h0) (fun _ _ _ _ _ => True) (fun _ U o U' => ∃ v L, o = .returned v ∧ Q_rmCfl Z a1 pn kb cd N2 vs cs h0 n0 v U'.heap L ∧ FrameEnd U o U' L ({ frames := 0, cells := 0, slots := 0, locals := 0 } : Room).cells ({ frames := 0, cells := 0, slots := 0, locals := 0 } : Room).slots) := by
 refine bodyOf pn_7 (fun m => ef_rmCfl m a1 pn) ?_
 intro p e s m below meth c T0 X0 hx hby hml hown hnm hret hk hZ e0
 have N0 := Fr.nil n0
 have K0 : Keep h0 h0 [] := Keep.refl _ _
 refine go (S' := T0.setTop (mkF m 2 #[sr a1, si pn] [(.ref a1), (.int pn)])) (fun t k => XS.iloadN X0.here hx rfl (hb hby d8_0) rfl (XS.aloadN X0.here hx rfl (hb hby d8_1) rfl rfl k)) ?_
 obtain ⟨cl52, Ar52, -, S52, M52, -, -⟩ := id hp0
 refine go (S' := T0.setTop (mkF m 8 #[sr a1, si pn] [(.int ((((pn - N2).toUInt32 >>> ((31 : Int32) &&& 31).toUInt32).toInt32).toInt8.toInt32))])) (fun t k => X0.arraylength hx (by rw [e0]; exact Ar52.1) (State.isArrayOf_alike hZ.alike Ar52.2.1) (g := (mkF m 2 #[sr a1, si pn] [(.ref a1), (.int pn)])) rfl rfl (hb hby d8_2) _ (by rw [len_of S52 M52]; exact (XS.isub X0.here hx rfl (hb hby d8_3) rfl (XS.bipush X0.here hx rfl (hb hby d8_4) (XS.iushr X0.here hx rfl (hb hby d8_6) rfl (XS.i2b X0.here hx rfl (hb hby d8_7) rfl k)))))) ?_
 refine finN X0 hx hk (t := .byte) hret (by simp) (hb hby d8_8) (by decide) (by decide) ?_
 rw [e0]
 exact ⟨(congrArg (fun z => some (Value.int z)) (by rcases hcod with ⟨q1, q2, -⟩ | ⟨q1, q2, -⟩; rw [hn, q1, q2]; exact oj_cod0 hl; rw [hn, q1, q2]; exact oj_cod1 hl0 hl)), N0, rfl⟩
theorem d2_0 : decode jdk_42_method_149_code 0 = .ok (.aload_n 0, 1) := by decide +kernel
theorem d2_1 : decode jdk_42_method_149_code 1 = .ok (.invokespecial 1, 3) := by decide +kernel
theorem d2_4 : decode jdk_42_method_149_code 4 = .ok (.iload_n 3, 1) := by decide +kernel
theorem d2_5 : decode jdk_42_method_149_code 5 = .ok (.ifCond .ne 22, 3) := by decide +kernel
theorem d2_27 : decode jdk_42_method_149_code 27 = .ok (.getstatic 38, 3) := by decide +kernel
theorem d2_30 : decode jdk_42_method_149_code 30 = .ok (.ifCond .eq 28, 3) := by decide +kernel
theorem d2_33 : decode jdk_42_method_149_code 33 = .ok (.aload_n 1, 1) := by decide +kernel
theorem d2_34 : decode jdk_42_method_149_code 34 = .ok (.iload_n 2, 1) := by decide +kernel
theorem d2_35 : decode jdk_42_method_149_code 35 = .ok (.iload_n 3, 1) := by decide +kernel
theorem d2_36 : decode jdk_42_method_149_code 36 = .ok (.invokestatic 177, 3) := by decide +kernel
theorem d2_39 : decode jdk_42_method_149_code 39 = .ok (.astore 5, 2) := by decide +kernel
theorem d2_41 : decode jdk_42_method_149_code 41 = .ok (.aload_n 0, 1) := by decide +kernel
theorem d2_42 : decode jdk_42_method_149_code 42 = .ok (.aload 5, 2) := by decide +kernel
theorem d2_44 : decode jdk_42_method_149_code 44 = .ok (.iload_n 3, 1) := by decide +kernel
theorem d2_45 : decode jdk_42_method_149_code 45 = .ok (.invokestatic 47, 3) := by decide +kernel
theorem pd_6 : parseMethodDescriptor "([BI)B" = some ⟨[(.array .byte), .int], some .byte⟩ := by decide +kernel
theorem d2_48 : decode jdk_42_method_149_code 48 = .ok (.putfield 15, 3) := by decide +kernel
theorem d2_51 : decode jdk_42_method_149_code 51 = .ok (.aload_n 0, 1) := by decide +kernel
theorem d2_52 : decode jdk_42_method_149_code 52 = .ok (.aload 5, 2) := by decide +kernel
theorem d2_54 : decode jdk_42_method_149_code 54 = .ok (.putfield 9, 3) := by decide +kernel
theorem d2_57 : decode jdk_42_method_149_code 57 = .ok (.return_, 1) := by decide +kernel
abbrev y_8 : MethodName := ⟨"java/lang/String", "<init>", "([CIILjava/lang/Void;)V"⟩
theorem pn_8 : plainFor y_8 = true := by first | exact plainFor_of_name (by first | (simp [plainName, overriddenIn]; done) | decide +kernel) | decide +kernel
theorem ef_rmInit4 (m : MethodId) (x1 : Addr) (b1 : Addr) (pn : Int32) : entryFrame m #[(.ref x1), (.ref b1), (.int 0), (.int pn), .null] 6 = mkF m 0 #[sr x1, sr b1, si 0, si pn, .val .null, .unset] [] := by first | (simp [entryFrame, mkF, argsToLocals, Value.category]; done) | rfl
def Q_rmInit4 (Z : State) (x1 : Addr) (b1 : Addr) (pn : Int32) (kC : ClassId) (cs : List Int32) (dC : Value) (G1 : Int32) (h0 : Heap) (n0 : Nat) (v : Option Value) (h : Heap) (L : List Loc) : Prop := ∃ (t : Addr), ∃ (cd : Int32), v = none ∧ Fr n0 L ∧ Keep h0 h [x1] ∧ (h0.size ≤ t) ∧ (t ≠ x1) ∧ (Str Z h x1 t cd cs)
set_option maxRecDepth 65536 in
set_option maxHeartbeats 40000000 in
theorem rmInit4 (l : Launch) (Z : State) (a0 : Array Value) (hw : ∀ d ∈ tables_1, d.before a0 Z = true) (ws : List Jvm.Cond) (x1 : Addr) (b1 : Addr) (pn : Int32) (kC : ClassId) (cs : List Int32) (dC : Value) (G1 : Int32) (h0 : Heap) (n0 : Nat) (Z0 : n0 ≤ h0.size) (hn : pn = Int32.ofNat cs.length) (hl : cs.length ≤ 65) (hl0 : 0 < cs.length) (hpc : ∀ c ∈ cs, ¬ c < 0 ∧ ¬ (65535 : Int32) < c) (hp4 : Arv Z h0 b1 kC .char pn (cs.map Value.int) dC) (hp5 : Exa Z h0 x1 "java/lang/String") (hp6 : Fld Z h0 x1 "java/lang/String" "value" "[B" .null) (hp7 : Fld Z h0 x1 "java/lang/String" "coder" "B" (.int 0)) (hp8 : n0 ≤ x1) (hp9 : x1 ≠ b1) (hp10 : Sta Z Z.heap "java/lang/String" "COMPACT_STRINGS" "Z" (.int G1)) (hG1 : ¬ (G1 = (0 : Int32))) (hp12 : Sta Z Z.heap "java/lang/StringUTF16" "$assertionsDisabled" "Z" (.int 1)) (hp13 : Sta Z Z.heap "java/lang/StringUTF16" "HI_BYTE_SHIFT" "I" (.int 0)) (hp14 : Sta Z Z.heap "java/lang/StringUTF16" "LO_BYTE_SHIFT" "I" (.int 8)) (hp15 : Old Z n0 h0) :
    MetFree l y_8 (head1 (Jvm.Cond.code y_8 jdk_42_method_149_code 6 none :: ws) ({ frames := 4, cells := 2, slots := 195, locals := 57 } : Room)) (fun a U => a = #[(.ref x1), (.ref b1), (.int 0), (.int pn), .null] ∧ Z.Warmed39 U.vm ∧ U.heap = h0) (fun _ _ _ _ _ => True) (fun _ U o U' => ∃ v L, o = .returned v ∧ Q_rmInit4 Z x1 b1 pn kC cs dC G1 h0 n0 v U'.heap L ∧ FrameEnd U o U' L ({ frames := 4, cells := 2, slots := 195, locals := 57 } : Room).cells ({ frames := 4, cells := 2, slots := 195, locals := 57 } : Room).slots) := by
 refine bodyOf pn_8 (fun m => ef_rmInit4 m x1 b1 pn) ?_
 intro p e s m below meth c T0 X0 hx hby hml hown hnm hret hk hZ e0
 have N0 := Fr.nil n0
 have K0 : Keep h0 h0 [x1] := Keep.refl _ _
 have ne_x1_b1 := hp9
 have O0 := hp15
 have hne0 : ¬ (pn = (0 : Int32)) := fun q => absurd (oj_inj (i := cs.length) (n := 0) (by omega) (by omega) (hn.symm.trans (q.trans (rfl : (0 : Int32) = Int32.ofNat 0)))) (by omega)
 refine go (S' := T0.setTop (mkF m 1 #[sr x1, sr b1, si 0, si pn, .val .null, .unset] [(.ref x1)])) (fun t k => XS.aloadN X0.here hx rfl (hb hby d2_0) rfl rfl k) ?_
 obtain ⟨T53, X53, e53, st53⟩ := initO X0 hx hZ hown (ww hw 11 rfl) (ww hw 12 rfl) (ww hw 13 rfl) e0 (g := (mkF m 1 #[sr x1, sr b1, si 0, si pn, .val .null, .unset] [(.ref x1)])) rfl (by rw [hml]; rfl) rfl (hb hby d2_1) (by decide) (W := 0) (mr0 rfl) (by decide)
 refine go (S' := T53.setTop (mkF m 27 #[sr x1, sr b1, si 0, si pn, .val .null, .unset] [])) (fun t k => st53 _ (XS.iloadN X53.here hx rfl (hb hby d2_4) rfl (XS.ifYes X53.here hx rfl (pc0 := 5) (pc' := 27) rfl (hb hby d2_5) rfl ((if0 _ _).trans (feq hne0).2) (by decide) (by decide) k))) ?_
 have O55 : Old Z n0 h0 := O0.keep K0 (allS hp8 all0)
 obtain ⟨T54, X54, e54, st54⟩ := getS2 X53 hx hZ hown (host := "") (Or.inl (ww hw 31 rfl)) Via.refl e53 (hp10.ext O55.2) (g := (mkF m 27 #[sr x1, sr b1, si 0, si pn, .val .null, .unset] [])) rfl (hb hby d2_27)
 refine go (S' := T54.setTop (mkF m 36 #[sr x1, sr b1, si 0, si pn, .val .null, .unset] [(.int pn), (.int 0), (.ref b1)])) (fun t k => st54 _ (XS.ifNo X54.here hx rfl (hb hby d2_30) rfl ((if0 _ _).trans (feq hG1).1) (XS.aloadN X54.here hx rfl (hb hby d2_33) rfl rfl (XS.iloadN X54.here hx rfl (hb hby d2_34) rfl (XS.iloadN X54.here hx rfl (hb hby d2_35) rfl k))))) ?_
 obtain ⟨v56, T56, L56, X56, hQ56, st56⟩ := callSt X54 hx hZ (y := y_6) hown (ww hw 32 rfl) (ww hw 33 rfl) (ww hw 34 rfl) (ww hw 35 rfl) (by decide) (backOf (W := 0) (rmCmp3 l Z a0 hw [] b1 pn kC cs dC h0 n0 (Nat.le_trans Z0 K0.1) hn hl hpc hp4 hp12 hp13 hp14 O55) hZ (ww hw 35 rfl) (ww hw 34 rfl) (by decide) (by decide)) (g := (mkF m 36 #[sr x1, sr b1, si 0, si pn, .val .null, .unset] [(.int pn), (.int 0), (.ref b1)])) rfl (by rw [hml]; rfl) (kc := 2) (ks := 195) (argsL := [(.ref b1), (.int 0), (.int pn)]) (rest := []) (lenOf pd_4 rfl) rfl (mr0 rfl) (hb hby d2_36) e54 (by decide) (by decide)
 obtain ⟨t_56, kb_56, cd_56, N2_56, vs_56, rfl, N56q, Kq56, q56_0, q56_1, q56_2⟩ := hQ56
 have N56 := Fr.app N0 N56q
 have K57 : Keep h0 T56.heap [x1] := K0.trans Kq56 all0
 have lt_b1_t_56 : b1 < t_56 := Nat.lt_of_lt_of_le hp4.lt q56_0
 have lt_x1_t_56 : x1 < t_56 := Nat.lt_of_lt_of_le hp5.lt q56_0
 have sz_t_56 : h0.size ≤ t_56 := Nat.le_trans K0.1 q56_0
 have ge_t_56 : n0 ≤ t_56 := Nat.le_trans Z0 sz_t_56
 refine go (S' := T56.setTop (mkF m 45 #[sr x1, sr b1, si 0, si pn, .val .null, sr t_56] [(.int pn), (.ref t_56), (.ref x1)])) (fun t k => st56 _ (XS.astore X56.here hx rfl (hb hby d2_39) rfl rfl (l' := #[sr x1, sr b1, si 0, si pn, .val .null, sr t_56]) rfl (XS.aloadN X56.here hx rfl (hb hby d2_41) rfl rfl (XS.aload X56.here hx rfl (hb hby d2_42) rfl rfl (XS.iloadN X56.here hx rfl (hb hby d2_44) rfl k))))) ?_
 obtain ⟨v58, T58, L58, X58, hQ58, st58⟩ := callSt X56 hx hZ (y := y_7) hown (ww hw 39 rfl) (ww hw 40 rfl) (ww hw 34 rfl) (ww hw 41 rfl) (by decide) (backOf (W := 1) (rmCfl l Z a0 hw [] t_56 pn kb_56 cd_56 N2_56 vs_56 cs T56.heap n0 (Nat.le_trans Z0 K57.1) q56_1 q56_2 hn (by omega) hl0) hZ (ww hw 41 rfl) (ww hw 34 rfl) (by decide) (by decide)) (g := (mkF m 45 #[sr x1, sr b1, si 0, si pn, .val .null, sr t_56] [(.int pn), (.ref t_56), (.ref x1)])) rfl (by rw [hml]; rfl) (kc := 0) (ks := 0) (argsL := [(.ref t_56), (.int pn)]) (rest := [(.ref x1)]) (lenOf pd_6 rfl) rfl (mr0 rfl) (hb hby d2_45) rfl (by decide) (by decide)
 obtain ⟨rfl, N58q, e58⟩ := hQ58
 have N58 := Fr.app N56 N58q
 refine go (S' := T58.setTop (mkF m 48 #[sr x1, sr b1, si 0, si pn, .val .null, sr t_56] [(.int cd_56), (.ref x1)])) st58 ?_
 have hcd : cd_56 = 0 ∨ cd_56 = 1 := q56_2.imp (·.1) (·.1)
 have f59 : Fld Z T56.heap x1 "java/lang/String" "coder" "B" (.int 0) := (hp7.keep Kq56 nin0)
 obtain ⟨T60, h60, X60, e60, W60, st60⟩ := putF X58 hx hZ hown (host := "") (Or.inl (ww hw 21 rfl)) Via.refl e58 f59 (hp5.keep K57) (Or.inr ⟨(ww hw 17 rfl), rfl, hnm⟩) (ww hw 1 rfl) (ty := .byte) (by decide) (by rcases hcd with q | q <;> rw [q] <;> rfl) (by rcases hcd with q | q <;> rw [q] <;> rfl) (g := (mkF m 48 #[sr x1, sr b1, si 0, si pn, .val .null, sr t_56] [(.int cd_56), (.ref x1)])) rfl rfl (hb hby d2_48)
 have K61 : Keep h0 h60 [x1] := K57.wr W60 (Or.inl (List.mem_of_getElem? (i := 0) rfl))
 have N62 := Fr.snoc X60 N58 hp8
 have f63 : Fld Z h60 x1 "java/lang/String" "coder" "B" (.int cd_56) := (Fld.same W60 f59)
 refine go (S' := T60.setTop (mkF m 54 #[sr x1, sr b1, si 0, si pn, .val .null, sr t_56] [(.ref t_56), (.ref x1)])) (fun t k => st60 _ (XS.aloadN X60.here hx rfl (hb hby d2_51) rfl rfl (XS.aload X60.here hx rfl (hb hby d2_52) rfl rfl k))) ?_
 have f64 : Fld Z h60 x1 "java/lang/String" "value" "[B" .null := (Fld.other W60 (hp6.keep Kq56 nin0) (Or.inr (slot_ne (Or.inr (ww hw 16 rfl)) (Or.inr (ww hw 17 rfl)) (by decide) (t := (.array .byte)) (t' := .byte) (by decide) (by decide))))
 obtain ⟨T65, h65, X65, e65, W65, st65⟩ := putF X60 hx hZ hown (host := "") (Or.inl (ww hw 20 rfl)) Via.refl e60 f64 (hp5.keep K61) (Or.inr ⟨(ww hw 16 rfl), rfl, hnm⟩) (ww hw 1 rfl) (ty := (.array .byte)) (by decide) rfl rfl (g := (mkF m 54 #[sr x1, sr b1, si 0, si pn, .val .null, sr t_56] [(.ref t_56), (.ref x1)])) rfl rfl (hb hby d2_54)
 have K66 : Keep h0 h65 [x1] := K61.wr W65 (Or.inl (List.mem_of_getElem? (i := 0) rfl))
 have N67 := Fr.snoc X65 N62 hp8
 have f68 : Fld Z h65 x1 "java/lang/String" "value" "[B" (.ref t_56) := (Fld.same W65 f64)
 refine go (S' := T65.setTop (mkF m 57 #[sr x1, sr b1, si 0, si pn, .val .null, sr t_56] [])) st65 ?_
 refine finV X65 hx hk hret (hb hby d2_57) (by decide) (by decide) ?_
 have f69 : Fld Z h65 x1 "java/lang/String" "coder" "B" (.int cd_56) := (Fld.other W65 f63 (Or.inr (slot_ne (Or.inr (ww hw 17 rfl)) (Or.inr (ww hw 16 rfl)) (by decide) (t := .byte) (t' := (.array .byte)) (by decide) (by decide))))
 have f70 : Arv Z h65 t_56 kb_56 .byte N2_56 vs_56 (.int 0) := ((q56_1.other W60 (Nat.ne_of_gt lt_x1_t_56)).other W65 (Nat.ne_of_gt lt_x1_t_56))
 rw [e65]
 exact ⟨t_56, cd_56, rfl, N67, K66, sz_t_56, (Nat.ne_of_gt lt_x1_t_56), ⟨_, _, _, (hp5.keep K66), f68, f69, f70, q56_2, hpc, by omega⟩⟩
theorem d1_0 : decode jdk_42_method_3_code 0 = .ok (.aload_n 0, 1) := by decide +kernel
theorem d1_1 : decode jdk_42_method_3_code 1 = .ok (.aload_n 1, 1) := by decide +kernel
theorem d1_2 : decode jdk_42_method_3_code 2 = .ok (.iconst 0, 1) := by decide +kernel
theorem d1_3 : decode jdk_42_method_3_code 3 = .ok (.aload_n 1, 1) := by decide +kernel
theorem d1_4 : decode jdk_42_method_3_code 4 = .ok (.arraylength, 1) := by decide +kernel
theorem d1_5 : decode jdk_42_method_3_code 5 = .ok (.aconst_null, 1) := by decide +kernel
theorem d1_6 : decode jdk_42_method_3_code 6 = .ok (.invokespecial 27, 3) := by decide +kernel
theorem pd_7 : parseMethodDescriptor "([CIILjava/lang/Void;)V" = some ⟨[(.array .char), .int, .int, (.object "java/lang/Void")], none⟩ := by decide +kernel
theorem d1_9 : decode jdk_42_method_3_code 9 = .ok (.return_, 1) := by decide +kernel
abbrev y_9 : MethodName := ⟨"java/lang/String", "<init>", "([C)V"⟩
theorem pn_9 : plainFor y_9 = true := by first | exact plainFor_of_name (by first | (simp [plainName, overriddenIn]; done) | decide +kernel) | decide +kernel
theorem ef_rmInit1 (m : MethodId) (x1 : Addr) (b1 : Addr) : entryFrame m #[(.ref x1), (.ref b1)] 2 = mkF m 0 #[sr x1, sr b1] [] := by first | (simp [entryFrame, mkF, argsToLocals, Value.category]; done) | rfl
def Q_rmInit1 (Z : State) (x1 : Addr) (b1 : Addr) (pn : Int32) (kC : ClassId) (cs : List Int32) (dC : Value) (G1 : Int32) (h0 : Heap) (n0 : Nat) (v : Option Value) (h : Heap) (L : List Loc) : Prop := ∃ (t : Addr), ∃ (cd : Int32), v = none ∧ Fr n0 L ∧ Keep h0 h [x1] ∧ (h0.size ≤ t) ∧ (t ≠ x1) ∧ (Str Z h x1 t cd cs)
set_option maxRecDepth 65536 in
set_option maxHeartbeats 40000000 in
theorem rmInit1 (l : Launch) (Z : State) (a0 : Array Value) (hw : ∀ d ∈ tables_1, d.before a0 Z = true) (ws : List Jvm.Cond) (x1 : Addr) (b1 : Addr) (pn : Int32) (kC : ClassId) (cs : List Int32) (dC : Value) (G1 : Int32) (h0 : Heap) (n0 : Nat) (Z0 : n0 ≤ h0.size) (hp0 : Arv Z h0 b1 kC .char pn (cs.map Value.int) dC) (hn : pn = Int32.ofNat cs.length) (hl : cs.length ≤ 65) (hl0 : 0 < cs.length) (hpc : ∀ c ∈ cs, ¬ c < 0 ∧ ¬ (65535 : Int32) < c) (hp5 : Exa Z h0 x1 "java/lang/String") (hp6 : Fld Z h0 x1 "java/lang/String" "value" "[B" .null) (hp7 : Fld Z h0 x1 "java/lang/String" "coder" "B" (.int 0)) (hp8 : n0 ≤ x1) (hp9 : x1 ≠ b1) (hp10 : Sta Z Z.heap "java/lang/String" "COMPACT_STRINGS" "Z" (.int G1)) (hG1 : ¬ (G1 = (0 : Int32))) (hp12 : Sta Z Z.heap "java/lang/StringUTF16" "$assertionsDisabled" "Z" (.int 1)) (hp13 : Sta Z Z.heap "java/lang/StringUTF16" "HI_BYTE_SHIFT" "I" (.int 0)) (hp14 : Sta Z Z.heap "java/lang/StringUTF16" "LO_BYTE_SHIFT" "I" (.int 8)) (hp15 : Old Z n0 h0) :
    MetFree l y_9 (head1 (Jvm.Cond.code y_9 jdk_42_method_3_code 2 none :: ws) ({ frames := 5, cells := 2, slots := 195, locals := 74 } : Room)) (fun a U => a = #[(.ref x1), (.ref b1)] ∧ Z.Warmed39 U.vm ∧ U.heap = h0) (fun _ _ _ _ _ => True) (fun _ U o U' => ∃ v L, o = .returned v ∧ Q_rmInit1 Z x1 b1 pn kC cs dC G1 h0 n0 v U'.heap L ∧ FrameEnd U o U' L ({ frames := 5, cells := 2, slots := 195, locals := 74 } : Room).cells ({ frames := 5, cells := 2, slots := 195, locals := 74 } : Room).slots) := by
 refine bodyOf pn_9 (fun m => ef_rmInit1 m x1 b1) ?_
 intro p e s m below meth c T0 X0 hx hby hml hown hnm hret hk hZ e0
 have N0 := Fr.nil n0
 have K0 : Keep h0 h0 [x1] := Keep.refl _ _
 have ne_x1_b1 := hp9
 have O0 := hp15
 refine go (S' := T0.setTop (mkF m 4 #[sr x1, sr b1] [(.ref b1), (.int 0), (.ref b1), (.ref x1)])) (fun t k => XS.aloadN X0.here hx rfl (hb hby d1_0) rfl rfl (XS.aloadN X0.here hx rfl (hb hby d1_1) rfl rfl (XS.iconst X0.here hx rfl (hb hby d1_2) (XS.aloadN X0.here hx rfl (hb hby d1_3) rfl rfl k)))) ?_
 obtain ⟨cl71, Ar71, -, S71, M71, -, -⟩ := id hp0
 refine go (S' := T0.setTop (mkF m 6 #[sr x1, sr b1] [.null, (.int pn), (.int 0), (.ref b1), (.ref x1)])) (fun t k => X0.arraylength hx (by rw [e0]; exact Ar71.1) (State.isArrayOf_alike hZ.alike Ar71.2.1) (g := (mkF m 4 #[sr x1, sr b1] [(.ref b1), (.int 0), (.ref b1), (.ref x1)])) rfl rfl (hb hby d1_4) _ (by rw [len_of S71 M71]; exact (XS.aconstNull X0.here hx rfl (hb hby d1_5) k))) ?_
 have O72 : Old Z n0 h0 := O0.keep K0 (allS hp8 all0)
 obtain ⟨v73, T73, L73, X73, hQ73, st73⟩ := callSp X0 hx hZ (y := y_8) rfl hown (ww hw 7 rfl) (ww hw 8 rfl) (ww hw 10 rfl) (by decide) (backOf (W := 0) (rmInit4 l Z a0 hw [] x1 b1 pn kC cs dC G1 h0 n0 (Nat.le_trans Z0 K0.1) hn hl hl0 hpc hp0 hp5 hp6 hp7 hp8 ne_x1_b1 hp10 hG1 hp12 hp13 hp14 O72) hZ (ww hw 10 rfl) (ww hw 2 rfl) (by decide) (by decide)) (g := (mkF m 6 #[sr x1, sr b1] [.null, (.int pn), (.int 0), (.ref b1), (.ref x1)])) rfl (by rw [hml]; rfl) (a := x1) (kc := 2) (ks := 195) (argsL := [(.ref b1), (.int 0), (.int pn), .null]) (rest := []) (lenOf pd_7 rfl) rfl (mr0 rfl) (hb hby d1_6) e0 (by decide) (by decide)
 obtain ⟨t_73, cd_73, rfl, N73q, Kq73, q73_0, q73_1, q73_2⟩ := hQ73
 have N73 := Fr.app N0 N73q
 have K74 : Keep h0 T73.heap [x1] := K0.trans Kq73 (allS (P := fun x => x ∈ [x1] ∨ h0.size ≤ x) (Or.inl (List.mem_of_getElem? (i := 0) rfl)) all0)
 have lt_b1_t_73 : b1 < t_73 := Nat.lt_of_lt_of_le hp0.lt q73_0
 have lt_x1_t_73 : x1 < t_73 := Nat.lt_of_lt_of_le hp5.lt q73_0
 have sz_t_73 : h0.size ≤ t_73 := Nat.le_trans K0.1 q73_0
 have ge_t_73 : n0 ≤ t_73 := Nat.le_trans Z0 sz_t_73
 have ne_t_73_x1 := q73_1
 refine go (S' := T73.setTop (mkF m 9 #[sr x1, sr b1] [])) st73 ?_
 refine finV X73 hx hk hret (hb hby d1_9) (by decide) (by decide) ?_
 exact ⟨t_73, cd_73, rfl, N73, K74, sz_t_73, ne_t_73_x1, q73_2⟩
theorem d16_0 : decode jdk_41_method_11_code 0 = .ok (.iload_n 0, 1) := by decide +kernel
theorem d16_1 : decode jdk_41_method_11_code 1 = .ok (.ifCond .lt 8, 3) := by decide +kernel
theorem d16_4 : decode jdk_41_method_11_code 4 = .ok (.iload_n 0, 1) := by decide +kernel
theorem d16_5 : decode jdk_41_method_11_code 5 = .ok (.iload_n 1, 1) := by decide +kernel
theorem d16_6 : decode jdk_41_method_11_code 6 = .ok (.if_icmp .lt 10, 3) := by decide +kernel
theorem d16_16 : decode jdk_41_method_11_code 16 = .ok (.iload_n 0, 1) := by decide +kernel
theorem d16_17 : decode jdk_41_method_11_code 17 = .ok (.ireturn, 1) := by decide +kernel
abbrev y_10 : MethodName := ⟨"jdk/internal/util/Preconditions", "checkIndex", "(IILjava/util/function/BiFunction;)I"⟩
theorem pn_10 : plainFor y_10 = true := by first | exact plainFor_of_name (by first | (simp [plainName, overriddenIn]; done) | decide +kernel) | decide +kernel
theorem ef_rmPci (m : MethodId) (pi : Int32) (pn : Int32) (fm : Value) (hfm : fm.isRef = true) : entryFrame m #[(.int pi), (.int pn), fm] 3 = mkF m 0 #[si pi, si pn, .val fm] [] := by cases fm <;> simp_all [entryFrame, mkF, argsToLocals, Value.category, Value.isRef]
def Q_rmPci (Z : State) (pi : Int32) (pn : Int32) (fm : Value) (h0 : Heap) (n0 : Nat) (v : Option Value) (h : Heap) (L : List Loc) : Prop := v = some (.int pi) ∧ Fr n0 L ∧ h = h0
set_option maxRecDepth 65536 in
set_option maxHeartbeats 40000000 in
theorem rmPci (l : Launch) (Z : State) (a0 : Array Value) (hw : ∀ d ∈ tables_1, d.before a0 Z = true) (ws : List Jvm.Cond) (pi : Int32) (pn : Int32) (fm : Value) (h0 : Heap) (n0 : Nat) (Z0 : n0 ≤ h0.size) (hfm : fm.isRef = true) (hz0 : ¬ (pi < (0 : Int32))) (hz1 : pi < pn) :
    MetFree l y_10 (head1 (Jvm.Cond.code y_10 jdk_41_method_11_code 3 (some .int) :: ws) ({ frames := 0, cells := 0, slots := 0, locals := 0 } : Room)) (fun a U => a = #[(.int pi), (.int pn), fm] ∧ Z.Warmed39 U.vm ∧ U.heap = h0) (fun _ _ _ _ _ => True) (fun _ U o U' => ∃ v L, o = .returned v ∧ Q_rmPci Z pi pn fm h0 n0 v U'.heap L ∧ FrameEnd U o U' L ({ frames := 0, cells := 0, slots := 0, locals := 0 } : Room).cells ({ frames := 0, cells := 0, slots := 0, locals := 0 } : Room).slots) := by
 refine bodyOf pn_10 (fun m => ef_rmPci m pi pn fm hfm) ?_
 intro p e s m below meth c T0 X0 hx hby hml hown hnm hret hk hZ e0
 have N0 := Fr.nil n0
 have K0 : Keep h0 h0 [] := Keep.refl _ _
 refine go (S' := T0.setTop (mkF m 17 #[si pi, si pn, .val fm] [(.int pi)])) (fun t k => XS.iloadN X0.here hx rfl (hb hby d16_0) rfl (XS.ifNo X0.here hx rfl (hb hby d16_1) rfl ((if0 _ _).trans (flt hz0).1) (XS.iloadN X0.here hx rfl (hb hby d16_4) rfl (XS.iloadN X0.here hx rfl (hb hby d16_5) rfl (XS.icmpYes X0.here hx rfl (pc0 := 6) (pc' := 16) rfl (hb hby d16_6) rfl (tlt hz1).1 (by decide) (by decide) (XS.iloadN X0.here hx rfl (hb hby d16_16) rfl k)))))) ?_
 refine finI X0 hx hk hret (hb hby d16_17) (by decide) (by decide) ?_
 rw [e0]
 exact ⟨rfl, N0, rfl⟩
theorem d15_0 : decode jdk_42_method_155_code 0 = .ok (.iload_n 0, 1) := by decide +kernel
theorem d15_1 : decode jdk_42_method_155_code 1 = .ok (.iload_n 1, 1) := by decide +kernel
theorem d15_2 : decode jdk_42_method_155_code 2 = .ok (.getstatic 1053, 3) := by decide +kernel
theorem d15_5 : decode jdk_42_method_155_code 5 = .ok (.invokestatic 1059, 3) := by decide +kernel
theorem pd_8 : parseMethodDescriptor "(IILjava/util/function/BiFunction;)I" = some ⟨[.int, .int, (.object "java/util/function/BiFunction")], some .int⟩ := by decide +kernel
theorem d15_8 : decode jdk_42_method_155_code 8 = .ok (.pop, 1) := by decide +kernel
theorem d15_9 : decode jdk_42_method_155_code 9 = .ok (.return_, 1) := by decide +kernel
abbrev y_11 : MethodName := ⟨"java/lang/String", "checkIndex", "(II)V"⟩
theorem pn_11 : plainFor y_11 = true := by first | exact plainFor_of_name (by first | (simp [plainName, overriddenIn]; done) | decide +kernel) | decide +kernel
theorem ef_rmSci (m : MethodId) (pi : Int32) (pn : Int32) : entryFrame m #[(.int pi), (.int pn)] 2 = mkF m 0 #[si pi, si pn] [] := by first | (simp [entryFrame, mkF, argsToLocals, Value.category]; done) | rfl
def Q_rmSci (Z : State) (pi : Int32) (pn : Int32) (fm : Value) (h0 : Heap) (n0 : Nat) (v : Option Value) (h : Heap) (L : List Loc) : Prop := v = none ∧ Fr n0 L ∧ h = h0
set_option maxRecDepth 65536 in
set_option maxHeartbeats 40000000 in
theorem rmSci (l : Launch) (Z : State) (a0 : Array Value) (hw : ∀ d ∈ tables_1, d.before a0 Z = true) (ws : List Jvm.Cond) (pi : Int32) (pn : Int32) (fm : Value) (h0 : Heap) (n0 : Nat) (Z0 : n0 ≤ h0.size) (hfm : fm.isRef = true) (hz0 : ¬ (pi < (0 : Int32))) (hz1 : pi < pn) (hp3 : Sta Z Z.heap "jdk/internal/util/Preconditions" "SIOOBE_FORMATTER" "Ljava/util/function/BiFunction;" fm) (hp4 : Old Z n0 h0) :
    MetFree l y_11 (head1 (Jvm.Cond.code y_11 jdk_42_method_155_code 2 none :: ws) ({ frames := 1, cells := 0, slots := 0, locals := 14 } : Room)) (fun a U => a = #[(.int pi), (.int pn)] ∧ Z.Warmed39 U.vm ∧ U.heap = h0) (fun _ _ _ _ _ => True) (fun _ U o U' => ∃ v L, o = .returned v ∧ Q_rmSci Z pi pn fm h0 n0 v U'.heap L ∧ FrameEnd U o U' L ({ frames := 1, cells := 0, slots := 0, locals := 14 } : Room).cells ({ frames := 1, cells := 0, slots := 0, locals := 14 } : Room).slots) := by
 refine bodyOf pn_11 (fun m => ef_rmSci m pi pn) ?_
 intro p e s m below meth c T0 X0 hx hby hml hown hnm hret hk hZ e0
 have N0 := Fr.nil n0
 have K0 : Keep h0 h0 [] := Keep.refl _ _
 have O0 := hp4
 refine go (S' := T0.setTop (mkF m 2 #[si pi, si pn] [(.int pn), (.int pi)])) (fun t k => XS.iloadN X0.here hx rfl (hb hby d15_0) rfl (XS.iloadN X0.here hx rfl (hb hby d15_1) rfl k)) ?_
 have O76 : Old Z n0 h0 := O0.keep K0 all0
 obtain ⟨T75, X75, e75, st75⟩ := getS2 X0 hx hZ hown (host := "") (Or.inl (ww hw 73 rfl)) Via.refl e0 (hp3.ext O76.2) (g := (mkF m 2 #[si pi, si pn] [(.int pn), (.int pi)])) rfl (hb hby d15_2)
 refine go (S' := T75.setTop (mkF m 5 #[si pi, si pn] [fm, (.int pn), (.int pi)])) st75 ?_
 obtain ⟨v77, T77, L77, X77, hQ77, st77⟩ := callSt X75 hx hZ (y := y_10) hown (ww hw 75 rfl) (ww hw 76 rfl) (ww hw 74 rfl) (ww hw 77 rfl) (by decide) (backOf (W := 0) (rmPci l Z a0 hw [] pi pn fm h0 n0 (Nat.le_trans Z0 K0.1) hfm hz0 hz1) hZ (ww hw 77 rfl) (ww hw 74 rfl) (by decide) (by decide)) (g := (mkF m 5 #[si pi, si pn] [fm, (.int pn), (.int pi)])) rfl (by rw [hml]; rfl) (kc := 0) (ks := 0) (argsL := [(.int pi), (.int pn), fm]) (rest := []) (lenOf pd_8 rfl) rfl (mr0 rfl) (hb hby d15_5) e75 (by decide) (by decide)
 obtain ⟨rfl, N77q, e77⟩ := hQ77
 have N77 := Fr.app N0 N77q
 refine go (S' := T77.setTop (mkF m 9 #[si pi, si pn] [])) (fun t k => st77 _ (XS.pop X77.here hx rfl (hb hby d15_8) rfl rfl k)) ?_
 refine finV X77 hx hk hret (hb hby d15_9) (by decide) (by decide) ?_
 rw [e77]
 exact ⟨rfl, N77, rfl⟩
theorem d13_0 : decode jdk_42_method_154_code 0 = .ok (.getstatic 38, 3) := by decide +kernel
theorem d13_3 : decode jdk_42_method_154_code 3 = .ok (.ifCond .eq 14, 3) := by decide +kernel
theorem d13_6 : decode jdk_42_method_154_code 6 = .ok (.aload_n 0, 1) := by decide +kernel
theorem d13_7 : decode jdk_42_method_154_code 7 = .ok (.getfield 15, 3) := by decide +kernel
theorem d13_10 : decode jdk_42_method_154_code 10 = .ok (.ifCond .ne 7, 3) := by decide +kernel
theorem d13_13 : decode jdk_42_method_154_code 13 = .ok (.iconst 1, 1) := by decide +kernel
theorem d13_14 : decode jdk_42_method_154_code 14 = .ok (.goto 4, 3) := by decide +kernel
theorem d13_18 : decode jdk_42_method_154_code 18 = .ok (.ireturn, 1) := by decide +kernel
theorem d13_17 : decode jdk_42_method_154_code 17 = .ok (.iconst 0, 1) := by decide +kernel
abbrev y_12 : MethodName := ⟨"java/lang/String", "isLatin1", "()Z"⟩
theorem pn_12 : plainFor y_12 = true := by first | exact plainFor_of_name (by first | (simp [plainName, overriddenIn]; done) | decide +kernel) | decide +kernel
theorem ef_rmIsl (m : MethodId) (x1 : Addr) : entryFrame m #[(.ref x1)] 1 = mkF m 0 #[sr x1] [] := by first | (simp [entryFrame, mkF, argsToLocals, Value.category]; done) | rfl
def Q_rmIsl (Z : State) (x1 : Addr) (cd : Int32) (G1 : Int32) (h0 : Heap) (n0 : Nat) (v : Option Value) (h : Heap) (L : List Loc) : Prop := v = some (.int (if cd = (0 : Int32) then (1 : Int32) else (0 : Int32))) ∧ Fr n0 L ∧ h = h0
set_option maxRecDepth 65536 in
set_option maxHeartbeats 40000000 in
theorem rmIsl (l : Launch) (Z : State) (a0 : Array Value) (hw : ∀ d ∈ tables_1, d.before a0 Z = true) (ws : List Jvm.Cond) (x1 : Addr) (cd : Int32) (G1 : Int32) (h0 : Heap) (n0 : Nat) (Z0 : n0 ≤ h0.size) (hp0 : Fld Z h0 x1 "java/lang/String" "coder" "B" (.int cd)) (hp1 : Sta Z Z.heap "java/lang/String" "COMPACT_STRINGS" "Z" (.int G1)) (hG1 : ¬ (G1 = (0 : Int32))) (hp3 : Old Z n0 h0) :
    MetFree l y_12 (head1 (Jvm.Cond.code y_12 jdk_42_method_154_code 1 (some .boolean) :: ws) ({ frames := 0, cells := 0, slots := 0, locals := 0 } : Room)) (fun a U => a = #[(.ref x1)] ∧ Z.Warmed39 U.vm ∧ U.heap = h0) (fun _ _ _ _ _ => True) (fun _ U o U' => ∃ v L, o = .returned v ∧ Q_rmIsl Z x1 cd G1 h0 n0 v U'.heap L ∧ FrameEnd U o U' L ({ frames := 0, cells := 0, slots := 0, locals := 0 } : Room).cells ({ frames := 0, cells := 0, slots := 0, locals := 0 } : Room).slots) := by
 refine bodyOf pn_12 (fun m => ef_rmIsl m x1) ?_
 intro p e s m below meth c T0 X0 hx hby hml hown hnm hret hk hZ e0
 have N0 := Fr.nil n0
 have K0 : Keep h0 h0 [] := Keep.refl _ _
 have O0 := hp3
 have O79 : Old Z n0 h0 := O0.keep K0 all0
 obtain ⟨T78, X78, e78, st78⟩ := getS2 X0 hx hZ hown (host := "") (Or.inl (ww hw 31 rfl)) Via.refl e0 (hp1.ext O79.2) (g := (mkF m 0 #[sr x1] [])) rfl (hb hby d13_0)
 refine go (S' := T78.setTop (mkF m 7 #[sr x1] [(.ref x1)])) (fun t k => st78 _ (XS.ifNo X78.here hx rfl (hb hby d13_3) rfl ((if0 _ _).trans (feq hG1).1) (XS.aloadN X78.here hx rfl (hb hby d13_6) rfl rfl k))) ?_
 obtain ⟨T80, X80, e80, st80⟩ := getF X78 hx hZ hown (host := "") (Or.inl (ww hw 21 rfl)) Via.refl e78 hp0 (g := (mkF m 7 #[sr x1] [(.ref x1)])) rfl rfl (hb hby d13_7)
 refine go (S' := T80.setTop (mkF m 10 #[sr x1] [(.int cd)])) st80 ?_
 by_cases hc81 : cd = (0 : Int32)
 ·
  refine go (S' := T80.setTop (mkF m 18 #[sr x1] [(.int 1)])) (fun t k => XS.ifNo X80.here hx rfl (hb hby d13_10) rfl ((if0 _ _).trans (teq hc81).2) (XS.iconst X80.here hx rfl (hb hby d13_13) (XS.goto X80.here hx rfl (pc0 := 14) (pc' := 18) rfl (hb hby d13_14) (by decide) (by decide) k))) ?_
  refine finN X80 hx hk (t := .boolean) hret (by simp) (hb hby d13_18) (by decide) (by decide) ?_
  rw [e80]
  exact ⟨(by rw [if_pos hc81]; rfl), N0, rfl⟩
 ·
  refine go (S' := T80.setTop (mkF m 18 #[sr x1] [(.int 0)])) (fun t k => XS.ifYes X80.here hx rfl (pc0 := 10) (pc' := 17) rfl (hb hby d13_10) rfl ((if0 _ _).trans (feq hc81).2) (by decide) (by decide) (XS.iconst X80.here hx rfl (hb hby d13_17) k)) ?_
  refine finN X80 hx hk (t := .boolean) hret (by simp) (hb hby d13_18) (by decide) (by decide) ?_
  rw [e80]
  exact ⟨(by rw [if_neg hc81]; rfl), N0, rfl⟩
theorem d14_0 : decode jdk_43_method_2_code 0 = .ok (.iload_n 1, 1) := by decide +kernel
theorem d14_1 : decode jdk_43_method_2_code 1 = .ok (.aload_n 0, 1) := by decide +kernel
theorem d14_2 : decode jdk_43_method_2_code 2 = .ok (.arraylength, 1) := by decide +kernel
theorem d14_3 : decode jdk_43_method_2_code 3 = .ok (.invokestatic 9, 3) := by decide +kernel
theorem pd_9 : parseMethodDescriptor "(II)V" = some ⟨[.int, .int], none⟩ := by decide +kernel
theorem d14_6 : decode jdk_43_method_2_code 6 = .ok (.aload_n 0, 1) := by decide +kernel
theorem d14_7 : decode jdk_43_method_2_code 7 = .ok (.iload_n 1, 1) := by decide +kernel
theorem d14_8 : decode jdk_43_method_2_code 8 = .ok (.baload, 1) := by decide +kernel
theorem d14_9 : decode jdk_43_method_2_code 9 = .ok (.sipush 255, 3) := by decide +kernel
theorem d14_12 : decode jdk_43_method_2_code 12 = .ok (.iand, 1) := by decide +kernel
theorem d14_13 : decode jdk_43_method_2_code 13 = .ok (.i2c, 1) := by decide +kernel
theorem d14_14 : decode jdk_43_method_2_code 14 = .ok (.ireturn, 1) := by decide +kernel
abbrev y_13 : MethodName := ⟨"java/lang/StringLatin1", "charAt", "([BI)C"⟩
theorem pn_13 : plainFor y_13 = true := by first | exact plainFor_of_name (by first | (simp [plainName, overriddenIn]; done) | decide +kernel) | decide +kernel
theorem ef_rmLch (m : MethodId) (a1 : Addr) (pi : Int32) : entryFrame m #[(.ref a1), (.int pi)] 2 = mkF m 0 #[sr a1, si pi] [] := by first | (simp [entryFrame, mkF, argsToLocals, Value.category]; done) | rfl
def Q_rmLch (Z : State) (a1 : Addr) (pi : Int32) (kb : ClassId) (cs : List Int32) (i : Nat) (fm : Value) (h0 : Heap) (n0 : Nat) (v : Option Value) (h : Heap) (L : List Loc) : Prop := v = some (.int (cs.getD i 0)) ∧ Fr n0 L ∧ h = h0
set_option maxRecDepth 65536 in
set_option maxHeartbeats 40000000 in
theorem rmLch (l : Launch) (Z : State) (a0 : Array Value) (hw : ∀ d ∈ tables_1, d.before a0 Z = true) (ws : List Jvm.Cond) (a1 : Addr) (pi : Int32) (kb : ClassId) (cs : List Int32) (i : Nat) (fm : Value) (h0 : Heap) (n0 : Nat) (Z0 : n0 ≤ h0.size) (hix : pi = Int32.ofNat i) (hi : i < cs.length) (hl : cs.length ≤ 4000) (hpc : ∀ c ∈ cs, ¬ c < 0 ∧ ¬ (65535 : Int32) < c) (hlat : ∀ c ∈ cs, ¬ (255 : Int32) < c) (hp5 : Arv Z h0 a1 kb .byte (Int32.ofNat cs.length) (cs.map fun c => Value.int (StrChars.lo8 c)) (.int 0)) (hfm : fm.isRef = true) (hp7 : Sta Z Z.heap "jdk/internal/util/Preconditions" "SIOOBE_FORMATTER" "Ljava/util/function/BiFunction;" fm) (hp8 : Old Z n0 h0) :
    MetFree l y_13 (head1 (Jvm.Cond.code y_13 jdk_43_method_2_code 2 (some .char) :: ws) ({ frames := 2, cells := 0, slots := 0, locals := 27 } : Room)) (fun a U => a = #[(.ref a1), (.int pi)] ∧ Z.Warmed39 U.vm ∧ U.heap = h0) (fun _ _ _ _ _ => True) (fun _ U o U' => ∃ v L, o = .returned v ∧ Q_rmLch Z a1 pi kb cs i fm h0 n0 v U'.heap L ∧ FrameEnd U o U' L ({ frames := 2, cells := 0, slots := 0, locals := 27 } : Room).cells ({ frames := 2, cells := 0, slots := 0, locals := 27 } : Room).slots) := by
 refine bodyOf pn_13 (fun m => ef_rmLch m a1 pi) ?_
 intro p e s m below meth c T0 X0 hx hby hml hown hnm hret hk hZ e0
 have N0 := Fr.nil n0
 have K0 : Keep h0 h0 [] := Keep.refl _ _
 have O0 := hp8
 have hz0 : ¬ (pi < (0 : Int32)) := by rw [hix]; exact oj_nn (by omega)
 have hz1 : pi < (Int32.ofNat cs.length) := by rw [hix]; exact oj_lt hi (by omega)
 refine go (S' := T0.setTop (mkF m 2 #[sr a1, si pi] [(.ref a1), (.int pi)])) (fun t k => XS.iloadN X0.here hx rfl (hb hby d14_0) rfl (XS.aloadN X0.here hx rfl (hb hby d14_1) rfl rfl k)) ?_
 obtain ⟨cl82, Ar82, -, S82, M82, -, -⟩ := id hp5
 refine go (S' := T0.setTop (mkF m 3 #[sr a1, si pi] [(.int (Int32.ofNat cs.length)), (.int pi)])) (fun t k => X0.arraylength hx (by rw [e0]; exact Ar82.1) (State.isArrayOf_alike hZ.alike Ar82.2.1) (g := (mkF m 2 #[sr a1, si pi] [(.ref a1), (.int pi)])) rfl rfl (hb hby d14_2) _ (by rw [len_of S82 M82]; exact k)) ?_
 have O83 : Old Z n0 h0 := O0.keep K0 all0
 obtain ⟨v84, T84, L84, X84, hQ84, st84⟩ := callSt X0 hx hZ (y := y_11) hown (ww hw 70 rfl) (ww hw 71 rfl) (ww hw 2 rfl) (ww hw 72 rfl) (by decide) (backOf (W := 0) (rmSci l Z a0 hw [] pi (Int32.ofNat cs.length) fm h0 n0 (Nat.le_trans Z0 K0.1) hfm hz0 hz1 hp7 O83) hZ (ww hw 72 rfl) (ww hw 2 rfl) (by decide) (by decide)) (g := (mkF m 3 #[sr a1, si pi] [(.int (Int32.ofNat cs.length)), (.int pi)])) rfl (by rw [hml]; rfl) (kc := 0) (ks := 0) (argsL := [(.int pi), (.int (Int32.ofNat cs.length))]) (rest := []) (lenOf pd_9 rfl) rfl (mr0 rfl) (hb hby d14_3) e0 (by decide) (by decide)
 obtain ⟨rfl, N84q, e84⟩ := hQ84
 have N84 := Fr.app N0 N84q
 refine go (S' := T84.setTop (mkF m 8 #[sr a1, si pi] [(.int pi), (.ref a1)])) (fun t k => st84 _ (XS.aloadN X84.here hx rfl (hb hby d14_6) rfl rfl (XS.iloadN X84.here hx rfl (hb hby d14_7) rfl k))) ?_
 rw [hix]
 obtain ⟨cl85, Ar85, q85, S85, M85, H85, G85⟩ := id hp5
 have hin85 : ¬ ((Int32.ofNat i) < 0 ∨ cl85.slots.size ≤ ((Int32.ofNat i)).toNatClampNeg) := oj_in S85 rfl hi (by omega)
 have hat85 : cl85.slots[((Int32.ofNat i)).toNatClampNeg]? = some (.int (StrChars.lo8 (cs.getD i 0))) := Has.at H85 hin85 (by rw [oj_n (by omega)]; exact StrChars.Road.low_at _ cs i hi)
 refine go (S' := T84.setTop (mkF m 14 #[sr a1, si (Int32.ofNat i)] [(.int (((StrChars.lo8 (cs.getD i 0)) &&& (255 : Int32)).toUInt32.toUInt16.toUInt32.toInt32))])) (fun t k => X84.baloadBytes hx (j := (Int32.ofNat i)) (v := (.int (StrChars.lo8 (cs.getD i 0)))) (by rw [e84]; exact Ar85.1) (State.isArrayOf_alike hZ.alike Ar85.2.1) Ar85.2.2 hin85 hat85 (g := (mkF m 8 #[sr a1, si (Int32.ofNat i)] [(.int (Int32.ofNat i)), (.ref a1)])) rfl rfl (hb hby d14_8) _ (XS.sipush X84.here hx rfl (hb hby d14_9) (XS.iand X84.here hx rfl (hb hby d14_12) rfl (XS.i2c X84.here hx rfl (hb hby d14_13) rfl k)))) ?_
 refine finN X84 hx hk (t := .char) hret (by simp) (hb hby d14_14) (by decide) (by decide) ?_
 rw [e84]
 exact ⟨(by have q := StrChars.lo8_mask (hpc _ (oj_mem hi)).1 (hlat _ (oj_mem hi)); rw [narc, q]; exact congrArg (fun z => some (Value.int z)) (oj_c16 (hpc _ (oj_mem hi)))), N84, rfl⟩
theorem d25_0 : decode jdk_52_method_6_code 0 = .ok (.aload_n 0, 1) := by decide +kernel
theorem d25_1 : decode jdk_52_method_6_code 1 = .ok (.arraylength, 1) := by decide +kernel
theorem d25_2 : decode jdk_52_method_6_code 2 = .ok (.iconst 1, 1) := by decide +kernel
theorem d25_3 : decode jdk_52_method_6_code 3 = .ok (.ishr, 1) := by decide +kernel
theorem d25_4 : decode jdk_52_method_6_code 4 = .ok (.ireturn, 1) := by decide +kernel
abbrev y_14 : MethodName := ⟨"java/lang/StringUTF16", "length", "([B)I"⟩
theorem pn_14 : plainFor y_14 = true := by first | exact plainFor_of_name (by first | (simp [plainName, overriddenIn]; done) | decide +kernel) | decide +kernel
theorem ef_rmUl (m : MethodId) (a1 : Addr) : entryFrame m #[(.ref a1)] 1 = mkF m 0 #[sr a1] [] := by first | (simp [entryFrame, mkF, argsToLocals, Value.category]; done) | rfl
def Q_rmUl (Z : State) (a1 : Addr) (kb : ClassId) (n : Nat) (vs : List Value) (h0 : Heap) (n0 : Nat) (v : Option Value) (h : Heap) (L : List Loc) : Prop := v = some (.int (Int32.ofNat n)) ∧ Fr n0 L ∧ h = h0
set_option maxRecDepth 65536 in
set_option maxHeartbeats 40000000 in
theorem rmUl (l : Launch) (Z : State) (a0 : Array Value) (hw : ∀ d ∈ tables_1, d.before a0 Z = true) (ws : List Jvm.Cond) (a1 : Addr) (kb : ClassId) (n : Nat) (vs : List Value) (h0 : Heap) (n0 : Nat) (Z0 : n0 ≤ h0.size) (hp0 : Arv Z h0 a1 kb .byte (Int32.ofNat (2 * n)) vs (.int 0)) (hl : n ≤ 4000) :
    MetFree l y_14 (head1 (Jvm.Cond.code y_14 jdk_52_method_6_code 1 (some .int) :: ws) ({ frames := 0, cells := 0, slots := 0, locals := 0 } : Room)) (fun a U => a = #[(.ref a1)] ∧ Z.Warmed39 U.vm ∧ U.heap = h0) (fun _ _ _ _ _ => True) (fun _ U o U' => ∃ v L, o = .returned v ∧ Q_rmUl Z a1 kb n vs h0 n0 v U'.heap L ∧ FrameEnd U o U' L ({ frames := 0, cells := 0, slots := 0, locals := 0 } : Room).cells ({ frames := 0, cells := 0, slots := 0, locals := 0 } : Room).slots) := by
 refine bodyOf pn_14 (fun m => ef_rmUl m a1) ?_
 intro p e s m below meth c T0 X0 hx hby hml hown hnm hret hk hZ e0
 have N0 := Fr.nil n0
 have K0 : Keep h0 h0 [] := Keep.refl _ _
 refine go (S' := T0.setTop (mkF m 1 #[sr a1] [(.ref a1)])) (fun t k => XS.aloadN X0.here hx rfl (hb hby d25_0) rfl rfl k) ?_
 obtain ⟨cl86, Ar86, -, S86, M86, -, -⟩ := id hp0
 refine go (S' := T0.setTop (mkF m 4 #[sr a1] [(.int ((Int32.ofNat (2 * n)) >>> ((1 : Int32) &&& 31)))])) (fun t k => X0.arraylength hx (by rw [e0]; exact Ar86.1) (State.isArrayOf_alike hZ.alike Ar86.2.1) (g := (mkF m 1 #[sr a1] [(.ref a1)])) rfl rfl (hb hby d25_1) _ (by rw [len_of S86 M86]; exact (XS.iconst X0.here hx rfl (hb hby d25_2) (XS.ishr X0.here hx rfl (hb hby d25_3) rfl k)))) ?_
 refine finI X0 hx hk hret (hb hby d25_4) (by decide) (by decide) ?_
 rw [e0]
 exact ⟨(by rw [oj_half hl]), N0, rfl⟩
theorem d24_0 : decode jdk_52_method_91_code 0 = .ok (.iload_n 0, 1) := by decide +kernel
theorem d24_1 : decode jdk_52_method_91_code 1 = .ok (.aload_n 1, 1) := by decide +kernel
theorem d24_2 : decode jdk_52_method_91_code 2 = .ok (.invokestatic 48, 3) := by decide +kernel
theorem pd_10 : parseMethodDescriptor "([B)I" = some ⟨[(.array .byte)], some .int⟩ := by decide +kernel
theorem d24_5 : decode jdk_52_method_91_code 5 = .ok (.invokestatic 414, 3) := by decide +kernel
theorem d24_8 : decode jdk_52_method_91_code 8 = .ok (.return_, 1) := by decide +kernel
abbrev y_15 : MethodName := ⟨"java/lang/StringUTF16", "checkIndex", "(I[B)V"⟩
theorem pn_15 : plainFor y_15 = true := by first | exact plainFor_of_name (by first | (simp [plainName, overriddenIn]; done) | decide +kernel) | decide +kernel
theorem ef_rmUci (m : MethodId) (pi : Int32) (a1 : Addr) : entryFrame m #[(.int pi), (.ref a1)] 2 = mkF m 0 #[si pi, sr a1] [] := by first | (simp [entryFrame, mkF, argsToLocals, Value.category]; done) | rfl
def Q_rmUci (Z : State) (pi : Int32) (a1 : Addr) (kb : ClassId) (n : Nat) (vs : List Value) (fm : Value) (h0 : Heap) (n0 : Nat) (v : Option Value) (h : Heap) (L : List Loc) : Prop := v = none ∧ Fr n0 L ∧ h = h0
set_option maxRecDepth 65536 in
set_option maxHeartbeats 40000000 in
theorem rmUci (l : Launch) (Z : State) (a0 : Array Value) (hw : ∀ d ∈ tables_1, d.before a0 Z = true) (ws : List Jvm.Cond) (pi : Int32) (a1 : Addr) (kb : ClassId) (n : Nat) (vs : List Value) (fm : Value) (h0 : Heap) (n0 : Nat) (Z0 : n0 ≤ h0.size) (hp0 : Arv Z h0 a1 kb .byte (Int32.ofNat (2 * n)) vs (.int 0)) (hl : n ≤ 4000) (hfm : fm.isRef = true) (hz0 : ¬ (pi < (0 : Int32))) (hz1 : pi < (Int32.ofNat n)) (hp5 : Sta Z Z.heap "jdk/internal/util/Preconditions" "SIOOBE_FORMATTER" "Ljava/util/function/BiFunction;" fm) (hp6 : Old Z n0 h0) :
    MetFree l y_15 (head1 (Jvm.Cond.code y_15 jdk_52_method_91_code 2 none :: ws) ({ frames := 2, cells := 0, slots := 0, locals := 27 } : Room)) (fun a U => a = #[(.int pi), (.ref a1)] ∧ Z.Warmed39 U.vm ∧ U.heap = h0) (fun _ _ _ _ _ => True) (fun _ U o U' => ∃ v L, o = .returned v ∧ Q_rmUci Z pi a1 kb n vs fm h0 n0 v U'.heap L ∧ FrameEnd U o U' L ({ frames := 2, cells := 0, slots := 0, locals := 27 } : Room).cells ({ frames := 2, cells := 0, slots := 0, locals := 27 } : Room).slots) := by
 refine bodyOf pn_15 (fun m => ef_rmUci m pi a1) ?_
 intro p e s m below meth c T0 X0 hx hby hml hown hnm hret hk hZ e0
 have N0 := Fr.nil n0
 have K0 : Keep h0 h0 [] := Keep.refl _ _
 have O0 := hp6
 refine go (S' := T0.setTop (mkF m 2 #[si pi, sr a1] [(.ref a1), (.int pi)])) (fun t k => XS.iloadN X0.here hx rfl (hb hby d24_0) rfl (XS.aloadN X0.here hx rfl (hb hby d24_1) rfl rfl k)) ?_
 obtain ⟨v87, T87, L87, X87, hQ87, st87⟩ := callSt X0 hx hZ (y := y_14) hown (ww hw 106 rfl) (ww hw 107 rfl) (ww hw 34 rfl) (ww hw 108 rfl) (by decide) (backOf (W := 1) (rmUl l Z a0 hw [] a1 kb n vs h0 n0 (Nat.le_trans Z0 K0.1) hp0 hl) hZ (ww hw 108 rfl) (ww hw 34 rfl) (by decide) (by decide)) (g := (mkF m 2 #[si pi, sr a1] [(.ref a1), (.int pi)])) rfl (by rw [hml]; rfl) (kc := 0) (ks := 0) (argsL := [(.ref a1)]) (rest := [(.int pi)]) (lenOf pd_10 rfl) rfl (mr0 rfl) (hb hby d24_2) e0 (by decide) (by decide)
 obtain ⟨rfl, N87q, e87⟩ := hQ87
 have N87 := Fr.app N0 N87q
 refine go (S' := T87.setTop (mkF m 5 #[si pi, sr a1] [(.int (Int32.ofNat n)), (.int pi)])) st87 ?_
 have O88 : Old Z n0 h0 := O0.keep K0 all0
 obtain ⟨v89, T89, L89, X89, hQ89, st89⟩ := callSt X87 hx hZ (y := y_11) hown (ww hw 109 rfl) (ww hw 71 rfl) (ww hw 2 rfl) (ww hw 72 rfl) (by decide) (backOf (W := 0) (rmSci l Z a0 hw [] pi (Int32.ofNat n) fm h0 n0 (Nat.le_trans Z0 K0.1) hfm hz0 hz1 hp5 O88) hZ (ww hw 72 rfl) (ww hw 2 rfl) (by decide) (by decide)) (g := (mkF m 5 #[si pi, sr a1] [(.int (Int32.ofNat n)), (.int pi)])) rfl (by rw [hml]; rfl) (kc := 0) (ks := 0) (argsL := [(.int pi), (.int (Int32.ofNat n))]) (rest := []) (lenOf pd_9 rfl) rfl (mr0 rfl) (hb hby d24_5) e87 (by decide) (by decide)
 obtain ⟨rfl, N89q, e89⟩ := hQ89
 have N89 := Fr.app N87 N89q
 refine go (S' := T89.setTop (mkF m 8 #[si pi, sr a1] [])) st89 ?_
 refine finV X89 hx hk hret (hb hby d24_8) (by decide) (by decide) ?_
 rw [e89]
 exact ⟨rfl, N89, rfl⟩
theorem d23_0 : decode jdk_52_method_83_code 0 = .ok (.iload_n 1, 1) := by decide +kernel
theorem d23_1 : decode jdk_52_method_83_code 1 = .ok (.aload_n 0, 1) := by decide +kernel
theorem d23_2 : decode jdk_52_method_83_code 2 = .ok (.invokestatic 67, 3) := by decide +kernel
theorem pd_11 : parseMethodDescriptor "(I[B)V" = some ⟨[.int, (.array .byte)], none⟩ := by decide +kernel
theorem d23_5 : decode jdk_52_method_83_code 5 = .ok (.aload_n 0, 1) := by decide +kernel
theorem d23_6 : decode jdk_52_method_83_code 6 = .ok (.iload_n 1, 1) := by decide +kernel
theorem d23_7 : decode jdk_52_method_83_code 7 = .ok (.invokestatic 71, 3) := by decide +kernel
theorem d23_10 : decode jdk_52_method_83_code 10 = .ok (.ireturn, 1) := by decide +kernel
abbrev y_16 : MethodName := ⟨"java/lang/StringUTF16", "charAt", "([BI)C"⟩
theorem pn_16 : plainFor y_16 = true := by first | exact plainFor_of_name (by first | (simp [plainName, overriddenIn]; done) | decide +kernel) | decide +kernel
theorem ef_rmUch (m : MethodId) (a1 : Addr) (pi : Int32) : entryFrame m #[(.ref a1), (.int pi)] 2 = mkF m 0 #[sr a1, si pi] [] := by first | (simp [entryFrame, mkF, argsToLocals, Value.category]; done) | rfl
def Q_rmUch (Z : State) (a1 : Addr) (pi : Int32) (kb : ClassId) (cs : List Int32) (i : Nat) (fm : Value) (h0 : Heap) (n0 : Nat) (v : Option Value) (h : Heap) (L : List Loc) : Prop := v = some (.int (cs.getD i 0)) ∧ Fr n0 L ∧ h = h0
set_option maxRecDepth 65536 in
set_option maxHeartbeats 40000000 in
theorem rmUch (l : Launch) (Z : State) (a0 : Array Value) (hw : ∀ d ∈ tables_1, d.before a0 Z = true) (ws : List Jvm.Cond) (a1 : Addr) (pi : Int32) (kb : ClassId) (cs : List Int32) (i : Nat) (fm : Value) (h0 : Heap) (n0 : Nat) (Z0 : n0 ≤ h0.size) (hix : pi = Int32.ofNat i) (hi : i < cs.length) (hl : cs.length ≤ 4000) (hpc : ∀ c ∈ cs, ¬ c < 0 ∧ ¬ (65535 : Int32) < c) (hlc : cs.length ≤ 65) (hp5 : Arv Z h0 a1 kb .byte (Int32.ofNat (2 * cs.length)) (StrChars.Road.wideBytes cs) (.int 0)) (hfm : fm.isRef = true) (hp7 : Sta Z Z.heap "jdk/internal/util/Preconditions" "SIOOBE_FORMATTER" "Ljava/util/function/BiFunction;" fm) (hp8 : Sta Z Z.heap "java/lang/StringUTF16" "$assertionsDisabled" "Z" (.int 1)) (hp9 : Sta Z Z.heap "java/lang/StringUTF16" "HI_BYTE_SHIFT" "I" (.int 0)) (hp10 : Sta Z Z.heap "java/lang/StringUTF16" "LO_BYTE_SHIFT" "I" (.int 8)) (hp11 : Old Z n0 h0) :
    MetFree l y_16 (head1 (Jvm.Cond.code y_16 jdk_52_method_83_code 2 (some .char) :: ws) ({ frames := 3, cells := 0, slots := 0, locals := 40 } : Room)) (fun a U => a = #[(.ref a1), (.int pi)] ∧ Z.Warmed39 U.vm ∧ U.heap = h0) (fun _ _ _ _ _ => True) (fun _ U o U' => ∃ v L, o = .returned v ∧ Q_rmUch Z a1 pi kb cs i fm h0 n0 v U'.heap L ∧ FrameEnd U o U' L ({ frames := 3, cells := 0, slots := 0, locals := 40 } : Room).cells ({ frames := 3, cells := 0, slots := 0, locals := 40 } : Room).slots) := by
 refine bodyOf pn_16 (fun m => ef_rmUch m a1 pi) ?_
 intro p e s m below meth c T0 X0 hx hby hml hown hnm hret hk hZ e0
 have N0 := Fr.nil n0
 have K0 : Keep h0 h0 [] := Keep.refl _ _
 have O0 := hp11
 have hz0 : ¬ (pi < (0 : Int32)) := by rw [hix]; exact oj_nn (by omega)
 have hz1 : pi < (Int32.ofNat cs.length) := by rw [hix]; exact oj_lt hi (by omega)
 refine go (S' := T0.setTop (mkF m 2 #[sr a1, si pi] [(.ref a1), (.int pi)])) (fun t k => XS.iloadN X0.here hx rfl (hb hby d23_0) rfl (XS.aloadN X0.here hx rfl (hb hby d23_1) rfl rfl k)) ?_
 have O90 : Old Z n0 h0 := O0.keep K0 all0
 obtain ⟨v91, T91, L91, X91, hQ91, st91⟩ := callSt X0 hx hZ (y := y_15) hown (ww hw 103 rfl) (ww hw 104 rfl) (ww hw 34 rfl) (ww hw 105 rfl) (by decide) (backOf (W := 0) (rmUci l Z a0 hw [] pi a1 kb cs.length (StrChars.Road.wideBytes cs) fm h0 n0 (Nat.le_trans Z0 K0.1) hp5 hl hfm hz0 hz1 hp7 O90) hZ (ww hw 105 rfl) (ww hw 34 rfl) (by decide) (by decide)) (g := (mkF m 2 #[sr a1, si pi] [(.ref a1), (.int pi)])) rfl (by rw [hml]; rfl) (kc := 0) (ks := 0) (argsL := [(.int pi), (.ref a1)]) (rest := []) (lenOf pd_11 rfl) rfl (mr0 rfl) (hb hby d23_2) e0 (by decide) (by decide)
 obtain ⟨rfl, N91q, e91⟩ := hQ91
 have N91 := Fr.app N0 N91q
 refine go (S' := T91.setTop (mkF m 7 #[sr a1, si pi] [(.int pi), (.ref a1)])) (fun t k => st91 _ (XS.aloadN X91.here hx rfl (hb hby d23_5) rfl rfl (XS.iloadN X91.here hx rfl (hb hby d23_6) rfl k))) ?_
 obtain ⟨v92, T92, L92, X92, hQ92, st92⟩ := callSt X91 hx hZ (y := y_4) hown (ww hw 97 rfl) (ww hw 98 rfl) (ww hw 34 rfl) (ww hw 99 rfl) (by decide) (backOf (W := 0) (rmGet l Z a0 hw [] a1 pi kb i cs.length (StrChars.Road.wideBytes cs) (cs.getD i 0) h0 n0 (Nat.le_trans Z0 K0.1) hp5 hix hi hlc (StrChars.Road.wide_lo _ cs _ hi) (StrChars.Road.wide_hi _ cs _ hi) (hpc _ (oj_mem hi)) hp8 hp9 hp10 O90) hZ (ww hw 99 rfl) (ww hw 34 rfl) (by decide) (by decide)) (g := (mkF m 7 #[sr a1, si pi] [(.int pi), (.ref a1)])) rfl (by rw [hml]; rfl) (kc := 0) (ks := 0) (argsL := [(.ref a1), (.int pi)]) (rest := []) (lenOf pd_5 rfl) rfl (mr0 rfl) (hb hby d23_7) e91 (by decide) (by decide)
 obtain ⟨rfl, N92q, e92⟩ := hQ92
 have N92 := Fr.app N91 N92q
 refine go (S' := T92.setTop (mkF m 10 #[sr a1, si pi] [(.int (cs.getD i 0))])) st92 ?_
 refine finN X92 hx hk (t := .char) hret (by simp) (hb hby d23_10) (by decide) (by decide) ?_
 rw [e92]
 exact ⟨(congrArg (fun z => some (Value.int z)) (oj_c16 (hpc _ (oj_mem hi)))), N92, rfl⟩
theorem d12_0 : decode jdk_42_method_56_code 0 = .ok (.aload_n 0, 1) := by decide +kernel
theorem d12_1 : decode jdk_42_method_56_code 1 = .ok (.invokevirtual 492, 3) := by decide +kernel
theorem pd_12 : parseMethodDescriptor "()Z" = some ⟨[], some .boolean⟩ := by decide +kernel
theorem d12_4 : decode jdk_42_method_56_code 4 = .ok (.ifCond .eq 12, 3) := by decide +kernel
theorem d12_7 : decode jdk_42_method_56_code 7 = .ok (.aload_n 0, 1) := by decide +kernel
theorem d12_8 : decode jdk_42_method_56_code 8 = .ok (.getfield 9, 3) := by decide +kernel
theorem d12_11 : decode jdk_42_method_56_code 11 = .ok (.iload_n 1, 1) := by decide +kernel
theorem d12_12 : decode jdk_42_method_56_code 12 = .ok (.invokestatic 495, 3) := by decide +kernel
theorem d12_15 : decode jdk_42_method_56_code 15 = .ok (.ireturn, 1) := by decide +kernel
theorem d12_16 : decode jdk_42_method_56_code 16 = .ok (.aload_n 0, 1) := by decide +kernel
theorem d12_17 : decode jdk_42_method_56_code 17 = .ok (.getfield 9, 3) := by decide +kernel
theorem d12_20 : decode jdk_42_method_56_code 20 = .ok (.iload_n 1, 1) := by decide +kernel
theorem d12_21 : decode jdk_42_method_56_code 21 = .ok (.invokestatic 498, 3) := by decide +kernel
theorem d12_24 : decode jdk_42_method_56_code 24 = .ok (.ireturn, 1) := by decide +kernel
abbrev y_17 : MethodName := ⟨"java/lang/String", "charAt", "(I)C"⟩
theorem pn_17 : plainFor y_17 = true := by first | exact plainFor_of_name (by first | (simp [plainName, overriddenIn]; done) | decide +kernel) | decide +kernel
theorem ef_rmChr (m : MethodId) (x1 : Addr) (pi : Int32) : entryFrame m #[(.ref x1), (.int pi)] 2 = mkF m 0 #[sr x1, si pi] [] := by first | (simp [entryFrame, mkF, argsToLocals, Value.category]; done) | rfl
def Q_rmChr (Z : State) (x1 : Addr) (pi : Int32) (t1 : Addr) (cd : Int32) (cs : List Int32) (i : Nat) (G1 : Int32) (fm : Value) (h0 : Heap) (n0 : Nat) (v : Option Value) (h : Heap) (L : List Loc) : Prop := v = some (.int (cs.getD i 0)) ∧ Fr n0 L ∧ h = h0
set_option maxRecDepth 65536 in
set_option maxHeartbeats 40000000 in
theorem rmChr (l : Launch) (Z : State) (a0 : Array Value) (hw : ∀ d ∈ tables_1, d.before a0 Z = true) (ws : List Jvm.Cond) (x1 : Addr) (pi : Int32) (t1 : Addr) (cd : Int32) (cs : List Int32) (i : Nat) (G1 : Int32) (fm : Value) (h0 : Heap) (n0 : Nat) (Z0 : n0 ≤ h0.size) (hp0 : Str Z h0 x1 t1 cd cs) (hix : pi = Int32.ofNat i) (hi : i < cs.length) (hlc : cs.length ≤ 65) (hfm : fm.isRef = true) (hp5 : Sta Z Z.heap "jdk/internal/util/Preconditions" "SIOOBE_FORMATTER" "Ljava/util/function/BiFunction;" fm) (hp6 : Sta Z Z.heap "java/lang/String" "COMPACT_STRINGS" "Z" (.int G1)) (hG1 : ¬ (G1 = (0 : Int32))) (hp8 : Sta Z Z.heap "java/lang/StringUTF16" "$assertionsDisabled" "Z" (.int 1)) (hp9 : Sta Z Z.heap "java/lang/StringUTF16" "HI_BYTE_SHIFT" "I" (.int 0)) (hp10 : Sta Z Z.heap "java/lang/StringUTF16" "LO_BYTE_SHIFT" "I" (.int 8)) (hp11 : Old Z n0 h0) :
    MetFree l y_17 (head1 (Jvm.Cond.code y_17 jdk_42_method_56_code 2 (some .char) :: ws) ({ frames := 4, cells := 0, slots := 0, locals := 53 } : Room)) (fun a U => a = #[(.ref x1), (.int pi)] ∧ Z.Warmed39 U.vm ∧ U.heap = h0) (fun _ _ _ _ _ => True) (fun _ U o U' => ∃ v L, o = .returned v ∧ Q_rmChr Z x1 pi t1 cd cs i G1 fm h0 n0 v U'.heap L ∧ FrameEnd U o U' L ({ frames := 4, cells := 0, slots := 0, locals := 53 } : Room).cells ({ frames := 4, cells := 0, slots := 0, locals := 53 } : Room).slots) := by
 refine bodyOf pn_17 (fun m => ef_rmChr m x1 pi) ?_
 intro p e s m below meth c T0 X0 hx hby hml hown hnm hret hk hZ e0
 have N0 := Fr.nil n0
 have K0 : Keep h0 h0 [] := Keep.refl _ _
 have O0 := hp11
 obtain ⟨kb, N2, vs, hE, hV, hC, hA, hcod, hpc, hl⟩ := id hp0
 rcases hcod with ⟨hcd, hN2, hvs, hlat⟩ | ⟨hcd, hN2, hvs, hex⟩
 ·
  rw [hcd] at hC; rw [hN2, hvs] at hA
  refine go (S' := T0.setTop (mkF m 1 #[sr x1, si pi] [(.ref x1)])) (fun t k => XS.aloadN X0.here hx rfl (hb hby d12_0) rfl rfl k) ?_
  have O93 : Old Z n0 h0 := O0.keep K0 all0
  obtain ⟨v94, T94, L94, X94, hQ94, st94⟩ := callV X0 hx hZ (y := y_12) (z := y_12) hown (ww hw 61 rfl) (ww hw 62 rfl) (notFace_of_selects (args := #[]) (mvT hZ (ww hw 64 rfl))) (ww hw 64 rfl) (ww hw 63 rfl) (by decide) (backOf (W := 0) (rmIsl l Z a0 hw [] x1 (0 : Int32) G1 h0 n0 (Nat.le_trans Z0 K0.1) hC hp6 hG1 O93) hZ (ww hw 65 rfl) (ww hw 2 rfl) (by decide) (by decide)) hE (g := (mkF m 1 #[sr x1, si pi] [(.ref x1)])) rfl (by rw [hml]; rfl) (kc := 0) (ks := 0) (argsL := []) (rest := []) (lenOf pd_12 rfl) rfl (mr0 rfl) (hb hby d12_1) e0 (by decide) (by decide)
  obtain ⟨rfl, N94q, e94⟩ := hQ94
  have N94 := Fr.app N0 N94q
  refine go (S' := T94.setTop (mkF m 4 #[sr x1, si pi] [(.int (if (0 : Int32) = (0 : Int32) then (1 : Int32) else (0 : Int32)))])) st94 ?_
  have hc95 : ¬ ((if (0 : Int32) = (0 : Int32) then (1 : Int32) else (0 : Int32)) = (0 : Int32)) := by decide
  refine go (S' := T94.setTop (mkF m 8 #[sr x1, si pi] [(.ref x1)])) (fun t k => XS.ifNo X94.here hx rfl (hb hby d12_4) rfl ((if0 _ _).trans (feq hc95).1) (XS.aloadN X94.here hx rfl (hb hby d12_7) rfl rfl k)) ?_
  obtain ⟨T96, X96, e96, st96⟩ := getF X94 hx hZ hown (host := "") (Or.inl (ww hw 20 rfl)) Via.refl e94 hV (g := (mkF m 8 #[sr x1, si pi] [(.ref x1)])) rfl rfl (hb hby d12_8)
  refine go (S' := T96.setTop (mkF m 12 #[sr x1, si pi] [(.int pi), (.ref t1)])) (fun t k => st96 _ (XS.iloadN X96.here hx rfl (hb hby d12_11) rfl k)) ?_
  obtain ⟨v97, T97, L97, X97, hQ97, st97⟩ := callSt X96 hx hZ (y := y_13) hown (ww hw 66 rfl) (ww hw 67 rfl) (ww hw 68 rfl) (ww hw 69 rfl) (by decide) (backOf (W := 0) (rmLch l Z a0 hw [] t1 pi kb cs i fm h0 n0 (Nat.le_trans Z0 K0.1) hix hi hl hpc hlat hA hfm hp5 O93) hZ (ww hw 69 rfl) (ww hw 68 rfl) (by decide) (by decide)) (g := (mkF m 12 #[sr x1, si pi] [(.int pi), (.ref t1)])) rfl (by rw [hml]; rfl) (kc := 0) (ks := 0) (argsL := [(.ref t1), (.int pi)]) (rest := []) (lenOf pd_5 rfl) rfl (mr0 rfl) (hb hby d12_12) e96 (by decide) (by decide)
  obtain ⟨rfl, N97q, e97⟩ := hQ97
  have N97 := Fr.app N94 N97q
  refine go (S' := T97.setTop (mkF m 15 #[sr x1, si pi] [(.int (cs.getD i 0))])) st97 ?_
  refine finN X97 hx hk (t := .char) hret (by simp) (hb hby d12_15) (by decide) (by decide) ?_
  rw [e97]
  exact ⟨(congrArg (fun z => some (Value.int z)) (oj_c16 (hpc _ (oj_mem hi)))), N97, rfl⟩
 ·
  rw [hcd] at hC; rw [hN2, hvs] at hA
  refine go (S' := T0.setTop (mkF m 1 #[sr x1, si pi] [(.ref x1)])) (fun t k => XS.aloadN X0.here hx rfl (hb hby d12_0) rfl rfl k) ?_
  have O98 : Old Z n0 h0 := O0.keep K0 all0
  obtain ⟨v99, T99, L99, X99, hQ99, st99⟩ := callV X0 hx hZ (y := y_12) (z := y_12) hown (ww hw 61 rfl) (ww hw 62 rfl) (notFace_of_selects (args := #[]) (mvT hZ (ww hw 64 rfl))) (ww hw 64 rfl) (ww hw 63 rfl) (by decide) (backOf (W := 0) (rmIsl l Z a0 hw [] x1 (1 : Int32) G1 h0 n0 (Nat.le_trans Z0 K0.1) hC hp6 hG1 O98) hZ (ww hw 65 rfl) (ww hw 2 rfl) (by decide) (by decide)) hE (g := (mkF m 1 #[sr x1, si pi] [(.ref x1)])) rfl (by rw [hml]; rfl) (kc := 0) (ks := 0) (argsL := []) (rest := []) (lenOf pd_12 rfl) rfl (mr0 rfl) (hb hby d12_1) e0 (by decide) (by decide)
  obtain ⟨rfl, N99q, e99⟩ := hQ99
  have N99 := Fr.app N0 N99q
  refine go (S' := T99.setTop (mkF m 4 #[sr x1, si pi] [(.int (if (1 : Int32) = (0 : Int32) then (1 : Int32) else (0 : Int32)))])) st99 ?_
  have hc100 : (if (1 : Int32) = (0 : Int32) then (1 : Int32) else (0 : Int32)) = (0 : Int32) := by decide
  refine go (S' := T99.setTop (mkF m 17 #[sr x1, si pi] [(.ref x1)])) (fun t k => XS.ifYes X99.here hx rfl (pc0 := 4) (pc' := 16) rfl (hb hby d12_4) rfl ((if0 _ _).trans (teq hc100).1) (by decide) (by decide) (XS.aloadN X99.here hx rfl (hb hby d12_16) rfl rfl k)) ?_
  obtain ⟨T101, X101, e101, st101⟩ := getF X99 hx hZ hown (host := "") (Or.inl (ww hw 20 rfl)) Via.refl e99 hV (g := (mkF m 17 #[sr x1, si pi] [(.ref x1)])) rfl rfl (hb hby d12_17)
  refine go (S' := T101.setTop (mkF m 21 #[sr x1, si pi] [(.int pi), (.ref t1)])) (fun t k => st101 _ (XS.iloadN X101.here hx rfl (hb hby d12_20) rfl k)) ?_
  obtain ⟨v102, T102, L102, X102, hQ102, st102⟩ := callSt X101 hx hZ (y := y_16) hown (ww hw 100 rfl) (ww hw 101 rfl) (ww hw 34 rfl) (ww hw 102 rfl) (by decide) (backOf (W := 0) (rmUch l Z a0 hw [] t1 pi kb cs i fm h0 n0 (Nat.le_trans Z0 K0.1) hix hi hl hpc hlc hA hfm hp5 hp8 hp9 hp10 O98) hZ (ww hw 102 rfl) (ww hw 34 rfl) (by decide) (by decide)) (g := (mkF m 21 #[sr x1, si pi] [(.int pi), (.ref t1)])) rfl (by rw [hml]; rfl) (kc := 0) (ks := 0) (argsL := [(.ref t1), (.int pi)]) (rest := []) (lenOf pd_5 rfl) rfl (mr0 rfl) (hb hby d12_21) e101 (by decide) (by decide)
  obtain ⟨rfl, N102q, e102⟩ := hQ102
  have N102 := Fr.app N99 N102q
  refine go (S' := T102.setTop (mkF m 24 #[sr x1, si pi] [(.int (cs.getD i 0))])) st102 ?_
  refine finN X102 hx hk (t := .char) hret (by simp) (hb hby d12_24) (by decide) (by decide) ?_
  rw [e102]
  exact ⟨(congrArg (fun z => some (Value.int z)) (oj_c16 (hpc _ (oj_mem hi)))), N102, rfl⟩
theorem d2_8 : decode jdk_42_method_149_code 8 = .ok (.aload_n 0, 1) := by decide +kernel
theorem d2_9 : decode jdk_42_method_149_code 9 = .ok (.ldc 7, 2) := by decide +kernel
theorem d2_11 : decode jdk_42_method_149_code 11 = .ok (.getfield 9, 3) := by decide +kernel
theorem d2_14 : decode jdk_42_method_149_code 14 = .ok (.putfield 9, 3) := by decide +kernel
theorem d2_17 : decode jdk_42_method_149_code 17 = .ok (.aload_n 0, 1) := by decide +kernel
theorem d2_18 : decode jdk_42_method_149_code 18 = .ok (.ldc 7, 2) := by decide +kernel
theorem d2_20 : decode jdk_42_method_149_code 20 = .ok (.getfield 15, 3) := by decide +kernel
theorem d2_23 : decode jdk_42_method_149_code 23 = .ok (.putfield 15, 3) := by decide +kernel
theorem d2_26 : decode jdk_42_method_149_code 26 = .ok (.return_, 1) := by decide +kernel
theorem ef_rmE4 (m : MethodId) (x1 : Addr) (b1 : Addr) : entryFrame m #[(.ref x1), (.ref b1), (.int 0), (.int 0), .null] 6 = mkF m 0 #[sr x1, sr b1, si 0, si 0, .val .null, .unset] [] := by first | (simp [entryFrame, mkF, argsToLocals, Value.category]; done) | rfl
def Q_rmE4 (Z : State) (x1 : Addr) (b1 : Addr) (h0 : Heap) (n0 : Nat) (v : Option Value) (h : Heap) (L : List Loc) : Prop := ∃ (t : Addr), v = none ∧ Fr n0 L ∧ Keep h0 h [x1] ∧ (Str Z h x1 t (0 : Int32) ([] : List Int32))
set_option maxRecDepth 65536 in
set_option maxHeartbeats 40000000 in
theorem rmE4 (l : Launch) (Z : State) (a0 : Array Value) (hw : ∀ d ∈ tables_1, d.before a0 Z = true) (ws : List Jvm.Cond) (x1 : Addr) (b1 : Addr) (h0 : Heap) (n0 : Nat) (Z0 : n0 ≤ h0.size) (hp0 : Exa Z h0 x1 "java/lang/String") (hp1 : Fld Z h0 x1 "java/lang/String" "value" "[B" .null) (hp2 : Fld Z h0 x1 "java/lang/String" "coder" "B" (.int 0)) (hp3 : n0 ≤ x1) (hp4 : Old Z n0 h0) :
    MetFree l y_8 (head1 (Jvm.Cond.code y_8 jdk_42_method_149_code 6 none :: ws) ({ frames := 1, cells := 4, slots := 8, locals := 12 } : Room)) (fun a U => a = #[(.ref x1), (.ref b1), (.int 0), (.int 0), .null] ∧ Z.Warmed39 U.vm ∧ U.heap = h0 ∧ CHv Z consts_1 U.vm h0 ∧ ∀ x ∈ ([] : List Addr), Safe Z consts_1 U.vm h0 x) (fun _ _ _ _ _ => True) (fun _ U o U' => ∃ v L, o = .returned v ∧ Q_rmE4 Z x1 b1 h0 n0 v U'.heap L ∧ CHr Z consts_1 U.vm U.heap U'.vm U'.heap ∧ ReturnedEndW U o U' L ({ frames := 1, cells := 4, slots := 8, locals := 12 } : Room).cells ({ frames := 1, cells := 4, slots := 8, locals := 12 } : Room).slots) := by
 refine bodyOfW pn_8 (fun m => ef_rmE4 m x1 b1) ?_
 intro p e s m below meth c T0 X0 hx hby hml hown hnm hret hk hZ e0 hS C0 hsf
 have hkS := Nat.le_refl h0.size
 have N0 := Fr.nil n0
 have K0 : Keep h0 h0 [x1] := Keep.refl _ _
 have O0 := hp4
 have sf103 : Safe Z consts_1 _ h0 x1 := safeBlank hZ.alike hp0 hp1
 refine go (S' := T0.setTop (mkF m 1 #[sr x1, sr b1, si 0, si 0, .val .null, .unset] [(.ref x1)])) (fun t k => XS.aloadN X0.here hx rfl (hb hby d2_0) rfl rfl k) ?_
 obtain ⟨T104, X104, e104, st104⟩ := initO X0 hx hZ hown (ww hw 11 rfl) (ww hw 12 rfl) (ww hw 13 rfl) e0 (g := (mkF m 1 #[sr x1, sr b1, si 0, si 0, .val .null, .unset] [(.ref x1)])) rfl (by rw [hml]; rfl) rfl (hb hby d2_1) (by decide) (W := 0) (mr0 rfl) (by decide)
 refine go (S' := T104.setTop (mkF m 5 #[sr x1, sr b1, si 0, si 0, .val .null, .unset] [(.int 0)])) (fun t k => st104 _ (XS.iloadN X104.here hx rfl (hb hby d2_4) rfl k)) ?_
 have hc105 : (0 : Int32) = (0 : Int32) := by decide
 refine go (S' := T104.setTop (mkF m 9 #[sr x1, sr b1, si 0, si 0, .val .null, .unset] [(.ref x1)])) (fun t k => XS.ifNo X104.here hx rfl (hb hby d2_5) rfl ((if0 _ _).trans (teq hc105).2) (XS.aloadN X104.here hx rfl (hb hby d2_8) rfl rfl k)) ?_
 obtain ⟨la106, T106, h106, k106, lb106, lk106, X106, e106, E106, hS, hkS, hZ, hown, lE106, lC106, lV106, lA106, la106_lt, lb106_lt, Cq106, lit106, lne106, st106⟩ := ldcCH X104 hx hZ hown (ww hw 14 rfl) (own_sub own_strAtoms hw) e104 hS hkS (own_EW hw) (by decide) C0.1 (vs := []) (z := (0 : Int32)) ⟨by decide, by decide⟩ (by decide) (by decide) (g := (mkF m 9 #[sr x1, sr b1, si 0, si 0, .val .null, .unset] [(.ref x1)])) rfl (hb hby d2_9) (n := 0) (by decide) (by decide) (by decide) (by decide)
 have K107 : Keep h0 h106 [x1] := K0.ext E106
 have C108 := C0.trans Cq106
 have sf109 := CHr.safe Cq106 hp0.lt sf103
 have ne_x1_la106 := (lne106 x1 sf109).1
 have ne_x1_lb106 := (lne106 x1 sf109).2
 have lstr106 : Str Z h106 la106 lb106 (0 : Int32) ([] : List Int32) := ⟨_, _, _, lE106, lV106, lC106, lA106, own_codOf rfl (by decide), by decide, Nat.le_of_ble_eq_true rfl⟩
 refine go (S' := T106.setTop (mkF m 11 #[sr x1, sr b1, si 0, si 0, .val .null, .unset] [(.ref la106), (.ref x1)])) st106 ?_
 obtain ⟨T110, X110, e110, st110⟩ := getF X106 hx hZ hown (host := "") (Or.inl (ww hw 20 rfl)) Via.refl e106 lstr106.val (g := (mkF m 11 #[sr x1, sr b1, si 0, si 0, .val .null, .unset] [(.ref la106), (.ref x1)])) rfl rfl (hb hby d2_11)
 refine go (S' := T110.setTop (mkF m 14 #[sr x1, sr b1, si 0, si 0, .val .null, .unset] [(.ref lb106), (.ref x1)])) st110 ?_
 have f111 : Fld Z h106 x1 "java/lang/String" "value" "[B" .null := (hp1.ext E106)
 obtain ⟨T112, h112, X112, e112, W112, st112⟩ := putF X110 hx hZ hown (host := "") (Or.inl (ww hw 20 rfl)) Via.refl e110 f111 (hp0.keep K107) (Or.inr ⟨(ww hw 16 rfl), rfl, hnm⟩) (ww hw 1 rfl) (ty := (.array .byte)) (by decide) rfl rfl (g := (mkF m 14 #[sr x1, sr b1, si 0, si 0, .val .null, .unset] [(.ref lb106), (.ref x1)])) rfl rfl (hb hby d2_14)
 have K113 : Keep h0 h112 [x1] := K107.wr W112 (Or.inl (List.mem_of_getElem? (i := 0) rfl))
 have N114 := Fr.snoc X112 N0 hp3
 have hkS := Nat.le_trans hkS (Keep.of_wr W112).1
 have C115 := C108.trans (CHr.wr W112 sf109 C108.1)
 have sf116 := Safe.wr W112 sf109 C108.1 sf109
 have f117 : Fld Z h112 x1 "java/lang/String" "value" "[B" (.ref lb106) := (Fld.same W112 f111)
 refine go (S' := T112.setTop (mkF m 18 #[sr x1, sr b1, si 0, si 0, .val .null, .unset] [(.ref x1)])) (fun t k => st112 _ (XS.aloadN X112.here hx rfl (hb hby d2_17) rfl rfl k)) ?_
 have f119 : Str Z h112 la106 lb106 (0 : Int32) ([] : List Int32) := (lstr106.wr W112 (Ne.symm ne_x1_la106) (Ne.symm ne_x1_lb106))
 obtain ⟨la118, T118, h118, k118, lb118, lk118, X118, e118, E118, hS, hkS, hZ, hown, lE118, lC118, lV118, lA118, la118_lt, lb118_lt, Cq118, lit118, lne118, st118⟩ := ldcCH X112 hx hZ hown (ww hw 14 rfl) (own_sub own_strAtoms hw) e112 hS hkS (own_EW hw) (by decide) C115.1 (vs := []) (z := (0 : Int32)) ⟨by decide, by decide⟩ (by decide) (by decide) (g := (mkF m 18 #[sr x1, sr b1, si 0, si 0, .val .null, .unset] [(.ref x1)])) rfl (hb hby d2_18) (n := 0) (by decide) (by decide) (by decide) (by decide)
 have K120 : Keep h0 h118 [x1] := K113.ext E118
 have C121 := C115.trans Cq118
 have sf122 := CHr.safe Cq118 (hp0.keep K113).lt sf116
 have ne_x1_la118 := (lne118 x1 sf122).1
 have ne_x1_lb118 := (lne118 x1 sf122).2
 have lstr118 : Str Z h118 la118 lb118 (0 : Int32) ([] : List Int32) := ⟨_, _, _, lE118, lV118, lC118, lA118, own_codOf rfl (by decide), by decide, Nat.le_of_ble_eq_true rfl⟩
 refine go (S' := T118.setTop (mkF m 20 #[sr x1, sr b1, si 0, si 0, .val .null, .unset] [(.ref la118), (.ref x1)])) st118 ?_
 obtain ⟨T123, X123, e123, st123⟩ := getF X118 hx hZ hown (host := "") (Or.inl (ww hw 21 rfl)) Via.refl e118 lstr118.cod (g := (mkF m 20 #[sr x1, sr b1, si 0, si 0, .val .null, .unset] [(.ref la118), (.ref x1)])) rfl rfl (hb hby d2_20)
 refine go (S' := T123.setTop (mkF m 23 #[sr x1, sr b1, si 0, si 0, .val .null, .unset] [(.int 0), (.ref x1)])) st123 ?_
 have f124 : Fld Z h118 x1 "java/lang/String" "coder" "B" (.int 0) := ((Fld.other W112 (hp2.ext E106) (Or.inr (slot_ne (Or.inr (ww hw 17 rfl)) (Or.inr (ww hw 16 rfl)) (by decide) (t := .byte) (t' := (.array .byte)) (by decide) (by decide)))).ext E118)
 obtain ⟨T125, h125, X125, e125, W125, st125⟩ := putF X123 hx hZ hown (host := "") (Or.inl (ww hw 21 rfl)) Via.refl e123 f124 (hp0.keep K120) (Or.inr ⟨(ww hw 17 rfl), rfl, hnm⟩) (ww hw 1 rfl) (ty := .byte) (by decide) (by decide) (by decide) (g := (mkF m 23 #[sr x1, sr b1, si 0, si 0, .val .null, .unset] [(.int 0), (.ref x1)])) rfl rfl (hb hby d2_23)
 have K126 : Keep h0 h125 [x1] := K120.wr W125 (Or.inl (List.mem_of_getElem? (i := 0) rfl))
 have N127 := Fr.snoc X125 N114 hp3
 have hkS := Nat.le_trans hkS (Keep.of_wr W125).1
 have C128 := C121.trans (CHr.wr W125 sf122 C121.1)
 have sf129 := Safe.wr W125 sf122 C121.1 sf122
 have f130 : Fld Z h125 x1 "java/lang/String" "coder" "B" (.int 0) := (Fld.same W125 f124)
 refine go (S' := T125.setTop (mkF m 26 #[sr x1, sr b1, si 0, si 0, .val .null, .unset] [])) st125 ?_
 refine finVW X125 hx hk hret hS hkS hZ (own_EW hw) C128 e125 (hb hby d2_26) (by decide) (by decide) ?_
 have f131 : Fld Z h125 x1 "java/lang/String" "value" "[B" (.ref lb106) := (Fld.other W125 (f117.ext E118) (Or.inr (slot_ne (Or.inr (ww hw 16 rfl)) (Or.inr (ww hw 17 rfl)) (by decide) (t := (.array .byte)) (t' := .byte) (by decide) (by decide))))
 have f132 : Str Z h125 la106 lb106 (0 : Int32) ([] : List Int32) := ((f119.ext E118).wr W125 (Ne.symm ne_x1_la106) (Ne.symm ne_x1_lb106))
 obtain ⟨kbz, N2z, vsz, -, -, -, qAz, qcdz, qbdz, qlz⟩ := id f132
 exact ⟨lb106, rfl, N127, K126, ⟨_, _, _, (hp0.keep K126), f131, f130, qAz, qcdz, qbdz, qlz⟩⟩
theorem ef_rmE1 (m : MethodId) (x1 : Addr) (b1 : Addr) : entryFrame m #[(.ref x1), (.ref b1)] 2 = mkF m 0 #[sr x1, sr b1] [] := by first | (simp [entryFrame, mkF, argsToLocals, Value.category]; done) | rfl
def Q_rmE1 (Z : State) (x1 : Addr) (b1 : Addr) (kC : ClassId) (vC : List Value) (dC : Value) (h0 : Heap) (n0 : Nat) (v : Option Value) (h : Heap) (L : List Loc) : Prop := ∃ (t : Addr), v = none ∧ Fr n0 L ∧ Keep h0 h [x1] ∧ (Str Z h x1 t (0 : Int32) ([] : List Int32))
set_option maxRecDepth 65536 in
set_option maxHeartbeats 40000000 in
theorem rmE1 (l : Launch) (Z : State) (a0 : Array Value) (hw : ∀ d ∈ tables_1, d.before a0 Z = true) (ws : List Jvm.Cond) (x1 : Addr) (b1 : Addr) (kC : ClassId) (vC : List Value) (dC : Value) (h0 : Heap) (n0 : Nat) (Z0 : n0 ≤ h0.size) (hp0 : Exa Z h0 x1 "java/lang/String") (hp1 : Fld Z h0 x1 "java/lang/String" "value" "[B" .null) (hp2 : Fld Z h0 x1 "java/lang/String" "coder" "B" (.int 0)) (hp3 : n0 ≤ x1) (hp4 : Arv Z h0 b1 kC .char (0 : Int32) vC dC) (hp5 : Old Z n0 h0) :
    MetFree l y_9 (head1 (Jvm.Cond.code y_9 jdk_42_method_3_code 2 none :: ws) ({ frames := 2, cells := 4, slots := 8, locals := 29 } : Room)) (fun a U => a = #[(.ref x1), (.ref b1)] ∧ Z.Warmed39 U.vm ∧ U.heap = h0 ∧ CHv Z consts_1 U.vm h0 ∧ ∀ x ∈ ([] : List Addr), Safe Z consts_1 U.vm h0 x) (fun _ _ _ _ _ => True) (fun _ U o U' => ∃ v L, o = .returned v ∧ Q_rmE1 Z x1 b1 kC vC dC h0 n0 v U'.heap L ∧ CHr Z consts_1 U.vm U.heap U'.vm U'.heap ∧ ReturnedEndW U o U' L ({ frames := 2, cells := 4, slots := 8, locals := 29 } : Room).cells ({ frames := 2, cells := 4, slots := 8, locals := 29 } : Room).slots) := by
 refine bodyOfW pn_9 (fun m => ef_rmE1 m x1 b1) ?_
 intro p e s m below meth c T0 X0 hx hby hml hown hnm hret hk hZ e0 hS C0 hsf
 have hkS := Nat.le_refl h0.size
 have N0 := Fr.nil n0
 have K0 : Keep h0 h0 [x1] := Keep.refl _ _
 have O0 := hp5
 have sf133 : Safe Z consts_1 _ h0 x1 := safeBlank hZ.alike hp0 hp1
 refine go (S' := T0.setTop (mkF m 4 #[sr x1, sr b1] [(.ref b1), (.int 0), (.ref b1), (.ref x1)])) (fun t k => XS.aloadN X0.here hx rfl (hb hby d1_0) rfl rfl (XS.aloadN X0.here hx rfl (hb hby d1_1) rfl rfl (XS.iconst X0.here hx rfl (hb hby d1_2) (XS.aloadN X0.here hx rfl (hb hby d1_3) rfl rfl k)))) ?_
 obtain ⟨cl134, Ar134, -, S134, M134, -, -⟩ := id hp4
 refine go (S' := T0.setTop (mkF m 6 #[sr x1, sr b1] [.null, (.int 0), (.int 0), (.ref b1), (.ref x1)])) (fun t k => X0.arraylength hx (by rw [e0]; exact Ar134.1) (State.isArrayOf_alike hZ.alike Ar134.2.1) (g := (mkF m 4 #[sr x1, sr b1] [(.ref b1), (.int 0), (.ref b1), (.ref x1)])) rfl rfl (hb hby d1_4) _ (by rw [len_of S134 M134]; exact (XS.aconstNull X0.here hx rfl (hb hby d1_5) k))) ?_
 have O135 : Old Z n0 h0 := O0.keep K0 (allS hp3 all0)
 obtain ⟨v136, T136, L136, X136, hQ136, hS, hZ, hown, Cq136, st136⟩ := callSpW X0 hx hZ (y := y_8) rfl hown (ww hw 7 rfl) (ww hw 8 rfl) (ww hw 10 rfl) (by decide) (backW (W := 0) (rmE4 l Z a0 hw [] x1 b1 h0 n0 (Nat.le_trans Z0 K0.1) hp0 hp1 hp2 hp3 O135) hZ (ww hw 10 rfl) (ww hw 2 rfl) (by decide) (by decide) (own_EW hw) C0.1 all0) (g := (mkF m 6 #[sr x1, sr b1] [.null, (.int 0), (.int 0), (.ref b1), (.ref x1)])) rfl (by rw [hml]; rfl) (a := x1) (kc := 4) (ks := 8) (argsL := [(.ref b1), (.int 0), (.int 0), .null]) (rest := []) (lenOf pd_7 rfl) rfl (mr0 rfl) (hb hby d1_6) e0 (by decide) (by decide) hS hkS
 obtain ⟨t_136, rfl, N136q, Kq136, q136_0⟩ := hQ136
 have N136 := Fr.app N0 N136q
 have hkS := Nat.le_refl T136.heap.size
 have C137 := C0.trans Cq136
 have sf138 := CHr.safe Cq136 hp0.lt sf133
 have K139 : Keep h0 T136.heap [x1] := K0.trans Kq136 (allS (P := fun x => x ∈ [x1] ∨ h0.size ≤ x) (Or.inl (List.mem_of_getElem? (i := 0) rfl)) all0)
 refine go (S' := T136.setTop (mkF m 9 #[sr x1, sr b1] [])) st136 ?_
 refine finVW X136 hx hk hret hS hkS hZ (own_EW hw) C137 rfl (hb hby d1_9) (by decide) (by decide) ?_
 exact ⟨t_136, rfl, N136, K139, q136_0⟩
theorem d9_0 : decode method_2_code 0 = .ok (.iload_n 0, 1) := by decide +kernel
theorem d9_1 : decode method_2_code 1 = .ok (.bipush 97, 2) := by decide +kernel
theorem d9_3 : decode method_2_code 3 = .ok (.if_icmp .lt 13, 3) := by decide +kernel
theorem d9_16 : decode method_2_code 16 = .ok (.iconst 0, 1) := by decide +kernel
theorem d9_17 : decode method_2_code 17 = .ok (.ireturn, 1) := by decide +kernel
theorem d9_6 : decode method_2_code 6 = .ok (.iload_n 0, 1) := by decide +kernel
theorem d9_7 : decode method_2_code 7 = .ok (.bipush 122, 2) := by decide +kernel
theorem d9_9 : decode method_2_code 9 = .ok (.if_icmp .gt 7, 3) := by decide +kernel
theorem d9_12 : decode method_2_code 12 = .ok (.iconst 1, 1) := by decide +kernel
theorem d9_13 : decode method_2_code 13 = .ok (.goto 4, 3) := by decide +kernel
abbrev y_18 : MethodName := ⟨"castworks/NamesIsValidPinLaw", "letter", "(C)Z"⟩
theorem pn_18 : plainFor y_18 = true := by first | exact plainFor_of_name (by first | (simp [plainName, overriddenIn]; done) | decide +kernel) | decide +kernel
theorem ef_rmLet (m : MethodId) (p1 : Int32) : entryFrame m #[(.int p1)] 1 = mkF m 0 #[si p1] [] := by first | (simp [entryFrame, mkF, argsToLocals, Value.category]; done) | rfl
def Q_rmLet (Z : State) (p1 : Int32) (h0 : Heap) (n0 : Nat) (v : Option Value) (h : Heap) (L : List Loc) : Prop := v = some (.int (own_let p1)) ∧ Fr n0 L ∧ h = h0
set_option maxRecDepth 65536 in
set_option maxHeartbeats 40000000 in
theorem rmLet (l : Launch) (Z : State) (a0 : Array Value) (hw : ∀ d ∈ tables_1, d.before a0 Z = true) (ws : List Jvm.Cond) (p1 : Int32) (h0 : Heap) (n0 : Nat) (Z0 : n0 ≤ h0.size)  :
    MetFree l y_18 (head1 (Jvm.Cond.code y_18 method_2_code 1 (some .boolean) :: ws) ({ frames := 0, cells := 0, slots := 0, locals := 0 } : Room)) (fun a U => a = #[(.int p1)] ∧ Z.Warmed39 U.vm ∧ U.heap = h0) (fun _ _ _ _ _ => True) (fun _ U o U' => ∃ v L, o = .returned v ∧ Q_rmLet Z p1 h0 n0 v U'.heap L ∧ FrameEnd U o U' L ({ frames := 0, cells := 0, slots := 0, locals := 0 } : Room).cells ({ frames := 0, cells := 0, slots := 0, locals := 0 } : Room).slots) := by
 refine bodyOf pn_18 (fun m => ef_rmLet m p1) ?_
 intro p e s m below meth c T0 X0 hx hby hml hown hnm hret hk hZ e0
 have N0 := Fr.nil n0
 have K0 : Keep h0 h0 [] := Keep.refl _ _
 refine go (S' := T0.setTop (mkF m 3 #[si p1] [(.int 97), (.int p1)])) (fun t k => XS.iloadN X0.here hx rfl (hb hby d9_0) rfl (XS.bipush X0.here hx rfl (hb hby d9_1) k)) ?_
 by_cases hc140 : p1 < (97 : Int32)
 ·
  refine go (S' := T0.setTop (mkF m 17 #[si p1] [(.int 0)])) (fun t k => XS.icmpYes X0.here hx rfl (pc0 := 3) (pc' := 16) rfl (hb hby d9_3) rfl (tlt hc140).1 (by decide) (by decide) (XS.iconst X0.here hx rfl (hb hby d9_16) k)) ?_
  refine finN X0 hx hk (t := .boolean) hret (by simp) (hb hby d9_17) (by decide) (by decide) ?_
  rw [e0]
  exact ⟨(by rw [own_let, if_pos hc140]; rfl), N0, rfl⟩
 ·
  refine go (S' := T0.setTop (mkF m 9 #[si p1] [(.int 122), (.int p1)])) (fun t k => XS.icmpNo X0.here hx rfl (hb hby d9_3) rfl (flt hc140).1 (XS.iloadN X0.here hx rfl (hb hby d9_6) rfl (XS.bipush X0.here hx rfl (hb hby d9_7) k))) ?_
  by_cases hc141 : (122 : Int32) < p1
  ·
   refine go (S' := T0.setTop (mkF m 17 #[si p1] [(.int 0)])) (fun t k => XS.icmpYes X0.here hx rfl (pc0 := 9) (pc' := 16) rfl (hb hby d9_9) rfl (tlt hc141).2.2.1 (by decide) (by decide) (XS.iconst X0.here hx rfl (hb hby d9_16) k)) ?_
   refine finN X0 hx hk (t := .boolean) hret (by simp) (hb hby d9_17) (by decide) (by decide) ?_
   rw [e0]
   exact ⟨(by rw [own_let, if_neg hc140, if_pos hc141]; rfl), N0, rfl⟩
  ·
   refine go (S' := T0.setTop (mkF m 17 #[si p1] [(.int 1)])) (fun t k => XS.icmpNo X0.here hx rfl (hb hby d9_9) rfl (flt hc141).2.2.1 (XS.iconst X0.here hx rfl (hb hby d9_12) (XS.goto X0.here hx rfl (pc0 := 13) (pc' := 17) rfl (hb hby d9_13) (by decide) (by decide) k))) ?_
   refine finN X0 hx hk (t := .boolean) hret (by simp) (hb hby d9_17) (by decide) (by decide) ?_
   rw [e0]
   exact ⟨(by rw [own_let, if_neg hc140, if_neg hc141]; rfl), N0, rfl⟩
theorem d17_0 : decode prog_25_method_3_code 0 = .ok (.iload_n 0, 1) := by decide +kernel
theorem d17_1 : decode prog_25_method_3_code 1 = .ok (.bipush 97, 2) := by decide +kernel
theorem d17_3 : decode prog_25_method_3_code 3 = .ok (.if_icmp .lt 13, 3) := by decide +kernel
theorem d17_16 : decode prog_25_method_3_code 16 = .ok (.iconst 0, 1) := by decide +kernel
theorem d17_17 : decode prog_25_method_3_code 17 = .ok (.ireturn, 1) := by decide +kernel
theorem d17_6 : decode prog_25_method_3_code 6 = .ok (.iload_n 0, 1) := by decide +kernel
theorem d17_7 : decode prog_25_method_3_code 7 = .ok (.bipush 122, 2) := by decide +kernel
theorem d17_9 : decode prog_25_method_3_code 9 = .ok (.if_icmp .gt 7, 3) := by decide +kernel
theorem d17_12 : decode prog_25_method_3_code 12 = .ok (.iconst 1, 1) := by decide +kernel
theorem d17_13 : decode prog_25_method_3_code 13 = .ok (.goto 4, 3) := by decide +kernel
abbrev y_19 : MethodName := ⟨"castworks/Names", "isLetter", "(C)Z"⟩
theorem pn_19 : plainFor y_19 = true := by first | exact plainFor_of_name (by first | (simp [plainName, overriddenIn]; done) | decide +kernel) | decide +kernel
theorem ef_rmLtr (m : MethodId) (p1 : Int32) : entryFrame m #[(.int p1)] 1 = mkF m 0 #[si p1] [] := by first | (simp [entryFrame, mkF, argsToLocals, Value.category]; done) | rfl
def Q_rmLtr (Z : State) (p1 : Int32) (h0 : Heap) (n0 : Nat) (v : Option Value) (h : Heap) (L : List Loc) : Prop := v = some (.int (own_let p1)) ∧ Fr n0 L ∧ h = h0
set_option maxRecDepth 65536 in
set_option maxHeartbeats 40000000 in
theorem rmLtr (l : Launch) (Z : State) (a0 : Array Value) (hw : ∀ d ∈ tables_1, d.before a0 Z = true) (ws : List Jvm.Cond) (p1 : Int32) (h0 : Heap) (n0 : Nat) (Z0 : n0 ≤ h0.size)  :
    MetFree l y_19 (head1 (Jvm.Cond.code y_19 prog_25_method_3_code 1 (some .boolean) :: ws) ({ frames := 0, cells := 0, slots := 0, locals := 0 } : Room)) (fun a U => a = #[(.int p1)] ∧ Z.Warmed39 U.vm ∧ U.heap = h0) (fun _ _ _ _ _ => True) (fun _ U o U' => ∃ v L, o = .returned v ∧ Q_rmLtr Z p1 h0 n0 v U'.heap L ∧ FrameEnd U o U' L ({ frames := 0, cells := 0, slots := 0, locals := 0 } : Room).cells ({ frames := 0, cells := 0, slots := 0, locals := 0 } : Room).slots) := by
 refine bodyOf pn_19 (fun m => ef_rmLtr m p1) ?_
 intro p e s m below meth c T0 X0 hx hby hml hown hnm hret hk hZ e0
 have N0 := Fr.nil n0
 have K0 : Keep h0 h0 [] := Keep.refl _ _
 refine go (S' := T0.setTop (mkF m 3 #[si p1] [(.int 97), (.int p1)])) (fun t k => XS.iloadN X0.here hx rfl (hb hby d17_0) rfl (XS.bipush X0.here hx rfl (hb hby d17_1) k)) ?_
 by_cases hc142 : p1 < (97 : Int32)
 ·
  refine go (S' := T0.setTop (mkF m 17 #[si p1] [(.int 0)])) (fun t k => XS.icmpYes X0.here hx rfl (pc0 := 3) (pc' := 16) rfl (hb hby d17_3) rfl (tlt hc142).1 (by decide) (by decide) (XS.iconst X0.here hx rfl (hb hby d17_16) k)) ?_
  refine finN X0 hx hk (t := .boolean) hret (by simp) (hb hby d17_17) (by decide) (by decide) ?_
  rw [e0]
  exact ⟨(by rw [own_let, if_pos hc142]; rfl), N0, rfl⟩
 ·
  refine go (S' := T0.setTop (mkF m 9 #[si p1] [(.int 122), (.int p1)])) (fun t k => XS.icmpNo X0.here hx rfl (hb hby d17_3) rfl (flt hc142).1 (XS.iloadN X0.here hx rfl (hb hby d17_6) rfl (XS.bipush X0.here hx rfl (hb hby d17_7) k))) ?_
  by_cases hc143 : (122 : Int32) < p1
  ·
   refine go (S' := T0.setTop (mkF m 17 #[si p1] [(.int 0)])) (fun t k => XS.icmpYes X0.here hx rfl (pc0 := 9) (pc' := 16) rfl (hb hby d17_9) rfl (tlt hc143).2.2.1 (by decide) (by decide) (XS.iconst X0.here hx rfl (hb hby d17_16) k)) ?_
   refine finN X0 hx hk (t := .boolean) hret (by simp) (hb hby d17_17) (by decide) (by decide) ?_
   rw [e0]
   exact ⟨(by rw [own_let, if_neg hc142, if_pos hc143]; rfl), N0, rfl⟩
  ·
   refine go (S' := T0.setTop (mkF m 17 #[si p1] [(.int 1)])) (fun t k => XS.icmpNo X0.here hx rfl (hb hby d17_9) rfl (flt hc143).2.2.1 (XS.iconst X0.here hx rfl (hb hby d17_12) (XS.goto X0.here hx rfl (pc0 := 13) (pc' := 17) rfl (hb hby d17_13) (by decide) (by decide) k))) ?_
   refine finN X0 hx hk (t := .boolean) hret (by simp) (hb hby d17_17) (by decide) (by decide) ?_
   rw [e0]
   exact ⟨(by rw [own_let, if_neg hc142, if_neg hc143]; rfl), N0, rfl⟩
theorem d26_0 : decode method_3_code 0 = .ok (.iload_n 0, 1) := by decide +kernel
theorem d26_1 : decode method_3_code 1 = .ok (.invokestatic 7, 3) := by decide +kernel
theorem pd_13 : parseMethodDescriptor "(C)Z" = some ⟨[.char], some .boolean⟩ := by decide +kernel
theorem d26_4 : decode method_3_code 4 = .ok (.ifCond .ne 21, 3) := by decide +kernel
theorem d26_7 : decode method_3_code 7 = .ok (.iload_n 0, 1) := by decide +kernel
theorem d26_8 : decode method_3_code 8 = .ok (.bipush 48, 2) := by decide +kernel
theorem d26_10 : decode method_3_code 10 = .ok (.if_icmp .lt 9, 3) := by decide +kernel
theorem d26_19 : decode method_3_code 19 = .ok (.iload_n 0, 1) := by decide +kernel
theorem d26_20 : decode method_3_code 20 = .ok (.bipush 45, 2) := by decide +kernel
theorem d26_22 : decode method_3_code 22 = .ok (.if_icmp .ne 7, 3) := by decide +kernel
theorem d26_25 : decode method_3_code 25 = .ok (.iconst 1, 1) := by decide +kernel
theorem d26_26 : decode method_3_code 26 = .ok (.goto 4, 3) := by decide +kernel
theorem d26_30 : decode method_3_code 30 = .ok (.ireturn, 1) := by decide +kernel
theorem d26_29 : decode method_3_code 29 = .ok (.iconst 0, 1) := by decide +kernel
theorem d26_13 : decode method_3_code 13 = .ok (.iload_n 0, 1) := by decide +kernel
theorem d26_14 : decode method_3_code 14 = .ok (.bipush 57, 2) := by decide +kernel
theorem d26_16 : decode method_3_code 16 = .ok (.if_icmp .le 9, 3) := by decide +kernel
abbrev y_20 : MethodName := ⟨"castworks/NamesIsValidPinLaw", "part", "(C)Z"⟩
theorem pn_20 : plainFor y_20 = true := by first | exact plainFor_of_name (by first | (simp [plainName, overriddenIn]; done) | decide +kernel) | decide +kernel
theorem ef_rmPar (m : MethodId) (p1 : Int32) : entryFrame m #[(.int p1)] 1 = mkF m 0 #[si p1] [] := by first | (simp [entryFrame, mkF, argsToLocals, Value.category]; done) | rfl
def Q_rmPar (Z : State) (p1 : Int32) (h0 : Heap) (n0 : Nat) (v : Option Value) (h : Heap) (L : List Loc) : Prop := v = some (.int (own_par p1)) ∧ Fr n0 L ∧ h = h0
set_option maxRecDepth 65536 in
set_option maxHeartbeats 40000000 in
theorem rmPar (l : Launch) (Z : State) (a0 : Array Value) (hw : ∀ d ∈ tables_1, d.before a0 Z = true) (ws : List Jvm.Cond) (p1 : Int32) (h0 : Heap) (n0 : Nat) (Z0 : n0 ≤ h0.size)  :
    MetFree l y_20 (head1 (Jvm.Cond.code y_20 method_3_code 1 (some .boolean) :: ws) ({ frames := 1, cells := 0, slots := 0, locals := 12 } : Room)) (fun a U => a = #[(.int p1)] ∧ Z.Warmed39 U.vm ∧ U.heap = h0) (fun _ _ _ _ _ => True) (fun _ U o U' => ∃ v L, o = .returned v ∧ Q_rmPar Z p1 h0 n0 v U'.heap L ∧ FrameEnd U o U' L ({ frames := 1, cells := 0, slots := 0, locals := 12 } : Room).cells ({ frames := 1, cells := 0, slots := 0, locals := 12 } : Room).slots) := by
 refine bodyOf pn_20 (fun m => ef_rmPar m p1) ?_
 intro p e s m below meth c T0 X0 hx hby hml hown hnm hret hk hZ e0
 have N0 := Fr.nil n0
 have K0 : Keep h0 h0 [] := Keep.refl _ _
 refine go (S' := T0.setTop (mkF m 1 #[si p1] [(.int p1)])) (fun t k => XS.iloadN X0.here hx rfl (hb hby d26_0) rfl k) ?_
 obtain ⟨v144, T144, L144, X144, hQ144, st144⟩ := callSt X0 hx hZ (y := y_18) hown (ww hw 42 rfl) (ww hw 43 rfl) (ww hw 44 rfl) (ww hw 45 rfl) (by decide) (backOf (W := 0) (rmLet l Z a0 hw [] p1 h0 n0 (Nat.le_trans Z0 K0.1) ) hZ (ww hw 45 rfl) (ww hw 44 rfl) (by decide) (by decide)) (g := (mkF m 1 #[si p1] [(.int p1)])) rfl (by rw [hml]; rfl) (kc := 0) (ks := 0) (argsL := [(.int p1)]) (rest := []) (lenOf pd_13 rfl) rfl (mr0 rfl) (hb hby d26_1) e0 (by decide) (by decide)
 obtain ⟨rfl, N144q, e144⟩ := hQ144
 have N144 := Fr.app N0 N144q
 refine go (S' := T144.setTop (mkF m 4 #[si p1] [(.int (own_let p1))])) st144 ?_
 by_cases hc145 : (own_let p1) = (0 : Int32)
 ·
  refine go (S' := T144.setTop (mkF m 10 #[si p1] [(.int 48), (.int p1)])) (fun t k => XS.ifNo X144.here hx rfl (hb hby d26_4) rfl ((if0 _ _).trans (teq hc145).2) (XS.iloadN X144.here hx rfl (hb hby d26_7) rfl (XS.bipush X144.here hx rfl (hb hby d26_8) k))) ?_
  by_cases hc146 : p1 < (48 : Int32)
  ·
   refine go (S' := T144.setTop (mkF m 22 #[si p1] [(.int 45), (.int p1)])) (fun t k => XS.icmpYes X144.here hx rfl (pc0 := 10) (pc' := 19) rfl (hb hby d26_10) rfl (tlt hc146).1 (by decide) (by decide) (XS.iloadN X144.here hx rfl (hb hby d26_19) rfl (XS.bipush X144.here hx rfl (hb hby d26_20) k))) ?_
   by_cases hc147 : p1 = (45 : Int32)
   ·
    refine go (S' := T144.setTop (mkF m 30 #[si p1] [(.int 1)])) (fun t k => XS.icmpNo X144.here hx rfl (hb hby d26_22) rfl (teq hc147).2 (XS.iconst X144.here hx rfl (hb hby d26_25) (XS.goto X144.here hx rfl (pc0 := 26) (pc' := 30) rfl (hb hby d26_26) (by decide) (by decide) k))) ?_
    refine finN X144 hx hk (t := .boolean) hret (by simp) (hb hby d26_30) (by decide) (by decide) ?_
    rw [e144]
    exact ⟨(by rw [own_par, if_pos hc145, if_pos hc146, if_pos hc147]; rfl), N144, rfl⟩
   ·
    refine go (S' := T144.setTop (mkF m 30 #[si p1] [(.int 0)])) (fun t k => XS.icmpYes X144.here hx rfl (pc0 := 22) (pc' := 29) rfl (hb hby d26_22) rfl (feq hc147).2 (by decide) (by decide) (XS.iconst X144.here hx rfl (hb hby d26_29) k)) ?_
    refine finN X144 hx hk (t := .boolean) hret (by simp) (hb hby d26_30) (by decide) (by decide) ?_
    rw [e144]
    exact ⟨(by rw [own_par, if_pos hc145, if_pos hc146, if_neg hc147]; rfl), N144, rfl⟩
  ·
   refine go (S' := T144.setTop (mkF m 16 #[si p1] [(.int 57), (.int p1)])) (fun t k => XS.icmpNo X144.here hx rfl (hb hby d26_10) rfl (flt hc146).1 (XS.iloadN X144.here hx rfl (hb hby d26_13) rfl (XS.bipush X144.here hx rfl (hb hby d26_14) k))) ?_
   by_cases hc148 : (57 : Int32) < p1
   ·
    refine go (S' := T144.setTop (mkF m 22 #[si p1] [(.int 45), (.int p1)])) (fun t k => XS.icmpNo X144.here hx rfl (hb hby d26_16) rfl (tlt hc148).2.2.2 (XS.iloadN X144.here hx rfl (hb hby d26_19) rfl (XS.bipush X144.here hx rfl (hb hby d26_20) k))) ?_
    by_cases hc149 : p1 = (45 : Int32)
    ·
     refine go (S' := T144.setTop (mkF m 30 #[si p1] [(.int 1)])) (fun t k => XS.icmpNo X144.here hx rfl (hb hby d26_22) rfl (teq hc149).2 (XS.iconst X144.here hx rfl (hb hby d26_25) (XS.goto X144.here hx rfl (pc0 := 26) (pc' := 30) rfl (hb hby d26_26) (by decide) (by decide) k))) ?_
     refine finN X144 hx hk (t := .boolean) hret (by simp) (hb hby d26_30) (by decide) (by decide) ?_
     rw [e144]
     exact ⟨(by rw [own_par, if_pos hc145, if_neg hc146, if_pos hc148, if_pos hc149]; rfl), N144, rfl⟩
    ·
     refine go (S' := T144.setTop (mkF m 30 #[si p1] [(.int 0)])) (fun t k => XS.icmpYes X144.here hx rfl (pc0 := 22) (pc' := 29) rfl (hb hby d26_22) rfl (feq hc149).2 (by decide) (by decide) (XS.iconst X144.here hx rfl (hb hby d26_29) k)) ?_
     refine finN X144 hx hk (t := .boolean) hret (by simp) (hb hby d26_30) (by decide) (by decide) ?_
     rw [e144]
     exact ⟨(by rw [own_par, if_pos hc145, if_neg hc146, if_pos hc148, if_neg hc149]; rfl), N144, rfl⟩
   ·
    refine go (S' := T144.setTop (mkF m 30 #[si p1] [(.int 1)])) (fun t k => XS.icmpYes X144.here hx rfl (pc0 := 16) (pc' := 25) rfl (hb hby d26_16) rfl (flt hc148).2.2.2 (by decide) (by decide) (XS.iconst X144.here hx rfl (hb hby d26_25) (XS.goto X144.here hx rfl (pc0 := 26) (pc' := 30) rfl (hb hby d26_26) (by decide) (by decide) k))) ?_
    refine finN X144 hx hk (t := .boolean) hret (by simp) (hb hby d26_30) (by decide) (by decide) ?_
    rw [e144]
    exact ⟨(by rw [own_par, if_pos hc145, if_neg hc146, if_neg hc148]; rfl), N144, rfl⟩
 ·
  refine go (S' := T144.setTop (mkF m 30 #[si p1] [(.int 1)])) (fun t k => XS.ifYes X144.here hx rfl (pc0 := 4) (pc' := 25) rfl (hb hby d26_4) rfl ((if0 _ _).trans (feq hc145).2) (by decide) (by decide) (XS.iconst X144.here hx rfl (hb hby d26_25) (XS.goto X144.here hx rfl (pc0 := 26) (pc' := 30) rfl (hb hby d26_26) (by decide) (by decide) k))) ?_
  refine finN X144 hx hk (t := .boolean) hret (by simp) (hb hby d26_30) (by decide) (by decide) ?_
  rw [e144]
  exact ⟨(by rw [own_par, if_neg hc145]; rfl), N144, rfl⟩
theorem d4_0 : decode prog_25_method_2_code 0 = .ok (.aload_n 0, 1) := by decide +kernel
theorem d4_1 : decode prog_25_method_2_code 1 = .ok (.ifnull 30, 3) := by decide +kernel
theorem d4_31 : decode prog_25_method_2_code 31 = .ok (.iconst 0, 1) := by decide +kernel
theorem d4_32 : decode prog_25_method_2_code 32 = .ok (.ireturn, 1) := by decide +kernel
abbrev y_21 : MethodName := ⟨"castworks/Names", "isValid", "(Ljava/lang/String;)Z"⟩
theorem pn_21 : plainFor y_21 = true := by first | exact plainFor_of_name (by first | (simp [plainName, overriddenIn]; done) | decide +kernel) | decide +kernel
theorem ef_rmVn (m : MethodId)  : entryFrame m #[.null] 3 = mkF m 0 #[.val .null, .unset, .unset] [] := by first | (simp [entryFrame, mkF, argsToLocals, Value.category]; done) | rfl
def Q_rmVn (Z : State)  (h0 : Heap) (n0 : Nat) (v : Option Value) (h : Heap) (L : List Loc) : Prop := v = some (.int 0) ∧ Fr n0 L ∧ h = h0
set_option maxRecDepth 65536 in
set_option maxHeartbeats 40000000 in
theorem rmVn (l : Launch) (Z : State) (a0 : Array Value) (hw : ∀ d ∈ tables_1, d.before a0 Z = true) (ws : List Jvm.Cond)  (h0 : Heap) (n0 : Nat) (Z0 : n0 ≤ h0.size)  :
    MetFree l y_21 (head1 (Jvm.Cond.code y_21 prog_25_method_2_code 3 (some .boolean) :: ws) ({ frames := 0, cells := 0, slots := 0, locals := 0 } : Room)) (fun a U => a = #[.null] ∧ Z.Warmed39 U.vm ∧ U.heap = h0) (fun _ _ _ _ _ => True) (fun _ U o U' => ∃ v L, o = .returned v ∧ Q_rmVn Z  h0 n0 v U'.heap L ∧ FrameEnd U o U' L ({ frames := 0, cells := 0, slots := 0, locals := 0 } : Room).cells ({ frames := 0, cells := 0, slots := 0, locals := 0 } : Room).slots) := by
 refine bodyOf pn_21 (fun m => ef_rmVn m ) ?_
 intro p e s m below meth c T0 X0 hx hby hml hown hnm hret hk hZ e0
 have N0 := Fr.nil n0
 have K0 : Keep h0 h0 [] := Keep.refl _ _
 refine go (S' := T0.setTop (mkF m 32 #[.val .null, .unset, .unset] [(.int 0)])) (fun t k => XS.aloadN X0.here hx rfl (hb hby d4_0) rfl rfl (XS.ifnullYes X0.here hx rfl (pc0 := 1) (pc' := 31) rfl (hb hby d4_1) rfl (by decide) (by decide) (XS.iconst X0.here hx rfl (hb hby d4_31) k))) ?_
 refine finN X0 hx hk (t := .boolean) hret (by simp) (hb hby d4_32) (by decide) (by decide) ?_
 rw [e0]
 exact ⟨rfl, N0, rfl⟩
theorem d4_4 : decode prog_25_method_2_code 4 = .ok (.aload_n 0, 1) := by decide +kernel
theorem d4_5 : decode prog_25_method_2_code 5 = .ok (.invokevirtual 7, 3) := by decide +kernel
abbrev y_22 : MethodName := ⟨"java/lang/String", "isEmpty", "()Z"⟩
theorem d4_8 : decode prog_25_method_2_code 8 = .ok (.ifCond .ne 23, 3) := by decide +kernel
theorem d4_11 : decode prog_25_method_2_code 11 = .ok (.aload_n 0, 1) := by decide +kernel
theorem d4_12 : decode prog_25_method_2_code 12 = .ok (.invokevirtual 13, 3) := by decide +kernel
theorem pd_14 : parseMethodDescriptor "()I" = some ⟨[], some .int⟩ := by decide +kernel
abbrev y_23 : MethodName := ⟨"java/lang/String", "length", "()I"⟩
theorem d4_15 : decode prog_25_method_2_code 15 = .ok (.bipush 64, 2) := by decide +kernel
theorem d4_17 : decode prog_25_method_2_code 17 = .ok (.if_icmp .gt 14, 3) := by decide +kernel
theorem d4_20 : decode prog_25_method_2_code 20 = .ok (.aload_n 0, 1) := by decide +kernel
theorem d4_21 : decode prog_25_method_2_code 21 = .ok (.iconst 0, 1) := by decide +kernel
theorem d4_22 : decode prog_25_method_2_code 22 = .ok (.invokevirtual 19, 3) := by decide +kernel
theorem pd_15 : parseMethodDescriptor "(I)C" = some ⟨[.int], some .char⟩ := by decide +kernel
theorem d4_25 : decode prog_25_method_2_code 25 = .ok (.invokestatic 23, 3) := by decide +kernel
theorem d4_28 : decode prog_25_method_2_code 28 = .ok (.ifCond .ne 5, 3) := by decide +kernel
theorem d4_33 : decode prog_25_method_2_code 33 = .ok (.iconst 1, 1) := by decide +kernel
theorem d4_34 : decode prog_25_method_2_code 34 = .ok (.istore_n 1, 1) := by decide +kernel
theorem d4_35 : decode prog_25_method_2_code 35 = .ok (.iload_n 1, 1) := by decide +kernel
theorem d4_36 : decode prog_25_method_2_code 36 = .ok (.aload_n 0, 1) := by decide +kernel
theorem d4_37 : decode prog_25_method_2_code 37 = .ok (.invokevirtual 13, 3) := by decide +kernel
theorem d4_40 : decode prog_25_method_2_code 40 = .ok (.if_icmp .ge 42, 3) := by decide +kernel
theorem d4_82 : decode prog_25_method_2_code 82 = .ok (.iconst 1, 1) := by decide +kernel
theorem d4_83 : decode prog_25_method_2_code 83 = .ok (.ireturn, 1) := by decide +kernel
theorem d4_43 : decode prog_25_method_2_code 43 = .ok (.aload_n 0, 1) := by decide +kernel
theorem d4_44 : decode prog_25_method_2_code 44 = .ok (.iload_n 1, 1) := by decide +kernel
theorem d4_45 : decode prog_25_method_2_code 45 = .ok (.invokevirtual 19, 3) := by decide +kernel
theorem d4_48 : decode prog_25_method_2_code 48 = .ok (.istore_n 2, 1) := by decide +kernel
theorem d4_49 : decode prog_25_method_2_code 49 = .ok (.iload_n 2, 1) := by decide +kernel
theorem d4_50 : decode prog_25_method_2_code 50 = .ok (.invokestatic 23, 3) := by decide +kernel
theorem d4_53 : decode prog_25_method_2_code 53 = .ok (.ifCond .ne 23, 3) := by decide +kernel
theorem d4_56 : decode prog_25_method_2_code 56 = .ok (.iload_n 2, 1) := by decide +kernel
theorem d4_57 : decode prog_25_method_2_code 57 = .ok (.bipush 48, 2) := by decide +kernel
theorem d4_59 : decode prog_25_method_2_code 59 = .ok (.if_icmp .lt 9, 3) := by decide +kernel
theorem d4_68 : decode prog_25_method_2_code 68 = .ok (.iload_n 2, 1) := by decide +kernel
theorem d4_69 : decode prog_25_method_2_code 69 = .ok (.bipush 45, 2) := by decide +kernel
theorem d4_71 : decode prog_25_method_2_code 71 = .ok (.if_icmp .eq 5, 3) := by decide +kernel
theorem d4_76 : decode prog_25_method_2_code 76 = .ok (.iinc 1 1, 3) := by decide +kernel
theorem d4_79 : decode prog_25_method_2_code 79 = .ok (.goto (-44), 3) := by decide +kernel
theorem d4_74 : decode prog_25_method_2_code 74 = .ok (.iconst 0, 1) := by decide +kernel
theorem d4_75 : decode prog_25_method_2_code 75 = .ok (.ireturn, 1) := by decide +kernel
theorem d4_62 : decode prog_25_method_2_code 62 = .ok (.iload_n 2, 1) := by decide +kernel
theorem d4_63 : decode prog_25_method_2_code 63 = .ok (.bipush 57, 2) := by decide +kernel
theorem d4_65 : decode prog_25_method_2_code 65 = .ok (.if_icmp .le 11, 3) := by decide +kernel
theorem ef_rmVa (m : MethodId) (x1 : Addr) : entryFrame m #[(.ref x1)] 3 = mkF m 0 #[sr x1, .unset, .unset] [] := by first | (simp [entryFrame, mkF, argsToLocals, Value.category]; done) | rfl
def Q_rmVa (Z : State) (x1 : Addr) (t1 : Addr) (cd : Int32) (cs : List Int32) (G1 : Int32) (fm : Value) (h0 : Heap) (n0 : Nat) (v : Option Value) (h : Heap) (L : List Loc) : Prop := v = some (.int (own_val cs)) ∧ Fr n0 L ∧ h = h0
set_option maxRecDepth 65536 in
set_option maxHeartbeats 40000000 in
theorem rmVa (l : Launch) (Z : State) (a0 : Array Value) (hw : ∀ d ∈ tables_1, d.before a0 Z = true) (ws : List Jvm.Cond) (x1 : Addr) (t1 : Addr) (cd : Int32) (cs : List Int32) (G1 : Int32) (fm : Value) (h0 : Heap) (n0 : Nat) (Z0 : n0 ≤ h0.size) (hp0 : Str Z h0 x1 t1 cd cs) (hlc : cs.length ≤ 65) (hfm : fm.isRef = true) (hp3 : Sta Z Z.heap "jdk/internal/util/Preconditions" "SIOOBE_FORMATTER" "Ljava/util/function/BiFunction;" fm) (hp4 : Sta Z Z.heap "java/lang/String" "COMPACT_STRINGS" "Z" (.int G1)) (hG1 : ¬ (G1 = (0 : Int32))) (hp6 : Sta Z Z.heap "java/lang/StringUTF16" "$assertionsDisabled" "Z" (.int 1)) (hp7 : Sta Z Z.heap "java/lang/StringUTF16" "HI_BYTE_SHIFT" "I" (.int 0)) (hp8 : Sta Z Z.heap "java/lang/StringUTF16" "LO_BYTE_SHIFT" "I" (.int 8)) (hp9 : Old Z n0 h0) :
    MetFree l y_21 (head1 (Jvm.Cond.code y_21 prog_25_method_2_code 3 (some .boolean) :: ws) ({ frames := 5, cells := 0, slots := 0, locals := 66 } : Room)) (fun a U => a = #[(.ref x1)] ∧ Z.Warmed39 U.vm ∧ U.heap = h0) (fun _ _ _ _ _ => True) (fun _ U o U' => ∃ v L, o = .returned v ∧ Q_rmVa Z x1 t1 cd cs G1 fm h0 n0 v U'.heap L ∧ FrameEnd U o U' L ({ frames := 5, cells := 0, slots := 0, locals := 66 } : Room).cells ({ frames := 5, cells := 0, slots := 0, locals := 66 } : Room).slots) := by
 refine bodyOf pn_21 (fun m => ef_rmVa m x1) ?_
 intro p e s m below meth c T0 X0 hx hby hml hown hnm hret hk hZ e0
 have N0 := Fr.nil n0
 have K0 : Keep h0 h0 [] := Keep.refl _ _
 have O0 := hp9
 refine go (S' := T0.setTop (mkF m 5 #[sr x1, .unset, .unset] [(.ref x1)])) (fun t k => XS.aloadN X0.here hx rfl (hb hby d4_0) rfl rfl (XS.ifnullNo X0.here hx rfl (hb hby d4_1) rfl (XS.aloadN X0.here hx rfl (hb hby d4_4) rfl rfl k))) ?_
 obtain ⟨kb150, N2150, vs150, qE150, qV150, qC150, qA150, qcd150, qbd150, ql150⟩ := id hp0
 obtain ⟨v151, T151, L151, X151, hQ151, st151⟩ := callV X0 hx hZ (y := y_22) (z := y_22) hown (ww hw 26 rfl) (ww hw 27 rfl) (notFace_of_selects (args := #[]) (mvT hZ (ww hw 29 rfl))) (ww hw 29 rfl) (ww hw 28 rfl) (by decide) (StrChars.Road.empW (W := 0) hZ (own_sub StrChars_wordsEmp hw) (kI := 4) (ww hw 1 rfl) qE150 qV150 qC150 qA150 qcd150 qbd150 ql150 (by decide) (by decide)) hp0.exa (g := (mkF m 5 #[sr x1, .unset, .unset] [(.ref x1)])) rfl (by rw [hml]; rfl) (Q := (fun v h' L => v = some (.int (if cs.length = 0 then 1 else 0)) ∧ L = [] ∧ h' = h0)) (kc := 0) (ks := 0) (argsL := []) (rest := []) (lenOf pd_12 rfl) rfl (mr0 rfl) (hb hby d4_5) e0 (by decide) (by decide)
 obtain ⟨rfl, rfl, e151⟩ := hQ151
 have N151 := Fr.app N0 (Fr.nil n0)
 refine go (S' := T151.setTop (mkF m 8 #[sr x1, .unset, .unset] [(.int (if cs.length = 0 then (1 : Int32) else (0 : Int32)))])) st151 ?_
 by_cases hc152 : (if cs.length = 0 then (1 : Int32) else (0 : Int32)) = (0 : Int32)
 ·
  refine go (S' := T151.setTop (mkF m 12 #[sr x1, .unset, .unset] [(.ref x1)])) (fun t k => XS.ifNo X151.here hx rfl (hb hby d4_8) rfl ((if0 _ _).trans (teq hc152).2) (XS.aloadN X151.here hx rfl (hb hby d4_11) rfl rfl k)) ?_
  have O153 : Old Z n0 h0 := O0.keep K0 all0
  obtain ⟨kb154, N2154, vs154, qE154, qV154, qC154, qA154, qcd154, qbd154, ql154⟩ := id hp0
  obtain ⟨v155, T155, L155, X155, hQ155, st155⟩ := callV X151 hx hZ (y := y_23) (z := y_23) hown (ww hw 46 rfl) (ww hw 47 rfl) (notFace_of_selects (args := #[]) (mvT hZ (ww hw 49 rfl))) (ww hw 49 rfl) (ww hw 48 rfl) (by decide) (StrChars.Road.lenW (W := 0) hZ (own_sub StrChars_wordsLen hw) (kI := 4) (ww hw 1 rfl) qE154 qV154 qC154 qA154 qcd154 qbd154 (hp4.ext O153.2) hG1 ql154 (by decide) (by decide)) hp0.exa (g := (mkF m 12 #[sr x1, .unset, .unset] [(.ref x1)])) rfl (by rw [hml]; rfl) (Q := (fun v h' L => v = some (.int (Int32.ofNat cs.length)) ∧ L = [] ∧ h' = h0)) (kc := 0) (ks := 0) (argsL := []) (rest := []) (lenOf pd_14 rfl) rfl (mr0 rfl) (hb hby d4_12) e151 (by decide) (by decide)
  obtain ⟨rfl, rfl, e155⟩ := hQ155
  have N155 := Fr.app N151 (Fr.nil n0)
  refine go (S' := T155.setTop (mkF m 17 #[sr x1, .unset, .unset] [(.int 64), (.int (Int32.ofNat cs.length))])) (fun t k => st155 _ (XS.bipush X155.here hx rfl (hb hby d4_15) k)) ?_
  by_cases hc156 : (64 : Int32) < (Int32.ofNat cs.length)
  ·
   refine go (S' := T155.setTop (mkF m 32 #[sr x1, .unset, .unset] [(.int 0)])) (fun t k => XS.icmpYes X155.here hx rfl (pc0 := 17) (pc' := 31) rfl (hb hby d4_17) rfl (tlt hc156).2.2.1 (by decide) (by decide) (XS.iconst X155.here hx rfl (hb hby d4_31) k)) ?_
   refine finN X155 hx hk (t := .boolean) hret (by simp) (hb hby d4_32) (by decide) (by decide) ?_
   rw [e155]
   exact ⟨(by rw [own_val, if_pos hc152, if_pos hc156]; rfl), N155, rfl⟩
  ·
   refine go (S' := T155.setTop (mkF m 20 #[sr x1, .unset, .unset] [])) (fun t k => XS.icmpNo X155.here hx rfl (hb hby d4_17) rfl (flt hc156).2.2.1 k) ?_
   have hpos : 0 < cs.length := Nat.pos_of_ne_zero fun q => absurd ((if_pos q).symm.trans hc152) (by decide)
   refine go (S' := T155.setTop (mkF m 22 #[sr x1, .unset, .unset] [(.int 0), (.ref x1)])) (fun t k => XS.aloadN X155.here hx rfl (hb hby d4_20) rfl rfl (XS.iconst X155.here hx rfl (hb hby d4_21) k)) ?_
   obtain ⟨v157, T157, L157, X157, hQ157, st157⟩ := callV X155 hx hZ (y := y_17) (z := y_17) hown (ww hw 56 rfl) (ww hw 57 rfl) (notFace_of_selects (args := #[]) (mvT hZ (ww hw 59 rfl))) (ww hw 59 rfl) (ww hw 58 rfl) (by decide) (backOf (W := 0) (rmChr l Z a0 hw [] x1 (0 : Int32) t1 cd cs 0 G1 fm h0 n0 (Nat.le_trans Z0 K0.1) hp0 rfl hpos hlc hfm hp3 hp4 hG1 hp6 hp7 hp8 O153) hZ (ww hw 60 rfl) (ww hw 2 rfl) (by decide) (by decide)) hp0.exa (g := (mkF m 22 #[sr x1, .unset, .unset] [(.int 0), (.ref x1)])) rfl (by rw [hml]; rfl) (kc := 0) (ks := 0) (argsL := [(.int 0)]) (rest := []) (lenOf pd_15 rfl) rfl (mr0 rfl) (hb hby d4_22) e155 (by decide) (by decide)
   obtain ⟨rfl, N157q, e157⟩ := hQ157
   have N157 := Fr.app N155 N157q
   refine go (S' := T157.setTop (mkF m 25 #[sr x1, .unset, .unset] [(.int (cs.getD 0 0))])) st157 ?_
   obtain ⟨v158, T158, L158, X158, hQ158, st158⟩ := callSt X157 hx hZ (y := y_19) hown (ww hw 78 rfl) (ww hw 79 rfl) (ww hw 24 rfl) (ww hw 80 rfl) (by decide) (backOf (W := 0) (rmLtr l Z a0 hw [] (cs.getD 0 0) h0 n0 (Nat.le_trans Z0 K0.1) ) hZ (ww hw 80 rfl) (ww hw 24 rfl) (by decide) (by decide)) (g := (mkF m 25 #[sr x1, .unset, .unset] [(.int (cs.getD 0 0))])) rfl (by rw [hml]; rfl) (kc := 0) (ks := 0) (argsL := [(.int (cs.getD 0 0))]) (rest := []) (lenOf pd_13 rfl) rfl (mr0 rfl) (hb hby d4_25) e157 (by decide) (by decide)
   obtain ⟨rfl, N158q, e158⟩ := hQ158
   have N158 := Fr.app N157 N158q
   refine go (S' := T158.setTop (mkF m 28 #[sr x1, .unset, .unset] [(.int (own_let (cs.getD 0 0)))])) st158 ?_
   by_cases hc159 : (own_let (cs.getD 0 0)) = (0 : Int32)
   ·
    refine go (S' := T158.setTop (mkF m 32 #[sr x1, .unset, .unset] [(.int 0)])) (fun t k => XS.ifNo X158.here hx rfl (hb hby d4_28) rfl ((if0 _ _).trans (teq hc159).2) (XS.iconst X158.here hx rfl (hb hby d4_31) k)) ?_
    refine finN X158 hx hk (t := .boolean) hret (by simp) (hb hby d4_32) (by decide) (by decide) ?_
    rw [e158]
    exact ⟨(by rw [own_val, if_pos hc152, if_neg hc156, if_pos hc159]; rfl), N158, rfl⟩
   ·
    refine go (S' := T158.setTop (mkF m 35 #[sr x1, si 1, .unset] [])) (fun t k => XS.ifYes X158.here hx rfl (pc0 := 28) (pc' := 33) rfl (hb hby d4_28) rfl ((if0 _ _).trans (feq hc159).2) (by decide) (by decide) (XS.iconst X158.here hx rfl (hb hby d4_33) (XS.istoreN X158.here hx rfl (hb hby d4_34) rfl (l' := #[sr x1, si 1, .unset]) rfl k))) ?_
    have hv0 : own_val cs = own_all (cs.drop 1) := by rw [own_val, if_pos hc152, if_neg hc156, if_neg hc159]
    have loopV : ∀ (r : Nat) (i : Nat) (s2 : Slot) (T : State) (locs : List Loc), (i + r = cs.length) → (own_val cs = own_all (cs.drop i)) → (One s2) → Stand p l e ({ frames := 5, cells := 0, slots := 0, locals := 66 } : Room) s m #[(.ref x1)] below meth c T locs 0 0 → T.heap = h0 → Fr n0 locs → Goes p.tables e below (EndP s below (Q_rmVa Z x1 t1 cd cs G1 fm h0 n0) ({ frames := 5, cells := 0, slots := 0, locals := 66 } : Room).cells ({ frames := 5, cells := 0, slots := 0, locals := 66 } : Room).slots) (T.setTop (mkF m 35 #[sr x1, si (Int32.ofNat i), s2] [])) := by
     intro r
     induction r with
     | zero =>
      intro i s2 T locs hi hv hs2 X eT N
      refine go (S' := T.setTop (mkF m 37 #[sr x1, si (Int32.ofNat i), s2] [(.ref x1), (.int (Int32.ofNat i))])) (fun t k => XS.iloadN X.here hx rfl (hb hby d4_35) rfl (XS.aloadN X.here hx rfl (hb hby d4_36) rfl rfl k)) ?_
      obtain ⟨kb160, N2160, vs160, qE160, qV160, qC160, qA160, qcd160, qbd160, ql160⟩ := id hp0
      obtain ⟨v161, T161, L161, X161, hQ161, st161⟩ := callV X hx hZ (y := y_23) (z := y_23) hown (ww hw 46 rfl) (ww hw 47 rfl) (notFace_of_selects (args := #[]) (mvT hZ (ww hw 49 rfl))) (ww hw 49 rfl) (ww hw 48 rfl) (by decide) (StrChars.Road.lenW (W := 1) hZ (own_sub StrChars_wordsLen hw) (kI := 4) (ww hw 1 rfl) qE160 qV160 qC160 qA160 qcd160 qbd160 (hp4.ext O153.2) hG1 ql160 (by decide) (by decide)) hp0.exa (g := (mkF m 37 #[sr x1, si (Int32.ofNat i), s2] [(.ref x1), (.int (Int32.ofNat i))])) rfl (by rw [hml]; rfl) (Q := (fun v h' L => v = some (.int (Int32.ofNat cs.length)) ∧ L = [] ∧ h' = h0)) (kc := 0) (ks := 0) (argsL := []) (rest := [(.int (Int32.ofNat i))]) (lenOf pd_14 rfl) rfl (mr0 rfl) (hb hby d4_37) eT (by decide) (by decide)
      obtain ⟨rfl, rfl, e161⟩ := hQ161
      have N161 := Fr.app N (Fr.nil n0)
      refine go (S' := T161.setTop (mkF m 40 #[sr x1, si (Int32.ofNat i), s2] [(.int (Int32.ofNat cs.length)), (.int (Int32.ofNat i))])) st161 ?_
      have hc162 : ¬ ((Int32.ofNat i) < (Int32.ofNat cs.length)) := oj_nlt (by omega) (by omega) (by omega)
      refine go (S' := T161.setTop (mkF m 83 #[sr x1, si (Int32.ofNat i), s2] [(.int 1)])) (fun t k => XS.icmpYes X161.here hx rfl (pc0 := 40) (pc' := 82) rfl (hb hby d4_40) rfl (flt hc162).2.1 (by decide) (by decide) (XS.iconst X161.here hx rfl (hb hby d4_82) k)) ?_
      refine finN X161 hx hk (t := .boolean) hret (by simp) (hb hby d4_83) (by decide) (by decide) ?_
      have hd : cs.drop i = [] := List.drop_eq_nil_of_le (by omega)
      rw [e161]
      exact ⟨by rw [hv, hd]; rfl, N161, rfl⟩
     | succ r ih =>
      intro i s2 T locs hi hv hs2 X eT N
      refine go (S' := T.setTop (mkF m 37 #[sr x1, si (Int32.ofNat i), s2] [(.ref x1), (.int (Int32.ofNat i))])) (fun t k => XS.iloadN X.here hx rfl (hb hby d4_35) rfl (XS.aloadN X.here hx rfl (hb hby d4_36) rfl rfl k)) ?_
      obtain ⟨kb163, N2163, vs163, qE163, qV163, qC163, qA163, qcd163, qbd163, ql163⟩ := id hp0
      obtain ⟨v164, T164, L164, X164, hQ164, st164⟩ := callV X hx hZ (y := y_23) (z := y_23) hown (ww hw 46 rfl) (ww hw 47 rfl) (notFace_of_selects (args := #[]) (mvT hZ (ww hw 49 rfl))) (ww hw 49 rfl) (ww hw 48 rfl) (by decide) (StrChars.Road.lenW (W := 1) hZ (own_sub StrChars_wordsLen hw) (kI := 4) (ww hw 1 rfl) qE163 qV163 qC163 qA163 qcd163 qbd163 (hp4.ext O153.2) hG1 ql163 (by decide) (by decide)) hp0.exa (g := (mkF m 37 #[sr x1, si (Int32.ofNat i), s2] [(.ref x1), (.int (Int32.ofNat i))])) rfl (by rw [hml]; rfl) (Q := (fun v h' L => v = some (.int (Int32.ofNat cs.length)) ∧ L = [] ∧ h' = h0)) (kc := 0) (ks := 0) (argsL := []) (rest := [(.int (Int32.ofNat i))]) (lenOf pd_14 rfl) rfl (mr0 rfl) (hb hby d4_37) eT (by decide) (by decide)
      obtain ⟨rfl, rfl, e164⟩ := hQ164
      have N164 := Fr.app N (Fr.nil n0)
      refine go (S' := T164.setTop (mkF m 40 #[sr x1, si (Int32.ofNat i), s2] [(.int (Int32.ofNat cs.length)), (.int (Int32.ofNat i))])) st164 ?_
      have hc165 : (Int32.ofNat i) < (Int32.ofNat cs.length) := oj_lt (by omega) (by omega)
      refine go (S' := T164.setTop (mkF m 45 #[sr x1, si (Int32.ofNat i), s2] [(.int (Int32.ofNat i)), (.ref x1)])) (fun t k => XS.icmpNo X164.here hx rfl (hb hby d4_40) rfl (tlt hc165).2.1 (XS.aloadN X164.here hx rfl (hb hby d4_43) rfl rfl (XS.iloadN X164.here hx rfl (hb hby d4_44) rfl k))) ?_
      obtain ⟨v166, T166, L166, X166, hQ166, st166⟩ := callV X164 hx hZ (y := y_17) (z := y_17) hown (ww hw 56 rfl) (ww hw 57 rfl) (notFace_of_selects (args := #[]) (mvT hZ (ww hw 59 rfl))) (ww hw 59 rfl) (ww hw 58 rfl) (by decide) (backOf (W := 0) (rmChr l Z a0 hw [] x1 (Int32.ofNat i) t1 cd cs i G1 fm h0 n0 (Nat.le_trans Z0 K0.1) hp0 rfl (by omega) hlc hfm hp3 hp4 hG1 hp6 hp7 hp8 O153) hZ (ww hw 60 rfl) (ww hw 2 rfl) (by decide) (by decide)) hp0.exa (g := (mkF m 45 #[sr x1, si (Int32.ofNat i), s2] [(.int (Int32.ofNat i)), (.ref x1)])) rfl (by rw [hml]; rfl) (kc := 0) (ks := 0) (argsL := [(.int (Int32.ofNat i))]) (rest := []) (lenOf pd_15 rfl) rfl (mr0 rfl) (hb hby d4_45) e164 (by decide) (by decide)
      obtain ⟨rfl, N166q, e166⟩ := hQ166
      have N166 := Fr.app N164 N166q
      refine go (S' := T166.setTop (mkF m 50 #[sr x1, si (Int32.ofNat i), si (cs.getD i 0)] [(.int (cs.getD i 0))])) (fun t k => st166 _ (XS.istoreN X166.here hx rfl (hb hby d4_48) rfl (l' := #[sr x1, si (Int32.ofNat i), si (cs.getD i 0)]) (XS.store1 rfl hs2 rfl) (XS.iloadN X166.here hx rfl (hb hby d4_49) rfl k))) ?_
      obtain ⟨v167, T167, L167, X167, hQ167, st167⟩ := callSt X166 hx hZ (y := y_19) hown (ww hw 78 rfl) (ww hw 79 rfl) (ww hw 24 rfl) (ww hw 80 rfl) (by decide) (backOf (W := 0) (rmLtr l Z a0 hw [] (cs.getD i 0) h0 n0 (Nat.le_trans Z0 K0.1) ) hZ (ww hw 80 rfl) (ww hw 24 rfl) (by decide) (by decide)) (g := (mkF m 50 #[sr x1, si (Int32.ofNat i), si (cs.getD i 0)] [(.int (cs.getD i 0))])) rfl (by rw [hml]; rfl) (kc := 0) (ks := 0) (argsL := [(.int (cs.getD i 0))]) (rest := []) (lenOf pd_13 rfl) rfl (mr0 rfl) (hb hby d4_50) e166 (by decide) (by decide)
      obtain ⟨rfl, N167q, e167⟩ := hQ167
      have N167 := Fr.app N166 N167q
      refine go (S' := T167.setTop (mkF m 53 #[sr x1, si (Int32.ofNat i), si (cs.getD i 0)] [(.int (own_let (cs.getD i 0)))])) st167 ?_
      by_cases hc168 : (own_let (cs.getD i 0)) = (0 : Int32)
      ·
       refine go (S' := T167.setTop (mkF m 59 #[sr x1, si (Int32.ofNat i), si (cs.getD i 0)] [(.int 48), (.int (cs.getD i 0))])) (fun t k => XS.ifNo X167.here hx rfl (hb hby d4_53) rfl ((if0 _ _).trans (teq hc168).2) (XS.iloadN X167.here hx rfl (hb hby d4_56) rfl (XS.bipush X167.here hx rfl (hb hby d4_57) k))) ?_
       by_cases hc169 : (cs.getD i 0) < (48 : Int32)
       ·
        refine go (S' := T167.setTop (mkF m 71 #[sr x1, si (Int32.ofNat i), si (cs.getD i 0)] [(.int 45), (.int (cs.getD i 0))])) (fun t k => XS.icmpYes X167.here hx rfl (pc0 := 59) (pc' := 68) rfl (hb hby d4_59) rfl (tlt hc169).1 (by decide) (by decide) (XS.iloadN X167.here hx rfl (hb hby d4_68) rfl (XS.bipush X167.here hx rfl (hb hby d4_69) k))) ?_
        by_cases hc170 : (cs.getD i 0) = (45 : Int32)
        ·
         refine go (S' := T167.setTop (mkF m 35 #[sr x1, si ((Int32.ofNat i) + (1 : Int32)), si (cs.getD i 0)] [])) (fun t k => XS.icmpYes X167.here hx rfl (pc0 := 71) (pc' := 76) rfl (hb hby d4_71) rfl (teq hc170).1 (by decide) (by decide) (XS.iinc X167.here hx rfl (hb hby d4_76) rfl (l' := #[sr x1, si ((Int32.ofNat i) + (1 : Int32)), si (cs.getD i 0)]) rfl (XS.goto X167.here hx rfl (pc0 := 79) (pc' := 35) rfl (hb hby d4_79) (by decide) (by decide) k))) ?_
         have hp : ¬ own_par (cs.getD i 0) = 0 := by rw [own_par, if_pos hc168, if_pos hc169, if_pos hc170]; decide
         have hv2 : own_val cs = own_all (cs.drop (i + 1)) := by rw [hv, own_drop (i := i) (by omega), own_all, if_neg hp]
         rw [oj_one i]
         exact ih (i + 1) _ _ _ (by omega) hv2 (One.val rfl) X167 e167 N167
        ·
         refine go (S' := T167.setTop (mkF m 75 #[sr x1, si (Int32.ofNat i), si (cs.getD i 0)] [(.int 0)])) (fun t k => XS.icmpNo X167.here hx rfl (hb hby d4_71) rfl (feq hc170).1 (XS.iconst X167.here hx rfl (hb hby d4_74) k)) ?_
         refine finN X167 hx hk (t := .boolean) hret (by simp) (hb hby d4_75) (by decide) (by decide) ?_
         have hp : own_par (cs.getD i 0) = 0 := by rw [own_par, if_pos hc168, if_pos hc169, if_neg hc170]
         rw [e167]
         exact ⟨by rw [hv, own_drop (i := i) (by omega), own_all, if_pos hp]; rfl, N167, rfl⟩
       ·
        refine go (S' := T167.setTop (mkF m 65 #[sr x1, si (Int32.ofNat i), si (cs.getD i 0)] [(.int 57), (.int (cs.getD i 0))])) (fun t k => XS.icmpNo X167.here hx rfl (hb hby d4_59) rfl (flt hc169).1 (XS.iloadN X167.here hx rfl (hb hby d4_62) rfl (XS.bipush X167.here hx rfl (hb hby d4_63) k))) ?_
        by_cases hc171 : (57 : Int32) < (cs.getD i 0)
        ·
         refine go (S' := T167.setTop (mkF m 71 #[sr x1, si (Int32.ofNat i), si (cs.getD i 0)] [(.int 45), (.int (cs.getD i 0))])) (fun t k => XS.icmpNo X167.here hx rfl (hb hby d4_65) rfl (tlt hc171).2.2.2 (XS.iloadN X167.here hx rfl (hb hby d4_68) rfl (XS.bipush X167.here hx rfl (hb hby d4_69) k))) ?_
         by_cases hc172 : (cs.getD i 0) = (45 : Int32)
         ·
          refine go (S' := T167.setTop (mkF m 35 #[sr x1, si ((Int32.ofNat i) + (1 : Int32)), si (cs.getD i 0)] [])) (fun t k => XS.icmpYes X167.here hx rfl (pc0 := 71) (pc' := 76) rfl (hb hby d4_71) rfl (teq hc172).1 (by decide) (by decide) (XS.iinc X167.here hx rfl (hb hby d4_76) rfl (l' := #[sr x1, si ((Int32.ofNat i) + (1 : Int32)), si (cs.getD i 0)]) rfl (XS.goto X167.here hx rfl (pc0 := 79) (pc' := 35) rfl (hb hby d4_79) (by decide) (by decide) k))) ?_
          have hp : ¬ own_par (cs.getD i 0) = 0 := by rw [own_par, if_pos hc168, if_neg hc169, if_pos hc171, if_pos hc172]; decide
          have hv2 : own_val cs = own_all (cs.drop (i + 1)) := by rw [hv, own_drop (i := i) (by omega), own_all, if_neg hp]
          rw [oj_one i]
          exact ih (i + 1) _ _ _ (by omega) hv2 (One.val rfl) X167 e167 N167
         ·
          refine go (S' := T167.setTop (mkF m 75 #[sr x1, si (Int32.ofNat i), si (cs.getD i 0)] [(.int 0)])) (fun t k => XS.icmpNo X167.here hx rfl (hb hby d4_71) rfl (feq hc172).1 (XS.iconst X167.here hx rfl (hb hby d4_74) k)) ?_
          refine finN X167 hx hk (t := .boolean) hret (by simp) (hb hby d4_75) (by decide) (by decide) ?_
          have hp : own_par (cs.getD i 0) = 0 := by rw [own_par, if_pos hc168, if_neg hc169, if_pos hc171, if_neg hc172]
          rw [e167]
          exact ⟨by rw [hv, own_drop (i := i) (by omega), own_all, if_pos hp]; rfl, N167, rfl⟩
        ·
         refine go (S' := T167.setTop (mkF m 35 #[sr x1, si ((Int32.ofNat i) + (1 : Int32)), si (cs.getD i 0)] [])) (fun t k => XS.icmpYes X167.here hx rfl (pc0 := 65) (pc' := 76) rfl (hb hby d4_65) rfl (flt hc171).2.2.2 (by decide) (by decide) (XS.iinc X167.here hx rfl (hb hby d4_76) rfl (l' := #[sr x1, si ((Int32.ofNat i) + (1 : Int32)), si (cs.getD i 0)]) rfl (XS.goto X167.here hx rfl (pc0 := 79) (pc' := 35) rfl (hb hby d4_79) (by decide) (by decide) k))) ?_
         have hp : ¬ own_par (cs.getD i 0) = 0 := by rw [own_par, if_pos hc168, if_neg hc169, if_neg hc171]; decide
         have hv2 : own_val cs = own_all (cs.drop (i + 1)) := by rw [hv, own_drop (i := i) (by omega), own_all, if_neg hp]
         rw [oj_one i]
         exact ih (i + 1) _ _ _ (by omega) hv2 (One.val rfl) X167 e167 N167
      ·
       refine go (S' := T167.setTop (mkF m 35 #[sr x1, si ((Int32.ofNat i) + (1 : Int32)), si (cs.getD i 0)] [])) (fun t k => XS.ifYes X167.here hx rfl (pc0 := 53) (pc' := 76) rfl (hb hby d4_53) rfl ((if0 _ _).trans (feq hc168).2) (by decide) (by decide) (XS.iinc X167.here hx rfl (hb hby d4_76) rfl (l' := #[sr x1, si ((Int32.ofNat i) + (1 : Int32)), si (cs.getD i 0)]) rfl (XS.goto X167.here hx rfl (pc0 := 79) (pc' := 35) rfl (hb hby d4_79) (by decide) (by decide) k))) ?_
       have hp : ¬ own_par (cs.getD i 0) = 0 := by rw [own_par, if_neg hc168]; decide
       have hv2 : own_val cs = own_all (cs.drop (i + 1)) := by rw [hv, own_drop (i := i) (by omega), own_all, if_neg hp]
       rw [oj_one i]
       exact ih (i + 1) _ _ _ (by omega) hv2 (One.val rfl) X167 e167 N167
    exact loopV (cs.length - 1) 1 _ _ _ (by omega) hv0 One.u X158 e158 N158
 ·
  refine go (S' := T151.setTop (mkF m 32 #[sr x1, .unset, .unset] [(.int 0)])) (fun t k => XS.ifYes X151.here hx rfl (pc0 := 8) (pc' := 31) rfl (hb hby d4_8) rfl ((if0 _ _).trans (feq hc152).2) (by decide) (by decide) (XS.iconst X151.here hx rfl (hb hby d4_31) k)) ?_
  refine finN X151 hx hk (t := .boolean) hret (by simp) (hb hby d4_32) (by decide) (by decide) ?_
  rw [e151]
  exact ⟨(by rw [own_val, if_neg hc152]; rfl), N151, rfl⟩
theorem putS {p : Program} {l : Launch} {e : Env} {R : Room} {s : State} {m : MethodId} {args : Array Value} {below : List Frame} {meth : Method} {c : Code} {T : State} {locs : List Loc} {cells slots : Nat} {Z : State} {h : Heap} {g : JFrame} {rest : List Value} (X : Stand p l e R s m args below meth c T locs cells slots) (hx : p.tables.exec = Jvm.exec) (hZ : Z.Warmed39 s.vm) (eT : T.heap = h) {b : Addr} {kB : ClassId} {nB : Int32} {vB : List Value} {dB : Value} (B : Arv Z h b kB .char nB vB dB) {j x : Int32} {i : Nat} (hn : nar .char x = x) (hj : ¬ j < 0 ∧ j < nB) (hi : j.toNatClampNeg = i) (hl : vB.length = i) (hg : g.method = m) (hs : g.stack = .int x :: .int j :: .ref b :: rest) (hd : decode c.code g.pc = .ok (.castore, 1)) :
    ∃ T' h' ws, Stand p l e R s m args below meth c T' (locs ++ [⟨b, j.toNatClampNeg⟩]) cells slots ∧ T'.heap = h' ∧ Wr h h' b j.toNatClampNeg (.int x) ∧ Arv Z h' b kB .char nB ws dB ∧ ws = vB ++ [.int x] ∧ ws.length = i + 1 ∧ ∀ t, Steps p.tables e below (T'.setTop { g with pc := g.pc + 1, stack := rest }) t → Steps p.tables e below (T.setTop g) t := by
  obtain ⟨T', h', X', e', W, V, st⟩ := putC X hx hZ eT (B.pad (pad_rep vB dB 1)) hn hj (i := i) hi (by rw [List.length_append, hl]; exact Nat.lt_succ_self _) hg hs hd
  refine ⟨T', h', _, X', e', W, V, ?_, ?_, st⟩
  · subst hl; simp
  · rw [List.length_set, List.length_append, hl]; rfl
theorem snS {ws pre t R : List Value} {x : Value} (hw : ws = pre ++ [x]) (hr : pre ++ x :: t = R) : ws ++ t = R := by rw [hw, List.append_assoc]; exact hr
theorem snV {Z : State} {h : Heap} {b : Addr} {kB : ClassId} {ty : FieldType} {n : Int32} {ws R : List Value} {d : Value} (hr : ws ++ [] = R) (V : Arv Z h b kB ty n ws d) : Arv Z h b kB ty n R d := by rw [← hr, List.append_nil]; exact V
theorem own_val_cons (c : Int32) (r : List Int32) (h64 : r.length ≤ 63) : own_val (c :: r) = if own_let c = 0 then 0 else own_all r := by
  have h0 : ¬ (c :: r).length = 0 := by rw [List.length_cons]; omega
  have h1 : ¬ (64 : Int32) < Int32.ofNat (c :: r).length := oj_nlt (i := 64) (by rw [List.length_cons]; omega) (by omega) (by rw [List.length_cons]; omega)
  rw [own_val, if_pos (if_neg h0), if_neg h1]; rfl
theorem own_val_65 {cs : List Int32} (h : cs.length = 65) : own_val cs = 0 := by
  have h0 : ¬ cs.length = 0 := by omega
  have h1 : (64 : Int32) < Int32.ofNat cs.length := by rw [h]; decide
  rw [own_val, if_pos (if_neg h0), if_pos h1]
theorem own_v1 (c : Int32) : (if own_let c = 0 then 0 else own_all []) = own_let c := by
  simp only [own_let, own_all]; split
  · simp
  · split <;> simp
theorem pd_16 : parseMethodDescriptor "([C)V" = some ⟨[(.array .char)], none⟩ := by decide +kernel
theorem pd_17 : parseMethodDescriptor "(Ljava/lang/String;)Z" = some ⟨[(.object "java/lang/String")], some .boolean⟩ := by decide +kernel
abbrev y_24 : MethodName := ⟨"castworks/NamesIsValidPinLaw", "law", "(III)Z"⟩
theorem pn_22 : plainFor y_24 = true := by first | exact plainFor_of_name (by first | (simp [plainName, overriddenIn]; done) | decide +kernel) | decide +kernel
theorem ef_rmLaw (m : MethodId) (p1 : Int32) (p2 : Int32) (p3 : Int32) : entryFrame m #[(.int p1), (.int p2), (.int p3)] maxLocals = mkF m 0 #[si p1, si p2, si p3, .unset, .unset, .unset, .unset, .unset, .unset, .unset] [] := by first | (simp [entryFrame, mkF, argsToLocals, Value.category, maxLocals]; done) | rfl
def Q_rmLaw (Z : State) (p1 : Int32) (p2 : Int32) (p3 : Int32) (G1 : Int32) (fm : Value) (h0 : Heap) (n0 : Nat) (v : Option Value) (h : Heap) (L : List Loc) : Prop := v = some (.int 1) ∧ Fr n0 L ∧ Keep h0 h []
set_option maxRecDepth 65536 in
set_option maxHeartbeats 40000000 in
theorem rmLaw (l : Launch) (Z : State) (a0 : Array Value) (hw : ∀ d ∈ tables_1, d.before a0 Z = true) (ws : List Jvm.Cond) (p1 : Int32) (p2 : Int32) (p3 : Int32) (G1 : Int32) (fm : Value) (h0 : Heap) (n0 : Nat) (Z0 : n0 ≤ h0.size) (hp0 : Sta Z Z.heap "java/lang/String" "COMPACT_STRINGS" "Z" (.int G1)) (hG1 : ¬ (G1 = (0 : Int32))) (hp2 : Sta Z Z.heap "jdk/internal/util/Preconditions" "SIOOBE_FORMATTER" "Ljava/util/function/BiFunction;" fm) (hfm : fm.isRef = true) (hp4 : Sta Z Z.heap "java/lang/StringUTF16" "$assertionsDisabled" "Z" (.int 1)) (hp5 : Sta Z Z.heap "java/lang/StringUTF16" "HI_BYTE_SHIFT" "I" (.int 0)) (hp6 : Sta Z Z.heap "java/lang/StringUTF16" "LO_BYTE_SHIFT" "I" (.int 8)) (hp7 : Old Z n0 h0) :
    MetFree l x (head1 (Jvm.Cond.code x code maxLocals ret :: ws) room_1) (fun a U => a = #[(.int p1), (.int p2), (.int p3)] ∧ Z.Warmed39 U.vm ∧ U.heap = h0 ∧ CHv Z consts_1 U.vm h0 ∧ ∀ x ∈ ([] : List Addr), Safe Z consts_1 U.vm h0 x) (fun _ _ _ _ _ => True) (fun _ U o U' => ∃ v L, o = .returned v ∧ Q_rmLaw Z p1 p2 p3 G1 fm h0 n0 v U'.heap L ∧ CHr Z consts_1 U.vm U.heap U'.vm U'.heap ∧ ReturnedEndW U o U' L room_1.cells room_1.slots) := by
 refine bodyOfW pn_22 (fun m => ef_rmLaw m p1 p2 p3) ?_
 intro p e s m below meth c T0 X0 hx hby hml hown hnm hret hk hZ e0 hS C0 hsf
 have hkS := Nat.le_refl h0.size
 have N0 := Fr.nil n0
 have K0 : Keep h0 h0 [] := Keep.refl _ _
 have O0 := hp7
 refine go (S' := T0.setTop (mkF m 3 #[si p1, si p2, si p3, si (p2.toUInt32.toUInt16.toUInt32.toInt32), .unset, .unset, .unset, .unset, .unset, .unset] [])) (fun t k => XS.iloadN X0.here hx rfl (hb hby at_0) rfl (XS.i2c X0.here hx rfl (hb hby at_1) rfl (XS.istoreN X0.here hx rfl (hb hby at_2) rfl (l' := #[si p1, si p2, si p3, si (p2.toUInt32.toUInt16.toUInt32.toInt32), .unset, .unset, .unset, .unset, .unset, .unset]) rfl k))) ?_
 obtain ⟨c0, hc0⟩ : ∃ z : Int32, z = (p2.toUInt32.toUInt16.toUInt32.toInt32) := ⟨_, rfl⟩
 rw [← hc0]
 have hbc0 : ¬ c0 < 0 ∧ ¬ (65535 : Int32) < c0 := by rw [hc0]; exact own_c16 _
 refine go (S' := T0.setTop (mkF m 10 #[si p1, si p2, si p3, si c0, si (((p2.toUInt32 >>> ((16 : Int32) &&& 31).toUInt32).toInt32).toUInt32.toUInt16.toUInt32.toInt32), .unset, .unset, .unset, .unset, .unset] [])) (fun t k => XS.iloadN X0.here hx rfl (hb hby at_3) rfl (XS.bipush X0.here hx rfl (hb hby at_4) (XS.iushr X0.here hx rfl (hb hby at_6) rfl (XS.i2c X0.here hx rfl (hb hby at_7) rfl (XS.istore X0.here hx rfl (hb hby at_8) rfl (l' := #[si p1, si p2, si p3, si c0, si (((p2.toUInt32 >>> ((16 : Int32) &&& 31).toUInt32).toInt32).toUInt32.toUInt16.toUInt32.toInt32), .unset, .unset, .unset, .unset, .unset]) rfl k))))) ?_
 obtain ⟨c1, hc1⟩ : ∃ z : Int32, z = (((p2.toUInt32 >>> ((16 : Int32) &&& 31).toUInt32).toInt32).toUInt32.toUInt16.toUInt32.toInt32) := ⟨_, rfl⟩
 rw [← hc1]
 have hbc1 : ¬ c1 < 0 ∧ ¬ (65535 : Int32) < c1 := by rw [hc1]; exact own_c16 _
 refine go (S' := T0.setTop (mkF m 14 #[si p1, si p2, si p3, si c0, si c1, si (p3.toUInt32.toUInt16.toUInt32.toInt32), .unset, .unset, .unset, .unset] [])) (fun t k => XS.iloadN X0.here hx rfl (hb hby at_10) rfl (XS.i2c X0.here hx rfl (hb hby at_11) rfl (XS.istore X0.here hx rfl (hb hby at_12) rfl (l' := #[si p1, si p2, si p3, si c0, si c1, si (p3.toUInt32.toUInt16.toUInt32.toInt32), .unset, .unset, .unset, .unset]) rfl k))) ?_
 obtain ⟨c2, hc2⟩ : ∃ z : Int32, z = (p3.toUInt32.toUInt16.toUInt32.toInt32) := ⟨_, rfl⟩
 rw [← hc2]
 have hbc2 : ¬ c2 < 0 ∧ ¬ (65535 : Int32) < c2 := by rw [hc2]; exact own_c16 _
 refine go (S' := T0.setTop (mkF m 21 #[si p1, si p2, si p3, si c0, si c1, si c2, si (((p3.toUInt32 >>> ((16 : Int32) &&& 31).toUInt32).toInt32).toUInt32.toUInt16.toUInt32.toInt32), .unset, .unset, .unset] [])) (fun t k => XS.iloadN X0.here hx rfl (hb hby at_14) rfl (XS.bipush X0.here hx rfl (hb hby at_15) (XS.iushr X0.here hx rfl (hb hby at_17) rfl (XS.i2c X0.here hx rfl (hb hby at_18) rfl (XS.istore X0.here hx rfl (hb hby at_19) rfl (l' := #[si p1, si p2, si p3, si c0, si c1, si c2, si (((p3.toUInt32 >>> ((16 : Int32) &&& 31).toUInt32).toInt32).toUInt32.toUInt16.toUInt32.toInt32), .unset, .unset, .unset]) rfl k))))) ?_
 obtain ⟨c3, hc3⟩ : ∃ z : Int32, z = (((p3.toUInt32 >>> ((16 : Int32) &&& 31).toUInt32).toInt32).toUInt32.toUInt16.toUInt32.toInt32) := ⟨_, rfl⟩
 rw [← hc3]
 have hbc3 : ¬ c3 < 0 ∧ ¬ (65535 : Int32) < c3 := by rw [hc3]; exact own_c16 _
 refine go (S' := T0.setTop (mkF m 27 #[si p1, si p2, si p3, si c0, si c1, si c2, si c3, si (p1 &&& (7 : Int32)), .unset, .unset] [])) (fun t k => XS.iloadN X0.here hx rfl (hb hby at_21) rfl (XS.bipush X0.here hx rfl (hb hby at_22) (XS.iand X0.here hx rfl (hb hby at_24) rfl (XS.istore X0.here hx rfl (hb hby at_25) rfl (l' := #[si p1, si p2, si p3, si c0, si c1, si c2, si c3, si (p1 &&& (7 : Int32)), .unset, .unset]) rfl k)))) ?_
 obtain ⟨mm, hmm⟩ : ∃ z : Int32, z = (p1 &&& (7 : Int32)) := ⟨_, rfl⟩
 rw [← hmm]
 refine go (S' := T0.setTop (mkF m 29 #[si p1, si p2, si p3, si c0, si c1, si c2, si c3, si mm, .unset, .unset] [(.int mm)])) (fun t k => XS.iload X0.here hx rfl (hb hby at_27) rfl k) ?_
 by_cases hc173 : mm = (0 : Int32)
 ·
  refine go (S' := T0.setTop (mkF m 32 #[si p1, si p2, si p3, si c0, si c1, si c2, si c3, si mm, .unset, .unset] [])) (fun t k => XS.ifNo X0.here hx rfl (hb hby at_29) rfl ((if0 _ _).trans (teq hc173).2) k) ?_
  obtain ⟨T174, h174, X174, e174, E174, A174, D174, -, st174⟩ := newO X0 hx hZ hown (ww hw 0 rfl) (ww hw 1 rfl) (ww hw 2 rfl) e0 (g := (mkF m 32 #[si p1, si p2, si p3, si c0, si c1, si c2, si c3, si mm, .unset, .unset] [])) rfl (hb hby at_32) (by decide) (by decide)
  obtain ⟨b174, g174⟩ : ∃ z, z = h0.size := ⟨_, rfl⟩
  rw [← g174] at A174 D174 st174
  have ge_b174 : n0 ≤ b174 := by rw [g174]; exact (Nat.le_trans Z0 K0.1)
  have sz_b174 : h0.size ≤ b174 := by rw [g174]; exact K0.1
  have K175 : Keep h0 h174 [] := K0.ext E174
  have hkS := Nat.le_trans hkS E174.1
  have C176 := C0.trans (CHr.ext E174 C0.1)
  have sf177 := Safe.ext E174 C0.1 (Safe.new (Nat.le_of_eq g174.symm))
  refine go (S' := T174.setTop (mkF m 37 #[si p1, si p2, si p3, si c0, si c1, si c2, si c3, si mm, .unset, .unset] [(.int 0), (.ref b174), (.ref b174)])) (fun t k => st174 _ (XS.dup X174.here hx rfl (hb hby at_35) rfl rfl (XS.iconst X174.here hx rfl (hb hby at_36) k))) ?_
  obtain ⟨T178, h178, k178, X178, e178, E178, A178, st178⟩ := newP X174 hx hZ (ww hw 3 rfl) e174 (g := (mkF m 37 #[si p1, si p2, si p3, si c0, si c1, si c2, si c3, si mm, .unset, .unset] [(.int 0), (.ref b174), (.ref b174)])) rfl (hb hby at_37) rfl (by decide) (cap := 0) (by decide) (by decide) (by decide) (by decide)
  obtain ⟨b178, g178⟩ : ∃ z, z = h174.size := ⟨_, rfl⟩
  rw [← g178] at A178 st178
  have lt_b174_b178 : b174 < b178 := by rw [g178]; exact A174.lt
  have ge_b178 : n0 ≤ b178 := by rw [g178]; exact (Nat.le_trans Z0 K175.1)
  have sz_b178 : h0.size ≤ b178 := by rw [g178]; exact K175.1
  have K179 : Keep h0 h178 [] := K175.ext E178
  have hkS := Nat.le_trans hkS E178.1
  have C180 := C176.trans (CHr.ext E178 C176.1)
  have sf181 := Safe.ext E178 C176.1 sf177
  have V178 : Arv Z h178 b178 k178 .char (0 : Int32) [] (.int 0) := (Arv.new A178 (by decide)).pad (pad_rep [] (.int 0) 0)
  refine go (S' := T178.setTop (mkF m 39 #[si p1, si p2, si p3, si c0, si c1, si c2, si c3, si mm, .unset, .unset] [(.ref b178), (.ref b174), (.ref b174)])) st178 ?_
  have f182 : Exa Z h178 b174 "java/lang/String" := (A174.ext E178)
  have f183 : Fld Z h178 b174 "java/lang/String" "value" "[B" .null := ((D174 (Or.inr (ww hw 16 rfl)) (ty := (.array .byte)) (by decide)).ext E178)
  have f184 : Fld Z h178 b174 "java/lang/String" "coder" "B" (.int 0) := ((D174 (Or.inr (ww hw 17 rfl)) (ty := .byte) (by decide)).ext E178)
  have O185 : Old Z n0 h178 := O0.keep K179 all0
  obtain ⟨v186, T186, L186, X186, hQ186, hS, hZ, hown, Cq186, st186⟩ := callSpW X178 hx hZ (y := y_9) rfl hown (ww hw 4 rfl) (ww hw 5 rfl) (ww hw 6 rfl) (by decide) (backW (W := 1) (rmE1 l Z a0 hw [] b174 b178 k178 [] (.int 0) h178 n0 (Nat.le_trans Z0 K179.1) f182 f183 f184 ge_b174 V178 O185) hZ (ww hw 6 rfl) (ww hw 2 rfl) (by decide) (by decide) (own_EW hw) C180.1 all0) (g := (mkF m 39 #[si p1, si p2, si p3, si c0, si c1, si c2, si c3, si mm, .unset, .unset] [(.ref b178), (.ref b174), (.ref b174)])) rfl (by rw [hml]; rfl) (a := b174) (kc := 4) (ks := 8) (argsL := [(.ref b178)]) (rest := [(.ref b174)]) (lenOf pd_16 rfl) rfl (mr0 rfl) (hb hby at_39) e178 (by decide) (by decide) hS hkS
  obtain ⟨t_186, rfl, N186q, Kq186, q186_0⟩ := hQ186
  have N186 := Fr.app N0 N186q
  have hkS := Nat.le_refl T186.heap.size
  have C187 := C180.trans Cq186
  have sf188 := CHr.safe Cq186 f182.lt sf181
  have K189 : Keep h0 T186.heap [] := K179.trans Kq186 (allS (P := fun x => x ∈ [] ∨ h0.size ≤ x) (Or.inr sz_b174) all0)
  refine go (S' := T186.setTop (mkF m 1130 #[si p1, si p2, si p3, si c0, si c1, si c2, si c3, si mm, sr b174, si 0] [(.ref b174)])) (fun t k => st186 _ (XS.astore X186.here hx rfl (hb hby at_42) rfl rfl (l' := #[si p1, si p2, si p3, si c0, si c1, si c2, si c3, si mm, sr b174, .unset]) rfl (XS.iconst X186.here hx rfl (hb hby at_44) (XS.istore X186.here hx rfl (hb hby at_45) rfl (l' := #[si p1, si p2, si p3, si c0, si c1, si c2, si c3, si mm, sr b174, si 0]) rfl (XS.goto X186.here hx rfl (pc0 := 47) (pc' := 1128) rfl (hb hby at_47) (by decide) (by decide) (XS.aload X186.here hx rfl (hb hby at_1128) rfl rfl k)))))) ?_
  have O190 : Old Z n0 T186.heap := O0.keep K189 all0
  obtain ⟨v191, T191, L191, X191, hQ191, st191⟩ := callSt X186 hx hZ (y := y_21) hown (ww hw 22 rfl) (ww hw 23 rfl) (ww hw 24 rfl) (ww hw 25 rfl) (by decide) (backOf (W := 0) (rmVa l Z a0 hw [] b174 t_186 (0 : Int32) ([] : List Int32) G1 fm T186.heap n0 (Nat.le_trans Z0 K189.1) q186_0 (Nat.le_of_ble_eq_true rfl) hfm hp2 hp0 hG1 hp4 hp5 hp6 O190) hZ (ww hw 25 rfl) (ww hw 24 rfl) (by decide) (by decide)) (g := (mkF m 1130 #[si p1, si p2, si p3, si c0, si c1, si c2, si c3, si mm, sr b174, si 0] [(.ref b174)])) rfl (by rw [hml]; rfl) (kc := 0) (ks := 0) (argsL := [(.ref b174)]) (rest := []) (lenOf pd_17 rfl) rfl (mr0 rfl) (hb hby at_1130) rfl (by decide) (by decide)
  obtain ⟨rfl, N191q, e191⟩ := hQ191
  have N191 := Fr.app N186 N191q
  refine go (S' := T191.setTop (mkF m 1135 #[si p1, si p2, si p3, si c0, si c1, si c2, si c3, si mm, sr b174, si 0] [(.int 0), (.int (own_val ([] : List Int32)))])) (fun t k => st191 _ (XS.iload X191.here hx rfl (hb hby at_1133) rfl k)) ?_
  have hc192 : (own_val ([] : List Int32)) = (0 : Int32) := by decide
  refine go (S' := T191.setTop (mkF m 1143 #[si p1, si p2, si p3, si c0, si c1, si c2, si c3, si mm, sr b174, si 0] [(.int 1)])) (fun t k => XS.icmpNo X191.here hx rfl (hb hby at_1135) rfl (teq hc192).2 (XS.iconst X191.here hx rfl (hb hby at_1138) (XS.goto X191.here hx rfl (pc0 := 1139) (pc' := 1143) rfl (hb hby at_1139) (by decide) (by decide) k))) ?_
  refine finNW X191 hx hk (t := .boolean) hret (by simp) hS hkS hZ (own_EW hw) C187 e191 (hb hby at_1143) (by decide) (by decide) ?_
  exact ⟨rfl, N191, K189⟩
 ·
  refine go (S' := T0.setTop (mkF m 53 #[si p1, si p2, si p3, si c0, si c1, si c2, si c3, si mm, .unset, .unset] [(.int 1), (.int mm)])) (fun t k => XS.ifYes X0.here hx rfl (pc0 := 29) (pc' := 50) rfl (hb hby at_29) rfl ((if0 _ _).trans (feq hc173).2) (by decide) (by decide) (XS.iload X0.here hx rfl (hb hby at_50) rfl (XS.iconst X0.here hx rfl (hb hby at_52) k))) ?_
  by_cases hc193 : mm = (1 : Int32)
  ·
   refine go (S' := T0.setTop (mkF m 56 #[si p1, si p2, si p3, si c0, si c1, si c2, si c3, si mm, .unset, .unset] [])) (fun t k => XS.icmpNo X0.here hx rfl (hb hby at_53) rfl (teq hc193).2 k) ?_
   obtain ⟨T194, h194, X194, e194, E194, A194, D194, -, st194⟩ := newO X0 hx hZ hown (ww hw 0 rfl) (ww hw 1 rfl) (ww hw 2 rfl) e0 (g := (mkF m 56 #[si p1, si p2, si p3, si c0, si c1, si c2, si c3, si mm, .unset, .unset] [])) rfl (hb hby at_56) (by decide) (by decide)
   obtain ⟨b194, g194⟩ : ∃ z, z = h0.size := ⟨_, rfl⟩
   rw [← g194] at A194 D194 st194
   have ge_b194 : n0 ≤ b194 := by rw [g194]; exact (Nat.le_trans Z0 K0.1)
   have sz_b194 : h0.size ≤ b194 := by rw [g194]; exact K0.1
   have K195 : Keep h0 h194 [] := K0.ext E194
   have hkS := Nat.le_trans hkS E194.1
   have C196 := C0.trans (CHr.ext E194 C0.1)
   have sf197 := Safe.ext E194 C0.1 (Safe.new (Nat.le_of_eq g194.symm))
   refine go (S' := T194.setTop (mkF m 61 #[si p1, si p2, si p3, si c0, si c1, si c2, si c3, si mm, .unset, .unset] [(.int 1), (.ref b194), (.ref b194)])) (fun t k => st194 _ (XS.dup X194.here hx rfl (hb hby at_59) rfl rfl (XS.iconst X194.here hx rfl (hb hby at_60) k))) ?_
   obtain ⟨T198, h198, k198, X198, e198, E198, A198, st198⟩ := newP X194 hx hZ (ww hw 3 rfl) e194 (g := (mkF m 61 #[si p1, si p2, si p3, si c0, si c1, si c2, si c3, si mm, .unset, .unset] [(.int 1), (.ref b194), (.ref b194)])) rfl (hb hby at_61) rfl (by decide) (cap := 1) (by decide) (by decide) (by decide) (by decide)
   obtain ⟨b198, g198⟩ : ∃ z, z = h194.size := ⟨_, rfl⟩
   rw [← g198] at A198 st198
   have lt_b194_b198 : b194 < b198 := by rw [g198]; exact A194.lt
   have ge_b198 : n0 ≤ b198 := by rw [g198]; exact (Nat.le_trans Z0 K195.1)
   have sz_b198 : h0.size ≤ b198 := by rw [g198]; exact K195.1
   have K199 : Keep h0 h198 [] := K195.ext E198
   have hkS := Nat.le_trans hkS E198.1
   have C200 := C196.trans (CHr.ext E198 C196.1)
   have sf201 := Safe.ext E198 C196.1 sf197
   have V198 : Arv Z h198 b198 k198 .char (1 : Int32) [(.int 0)] (.int 0) := (Arv.new A198 (by decide)).pad (pad_rep [] (.int 0) 1)
   refine go (S' := T198.setTop (mkF m 66 #[si p1, si p2, si p3, si c0, si c1, si c2, si c3, si mm, .unset, .unset] [(.int c0), (.int 0), (.ref b198), (.ref b198), (.ref b194), (.ref b194)])) (fun t k => st198 _ (XS.dup X198.here hx rfl (hb hby at_63) rfl rfl (XS.iconst X198.here hx rfl (hb hby at_64) (XS.iloadN X198.here hx rfl (hb hby at_65) rfl k)))) ?_
   obtain ⟨T202, h202, X202, e202, W202, V202, st202⟩ := putC X198 hx hZ e198 V198 (j := (0 : Int32)) (x := c0) (oj_c16 hbc0) ⟨by decide, by decide⟩ (i := 0) rfl (Nat.le_of_ble_eq_true rfl) (g := (mkF m 66 #[si p1, si p2, si p3, si c0, si c1, si c2, si c3, si mm, .unset, .unset] [(.int c0), (.int 0), (.ref b198), (.ref b198), (.ref b194), (.ref b194)])) rfl rfl (hb hby at_66)
   have K203 : Keep h0 h202 [] := K199.wr W202 (Or.inr sz_b198)
   have N204 := Fr.snoc X202 N0 ge_b198
   have hkS := Nat.le_trans hkS (Keep.of_wr W202).1
   have C205 := C200.trans (CHr.wr W202 (safeArv hZ.alike V198 (by decide)) C200.1)
   have sf206 := Safe.wr W202 (safeArv hZ.alike V198 (by decide)) C200.1 sf201
   refine go (S' := T202.setTop (mkF m 67 #[si p1, si p2, si p3, si c0, si c1, si c2, si c3, si mm, .unset, .unset] [(.ref b198), (.ref b194), (.ref b194)])) st202 ?_
   have f207 : Exa Z h202 b194 "java/lang/String" := ((A194.ext E198).wr W202)
   have f208 : Fld Z h202 b194 "java/lang/String" "value" "[B" .null := (Fld.other W202 ((D194 (Or.inr (ww hw 16 rfl)) (ty := (.array .byte)) (by decide)).ext E198) (Or.inl (Nat.ne_of_lt lt_b194_b198)))
   have f209 : Fld Z h202 b194 "java/lang/String" "coder" "B" (.int 0) := (Fld.other W202 ((D194 (Or.inr (ww hw 17 rfl)) (ty := .byte) (by decide)).ext E198) (Or.inl (Nat.ne_of_lt lt_b194_b198)))
   have O210 : Old Z n0 h202 := O0.keep K203 all0
   obtain ⟨v211, T211, L211, X211, hQ211, st211⟩ := callSp X202 hx hZ (y := y_9) rfl hown (ww hw 4 rfl) (ww hw 5 rfl) (ww hw 6 rfl) (by decide) (backOf (W := 1) (rmInit1 l Z a0 hw [] b194 b198 (1 : Int32) k198 ([c0] : List Int32) (.int 0) G1 h202 n0 (Nat.le_trans Z0 K203.1) V202 rfl (Nat.le_of_ble_eq_true rfl) (Nat.le_of_ble_eq_true rfl) (allI hbc0 (fun _ q => nomatch q)) f207 f208 f209 ge_b194 (Nat.ne_of_lt lt_b194_b198) hp0 hG1 hp4 hp5 hp6 O210) hZ (ww hw 6 rfl) (ww hw 2 rfl) (by decide) (by decide)) (g := (mkF m 67 #[si p1, si p2, si p3, si c0, si c1, si c2, si c3, si mm, .unset, .unset] [(.ref b198), (.ref b194), (.ref b194)])) rfl (by rw [hml]; rfl) (a := b194) (kc := 2) (ks := 195) (argsL := [(.ref b198)]) (rest := [(.ref b194)]) (lenOf pd_16 rfl) rfl (mr0 rfl) (hb hby at_67) e202 (by decide) (by decide)
   obtain ⟨t_211, cd_211, rfl, N211q, Kq211, q211_0, q211_1, q211_2⟩ := hQ211
   have N211 := Fr.app N204 N211q
   have hkS := Nat.le_trans hkS Kq211.1
   have C212 := C205.trans (CHr.keep Kq211 (allS sf206 all0) C205.1)
   have sf213 := Safe.keep Kq211 (allS sf206 all0) C205.1 sf206
   have K214 : Keep h0 T211.heap [] := K203.trans Kq211 (allS (P := fun x => x ∈ [] ∨ h0.size ≤ x) (Or.inr sz_b194) all0)
   have lt_b194_t_211 : b194 < t_211 := Nat.lt_of_lt_of_le f207.lt q211_0
   have lt_b198_t_211 : b198 < t_211 := Nat.lt_of_lt_of_le V202.lt q211_0
   have sz_t_211 : h0.size ≤ t_211 := Nat.le_trans K203.1 q211_0
   have ge_t_211 : n0 ≤ t_211 := Nat.le_trans Z0 sz_t_211
   have ne_t_211_b194 := q211_1
   refine go (S' := T211.setTop (mkF m 73 #[si p1, si p2, si p3, si c0, si c1, si c2, si c3, si mm, sr b194, .unset] [(.int c0)])) (fun t k => st211 _ (XS.astore X211.here hx rfl (hb hby at_70) rfl rfl (l' := #[si p1, si p2, si p3, si c0, si c1, si c2, si c3, si mm, sr b194, .unset]) rfl (XS.iloadN X211.here hx rfl (hb hby at_72) rfl k))) ?_
   obtain ⟨v215, T215, L215, X215, hQ215, st215⟩ := callSt X211 hx hZ (y := y_18) hown (ww hw 42 rfl) (ww hw 43 rfl) (ww hw 44 rfl) (ww hw 45 rfl) (by decide) (backOf (W := 0) (rmLet l Z a0 hw [] c0 T211.heap n0 (Nat.le_trans Z0 K214.1) ) hZ (ww hw 45 rfl) (ww hw 44 rfl) (by decide) (by decide)) (g := (mkF m 73 #[si p1, si p2, si p3, si c0, si c1, si c2, si c3, si mm, sr b194, .unset] [(.int c0)])) rfl (by rw [hml]; rfl) (kc := 0) (ks := 0) (argsL := [(.int c0)]) (rest := []) (lenOf pd_13 rfl) rfl (mr0 rfl) (hb hby at_73) rfl (by decide) (by decide)
   obtain ⟨rfl, N215q, e215⟩ := hQ215
   have N215 := Fr.app N211 N215q
   refine go (S' := T215.setTop (mkF m 1130 #[si p1, si p2, si p3, si c0, si c1, si c2, si c3, si mm, sr b194, si (own_let c0)] [(.ref b194)])) (fun t k => st215 _ (XS.istore X215.here hx rfl (hb hby at_76) rfl (l' := #[si p1, si p2, si p3, si c0, si c1, si c2, si c3, si mm, sr b194, si (own_let c0)]) rfl (XS.goto X215.here hx rfl (pc0 := 78) (pc' := 1128) rfl (hb hby at_78) (by decide) (by decide) (XS.aload X215.here hx rfl (hb hby at_1128) rfl rfl k)))) ?_
   have O216 : Old Z n0 T211.heap := O0.keep K214 all0
   obtain ⟨v217, T217, L217, X217, hQ217, st217⟩ := callSt X215 hx hZ (y := y_21) hown (ww hw 22 rfl) (ww hw 23 rfl) (ww hw 24 rfl) (ww hw 25 rfl) (by decide) (backOf (W := 0) (rmVa l Z a0 hw [] b194 t_211 cd_211 ([c0] : List Int32) G1 fm T211.heap n0 (Nat.le_trans Z0 K214.1) q211_2 (Nat.le_of_ble_eq_true rfl) hfm hp2 hp0 hG1 hp4 hp5 hp6 O216) hZ (ww hw 25 rfl) (ww hw 24 rfl) (by decide) (by decide)) (g := (mkF m 1130 #[si p1, si p2, si p3, si c0, si c1, si c2, si c3, si mm, sr b194, si (own_let c0)] [(.ref b194)])) rfl (by rw [hml]; rfl) (kc := 0) (ks := 0) (argsL := [(.ref b194)]) (rest := []) (lenOf pd_17 rfl) rfl (mr0 rfl) (hb hby at_1130) e215 (by decide) (by decide)
   obtain ⟨rfl, N217q, e217⟩ := hQ217
   have N217 := Fr.app N215 N217q
   refine go (S' := T217.setTop (mkF m 1135 #[si p1, si p2, si p3, si c0, si c1, si c2, si c3, si mm, sr b194, si (own_let c0)] [(.int (own_let c0)), (.int (own_val ([c0] : List Int32)))])) (fun t k => st217 _ (XS.iload X217.here hx rfl (hb hby at_1133) rfl k)) ?_
   have hc218 : (own_val ([c0] : List Int32)) = (own_let c0) := by rw [own_val_cons c0 ([] : List Int32) (Nat.le_of_ble_eq_true rfl)]; exact own_v1 _
   refine go (S' := T217.setTop (mkF m 1143 #[si p1, si p2, si p3, si c0, si c1, si c2, si c3, si mm, sr b194, si (own_let c0)] [(.int 1)])) (fun t k => XS.icmpNo X217.here hx rfl (hb hby at_1135) rfl (teq hc218).2 (XS.iconst X217.here hx rfl (hb hby at_1138) (XS.goto X217.here hx rfl (pc0 := 1139) (pc' := 1143) rfl (hb hby at_1139) (by decide) (by decide) k))) ?_
   refine finNW X217 hx hk (t := .boolean) hret (by simp) hS hkS hZ (own_EW hw) C212 e217 (hb hby at_1143) (by decide) (by decide) ?_
   exact ⟨rfl, N217, K214⟩
  ·
   refine go (S' := T0.setTop (mkF m 84 #[si p1, si p2, si p3, si c0, si c1, si c2, si c3, si mm, .unset, .unset] [(.int 2), (.int mm)])) (fun t k => XS.icmpYes X0.here hx rfl (pc0 := 53) (pc' := 81) rfl (hb hby at_53) rfl (feq hc193).2 (by decide) (by decide) (XS.iload X0.here hx rfl (hb hby at_81) rfl (XS.iconst X0.here hx rfl (hb hby at_83) k))) ?_
   by_cases hc219 : mm = (2 : Int32)
   ·
    refine go (S' := T0.setTop (mkF m 87 #[si p1, si p2, si p3, si c0, si c1, si c2, si c3, si mm, .unset, .unset] [])) (fun t k => XS.icmpNo X0.here hx rfl (hb hby at_84) rfl (teq hc219).2 k) ?_
    obtain ⟨T220, h220, X220, e220, E220, A220, D220, -, st220⟩ := newO X0 hx hZ hown (ww hw 0 rfl) (ww hw 1 rfl) (ww hw 2 rfl) e0 (g := (mkF m 87 #[si p1, si p2, si p3, si c0, si c1, si c2, si c3, si mm, .unset, .unset] [])) rfl (hb hby at_87) (by decide) (by decide)
    obtain ⟨b220, g220⟩ : ∃ z, z = h0.size := ⟨_, rfl⟩
    rw [← g220] at A220 D220 st220
    have ge_b220 : n0 ≤ b220 := by rw [g220]; exact (Nat.le_trans Z0 K0.1)
    have sz_b220 : h0.size ≤ b220 := by rw [g220]; exact K0.1
    have K221 : Keep h0 h220 [] := K0.ext E220
    have hkS := Nat.le_trans hkS E220.1
    have C222 := C0.trans (CHr.ext E220 C0.1)
    have sf223 := Safe.ext E220 C0.1 (Safe.new (Nat.le_of_eq g220.symm))
    refine go (S' := T220.setTop (mkF m 92 #[si p1, si p2, si p3, si c0, si c1, si c2, si c3, si mm, .unset, .unset] [(.int 2), (.ref b220), (.ref b220)])) (fun t k => st220 _ (XS.dup X220.here hx rfl (hb hby at_90) rfl rfl (XS.iconst X220.here hx rfl (hb hby at_91) k))) ?_
    obtain ⟨T224, h224, k224, X224, e224, E224, A224, st224⟩ := newP X220 hx hZ (ww hw 3 rfl) e220 (g := (mkF m 92 #[si p1, si p2, si p3, si c0, si c1, si c2, si c3, si mm, .unset, .unset] [(.int 2), (.ref b220), (.ref b220)])) rfl (hb hby at_92) rfl (by decide) (cap := 2) (by decide) (by decide) (by decide) (by decide)
    obtain ⟨b224, g224⟩ : ∃ z, z = h220.size := ⟨_, rfl⟩
    rw [← g224] at A224 st224
    have lt_b220_b224 : b220 < b224 := by rw [g224]; exact A220.lt
    have ge_b224 : n0 ≤ b224 := by rw [g224]; exact (Nat.le_trans Z0 K221.1)
    have sz_b224 : h0.size ≤ b224 := by rw [g224]; exact K221.1
    have K225 : Keep h0 h224 [] := K221.ext E224
    have hkS := Nat.le_trans hkS E224.1
    have C226 := C222.trans (CHr.ext E224 C222.1)
    have sf227 := Safe.ext E224 C222.1 sf223
    have V224 : Arv Z h224 b224 k224 .char (2 : Int32) [(.int 0), (.int 0)] (.int 0) := (Arv.new A224 (by decide)).pad (pad_rep [] (.int 0) 2)
    refine go (S' := T224.setTop (mkF m 97 #[si p1, si p2, si p3, si c0, si c1, si c2, si c3, si mm, .unset, .unset] [(.int c0), (.int 0), (.ref b224), (.ref b224), (.ref b220), (.ref b220)])) (fun t k => st224 _ (XS.dup X224.here hx rfl (hb hby at_94) rfl rfl (XS.iconst X224.here hx rfl (hb hby at_95) (XS.iloadN X224.here hx rfl (hb hby at_96) rfl k)))) ?_
    obtain ⟨T228, h228, X228, e228, W228, V228, st228⟩ := putC X224 hx hZ e224 V224 (j := (0 : Int32)) (x := c0) (oj_c16 hbc0) ⟨by decide, by decide⟩ (i := 0) rfl (Nat.le_of_ble_eq_true rfl) (g := (mkF m 97 #[si p1, si p2, si p3, si c0, si c1, si c2, si c3, si mm, .unset, .unset] [(.int c0), (.int 0), (.ref b224), (.ref b224), (.ref b220), (.ref b220)])) rfl rfl (hb hby at_97)
    have K229 : Keep h0 h228 [] := K225.wr W228 (Or.inr sz_b224)
    have N230 := Fr.snoc X228 N0 ge_b224
    have hkS := Nat.le_trans hkS (Keep.of_wr W228).1
    have C231 := C226.trans (CHr.wr W228 (safeArv hZ.alike V224 (by decide)) C226.1)
    have sf232 := Safe.wr W228 (safeArv hZ.alike V224 (by decide)) C226.1 sf227
    refine go (S' := T228.setTop (mkF m 102 #[si p1, si p2, si p3, si c0, si c1, si c2, si c3, si mm, .unset, .unset] [(.int c1), (.int 1), (.ref b224), (.ref b224), (.ref b220), (.ref b220)])) (fun t k => st228 _ (XS.dup X228.here hx rfl (hb hby at_98) rfl rfl (XS.iconst X228.here hx rfl (hb hby at_99) (XS.iload X228.here hx rfl (hb hby at_100) rfl k)))) ?_
    obtain ⟨T233, h233, X233, e233, W233, V233, st233⟩ := putC X228 hx hZ e228 V228 (j := (1 : Int32)) (x := c1) (oj_c16 hbc1) ⟨by decide, by decide⟩ (i := 1) rfl (Nat.le_of_ble_eq_true rfl) (g := (mkF m 102 #[si p1, si p2, si p3, si c0, si c1, si c2, si c3, si mm, .unset, .unset] [(.int c1), (.int 1), (.ref b224), (.ref b224), (.ref b220), (.ref b220)])) rfl rfl (hb hby at_102)
    have K234 : Keep h0 h233 [] := K229.wr W233 (Or.inr sz_b224)
    have N235 := Fr.snoc X233 N230 ge_b224
    have hkS := Nat.le_trans hkS (Keep.of_wr W233).1
    have C236 := C231.trans (CHr.wr W233 (safeArv hZ.alike V228 (by decide)) C231.1)
    have sf237 := Safe.wr W233 (safeArv hZ.alike V228 (by decide)) C231.1 sf232
    refine go (S' := T233.setTop (mkF m 103 #[si p1, si p2, si p3, si c0, si c1, si c2, si c3, si mm, .unset, .unset] [(.ref b224), (.ref b220), (.ref b220)])) st233 ?_
    have f238 : Exa Z h233 b220 "java/lang/String" := (((A220.ext E224).wr W228).wr W233)
    have f239 : Fld Z h233 b220 "java/lang/String" "value" "[B" .null := (Fld.other W233 (Fld.other W228 ((D220 (Or.inr (ww hw 16 rfl)) (ty := (.array .byte)) (by decide)).ext E224) (Or.inl (Nat.ne_of_lt lt_b220_b224))) (Or.inl (Nat.ne_of_lt lt_b220_b224)))
    have f240 : Fld Z h233 b220 "java/lang/String" "coder" "B" (.int 0) := (Fld.other W233 (Fld.other W228 ((D220 (Or.inr (ww hw 17 rfl)) (ty := .byte) (by decide)).ext E224) (Or.inl (Nat.ne_of_lt lt_b220_b224))) (Or.inl (Nat.ne_of_lt lt_b220_b224)))
    have O241 : Old Z n0 h233 := O0.keep K234 all0
    obtain ⟨v242, T242, L242, X242, hQ242, st242⟩ := callSp X233 hx hZ (y := y_9) rfl hown (ww hw 4 rfl) (ww hw 5 rfl) (ww hw 6 rfl) (by decide) (backOf (W := 1) (rmInit1 l Z a0 hw [] b220 b224 (2 : Int32) k224 ([c0, c1] : List Int32) (.int 0) G1 h233 n0 (Nat.le_trans Z0 K234.1) V233 rfl (Nat.le_of_ble_eq_true rfl) (Nat.le_of_ble_eq_true rfl) (allI hbc0 (allI hbc1 (fun _ q => nomatch q))) f238 f239 f240 ge_b220 (Nat.ne_of_lt lt_b220_b224) hp0 hG1 hp4 hp5 hp6 O241) hZ (ww hw 6 rfl) (ww hw 2 rfl) (by decide) (by decide)) (g := (mkF m 103 #[si p1, si p2, si p3, si c0, si c1, si c2, si c3, si mm, .unset, .unset] [(.ref b224), (.ref b220), (.ref b220)])) rfl (by rw [hml]; rfl) (a := b220) (kc := 2) (ks := 195) (argsL := [(.ref b224)]) (rest := [(.ref b220)]) (lenOf pd_16 rfl) rfl (mr0 rfl) (hb hby at_103) e233 (by decide) (by decide)
    obtain ⟨t_242, cd_242, rfl, N242q, Kq242, q242_0, q242_1, q242_2⟩ := hQ242
    have N242 := Fr.app N235 N242q
    have hkS := Nat.le_trans hkS Kq242.1
    have C243 := C236.trans (CHr.keep Kq242 (allS sf237 all0) C236.1)
    have sf244 := Safe.keep Kq242 (allS sf237 all0) C236.1 sf237
    have K245 : Keep h0 T242.heap [] := K234.trans Kq242 (allS (P := fun x => x ∈ [] ∨ h0.size ≤ x) (Or.inr sz_b220) all0)
    have lt_b220_t_242 : b220 < t_242 := Nat.lt_of_lt_of_le f238.lt q242_0
    have lt_b224_t_242 : b224 < t_242 := Nat.lt_of_lt_of_le V233.lt q242_0
    have sz_t_242 : h0.size ≤ t_242 := Nat.le_trans K234.1 q242_0
    have ge_t_242 : n0 ≤ t_242 := Nat.le_trans Z0 sz_t_242
    have ne_t_242_b220 := q242_1
    refine go (S' := T242.setTop (mkF m 109 #[si p1, si p2, si p3, si c0, si c1, si c2, si c3, si mm, sr b220, .unset] [(.int c0)])) (fun t k => st242 _ (XS.astore X242.here hx rfl (hb hby at_106) rfl rfl (l' := #[si p1, si p2, si p3, si c0, si c1, si c2, si c3, si mm, sr b220, .unset]) rfl (XS.iloadN X242.here hx rfl (hb hby at_108) rfl k))) ?_
    obtain ⟨v246, T246, L246, X246, hQ246, st246⟩ := callSt X242 hx hZ (y := y_18) hown (ww hw 42 rfl) (ww hw 43 rfl) (ww hw 44 rfl) (ww hw 45 rfl) (by decide) (backOf (W := 0) (rmLet l Z a0 hw [] c0 T242.heap n0 (Nat.le_trans Z0 K245.1) ) hZ (ww hw 45 rfl) (ww hw 44 rfl) (by decide) (by decide)) (g := (mkF m 109 #[si p1, si p2, si p3, si c0, si c1, si c2, si c3, si mm, sr b220, .unset] [(.int c0)])) rfl (by rw [hml]; rfl) (kc := 0) (ks := 0) (argsL := [(.int c0)]) (rest := []) (lenOf pd_13 rfl) rfl (mr0 rfl) (hb hby at_109) rfl (by decide) (by decide)
    obtain ⟨rfl, N246q, e246⟩ := hQ246
    have N246 := Fr.app N242 N246q
    refine go (S' := T246.setTop (mkF m 112 #[si p1, si p2, si p3, si c0, si c1, si c2, si c3, si mm, sr b220, .unset] [(.int (own_let c0))])) st246 ?_
    by_cases hc247 : (own_let c0) = (0 : Int32)
    ·
     refine go (S' := T246.setTop (mkF m 1130 #[si p1, si p2, si p3, si c0, si c1, si c2, si c3, si mm, sr b220, si 0] [(.ref b220)])) (fun t k => XS.ifYes X246.here hx rfl (pc0 := 112) (pc' := 127) rfl (hb hby at_112) rfl ((if0 _ _).trans (teq hc247).1) (by decide) (by decide) (XS.iconst X246.here hx rfl (hb hby at_127) (XS.istore X246.here hx rfl (hb hby at_128) rfl (l' := #[si p1, si p2, si p3, si c0, si c1, si c2, si c3, si mm, sr b220, si 0]) rfl (XS.goto X246.here hx rfl (pc0 := 130) (pc' := 1128) rfl (hb hby at_130) (by decide) (by decide) (XS.aload X246.here hx rfl (hb hby at_1128) rfl rfl k))))) ?_
     have O248 : Old Z n0 T242.heap := O0.keep K245 all0
     obtain ⟨v249, T249, L249, X249, hQ249, st249⟩ := callSt X246 hx hZ (y := y_21) hown (ww hw 22 rfl) (ww hw 23 rfl) (ww hw 24 rfl) (ww hw 25 rfl) (by decide) (backOf (W := 0) (rmVa l Z a0 hw [] b220 t_242 cd_242 ([c0, c1] : List Int32) G1 fm T242.heap n0 (Nat.le_trans Z0 K245.1) q242_2 (Nat.le_of_ble_eq_true rfl) hfm hp2 hp0 hG1 hp4 hp5 hp6 O248) hZ (ww hw 25 rfl) (ww hw 24 rfl) (by decide) (by decide)) (g := (mkF m 1130 #[si p1, si p2, si p3, si c0, si c1, si c2, si c3, si mm, sr b220, si 0] [(.ref b220)])) rfl (by rw [hml]; rfl) (kc := 0) (ks := 0) (argsL := [(.ref b220)]) (rest := []) (lenOf pd_17 rfl) rfl (mr0 rfl) (hb hby at_1130) e246 (by decide) (by decide)
     obtain ⟨rfl, N249q, e249⟩ := hQ249
     have N249 := Fr.app N246 N249q
     refine go (S' := T249.setTop (mkF m 1135 #[si p1, si p2, si p3, si c0, si c1, si c2, si c3, si mm, sr b220, si 0] [(.int 0), (.int (own_val ([c0, c1] : List Int32)))])) (fun t k => st249 _ (XS.iload X249.here hx rfl (hb hby at_1133) rfl k)) ?_
     have hc250 : (own_val ([c0, c1] : List Int32)) = (0 : Int32) := by rw [own_val_cons c0 ([c1] : List Int32) (Nat.le_of_ble_eq_true rfl), if_pos (show own_let c0 = 0 from hc247)]
     refine go (S' := T249.setTop (mkF m 1143 #[si p1, si p2, si p3, si c0, si c1, si c2, si c3, si mm, sr b220, si 0] [(.int 1)])) (fun t k => XS.icmpNo X249.here hx rfl (hb hby at_1135) rfl (teq hc250).2 (XS.iconst X249.here hx rfl (hb hby at_1138) (XS.goto X249.here hx rfl (pc0 := 1139) (pc' := 1143) rfl (hb hby at_1139) (by decide) (by decide) k))) ?_
     refine finNW X249 hx hk (t := .boolean) hret (by simp) hS hkS hZ (own_EW hw) C243 e249 (hb hby at_1143) (by decide) (by decide) ?_
     exact ⟨rfl, N249, K245⟩
    ·
     refine go (S' := T246.setTop (mkF m 117 #[si p1, si p2, si p3, si c0, si c1, si c2, si c3, si mm, sr b220, .unset] [(.int c1)])) (fun t k => XS.ifNo X246.here hx rfl (hb hby at_112) rfl ((if0 _ _).trans (feq hc247).1) (XS.iload X246.here hx rfl (hb hby at_115) rfl k)) ?_
     obtain ⟨v251, T251, L251, X251, hQ251, st251⟩ := callSt X246 hx hZ (y := y_20) hown (ww hw 110 rfl) (ww hw 111 rfl) (ww hw 44 rfl) (ww hw 112 rfl) (by decide) (backOf (W := 0) (rmPar l Z a0 hw [] c1 T242.heap n0 (Nat.le_trans Z0 K245.1) ) hZ (ww hw 112 rfl) (ww hw 44 rfl) (by decide) (by decide)) (g := (mkF m 117 #[si p1, si p2, si p3, si c0, si c1, si c2, si c3, si mm, sr b220, .unset] [(.int c1)])) rfl (by rw [hml]; rfl) (kc := 0) (ks := 0) (argsL := [(.int c1)]) (rest := []) (lenOf pd_13 rfl) rfl (mr0 rfl) (hb hby at_117) e246 (by decide) (by decide)
     obtain ⟨rfl, N251q, e251⟩ := hQ251
     have N251 := Fr.app N246 N251q
     refine go (S' := T251.setTop (mkF m 120 #[si p1, si p2, si p3, si c0, si c1, si c2, si c3, si mm, sr b220, .unset] [(.int (own_par c1))])) st251 ?_
     by_cases hc252 : (own_par c1) = (0 : Int32)
     ·
      refine go (S' := T251.setTop (mkF m 1130 #[si p1, si p2, si p3, si c0, si c1, si c2, si c3, si mm, sr b220, si 0] [(.ref b220)])) (fun t k => XS.ifYes X251.here hx rfl (pc0 := 120) (pc' := 127) rfl (hb hby at_120) rfl ((if0 _ _).trans (teq hc252).1) (by decide) (by decide) (XS.iconst X251.here hx rfl (hb hby at_127) (XS.istore X251.here hx rfl (hb hby at_128) rfl (l' := #[si p1, si p2, si p3, si c0, si c1, si c2, si c3, si mm, sr b220, si 0]) rfl (XS.goto X251.here hx rfl (pc0 := 130) (pc' := 1128) rfl (hb hby at_130) (by decide) (by decide) (XS.aload X251.here hx rfl (hb hby at_1128) rfl rfl k))))) ?_
      have O253 : Old Z n0 T242.heap := O0.keep K245 all0
      obtain ⟨v254, T254, L254, X254, hQ254, st254⟩ := callSt X251 hx hZ (y := y_21) hown (ww hw 22 rfl) (ww hw 23 rfl) (ww hw 24 rfl) (ww hw 25 rfl) (by decide) (backOf (W := 0) (rmVa l Z a0 hw [] b220 t_242 cd_242 ([c0, c1] : List Int32) G1 fm T242.heap n0 (Nat.le_trans Z0 K245.1) q242_2 (Nat.le_of_ble_eq_true rfl) hfm hp2 hp0 hG1 hp4 hp5 hp6 O253) hZ (ww hw 25 rfl) (ww hw 24 rfl) (by decide) (by decide)) (g := (mkF m 1130 #[si p1, si p2, si p3, si c0, si c1, si c2, si c3, si mm, sr b220, si 0] [(.ref b220)])) rfl (by rw [hml]; rfl) (kc := 0) (ks := 0) (argsL := [(.ref b220)]) (rest := []) (lenOf pd_17 rfl) rfl (mr0 rfl) (hb hby at_1130) e251 (by decide) (by decide)
      obtain ⟨rfl, N254q, e254⟩ := hQ254
      have N254 := Fr.app N251 N254q
      refine go (S' := T254.setTop (mkF m 1135 #[si p1, si p2, si p3, si c0, si c1, si c2, si c3, si mm, sr b220, si 0] [(.int 0), (.int (own_val ([c0, c1] : List Int32)))])) (fun t k => st254 _ (XS.iload X254.here hx rfl (hb hby at_1133) rfl k)) ?_
      have hc255 : (own_val ([c0, c1] : List Int32)) = (0 : Int32) := by rw [own_val_cons c0 ([c1] : List Int32) (Nat.le_of_ble_eq_true rfl), if_neg (show ¬ own_let c0 = 0 from hc247)]; show own_all [c1] = _; rw [own_all, if_pos (show own_par c1 = 0 from hc252)]
      refine go (S' := T254.setTop (mkF m 1143 #[si p1, si p2, si p3, si c0, si c1, si c2, si c3, si mm, sr b220, si 0] [(.int 1)])) (fun t k => XS.icmpNo X254.here hx rfl (hb hby at_1135) rfl (teq hc255).2 (XS.iconst X254.here hx rfl (hb hby at_1138) (XS.goto X254.here hx rfl (pc0 := 1139) (pc' := 1143) rfl (hb hby at_1139) (by decide) (by decide) k))) ?_
      refine finNW X254 hx hk (t := .boolean) hret (by simp) hS hkS hZ (own_EW hw) C243 e254 (hb hby at_1143) (by decide) (by decide) ?_
      exact ⟨rfl, N254, K245⟩
     ·
      refine go (S' := T251.setTop (mkF m 1130 #[si p1, si p2, si p3, si c0, si c1, si c2, si c3, si mm, sr b220, si 1] [(.ref b220)])) (fun t k => XS.ifNo X251.here hx rfl (hb hby at_120) rfl ((if0 _ _).trans (feq hc252).1) (XS.iconst X251.here hx rfl (hb hby at_123) (XS.goto X251.here hx rfl (pc0 := 124) (pc' := 128) rfl (hb hby at_124) (by decide) (by decide) (XS.istore X251.here hx rfl (hb hby at_128) rfl (l' := #[si p1, si p2, si p3, si c0, si c1, si c2, si c3, si mm, sr b220, si 1]) rfl (XS.goto X251.here hx rfl (pc0 := 130) (pc' := 1128) rfl (hb hby at_130) (by decide) (by decide) (XS.aload X251.here hx rfl (hb hby at_1128) rfl rfl k)))))) ?_
      have O256 : Old Z n0 T242.heap := O0.keep K245 all0
      obtain ⟨v257, T257, L257, X257, hQ257, st257⟩ := callSt X251 hx hZ (y := y_21) hown (ww hw 22 rfl) (ww hw 23 rfl) (ww hw 24 rfl) (ww hw 25 rfl) (by decide) (backOf (W := 0) (rmVa l Z a0 hw [] b220 t_242 cd_242 ([c0, c1] : List Int32) G1 fm T242.heap n0 (Nat.le_trans Z0 K245.1) q242_2 (Nat.le_of_ble_eq_true rfl) hfm hp2 hp0 hG1 hp4 hp5 hp6 O256) hZ (ww hw 25 rfl) (ww hw 24 rfl) (by decide) (by decide)) (g := (mkF m 1130 #[si p1, si p2, si p3, si c0, si c1, si c2, si c3, si mm, sr b220, si 1] [(.ref b220)])) rfl (by rw [hml]; rfl) (kc := 0) (ks := 0) (argsL := [(.ref b220)]) (rest := []) (lenOf pd_17 rfl) rfl (mr0 rfl) (hb hby at_1130) e251 (by decide) (by decide)
      obtain ⟨rfl, N257q, e257⟩ := hQ257
      have N257 := Fr.app N251 N257q
      refine go (S' := T257.setTop (mkF m 1135 #[si p1, si p2, si p3, si c0, si c1, si c2, si c3, si mm, sr b220, si 1] [(.int 1), (.int (own_val ([c0, c1] : List Int32)))])) (fun t k => st257 _ (XS.iload X257.here hx rfl (hb hby at_1133) rfl k)) ?_
      have hc258 : (own_val ([c0, c1] : List Int32)) = (1 : Int32) := by rw [own_val_cons c0 ([c1] : List Int32) (Nat.le_of_ble_eq_true rfl), if_neg (show ¬ own_let c0 = 0 from hc247)]; show own_all [c1] = _; rw [own_all, if_neg (show ¬ own_par c1 = 0 from hc252)]; rfl
      refine go (S' := T257.setTop (mkF m 1143 #[si p1, si p2, si p3, si c0, si c1, si c2, si c3, si mm, sr b220, si 1] [(.int 1)])) (fun t k => XS.icmpNo X257.here hx rfl (hb hby at_1135) rfl (teq hc258).2 (XS.iconst X257.here hx rfl (hb hby at_1138) (XS.goto X257.here hx rfl (pc0 := 1139) (pc' := 1143) rfl (hb hby at_1139) (by decide) (by decide) k))) ?_
      refine finNW X257 hx hk (t := .boolean) hret (by simp) hS hkS hZ (own_EW hw) C243 e257 (hb hby at_1143) (by decide) (by decide) ?_
      exact ⟨rfl, N257, K245⟩
   ·
    refine go (S' := T0.setTop (mkF m 136 #[si p1, si p2, si p3, si c0, si c1, si c2, si c3, si mm, .unset, .unset] [(.int 3), (.int mm)])) (fun t k => XS.icmpYes X0.here hx rfl (pc0 := 84) (pc' := 133) rfl (hb hby at_84) rfl (feq hc219).2 (by decide) (by decide) (XS.iload X0.here hx rfl (hb hby at_133) rfl (XS.iconst X0.here hx rfl (hb hby at_135) k))) ?_
    by_cases hc259 : mm = (3 : Int32)
    ·
     refine go (S' := T0.setTop (mkF m 139 #[si p1, si p2, si p3, si c0, si c1, si c2, si c3, si mm, .unset, .unset] [])) (fun t k => XS.icmpNo X0.here hx rfl (hb hby at_136) rfl (teq hc259).2 k) ?_
     obtain ⟨T260, h260, X260, e260, E260, A260, D260, -, st260⟩ := newO X0 hx hZ hown (ww hw 0 rfl) (ww hw 1 rfl) (ww hw 2 rfl) e0 (g := (mkF m 139 #[si p1, si p2, si p3, si c0, si c1, si c2, si c3, si mm, .unset, .unset] [])) rfl (hb hby at_139) (by decide) (by decide)
     obtain ⟨b260, g260⟩ : ∃ z, z = h0.size := ⟨_, rfl⟩
     rw [← g260] at A260 D260 st260
     have ge_b260 : n0 ≤ b260 := by rw [g260]; exact (Nat.le_trans Z0 K0.1)
     have sz_b260 : h0.size ≤ b260 := by rw [g260]; exact K0.1
     have K261 : Keep h0 h260 [] := K0.ext E260
     have hkS := Nat.le_trans hkS E260.1
     have C262 := C0.trans (CHr.ext E260 C0.1)
     have sf263 := Safe.ext E260 C0.1 (Safe.new (Nat.le_of_eq g260.symm))
     refine go (S' := T260.setTop (mkF m 144 #[si p1, si p2, si p3, si c0, si c1, si c2, si c3, si mm, .unset, .unset] [(.int 3), (.ref b260), (.ref b260)])) (fun t k => st260 _ (XS.dup X260.here hx rfl (hb hby at_142) rfl rfl (XS.iconst X260.here hx rfl (hb hby at_143) k))) ?_
     obtain ⟨T264, h264, k264, X264, e264, E264, A264, st264⟩ := newP X260 hx hZ (ww hw 3 rfl) e260 (g := (mkF m 144 #[si p1, si p2, si p3, si c0, si c1, si c2, si c3, si mm, .unset, .unset] [(.int 3), (.ref b260), (.ref b260)])) rfl (hb hby at_144) rfl (by decide) (cap := 3) (by decide) (by decide) (by decide) (by decide)
     obtain ⟨b264, g264⟩ : ∃ z, z = h260.size := ⟨_, rfl⟩
     rw [← g264] at A264 st264
     have lt_b260_b264 : b260 < b264 := by rw [g264]; exact A260.lt
     have ge_b264 : n0 ≤ b264 := by rw [g264]; exact (Nat.le_trans Z0 K261.1)
     have sz_b264 : h0.size ≤ b264 := by rw [g264]; exact K261.1
     have K265 : Keep h0 h264 [] := K261.ext E264
     have hkS := Nat.le_trans hkS E264.1
     have C266 := C262.trans (CHr.ext E264 C262.1)
     have sf267 := Safe.ext E264 C262.1 sf263
     have V264 : Arv Z h264 b264 k264 .char (3 : Int32) [(.int 0), (.int 0), (.int 0)] (.int 0) := (Arv.new A264 (by decide)).pad (pad_rep [] (.int 0) 3)
     refine go (S' := T264.setTop (mkF m 149 #[si p1, si p2, si p3, si c0, si c1, si c2, si c3, si mm, .unset, .unset] [(.int c0), (.int 0), (.ref b264), (.ref b264), (.ref b260), (.ref b260)])) (fun t k => st264 _ (XS.dup X264.here hx rfl (hb hby at_146) rfl rfl (XS.iconst X264.here hx rfl (hb hby at_147) (XS.iloadN X264.here hx rfl (hb hby at_148) rfl k)))) ?_
     obtain ⟨T268, h268, X268, e268, W268, V268, st268⟩ := putC X264 hx hZ e264 V264 (j := (0 : Int32)) (x := c0) (oj_c16 hbc0) ⟨by decide, by decide⟩ (i := 0) rfl (Nat.le_of_ble_eq_true rfl) (g := (mkF m 149 #[si p1, si p2, si p3, si c0, si c1, si c2, si c3, si mm, .unset, .unset] [(.int c0), (.int 0), (.ref b264), (.ref b264), (.ref b260), (.ref b260)])) rfl rfl (hb hby at_149)
     have K269 : Keep h0 h268 [] := K265.wr W268 (Or.inr sz_b264)
     have N270 := Fr.snoc X268 N0 ge_b264
     have hkS := Nat.le_trans hkS (Keep.of_wr W268).1
     have C271 := C266.trans (CHr.wr W268 (safeArv hZ.alike V264 (by decide)) C266.1)
     have sf272 := Safe.wr W268 (safeArv hZ.alike V264 (by decide)) C266.1 sf267
     refine go (S' := T268.setTop (mkF m 154 #[si p1, si p2, si p3, si c0, si c1, si c2, si c3, si mm, .unset, .unset] [(.int c1), (.int 1), (.ref b264), (.ref b264), (.ref b260), (.ref b260)])) (fun t k => st268 _ (XS.dup X268.here hx rfl (hb hby at_150) rfl rfl (XS.iconst X268.here hx rfl (hb hby at_151) (XS.iload X268.here hx rfl (hb hby at_152) rfl k)))) ?_
     obtain ⟨T273, h273, X273, e273, W273, V273, st273⟩ := putC X268 hx hZ e268 V268 (j := (1 : Int32)) (x := c1) (oj_c16 hbc1) ⟨by decide, by decide⟩ (i := 1) rfl (Nat.le_of_ble_eq_true rfl) (g := (mkF m 154 #[si p1, si p2, si p3, si c0, si c1, si c2, si c3, si mm, .unset, .unset] [(.int c1), (.int 1), (.ref b264), (.ref b264), (.ref b260), (.ref b260)])) rfl rfl (hb hby at_154)
     have K274 : Keep h0 h273 [] := K269.wr W273 (Or.inr sz_b264)
     have N275 := Fr.snoc X273 N270 ge_b264
     have hkS := Nat.le_trans hkS (Keep.of_wr W273).1
     have C276 := C271.trans (CHr.wr W273 (safeArv hZ.alike V268 (by decide)) C271.1)
     have sf277 := Safe.wr W273 (safeArv hZ.alike V268 (by decide)) C271.1 sf272
     refine go (S' := T273.setTop (mkF m 159 #[si p1, si p2, si p3, si c0, si c1, si c2, si c3, si mm, .unset, .unset] [(.int c2), (.int 2), (.ref b264), (.ref b264), (.ref b260), (.ref b260)])) (fun t k => st273 _ (XS.dup X273.here hx rfl (hb hby at_155) rfl rfl (XS.iconst X273.here hx rfl (hb hby at_156) (XS.iload X273.here hx rfl (hb hby at_157) rfl k)))) ?_
     obtain ⟨T278, h278, X278, e278, W278, V278, st278⟩ := putC X273 hx hZ e273 V273 (j := (2 : Int32)) (x := c2) (oj_c16 hbc2) ⟨by decide, by decide⟩ (i := 2) rfl (Nat.le_of_ble_eq_true rfl) (g := (mkF m 159 #[si p1, si p2, si p3, si c0, si c1, si c2, si c3, si mm, .unset, .unset] [(.int c2), (.int 2), (.ref b264), (.ref b264), (.ref b260), (.ref b260)])) rfl rfl (hb hby at_159)
     have K279 : Keep h0 h278 [] := K274.wr W278 (Or.inr sz_b264)
     have N280 := Fr.snoc X278 N275 ge_b264
     have hkS := Nat.le_trans hkS (Keep.of_wr W278).1
     have C281 := C276.trans (CHr.wr W278 (safeArv hZ.alike V273 (by decide)) C276.1)
     have sf282 := Safe.wr W278 (safeArv hZ.alike V273 (by decide)) C276.1 sf277
     refine go (S' := T278.setTop (mkF m 160 #[si p1, si p2, si p3, si c0, si c1, si c2, si c3, si mm, .unset, .unset] [(.ref b264), (.ref b260), (.ref b260)])) st278 ?_
     have f283 : Exa Z h278 b260 "java/lang/String" := ((((A260.ext E264).wr W268).wr W273).wr W278)
     have f284 : Fld Z h278 b260 "java/lang/String" "value" "[B" .null := (Fld.other W278 (Fld.other W273 (Fld.other W268 ((D260 (Or.inr (ww hw 16 rfl)) (ty := (.array .byte)) (by decide)).ext E264) (Or.inl (Nat.ne_of_lt lt_b260_b264))) (Or.inl (Nat.ne_of_lt lt_b260_b264))) (Or.inl (Nat.ne_of_lt lt_b260_b264)))
     have f285 : Fld Z h278 b260 "java/lang/String" "coder" "B" (.int 0) := (Fld.other W278 (Fld.other W273 (Fld.other W268 ((D260 (Or.inr (ww hw 17 rfl)) (ty := .byte) (by decide)).ext E264) (Or.inl (Nat.ne_of_lt lt_b260_b264))) (Or.inl (Nat.ne_of_lt lt_b260_b264))) (Or.inl (Nat.ne_of_lt lt_b260_b264)))
     have O286 : Old Z n0 h278 := O0.keep K279 all0
     obtain ⟨v287, T287, L287, X287, hQ287, st287⟩ := callSp X278 hx hZ (y := y_9) rfl hown (ww hw 4 rfl) (ww hw 5 rfl) (ww hw 6 rfl) (by decide) (backOf (W := 1) (rmInit1 l Z a0 hw [] b260 b264 (3 : Int32) k264 ([c0, c1, c2] : List Int32) (.int 0) G1 h278 n0 (Nat.le_trans Z0 K279.1) V278 rfl (Nat.le_of_ble_eq_true rfl) (Nat.le_of_ble_eq_true rfl) (allI hbc0 (allI hbc1 (allI hbc2 (fun _ q => nomatch q)))) f283 f284 f285 ge_b260 (Nat.ne_of_lt lt_b260_b264) hp0 hG1 hp4 hp5 hp6 O286) hZ (ww hw 6 rfl) (ww hw 2 rfl) (by decide) (by decide)) (g := (mkF m 160 #[si p1, si p2, si p3, si c0, si c1, si c2, si c3, si mm, .unset, .unset] [(.ref b264), (.ref b260), (.ref b260)])) rfl (by rw [hml]; rfl) (a := b260) (kc := 2) (ks := 195) (argsL := [(.ref b264)]) (rest := [(.ref b260)]) (lenOf pd_16 rfl) rfl (mr0 rfl) (hb hby at_160) e278 (by decide) (by decide)
     obtain ⟨t_287, cd_287, rfl, N287q, Kq287, q287_0, q287_1, q287_2⟩ := hQ287
     have N287 := Fr.app N280 N287q
     have hkS := Nat.le_trans hkS Kq287.1
     have C288 := C281.trans (CHr.keep Kq287 (allS sf282 all0) C281.1)
     have sf289 := Safe.keep Kq287 (allS sf282 all0) C281.1 sf282
     have K290 : Keep h0 T287.heap [] := K279.trans Kq287 (allS (P := fun x => x ∈ [] ∨ h0.size ≤ x) (Or.inr sz_b260) all0)
     have lt_b260_t_287 : b260 < t_287 := Nat.lt_of_lt_of_le f283.lt q287_0
     have lt_b264_t_287 : b264 < t_287 := Nat.lt_of_lt_of_le V278.lt q287_0
     have sz_t_287 : h0.size ≤ t_287 := Nat.le_trans K279.1 q287_0
     have ge_t_287 : n0 ≤ t_287 := Nat.le_trans Z0 sz_t_287
     have ne_t_287_b260 := q287_1
     refine go (S' := T287.setTop (mkF m 166 #[si p1, si p2, si p3, si c0, si c1, si c2, si c3, si mm, sr b260, .unset] [(.int c0)])) (fun t k => st287 _ (XS.astore X287.here hx rfl (hb hby at_163) rfl rfl (l' := #[si p1, si p2, si p3, si c0, si c1, si c2, si c3, si mm, sr b260, .unset]) rfl (XS.iloadN X287.here hx rfl (hb hby at_165) rfl k))) ?_
     obtain ⟨v291, T291, L291, X291, hQ291, st291⟩ := callSt X287 hx hZ (y := y_18) hown (ww hw 42 rfl) (ww hw 43 rfl) (ww hw 44 rfl) (ww hw 45 rfl) (by decide) (backOf (W := 0) (rmLet l Z a0 hw [] c0 T287.heap n0 (Nat.le_trans Z0 K290.1) ) hZ (ww hw 45 rfl) (ww hw 44 rfl) (by decide) (by decide)) (g := (mkF m 166 #[si p1, si p2, si p3, si c0, si c1, si c2, si c3, si mm, sr b260, .unset] [(.int c0)])) rfl (by rw [hml]; rfl) (kc := 0) (ks := 0) (argsL := [(.int c0)]) (rest := []) (lenOf pd_13 rfl) rfl (mr0 rfl) (hb hby at_166) rfl (by decide) (by decide)
     obtain ⟨rfl, N291q, e291⟩ := hQ291
     have N291 := Fr.app N287 N291q
     refine go (S' := T291.setTop (mkF m 169 #[si p1, si p2, si p3, si c0, si c1, si c2, si c3, si mm, sr b260, .unset] [(.int (own_let c0))])) st291 ?_
     by_cases hc292 : (own_let c0) = (0 : Int32)
     ·
      refine go (S' := T291.setTop (mkF m 1130 #[si p1, si p2, si p3, si c0, si c1, si c2, si c3, si mm, sr b260, si 0] [(.ref b260)])) (fun t k => XS.ifYes X291.here hx rfl (pc0 := 169) (pc' := 192) rfl (hb hby at_169) rfl ((if0 _ _).trans (teq hc292).1) (by decide) (by decide) (XS.iconst X291.here hx rfl (hb hby at_192) (XS.istore X291.here hx rfl (hb hby at_193) rfl (l' := #[si p1, si p2, si p3, si c0, si c1, si c2, si c3, si mm, sr b260, si 0]) rfl (XS.goto X291.here hx rfl (pc0 := 195) (pc' := 1128) rfl (hb hby at_195) (by decide) (by decide) (XS.aload X291.here hx rfl (hb hby at_1128) rfl rfl k))))) ?_
      have O293 : Old Z n0 T287.heap := O0.keep K290 all0
      obtain ⟨v294, T294, L294, X294, hQ294, st294⟩ := callSt X291 hx hZ (y := y_21) hown (ww hw 22 rfl) (ww hw 23 rfl) (ww hw 24 rfl) (ww hw 25 rfl) (by decide) (backOf (W := 0) (rmVa l Z a0 hw [] b260 t_287 cd_287 ([c0, c1, c2] : List Int32) G1 fm T287.heap n0 (Nat.le_trans Z0 K290.1) q287_2 (Nat.le_of_ble_eq_true rfl) hfm hp2 hp0 hG1 hp4 hp5 hp6 O293) hZ (ww hw 25 rfl) (ww hw 24 rfl) (by decide) (by decide)) (g := (mkF m 1130 #[si p1, si p2, si p3, si c0, si c1, si c2, si c3, si mm, sr b260, si 0] [(.ref b260)])) rfl (by rw [hml]; rfl) (kc := 0) (ks := 0) (argsL := [(.ref b260)]) (rest := []) (lenOf pd_17 rfl) rfl (mr0 rfl) (hb hby at_1130) e291 (by decide) (by decide)
      obtain ⟨rfl, N294q, e294⟩ := hQ294
      have N294 := Fr.app N291 N294q
      refine go (S' := T294.setTop (mkF m 1135 #[si p1, si p2, si p3, si c0, si c1, si c2, si c3, si mm, sr b260, si 0] [(.int 0), (.int (own_val ([c0, c1, c2] : List Int32)))])) (fun t k => st294 _ (XS.iload X294.here hx rfl (hb hby at_1133) rfl k)) ?_
      have hc295 : (own_val ([c0, c1, c2] : List Int32)) = (0 : Int32) := by rw [own_val_cons c0 ([c1, c2] : List Int32) (Nat.le_of_ble_eq_true rfl), if_pos (show own_let c0 = 0 from hc292)]
      refine go (S' := T294.setTop (mkF m 1143 #[si p1, si p2, si p3, si c0, si c1, si c2, si c3, si mm, sr b260, si 0] [(.int 1)])) (fun t k => XS.icmpNo X294.here hx rfl (hb hby at_1135) rfl (teq hc295).2 (XS.iconst X294.here hx rfl (hb hby at_1138) (XS.goto X294.here hx rfl (pc0 := 1139) (pc' := 1143) rfl (hb hby at_1139) (by decide) (by decide) k))) ?_
      refine finNW X294 hx hk (t := .boolean) hret (by simp) hS hkS hZ (own_EW hw) C288 e294 (hb hby at_1143) (by decide) (by decide) ?_
      exact ⟨rfl, N294, K290⟩
     ·
      refine go (S' := T291.setTop (mkF m 174 #[si p1, si p2, si p3, si c0, si c1, si c2, si c3, si mm, sr b260, .unset] [(.int c1)])) (fun t k => XS.ifNo X291.here hx rfl (hb hby at_169) rfl ((if0 _ _).trans (feq hc292).1) (XS.iload X291.here hx rfl (hb hby at_172) rfl k)) ?_
      obtain ⟨v296, T296, L296, X296, hQ296, st296⟩ := callSt X291 hx hZ (y := y_20) hown (ww hw 110 rfl) (ww hw 111 rfl) (ww hw 44 rfl) (ww hw 112 rfl) (by decide) (backOf (W := 0) (rmPar l Z a0 hw [] c1 T287.heap n0 (Nat.le_trans Z0 K290.1) ) hZ (ww hw 112 rfl) (ww hw 44 rfl) (by decide) (by decide)) (g := (mkF m 174 #[si p1, si p2, si p3, si c0, si c1, si c2, si c3, si mm, sr b260, .unset] [(.int c1)])) rfl (by rw [hml]; rfl) (kc := 0) (ks := 0) (argsL := [(.int c1)]) (rest := []) (lenOf pd_13 rfl) rfl (mr0 rfl) (hb hby at_174) e291 (by decide) (by decide)
      obtain ⟨rfl, N296q, e296⟩ := hQ296
      have N296 := Fr.app N291 N296q
      refine go (S' := T296.setTop (mkF m 177 #[si p1, si p2, si p3, si c0, si c1, si c2, si c3, si mm, sr b260, .unset] [(.int (own_par c1))])) st296 ?_
      by_cases hc297 : (own_par c1) = (0 : Int32)
      ·
       refine go (S' := T296.setTop (mkF m 1130 #[si p1, si p2, si p3, si c0, si c1, si c2, si c3, si mm, sr b260, si 0] [(.ref b260)])) (fun t k => XS.ifYes X296.here hx rfl (pc0 := 177) (pc' := 192) rfl (hb hby at_177) rfl ((if0 _ _).trans (teq hc297).1) (by decide) (by decide) (XS.iconst X296.here hx rfl (hb hby at_192) (XS.istore X296.here hx rfl (hb hby at_193) rfl (l' := #[si p1, si p2, si p3, si c0, si c1, si c2, si c3, si mm, sr b260, si 0]) rfl (XS.goto X296.here hx rfl (pc0 := 195) (pc' := 1128) rfl (hb hby at_195) (by decide) (by decide) (XS.aload X296.here hx rfl (hb hby at_1128) rfl rfl k))))) ?_
       have O298 : Old Z n0 T287.heap := O0.keep K290 all0
       obtain ⟨v299, T299, L299, X299, hQ299, st299⟩ := callSt X296 hx hZ (y := y_21) hown (ww hw 22 rfl) (ww hw 23 rfl) (ww hw 24 rfl) (ww hw 25 rfl) (by decide) (backOf (W := 0) (rmVa l Z a0 hw [] b260 t_287 cd_287 ([c0, c1, c2] : List Int32) G1 fm T287.heap n0 (Nat.le_trans Z0 K290.1) q287_2 (Nat.le_of_ble_eq_true rfl) hfm hp2 hp0 hG1 hp4 hp5 hp6 O298) hZ (ww hw 25 rfl) (ww hw 24 rfl) (by decide) (by decide)) (g := (mkF m 1130 #[si p1, si p2, si p3, si c0, si c1, si c2, si c3, si mm, sr b260, si 0] [(.ref b260)])) rfl (by rw [hml]; rfl) (kc := 0) (ks := 0) (argsL := [(.ref b260)]) (rest := []) (lenOf pd_17 rfl) rfl (mr0 rfl) (hb hby at_1130) e296 (by decide) (by decide)
       obtain ⟨rfl, N299q, e299⟩ := hQ299
       have N299 := Fr.app N296 N299q
       refine go (S' := T299.setTop (mkF m 1135 #[si p1, si p2, si p3, si c0, si c1, si c2, si c3, si mm, sr b260, si 0] [(.int 0), (.int (own_val ([c0, c1, c2] : List Int32)))])) (fun t k => st299 _ (XS.iload X299.here hx rfl (hb hby at_1133) rfl k)) ?_
       have hc300 : (own_val ([c0, c1, c2] : List Int32)) = (0 : Int32) := by rw [own_val_cons c0 ([c1, c2] : List Int32) (Nat.le_of_ble_eq_true rfl), if_neg (show ¬ own_let c0 = 0 from hc292)]; show own_all [c1, c2] = _; rw [own_all, if_pos (show own_par c1 = 0 from hc297)]
       refine go (S' := T299.setTop (mkF m 1143 #[si p1, si p2, si p3, si c0, si c1, si c2, si c3, si mm, sr b260, si 0] [(.int 1)])) (fun t k => XS.icmpNo X299.here hx rfl (hb hby at_1135) rfl (teq hc300).2 (XS.iconst X299.here hx rfl (hb hby at_1138) (XS.goto X299.here hx rfl (pc0 := 1139) (pc' := 1143) rfl (hb hby at_1139) (by decide) (by decide) k))) ?_
       refine finNW X299 hx hk (t := .boolean) hret (by simp) hS hkS hZ (own_EW hw) C288 e299 (hb hby at_1143) (by decide) (by decide) ?_
       exact ⟨rfl, N299, K290⟩
      ·
       refine go (S' := T296.setTop (mkF m 182 #[si p1, si p2, si p3, si c0, si c1, si c2, si c3, si mm, sr b260, .unset] [(.int c2)])) (fun t k => XS.ifNo X296.here hx rfl (hb hby at_177) rfl ((if0 _ _).trans (feq hc297).1) (XS.iload X296.here hx rfl (hb hby at_180) rfl k)) ?_
       obtain ⟨v301, T301, L301, X301, hQ301, st301⟩ := callSt X296 hx hZ (y := y_20) hown (ww hw 110 rfl) (ww hw 111 rfl) (ww hw 44 rfl) (ww hw 112 rfl) (by decide) (backOf (W := 0) (rmPar l Z a0 hw [] c2 T287.heap n0 (Nat.le_trans Z0 K290.1) ) hZ (ww hw 112 rfl) (ww hw 44 rfl) (by decide) (by decide)) (g := (mkF m 182 #[si p1, si p2, si p3, si c0, si c1, si c2, si c3, si mm, sr b260, .unset] [(.int c2)])) rfl (by rw [hml]; rfl) (kc := 0) (ks := 0) (argsL := [(.int c2)]) (rest := []) (lenOf pd_13 rfl) rfl (mr0 rfl) (hb hby at_182) e296 (by decide) (by decide)
       obtain ⟨rfl, N301q, e301⟩ := hQ301
       have N301 := Fr.app N296 N301q
       refine go (S' := T301.setTop (mkF m 185 #[si p1, si p2, si p3, si c0, si c1, si c2, si c3, si mm, sr b260, .unset] [(.int (own_par c2))])) st301 ?_
       by_cases hc302 : (own_par c2) = (0 : Int32)
       ·
        refine go (S' := T301.setTop (mkF m 1130 #[si p1, si p2, si p3, si c0, si c1, si c2, si c3, si mm, sr b260, si 0] [(.ref b260)])) (fun t k => XS.ifYes X301.here hx rfl (pc0 := 185) (pc' := 192) rfl (hb hby at_185) rfl ((if0 _ _).trans (teq hc302).1) (by decide) (by decide) (XS.iconst X301.here hx rfl (hb hby at_192) (XS.istore X301.here hx rfl (hb hby at_193) rfl (l' := #[si p1, si p2, si p3, si c0, si c1, si c2, si c3, si mm, sr b260, si 0]) rfl (XS.goto X301.here hx rfl (pc0 := 195) (pc' := 1128) rfl (hb hby at_195) (by decide) (by decide) (XS.aload X301.here hx rfl (hb hby at_1128) rfl rfl k))))) ?_
        have O303 : Old Z n0 T287.heap := O0.keep K290 all0
        obtain ⟨v304, T304, L304, X304, hQ304, st304⟩ := callSt X301 hx hZ (y := y_21) hown (ww hw 22 rfl) (ww hw 23 rfl) (ww hw 24 rfl) (ww hw 25 rfl) (by decide) (backOf (W := 0) (rmVa l Z a0 hw [] b260 t_287 cd_287 ([c0, c1, c2] : List Int32) G1 fm T287.heap n0 (Nat.le_trans Z0 K290.1) q287_2 (Nat.le_of_ble_eq_true rfl) hfm hp2 hp0 hG1 hp4 hp5 hp6 O303) hZ (ww hw 25 rfl) (ww hw 24 rfl) (by decide) (by decide)) (g := (mkF m 1130 #[si p1, si p2, si p3, si c0, si c1, si c2, si c3, si mm, sr b260, si 0] [(.ref b260)])) rfl (by rw [hml]; rfl) (kc := 0) (ks := 0) (argsL := [(.ref b260)]) (rest := []) (lenOf pd_17 rfl) rfl (mr0 rfl) (hb hby at_1130) e301 (by decide) (by decide)
        obtain ⟨rfl, N304q, e304⟩ := hQ304
        have N304 := Fr.app N301 N304q
        refine go (S' := T304.setTop (mkF m 1135 #[si p1, si p2, si p3, si c0, si c1, si c2, si c3, si mm, sr b260, si 0] [(.int 0), (.int (own_val ([c0, c1, c2] : List Int32)))])) (fun t k => st304 _ (XS.iload X304.here hx rfl (hb hby at_1133) rfl k)) ?_
        have hc305 : (own_val ([c0, c1, c2] : List Int32)) = (0 : Int32) := by rw [own_val_cons c0 ([c1, c2] : List Int32) (Nat.le_of_ble_eq_true rfl), if_neg (show ¬ own_let c0 = 0 from hc292)]; show own_all [c1, c2] = _; rw [own_all, if_neg (show ¬ own_par c1 = 0 from hc297)]; rw [own_all, if_pos (show own_par c2 = 0 from hc302)]
        refine go (S' := T304.setTop (mkF m 1143 #[si p1, si p2, si p3, si c0, si c1, si c2, si c3, si mm, sr b260, si 0] [(.int 1)])) (fun t k => XS.icmpNo X304.here hx rfl (hb hby at_1135) rfl (teq hc305).2 (XS.iconst X304.here hx rfl (hb hby at_1138) (XS.goto X304.here hx rfl (pc0 := 1139) (pc' := 1143) rfl (hb hby at_1139) (by decide) (by decide) k))) ?_
        refine finNW X304 hx hk (t := .boolean) hret (by simp) hS hkS hZ (own_EW hw) C288 e304 (hb hby at_1143) (by decide) (by decide) ?_
        exact ⟨rfl, N304, K290⟩
       ·
        refine go (S' := T301.setTop (mkF m 1130 #[si p1, si p2, si p3, si c0, si c1, si c2, si c3, si mm, sr b260, si 1] [(.ref b260)])) (fun t k => XS.ifNo X301.here hx rfl (hb hby at_185) rfl ((if0 _ _).trans (feq hc302).1) (XS.iconst X301.here hx rfl (hb hby at_188) (XS.goto X301.here hx rfl (pc0 := 189) (pc' := 193) rfl (hb hby at_189) (by decide) (by decide) (XS.istore X301.here hx rfl (hb hby at_193) rfl (l' := #[si p1, si p2, si p3, si c0, si c1, si c2, si c3, si mm, sr b260, si 1]) rfl (XS.goto X301.here hx rfl (pc0 := 195) (pc' := 1128) rfl (hb hby at_195) (by decide) (by decide) (XS.aload X301.here hx rfl (hb hby at_1128) rfl rfl k)))))) ?_
        have O306 : Old Z n0 T287.heap := O0.keep K290 all0
        obtain ⟨v307, T307, L307, X307, hQ307, st307⟩ := callSt X301 hx hZ (y := y_21) hown (ww hw 22 rfl) (ww hw 23 rfl) (ww hw 24 rfl) (ww hw 25 rfl) (by decide) (backOf (W := 0) (rmVa l Z a0 hw [] b260 t_287 cd_287 ([c0, c1, c2] : List Int32) G1 fm T287.heap n0 (Nat.le_trans Z0 K290.1) q287_2 (Nat.le_of_ble_eq_true rfl) hfm hp2 hp0 hG1 hp4 hp5 hp6 O306) hZ (ww hw 25 rfl) (ww hw 24 rfl) (by decide) (by decide)) (g := (mkF m 1130 #[si p1, si p2, si p3, si c0, si c1, si c2, si c3, si mm, sr b260, si 1] [(.ref b260)])) rfl (by rw [hml]; rfl) (kc := 0) (ks := 0) (argsL := [(.ref b260)]) (rest := []) (lenOf pd_17 rfl) rfl (mr0 rfl) (hb hby at_1130) e301 (by decide) (by decide)
        obtain ⟨rfl, N307q, e307⟩ := hQ307
        have N307 := Fr.app N301 N307q
        refine go (S' := T307.setTop (mkF m 1135 #[si p1, si p2, si p3, si c0, si c1, si c2, si c3, si mm, sr b260, si 1] [(.int 1), (.int (own_val ([c0, c1, c2] : List Int32)))])) (fun t k => st307 _ (XS.iload X307.here hx rfl (hb hby at_1133) rfl k)) ?_
        have hc308 : (own_val ([c0, c1, c2] : List Int32)) = (1 : Int32) := by rw [own_val_cons c0 ([c1, c2] : List Int32) (Nat.le_of_ble_eq_true rfl), if_neg (show ¬ own_let c0 = 0 from hc292)]; show own_all [c1, c2] = _; rw [own_all, if_neg (show ¬ own_par c1 = 0 from hc297)]; rw [own_all, if_neg (show ¬ own_par c2 = 0 from hc302)]; rfl
        refine go (S' := T307.setTop (mkF m 1143 #[si p1, si p2, si p3, si c0, si c1, si c2, si c3, si mm, sr b260, si 1] [(.int 1)])) (fun t k => XS.icmpNo X307.here hx rfl (hb hby at_1135) rfl (teq hc308).2 (XS.iconst X307.here hx rfl (hb hby at_1138) (XS.goto X307.here hx rfl (pc0 := 1139) (pc' := 1143) rfl (hb hby at_1139) (by decide) (by decide) k))) ?_
        refine finNW X307 hx hk (t := .boolean) hret (by simp) hS hkS hZ (own_EW hw) C288 e307 (hb hby at_1143) (by decide) (by decide) ?_
        exact ⟨rfl, N307, K290⟩
    ·
     refine go (S' := T0.setTop (mkF m 201 #[si p1, si p2, si p3, si c0, si c1, si c2, si c3, si mm, .unset, .unset] [(.int 4), (.int mm)])) (fun t k => XS.icmpYes X0.here hx rfl (pc0 := 136) (pc' := 198) rfl (hb hby at_136) rfl (feq hc259).2 (by decide) (by decide) (XS.iload X0.here hx rfl (hb hby at_198) rfl (XS.iconst X0.here hx rfl (hb hby at_200) k))) ?_
     by_cases hc309 : mm = (4 : Int32)
     ·
      refine go (S' := T0.setTop (mkF m 204 #[si p1, si p2, si p3, si c0, si c1, si c2, si c3, si mm, .unset, .unset] [])) (fun t k => XS.icmpNo X0.here hx rfl (hb hby at_201) rfl (teq hc309).2 k) ?_
      obtain ⟨T310, h310, X310, e310, E310, A310, D310, -, st310⟩ := newO X0 hx hZ hown (ww hw 0 rfl) (ww hw 1 rfl) (ww hw 2 rfl) e0 (g := (mkF m 204 #[si p1, si p2, si p3, si c0, si c1, si c2, si c3, si mm, .unset, .unset] [])) rfl (hb hby at_204) (by decide) (by decide)
      obtain ⟨b310, g310⟩ : ∃ z, z = h0.size := ⟨_, rfl⟩
      rw [← g310] at A310 D310 st310
      have ge_b310 : n0 ≤ b310 := by rw [g310]; exact (Nat.le_trans Z0 K0.1)
      have sz_b310 : h0.size ≤ b310 := by rw [g310]; exact K0.1
      have K311 : Keep h0 h310 [] := K0.ext E310
      have hkS := Nat.le_trans hkS E310.1
      have C312 := C0.trans (CHr.ext E310 C0.1)
      have sf313 := Safe.ext E310 C0.1 (Safe.new (Nat.le_of_eq g310.symm))
      refine go (S' := T310.setTop (mkF m 209 #[si p1, si p2, si p3, si c0, si c1, si c2, si c3, si mm, .unset, .unset] [(.int 4), (.ref b310), (.ref b310)])) (fun t k => st310 _ (XS.dup X310.here hx rfl (hb hby at_207) rfl rfl (XS.iconst X310.here hx rfl (hb hby at_208) k))) ?_
      obtain ⟨T314, h314, k314, X314, e314, E314, A314, st314⟩ := newP X310 hx hZ (ww hw 3 rfl) e310 (g := (mkF m 209 #[si p1, si p2, si p3, si c0, si c1, si c2, si c3, si mm, .unset, .unset] [(.int 4), (.ref b310), (.ref b310)])) rfl (hb hby at_209) rfl (by decide) (cap := 4) (by decide) (by decide) (by decide) (by decide)
      obtain ⟨b314, g314⟩ : ∃ z, z = h310.size := ⟨_, rfl⟩
      rw [← g314] at A314 st314
      have lt_b310_b314 : b310 < b314 := by rw [g314]; exact A310.lt
      have ge_b314 : n0 ≤ b314 := by rw [g314]; exact (Nat.le_trans Z0 K311.1)
      have sz_b314 : h0.size ≤ b314 := by rw [g314]; exact K311.1
      have K315 : Keep h0 h314 [] := K311.ext E314
      have hkS := Nat.le_trans hkS E314.1
      have C316 := C312.trans (CHr.ext E314 C312.1)
      have sf317 := Safe.ext E314 C312.1 sf313
      have V314 : Arv Z h314 b314 k314 .char (4 : Int32) [(.int 0), (.int 0), (.int 0), (.int 0)] (.int 0) := (Arv.new A314 (by decide)).pad (pad_rep [] (.int 0) 4)
      refine go (S' := T314.setTop (mkF m 214 #[si p1, si p2, si p3, si c0, si c1, si c2, si c3, si mm, .unset, .unset] [(.int c0), (.int 0), (.ref b314), (.ref b314), (.ref b310), (.ref b310)])) (fun t k => st314 _ (XS.dup X314.here hx rfl (hb hby at_211) rfl rfl (XS.iconst X314.here hx rfl (hb hby at_212) (XS.iloadN X314.here hx rfl (hb hby at_213) rfl k)))) ?_
      obtain ⟨T318, h318, X318, e318, W318, V318, st318⟩ := putC X314 hx hZ e314 V314 (j := (0 : Int32)) (x := c0) (oj_c16 hbc0) ⟨by decide, by decide⟩ (i := 0) rfl (Nat.le_of_ble_eq_true rfl) (g := (mkF m 214 #[si p1, si p2, si p3, si c0, si c1, si c2, si c3, si mm, .unset, .unset] [(.int c0), (.int 0), (.ref b314), (.ref b314), (.ref b310), (.ref b310)])) rfl rfl (hb hby at_214)
      have K319 : Keep h0 h318 [] := K315.wr W318 (Or.inr sz_b314)
      have N320 := Fr.snoc X318 N0 ge_b314
      have hkS := Nat.le_trans hkS (Keep.of_wr W318).1
      have C321 := C316.trans (CHr.wr W318 (safeArv hZ.alike V314 (by decide)) C316.1)
      have sf322 := Safe.wr W318 (safeArv hZ.alike V314 (by decide)) C316.1 sf317
      refine go (S' := T318.setTop (mkF m 219 #[si p1, si p2, si p3, si c0, si c1, si c2, si c3, si mm, .unset, .unset] [(.int c1), (.int 1), (.ref b314), (.ref b314), (.ref b310), (.ref b310)])) (fun t k => st318 _ (XS.dup X318.here hx rfl (hb hby at_215) rfl rfl (XS.iconst X318.here hx rfl (hb hby at_216) (XS.iload X318.here hx rfl (hb hby at_217) rfl k)))) ?_
      obtain ⟨T323, h323, X323, e323, W323, V323, st323⟩ := putC X318 hx hZ e318 V318 (j := (1 : Int32)) (x := c1) (oj_c16 hbc1) ⟨by decide, by decide⟩ (i := 1) rfl (Nat.le_of_ble_eq_true rfl) (g := (mkF m 219 #[si p1, si p2, si p3, si c0, si c1, si c2, si c3, si mm, .unset, .unset] [(.int c1), (.int 1), (.ref b314), (.ref b314), (.ref b310), (.ref b310)])) rfl rfl (hb hby at_219)
      have K324 : Keep h0 h323 [] := K319.wr W323 (Or.inr sz_b314)
      have N325 := Fr.snoc X323 N320 ge_b314
      have hkS := Nat.le_trans hkS (Keep.of_wr W323).1
      have C326 := C321.trans (CHr.wr W323 (safeArv hZ.alike V318 (by decide)) C321.1)
      have sf327 := Safe.wr W323 (safeArv hZ.alike V318 (by decide)) C321.1 sf322
      refine go (S' := T323.setTop (mkF m 224 #[si p1, si p2, si p3, si c0, si c1, si c2, si c3, si mm, .unset, .unset] [(.int c2), (.int 2), (.ref b314), (.ref b314), (.ref b310), (.ref b310)])) (fun t k => st323 _ (XS.dup X323.here hx rfl (hb hby at_220) rfl rfl (XS.iconst X323.here hx rfl (hb hby at_221) (XS.iload X323.here hx rfl (hb hby at_222) rfl k)))) ?_
      obtain ⟨T328, h328, X328, e328, W328, V328, st328⟩ := putC X323 hx hZ e323 V323 (j := (2 : Int32)) (x := c2) (oj_c16 hbc2) ⟨by decide, by decide⟩ (i := 2) rfl (Nat.le_of_ble_eq_true rfl) (g := (mkF m 224 #[si p1, si p2, si p3, si c0, si c1, si c2, si c3, si mm, .unset, .unset] [(.int c2), (.int 2), (.ref b314), (.ref b314), (.ref b310), (.ref b310)])) rfl rfl (hb hby at_224)
      have K329 : Keep h0 h328 [] := K324.wr W328 (Or.inr sz_b314)
      have N330 := Fr.snoc X328 N325 ge_b314
      have hkS := Nat.le_trans hkS (Keep.of_wr W328).1
      have C331 := C326.trans (CHr.wr W328 (safeArv hZ.alike V323 (by decide)) C326.1)
      have sf332 := Safe.wr W328 (safeArv hZ.alike V323 (by decide)) C326.1 sf327
      refine go (S' := T328.setTop (mkF m 229 #[si p1, si p2, si p3, si c0, si c1, si c2, si c3, si mm, .unset, .unset] [(.int c3), (.int 3), (.ref b314), (.ref b314), (.ref b310), (.ref b310)])) (fun t k => st328 _ (XS.dup X328.here hx rfl (hb hby at_225) rfl rfl (XS.iconst X328.here hx rfl (hb hby at_226) (XS.iload X328.here hx rfl (hb hby at_227) rfl k)))) ?_
      obtain ⟨T333, h333, X333, e333, W333, V333, st333⟩ := putC X328 hx hZ e328 V328 (j := (3 : Int32)) (x := c3) (oj_c16 hbc3) ⟨by decide, by decide⟩ (i := 3) rfl (Nat.le_of_ble_eq_true rfl) (g := (mkF m 229 #[si p1, si p2, si p3, si c0, si c1, si c2, si c3, si mm, .unset, .unset] [(.int c3), (.int 3), (.ref b314), (.ref b314), (.ref b310), (.ref b310)])) rfl rfl (hb hby at_229)
      have K334 : Keep h0 h333 [] := K329.wr W333 (Or.inr sz_b314)
      have N335 := Fr.snoc X333 N330 ge_b314
      have hkS := Nat.le_trans hkS (Keep.of_wr W333).1
      have C336 := C331.trans (CHr.wr W333 (safeArv hZ.alike V328 (by decide)) C331.1)
      have sf337 := Safe.wr W333 (safeArv hZ.alike V328 (by decide)) C331.1 sf332
      refine go (S' := T333.setTop (mkF m 230 #[si p1, si p2, si p3, si c0, si c1, si c2, si c3, si mm, .unset, .unset] [(.ref b314), (.ref b310), (.ref b310)])) st333 ?_
      have f338 : Exa Z h333 b310 "java/lang/String" := (((((A310.ext E314).wr W318).wr W323).wr W328).wr W333)
      have f339 : Fld Z h333 b310 "java/lang/String" "value" "[B" .null := (Fld.other W333 (Fld.other W328 (Fld.other W323 (Fld.other W318 ((D310 (Or.inr (ww hw 16 rfl)) (ty := (.array .byte)) (by decide)).ext E314) (Or.inl (Nat.ne_of_lt lt_b310_b314))) (Or.inl (Nat.ne_of_lt lt_b310_b314))) (Or.inl (Nat.ne_of_lt lt_b310_b314))) (Or.inl (Nat.ne_of_lt lt_b310_b314)))
      have f340 : Fld Z h333 b310 "java/lang/String" "coder" "B" (.int 0) := (Fld.other W333 (Fld.other W328 (Fld.other W323 (Fld.other W318 ((D310 (Or.inr (ww hw 17 rfl)) (ty := .byte) (by decide)).ext E314) (Or.inl (Nat.ne_of_lt lt_b310_b314))) (Or.inl (Nat.ne_of_lt lt_b310_b314))) (Or.inl (Nat.ne_of_lt lt_b310_b314))) (Or.inl (Nat.ne_of_lt lt_b310_b314)))
      have O341 : Old Z n0 h333 := O0.keep K334 all0
      obtain ⟨v342, T342, L342, X342, hQ342, st342⟩ := callSp X333 hx hZ (y := y_9) rfl hown (ww hw 4 rfl) (ww hw 5 rfl) (ww hw 6 rfl) (by decide) (backOf (W := 1) (rmInit1 l Z a0 hw [] b310 b314 (4 : Int32) k314 ([c0, c1, c2, c3] : List Int32) (.int 0) G1 h333 n0 (Nat.le_trans Z0 K334.1) V333 rfl (Nat.le_of_ble_eq_true rfl) (Nat.le_of_ble_eq_true rfl) (allI hbc0 (allI hbc1 (allI hbc2 (allI hbc3 (fun _ q => nomatch q))))) f338 f339 f340 ge_b310 (Nat.ne_of_lt lt_b310_b314) hp0 hG1 hp4 hp5 hp6 O341) hZ (ww hw 6 rfl) (ww hw 2 rfl) (by decide) (by decide)) (g := (mkF m 230 #[si p1, si p2, si p3, si c0, si c1, si c2, si c3, si mm, .unset, .unset] [(.ref b314), (.ref b310), (.ref b310)])) rfl (by rw [hml]; rfl) (a := b310) (kc := 2) (ks := 195) (argsL := [(.ref b314)]) (rest := [(.ref b310)]) (lenOf pd_16 rfl) rfl (mr0 rfl) (hb hby at_230) e333 (by decide) (by decide)
      obtain ⟨t_342, cd_342, rfl, N342q, Kq342, q342_0, q342_1, q342_2⟩ := hQ342
      have N342 := Fr.app N335 N342q
      have hkS := Nat.le_trans hkS Kq342.1
      have C343 := C336.trans (CHr.keep Kq342 (allS sf337 all0) C336.1)
      have sf344 := Safe.keep Kq342 (allS sf337 all0) C336.1 sf337
      have K345 : Keep h0 T342.heap [] := K334.trans Kq342 (allS (P := fun x => x ∈ [] ∨ h0.size ≤ x) (Or.inr sz_b310) all0)
      have lt_b310_t_342 : b310 < t_342 := Nat.lt_of_lt_of_le f338.lt q342_0
      have lt_b314_t_342 : b314 < t_342 := Nat.lt_of_lt_of_le V333.lt q342_0
      have sz_t_342 : h0.size ≤ t_342 := Nat.le_trans K334.1 q342_0
      have ge_t_342 : n0 ≤ t_342 := Nat.le_trans Z0 sz_t_342
      have ne_t_342_b310 := q342_1
      refine go (S' := T342.setTop (mkF m 236 #[si p1, si p2, si p3, si c0, si c1, si c2, si c3, si mm, sr b310, .unset] [(.int c0)])) (fun t k => st342 _ (XS.astore X342.here hx rfl (hb hby at_233) rfl rfl (l' := #[si p1, si p2, si p3, si c0, si c1, si c2, si c3, si mm, sr b310, .unset]) rfl (XS.iloadN X342.here hx rfl (hb hby at_235) rfl k))) ?_
      obtain ⟨v346, T346, L346, X346, hQ346, st346⟩ := callSt X342 hx hZ (y := y_18) hown (ww hw 42 rfl) (ww hw 43 rfl) (ww hw 44 rfl) (ww hw 45 rfl) (by decide) (backOf (W := 0) (rmLet l Z a0 hw [] c0 T342.heap n0 (Nat.le_trans Z0 K345.1) ) hZ (ww hw 45 rfl) (ww hw 44 rfl) (by decide) (by decide)) (g := (mkF m 236 #[si p1, si p2, si p3, si c0, si c1, si c2, si c3, si mm, sr b310, .unset] [(.int c0)])) rfl (by rw [hml]; rfl) (kc := 0) (ks := 0) (argsL := [(.int c0)]) (rest := []) (lenOf pd_13 rfl) rfl (mr0 rfl) (hb hby at_236) rfl (by decide) (by decide)
      obtain ⟨rfl, N346q, e346⟩ := hQ346
      have N346 := Fr.app N342 N346q
      refine go (S' := T346.setTop (mkF m 239 #[si p1, si p2, si p3, si c0, si c1, si c2, si c3, si mm, sr b310, .unset] [(.int (own_let c0))])) st346 ?_
      by_cases hc347 : (own_let c0) = (0 : Int32)
      ·
       refine go (S' := T346.setTop (mkF m 1130 #[si p1, si p2, si p3, si c0, si c1, si c2, si c3, si mm, sr b310, si 0] [(.ref b310)])) (fun t k => XS.ifYes X346.here hx rfl (pc0 := 239) (pc' := 270) rfl (hb hby at_239) rfl ((if0 _ _).trans (teq hc347).1) (by decide) (by decide) (XS.iconst X346.here hx rfl (hb hby at_270) (XS.istore X346.here hx rfl (hb hby at_271) rfl (l' := #[si p1, si p2, si p3, si c0, si c1, si c2, si c3, si mm, sr b310, si 0]) rfl (XS.goto X346.here hx rfl (pc0 := 273) (pc' := 1128) rfl (hb hby at_273) (by decide) (by decide) (XS.aload X346.here hx rfl (hb hby at_1128) rfl rfl k))))) ?_
       have O348 : Old Z n0 T342.heap := O0.keep K345 all0
       obtain ⟨v349, T349, L349, X349, hQ349, st349⟩ := callSt X346 hx hZ (y := y_21) hown (ww hw 22 rfl) (ww hw 23 rfl) (ww hw 24 rfl) (ww hw 25 rfl) (by decide) (backOf (W := 0) (rmVa l Z a0 hw [] b310 t_342 cd_342 ([c0, c1, c2, c3] : List Int32) G1 fm T342.heap n0 (Nat.le_trans Z0 K345.1) q342_2 (Nat.le_of_ble_eq_true rfl) hfm hp2 hp0 hG1 hp4 hp5 hp6 O348) hZ (ww hw 25 rfl) (ww hw 24 rfl) (by decide) (by decide)) (g := (mkF m 1130 #[si p1, si p2, si p3, si c0, si c1, si c2, si c3, si mm, sr b310, si 0] [(.ref b310)])) rfl (by rw [hml]; rfl) (kc := 0) (ks := 0) (argsL := [(.ref b310)]) (rest := []) (lenOf pd_17 rfl) rfl (mr0 rfl) (hb hby at_1130) e346 (by decide) (by decide)
       obtain ⟨rfl, N349q, e349⟩ := hQ349
       have N349 := Fr.app N346 N349q
       refine go (S' := T349.setTop (mkF m 1135 #[si p1, si p2, si p3, si c0, si c1, si c2, si c3, si mm, sr b310, si 0] [(.int 0), (.int (own_val ([c0, c1, c2, c3] : List Int32)))])) (fun t k => st349 _ (XS.iload X349.here hx rfl (hb hby at_1133) rfl k)) ?_
       have hc350 : (own_val ([c0, c1, c2, c3] : List Int32)) = (0 : Int32) := by rw [own_val_cons c0 ([c1, c2, c3] : List Int32) (Nat.le_of_ble_eq_true rfl), if_pos (show own_let c0 = 0 from hc347)]
       refine go (S' := T349.setTop (mkF m 1143 #[si p1, si p2, si p3, si c0, si c1, si c2, si c3, si mm, sr b310, si 0] [(.int 1)])) (fun t k => XS.icmpNo X349.here hx rfl (hb hby at_1135) rfl (teq hc350).2 (XS.iconst X349.here hx rfl (hb hby at_1138) (XS.goto X349.here hx rfl (pc0 := 1139) (pc' := 1143) rfl (hb hby at_1139) (by decide) (by decide) k))) ?_
       refine finNW X349 hx hk (t := .boolean) hret (by simp) hS hkS hZ (own_EW hw) C343 e349 (hb hby at_1143) (by decide) (by decide) ?_
       exact ⟨rfl, N349, K345⟩
      ·
       refine go (S' := T346.setTop (mkF m 244 #[si p1, si p2, si p3, si c0, si c1, si c2, si c3, si mm, sr b310, .unset] [(.int c1)])) (fun t k => XS.ifNo X346.here hx rfl (hb hby at_239) rfl ((if0 _ _).trans (feq hc347).1) (XS.iload X346.here hx rfl (hb hby at_242) rfl k)) ?_
       obtain ⟨v351, T351, L351, X351, hQ351, st351⟩ := callSt X346 hx hZ (y := y_20) hown (ww hw 110 rfl) (ww hw 111 rfl) (ww hw 44 rfl) (ww hw 112 rfl) (by decide) (backOf (W := 0) (rmPar l Z a0 hw [] c1 T342.heap n0 (Nat.le_trans Z0 K345.1) ) hZ (ww hw 112 rfl) (ww hw 44 rfl) (by decide) (by decide)) (g := (mkF m 244 #[si p1, si p2, si p3, si c0, si c1, si c2, si c3, si mm, sr b310, .unset] [(.int c1)])) rfl (by rw [hml]; rfl) (kc := 0) (ks := 0) (argsL := [(.int c1)]) (rest := []) (lenOf pd_13 rfl) rfl (mr0 rfl) (hb hby at_244) e346 (by decide) (by decide)
       obtain ⟨rfl, N351q, e351⟩ := hQ351
       have N351 := Fr.app N346 N351q
       refine go (S' := T351.setTop (mkF m 247 #[si p1, si p2, si p3, si c0, si c1, si c2, si c3, si mm, sr b310, .unset] [(.int (own_par c1))])) st351 ?_
       by_cases hc352 : (own_par c1) = (0 : Int32)
       ·
        refine go (S' := T351.setTop (mkF m 1130 #[si p1, si p2, si p3, si c0, si c1, si c2, si c3, si mm, sr b310, si 0] [(.ref b310)])) (fun t k => XS.ifYes X351.here hx rfl (pc0 := 247) (pc' := 270) rfl (hb hby at_247) rfl ((if0 _ _).trans (teq hc352).1) (by decide) (by decide) (XS.iconst X351.here hx rfl (hb hby at_270) (XS.istore X351.here hx rfl (hb hby at_271) rfl (l' := #[si p1, si p2, si p3, si c0, si c1, si c2, si c3, si mm, sr b310, si 0]) rfl (XS.goto X351.here hx rfl (pc0 := 273) (pc' := 1128) rfl (hb hby at_273) (by decide) (by decide) (XS.aload X351.here hx rfl (hb hby at_1128) rfl rfl k))))) ?_
        have O353 : Old Z n0 T342.heap := O0.keep K345 all0
        obtain ⟨v354, T354, L354, X354, hQ354, st354⟩ := callSt X351 hx hZ (y := y_21) hown (ww hw 22 rfl) (ww hw 23 rfl) (ww hw 24 rfl) (ww hw 25 rfl) (by decide) (backOf (W := 0) (rmVa l Z a0 hw [] b310 t_342 cd_342 ([c0, c1, c2, c3] : List Int32) G1 fm T342.heap n0 (Nat.le_trans Z0 K345.1) q342_2 (Nat.le_of_ble_eq_true rfl) hfm hp2 hp0 hG1 hp4 hp5 hp6 O353) hZ (ww hw 25 rfl) (ww hw 24 rfl) (by decide) (by decide)) (g := (mkF m 1130 #[si p1, si p2, si p3, si c0, si c1, si c2, si c3, si mm, sr b310, si 0] [(.ref b310)])) rfl (by rw [hml]; rfl) (kc := 0) (ks := 0) (argsL := [(.ref b310)]) (rest := []) (lenOf pd_17 rfl) rfl (mr0 rfl) (hb hby at_1130) e351 (by decide) (by decide)
        obtain ⟨rfl, N354q, e354⟩ := hQ354
        have N354 := Fr.app N351 N354q
        refine go (S' := T354.setTop (mkF m 1135 #[si p1, si p2, si p3, si c0, si c1, si c2, si c3, si mm, sr b310, si 0] [(.int 0), (.int (own_val ([c0, c1, c2, c3] : List Int32)))])) (fun t k => st354 _ (XS.iload X354.here hx rfl (hb hby at_1133) rfl k)) ?_
        have hc355 : (own_val ([c0, c1, c2, c3] : List Int32)) = (0 : Int32) := by rw [own_val_cons c0 ([c1, c2, c3] : List Int32) (Nat.le_of_ble_eq_true rfl), if_neg (show ¬ own_let c0 = 0 from hc347)]; show own_all [c1, c2, c3] = _; rw [own_all, if_pos (show own_par c1 = 0 from hc352)]
        refine go (S' := T354.setTop (mkF m 1143 #[si p1, si p2, si p3, si c0, si c1, si c2, si c3, si mm, sr b310, si 0] [(.int 1)])) (fun t k => XS.icmpNo X354.here hx rfl (hb hby at_1135) rfl (teq hc355).2 (XS.iconst X354.here hx rfl (hb hby at_1138) (XS.goto X354.here hx rfl (pc0 := 1139) (pc' := 1143) rfl (hb hby at_1139) (by decide) (by decide) k))) ?_
        refine finNW X354 hx hk (t := .boolean) hret (by simp) hS hkS hZ (own_EW hw) C343 e354 (hb hby at_1143) (by decide) (by decide) ?_
        exact ⟨rfl, N354, K345⟩
       ·
        refine go (S' := T351.setTop (mkF m 252 #[si p1, si p2, si p3, si c0, si c1, si c2, si c3, si mm, sr b310, .unset] [(.int c2)])) (fun t k => XS.ifNo X351.here hx rfl (hb hby at_247) rfl ((if0 _ _).trans (feq hc352).1) (XS.iload X351.here hx rfl (hb hby at_250) rfl k)) ?_
        obtain ⟨v356, T356, L356, X356, hQ356, st356⟩ := callSt X351 hx hZ (y := y_20) hown (ww hw 110 rfl) (ww hw 111 rfl) (ww hw 44 rfl) (ww hw 112 rfl) (by decide) (backOf (W := 0) (rmPar l Z a0 hw [] c2 T342.heap n0 (Nat.le_trans Z0 K345.1) ) hZ (ww hw 112 rfl) (ww hw 44 rfl) (by decide) (by decide)) (g := (mkF m 252 #[si p1, si p2, si p3, si c0, si c1, si c2, si c3, si mm, sr b310, .unset] [(.int c2)])) rfl (by rw [hml]; rfl) (kc := 0) (ks := 0) (argsL := [(.int c2)]) (rest := []) (lenOf pd_13 rfl) rfl (mr0 rfl) (hb hby at_252) e351 (by decide) (by decide)
        obtain ⟨rfl, N356q, e356⟩ := hQ356
        have N356 := Fr.app N351 N356q
        refine go (S' := T356.setTop (mkF m 255 #[si p1, si p2, si p3, si c0, si c1, si c2, si c3, si mm, sr b310, .unset] [(.int (own_par c2))])) st356 ?_
        by_cases hc357 : (own_par c2) = (0 : Int32)
        ·
         refine go (S' := T356.setTop (mkF m 1130 #[si p1, si p2, si p3, si c0, si c1, si c2, si c3, si mm, sr b310, si 0] [(.ref b310)])) (fun t k => XS.ifYes X356.here hx rfl (pc0 := 255) (pc' := 270) rfl (hb hby at_255) rfl ((if0 _ _).trans (teq hc357).1) (by decide) (by decide) (XS.iconst X356.here hx rfl (hb hby at_270) (XS.istore X356.here hx rfl (hb hby at_271) rfl (l' := #[si p1, si p2, si p3, si c0, si c1, si c2, si c3, si mm, sr b310, si 0]) rfl (XS.goto X356.here hx rfl (pc0 := 273) (pc' := 1128) rfl (hb hby at_273) (by decide) (by decide) (XS.aload X356.here hx rfl (hb hby at_1128) rfl rfl k))))) ?_
         have O358 : Old Z n0 T342.heap := O0.keep K345 all0
         obtain ⟨v359, T359, L359, X359, hQ359, st359⟩ := callSt X356 hx hZ (y := y_21) hown (ww hw 22 rfl) (ww hw 23 rfl) (ww hw 24 rfl) (ww hw 25 rfl) (by decide) (backOf (W := 0) (rmVa l Z a0 hw [] b310 t_342 cd_342 ([c0, c1, c2, c3] : List Int32) G1 fm T342.heap n0 (Nat.le_trans Z0 K345.1) q342_2 (Nat.le_of_ble_eq_true rfl) hfm hp2 hp0 hG1 hp4 hp5 hp6 O358) hZ (ww hw 25 rfl) (ww hw 24 rfl) (by decide) (by decide)) (g := (mkF m 1130 #[si p1, si p2, si p3, si c0, si c1, si c2, si c3, si mm, sr b310, si 0] [(.ref b310)])) rfl (by rw [hml]; rfl) (kc := 0) (ks := 0) (argsL := [(.ref b310)]) (rest := []) (lenOf pd_17 rfl) rfl (mr0 rfl) (hb hby at_1130) e356 (by decide) (by decide)
         obtain ⟨rfl, N359q, e359⟩ := hQ359
         have N359 := Fr.app N356 N359q
         refine go (S' := T359.setTop (mkF m 1135 #[si p1, si p2, si p3, si c0, si c1, si c2, si c3, si mm, sr b310, si 0] [(.int 0), (.int (own_val ([c0, c1, c2, c3] : List Int32)))])) (fun t k => st359 _ (XS.iload X359.here hx rfl (hb hby at_1133) rfl k)) ?_
         have hc360 : (own_val ([c0, c1, c2, c3] : List Int32)) = (0 : Int32) := by rw [own_val_cons c0 ([c1, c2, c3] : List Int32) (Nat.le_of_ble_eq_true rfl), if_neg (show ¬ own_let c0 = 0 from hc347)]; show own_all [c1, c2, c3] = _; rw [own_all, if_neg (show ¬ own_par c1 = 0 from hc352)]; rw [own_all, if_pos (show own_par c2 = 0 from hc357)]
         refine go (S' := T359.setTop (mkF m 1143 #[si p1, si p2, si p3, si c0, si c1, si c2, si c3, si mm, sr b310, si 0] [(.int 1)])) (fun t k => XS.icmpNo X359.here hx rfl (hb hby at_1135) rfl (teq hc360).2 (XS.iconst X359.here hx rfl (hb hby at_1138) (XS.goto X359.here hx rfl (pc0 := 1139) (pc' := 1143) rfl (hb hby at_1139) (by decide) (by decide) k))) ?_
         refine finNW X359 hx hk (t := .boolean) hret (by simp) hS hkS hZ (own_EW hw) C343 e359 (hb hby at_1143) (by decide) (by decide) ?_
         exact ⟨rfl, N359, K345⟩
        ·
         refine go (S' := T356.setTop (mkF m 260 #[si p1, si p2, si p3, si c0, si c1, si c2, si c3, si mm, sr b310, .unset] [(.int c3)])) (fun t k => XS.ifNo X356.here hx rfl (hb hby at_255) rfl ((if0 _ _).trans (feq hc357).1) (XS.iload X356.here hx rfl (hb hby at_258) rfl k)) ?_
         obtain ⟨v361, T361, L361, X361, hQ361, st361⟩ := callSt X356 hx hZ (y := y_20) hown (ww hw 110 rfl) (ww hw 111 rfl) (ww hw 44 rfl) (ww hw 112 rfl) (by decide) (backOf (W := 0) (rmPar l Z a0 hw [] c3 T342.heap n0 (Nat.le_trans Z0 K345.1) ) hZ (ww hw 112 rfl) (ww hw 44 rfl) (by decide) (by decide)) (g := (mkF m 260 #[si p1, si p2, si p3, si c0, si c1, si c2, si c3, si mm, sr b310, .unset] [(.int c3)])) rfl (by rw [hml]; rfl) (kc := 0) (ks := 0) (argsL := [(.int c3)]) (rest := []) (lenOf pd_13 rfl) rfl (mr0 rfl) (hb hby at_260) e356 (by decide) (by decide)
         obtain ⟨rfl, N361q, e361⟩ := hQ361
         have N361 := Fr.app N356 N361q
         refine go (S' := T361.setTop (mkF m 263 #[si p1, si p2, si p3, si c0, si c1, si c2, si c3, si mm, sr b310, .unset] [(.int (own_par c3))])) st361 ?_
         by_cases hc362 : (own_par c3) = (0 : Int32)
         ·
          refine go (S' := T361.setTop (mkF m 1130 #[si p1, si p2, si p3, si c0, si c1, si c2, si c3, si mm, sr b310, si 0] [(.ref b310)])) (fun t k => XS.ifYes X361.here hx rfl (pc0 := 263) (pc' := 270) rfl (hb hby at_263) rfl ((if0 _ _).trans (teq hc362).1) (by decide) (by decide) (XS.iconst X361.here hx rfl (hb hby at_270) (XS.istore X361.here hx rfl (hb hby at_271) rfl (l' := #[si p1, si p2, si p3, si c0, si c1, si c2, si c3, si mm, sr b310, si 0]) rfl (XS.goto X361.here hx rfl (pc0 := 273) (pc' := 1128) rfl (hb hby at_273) (by decide) (by decide) (XS.aload X361.here hx rfl (hb hby at_1128) rfl rfl k))))) ?_
          have O363 : Old Z n0 T342.heap := O0.keep K345 all0
          obtain ⟨v364, T364, L364, X364, hQ364, st364⟩ := callSt X361 hx hZ (y := y_21) hown (ww hw 22 rfl) (ww hw 23 rfl) (ww hw 24 rfl) (ww hw 25 rfl) (by decide) (backOf (W := 0) (rmVa l Z a0 hw [] b310 t_342 cd_342 ([c0, c1, c2, c3] : List Int32) G1 fm T342.heap n0 (Nat.le_trans Z0 K345.1) q342_2 (Nat.le_of_ble_eq_true rfl) hfm hp2 hp0 hG1 hp4 hp5 hp6 O363) hZ (ww hw 25 rfl) (ww hw 24 rfl) (by decide) (by decide)) (g := (mkF m 1130 #[si p1, si p2, si p3, si c0, si c1, si c2, si c3, si mm, sr b310, si 0] [(.ref b310)])) rfl (by rw [hml]; rfl) (kc := 0) (ks := 0) (argsL := [(.ref b310)]) (rest := []) (lenOf pd_17 rfl) rfl (mr0 rfl) (hb hby at_1130) e361 (by decide) (by decide)
          obtain ⟨rfl, N364q, e364⟩ := hQ364
          have N364 := Fr.app N361 N364q
          refine go (S' := T364.setTop (mkF m 1135 #[si p1, si p2, si p3, si c0, si c1, si c2, si c3, si mm, sr b310, si 0] [(.int 0), (.int (own_val ([c0, c1, c2, c3] : List Int32)))])) (fun t k => st364 _ (XS.iload X364.here hx rfl (hb hby at_1133) rfl k)) ?_
          have hc365 : (own_val ([c0, c1, c2, c3] : List Int32)) = (0 : Int32) := by rw [own_val_cons c0 ([c1, c2, c3] : List Int32) (Nat.le_of_ble_eq_true rfl), if_neg (show ¬ own_let c0 = 0 from hc347)]; show own_all [c1, c2, c3] = _; rw [own_all, if_neg (show ¬ own_par c1 = 0 from hc352)]; rw [own_all, if_neg (show ¬ own_par c2 = 0 from hc357)]; rw [own_all, if_pos (show own_par c3 = 0 from hc362)]
          refine go (S' := T364.setTop (mkF m 1143 #[si p1, si p2, si p3, si c0, si c1, si c2, si c3, si mm, sr b310, si 0] [(.int 1)])) (fun t k => XS.icmpNo X364.here hx rfl (hb hby at_1135) rfl (teq hc365).2 (XS.iconst X364.here hx rfl (hb hby at_1138) (XS.goto X364.here hx rfl (pc0 := 1139) (pc' := 1143) rfl (hb hby at_1139) (by decide) (by decide) k))) ?_
          refine finNW X364 hx hk (t := .boolean) hret (by simp) hS hkS hZ (own_EW hw) C343 e364 (hb hby at_1143) (by decide) (by decide) ?_
          exact ⟨rfl, N364, K345⟩
         ·
          refine go (S' := T361.setTop (mkF m 1130 #[si p1, si p2, si p3, si c0, si c1, si c2, si c3, si mm, sr b310, si 1] [(.ref b310)])) (fun t k => XS.ifNo X361.here hx rfl (hb hby at_263) rfl ((if0 _ _).trans (feq hc362).1) (XS.iconst X361.here hx rfl (hb hby at_266) (XS.goto X361.here hx rfl (pc0 := 267) (pc' := 271) rfl (hb hby at_267) (by decide) (by decide) (XS.istore X361.here hx rfl (hb hby at_271) rfl (l' := #[si p1, si p2, si p3, si c0, si c1, si c2, si c3, si mm, sr b310, si 1]) rfl (XS.goto X361.here hx rfl (pc0 := 273) (pc' := 1128) rfl (hb hby at_273) (by decide) (by decide) (XS.aload X361.here hx rfl (hb hby at_1128) rfl rfl k)))))) ?_
          have O366 : Old Z n0 T342.heap := O0.keep K345 all0
          obtain ⟨v367, T367, L367, X367, hQ367, st367⟩ := callSt X361 hx hZ (y := y_21) hown (ww hw 22 rfl) (ww hw 23 rfl) (ww hw 24 rfl) (ww hw 25 rfl) (by decide) (backOf (W := 0) (rmVa l Z a0 hw [] b310 t_342 cd_342 ([c0, c1, c2, c3] : List Int32) G1 fm T342.heap n0 (Nat.le_trans Z0 K345.1) q342_2 (Nat.le_of_ble_eq_true rfl) hfm hp2 hp0 hG1 hp4 hp5 hp6 O366) hZ (ww hw 25 rfl) (ww hw 24 rfl) (by decide) (by decide)) (g := (mkF m 1130 #[si p1, si p2, si p3, si c0, si c1, si c2, si c3, si mm, sr b310, si 1] [(.ref b310)])) rfl (by rw [hml]; rfl) (kc := 0) (ks := 0) (argsL := [(.ref b310)]) (rest := []) (lenOf pd_17 rfl) rfl (mr0 rfl) (hb hby at_1130) e361 (by decide) (by decide)
          obtain ⟨rfl, N367q, e367⟩ := hQ367
          have N367 := Fr.app N361 N367q
          refine go (S' := T367.setTop (mkF m 1135 #[si p1, si p2, si p3, si c0, si c1, si c2, si c3, si mm, sr b310, si 1] [(.int 1), (.int (own_val ([c0, c1, c2, c3] : List Int32)))])) (fun t k => st367 _ (XS.iload X367.here hx rfl (hb hby at_1133) rfl k)) ?_
          have hc368 : (own_val ([c0, c1, c2, c3] : List Int32)) = (1 : Int32) := by rw [own_val_cons c0 ([c1, c2, c3] : List Int32) (Nat.le_of_ble_eq_true rfl), if_neg (show ¬ own_let c0 = 0 from hc347)]; show own_all [c1, c2, c3] = _; rw [own_all, if_neg (show ¬ own_par c1 = 0 from hc352)]; rw [own_all, if_neg (show ¬ own_par c2 = 0 from hc357)]; rw [own_all, if_neg (show ¬ own_par c3 = 0 from hc362)]; rfl
          refine go (S' := T367.setTop (mkF m 1143 #[si p1, si p2, si p3, si c0, si c1, si c2, si c3, si mm, sr b310, si 1] [(.int 1)])) (fun t k => XS.icmpNo X367.here hx rfl (hb hby at_1135) rfl (teq hc368).2 (XS.iconst X367.here hx rfl (hb hby at_1138) (XS.goto X367.here hx rfl (pc0 := 1139) (pc' := 1143) rfl (hb hby at_1139) (by decide) (by decide) k))) ?_
          refine finNW X367 hx hk (t := .boolean) hret (by simp) hS hkS hZ (own_EW hw) C343 e367 (hb hby at_1143) (by decide) (by decide) ?_
          exact ⟨rfl, N367, K345⟩
     ·
      refine go (S' := T0.setTop (mkF m 279 #[si p1, si p2, si p3, si c0, si c1, si c2, si c3, si mm, .unset, .unset] [(.int 5), (.int mm)])) (fun t k => XS.icmpYes X0.here hx rfl (pc0 := 201) (pc' := 276) rfl (hb hby at_201) rfl (feq hc309).2 (by decide) (by decide) (XS.iload X0.here hx rfl (hb hby at_276) rfl (XS.iconst X0.here hx rfl (hb hby at_278) k))) ?_
      by_cases hc369 : mm = (5 : Int32)
      ·
       refine go (S' := T0.setTop (mkF m 282 #[si p1, si p2, si p3, si c0, si c1, si c2, si c3, si mm, .unset, .unset] [])) (fun t k => XS.icmpNo X0.here hx rfl (hb hby at_279) rfl (teq hc369).2 k) ?_
       obtain ⟨T370, h370, X370, e370, E370, A370, D370, -, st370⟩ := newO X0 hx hZ hown (ww hw 0 rfl) (ww hw 1 rfl) (ww hw 2 rfl) e0 (g := (mkF m 282 #[si p1, si p2, si p3, si c0, si c1, si c2, si c3, si mm, .unset, .unset] [])) rfl (hb hby at_282) (by decide) (by decide)
       obtain ⟨b370, g370⟩ : ∃ z, z = h0.size := ⟨_, rfl⟩
       rw [← g370] at A370 D370 st370
       have ge_b370 : n0 ≤ b370 := by rw [g370]; exact (Nat.le_trans Z0 K0.1)
       have sz_b370 : h0.size ≤ b370 := by rw [g370]; exact K0.1
       have K371 : Keep h0 h370 [] := K0.ext E370
       have hkS := Nat.le_trans hkS E370.1
       have C372 := C0.trans (CHr.ext E370 C0.1)
       have sf373 := Safe.ext E370 C0.1 (Safe.new (Nat.le_of_eq g370.symm))
       refine go (S' := T370.setTop (mkF m 288 #[si p1, si p2, si p3, si c0, si c1, si c2, si c3, si mm, .unset, .unset] [(.int 64), (.ref b370), (.ref b370)])) (fun t k => st370 _ (XS.dup X370.here hx rfl (hb hby at_285) rfl rfl (XS.bipush X370.here hx rfl (hb hby at_286) k))) ?_
       obtain ⟨T374, h374, k374, X374, e374, E374, A374, st374⟩ := newP X370 hx hZ (ww hw 3 rfl) e370 (g := (mkF m 288 #[si p1, si p2, si p3, si c0, si c1, si c2, si c3, si mm, .unset, .unset] [(.int 64), (.ref b370), (.ref b370)])) rfl (hb hby at_288) rfl (by decide) (cap := 64) (by decide) (by decide) (by decide) (by decide)
       obtain ⟨b374, g374⟩ : ∃ z, z = h370.size := ⟨_, rfl⟩
       rw [← g374] at A374 st374
       have lt_b370_b374 : b370 < b374 := by rw [g374]; exact A370.lt
       have ge_b374 : n0 ≤ b374 := by rw [g374]; exact (Nat.le_trans Z0 K371.1)
       have sz_b374 : h0.size ≤ b374 := by rw [g374]; exact K371.1
       have K375 : Keep h0 h374 [] := K371.ext E374
       have hkS := Nat.le_trans hkS E374.1
       have C376 := C372.trans (CHr.ext E374 C372.1)
       have sf377 := Safe.ext E374 C372.1 sf373
       have V374 : Arv Z h374 b374 k374 .char (64 : Int32) [] (.int 0) := Arv.new A374 (by decide)
       refine go (S' := T374.setTop (mkF m 293 #[si p1, si p2, si p3, si c0, si c1, si c2, si c3, si mm, .unset, .unset] [(.int c0), (.int 0), (.ref b374), (.ref b374), (.ref b370), (.ref b370)])) (fun t k => st374 _ (XS.dup X374.here hx rfl (hb hby at_290) rfl rfl (XS.iconst X374.here hx rfl (hb hby at_291) (XS.iloadN X374.here hx rfl (hb hby at_292) rfl k)))) ?_
       obtain ⟨T378, h378, ws378, X378, e378, W378, V378, hw378, hl378, st378⟩ := putS X374 hx hZ e374 V374 (j := (0 : Int32)) (x := c0) (oj_c16 hbc0) ⟨by decide, by decide⟩ (i := 0) rfl List.length_nil (g := (mkF m 293 #[si p1, si p2, si p3, si c0, si c1, si c2, si c3, si mm, .unset, .unset] [(.int c0), (.int 0), (.ref b374), (.ref b374), (.ref b370), (.ref b370)])) rfl rfl (hb hby at_293)
       have K379 : Keep h0 h378 [] := K375.wr W378 (Or.inr sz_b374)
       have N380 := Fr.snoc X378 N0 ge_b374
       have hkS := Nat.le_trans hkS (Keep.of_wr W378).1
       have C381 := C376.trans (CHr.wr W378 (safeArv hZ.alike V374 (by decide)) C376.1)
       have sf382 := Safe.wr W378 (safeArv hZ.alike V374 (by decide)) C376.1 sf377
       refine go (S' := T378.setTop (mkF m 298 #[si p1, si p2, si p3, si c0, si c1, si c2, si c3, si mm, .unset, .unset] [(.int c1), (.int 1), (.ref b374), (.ref b374), (.ref b370), (.ref b370)])) (fun t k => st378 _ (XS.dup X378.here hx rfl (hb hby at_294) rfl rfl (XS.iconst X378.here hx rfl (hb hby at_295) (XS.iload X378.here hx rfl (hb hby at_296) rfl k)))) ?_
       obtain ⟨T383, h383, ws383, X383, e383, W383, V383, hw383, hl383, st383⟩ := putS X378 hx hZ e378 V378 (j := (1 : Int32)) (x := c1) (oj_c16 hbc1) ⟨by decide, by decide⟩ (i := 1) rfl hl378 (g := (mkF m 298 #[si p1, si p2, si p3, si c0, si c1, si c2, si c3, si mm, .unset, .unset] [(.int c1), (.int 1), (.ref b374), (.ref b374), (.ref b370), (.ref b370)])) rfl rfl (hb hby at_298)
       have K384 : Keep h0 h383 [] := K379.wr W383 (Or.inr sz_b374)
       have N385 := Fr.snoc X383 N380 ge_b374
       have hkS := Nat.le_trans hkS (Keep.of_wr W383).1
       have C386 := C381.trans (CHr.wr W383 (safeArv hZ.alike V378 (by decide)) C381.1)
       have sf387 := Safe.wr W383 (safeArv hZ.alike V378 (by decide)) C381.1 sf382
       refine go (S' := T383.setTop (mkF m 303 #[si p1, si p2, si p3, si c0, si c1, si c2, si c3, si mm, .unset, .unset] [(.int 97), (.int 2), (.ref b374), (.ref b374), (.ref b370), (.ref b370)])) (fun t k => st383 _ (XS.dup X383.here hx rfl (hb hby at_299) rfl rfl (XS.iconst X383.here hx rfl (hb hby at_300) (XS.bipush X383.here hx rfl (hb hby at_301) k)))) ?_
       obtain ⟨T388, h388, ws388, X388, e388, W388, V388, hw388, hl388, st388⟩ := putS X383 hx hZ e383 V383 (j := (2 : Int32)) (x := (97 : Int32)) (by decide) ⟨by decide, by decide⟩ (i := 2) rfl hl383 (g := (mkF m 303 #[si p1, si p2, si p3, si c0, si c1, si c2, si c3, si mm, .unset, .unset] [(.int 97), (.int 2), (.ref b374), (.ref b374), (.ref b370), (.ref b370)])) rfl rfl (hb hby at_303)
       have K389 : Keep h0 h388 [] := K384.wr W388 (Or.inr sz_b374)
       have N390 := Fr.snoc X388 N385 ge_b374
       have hkS := Nat.le_trans hkS (Keep.of_wr W388).1
       have C391 := C386.trans (CHr.wr W388 (safeArv hZ.alike V383 (by decide)) C386.1)
       have sf392 := Safe.wr W388 (safeArv hZ.alike V383 (by decide)) C386.1 sf387
       refine go (S' := T388.setTop (mkF m 308 #[si p1, si p2, si p3, si c0, si c1, si c2, si c3, si mm, .unset, .unset] [(.int 122), (.int 3), (.ref b374), (.ref b374), (.ref b370), (.ref b370)])) (fun t k => st388 _ (XS.dup X388.here hx rfl (hb hby at_304) rfl rfl (XS.iconst X388.here hx rfl (hb hby at_305) (XS.bipush X388.here hx rfl (hb hby at_306) k)))) ?_
       obtain ⟨T393, h393, ws393, X393, e393, W393, V393, hw393, hl393, st393⟩ := putS X388 hx hZ e388 V388 (j := (3 : Int32)) (x := (122 : Int32)) (by decide) ⟨by decide, by decide⟩ (i := 3) rfl hl388 (g := (mkF m 308 #[si p1, si p2, si p3, si c0, si c1, si c2, si c3, si mm, .unset, .unset] [(.int 122), (.int 3), (.ref b374), (.ref b374), (.ref b370), (.ref b370)])) rfl rfl (hb hby at_308)
       have K394 : Keep h0 h393 [] := K389.wr W393 (Or.inr sz_b374)
       have N395 := Fr.snoc X393 N390 ge_b374
       have hkS := Nat.le_trans hkS (Keep.of_wr W393).1
       have C396 := C391.trans (CHr.wr W393 (safeArv hZ.alike V388 (by decide)) C391.1)
       have sf397 := Safe.wr W393 (safeArv hZ.alike V388 (by decide)) C391.1 sf392
       refine go (S' := T393.setTop (mkF m 313 #[si p1, si p2, si p3, si c0, si c1, si c2, si c3, si mm, .unset, .unset] [(.int 48), (.int 4), (.ref b374), (.ref b374), (.ref b370), (.ref b370)])) (fun t k => st393 _ (XS.dup X393.here hx rfl (hb hby at_309) rfl rfl (XS.iconst X393.here hx rfl (hb hby at_310) (XS.bipush X393.here hx rfl (hb hby at_311) k)))) ?_
       obtain ⟨T398, h398, ws398, X398, e398, W398, V398, hw398, hl398, st398⟩ := putS X393 hx hZ e393 V393 (j := (4 : Int32)) (x := (48 : Int32)) (by decide) ⟨by decide, by decide⟩ (i := 4) rfl hl393 (g := (mkF m 313 #[si p1, si p2, si p3, si c0, si c1, si c2, si c3, si mm, .unset, .unset] [(.int 48), (.int 4), (.ref b374), (.ref b374), (.ref b370), (.ref b370)])) rfl rfl (hb hby at_313)
       have K399 : Keep h0 h398 [] := K394.wr W398 (Or.inr sz_b374)
       have N400 := Fr.snoc X398 N395 ge_b374
       have hkS := Nat.le_trans hkS (Keep.of_wr W398).1
       have C401 := C396.trans (CHr.wr W398 (safeArv hZ.alike V393 (by decide)) C396.1)
       have sf402 := Safe.wr W398 (safeArv hZ.alike V393 (by decide)) C396.1 sf397
       refine go (S' := T398.setTop (mkF m 318 #[si p1, si p2, si p3, si c0, si c1, si c2, si c3, si mm, .unset, .unset] [(.int 57), (.int 5), (.ref b374), (.ref b374), (.ref b370), (.ref b370)])) (fun t k => st398 _ (XS.dup X398.here hx rfl (hb hby at_314) rfl rfl (XS.iconst X398.here hx rfl (hb hby at_315) (XS.bipush X398.here hx rfl (hb hby at_316) k)))) ?_
       obtain ⟨T403, h403, ws403, X403, e403, W403, V403, hw403, hl403, st403⟩ := putS X398 hx hZ e398 V398 (j := (5 : Int32)) (x := (57 : Int32)) (by decide) ⟨by decide, by decide⟩ (i := 5) rfl hl398 (g := (mkF m 318 #[si p1, si p2, si p3, si c0, si c1, si c2, si c3, si mm, .unset, .unset] [(.int 57), (.int 5), (.ref b374), (.ref b374), (.ref b370), (.ref b370)])) rfl rfl (hb hby at_318)
       have K404 : Keep h0 h403 [] := K399.wr W403 (Or.inr sz_b374)
       have N405 := Fr.snoc X403 N400 ge_b374
       have hkS := Nat.le_trans hkS (Keep.of_wr W403).1
       have C406 := C401.trans (CHr.wr W403 (safeArv hZ.alike V398 (by decide)) C401.1)
       have sf407 := Safe.wr W403 (safeArv hZ.alike V398 (by decide)) C401.1 sf402
       refine go (S' := T403.setTop (mkF m 324 #[si p1, si p2, si p3, si c0, si c1, si c2, si c3, si mm, .unset, .unset] [(.int 45), (.int 6), (.ref b374), (.ref b374), (.ref b370), (.ref b370)])) (fun t k => st403 _ (XS.dup X403.here hx rfl (hb hby at_319) rfl rfl (XS.bipush X403.here hx rfl (hb hby at_320) (XS.bipush X403.here hx rfl (hb hby at_322) k)))) ?_
       obtain ⟨T408, h408, ws408, X408, e408, W408, V408, hw408, hl408, st408⟩ := putS X403 hx hZ e403 V403 (j := (6 : Int32)) (x := (45 : Int32)) (by decide) ⟨by decide, by decide⟩ (i := 6) rfl hl403 (g := (mkF m 324 #[si p1, si p2, si p3, si c0, si c1, si c2, si c3, si mm, .unset, .unset] [(.int 45), (.int 6), (.ref b374), (.ref b374), (.ref b370), (.ref b370)])) rfl rfl (hb hby at_324)
       have K409 : Keep h0 h408 [] := K404.wr W408 (Or.inr sz_b374)
       have N410 := Fr.snoc X408 N405 ge_b374
       have hkS := Nat.le_trans hkS (Keep.of_wr W408).1
       have C411 := C406.trans (CHr.wr W408 (safeArv hZ.alike V403 (by decide)) C406.1)
       have sf412 := Safe.wr W408 (safeArv hZ.alike V403 (by decide)) C406.1 sf407
       refine go (S' := T408.setTop (mkF m 330 #[si p1, si p2, si p3, si c0, si c1, si c2, si c3, si mm, .unset, .unset] [(.int 109), (.int 7), (.ref b374), (.ref b374), (.ref b370), (.ref b370)])) (fun t k => st408 _ (XS.dup X408.here hx rfl (hb hby at_325) rfl rfl (XS.bipush X408.here hx rfl (hb hby at_326) (XS.bipush X408.here hx rfl (hb hby at_328) k)))) ?_
       obtain ⟨T413, h413, ws413, X413, e413, W413, V413, hw413, hl413, st413⟩ := putS X408 hx hZ e408 V408 (j := (7 : Int32)) (x := (109 : Int32)) (by decide) ⟨by decide, by decide⟩ (i := 7) rfl hl408 (g := (mkF m 330 #[si p1, si p2, si p3, si c0, si c1, si c2, si c3, si mm, .unset, .unset] [(.int 109), (.int 7), (.ref b374), (.ref b374), (.ref b370), (.ref b370)])) rfl rfl (hb hby at_330)
       have K414 : Keep h0 h413 [] := K409.wr W413 (Or.inr sz_b374)
       have N415 := Fr.snoc X413 N410 ge_b374
       have hkS := Nat.le_trans hkS (Keep.of_wr W413).1
       have C416 := C411.trans (CHr.wr W413 (safeArv hZ.alike V408 (by decide)) C411.1)
       have sf417 := Safe.wr W413 (safeArv hZ.alike V408 (by decide)) C411.1 sf412
       refine go (S' := T413.setTop (mkF m 336 #[si p1, si p2, si p3, si c0, si c1, si c2, si c3, si mm, .unset, .unset] [(.int 113), (.int 8), (.ref b374), (.ref b374), (.ref b370), (.ref b370)])) (fun t k => st413 _ (XS.dup X413.here hx rfl (hb hby at_331) rfl rfl (XS.bipush X413.here hx rfl (hb hby at_332) (XS.bipush X413.here hx rfl (hb hby at_334) k)))) ?_
       obtain ⟨T418, h418, ws418, X418, e418, W418, V418, hw418, hl418, st418⟩ := putS X413 hx hZ e413 V413 (j := (8 : Int32)) (x := (113 : Int32)) (by decide) ⟨by decide, by decide⟩ (i := 8) rfl hl413 (g := (mkF m 336 #[si p1, si p2, si p3, si c0, si c1, si c2, si c3, si mm, .unset, .unset] [(.int 113), (.int 8), (.ref b374), (.ref b374), (.ref b370), (.ref b370)])) rfl rfl (hb hby at_336)
       have K419 : Keep h0 h418 [] := K414.wr W418 (Or.inr sz_b374)
       have N420 := Fr.snoc X418 N415 ge_b374
       have hkS := Nat.le_trans hkS (Keep.of_wr W418).1
       have C421 := C416.trans (CHr.wr W418 (safeArv hZ.alike V413 (by decide)) C416.1)
       have sf422 := Safe.wr W418 (safeArv hZ.alike V413 (by decide)) C416.1 sf417
       refine go (S' := T418.setTop (mkF m 342 #[si p1, si p2, si p3, si c0, si c1, si c2, si c3, si mm, .unset, .unset] [(.int 53), (.int 9), (.ref b374), (.ref b374), (.ref b370), (.ref b370)])) (fun t k => st418 _ (XS.dup X418.here hx rfl (hb hby at_337) rfl rfl (XS.bipush X418.here hx rfl (hb hby at_338) (XS.bipush X418.here hx rfl (hb hby at_340) k)))) ?_
       obtain ⟨T423, h423, ws423, X423, e423, W423, V423, hw423, hl423, st423⟩ := putS X418 hx hZ e418 V418 (j := (9 : Int32)) (x := (53 : Int32)) (by decide) ⟨by decide, by decide⟩ (i := 9) rfl hl418 (g := (mkF m 342 #[si p1, si p2, si p3, si c0, si c1, si c2, si c3, si mm, .unset, .unset] [(.int 53), (.int 9), (.ref b374), (.ref b374), (.ref b370), (.ref b370)])) rfl rfl (hb hby at_342)
       have K424 : Keep h0 h423 [] := K419.wr W423 (Or.inr sz_b374)
       have N425 := Fr.snoc X423 N420 ge_b374
       have hkS := Nat.le_trans hkS (Keep.of_wr W423).1
       have C426 := C421.trans (CHr.wr W423 (safeArv hZ.alike V418 (by decide)) C421.1)
       have sf427 := Safe.wr W423 (safeArv hZ.alike V418 (by decide)) C421.1 sf422
       refine go (S' := T423.setTop (mkF m 348 #[si p1, si p2, si p3, si c0, si c1, si c2, si c3, si mm, .unset, .unset] [(.int 120), (.int 10), (.ref b374), (.ref b374), (.ref b370), (.ref b370)])) (fun t k => st423 _ (XS.dup X423.here hx rfl (hb hby at_343) rfl rfl (XS.bipush X423.here hx rfl (hb hby at_344) (XS.bipush X423.here hx rfl (hb hby at_346) k)))) ?_
       obtain ⟨T428, h428, ws428, X428, e428, W428, V428, hw428, hl428, st428⟩ := putS X423 hx hZ e423 V423 (j := (10 : Int32)) (x := (120 : Int32)) (by decide) ⟨by decide, by decide⟩ (i := 10) rfl hl423 (g := (mkF m 348 #[si p1, si p2, si p3, si c0, si c1, si c2, si c3, si mm, .unset, .unset] [(.int 120), (.int 10), (.ref b374), (.ref b374), (.ref b370), (.ref b370)])) rfl rfl (hb hby at_348)
       have K429 : Keep h0 h428 [] := K424.wr W428 (Or.inr sz_b374)
       have N430 := Fr.snoc X428 N425 ge_b374
       have hkS := Nat.le_trans hkS (Keep.of_wr W428).1
       have C431 := C426.trans (CHr.wr W428 (safeArv hZ.alike V423 (by decide)) C426.1)
       have sf432 := Safe.wr W428 (safeArv hZ.alike V423 (by decide)) C426.1 sf427
       refine go (S' := T428.setTop (mkF m 354 #[si p1, si p2, si p3, si c0, si c1, si c2, si c3, si mm, .unset, .unset] [(.int 107), (.int 11), (.ref b374), (.ref b374), (.ref b370), (.ref b370)])) (fun t k => st428 _ (XS.dup X428.here hx rfl (hb hby at_349) rfl rfl (XS.bipush X428.here hx rfl (hb hby at_350) (XS.bipush X428.here hx rfl (hb hby at_352) k)))) ?_
       obtain ⟨T433, h433, ws433, X433, e433, W433, V433, hw433, hl433, st433⟩ := putS X428 hx hZ e428 V428 (j := (11 : Int32)) (x := (107 : Int32)) (by decide) ⟨by decide, by decide⟩ (i := 11) rfl hl428 (g := (mkF m 354 #[si p1, si p2, si p3, si c0, si c1, si c2, si c3, si mm, .unset, .unset] [(.int 107), (.int 11), (.ref b374), (.ref b374), (.ref b370), (.ref b370)])) rfl rfl (hb hby at_354)
       have K434 : Keep h0 h433 [] := K429.wr W433 (Or.inr sz_b374)
       have N435 := Fr.snoc X433 N430 ge_b374
       have hkS := Nat.le_trans hkS (Keep.of_wr W433).1
       have C436 := C431.trans (CHr.wr W433 (safeArv hZ.alike V428 (by decide)) C431.1)
       have sf437 := Safe.wr W433 (safeArv hZ.alike V428 (by decide)) C431.1 sf432
       refine go (S' := T433.setTop (mkF m 360 #[si p1, si p2, si p3, si c0, si c1, si c2, si c3, si mm, .unset, .unset] [(.int 97), (.int 12), (.ref b374), (.ref b374), (.ref b370), (.ref b370)])) (fun t k => st433 _ (XS.dup X433.here hx rfl (hb hby at_355) rfl rfl (XS.bipush X433.here hx rfl (hb hby at_356) (XS.bipush X433.here hx rfl (hb hby at_358) k)))) ?_
       obtain ⟨T438, h438, ws438, X438, e438, W438, V438, hw438, hl438, st438⟩ := putS X433 hx hZ e433 V433 (j := (12 : Int32)) (x := (97 : Int32)) (by decide) ⟨by decide, by decide⟩ (i := 12) rfl hl433 (g := (mkF m 360 #[si p1, si p2, si p3, si c0, si c1, si c2, si c3, si mm, .unset, .unset] [(.int 97), (.int 12), (.ref b374), (.ref b374), (.ref b370), (.ref b370)])) rfl rfl (hb hby at_360)
       have K439 : Keep h0 h438 [] := K434.wr W438 (Or.inr sz_b374)
       have N440 := Fr.snoc X438 N435 ge_b374
       have hkS := Nat.le_trans hkS (Keep.of_wr W438).1
       have C441 := C436.trans (CHr.wr W438 (safeArv hZ.alike V433 (by decide)) C436.1)
       have sf442 := Safe.wr W438 (safeArv hZ.alike V433 (by decide)) C436.1 sf437
       refine go (S' := T438.setTop (mkF m 366 #[si p1, si p2, si p3, si c0, si c1, si c2, si c3, si mm, .unset, .unset] [(.int 122), (.int 13), (.ref b374), (.ref b374), (.ref b370), (.ref b370)])) (fun t k => st438 _ (XS.dup X438.here hx rfl (hb hby at_361) rfl rfl (XS.bipush X438.here hx rfl (hb hby at_362) (XS.bipush X438.here hx rfl (hb hby at_364) k)))) ?_
       obtain ⟨T443, h443, ws443, X443, e443, W443, V443, hw443, hl443, st443⟩ := putS X438 hx hZ e438 V438 (j := (13 : Int32)) (x := (122 : Int32)) (by decide) ⟨by decide, by decide⟩ (i := 13) rfl hl438 (g := (mkF m 366 #[si p1, si p2, si p3, si c0, si c1, si c2, si c3, si mm, .unset, .unset] [(.int 122), (.int 13), (.ref b374), (.ref b374), (.ref b370), (.ref b370)])) rfl rfl (hb hby at_366)
       have K444 : Keep h0 h443 [] := K439.wr W443 (Or.inr sz_b374)
       have N445 := Fr.snoc X443 N440 ge_b374
       have hkS := Nat.le_trans hkS (Keep.of_wr W443).1
       have C446 := C441.trans (CHr.wr W443 (safeArv hZ.alike V438 (by decide)) C441.1)
       have sf447 := Safe.wr W443 (safeArv hZ.alike V438 (by decide)) C441.1 sf442
       refine go (S' := T443.setTop (mkF m 372 #[si p1, si p2, si p3, si c0, si c1, si c2, si c3, si mm, .unset, .unset] [(.int 48), (.int 14), (.ref b374), (.ref b374), (.ref b370), (.ref b370)])) (fun t k => st443 _ (XS.dup X443.here hx rfl (hb hby at_367) rfl rfl (XS.bipush X443.here hx rfl (hb hby at_368) (XS.bipush X443.here hx rfl (hb hby at_370) k)))) ?_
       obtain ⟨T448, h448, ws448, X448, e448, W448, V448, hw448, hl448, st448⟩ := putS X443 hx hZ e443 V443 (j := (14 : Int32)) (x := (48 : Int32)) (by decide) ⟨by decide, by decide⟩ (i := 14) rfl hl443 (g := (mkF m 372 #[si p1, si p2, si p3, si c0, si c1, si c2, si c3, si mm, .unset, .unset] [(.int 48), (.int 14), (.ref b374), (.ref b374), (.ref b370), (.ref b370)])) rfl rfl (hb hby at_372)
       have K449 : Keep h0 h448 [] := K444.wr W448 (Or.inr sz_b374)
       have N450 := Fr.snoc X448 N445 ge_b374
       have hkS := Nat.le_trans hkS (Keep.of_wr W448).1
       have C451 := C446.trans (CHr.wr W448 (safeArv hZ.alike V443 (by decide)) C446.1)
       have sf452 := Safe.wr W448 (safeArv hZ.alike V443 (by decide)) C446.1 sf447
       refine go (S' := T448.setTop (mkF m 378 #[si p1, si p2, si p3, si c0, si c1, si c2, si c3, si mm, .unset, .unset] [(.int 57), (.int 15), (.ref b374), (.ref b374), (.ref b370), (.ref b370)])) (fun t k => st448 _ (XS.dup X448.here hx rfl (hb hby at_373) rfl rfl (XS.bipush X448.here hx rfl (hb hby at_374) (XS.bipush X448.here hx rfl (hb hby at_376) k)))) ?_
       obtain ⟨T453, h453, ws453, X453, e453, W453, V453, hw453, hl453, st453⟩ := putS X448 hx hZ e448 V448 (j := (15 : Int32)) (x := (57 : Int32)) (by decide) ⟨by decide, by decide⟩ (i := 15) rfl hl448 (g := (mkF m 378 #[si p1, si p2, si p3, si c0, si c1, si c2, si c3, si mm, .unset, .unset] [(.int 57), (.int 15), (.ref b374), (.ref b374), (.ref b370), (.ref b370)])) rfl rfl (hb hby at_378)
       have K454 : Keep h0 h453 [] := K449.wr W453 (Or.inr sz_b374)
       have N455 := Fr.snoc X453 N450 ge_b374
       have hkS := Nat.le_trans hkS (Keep.of_wr W453).1
       have C456 := C451.trans (CHr.wr W453 (safeArv hZ.alike V448 (by decide)) C451.1)
       have sf457 := Safe.wr W453 (safeArv hZ.alike V448 (by decide)) C451.1 sf452
       refine go (S' := T453.setTop (mkF m 384 #[si p1, si p2, si p3, si c0, si c1, si c2, si c3, si mm, .unset, .unset] [(.int 45), (.int 16), (.ref b374), (.ref b374), (.ref b370), (.ref b370)])) (fun t k => st453 _ (XS.dup X453.here hx rfl (hb hby at_379) rfl rfl (XS.bipush X453.here hx rfl (hb hby at_380) (XS.bipush X453.here hx rfl (hb hby at_382) k)))) ?_
       obtain ⟨T458, h458, ws458, X458, e458, W458, V458, hw458, hl458, st458⟩ := putS X453 hx hZ e453 V453 (j := (16 : Int32)) (x := (45 : Int32)) (by decide) ⟨by decide, by decide⟩ (i := 16) rfl hl453 (g := (mkF m 384 #[si p1, si p2, si p3, si c0, si c1, si c2, si c3, si mm, .unset, .unset] [(.int 45), (.int 16), (.ref b374), (.ref b374), (.ref b370), (.ref b370)])) rfl rfl (hb hby at_384)
       have K459 : Keep h0 h458 [] := K454.wr W458 (Or.inr sz_b374)
       have N460 := Fr.snoc X458 N455 ge_b374
       have hkS := Nat.le_trans hkS (Keep.of_wr W458).1
       have C461 := C456.trans (CHr.wr W458 (safeArv hZ.alike V453 (by decide)) C456.1)
       have sf462 := Safe.wr W458 (safeArv hZ.alike V453 (by decide)) C456.1 sf457
       refine go (S' := T458.setTop (mkF m 390 #[si p1, si p2, si p3, si c0, si c1, si c2, si c3, si mm, .unset, .unset] [(.int 109), (.int 17), (.ref b374), (.ref b374), (.ref b370), (.ref b370)])) (fun t k => st458 _ (XS.dup X458.here hx rfl (hb hby at_385) rfl rfl (XS.bipush X458.here hx rfl (hb hby at_386) (XS.bipush X458.here hx rfl (hb hby at_388) k)))) ?_
       obtain ⟨T463, h463, ws463, X463, e463, W463, V463, hw463, hl463, st463⟩ := putS X458 hx hZ e458 V458 (j := (17 : Int32)) (x := (109 : Int32)) (by decide) ⟨by decide, by decide⟩ (i := 17) rfl hl458 (g := (mkF m 390 #[si p1, si p2, si p3, si c0, si c1, si c2, si c3, si mm, .unset, .unset] [(.int 109), (.int 17), (.ref b374), (.ref b374), (.ref b370), (.ref b370)])) rfl rfl (hb hby at_390)
       have K464 : Keep h0 h463 [] := K459.wr W463 (Or.inr sz_b374)
       have N465 := Fr.snoc X463 N460 ge_b374
       have hkS := Nat.le_trans hkS (Keep.of_wr W463).1
       have C466 := C461.trans (CHr.wr W463 (safeArv hZ.alike V458 (by decide)) C461.1)
       have sf467 := Safe.wr W463 (safeArv hZ.alike V458 (by decide)) C461.1 sf462
       refine go (S' := T463.setTop (mkF m 396 #[si p1, si p2, si p3, si c0, si c1, si c2, si c3, si mm, .unset, .unset] [(.int 113), (.int 18), (.ref b374), (.ref b374), (.ref b370), (.ref b370)])) (fun t k => st463 _ (XS.dup X463.here hx rfl (hb hby at_391) rfl rfl (XS.bipush X463.here hx rfl (hb hby at_392) (XS.bipush X463.here hx rfl (hb hby at_394) k)))) ?_
       obtain ⟨T468, h468, ws468, X468, e468, W468, V468, hw468, hl468, st468⟩ := putS X463 hx hZ e463 V463 (j := (18 : Int32)) (x := (113 : Int32)) (by decide) ⟨by decide, by decide⟩ (i := 18) rfl hl463 (g := (mkF m 396 #[si p1, si p2, si p3, si c0, si c1, si c2, si c3, si mm, .unset, .unset] [(.int 113), (.int 18), (.ref b374), (.ref b374), (.ref b370), (.ref b370)])) rfl rfl (hb hby at_396)
       have K469 : Keep h0 h468 [] := K464.wr W468 (Or.inr sz_b374)
       have N470 := Fr.snoc X468 N465 ge_b374
       have hkS := Nat.le_trans hkS (Keep.of_wr W468).1
       have C471 := C466.trans (CHr.wr W468 (safeArv hZ.alike V463 (by decide)) C466.1)
       have sf472 := Safe.wr W468 (safeArv hZ.alike V463 (by decide)) C466.1 sf467
       refine go (S' := T468.setTop (mkF m 402 #[si p1, si p2, si p3, si c0, si c1, si c2, si c3, si mm, .unset, .unset] [(.int 53), (.int 19), (.ref b374), (.ref b374), (.ref b370), (.ref b370)])) (fun t k => st468 _ (XS.dup X468.here hx rfl (hb hby at_397) rfl rfl (XS.bipush X468.here hx rfl (hb hby at_398) (XS.bipush X468.here hx rfl (hb hby at_400) k)))) ?_
       obtain ⟨T473, h473, ws473, X473, e473, W473, V473, hw473, hl473, st473⟩ := putS X468 hx hZ e468 V468 (j := (19 : Int32)) (x := (53 : Int32)) (by decide) ⟨by decide, by decide⟩ (i := 19) rfl hl468 (g := (mkF m 402 #[si p1, si p2, si p3, si c0, si c1, si c2, si c3, si mm, .unset, .unset] [(.int 53), (.int 19), (.ref b374), (.ref b374), (.ref b370), (.ref b370)])) rfl rfl (hb hby at_402)
       have K474 : Keep h0 h473 [] := K469.wr W473 (Or.inr sz_b374)
       have N475 := Fr.snoc X473 N470 ge_b374
       have hkS := Nat.le_trans hkS (Keep.of_wr W473).1
       have C476 := C471.trans (CHr.wr W473 (safeArv hZ.alike V468 (by decide)) C471.1)
       have sf477 := Safe.wr W473 (safeArv hZ.alike V468 (by decide)) C471.1 sf472
       refine go (S' := T473.setTop (mkF m 408 #[si p1, si p2, si p3, si c0, si c1, si c2, si c3, si mm, .unset, .unset] [(.int 120), (.int 20), (.ref b374), (.ref b374), (.ref b370), (.ref b370)])) (fun t k => st473 _ (XS.dup X473.here hx rfl (hb hby at_403) rfl rfl (XS.bipush X473.here hx rfl (hb hby at_404) (XS.bipush X473.here hx rfl (hb hby at_406) k)))) ?_
       obtain ⟨T478, h478, ws478, X478, e478, W478, V478, hw478, hl478, st478⟩ := putS X473 hx hZ e473 V473 (j := (20 : Int32)) (x := (120 : Int32)) (by decide) ⟨by decide, by decide⟩ (i := 20) rfl hl473 (g := (mkF m 408 #[si p1, si p2, si p3, si c0, si c1, si c2, si c3, si mm, .unset, .unset] [(.int 120), (.int 20), (.ref b374), (.ref b374), (.ref b370), (.ref b370)])) rfl rfl (hb hby at_408)
       have K479 : Keep h0 h478 [] := K474.wr W478 (Or.inr sz_b374)
       have N480 := Fr.snoc X478 N475 ge_b374
       have hkS := Nat.le_trans hkS (Keep.of_wr W478).1
       have C481 := C476.trans (CHr.wr W478 (safeArv hZ.alike V473 (by decide)) C476.1)
       have sf482 := Safe.wr W478 (safeArv hZ.alike V473 (by decide)) C476.1 sf477
       refine go (S' := T478.setTop (mkF m 414 #[si p1, si p2, si p3, si c0, si c1, si c2, si c3, si mm, .unset, .unset] [(.int 107), (.int 21), (.ref b374), (.ref b374), (.ref b370), (.ref b370)])) (fun t k => st478 _ (XS.dup X478.here hx rfl (hb hby at_409) rfl rfl (XS.bipush X478.here hx rfl (hb hby at_410) (XS.bipush X478.here hx rfl (hb hby at_412) k)))) ?_
       obtain ⟨T483, h483, ws483, X483, e483, W483, V483, hw483, hl483, st483⟩ := putS X478 hx hZ e478 V478 (j := (21 : Int32)) (x := (107 : Int32)) (by decide) ⟨by decide, by decide⟩ (i := 21) rfl hl478 (g := (mkF m 414 #[si p1, si p2, si p3, si c0, si c1, si c2, si c3, si mm, .unset, .unset] [(.int 107), (.int 21), (.ref b374), (.ref b374), (.ref b370), (.ref b370)])) rfl rfl (hb hby at_414)
       have K484 : Keep h0 h483 [] := K479.wr W483 (Or.inr sz_b374)
       have N485 := Fr.snoc X483 N480 ge_b374
       have hkS := Nat.le_trans hkS (Keep.of_wr W483).1
       have C486 := C481.trans (CHr.wr W483 (safeArv hZ.alike V478 (by decide)) C481.1)
       have sf487 := Safe.wr W483 (safeArv hZ.alike V478 (by decide)) C481.1 sf482
       refine go (S' := T483.setTop (mkF m 420 #[si p1, si p2, si p3, si c0, si c1, si c2, si c3, si mm, .unset, .unset] [(.int 97), (.int 22), (.ref b374), (.ref b374), (.ref b370), (.ref b370)])) (fun t k => st483 _ (XS.dup X483.here hx rfl (hb hby at_415) rfl rfl (XS.bipush X483.here hx rfl (hb hby at_416) (XS.bipush X483.here hx rfl (hb hby at_418) k)))) ?_
       obtain ⟨T488, h488, ws488, X488, e488, W488, V488, hw488, hl488, st488⟩ := putS X483 hx hZ e483 V483 (j := (22 : Int32)) (x := (97 : Int32)) (by decide) ⟨by decide, by decide⟩ (i := 22) rfl hl483 (g := (mkF m 420 #[si p1, si p2, si p3, si c0, si c1, si c2, si c3, si mm, .unset, .unset] [(.int 97), (.int 22), (.ref b374), (.ref b374), (.ref b370), (.ref b370)])) rfl rfl (hb hby at_420)
       have K489 : Keep h0 h488 [] := K484.wr W488 (Or.inr sz_b374)
       have N490 := Fr.snoc X488 N485 ge_b374
       have hkS := Nat.le_trans hkS (Keep.of_wr W488).1
       have C491 := C486.trans (CHr.wr W488 (safeArv hZ.alike V483 (by decide)) C486.1)
       have sf492 := Safe.wr W488 (safeArv hZ.alike V483 (by decide)) C486.1 sf487
       refine go (S' := T488.setTop (mkF m 426 #[si p1, si p2, si p3, si c0, si c1, si c2, si c3, si mm, .unset, .unset] [(.int 122), (.int 23), (.ref b374), (.ref b374), (.ref b370), (.ref b370)])) (fun t k => st488 _ (XS.dup X488.here hx rfl (hb hby at_421) rfl rfl (XS.bipush X488.here hx rfl (hb hby at_422) (XS.bipush X488.here hx rfl (hb hby at_424) k)))) ?_
       obtain ⟨T493, h493, ws493, X493, e493, W493, V493, hw493, hl493, st493⟩ := putS X488 hx hZ e488 V488 (j := (23 : Int32)) (x := (122 : Int32)) (by decide) ⟨by decide, by decide⟩ (i := 23) rfl hl488 (g := (mkF m 426 #[si p1, si p2, si p3, si c0, si c1, si c2, si c3, si mm, .unset, .unset] [(.int 122), (.int 23), (.ref b374), (.ref b374), (.ref b370), (.ref b370)])) rfl rfl (hb hby at_426)
       have K494 : Keep h0 h493 [] := K489.wr W493 (Or.inr sz_b374)
       have N495 := Fr.snoc X493 N490 ge_b374
       have hkS := Nat.le_trans hkS (Keep.of_wr W493).1
       have C496 := C491.trans (CHr.wr W493 (safeArv hZ.alike V488 (by decide)) C491.1)
       have sf497 := Safe.wr W493 (safeArv hZ.alike V488 (by decide)) C491.1 sf492
       refine go (S' := T493.setTop (mkF m 432 #[si p1, si p2, si p3, si c0, si c1, si c2, si c3, si mm, .unset, .unset] [(.int 48), (.int 24), (.ref b374), (.ref b374), (.ref b370), (.ref b370)])) (fun t k => st493 _ (XS.dup X493.here hx rfl (hb hby at_427) rfl rfl (XS.bipush X493.here hx rfl (hb hby at_428) (XS.bipush X493.here hx rfl (hb hby at_430) k)))) ?_
       obtain ⟨T498, h498, ws498, X498, e498, W498, V498, hw498, hl498, st498⟩ := putS X493 hx hZ e493 V493 (j := (24 : Int32)) (x := (48 : Int32)) (by decide) ⟨by decide, by decide⟩ (i := 24) rfl hl493 (g := (mkF m 432 #[si p1, si p2, si p3, si c0, si c1, si c2, si c3, si mm, .unset, .unset] [(.int 48), (.int 24), (.ref b374), (.ref b374), (.ref b370), (.ref b370)])) rfl rfl (hb hby at_432)
       have K499 : Keep h0 h498 [] := K494.wr W498 (Or.inr sz_b374)
       have N500 := Fr.snoc X498 N495 ge_b374
       have hkS := Nat.le_trans hkS (Keep.of_wr W498).1
       have C501 := C496.trans (CHr.wr W498 (safeArv hZ.alike V493 (by decide)) C496.1)
       have sf502 := Safe.wr W498 (safeArv hZ.alike V493 (by decide)) C496.1 sf497
       refine go (S' := T498.setTop (mkF m 438 #[si p1, si p2, si p3, si c0, si c1, si c2, si c3, si mm, .unset, .unset] [(.int 57), (.int 25), (.ref b374), (.ref b374), (.ref b370), (.ref b370)])) (fun t k => st498 _ (XS.dup X498.here hx rfl (hb hby at_433) rfl rfl (XS.bipush X498.here hx rfl (hb hby at_434) (XS.bipush X498.here hx rfl (hb hby at_436) k)))) ?_
       obtain ⟨T503, h503, ws503, X503, e503, W503, V503, hw503, hl503, st503⟩ := putS X498 hx hZ e498 V498 (j := (25 : Int32)) (x := (57 : Int32)) (by decide) ⟨by decide, by decide⟩ (i := 25) rfl hl498 (g := (mkF m 438 #[si p1, si p2, si p3, si c0, si c1, si c2, si c3, si mm, .unset, .unset] [(.int 57), (.int 25), (.ref b374), (.ref b374), (.ref b370), (.ref b370)])) rfl rfl (hb hby at_438)
       have K504 : Keep h0 h503 [] := K499.wr W503 (Or.inr sz_b374)
       have N505 := Fr.snoc X503 N500 ge_b374
       have hkS := Nat.le_trans hkS (Keep.of_wr W503).1
       have C506 := C501.trans (CHr.wr W503 (safeArv hZ.alike V498 (by decide)) C501.1)
       have sf507 := Safe.wr W503 (safeArv hZ.alike V498 (by decide)) C501.1 sf502
       refine go (S' := T503.setTop (mkF m 444 #[si p1, si p2, si p3, si c0, si c1, si c2, si c3, si mm, .unset, .unset] [(.int 45), (.int 26), (.ref b374), (.ref b374), (.ref b370), (.ref b370)])) (fun t k => st503 _ (XS.dup X503.here hx rfl (hb hby at_439) rfl rfl (XS.bipush X503.here hx rfl (hb hby at_440) (XS.bipush X503.here hx rfl (hb hby at_442) k)))) ?_
       obtain ⟨T508, h508, ws508, X508, e508, W508, V508, hw508, hl508, st508⟩ := putS X503 hx hZ e503 V503 (j := (26 : Int32)) (x := (45 : Int32)) (by decide) ⟨by decide, by decide⟩ (i := 26) rfl hl503 (g := (mkF m 444 #[si p1, si p2, si p3, si c0, si c1, si c2, si c3, si mm, .unset, .unset] [(.int 45), (.int 26), (.ref b374), (.ref b374), (.ref b370), (.ref b370)])) rfl rfl (hb hby at_444)
       have K509 : Keep h0 h508 [] := K504.wr W508 (Or.inr sz_b374)
       have N510 := Fr.snoc X508 N505 ge_b374
       have hkS := Nat.le_trans hkS (Keep.of_wr W508).1
       have C511 := C506.trans (CHr.wr W508 (safeArv hZ.alike V503 (by decide)) C506.1)
       have sf512 := Safe.wr W508 (safeArv hZ.alike V503 (by decide)) C506.1 sf507
       refine go (S' := T508.setTop (mkF m 450 #[si p1, si p2, si p3, si c0, si c1, si c2, si c3, si mm, .unset, .unset] [(.int 109), (.int 27), (.ref b374), (.ref b374), (.ref b370), (.ref b370)])) (fun t k => st508 _ (XS.dup X508.here hx rfl (hb hby at_445) rfl rfl (XS.bipush X508.here hx rfl (hb hby at_446) (XS.bipush X508.here hx rfl (hb hby at_448) k)))) ?_
       obtain ⟨T513, h513, ws513, X513, e513, W513, V513, hw513, hl513, st513⟩ := putS X508 hx hZ e508 V508 (j := (27 : Int32)) (x := (109 : Int32)) (by decide) ⟨by decide, by decide⟩ (i := 27) rfl hl508 (g := (mkF m 450 #[si p1, si p2, si p3, si c0, si c1, si c2, si c3, si mm, .unset, .unset] [(.int 109), (.int 27), (.ref b374), (.ref b374), (.ref b370), (.ref b370)])) rfl rfl (hb hby at_450)
       have K514 : Keep h0 h513 [] := K509.wr W513 (Or.inr sz_b374)
       have N515 := Fr.snoc X513 N510 ge_b374
       have hkS := Nat.le_trans hkS (Keep.of_wr W513).1
       have C516 := C511.trans (CHr.wr W513 (safeArv hZ.alike V508 (by decide)) C511.1)
       have sf517 := Safe.wr W513 (safeArv hZ.alike V508 (by decide)) C511.1 sf512
       refine go (S' := T513.setTop (mkF m 456 #[si p1, si p2, si p3, si c0, si c1, si c2, si c3, si mm, .unset, .unset] [(.int 113), (.int 28), (.ref b374), (.ref b374), (.ref b370), (.ref b370)])) (fun t k => st513 _ (XS.dup X513.here hx rfl (hb hby at_451) rfl rfl (XS.bipush X513.here hx rfl (hb hby at_452) (XS.bipush X513.here hx rfl (hb hby at_454) k)))) ?_
       obtain ⟨T518, h518, ws518, X518, e518, W518, V518, hw518, hl518, st518⟩ := putS X513 hx hZ e513 V513 (j := (28 : Int32)) (x := (113 : Int32)) (by decide) ⟨by decide, by decide⟩ (i := 28) rfl hl513 (g := (mkF m 456 #[si p1, si p2, si p3, si c0, si c1, si c2, si c3, si mm, .unset, .unset] [(.int 113), (.int 28), (.ref b374), (.ref b374), (.ref b370), (.ref b370)])) rfl rfl (hb hby at_456)
       have K519 : Keep h0 h518 [] := K514.wr W518 (Or.inr sz_b374)
       have N520 := Fr.snoc X518 N515 ge_b374
       have hkS := Nat.le_trans hkS (Keep.of_wr W518).1
       have C521 := C516.trans (CHr.wr W518 (safeArv hZ.alike V513 (by decide)) C516.1)
       have sf522 := Safe.wr W518 (safeArv hZ.alike V513 (by decide)) C516.1 sf517
       refine go (S' := T518.setTop (mkF m 462 #[si p1, si p2, si p3, si c0, si c1, si c2, si c3, si mm, .unset, .unset] [(.int 53), (.int 29), (.ref b374), (.ref b374), (.ref b370), (.ref b370)])) (fun t k => st518 _ (XS.dup X518.here hx rfl (hb hby at_457) rfl rfl (XS.bipush X518.here hx rfl (hb hby at_458) (XS.bipush X518.here hx rfl (hb hby at_460) k)))) ?_
       obtain ⟨T523, h523, ws523, X523, e523, W523, V523, hw523, hl523, st523⟩ := putS X518 hx hZ e518 V518 (j := (29 : Int32)) (x := (53 : Int32)) (by decide) ⟨by decide, by decide⟩ (i := 29) rfl hl518 (g := (mkF m 462 #[si p1, si p2, si p3, si c0, si c1, si c2, si c3, si mm, .unset, .unset] [(.int 53), (.int 29), (.ref b374), (.ref b374), (.ref b370), (.ref b370)])) rfl rfl (hb hby at_462)
       have K524 : Keep h0 h523 [] := K519.wr W523 (Or.inr sz_b374)
       have N525 := Fr.snoc X523 N520 ge_b374
       have hkS := Nat.le_trans hkS (Keep.of_wr W523).1
       have C526 := C521.trans (CHr.wr W523 (safeArv hZ.alike V518 (by decide)) C521.1)
       have sf527 := Safe.wr W523 (safeArv hZ.alike V518 (by decide)) C521.1 sf522
       refine go (S' := T523.setTop (mkF m 468 #[si p1, si p2, si p3, si c0, si c1, si c2, si c3, si mm, .unset, .unset] [(.int 120), (.int 30), (.ref b374), (.ref b374), (.ref b370), (.ref b370)])) (fun t k => st523 _ (XS.dup X523.here hx rfl (hb hby at_463) rfl rfl (XS.bipush X523.here hx rfl (hb hby at_464) (XS.bipush X523.here hx rfl (hb hby at_466) k)))) ?_
       obtain ⟨T528, h528, ws528, X528, e528, W528, V528, hw528, hl528, st528⟩ := putS X523 hx hZ e523 V523 (j := (30 : Int32)) (x := (120 : Int32)) (by decide) ⟨by decide, by decide⟩ (i := 30) rfl hl523 (g := (mkF m 468 #[si p1, si p2, si p3, si c0, si c1, si c2, si c3, si mm, .unset, .unset] [(.int 120), (.int 30), (.ref b374), (.ref b374), (.ref b370), (.ref b370)])) rfl rfl (hb hby at_468)
       have K529 : Keep h0 h528 [] := K524.wr W528 (Or.inr sz_b374)
       have N530 := Fr.snoc X528 N525 ge_b374
       have hkS := Nat.le_trans hkS (Keep.of_wr W528).1
       have C531 := C526.trans (CHr.wr W528 (safeArv hZ.alike V523 (by decide)) C526.1)
       have sf532 := Safe.wr W528 (safeArv hZ.alike V523 (by decide)) C526.1 sf527
       refine go (S' := T528.setTop (mkF m 474 #[si p1, si p2, si p3, si c0, si c1, si c2, si c3, si mm, .unset, .unset] [(.int 107), (.int 31), (.ref b374), (.ref b374), (.ref b370), (.ref b370)])) (fun t k => st528 _ (XS.dup X528.here hx rfl (hb hby at_469) rfl rfl (XS.bipush X528.here hx rfl (hb hby at_470) (XS.bipush X528.here hx rfl (hb hby at_472) k)))) ?_
       obtain ⟨T533, h533, ws533, X533, e533, W533, V533, hw533, hl533, st533⟩ := putS X528 hx hZ e528 V528 (j := (31 : Int32)) (x := (107 : Int32)) (by decide) ⟨by decide, by decide⟩ (i := 31) rfl hl528 (g := (mkF m 474 #[si p1, si p2, si p3, si c0, si c1, si c2, si c3, si mm, .unset, .unset] [(.int 107), (.int 31), (.ref b374), (.ref b374), (.ref b370), (.ref b370)])) rfl rfl (hb hby at_474)
       have K534 : Keep h0 h533 [] := K529.wr W533 (Or.inr sz_b374)
       have N535 := Fr.snoc X533 N530 ge_b374
       have hkS := Nat.le_trans hkS (Keep.of_wr W533).1
       have C536 := C531.trans (CHr.wr W533 (safeArv hZ.alike V528 (by decide)) C531.1)
       have sf537 := Safe.wr W533 (safeArv hZ.alike V528 (by decide)) C531.1 sf532
       refine go (S' := T533.setTop (mkF m 480 #[si p1, si p2, si p3, si c0, si c1, si c2, si c3, si mm, .unset, .unset] [(.int 97), (.int 32), (.ref b374), (.ref b374), (.ref b370), (.ref b370)])) (fun t k => st533 _ (XS.dup X533.here hx rfl (hb hby at_475) rfl rfl (XS.bipush X533.here hx rfl (hb hby at_476) (XS.bipush X533.here hx rfl (hb hby at_478) k)))) ?_
       obtain ⟨T538, h538, ws538, X538, e538, W538, V538, hw538, hl538, st538⟩ := putS X533 hx hZ e533 V533 (j := (32 : Int32)) (x := (97 : Int32)) (by decide) ⟨by decide, by decide⟩ (i := 32) rfl hl533 (g := (mkF m 480 #[si p1, si p2, si p3, si c0, si c1, si c2, si c3, si mm, .unset, .unset] [(.int 97), (.int 32), (.ref b374), (.ref b374), (.ref b370), (.ref b370)])) rfl rfl (hb hby at_480)
       have K539 : Keep h0 h538 [] := K534.wr W538 (Or.inr sz_b374)
       have N540 := Fr.snoc X538 N535 ge_b374
       have hkS := Nat.le_trans hkS (Keep.of_wr W538).1
       have C541 := C536.trans (CHr.wr W538 (safeArv hZ.alike V533 (by decide)) C536.1)
       have sf542 := Safe.wr W538 (safeArv hZ.alike V533 (by decide)) C536.1 sf537
       refine go (S' := T538.setTop (mkF m 486 #[si p1, si p2, si p3, si c0, si c1, si c2, si c3, si mm, .unset, .unset] [(.int 122), (.int 33), (.ref b374), (.ref b374), (.ref b370), (.ref b370)])) (fun t k => st538 _ (XS.dup X538.here hx rfl (hb hby at_481) rfl rfl (XS.bipush X538.here hx rfl (hb hby at_482) (XS.bipush X538.here hx rfl (hb hby at_484) k)))) ?_
       obtain ⟨T543, h543, ws543, X543, e543, W543, V543, hw543, hl543, st543⟩ := putS X538 hx hZ e538 V538 (j := (33 : Int32)) (x := (122 : Int32)) (by decide) ⟨by decide, by decide⟩ (i := 33) rfl hl538 (g := (mkF m 486 #[si p1, si p2, si p3, si c0, si c1, si c2, si c3, si mm, .unset, .unset] [(.int 122), (.int 33), (.ref b374), (.ref b374), (.ref b370), (.ref b370)])) rfl rfl (hb hby at_486)
       have K544 : Keep h0 h543 [] := K539.wr W543 (Or.inr sz_b374)
       have N545 := Fr.snoc X543 N540 ge_b374
       have hkS := Nat.le_trans hkS (Keep.of_wr W543).1
       have C546 := C541.trans (CHr.wr W543 (safeArv hZ.alike V538 (by decide)) C541.1)
       have sf547 := Safe.wr W543 (safeArv hZ.alike V538 (by decide)) C541.1 sf542
       refine go (S' := T543.setTop (mkF m 492 #[si p1, si p2, si p3, si c0, si c1, si c2, si c3, si mm, .unset, .unset] [(.int 48), (.int 34), (.ref b374), (.ref b374), (.ref b370), (.ref b370)])) (fun t k => st543 _ (XS.dup X543.here hx rfl (hb hby at_487) rfl rfl (XS.bipush X543.here hx rfl (hb hby at_488) (XS.bipush X543.here hx rfl (hb hby at_490) k)))) ?_
       obtain ⟨T548, h548, ws548, X548, e548, W548, V548, hw548, hl548, st548⟩ := putS X543 hx hZ e543 V543 (j := (34 : Int32)) (x := (48 : Int32)) (by decide) ⟨by decide, by decide⟩ (i := 34) rfl hl543 (g := (mkF m 492 #[si p1, si p2, si p3, si c0, si c1, si c2, si c3, si mm, .unset, .unset] [(.int 48), (.int 34), (.ref b374), (.ref b374), (.ref b370), (.ref b370)])) rfl rfl (hb hby at_492)
       have K549 : Keep h0 h548 [] := K544.wr W548 (Or.inr sz_b374)
       have N550 := Fr.snoc X548 N545 ge_b374
       have hkS := Nat.le_trans hkS (Keep.of_wr W548).1
       have C551 := C546.trans (CHr.wr W548 (safeArv hZ.alike V543 (by decide)) C546.1)
       have sf552 := Safe.wr W548 (safeArv hZ.alike V543 (by decide)) C546.1 sf547
       refine go (S' := T548.setTop (mkF m 498 #[si p1, si p2, si p3, si c0, si c1, si c2, si c3, si mm, .unset, .unset] [(.int 57), (.int 35), (.ref b374), (.ref b374), (.ref b370), (.ref b370)])) (fun t k => st548 _ (XS.dup X548.here hx rfl (hb hby at_493) rfl rfl (XS.bipush X548.here hx rfl (hb hby at_494) (XS.bipush X548.here hx rfl (hb hby at_496) k)))) ?_
       obtain ⟨T553, h553, ws553, X553, e553, W553, V553, hw553, hl553, st553⟩ := putS X548 hx hZ e548 V548 (j := (35 : Int32)) (x := (57 : Int32)) (by decide) ⟨by decide, by decide⟩ (i := 35) rfl hl548 (g := (mkF m 498 #[si p1, si p2, si p3, si c0, si c1, si c2, si c3, si mm, .unset, .unset] [(.int 57), (.int 35), (.ref b374), (.ref b374), (.ref b370), (.ref b370)])) rfl rfl (hb hby at_498)
       have K554 : Keep h0 h553 [] := K549.wr W553 (Or.inr sz_b374)
       have N555 := Fr.snoc X553 N550 ge_b374
       have hkS := Nat.le_trans hkS (Keep.of_wr W553).1
       have C556 := C551.trans (CHr.wr W553 (safeArv hZ.alike V548 (by decide)) C551.1)
       have sf557 := Safe.wr W553 (safeArv hZ.alike V548 (by decide)) C551.1 sf552
       refine go (S' := T553.setTop (mkF m 504 #[si p1, si p2, si p3, si c0, si c1, si c2, si c3, si mm, .unset, .unset] [(.int 45), (.int 36), (.ref b374), (.ref b374), (.ref b370), (.ref b370)])) (fun t k => st553 _ (XS.dup X553.here hx rfl (hb hby at_499) rfl rfl (XS.bipush X553.here hx rfl (hb hby at_500) (XS.bipush X553.here hx rfl (hb hby at_502) k)))) ?_
       obtain ⟨T558, h558, ws558, X558, e558, W558, V558, hw558, hl558, st558⟩ := putS X553 hx hZ e553 V553 (j := (36 : Int32)) (x := (45 : Int32)) (by decide) ⟨by decide, by decide⟩ (i := 36) rfl hl553 (g := (mkF m 504 #[si p1, si p2, si p3, si c0, si c1, si c2, si c3, si mm, .unset, .unset] [(.int 45), (.int 36), (.ref b374), (.ref b374), (.ref b370), (.ref b370)])) rfl rfl (hb hby at_504)
       have K559 : Keep h0 h558 [] := K554.wr W558 (Or.inr sz_b374)
       have N560 := Fr.snoc X558 N555 ge_b374
       have hkS := Nat.le_trans hkS (Keep.of_wr W558).1
       have C561 := C556.trans (CHr.wr W558 (safeArv hZ.alike V553 (by decide)) C556.1)
       have sf562 := Safe.wr W558 (safeArv hZ.alike V553 (by decide)) C556.1 sf557
       refine go (S' := T558.setTop (mkF m 510 #[si p1, si p2, si p3, si c0, si c1, si c2, si c3, si mm, .unset, .unset] [(.int 109), (.int 37), (.ref b374), (.ref b374), (.ref b370), (.ref b370)])) (fun t k => st558 _ (XS.dup X558.here hx rfl (hb hby at_505) rfl rfl (XS.bipush X558.here hx rfl (hb hby at_506) (XS.bipush X558.here hx rfl (hb hby at_508) k)))) ?_
       obtain ⟨T563, h563, ws563, X563, e563, W563, V563, hw563, hl563, st563⟩ := putS X558 hx hZ e558 V558 (j := (37 : Int32)) (x := (109 : Int32)) (by decide) ⟨by decide, by decide⟩ (i := 37) rfl hl558 (g := (mkF m 510 #[si p1, si p2, si p3, si c0, si c1, si c2, si c3, si mm, .unset, .unset] [(.int 109), (.int 37), (.ref b374), (.ref b374), (.ref b370), (.ref b370)])) rfl rfl (hb hby at_510)
       have K564 : Keep h0 h563 [] := K559.wr W563 (Or.inr sz_b374)
       have N565 := Fr.snoc X563 N560 ge_b374
       have hkS := Nat.le_trans hkS (Keep.of_wr W563).1
       have C566 := C561.trans (CHr.wr W563 (safeArv hZ.alike V558 (by decide)) C561.1)
       have sf567 := Safe.wr W563 (safeArv hZ.alike V558 (by decide)) C561.1 sf562
       refine go (S' := T563.setTop (mkF m 516 #[si p1, si p2, si p3, si c0, si c1, si c2, si c3, si mm, .unset, .unset] [(.int 113), (.int 38), (.ref b374), (.ref b374), (.ref b370), (.ref b370)])) (fun t k => st563 _ (XS.dup X563.here hx rfl (hb hby at_511) rfl rfl (XS.bipush X563.here hx rfl (hb hby at_512) (XS.bipush X563.here hx rfl (hb hby at_514) k)))) ?_
       obtain ⟨T568, h568, ws568, X568, e568, W568, V568, hw568, hl568, st568⟩ := putS X563 hx hZ e563 V563 (j := (38 : Int32)) (x := (113 : Int32)) (by decide) ⟨by decide, by decide⟩ (i := 38) rfl hl563 (g := (mkF m 516 #[si p1, si p2, si p3, si c0, si c1, si c2, si c3, si mm, .unset, .unset] [(.int 113), (.int 38), (.ref b374), (.ref b374), (.ref b370), (.ref b370)])) rfl rfl (hb hby at_516)
       have K569 : Keep h0 h568 [] := K564.wr W568 (Or.inr sz_b374)
       have N570 := Fr.snoc X568 N565 ge_b374
       have hkS := Nat.le_trans hkS (Keep.of_wr W568).1
       have C571 := C566.trans (CHr.wr W568 (safeArv hZ.alike V563 (by decide)) C566.1)
       have sf572 := Safe.wr W568 (safeArv hZ.alike V563 (by decide)) C566.1 sf567
       refine go (S' := T568.setTop (mkF m 522 #[si p1, si p2, si p3, si c0, si c1, si c2, si c3, si mm, .unset, .unset] [(.int 53), (.int 39), (.ref b374), (.ref b374), (.ref b370), (.ref b370)])) (fun t k => st568 _ (XS.dup X568.here hx rfl (hb hby at_517) rfl rfl (XS.bipush X568.here hx rfl (hb hby at_518) (XS.bipush X568.here hx rfl (hb hby at_520) k)))) ?_
       obtain ⟨T573, h573, ws573, X573, e573, W573, V573, hw573, hl573, st573⟩ := putS X568 hx hZ e568 V568 (j := (39 : Int32)) (x := (53 : Int32)) (by decide) ⟨by decide, by decide⟩ (i := 39) rfl hl568 (g := (mkF m 522 #[si p1, si p2, si p3, si c0, si c1, si c2, si c3, si mm, .unset, .unset] [(.int 53), (.int 39), (.ref b374), (.ref b374), (.ref b370), (.ref b370)])) rfl rfl (hb hby at_522)
       have K574 : Keep h0 h573 [] := K569.wr W573 (Or.inr sz_b374)
       have N575 := Fr.snoc X573 N570 ge_b374
       have hkS := Nat.le_trans hkS (Keep.of_wr W573).1
       have C576 := C571.trans (CHr.wr W573 (safeArv hZ.alike V568 (by decide)) C571.1)
       have sf577 := Safe.wr W573 (safeArv hZ.alike V568 (by decide)) C571.1 sf572
       refine go (S' := T573.setTop (mkF m 528 #[si p1, si p2, si p3, si c0, si c1, si c2, si c3, si mm, .unset, .unset] [(.int 120), (.int 40), (.ref b374), (.ref b374), (.ref b370), (.ref b370)])) (fun t k => st573 _ (XS.dup X573.here hx rfl (hb hby at_523) rfl rfl (XS.bipush X573.here hx rfl (hb hby at_524) (XS.bipush X573.here hx rfl (hb hby at_526) k)))) ?_
       obtain ⟨T578, h578, ws578, X578, e578, W578, V578, hw578, hl578, st578⟩ := putS X573 hx hZ e573 V573 (j := (40 : Int32)) (x := (120 : Int32)) (by decide) ⟨by decide, by decide⟩ (i := 40) rfl hl573 (g := (mkF m 528 #[si p1, si p2, si p3, si c0, si c1, si c2, si c3, si mm, .unset, .unset] [(.int 120), (.int 40), (.ref b374), (.ref b374), (.ref b370), (.ref b370)])) rfl rfl (hb hby at_528)
       have K579 : Keep h0 h578 [] := K574.wr W578 (Or.inr sz_b374)
       have N580 := Fr.snoc X578 N575 ge_b374
       have hkS := Nat.le_trans hkS (Keep.of_wr W578).1
       have C581 := C576.trans (CHr.wr W578 (safeArv hZ.alike V573 (by decide)) C576.1)
       have sf582 := Safe.wr W578 (safeArv hZ.alike V573 (by decide)) C576.1 sf577
       refine go (S' := T578.setTop (mkF m 534 #[si p1, si p2, si p3, si c0, si c1, si c2, si c3, si mm, .unset, .unset] [(.int 107), (.int 41), (.ref b374), (.ref b374), (.ref b370), (.ref b370)])) (fun t k => st578 _ (XS.dup X578.here hx rfl (hb hby at_529) rfl rfl (XS.bipush X578.here hx rfl (hb hby at_530) (XS.bipush X578.here hx rfl (hb hby at_532) k)))) ?_
       obtain ⟨T583, h583, ws583, X583, e583, W583, V583, hw583, hl583, st583⟩ := putS X578 hx hZ e578 V578 (j := (41 : Int32)) (x := (107 : Int32)) (by decide) ⟨by decide, by decide⟩ (i := 41) rfl hl578 (g := (mkF m 534 #[si p1, si p2, si p3, si c0, si c1, si c2, si c3, si mm, .unset, .unset] [(.int 107), (.int 41), (.ref b374), (.ref b374), (.ref b370), (.ref b370)])) rfl rfl (hb hby at_534)
       have K584 : Keep h0 h583 [] := K579.wr W583 (Or.inr sz_b374)
       have N585 := Fr.snoc X583 N580 ge_b374
       have hkS := Nat.le_trans hkS (Keep.of_wr W583).1
       have C586 := C581.trans (CHr.wr W583 (safeArv hZ.alike V578 (by decide)) C581.1)
       have sf587 := Safe.wr W583 (safeArv hZ.alike V578 (by decide)) C581.1 sf582
       refine go (S' := T583.setTop (mkF m 540 #[si p1, si p2, si p3, si c0, si c1, si c2, si c3, si mm, .unset, .unset] [(.int 97), (.int 42), (.ref b374), (.ref b374), (.ref b370), (.ref b370)])) (fun t k => st583 _ (XS.dup X583.here hx rfl (hb hby at_535) rfl rfl (XS.bipush X583.here hx rfl (hb hby at_536) (XS.bipush X583.here hx rfl (hb hby at_538) k)))) ?_
       obtain ⟨T588, h588, ws588, X588, e588, W588, V588, hw588, hl588, st588⟩ := putS X583 hx hZ e583 V583 (j := (42 : Int32)) (x := (97 : Int32)) (by decide) ⟨by decide, by decide⟩ (i := 42) rfl hl583 (g := (mkF m 540 #[si p1, si p2, si p3, si c0, si c1, si c2, si c3, si mm, .unset, .unset] [(.int 97), (.int 42), (.ref b374), (.ref b374), (.ref b370), (.ref b370)])) rfl rfl (hb hby at_540)
       have K589 : Keep h0 h588 [] := K584.wr W588 (Or.inr sz_b374)
       have N590 := Fr.snoc X588 N585 ge_b374
       have hkS := Nat.le_trans hkS (Keep.of_wr W588).1
       have C591 := C586.trans (CHr.wr W588 (safeArv hZ.alike V583 (by decide)) C586.1)
       have sf592 := Safe.wr W588 (safeArv hZ.alike V583 (by decide)) C586.1 sf587
       refine go (S' := T588.setTop (mkF m 546 #[si p1, si p2, si p3, si c0, si c1, si c2, si c3, si mm, .unset, .unset] [(.int 122), (.int 43), (.ref b374), (.ref b374), (.ref b370), (.ref b370)])) (fun t k => st588 _ (XS.dup X588.here hx rfl (hb hby at_541) rfl rfl (XS.bipush X588.here hx rfl (hb hby at_542) (XS.bipush X588.here hx rfl (hb hby at_544) k)))) ?_
       obtain ⟨T593, h593, ws593, X593, e593, W593, V593, hw593, hl593, st593⟩ := putS X588 hx hZ e588 V588 (j := (43 : Int32)) (x := (122 : Int32)) (by decide) ⟨by decide, by decide⟩ (i := 43) rfl hl588 (g := (mkF m 546 #[si p1, si p2, si p3, si c0, si c1, si c2, si c3, si mm, .unset, .unset] [(.int 122), (.int 43), (.ref b374), (.ref b374), (.ref b370), (.ref b370)])) rfl rfl (hb hby at_546)
       have K594 : Keep h0 h593 [] := K589.wr W593 (Or.inr sz_b374)
       have N595 := Fr.snoc X593 N590 ge_b374
       have hkS := Nat.le_trans hkS (Keep.of_wr W593).1
       have C596 := C591.trans (CHr.wr W593 (safeArv hZ.alike V588 (by decide)) C591.1)
       have sf597 := Safe.wr W593 (safeArv hZ.alike V588 (by decide)) C591.1 sf592
       refine go (S' := T593.setTop (mkF m 552 #[si p1, si p2, si p3, si c0, si c1, si c2, si c3, si mm, .unset, .unset] [(.int 48), (.int 44), (.ref b374), (.ref b374), (.ref b370), (.ref b370)])) (fun t k => st593 _ (XS.dup X593.here hx rfl (hb hby at_547) rfl rfl (XS.bipush X593.here hx rfl (hb hby at_548) (XS.bipush X593.here hx rfl (hb hby at_550) k)))) ?_
       obtain ⟨T598, h598, ws598, X598, e598, W598, V598, hw598, hl598, st598⟩ := putS X593 hx hZ e593 V593 (j := (44 : Int32)) (x := (48 : Int32)) (by decide) ⟨by decide, by decide⟩ (i := 44) rfl hl593 (g := (mkF m 552 #[si p1, si p2, si p3, si c0, si c1, si c2, si c3, si mm, .unset, .unset] [(.int 48), (.int 44), (.ref b374), (.ref b374), (.ref b370), (.ref b370)])) rfl rfl (hb hby at_552)
       have K599 : Keep h0 h598 [] := K594.wr W598 (Or.inr sz_b374)
       have N600 := Fr.snoc X598 N595 ge_b374
       have hkS := Nat.le_trans hkS (Keep.of_wr W598).1
       have C601 := C596.trans (CHr.wr W598 (safeArv hZ.alike V593 (by decide)) C596.1)
       have sf602 := Safe.wr W598 (safeArv hZ.alike V593 (by decide)) C596.1 sf597
       refine go (S' := T598.setTop (mkF m 558 #[si p1, si p2, si p3, si c0, si c1, si c2, si c3, si mm, .unset, .unset] [(.int 57), (.int 45), (.ref b374), (.ref b374), (.ref b370), (.ref b370)])) (fun t k => st598 _ (XS.dup X598.here hx rfl (hb hby at_553) rfl rfl (XS.bipush X598.here hx rfl (hb hby at_554) (XS.bipush X598.here hx rfl (hb hby at_556) k)))) ?_
       obtain ⟨T603, h603, ws603, X603, e603, W603, V603, hw603, hl603, st603⟩ := putS X598 hx hZ e598 V598 (j := (45 : Int32)) (x := (57 : Int32)) (by decide) ⟨by decide, by decide⟩ (i := 45) rfl hl598 (g := (mkF m 558 #[si p1, si p2, si p3, si c0, si c1, si c2, si c3, si mm, .unset, .unset] [(.int 57), (.int 45), (.ref b374), (.ref b374), (.ref b370), (.ref b370)])) rfl rfl (hb hby at_558)
       have K604 : Keep h0 h603 [] := K599.wr W603 (Or.inr sz_b374)
       have N605 := Fr.snoc X603 N600 ge_b374
       have hkS := Nat.le_trans hkS (Keep.of_wr W603).1
       have C606 := C601.trans (CHr.wr W603 (safeArv hZ.alike V598 (by decide)) C601.1)
       have sf607 := Safe.wr W603 (safeArv hZ.alike V598 (by decide)) C601.1 sf602
       refine go (S' := T603.setTop (mkF m 564 #[si p1, si p2, si p3, si c0, si c1, si c2, si c3, si mm, .unset, .unset] [(.int 45), (.int 46), (.ref b374), (.ref b374), (.ref b370), (.ref b370)])) (fun t k => st603 _ (XS.dup X603.here hx rfl (hb hby at_559) rfl rfl (XS.bipush X603.here hx rfl (hb hby at_560) (XS.bipush X603.here hx rfl (hb hby at_562) k)))) ?_
       obtain ⟨T608, h608, ws608, X608, e608, W608, V608, hw608, hl608, st608⟩ := putS X603 hx hZ e603 V603 (j := (46 : Int32)) (x := (45 : Int32)) (by decide) ⟨by decide, by decide⟩ (i := 46) rfl hl603 (g := (mkF m 564 #[si p1, si p2, si p3, si c0, si c1, si c2, si c3, si mm, .unset, .unset] [(.int 45), (.int 46), (.ref b374), (.ref b374), (.ref b370), (.ref b370)])) rfl rfl (hb hby at_564)
       have K609 : Keep h0 h608 [] := K604.wr W608 (Or.inr sz_b374)
       have N610 := Fr.snoc X608 N605 ge_b374
       have hkS := Nat.le_trans hkS (Keep.of_wr W608).1
       have C611 := C606.trans (CHr.wr W608 (safeArv hZ.alike V603 (by decide)) C606.1)
       have sf612 := Safe.wr W608 (safeArv hZ.alike V603 (by decide)) C606.1 sf607
       refine go (S' := T608.setTop (mkF m 570 #[si p1, si p2, si p3, si c0, si c1, si c2, si c3, si mm, .unset, .unset] [(.int 109), (.int 47), (.ref b374), (.ref b374), (.ref b370), (.ref b370)])) (fun t k => st608 _ (XS.dup X608.here hx rfl (hb hby at_565) rfl rfl (XS.bipush X608.here hx rfl (hb hby at_566) (XS.bipush X608.here hx rfl (hb hby at_568) k)))) ?_
       obtain ⟨T613, h613, ws613, X613, e613, W613, V613, hw613, hl613, st613⟩ := putS X608 hx hZ e608 V608 (j := (47 : Int32)) (x := (109 : Int32)) (by decide) ⟨by decide, by decide⟩ (i := 47) rfl hl608 (g := (mkF m 570 #[si p1, si p2, si p3, si c0, si c1, si c2, si c3, si mm, .unset, .unset] [(.int 109), (.int 47), (.ref b374), (.ref b374), (.ref b370), (.ref b370)])) rfl rfl (hb hby at_570)
       have K614 : Keep h0 h613 [] := K609.wr W613 (Or.inr sz_b374)
       have N615 := Fr.snoc X613 N610 ge_b374
       have hkS := Nat.le_trans hkS (Keep.of_wr W613).1
       have C616 := C611.trans (CHr.wr W613 (safeArv hZ.alike V608 (by decide)) C611.1)
       have sf617 := Safe.wr W613 (safeArv hZ.alike V608 (by decide)) C611.1 sf612
       refine go (S' := T613.setTop (mkF m 576 #[si p1, si p2, si p3, si c0, si c1, si c2, si c3, si mm, .unset, .unset] [(.int 113), (.int 48), (.ref b374), (.ref b374), (.ref b370), (.ref b370)])) (fun t k => st613 _ (XS.dup X613.here hx rfl (hb hby at_571) rfl rfl (XS.bipush X613.here hx rfl (hb hby at_572) (XS.bipush X613.here hx rfl (hb hby at_574) k)))) ?_
       obtain ⟨T618, h618, ws618, X618, e618, W618, V618, hw618, hl618, st618⟩ := putS X613 hx hZ e613 V613 (j := (48 : Int32)) (x := (113 : Int32)) (by decide) ⟨by decide, by decide⟩ (i := 48) rfl hl613 (g := (mkF m 576 #[si p1, si p2, si p3, si c0, si c1, si c2, si c3, si mm, .unset, .unset] [(.int 113), (.int 48), (.ref b374), (.ref b374), (.ref b370), (.ref b370)])) rfl rfl (hb hby at_576)
       have K619 : Keep h0 h618 [] := K614.wr W618 (Or.inr sz_b374)
       have N620 := Fr.snoc X618 N615 ge_b374
       have hkS := Nat.le_trans hkS (Keep.of_wr W618).1
       have C621 := C616.trans (CHr.wr W618 (safeArv hZ.alike V613 (by decide)) C616.1)
       have sf622 := Safe.wr W618 (safeArv hZ.alike V613 (by decide)) C616.1 sf617
       refine go (S' := T618.setTop (mkF m 582 #[si p1, si p2, si p3, si c0, si c1, si c2, si c3, si mm, .unset, .unset] [(.int 53), (.int 49), (.ref b374), (.ref b374), (.ref b370), (.ref b370)])) (fun t k => st618 _ (XS.dup X618.here hx rfl (hb hby at_577) rfl rfl (XS.bipush X618.here hx rfl (hb hby at_578) (XS.bipush X618.here hx rfl (hb hby at_580) k)))) ?_
       obtain ⟨T623, h623, ws623, X623, e623, W623, V623, hw623, hl623, st623⟩ := putS X618 hx hZ e618 V618 (j := (49 : Int32)) (x := (53 : Int32)) (by decide) ⟨by decide, by decide⟩ (i := 49) rfl hl618 (g := (mkF m 582 #[si p1, si p2, si p3, si c0, si c1, si c2, si c3, si mm, .unset, .unset] [(.int 53), (.int 49), (.ref b374), (.ref b374), (.ref b370), (.ref b370)])) rfl rfl (hb hby at_582)
       have K624 : Keep h0 h623 [] := K619.wr W623 (Or.inr sz_b374)
       have N625 := Fr.snoc X623 N620 ge_b374
       have hkS := Nat.le_trans hkS (Keep.of_wr W623).1
       have C626 := C621.trans (CHr.wr W623 (safeArv hZ.alike V618 (by decide)) C621.1)
       have sf627 := Safe.wr W623 (safeArv hZ.alike V618 (by decide)) C621.1 sf622
       refine go (S' := T623.setTop (mkF m 588 #[si p1, si p2, si p3, si c0, si c1, si c2, si c3, si mm, .unset, .unset] [(.int 120), (.int 50), (.ref b374), (.ref b374), (.ref b370), (.ref b370)])) (fun t k => st623 _ (XS.dup X623.here hx rfl (hb hby at_583) rfl rfl (XS.bipush X623.here hx rfl (hb hby at_584) (XS.bipush X623.here hx rfl (hb hby at_586) k)))) ?_
       obtain ⟨T628, h628, ws628, X628, e628, W628, V628, hw628, hl628, st628⟩ := putS X623 hx hZ e623 V623 (j := (50 : Int32)) (x := (120 : Int32)) (by decide) ⟨by decide, by decide⟩ (i := 50) rfl hl623 (g := (mkF m 588 #[si p1, si p2, si p3, si c0, si c1, si c2, si c3, si mm, .unset, .unset] [(.int 120), (.int 50), (.ref b374), (.ref b374), (.ref b370), (.ref b370)])) rfl rfl (hb hby at_588)
       have K629 : Keep h0 h628 [] := K624.wr W628 (Or.inr sz_b374)
       have N630 := Fr.snoc X628 N625 ge_b374
       have hkS := Nat.le_trans hkS (Keep.of_wr W628).1
       have C631 := C626.trans (CHr.wr W628 (safeArv hZ.alike V623 (by decide)) C626.1)
       have sf632 := Safe.wr W628 (safeArv hZ.alike V623 (by decide)) C626.1 sf627
       refine go (S' := T628.setTop (mkF m 594 #[si p1, si p2, si p3, si c0, si c1, si c2, si c3, si mm, .unset, .unset] [(.int 107), (.int 51), (.ref b374), (.ref b374), (.ref b370), (.ref b370)])) (fun t k => st628 _ (XS.dup X628.here hx rfl (hb hby at_589) rfl rfl (XS.bipush X628.here hx rfl (hb hby at_590) (XS.bipush X628.here hx rfl (hb hby at_592) k)))) ?_
       obtain ⟨T633, h633, ws633, X633, e633, W633, V633, hw633, hl633, st633⟩ := putS X628 hx hZ e628 V628 (j := (51 : Int32)) (x := (107 : Int32)) (by decide) ⟨by decide, by decide⟩ (i := 51) rfl hl628 (g := (mkF m 594 #[si p1, si p2, si p3, si c0, si c1, si c2, si c3, si mm, .unset, .unset] [(.int 107), (.int 51), (.ref b374), (.ref b374), (.ref b370), (.ref b370)])) rfl rfl (hb hby at_594)
       have K634 : Keep h0 h633 [] := K629.wr W633 (Or.inr sz_b374)
       have N635 := Fr.snoc X633 N630 ge_b374
       have hkS := Nat.le_trans hkS (Keep.of_wr W633).1
       have C636 := C631.trans (CHr.wr W633 (safeArv hZ.alike V628 (by decide)) C631.1)
       have sf637 := Safe.wr W633 (safeArv hZ.alike V628 (by decide)) C631.1 sf632
       refine go (S' := T633.setTop (mkF m 600 #[si p1, si p2, si p3, si c0, si c1, si c2, si c3, si mm, .unset, .unset] [(.int 97), (.int 52), (.ref b374), (.ref b374), (.ref b370), (.ref b370)])) (fun t k => st633 _ (XS.dup X633.here hx rfl (hb hby at_595) rfl rfl (XS.bipush X633.here hx rfl (hb hby at_596) (XS.bipush X633.here hx rfl (hb hby at_598) k)))) ?_
       obtain ⟨T638, h638, ws638, X638, e638, W638, V638, hw638, hl638, st638⟩ := putS X633 hx hZ e633 V633 (j := (52 : Int32)) (x := (97 : Int32)) (by decide) ⟨by decide, by decide⟩ (i := 52) rfl hl633 (g := (mkF m 600 #[si p1, si p2, si p3, si c0, si c1, si c2, si c3, si mm, .unset, .unset] [(.int 97), (.int 52), (.ref b374), (.ref b374), (.ref b370), (.ref b370)])) rfl rfl (hb hby at_600)
       have K639 : Keep h0 h638 [] := K634.wr W638 (Or.inr sz_b374)
       have N640 := Fr.snoc X638 N635 ge_b374
       have hkS := Nat.le_trans hkS (Keep.of_wr W638).1
       have C641 := C636.trans (CHr.wr W638 (safeArv hZ.alike V633 (by decide)) C636.1)
       have sf642 := Safe.wr W638 (safeArv hZ.alike V633 (by decide)) C636.1 sf637
       refine go (S' := T638.setTop (mkF m 606 #[si p1, si p2, si p3, si c0, si c1, si c2, si c3, si mm, .unset, .unset] [(.int 122), (.int 53), (.ref b374), (.ref b374), (.ref b370), (.ref b370)])) (fun t k => st638 _ (XS.dup X638.here hx rfl (hb hby at_601) rfl rfl (XS.bipush X638.here hx rfl (hb hby at_602) (XS.bipush X638.here hx rfl (hb hby at_604) k)))) ?_
       obtain ⟨T643, h643, ws643, X643, e643, W643, V643, hw643, hl643, st643⟩ := putS X638 hx hZ e638 V638 (j := (53 : Int32)) (x := (122 : Int32)) (by decide) ⟨by decide, by decide⟩ (i := 53) rfl hl638 (g := (mkF m 606 #[si p1, si p2, si p3, si c0, si c1, si c2, si c3, si mm, .unset, .unset] [(.int 122), (.int 53), (.ref b374), (.ref b374), (.ref b370), (.ref b370)])) rfl rfl (hb hby at_606)
       have K644 : Keep h0 h643 [] := K639.wr W643 (Or.inr sz_b374)
       have N645 := Fr.snoc X643 N640 ge_b374
       have hkS := Nat.le_trans hkS (Keep.of_wr W643).1
       have C646 := C641.trans (CHr.wr W643 (safeArv hZ.alike V638 (by decide)) C641.1)
       have sf647 := Safe.wr W643 (safeArv hZ.alike V638 (by decide)) C641.1 sf642
       refine go (S' := T643.setTop (mkF m 612 #[si p1, si p2, si p3, si c0, si c1, si c2, si c3, si mm, .unset, .unset] [(.int 48), (.int 54), (.ref b374), (.ref b374), (.ref b370), (.ref b370)])) (fun t k => st643 _ (XS.dup X643.here hx rfl (hb hby at_607) rfl rfl (XS.bipush X643.here hx rfl (hb hby at_608) (XS.bipush X643.here hx rfl (hb hby at_610) k)))) ?_
       obtain ⟨T648, h648, ws648, X648, e648, W648, V648, hw648, hl648, st648⟩ := putS X643 hx hZ e643 V643 (j := (54 : Int32)) (x := (48 : Int32)) (by decide) ⟨by decide, by decide⟩ (i := 54) rfl hl643 (g := (mkF m 612 #[si p1, si p2, si p3, si c0, si c1, si c2, si c3, si mm, .unset, .unset] [(.int 48), (.int 54), (.ref b374), (.ref b374), (.ref b370), (.ref b370)])) rfl rfl (hb hby at_612)
       have K649 : Keep h0 h648 [] := K644.wr W648 (Or.inr sz_b374)
       have N650 := Fr.snoc X648 N645 ge_b374
       have hkS := Nat.le_trans hkS (Keep.of_wr W648).1
       have C651 := C646.trans (CHr.wr W648 (safeArv hZ.alike V643 (by decide)) C646.1)
       have sf652 := Safe.wr W648 (safeArv hZ.alike V643 (by decide)) C646.1 sf647
       refine go (S' := T648.setTop (mkF m 618 #[si p1, si p2, si p3, si c0, si c1, si c2, si c3, si mm, .unset, .unset] [(.int 57), (.int 55), (.ref b374), (.ref b374), (.ref b370), (.ref b370)])) (fun t k => st648 _ (XS.dup X648.here hx rfl (hb hby at_613) rfl rfl (XS.bipush X648.here hx rfl (hb hby at_614) (XS.bipush X648.here hx rfl (hb hby at_616) k)))) ?_
       obtain ⟨T653, h653, ws653, X653, e653, W653, V653, hw653, hl653, st653⟩ := putS X648 hx hZ e648 V648 (j := (55 : Int32)) (x := (57 : Int32)) (by decide) ⟨by decide, by decide⟩ (i := 55) rfl hl648 (g := (mkF m 618 #[si p1, si p2, si p3, si c0, si c1, si c2, si c3, si mm, .unset, .unset] [(.int 57), (.int 55), (.ref b374), (.ref b374), (.ref b370), (.ref b370)])) rfl rfl (hb hby at_618)
       have K654 : Keep h0 h653 [] := K649.wr W653 (Or.inr sz_b374)
       have N655 := Fr.snoc X653 N650 ge_b374
       have hkS := Nat.le_trans hkS (Keep.of_wr W653).1
       have C656 := C651.trans (CHr.wr W653 (safeArv hZ.alike V648 (by decide)) C651.1)
       have sf657 := Safe.wr W653 (safeArv hZ.alike V648 (by decide)) C651.1 sf652
       refine go (S' := T653.setTop (mkF m 624 #[si p1, si p2, si p3, si c0, si c1, si c2, si c3, si mm, .unset, .unset] [(.int 45), (.int 56), (.ref b374), (.ref b374), (.ref b370), (.ref b370)])) (fun t k => st653 _ (XS.dup X653.here hx rfl (hb hby at_619) rfl rfl (XS.bipush X653.here hx rfl (hb hby at_620) (XS.bipush X653.here hx rfl (hb hby at_622) k)))) ?_
       obtain ⟨T658, h658, ws658, X658, e658, W658, V658, hw658, hl658, st658⟩ := putS X653 hx hZ e653 V653 (j := (56 : Int32)) (x := (45 : Int32)) (by decide) ⟨by decide, by decide⟩ (i := 56) rfl hl653 (g := (mkF m 624 #[si p1, si p2, si p3, si c0, si c1, si c2, si c3, si mm, .unset, .unset] [(.int 45), (.int 56), (.ref b374), (.ref b374), (.ref b370), (.ref b370)])) rfl rfl (hb hby at_624)
       have K659 : Keep h0 h658 [] := K654.wr W658 (Or.inr sz_b374)
       have N660 := Fr.snoc X658 N655 ge_b374
       have hkS := Nat.le_trans hkS (Keep.of_wr W658).1
       have C661 := C656.trans (CHr.wr W658 (safeArv hZ.alike V653 (by decide)) C656.1)
       have sf662 := Safe.wr W658 (safeArv hZ.alike V653 (by decide)) C656.1 sf657
       refine go (S' := T658.setTop (mkF m 630 #[si p1, si p2, si p3, si c0, si c1, si c2, si c3, si mm, .unset, .unset] [(.int 109), (.int 57), (.ref b374), (.ref b374), (.ref b370), (.ref b370)])) (fun t k => st658 _ (XS.dup X658.here hx rfl (hb hby at_625) rfl rfl (XS.bipush X658.here hx rfl (hb hby at_626) (XS.bipush X658.here hx rfl (hb hby at_628) k)))) ?_
       obtain ⟨T663, h663, ws663, X663, e663, W663, V663, hw663, hl663, st663⟩ := putS X658 hx hZ e658 V658 (j := (57 : Int32)) (x := (109 : Int32)) (by decide) ⟨by decide, by decide⟩ (i := 57) rfl hl658 (g := (mkF m 630 #[si p1, si p2, si p3, si c0, si c1, si c2, si c3, si mm, .unset, .unset] [(.int 109), (.int 57), (.ref b374), (.ref b374), (.ref b370), (.ref b370)])) rfl rfl (hb hby at_630)
       have K664 : Keep h0 h663 [] := K659.wr W663 (Or.inr sz_b374)
       have N665 := Fr.snoc X663 N660 ge_b374
       have hkS := Nat.le_trans hkS (Keep.of_wr W663).1
       have C666 := C661.trans (CHr.wr W663 (safeArv hZ.alike V658 (by decide)) C661.1)
       have sf667 := Safe.wr W663 (safeArv hZ.alike V658 (by decide)) C661.1 sf662
       refine go (S' := T663.setTop (mkF m 636 #[si p1, si p2, si p3, si c0, si c1, si c2, si c3, si mm, .unset, .unset] [(.int 113), (.int 58), (.ref b374), (.ref b374), (.ref b370), (.ref b370)])) (fun t k => st663 _ (XS.dup X663.here hx rfl (hb hby at_631) rfl rfl (XS.bipush X663.here hx rfl (hb hby at_632) (XS.bipush X663.here hx rfl (hb hby at_634) k)))) ?_
       obtain ⟨T668, h668, ws668, X668, e668, W668, V668, hw668, hl668, st668⟩ := putS X663 hx hZ e663 V663 (j := (58 : Int32)) (x := (113 : Int32)) (by decide) ⟨by decide, by decide⟩ (i := 58) rfl hl663 (g := (mkF m 636 #[si p1, si p2, si p3, si c0, si c1, si c2, si c3, si mm, .unset, .unset] [(.int 113), (.int 58), (.ref b374), (.ref b374), (.ref b370), (.ref b370)])) rfl rfl (hb hby at_636)
       have K669 : Keep h0 h668 [] := K664.wr W668 (Or.inr sz_b374)
       have N670 := Fr.snoc X668 N665 ge_b374
       have hkS := Nat.le_trans hkS (Keep.of_wr W668).1
       have C671 := C666.trans (CHr.wr W668 (safeArv hZ.alike V663 (by decide)) C666.1)
       have sf672 := Safe.wr W668 (safeArv hZ.alike V663 (by decide)) C666.1 sf667
       refine go (S' := T668.setTop (mkF m 642 #[si p1, si p2, si p3, si c0, si c1, si c2, si c3, si mm, .unset, .unset] [(.int 53), (.int 59), (.ref b374), (.ref b374), (.ref b370), (.ref b370)])) (fun t k => st668 _ (XS.dup X668.here hx rfl (hb hby at_637) rfl rfl (XS.bipush X668.here hx rfl (hb hby at_638) (XS.bipush X668.here hx rfl (hb hby at_640) k)))) ?_
       obtain ⟨T673, h673, ws673, X673, e673, W673, V673, hw673, hl673, st673⟩ := putS X668 hx hZ e668 V668 (j := (59 : Int32)) (x := (53 : Int32)) (by decide) ⟨by decide, by decide⟩ (i := 59) rfl hl668 (g := (mkF m 642 #[si p1, si p2, si p3, si c0, si c1, si c2, si c3, si mm, .unset, .unset] [(.int 53), (.int 59), (.ref b374), (.ref b374), (.ref b370), (.ref b370)])) rfl rfl (hb hby at_642)
       have K674 : Keep h0 h673 [] := K669.wr W673 (Or.inr sz_b374)
       have N675 := Fr.snoc X673 N670 ge_b374
       have hkS := Nat.le_trans hkS (Keep.of_wr W673).1
       have C676 := C671.trans (CHr.wr W673 (safeArv hZ.alike V668 (by decide)) C671.1)
       have sf677 := Safe.wr W673 (safeArv hZ.alike V668 (by decide)) C671.1 sf672
       refine go (S' := T673.setTop (mkF m 648 #[si p1, si p2, si p3, si c0, si c1, si c2, si c3, si mm, .unset, .unset] [(.int 120), (.int 60), (.ref b374), (.ref b374), (.ref b370), (.ref b370)])) (fun t k => st673 _ (XS.dup X673.here hx rfl (hb hby at_643) rfl rfl (XS.bipush X673.here hx rfl (hb hby at_644) (XS.bipush X673.here hx rfl (hb hby at_646) k)))) ?_
       obtain ⟨T678, h678, ws678, X678, e678, W678, V678, hw678, hl678, st678⟩ := putS X673 hx hZ e673 V673 (j := (60 : Int32)) (x := (120 : Int32)) (by decide) ⟨by decide, by decide⟩ (i := 60) rfl hl673 (g := (mkF m 648 #[si p1, si p2, si p3, si c0, si c1, si c2, si c3, si mm, .unset, .unset] [(.int 120), (.int 60), (.ref b374), (.ref b374), (.ref b370), (.ref b370)])) rfl rfl (hb hby at_648)
       have K679 : Keep h0 h678 [] := K674.wr W678 (Or.inr sz_b374)
       have N680 := Fr.snoc X678 N675 ge_b374
       have hkS := Nat.le_trans hkS (Keep.of_wr W678).1
       have C681 := C676.trans (CHr.wr W678 (safeArv hZ.alike V673 (by decide)) C676.1)
       have sf682 := Safe.wr W678 (safeArv hZ.alike V673 (by decide)) C676.1 sf677
       refine go (S' := T678.setTop (mkF m 654 #[si p1, si p2, si p3, si c0, si c1, si c2, si c3, si mm, .unset, .unset] [(.int 107), (.int 61), (.ref b374), (.ref b374), (.ref b370), (.ref b370)])) (fun t k => st678 _ (XS.dup X678.here hx rfl (hb hby at_649) rfl rfl (XS.bipush X678.here hx rfl (hb hby at_650) (XS.bipush X678.here hx rfl (hb hby at_652) k)))) ?_
       obtain ⟨T683, h683, ws683, X683, e683, W683, V683, hw683, hl683, st683⟩ := putS X678 hx hZ e678 V678 (j := (61 : Int32)) (x := (107 : Int32)) (by decide) ⟨by decide, by decide⟩ (i := 61) rfl hl678 (g := (mkF m 654 #[si p1, si p2, si p3, si c0, si c1, si c2, si c3, si mm, .unset, .unset] [(.int 107), (.int 61), (.ref b374), (.ref b374), (.ref b370), (.ref b370)])) rfl rfl (hb hby at_654)
       have K684 : Keep h0 h683 [] := K679.wr W683 (Or.inr sz_b374)
       have N685 := Fr.snoc X683 N680 ge_b374
       have hkS := Nat.le_trans hkS (Keep.of_wr W683).1
       have C686 := C681.trans (CHr.wr W683 (safeArv hZ.alike V678 (by decide)) C681.1)
       have sf687 := Safe.wr W683 (safeArv hZ.alike V678 (by decide)) C681.1 sf682
       refine go (S' := T683.setTop (mkF m 660 #[si p1, si p2, si p3, si c0, si c1, si c2, si c3, si mm, .unset, .unset] [(.int c2), (.int 62), (.ref b374), (.ref b374), (.ref b370), (.ref b370)])) (fun t k => st683 _ (XS.dup X683.here hx rfl (hb hby at_655) rfl rfl (XS.bipush X683.here hx rfl (hb hby at_656) (XS.iload X683.here hx rfl (hb hby at_658) rfl k)))) ?_
       obtain ⟨T688, h688, ws688, X688, e688, W688, V688, hw688, hl688, st688⟩ := putS X683 hx hZ e683 V683 (j := (62 : Int32)) (x := c2) (oj_c16 hbc2) ⟨by decide, by decide⟩ (i := 62) rfl hl683 (g := (mkF m 660 #[si p1, si p2, si p3, si c0, si c1, si c2, si c3, si mm, .unset, .unset] [(.int c2), (.int 62), (.ref b374), (.ref b374), (.ref b370), (.ref b370)])) rfl rfl (hb hby at_660)
       have K689 : Keep h0 h688 [] := K684.wr W688 (Or.inr sz_b374)
       have N690 := Fr.snoc X688 N685 ge_b374
       have hkS := Nat.le_trans hkS (Keep.of_wr W688).1
       have C691 := C686.trans (CHr.wr W688 (safeArv hZ.alike V683 (by decide)) C686.1)
       have sf692 := Safe.wr W688 (safeArv hZ.alike V683 (by decide)) C686.1 sf687
       refine go (S' := T688.setTop (mkF m 666 #[si p1, si p2, si p3, si c0, si c1, si c2, si c3, si mm, .unset, .unset] [(.int c3), (.int 63), (.ref b374), (.ref b374), (.ref b370), (.ref b370)])) (fun t k => st688 _ (XS.dup X688.here hx rfl (hb hby at_661) rfl rfl (XS.bipush X688.here hx rfl (hb hby at_662) (XS.iload X688.here hx rfl (hb hby at_664) rfl k)))) ?_
       obtain ⟨T693, h693, ws693, X693, e693, W693, V693, hw693, hl693, st693⟩ := putS X688 hx hZ e688 V688 (j := (63 : Int32)) (x := c3) (oj_c16 hbc3) ⟨by decide, by decide⟩ (i := 63) rfl hl688 (g := (mkF m 666 #[si p1, si p2, si p3, si c0, si c1, si c2, si c3, si mm, .unset, .unset] [(.int c3), (.int 63), (.ref b374), (.ref b374), (.ref b370), (.ref b370)])) rfl rfl (hb hby at_666)
       have K694 : Keep h0 h693 [] := K689.wr W693 (Or.inr sz_b374)
       have N695 := Fr.snoc X693 N690 ge_b374
       have hkS := Nat.le_trans hkS (Keep.of_wr W693).1
       have C696 := C691.trans (CHr.wr W693 (safeArv hZ.alike V688 (by decide)) C691.1)
       have sf697 := Safe.wr W693 (safeArv hZ.alike V688 (by decide)) C691.1 sf692
       refine go (S' := T693.setTop (mkF m 667 #[si p1, si p2, si p3, si c0, si c1, si c2, si c3, si mm, .unset, .unset] [(.ref b374), (.ref b370), (.ref b370)])) st693 ?_
       have V698 : Arv Z h693 b374 k374 .char (64 : Int32) [(.int c0), (.int c1), (.int 97), (.int 122), (.int 48), (.int 57), (.int 45), (.int 109), (.int 113), (.int 53), (.int 120), (.int 107), (.int 97), (.int 122), (.int 48), (.int 57), (.int 45), (.int 109), (.int 113), (.int 53), (.int 120), (.int 107), (.int 97), (.int 122), (.int 48), (.int 57), (.int 45), (.int 109), (.int 113), (.int 53), (.int 120), (.int 107), (.int 97), (.int 122), (.int 48), (.int 57), (.int 45), (.int 109), (.int 113), (.int 53), (.int 120), (.int 107), (.int 97), (.int 122), (.int 48), (.int 57), (.int 45), (.int 109), (.int 113), (.int 53), (.int 120), (.int 107), (.int 97), (.int 122), (.int 48), (.int 57), (.int 45), (.int 109), (.int 113), (.int 53), (.int 120), (.int 107), (.int c2), (.int c3)] (.int 0) := snV (snS hw693 (snS hw688 (snS hw683 (snS hw678 (snS hw673 (snS hw668 (snS hw663 (snS hw658 (snS hw653 (snS hw648 (snS hw643 (snS hw638 (snS hw633 (snS hw628 (snS hw623 (snS hw618 (snS hw613 (snS hw608 (snS hw603 (snS hw598 (snS hw593 (snS hw588 (snS hw583 (snS hw578 (snS hw573 (snS hw568 (snS hw563 (snS hw558 (snS hw553 (snS hw548 (snS hw543 (snS hw538 (snS hw533 (snS hw528 (snS hw523 (snS hw518 (snS hw513 (snS hw508 (snS hw503 (snS hw498 (snS hw493 (snS hw488 (snS hw483 (snS hw478 (snS hw473 (snS hw468 (snS hw463 (snS hw458 (snS hw453 (snS hw448 (snS hw443 (snS hw438 (snS hw433 (snS hw428 (snS hw423 (snS hw418 (snS hw413 (snS hw408 (snS hw403 (snS hw398 (snS hw393 (snS hw388 (snS hw383 (snS hw378 (List.nil_append _))))))))))))))))))))))))))))))))))))))))))))))))))))))))))))))))) V693
       have f699 : Exa Z h693 b370 "java/lang/String" := (((((((((((((((((((((((((((((((((((((((((((((((((((((((((((((((((A370.ext E374).wr W378).wr W383).wr W388).wr W393).wr W398).wr W403).wr W408).wr W413).wr W418).wr W423).wr W428).wr W433).wr W438).wr W443).wr W448).wr W453).wr W458).wr W463).wr W468).wr W473).wr W478).wr W483).wr W488).wr W493).wr W498).wr W503).wr W508).wr W513).wr W518).wr W523).wr W528).wr W533).wr W538).wr W543).wr W548).wr W553).wr W558).wr W563).wr W568).wr W573).wr W578).wr W583).wr W588).wr W593).wr W598).wr W603).wr W608).wr W613).wr W618).wr W623).wr W628).wr W633).wr W638).wr W643).wr W648).wr W653).wr W658).wr W663).wr W668).wr W673).wr W678).wr W683).wr W688).wr W693)
       have f700 : Fld Z h693 b370 "java/lang/String" "value" "[B" .null := (Fld.other W693 (Fld.other W688 (Fld.other W683 (Fld.other W678 (Fld.other W673 (Fld.other W668 (Fld.other W663 (Fld.other W658 (Fld.other W653 (Fld.other W648 (Fld.other W643 (Fld.other W638 (Fld.other W633 (Fld.other W628 (Fld.other W623 (Fld.other W618 (Fld.other W613 (Fld.other W608 (Fld.other W603 (Fld.other W598 (Fld.other W593 (Fld.other W588 (Fld.other W583 (Fld.other W578 (Fld.other W573 (Fld.other W568 (Fld.other W563 (Fld.other W558 (Fld.other W553 (Fld.other W548 (Fld.other W543 (Fld.other W538 (Fld.other W533 (Fld.other W528 (Fld.other W523 (Fld.other W518 (Fld.other W513 (Fld.other W508 (Fld.other W503 (Fld.other W498 (Fld.other W493 (Fld.other W488 (Fld.other W483 (Fld.other W478 (Fld.other W473 (Fld.other W468 (Fld.other W463 (Fld.other W458 (Fld.other W453 (Fld.other W448 (Fld.other W443 (Fld.other W438 (Fld.other W433 (Fld.other W428 (Fld.other W423 (Fld.other W418 (Fld.other W413 (Fld.other W408 (Fld.other W403 (Fld.other W398 (Fld.other W393 (Fld.other W388 (Fld.other W383 (Fld.other W378 ((D370 (Or.inr (ww hw 16 rfl)) (ty := (.array .byte)) (by decide)).ext E374) (Or.inl (Nat.ne_of_lt lt_b370_b374))) (Or.inl (Nat.ne_of_lt lt_b370_b374))) (Or.inl (Nat.ne_of_lt lt_b370_b374))) (Or.inl (Nat.ne_of_lt lt_b370_b374))) (Or.inl (Nat.ne_of_lt lt_b370_b374))) (Or.inl (Nat.ne_of_lt lt_b370_b374))) (Or.inl (Nat.ne_of_lt lt_b370_b374))) (Or.inl (Nat.ne_of_lt lt_b370_b374))) (Or.inl (Nat.ne_of_lt lt_b370_b374))) (Or.inl (Nat.ne_of_lt lt_b370_b374))) (Or.inl (Nat.ne_of_lt lt_b370_b374))) (Or.inl (Nat.ne_of_lt lt_b370_b374))) (Or.inl (Nat.ne_of_lt lt_b370_b374))) (Or.inl (Nat.ne_of_lt lt_b370_b374))) (Or.inl (Nat.ne_of_lt lt_b370_b374))) (Or.inl (Nat.ne_of_lt lt_b370_b374))) (Or.inl (Nat.ne_of_lt lt_b370_b374))) (Or.inl (Nat.ne_of_lt lt_b370_b374))) (Or.inl (Nat.ne_of_lt lt_b370_b374))) (Or.inl (Nat.ne_of_lt lt_b370_b374))) (Or.inl (Nat.ne_of_lt lt_b370_b374))) (Or.inl (Nat.ne_of_lt lt_b370_b374))) (Or.inl (Nat.ne_of_lt lt_b370_b374))) (Or.inl (Nat.ne_of_lt lt_b370_b374))) (Or.inl (Nat.ne_of_lt lt_b370_b374))) (Or.inl (Nat.ne_of_lt lt_b370_b374))) (Or.inl (Nat.ne_of_lt lt_b370_b374))) (Or.inl (Nat.ne_of_lt lt_b370_b374))) (Or.inl (Nat.ne_of_lt lt_b370_b374))) (Or.inl (Nat.ne_of_lt lt_b370_b374))) (Or.inl (Nat.ne_of_lt lt_b370_b374))) (Or.inl (Nat.ne_of_lt lt_b370_b374))) (Or.inl (Nat.ne_of_lt lt_b370_b374))) (Or.inl (Nat.ne_of_lt lt_b370_b374))) (Or.inl (Nat.ne_of_lt lt_b370_b374))) (Or.inl (Nat.ne_of_lt lt_b370_b374))) (Or.inl (Nat.ne_of_lt lt_b370_b374))) (Or.inl (Nat.ne_of_lt lt_b370_b374))) (Or.inl (Nat.ne_of_lt lt_b370_b374))) (Or.inl (Nat.ne_of_lt lt_b370_b374))) (Or.inl (Nat.ne_of_lt lt_b370_b374))) (Or.inl (Nat.ne_of_lt lt_b370_b374))) (Or.inl (Nat.ne_of_lt lt_b370_b374))) (Or.inl (Nat.ne_of_lt lt_b370_b374))) (Or.inl (Nat.ne_of_lt lt_b370_b374))) (Or.inl (Nat.ne_of_lt lt_b370_b374))) (Or.inl (Nat.ne_of_lt lt_b370_b374))) (Or.inl (Nat.ne_of_lt lt_b370_b374))) (Or.inl (Nat.ne_of_lt lt_b370_b374))) (Or.inl (Nat.ne_of_lt lt_b370_b374))) (Or.inl (Nat.ne_of_lt lt_b370_b374))) (Or.inl (Nat.ne_of_lt lt_b370_b374))) (Or.inl (Nat.ne_of_lt lt_b370_b374))) (Or.inl (Nat.ne_of_lt lt_b370_b374))) (Or.inl (Nat.ne_of_lt lt_b370_b374))) (Or.inl (Nat.ne_of_lt lt_b370_b374))) (Or.inl (Nat.ne_of_lt lt_b370_b374))) (Or.inl (Nat.ne_of_lt lt_b370_b374))) (Or.inl (Nat.ne_of_lt lt_b370_b374))) (Or.inl (Nat.ne_of_lt lt_b370_b374))) (Or.inl (Nat.ne_of_lt lt_b370_b374))) (Or.inl (Nat.ne_of_lt lt_b370_b374))) (Or.inl (Nat.ne_of_lt lt_b370_b374))) (Or.inl (Nat.ne_of_lt lt_b370_b374)))
       have f701 : Fld Z h693 b370 "java/lang/String" "coder" "B" (.int 0) := (Fld.other W693 (Fld.other W688 (Fld.other W683 (Fld.other W678 (Fld.other W673 (Fld.other W668 (Fld.other W663 (Fld.other W658 (Fld.other W653 (Fld.other W648 (Fld.other W643 (Fld.other W638 (Fld.other W633 (Fld.other W628 (Fld.other W623 (Fld.other W618 (Fld.other W613 (Fld.other W608 (Fld.other W603 (Fld.other W598 (Fld.other W593 (Fld.other W588 (Fld.other W583 (Fld.other W578 (Fld.other W573 (Fld.other W568 (Fld.other W563 (Fld.other W558 (Fld.other W553 (Fld.other W548 (Fld.other W543 (Fld.other W538 (Fld.other W533 (Fld.other W528 (Fld.other W523 (Fld.other W518 (Fld.other W513 (Fld.other W508 (Fld.other W503 (Fld.other W498 (Fld.other W493 (Fld.other W488 (Fld.other W483 (Fld.other W478 (Fld.other W473 (Fld.other W468 (Fld.other W463 (Fld.other W458 (Fld.other W453 (Fld.other W448 (Fld.other W443 (Fld.other W438 (Fld.other W433 (Fld.other W428 (Fld.other W423 (Fld.other W418 (Fld.other W413 (Fld.other W408 (Fld.other W403 (Fld.other W398 (Fld.other W393 (Fld.other W388 (Fld.other W383 (Fld.other W378 ((D370 (Or.inr (ww hw 17 rfl)) (ty := .byte) (by decide)).ext E374) (Or.inl (Nat.ne_of_lt lt_b370_b374))) (Or.inl (Nat.ne_of_lt lt_b370_b374))) (Or.inl (Nat.ne_of_lt lt_b370_b374))) (Or.inl (Nat.ne_of_lt lt_b370_b374))) (Or.inl (Nat.ne_of_lt lt_b370_b374))) (Or.inl (Nat.ne_of_lt lt_b370_b374))) (Or.inl (Nat.ne_of_lt lt_b370_b374))) (Or.inl (Nat.ne_of_lt lt_b370_b374))) (Or.inl (Nat.ne_of_lt lt_b370_b374))) (Or.inl (Nat.ne_of_lt lt_b370_b374))) (Or.inl (Nat.ne_of_lt lt_b370_b374))) (Or.inl (Nat.ne_of_lt lt_b370_b374))) (Or.inl (Nat.ne_of_lt lt_b370_b374))) (Or.inl (Nat.ne_of_lt lt_b370_b374))) (Or.inl (Nat.ne_of_lt lt_b370_b374))) (Or.inl (Nat.ne_of_lt lt_b370_b374))) (Or.inl (Nat.ne_of_lt lt_b370_b374))) (Or.inl (Nat.ne_of_lt lt_b370_b374))) (Or.inl (Nat.ne_of_lt lt_b370_b374))) (Or.inl (Nat.ne_of_lt lt_b370_b374))) (Or.inl (Nat.ne_of_lt lt_b370_b374))) (Or.inl (Nat.ne_of_lt lt_b370_b374))) (Or.inl (Nat.ne_of_lt lt_b370_b374))) (Or.inl (Nat.ne_of_lt lt_b370_b374))) (Or.inl (Nat.ne_of_lt lt_b370_b374))) (Or.inl (Nat.ne_of_lt lt_b370_b374))) (Or.inl (Nat.ne_of_lt lt_b370_b374))) (Or.inl (Nat.ne_of_lt lt_b370_b374))) (Or.inl (Nat.ne_of_lt lt_b370_b374))) (Or.inl (Nat.ne_of_lt lt_b370_b374))) (Or.inl (Nat.ne_of_lt lt_b370_b374))) (Or.inl (Nat.ne_of_lt lt_b370_b374))) (Or.inl (Nat.ne_of_lt lt_b370_b374))) (Or.inl (Nat.ne_of_lt lt_b370_b374))) (Or.inl (Nat.ne_of_lt lt_b370_b374))) (Or.inl (Nat.ne_of_lt lt_b370_b374))) (Or.inl (Nat.ne_of_lt lt_b370_b374))) (Or.inl (Nat.ne_of_lt lt_b370_b374))) (Or.inl (Nat.ne_of_lt lt_b370_b374))) (Or.inl (Nat.ne_of_lt lt_b370_b374))) (Or.inl (Nat.ne_of_lt lt_b370_b374))) (Or.inl (Nat.ne_of_lt lt_b370_b374))) (Or.inl (Nat.ne_of_lt lt_b370_b374))) (Or.inl (Nat.ne_of_lt lt_b370_b374))) (Or.inl (Nat.ne_of_lt lt_b370_b374))) (Or.inl (Nat.ne_of_lt lt_b370_b374))) (Or.inl (Nat.ne_of_lt lt_b370_b374))) (Or.inl (Nat.ne_of_lt lt_b370_b374))) (Or.inl (Nat.ne_of_lt lt_b370_b374))) (Or.inl (Nat.ne_of_lt lt_b370_b374))) (Or.inl (Nat.ne_of_lt lt_b370_b374))) (Or.inl (Nat.ne_of_lt lt_b370_b374))) (Or.inl (Nat.ne_of_lt lt_b370_b374))) (Or.inl (Nat.ne_of_lt lt_b370_b374))) (Or.inl (Nat.ne_of_lt lt_b370_b374))) (Or.inl (Nat.ne_of_lt lt_b370_b374))) (Or.inl (Nat.ne_of_lt lt_b370_b374))) (Or.inl (Nat.ne_of_lt lt_b370_b374))) (Or.inl (Nat.ne_of_lt lt_b370_b374))) (Or.inl (Nat.ne_of_lt lt_b370_b374))) (Or.inl (Nat.ne_of_lt lt_b370_b374))) (Or.inl (Nat.ne_of_lt lt_b370_b374))) (Or.inl (Nat.ne_of_lt lt_b370_b374))) (Or.inl (Nat.ne_of_lt lt_b370_b374)))
       have O702 : Old Z n0 h693 := O0.keep K694 all0
       obtain ⟨v703, T703, L703, X703, hQ703, st703⟩ := callSp X693 hx hZ (y := y_9) rfl hown (ww hw 4 rfl) (ww hw 5 rfl) (ww hw 6 rfl) (by decide) (backOf (W := 1) (rmInit1 l Z a0 hw [] b370 b374 (64 : Int32) k374 ([c0, c1, 97, 122, 48, 57, 45, 109, 113, 53, 120, 107, 97, 122, 48, 57, 45, 109, 113, 53, 120, 107, 97, 122, 48, 57, 45, 109, 113, 53, 120, 107, 97, 122, 48, 57, 45, 109, 113, 53, 120, 107, 97, 122, 48, 57, 45, 109, 113, 53, 120, 107, 97, 122, 48, 57, 45, 109, 113, 53, 120, 107, c2, c3] : List Int32) (.int 0) G1 h693 n0 (Nat.le_trans Z0 K694.1) V698 rfl (Nat.le_of_ble_eq_true rfl) (Nat.le_of_ble_eq_true rfl) (allI hbc0 (allI hbc1 (allI (by decide) (allI (by decide) (allI (by decide) (allI (by decide) (allI (by decide) (allI (by decide) (allI (by decide) (allI (by decide) (allI (by decide) (allI (by decide) (allI (by decide) (allI (by decide) (allI (by decide) (allI (by decide) (allI (by decide) (allI (by decide) (allI (by decide) (allI (by decide) (allI (by decide) (allI (by decide) (allI (by decide) (allI (by decide) (allI (by decide) (allI (by decide) (allI (by decide) (allI (by decide) (allI (by decide) (allI (by decide) (allI (by decide) (allI (by decide) (allI (by decide) (allI (by decide) (allI (by decide) (allI (by decide) (allI (by decide) (allI (by decide) (allI (by decide) (allI (by decide) (allI (by decide) (allI (by decide) (allI (by decide) (allI (by decide) (allI (by decide) (allI (by decide) (allI (by decide) (allI (by decide) (allI (by decide) (allI (by decide) (allI (by decide) (allI (by decide) (allI (by decide) (allI (by decide) (allI (by decide) (allI (by decide) (allI (by decide) (allI (by decide) (allI (by decide) (allI (by decide) (allI (by decide) (allI (by decide) (allI hbc2 (allI hbc3 (fun _ q => nomatch q))))))))))))))))))))))))))))))))))))))))))))))))))))))))))))))))) f699 f700 f701 ge_b370 (Nat.ne_of_lt lt_b370_b374) hp0 hG1 hp4 hp5 hp6 O702) hZ (ww hw 6 rfl) (ww hw 2 rfl) (by decide) (by decide)) (g := (mkF m 667 #[si p1, si p2, si p3, si c0, si c1, si c2, si c3, si mm, .unset, .unset] [(.ref b374), (.ref b370), (.ref b370)])) rfl (by rw [hml]; rfl) (a := b370) (kc := 2) (ks := 195) (argsL := [(.ref b374)]) (rest := [(.ref b370)]) (lenOf pd_16 rfl) rfl (mr0 rfl) (hb hby at_667) e693 (by decide) (by decide)
       obtain ⟨t_703, cd_703, rfl, N703q, Kq703, q703_0, q703_1, q703_2⟩ := hQ703
       have N703 := Fr.app N695 N703q
       have hkS := Nat.le_trans hkS Kq703.1
       have C704 := C696.trans (CHr.keep Kq703 (allS sf697 all0) C696.1)
       have sf705 := Safe.keep Kq703 (allS sf697 all0) C696.1 sf697
       have K706 : Keep h0 T703.heap [] := K694.trans Kq703 (allS (P := fun x => x ∈ [] ∨ h0.size ≤ x) (Or.inr sz_b370) all0)
       have lt_b370_t_703 : b370 < t_703 := Nat.lt_of_lt_of_le f699.lt q703_0
       have lt_b374_t_703 : b374 < t_703 := Nat.lt_of_lt_of_le V698.lt q703_0
       have sz_t_703 : h0.size ≤ t_703 := Nat.le_trans K694.1 q703_0
       have ge_t_703 : n0 ≤ t_703 := Nat.le_trans Z0 sz_t_703
       have ne_t_703_b370 := q703_1
       refine go (S' := T703.setTop (mkF m 673 #[si p1, si p2, si p3, si c0, si c1, si c2, si c3, si mm, sr b370, .unset] [(.int c0)])) (fun t k => st703 _ (XS.astore X703.here hx rfl (hb hby at_670) rfl rfl (l' := #[si p1, si p2, si p3, si c0, si c1, si c2, si c3, si mm, sr b370, .unset]) rfl (XS.iloadN X703.here hx rfl (hb hby at_672) rfl k))) ?_
       obtain ⟨v707, T707, L707, X707, hQ707, st707⟩ := callSt X703 hx hZ (y := y_18) hown (ww hw 42 rfl) (ww hw 43 rfl) (ww hw 44 rfl) (ww hw 45 rfl) (by decide) (backOf (W := 0) (rmLet l Z a0 hw [] c0 T703.heap n0 (Nat.le_trans Z0 K706.1) ) hZ (ww hw 45 rfl) (ww hw 44 rfl) (by decide) (by decide)) (g := (mkF m 673 #[si p1, si p2, si p3, si c0, si c1, si c2, si c3, si mm, sr b370, .unset] [(.int c0)])) rfl (by rw [hml]; rfl) (kc := 0) (ks := 0) (argsL := [(.int c0)]) (rest := []) (lenOf pd_13 rfl) rfl (mr0 rfl) (hb hby at_673) rfl (by decide) (by decide)
       obtain ⟨rfl, N707q, e707⟩ := hQ707
       have N707 := Fr.app N703 N707q
       refine go (S' := T707.setTop (mkF m 676 #[si p1, si p2, si p3, si c0, si c1, si c2, si c3, si mm, sr b370, .unset] [(.int (own_let c0))])) st707 ?_
       by_cases hc708 : (own_let c0) = (0 : Int32)
       ·
        refine go (S' := T707.setTop (mkF m 1130 #[si p1, si p2, si p3, si c0, si c1, si c2, si c3, si mm, sr b370, si 0] [(.ref b370)])) (fun t k => XS.ifYes X707.here hx rfl (pc0 := 676) (pc' := 707) rfl (hb hby at_676) rfl ((if0 _ _).trans (teq hc708).1) (by decide) (by decide) (XS.iconst X707.here hx rfl (hb hby at_707) (XS.istore X707.here hx rfl (hb hby at_708) rfl (l' := #[si p1, si p2, si p3, si c0, si c1, si c2, si c3, si mm, sr b370, si 0]) rfl (XS.goto X707.here hx rfl (pc0 := 710) (pc' := 1128) rfl (hb hby at_710) (by decide) (by decide) (XS.aload X707.here hx rfl (hb hby at_1128) rfl rfl k))))) ?_
        have O709 : Old Z n0 T703.heap := O0.keep K706 all0
        obtain ⟨v710, T710, L710, X710, hQ710, st710⟩ := callSt X707 hx hZ (y := y_21) hown (ww hw 22 rfl) (ww hw 23 rfl) (ww hw 24 rfl) (ww hw 25 rfl) (by decide) (backOf (W := 0) (rmVa l Z a0 hw [] b370 t_703 cd_703 ([c0, c1, 97, 122, 48, 57, 45, 109, 113, 53, 120, 107, 97, 122, 48, 57, 45, 109, 113, 53, 120, 107, 97, 122, 48, 57, 45, 109, 113, 53, 120, 107, 97, 122, 48, 57, 45, 109, 113, 53, 120, 107, 97, 122, 48, 57, 45, 109, 113, 53, 120, 107, 97, 122, 48, 57, 45, 109, 113, 53, 120, 107, c2, c3] : List Int32) G1 fm T703.heap n0 (Nat.le_trans Z0 K706.1) q703_2 (Nat.le_of_ble_eq_true rfl) hfm hp2 hp0 hG1 hp4 hp5 hp6 O709) hZ (ww hw 25 rfl) (ww hw 24 rfl) (by decide) (by decide)) (g := (mkF m 1130 #[si p1, si p2, si p3, si c0, si c1, si c2, si c3, si mm, sr b370, si 0] [(.ref b370)])) rfl (by rw [hml]; rfl) (kc := 0) (ks := 0) (argsL := [(.ref b370)]) (rest := []) (lenOf pd_17 rfl) rfl (mr0 rfl) (hb hby at_1130) e707 (by decide) (by decide)
        obtain ⟨rfl, N710q, e710⟩ := hQ710
        have N710 := Fr.app N707 N710q
        refine go (S' := T710.setTop (mkF m 1135 #[si p1, si p2, si p3, si c0, si c1, si c2, si c3, si mm, sr b370, si 0] [(.int 0), (.int (own_val ([c0, c1, 97, 122, 48, 57, 45, 109, 113, 53, 120, 107, 97, 122, 48, 57, 45, 109, 113, 53, 120, 107, 97, 122, 48, 57, 45, 109, 113, 53, 120, 107, 97, 122, 48, 57, 45, 109, 113, 53, 120, 107, 97, 122, 48, 57, 45, 109, 113, 53, 120, 107, 97, 122, 48, 57, 45, 109, 113, 53, 120, 107, c2, c3] : List Int32)))])) (fun t k => st710 _ (XS.iload X710.here hx rfl (hb hby at_1133) rfl k)) ?_
        have hc711 : (own_val ([c0, c1, 97, 122, 48, 57, 45, 109, 113, 53, 120, 107, 97, 122, 48, 57, 45, 109, 113, 53, 120, 107, 97, 122, 48, 57, 45, 109, 113, 53, 120, 107, 97, 122, 48, 57, 45, 109, 113, 53, 120, 107, 97, 122, 48, 57, 45, 109, 113, 53, 120, 107, 97, 122, 48, 57, 45, 109, 113, 53, 120, 107, c2, c3] : List Int32)) = (0 : Int32) := by rw [own_val_cons c0 ([c1, 97, 122, 48, 57, 45, 109, 113, 53, 120, 107, 97, 122, 48, 57, 45, 109, 113, 53, 120, 107, 97, 122, 48, 57, 45, 109, 113, 53, 120, 107, 97, 122, 48, 57, 45, 109, 113, 53, 120, 107, 97, 122, 48, 57, 45, 109, 113, 53, 120, 107, 97, 122, 48, 57, 45, 109, 113, 53, 120, 107, c2, c3] : List Int32) (Nat.le_of_ble_eq_true rfl), if_pos (show own_let c0 = 0 from hc708)]
        refine go (S' := T710.setTop (mkF m 1143 #[si p1, si p2, si p3, si c0, si c1, si c2, si c3, si mm, sr b370, si 0] [(.int 1)])) (fun t k => XS.icmpNo X710.here hx rfl (hb hby at_1135) rfl (teq hc711).2 (XS.iconst X710.here hx rfl (hb hby at_1138) (XS.goto X710.here hx rfl (pc0 := 1139) (pc' := 1143) rfl (hb hby at_1139) (by decide) (by decide) k))) ?_
        refine finNW X710 hx hk (t := .boolean) hret (by simp) hS hkS hZ (own_EW hw) C704 e710 (hb hby at_1143) (by decide) (by decide) ?_
        exact ⟨rfl, N710, K706⟩
       ·
        refine go (S' := T707.setTop (mkF m 681 #[si p1, si p2, si p3, si c0, si c1, si c2, si c3, si mm, sr b370, .unset] [(.int c1)])) (fun t k => XS.ifNo X707.here hx rfl (hb hby at_676) rfl ((if0 _ _).trans (feq hc708).1) (XS.iload X707.here hx rfl (hb hby at_679) rfl k)) ?_
        obtain ⟨v712, T712, L712, X712, hQ712, st712⟩ := callSt X707 hx hZ (y := y_20) hown (ww hw 110 rfl) (ww hw 111 rfl) (ww hw 44 rfl) (ww hw 112 rfl) (by decide) (backOf (W := 0) (rmPar l Z a0 hw [] c1 T703.heap n0 (Nat.le_trans Z0 K706.1) ) hZ (ww hw 112 rfl) (ww hw 44 rfl) (by decide) (by decide)) (g := (mkF m 681 #[si p1, si p2, si p3, si c0, si c1, si c2, si c3, si mm, sr b370, .unset] [(.int c1)])) rfl (by rw [hml]; rfl) (kc := 0) (ks := 0) (argsL := [(.int c1)]) (rest := []) (lenOf pd_13 rfl) rfl (mr0 rfl) (hb hby at_681) e707 (by decide) (by decide)
        obtain ⟨rfl, N712q, e712⟩ := hQ712
        have N712 := Fr.app N707 N712q
        refine go (S' := T712.setTop (mkF m 684 #[si p1, si p2, si p3, si c0, si c1, si c2, si c3, si mm, sr b370, .unset] [(.int (own_par c1))])) st712 ?_
        by_cases hc713 : (own_par c1) = (0 : Int32)
        ·
         refine go (S' := T712.setTop (mkF m 1130 #[si p1, si p2, si p3, si c0, si c1, si c2, si c3, si mm, sr b370, si 0] [(.ref b370)])) (fun t k => XS.ifYes X712.here hx rfl (pc0 := 684) (pc' := 707) rfl (hb hby at_684) rfl ((if0 _ _).trans (teq hc713).1) (by decide) (by decide) (XS.iconst X712.here hx rfl (hb hby at_707) (XS.istore X712.here hx rfl (hb hby at_708) rfl (l' := #[si p1, si p2, si p3, si c0, si c1, si c2, si c3, si mm, sr b370, si 0]) rfl (XS.goto X712.here hx rfl (pc0 := 710) (pc' := 1128) rfl (hb hby at_710) (by decide) (by decide) (XS.aload X712.here hx rfl (hb hby at_1128) rfl rfl k))))) ?_
         have O714 : Old Z n0 T703.heap := O0.keep K706 all0
         obtain ⟨v715, T715, L715, X715, hQ715, st715⟩ := callSt X712 hx hZ (y := y_21) hown (ww hw 22 rfl) (ww hw 23 rfl) (ww hw 24 rfl) (ww hw 25 rfl) (by decide) (backOf (W := 0) (rmVa l Z a0 hw [] b370 t_703 cd_703 ([c0, c1, 97, 122, 48, 57, 45, 109, 113, 53, 120, 107, 97, 122, 48, 57, 45, 109, 113, 53, 120, 107, 97, 122, 48, 57, 45, 109, 113, 53, 120, 107, 97, 122, 48, 57, 45, 109, 113, 53, 120, 107, 97, 122, 48, 57, 45, 109, 113, 53, 120, 107, 97, 122, 48, 57, 45, 109, 113, 53, 120, 107, c2, c3] : List Int32) G1 fm T703.heap n0 (Nat.le_trans Z0 K706.1) q703_2 (Nat.le_of_ble_eq_true rfl) hfm hp2 hp0 hG1 hp4 hp5 hp6 O714) hZ (ww hw 25 rfl) (ww hw 24 rfl) (by decide) (by decide)) (g := (mkF m 1130 #[si p1, si p2, si p3, si c0, si c1, si c2, si c3, si mm, sr b370, si 0] [(.ref b370)])) rfl (by rw [hml]; rfl) (kc := 0) (ks := 0) (argsL := [(.ref b370)]) (rest := []) (lenOf pd_17 rfl) rfl (mr0 rfl) (hb hby at_1130) e712 (by decide) (by decide)
         obtain ⟨rfl, N715q, e715⟩ := hQ715
         have N715 := Fr.app N712 N715q
         refine go (S' := T715.setTop (mkF m 1135 #[si p1, si p2, si p3, si c0, si c1, si c2, si c3, si mm, sr b370, si 0] [(.int 0), (.int (own_val ([c0, c1, 97, 122, 48, 57, 45, 109, 113, 53, 120, 107, 97, 122, 48, 57, 45, 109, 113, 53, 120, 107, 97, 122, 48, 57, 45, 109, 113, 53, 120, 107, 97, 122, 48, 57, 45, 109, 113, 53, 120, 107, 97, 122, 48, 57, 45, 109, 113, 53, 120, 107, 97, 122, 48, 57, 45, 109, 113, 53, 120, 107, c2, c3] : List Int32)))])) (fun t k => st715 _ (XS.iload X715.here hx rfl (hb hby at_1133) rfl k)) ?_
         have hc716 : (own_val ([c0, c1, 97, 122, 48, 57, 45, 109, 113, 53, 120, 107, 97, 122, 48, 57, 45, 109, 113, 53, 120, 107, 97, 122, 48, 57, 45, 109, 113, 53, 120, 107, 97, 122, 48, 57, 45, 109, 113, 53, 120, 107, 97, 122, 48, 57, 45, 109, 113, 53, 120, 107, 97, 122, 48, 57, 45, 109, 113, 53, 120, 107, c2, c3] : List Int32)) = (0 : Int32) := by rw [own_val_cons c0 ([c1, 97, 122, 48, 57, 45, 109, 113, 53, 120, 107, 97, 122, 48, 57, 45, 109, 113, 53, 120, 107, 97, 122, 48, 57, 45, 109, 113, 53, 120, 107, 97, 122, 48, 57, 45, 109, 113, 53, 120, 107, 97, 122, 48, 57, 45, 109, 113, 53, 120, 107, 97, 122, 48, 57, 45, 109, 113, 53, 120, 107, c2, c3] : List Int32) (Nat.le_of_ble_eq_true rfl), if_neg (show ¬ own_let c0 = 0 from hc708)]; show own_all [c1, (97 : Int32), (122 : Int32), (48 : Int32), (57 : Int32), (45 : Int32), (109 : Int32), (113 : Int32), (53 : Int32), (120 : Int32), (107 : Int32), (97 : Int32), (122 : Int32), (48 : Int32), (57 : Int32), (45 : Int32), (109 : Int32), (113 : Int32), (53 : Int32), (120 : Int32), (107 : Int32), (97 : Int32), (122 : Int32), (48 : Int32), (57 : Int32), (45 : Int32), (109 : Int32), (113 : Int32), (53 : Int32), (120 : Int32), (107 : Int32), (97 : Int32), (122 : Int32), (48 : Int32), (57 : Int32), (45 : Int32), (109 : Int32), (113 : Int32), (53 : Int32), (120 : Int32), (107 : Int32), (97 : Int32), (122 : Int32), (48 : Int32), (57 : Int32), (45 : Int32), (109 : Int32), (113 : Int32), (53 : Int32), (120 : Int32), (107 : Int32), (97 : Int32), (122 : Int32), (48 : Int32), (57 : Int32), (45 : Int32), (109 : Int32), (113 : Int32), (53 : Int32), (120 : Int32), (107 : Int32), c2, c3] = _; rw [own_all, if_pos (show own_par c1 = 0 from hc713)]
         refine go (S' := T715.setTop (mkF m 1143 #[si p1, si p2, si p3, si c0, si c1, si c2, si c3, si mm, sr b370, si 0] [(.int 1)])) (fun t k => XS.icmpNo X715.here hx rfl (hb hby at_1135) rfl (teq hc716).2 (XS.iconst X715.here hx rfl (hb hby at_1138) (XS.goto X715.here hx rfl (pc0 := 1139) (pc' := 1143) rfl (hb hby at_1139) (by decide) (by decide) k))) ?_
         refine finNW X715 hx hk (t := .boolean) hret (by simp) hS hkS hZ (own_EW hw) C704 e715 (hb hby at_1143) (by decide) (by decide) ?_
         exact ⟨rfl, N715, K706⟩
        ·
         refine go (S' := T712.setTop (mkF m 689 #[si p1, si p2, si p3, si c0, si c1, si c2, si c3, si mm, sr b370, .unset] [(.int c2)])) (fun t k => XS.ifNo X712.here hx rfl (hb hby at_684) rfl ((if0 _ _).trans (feq hc713).1) (XS.iload X712.here hx rfl (hb hby at_687) rfl k)) ?_
         obtain ⟨v717, T717, L717, X717, hQ717, st717⟩ := callSt X712 hx hZ (y := y_20) hown (ww hw 110 rfl) (ww hw 111 rfl) (ww hw 44 rfl) (ww hw 112 rfl) (by decide) (backOf (W := 0) (rmPar l Z a0 hw [] c2 T703.heap n0 (Nat.le_trans Z0 K706.1) ) hZ (ww hw 112 rfl) (ww hw 44 rfl) (by decide) (by decide)) (g := (mkF m 689 #[si p1, si p2, si p3, si c0, si c1, si c2, si c3, si mm, sr b370, .unset] [(.int c2)])) rfl (by rw [hml]; rfl) (kc := 0) (ks := 0) (argsL := [(.int c2)]) (rest := []) (lenOf pd_13 rfl) rfl (mr0 rfl) (hb hby at_689) e712 (by decide) (by decide)
         obtain ⟨rfl, N717q, e717⟩ := hQ717
         have N717 := Fr.app N712 N717q
         refine go (S' := T717.setTop (mkF m 692 #[si p1, si p2, si p3, si c0, si c1, si c2, si c3, si mm, sr b370, .unset] [(.int (own_par c2))])) st717 ?_
         by_cases hc718 : (own_par c2) = (0 : Int32)
         ·
          refine go (S' := T717.setTop (mkF m 1130 #[si p1, si p2, si p3, si c0, si c1, si c2, si c3, si mm, sr b370, si 0] [(.ref b370)])) (fun t k => XS.ifYes X717.here hx rfl (pc0 := 692) (pc' := 707) rfl (hb hby at_692) rfl ((if0 _ _).trans (teq hc718).1) (by decide) (by decide) (XS.iconst X717.here hx rfl (hb hby at_707) (XS.istore X717.here hx rfl (hb hby at_708) rfl (l' := #[si p1, si p2, si p3, si c0, si c1, si c2, si c3, si mm, sr b370, si 0]) rfl (XS.goto X717.here hx rfl (pc0 := 710) (pc' := 1128) rfl (hb hby at_710) (by decide) (by decide) (XS.aload X717.here hx rfl (hb hby at_1128) rfl rfl k))))) ?_
          have O719 : Old Z n0 T703.heap := O0.keep K706 all0
          obtain ⟨v720, T720, L720, X720, hQ720, st720⟩ := callSt X717 hx hZ (y := y_21) hown (ww hw 22 rfl) (ww hw 23 rfl) (ww hw 24 rfl) (ww hw 25 rfl) (by decide) (backOf (W := 0) (rmVa l Z a0 hw [] b370 t_703 cd_703 ([c0, c1, 97, 122, 48, 57, 45, 109, 113, 53, 120, 107, 97, 122, 48, 57, 45, 109, 113, 53, 120, 107, 97, 122, 48, 57, 45, 109, 113, 53, 120, 107, 97, 122, 48, 57, 45, 109, 113, 53, 120, 107, 97, 122, 48, 57, 45, 109, 113, 53, 120, 107, 97, 122, 48, 57, 45, 109, 113, 53, 120, 107, c2, c3] : List Int32) G1 fm T703.heap n0 (Nat.le_trans Z0 K706.1) q703_2 (Nat.le_of_ble_eq_true rfl) hfm hp2 hp0 hG1 hp4 hp5 hp6 O719) hZ (ww hw 25 rfl) (ww hw 24 rfl) (by decide) (by decide)) (g := (mkF m 1130 #[si p1, si p2, si p3, si c0, si c1, si c2, si c3, si mm, sr b370, si 0] [(.ref b370)])) rfl (by rw [hml]; rfl) (kc := 0) (ks := 0) (argsL := [(.ref b370)]) (rest := []) (lenOf pd_17 rfl) rfl (mr0 rfl) (hb hby at_1130) e717 (by decide) (by decide)
          obtain ⟨rfl, N720q, e720⟩ := hQ720
          have N720 := Fr.app N717 N720q
          refine go (S' := T720.setTop (mkF m 1135 #[si p1, si p2, si p3, si c0, si c1, si c2, si c3, si mm, sr b370, si 0] [(.int 0), (.int (own_val ([c0, c1, 97, 122, 48, 57, 45, 109, 113, 53, 120, 107, 97, 122, 48, 57, 45, 109, 113, 53, 120, 107, 97, 122, 48, 57, 45, 109, 113, 53, 120, 107, 97, 122, 48, 57, 45, 109, 113, 53, 120, 107, 97, 122, 48, 57, 45, 109, 113, 53, 120, 107, 97, 122, 48, 57, 45, 109, 113, 53, 120, 107, c2, c3] : List Int32)))])) (fun t k => st720 _ (XS.iload X720.here hx rfl (hb hby at_1133) rfl k)) ?_
          have hc721 : (own_val ([c0, c1, 97, 122, 48, 57, 45, 109, 113, 53, 120, 107, 97, 122, 48, 57, 45, 109, 113, 53, 120, 107, 97, 122, 48, 57, 45, 109, 113, 53, 120, 107, 97, 122, 48, 57, 45, 109, 113, 53, 120, 107, 97, 122, 48, 57, 45, 109, 113, 53, 120, 107, 97, 122, 48, 57, 45, 109, 113, 53, 120, 107, c2, c3] : List Int32)) = (0 : Int32) := by rw [own_val_cons c0 ([c1, 97, 122, 48, 57, 45, 109, 113, 53, 120, 107, 97, 122, 48, 57, 45, 109, 113, 53, 120, 107, 97, 122, 48, 57, 45, 109, 113, 53, 120, 107, 97, 122, 48, 57, 45, 109, 113, 53, 120, 107, 97, 122, 48, 57, 45, 109, 113, 53, 120, 107, 97, 122, 48, 57, 45, 109, 113, 53, 120, 107, c2, c3] : List Int32) (Nat.le_of_ble_eq_true rfl), if_neg (show ¬ own_let c0 = 0 from hc708)]; show own_all [c1, (97 : Int32), (122 : Int32), (48 : Int32), (57 : Int32), (45 : Int32), (109 : Int32), (113 : Int32), (53 : Int32), (120 : Int32), (107 : Int32), (97 : Int32), (122 : Int32), (48 : Int32), (57 : Int32), (45 : Int32), (109 : Int32), (113 : Int32), (53 : Int32), (120 : Int32), (107 : Int32), (97 : Int32), (122 : Int32), (48 : Int32), (57 : Int32), (45 : Int32), (109 : Int32), (113 : Int32), (53 : Int32), (120 : Int32), (107 : Int32), (97 : Int32), (122 : Int32), (48 : Int32), (57 : Int32), (45 : Int32), (109 : Int32), (113 : Int32), (53 : Int32), (120 : Int32), (107 : Int32), (97 : Int32), (122 : Int32), (48 : Int32), (57 : Int32), (45 : Int32), (109 : Int32), (113 : Int32), (53 : Int32), (120 : Int32), (107 : Int32), (97 : Int32), (122 : Int32), (48 : Int32), (57 : Int32), (45 : Int32), (109 : Int32), (113 : Int32), (53 : Int32), (120 : Int32), (107 : Int32), c2, c3] = _; rw [own_all, if_neg (show ¬ own_par c1 = 0 from hc713)]; rw [show [(97 : Int32), (122 : Int32), (48 : Int32), (57 : Int32), (45 : Int32), (109 : Int32), (113 : Int32), (53 : Int32), (120 : Int32), (107 : Int32), (97 : Int32), (122 : Int32), (48 : Int32), (57 : Int32), (45 : Int32), (109 : Int32), (113 : Int32), (53 : Int32), (120 : Int32), (107 : Int32), (97 : Int32), (122 : Int32), (48 : Int32), (57 : Int32), (45 : Int32), (109 : Int32), (113 : Int32), (53 : Int32), (120 : Int32), (107 : Int32), (97 : Int32), (122 : Int32), (48 : Int32), (57 : Int32), (45 : Int32), (109 : Int32), (113 : Int32), (53 : Int32), (120 : Int32), (107 : Int32), (97 : Int32), (122 : Int32), (48 : Int32), (57 : Int32), (45 : Int32), (109 : Int32), (113 : Int32), (53 : Int32), (120 : Int32), (107 : Int32), (97 : Int32), (122 : Int32), (48 : Int32), (57 : Int32), (45 : Int32), (109 : Int32), (113 : Int32), (53 : Int32), (120 : Int32), (107 : Int32), c2, c3] = [(97 : Int32), (122 : Int32), (48 : Int32), (57 : Int32), (45 : Int32), (109 : Int32), (113 : Int32), (53 : Int32), (120 : Int32), (107 : Int32), (97 : Int32), (122 : Int32), (48 : Int32), (57 : Int32), (45 : Int32), (109 : Int32), (113 : Int32), (53 : Int32), (120 : Int32), (107 : Int32), (97 : Int32), (122 : Int32), (48 : Int32), (57 : Int32), (45 : Int32), (109 : Int32), (113 : Int32), (53 : Int32), (120 : Int32), (107 : Int32), (97 : Int32), (122 : Int32), (48 : Int32), (57 : Int32), (45 : Int32), (109 : Int32), (113 : Int32), (53 : Int32), (120 : Int32), (107 : Int32), (97 : Int32), (122 : Int32), (48 : Int32), (57 : Int32), (45 : Int32), (109 : Int32), (113 : Int32), (53 : Int32), (120 : Int32), (107 : Int32), (97 : Int32), (122 : Int32), (48 : Int32), (57 : Int32), (45 : Int32), (109 : Int32), (113 : Int32), (53 : Int32), (120 : Int32), (107 : Int32)] ++ [c2, c3] from rfl, own_skip _ _ (by decide)]; rw [own_all, if_pos (show own_par c2 = 0 from hc718)]
          refine go (S' := T720.setTop (mkF m 1143 #[si p1, si p2, si p3, si c0, si c1, si c2, si c3, si mm, sr b370, si 0] [(.int 1)])) (fun t k => XS.icmpNo X720.here hx rfl (hb hby at_1135) rfl (teq hc721).2 (XS.iconst X720.here hx rfl (hb hby at_1138) (XS.goto X720.here hx rfl (pc0 := 1139) (pc' := 1143) rfl (hb hby at_1139) (by decide) (by decide) k))) ?_
          refine finNW X720 hx hk (t := .boolean) hret (by simp) hS hkS hZ (own_EW hw) C704 e720 (hb hby at_1143) (by decide) (by decide) ?_
          exact ⟨rfl, N720, K706⟩
         ·
          refine go (S' := T717.setTop (mkF m 697 #[si p1, si p2, si p3, si c0, si c1, si c2, si c3, si mm, sr b370, .unset] [(.int c3)])) (fun t k => XS.ifNo X717.here hx rfl (hb hby at_692) rfl ((if0 _ _).trans (feq hc718).1) (XS.iload X717.here hx rfl (hb hby at_695) rfl k)) ?_
          obtain ⟨v722, T722, L722, X722, hQ722, st722⟩ := callSt X717 hx hZ (y := y_20) hown (ww hw 110 rfl) (ww hw 111 rfl) (ww hw 44 rfl) (ww hw 112 rfl) (by decide) (backOf (W := 0) (rmPar l Z a0 hw [] c3 T703.heap n0 (Nat.le_trans Z0 K706.1) ) hZ (ww hw 112 rfl) (ww hw 44 rfl) (by decide) (by decide)) (g := (mkF m 697 #[si p1, si p2, si p3, si c0, si c1, si c2, si c3, si mm, sr b370, .unset] [(.int c3)])) rfl (by rw [hml]; rfl) (kc := 0) (ks := 0) (argsL := [(.int c3)]) (rest := []) (lenOf pd_13 rfl) rfl (mr0 rfl) (hb hby at_697) e717 (by decide) (by decide)
          obtain ⟨rfl, N722q, e722⟩ := hQ722
          have N722 := Fr.app N717 N722q
          refine go (S' := T722.setTop (mkF m 700 #[si p1, si p2, si p3, si c0, si c1, si c2, si c3, si mm, sr b370, .unset] [(.int (own_par c3))])) st722 ?_
          by_cases hc723 : (own_par c3) = (0 : Int32)
          ·
           refine go (S' := T722.setTop (mkF m 1130 #[si p1, si p2, si p3, si c0, si c1, si c2, si c3, si mm, sr b370, si 0] [(.ref b370)])) (fun t k => XS.ifYes X722.here hx rfl (pc0 := 700) (pc' := 707) rfl (hb hby at_700) rfl ((if0 _ _).trans (teq hc723).1) (by decide) (by decide) (XS.iconst X722.here hx rfl (hb hby at_707) (XS.istore X722.here hx rfl (hb hby at_708) rfl (l' := #[si p1, si p2, si p3, si c0, si c1, si c2, si c3, si mm, sr b370, si 0]) rfl (XS.goto X722.here hx rfl (pc0 := 710) (pc' := 1128) rfl (hb hby at_710) (by decide) (by decide) (XS.aload X722.here hx rfl (hb hby at_1128) rfl rfl k))))) ?_
           have O724 : Old Z n0 T703.heap := O0.keep K706 all0
           obtain ⟨v725, T725, L725, X725, hQ725, st725⟩ := callSt X722 hx hZ (y := y_21) hown (ww hw 22 rfl) (ww hw 23 rfl) (ww hw 24 rfl) (ww hw 25 rfl) (by decide) (backOf (W := 0) (rmVa l Z a0 hw [] b370 t_703 cd_703 ([c0, c1, 97, 122, 48, 57, 45, 109, 113, 53, 120, 107, 97, 122, 48, 57, 45, 109, 113, 53, 120, 107, 97, 122, 48, 57, 45, 109, 113, 53, 120, 107, 97, 122, 48, 57, 45, 109, 113, 53, 120, 107, 97, 122, 48, 57, 45, 109, 113, 53, 120, 107, 97, 122, 48, 57, 45, 109, 113, 53, 120, 107, c2, c3] : List Int32) G1 fm T703.heap n0 (Nat.le_trans Z0 K706.1) q703_2 (Nat.le_of_ble_eq_true rfl) hfm hp2 hp0 hG1 hp4 hp5 hp6 O724) hZ (ww hw 25 rfl) (ww hw 24 rfl) (by decide) (by decide)) (g := (mkF m 1130 #[si p1, si p2, si p3, si c0, si c1, si c2, si c3, si mm, sr b370, si 0] [(.ref b370)])) rfl (by rw [hml]; rfl) (kc := 0) (ks := 0) (argsL := [(.ref b370)]) (rest := []) (lenOf pd_17 rfl) rfl (mr0 rfl) (hb hby at_1130) e722 (by decide) (by decide)
           obtain ⟨rfl, N725q, e725⟩ := hQ725
           have N725 := Fr.app N722 N725q
           refine go (S' := T725.setTop (mkF m 1135 #[si p1, si p2, si p3, si c0, si c1, si c2, si c3, si mm, sr b370, si 0] [(.int 0), (.int (own_val ([c0, c1, 97, 122, 48, 57, 45, 109, 113, 53, 120, 107, 97, 122, 48, 57, 45, 109, 113, 53, 120, 107, 97, 122, 48, 57, 45, 109, 113, 53, 120, 107, 97, 122, 48, 57, 45, 109, 113, 53, 120, 107, 97, 122, 48, 57, 45, 109, 113, 53, 120, 107, 97, 122, 48, 57, 45, 109, 113, 53, 120, 107, c2, c3] : List Int32)))])) (fun t k => st725 _ (XS.iload X725.here hx rfl (hb hby at_1133) rfl k)) ?_
           have hc726 : (own_val ([c0, c1, 97, 122, 48, 57, 45, 109, 113, 53, 120, 107, 97, 122, 48, 57, 45, 109, 113, 53, 120, 107, 97, 122, 48, 57, 45, 109, 113, 53, 120, 107, 97, 122, 48, 57, 45, 109, 113, 53, 120, 107, 97, 122, 48, 57, 45, 109, 113, 53, 120, 107, 97, 122, 48, 57, 45, 109, 113, 53, 120, 107, c2, c3] : List Int32)) = (0 : Int32) := by rw [own_val_cons c0 ([c1, 97, 122, 48, 57, 45, 109, 113, 53, 120, 107, 97, 122, 48, 57, 45, 109, 113, 53, 120, 107, 97, 122, 48, 57, 45, 109, 113, 53, 120, 107, 97, 122, 48, 57, 45, 109, 113, 53, 120, 107, 97, 122, 48, 57, 45, 109, 113, 53, 120, 107, 97, 122, 48, 57, 45, 109, 113, 53, 120, 107, c2, c3] : List Int32) (Nat.le_of_ble_eq_true rfl), if_neg (show ¬ own_let c0 = 0 from hc708)]; show own_all [c1, (97 : Int32), (122 : Int32), (48 : Int32), (57 : Int32), (45 : Int32), (109 : Int32), (113 : Int32), (53 : Int32), (120 : Int32), (107 : Int32), (97 : Int32), (122 : Int32), (48 : Int32), (57 : Int32), (45 : Int32), (109 : Int32), (113 : Int32), (53 : Int32), (120 : Int32), (107 : Int32), (97 : Int32), (122 : Int32), (48 : Int32), (57 : Int32), (45 : Int32), (109 : Int32), (113 : Int32), (53 : Int32), (120 : Int32), (107 : Int32), (97 : Int32), (122 : Int32), (48 : Int32), (57 : Int32), (45 : Int32), (109 : Int32), (113 : Int32), (53 : Int32), (120 : Int32), (107 : Int32), (97 : Int32), (122 : Int32), (48 : Int32), (57 : Int32), (45 : Int32), (109 : Int32), (113 : Int32), (53 : Int32), (120 : Int32), (107 : Int32), (97 : Int32), (122 : Int32), (48 : Int32), (57 : Int32), (45 : Int32), (109 : Int32), (113 : Int32), (53 : Int32), (120 : Int32), (107 : Int32), c2, c3] = _; rw [own_all, if_neg (show ¬ own_par c1 = 0 from hc713)]; rw [show [(97 : Int32), (122 : Int32), (48 : Int32), (57 : Int32), (45 : Int32), (109 : Int32), (113 : Int32), (53 : Int32), (120 : Int32), (107 : Int32), (97 : Int32), (122 : Int32), (48 : Int32), (57 : Int32), (45 : Int32), (109 : Int32), (113 : Int32), (53 : Int32), (120 : Int32), (107 : Int32), (97 : Int32), (122 : Int32), (48 : Int32), (57 : Int32), (45 : Int32), (109 : Int32), (113 : Int32), (53 : Int32), (120 : Int32), (107 : Int32), (97 : Int32), (122 : Int32), (48 : Int32), (57 : Int32), (45 : Int32), (109 : Int32), (113 : Int32), (53 : Int32), (120 : Int32), (107 : Int32), (97 : Int32), (122 : Int32), (48 : Int32), (57 : Int32), (45 : Int32), (109 : Int32), (113 : Int32), (53 : Int32), (120 : Int32), (107 : Int32), (97 : Int32), (122 : Int32), (48 : Int32), (57 : Int32), (45 : Int32), (109 : Int32), (113 : Int32), (53 : Int32), (120 : Int32), (107 : Int32), c2, c3] = [(97 : Int32), (122 : Int32), (48 : Int32), (57 : Int32), (45 : Int32), (109 : Int32), (113 : Int32), (53 : Int32), (120 : Int32), (107 : Int32), (97 : Int32), (122 : Int32), (48 : Int32), (57 : Int32), (45 : Int32), (109 : Int32), (113 : Int32), (53 : Int32), (120 : Int32), (107 : Int32), (97 : Int32), (122 : Int32), (48 : Int32), (57 : Int32), (45 : Int32), (109 : Int32), (113 : Int32), (53 : Int32), (120 : Int32), (107 : Int32), (97 : Int32), (122 : Int32), (48 : Int32), (57 : Int32), (45 : Int32), (109 : Int32), (113 : Int32), (53 : Int32), (120 : Int32), (107 : Int32), (97 : Int32), (122 : Int32), (48 : Int32), (57 : Int32), (45 : Int32), (109 : Int32), (113 : Int32), (53 : Int32), (120 : Int32), (107 : Int32), (97 : Int32), (122 : Int32), (48 : Int32), (57 : Int32), (45 : Int32), (109 : Int32), (113 : Int32), (53 : Int32), (120 : Int32), (107 : Int32)] ++ [c2, c3] from rfl, own_skip _ _ (by decide)]; rw [own_all, if_neg (show ¬ own_par c2 = 0 from hc718)]; rw [own_all, if_pos (show own_par c3 = 0 from hc723)]
           refine go (S' := T725.setTop (mkF m 1143 #[si p1, si p2, si p3, si c0, si c1, si c2, si c3, si mm, sr b370, si 0] [(.int 1)])) (fun t k => XS.icmpNo X725.here hx rfl (hb hby at_1135) rfl (teq hc726).2 (XS.iconst X725.here hx rfl (hb hby at_1138) (XS.goto X725.here hx rfl (pc0 := 1139) (pc' := 1143) rfl (hb hby at_1139) (by decide) (by decide) k))) ?_
           refine finNW X725 hx hk (t := .boolean) hret (by simp) hS hkS hZ (own_EW hw) C704 e725 (hb hby at_1143) (by decide) (by decide) ?_
           exact ⟨rfl, N725, K706⟩
          ·
           refine go (S' := T722.setTop (mkF m 1130 #[si p1, si p2, si p3, si c0, si c1, si c2, si c3, si mm, sr b370, si 1] [(.ref b370)])) (fun t k => XS.ifNo X722.here hx rfl (hb hby at_700) rfl ((if0 _ _).trans (feq hc723).1) (XS.iconst X722.here hx rfl (hb hby at_703) (XS.goto X722.here hx rfl (pc0 := 704) (pc' := 708) rfl (hb hby at_704) (by decide) (by decide) (XS.istore X722.here hx rfl (hb hby at_708) rfl (l' := #[si p1, si p2, si p3, si c0, si c1, si c2, si c3, si mm, sr b370, si 1]) rfl (XS.goto X722.here hx rfl (pc0 := 710) (pc' := 1128) rfl (hb hby at_710) (by decide) (by decide) (XS.aload X722.here hx rfl (hb hby at_1128) rfl rfl k)))))) ?_
           have O727 : Old Z n0 T703.heap := O0.keep K706 all0
           obtain ⟨v728, T728, L728, X728, hQ728, st728⟩ := callSt X722 hx hZ (y := y_21) hown (ww hw 22 rfl) (ww hw 23 rfl) (ww hw 24 rfl) (ww hw 25 rfl) (by decide) (backOf (W := 0) (rmVa l Z a0 hw [] b370 t_703 cd_703 ([c0, c1, 97, 122, 48, 57, 45, 109, 113, 53, 120, 107, 97, 122, 48, 57, 45, 109, 113, 53, 120, 107, 97, 122, 48, 57, 45, 109, 113, 53, 120, 107, 97, 122, 48, 57, 45, 109, 113, 53, 120, 107, 97, 122, 48, 57, 45, 109, 113, 53, 120, 107, 97, 122, 48, 57, 45, 109, 113, 53, 120, 107, c2, c3] : List Int32) G1 fm T703.heap n0 (Nat.le_trans Z0 K706.1) q703_2 (Nat.le_of_ble_eq_true rfl) hfm hp2 hp0 hG1 hp4 hp5 hp6 O727) hZ (ww hw 25 rfl) (ww hw 24 rfl) (by decide) (by decide)) (g := (mkF m 1130 #[si p1, si p2, si p3, si c0, si c1, si c2, si c3, si mm, sr b370, si 1] [(.ref b370)])) rfl (by rw [hml]; rfl) (kc := 0) (ks := 0) (argsL := [(.ref b370)]) (rest := []) (lenOf pd_17 rfl) rfl (mr0 rfl) (hb hby at_1130) e722 (by decide) (by decide)
           obtain ⟨rfl, N728q, e728⟩ := hQ728
           have N728 := Fr.app N722 N728q
           refine go (S' := T728.setTop (mkF m 1135 #[si p1, si p2, si p3, si c0, si c1, si c2, si c3, si mm, sr b370, si 1] [(.int 1), (.int (own_val ([c0, c1, 97, 122, 48, 57, 45, 109, 113, 53, 120, 107, 97, 122, 48, 57, 45, 109, 113, 53, 120, 107, 97, 122, 48, 57, 45, 109, 113, 53, 120, 107, 97, 122, 48, 57, 45, 109, 113, 53, 120, 107, 97, 122, 48, 57, 45, 109, 113, 53, 120, 107, 97, 122, 48, 57, 45, 109, 113, 53, 120, 107, c2, c3] : List Int32)))])) (fun t k => st728 _ (XS.iload X728.here hx rfl (hb hby at_1133) rfl k)) ?_
           have hc729 : (own_val ([c0, c1, 97, 122, 48, 57, 45, 109, 113, 53, 120, 107, 97, 122, 48, 57, 45, 109, 113, 53, 120, 107, 97, 122, 48, 57, 45, 109, 113, 53, 120, 107, 97, 122, 48, 57, 45, 109, 113, 53, 120, 107, 97, 122, 48, 57, 45, 109, 113, 53, 120, 107, 97, 122, 48, 57, 45, 109, 113, 53, 120, 107, c2, c3] : List Int32)) = (1 : Int32) := by rw [own_val_cons c0 ([c1, 97, 122, 48, 57, 45, 109, 113, 53, 120, 107, 97, 122, 48, 57, 45, 109, 113, 53, 120, 107, 97, 122, 48, 57, 45, 109, 113, 53, 120, 107, 97, 122, 48, 57, 45, 109, 113, 53, 120, 107, 97, 122, 48, 57, 45, 109, 113, 53, 120, 107, 97, 122, 48, 57, 45, 109, 113, 53, 120, 107, c2, c3] : List Int32) (Nat.le_of_ble_eq_true rfl), if_neg (show ¬ own_let c0 = 0 from hc708)]; show own_all [c1, (97 : Int32), (122 : Int32), (48 : Int32), (57 : Int32), (45 : Int32), (109 : Int32), (113 : Int32), (53 : Int32), (120 : Int32), (107 : Int32), (97 : Int32), (122 : Int32), (48 : Int32), (57 : Int32), (45 : Int32), (109 : Int32), (113 : Int32), (53 : Int32), (120 : Int32), (107 : Int32), (97 : Int32), (122 : Int32), (48 : Int32), (57 : Int32), (45 : Int32), (109 : Int32), (113 : Int32), (53 : Int32), (120 : Int32), (107 : Int32), (97 : Int32), (122 : Int32), (48 : Int32), (57 : Int32), (45 : Int32), (109 : Int32), (113 : Int32), (53 : Int32), (120 : Int32), (107 : Int32), (97 : Int32), (122 : Int32), (48 : Int32), (57 : Int32), (45 : Int32), (109 : Int32), (113 : Int32), (53 : Int32), (120 : Int32), (107 : Int32), (97 : Int32), (122 : Int32), (48 : Int32), (57 : Int32), (45 : Int32), (109 : Int32), (113 : Int32), (53 : Int32), (120 : Int32), (107 : Int32), c2, c3] = _; rw [own_all, if_neg (show ¬ own_par c1 = 0 from hc713)]; rw [show [(97 : Int32), (122 : Int32), (48 : Int32), (57 : Int32), (45 : Int32), (109 : Int32), (113 : Int32), (53 : Int32), (120 : Int32), (107 : Int32), (97 : Int32), (122 : Int32), (48 : Int32), (57 : Int32), (45 : Int32), (109 : Int32), (113 : Int32), (53 : Int32), (120 : Int32), (107 : Int32), (97 : Int32), (122 : Int32), (48 : Int32), (57 : Int32), (45 : Int32), (109 : Int32), (113 : Int32), (53 : Int32), (120 : Int32), (107 : Int32), (97 : Int32), (122 : Int32), (48 : Int32), (57 : Int32), (45 : Int32), (109 : Int32), (113 : Int32), (53 : Int32), (120 : Int32), (107 : Int32), (97 : Int32), (122 : Int32), (48 : Int32), (57 : Int32), (45 : Int32), (109 : Int32), (113 : Int32), (53 : Int32), (120 : Int32), (107 : Int32), (97 : Int32), (122 : Int32), (48 : Int32), (57 : Int32), (45 : Int32), (109 : Int32), (113 : Int32), (53 : Int32), (120 : Int32), (107 : Int32), c2, c3] = [(97 : Int32), (122 : Int32), (48 : Int32), (57 : Int32), (45 : Int32), (109 : Int32), (113 : Int32), (53 : Int32), (120 : Int32), (107 : Int32), (97 : Int32), (122 : Int32), (48 : Int32), (57 : Int32), (45 : Int32), (109 : Int32), (113 : Int32), (53 : Int32), (120 : Int32), (107 : Int32), (97 : Int32), (122 : Int32), (48 : Int32), (57 : Int32), (45 : Int32), (109 : Int32), (113 : Int32), (53 : Int32), (120 : Int32), (107 : Int32), (97 : Int32), (122 : Int32), (48 : Int32), (57 : Int32), (45 : Int32), (109 : Int32), (113 : Int32), (53 : Int32), (120 : Int32), (107 : Int32), (97 : Int32), (122 : Int32), (48 : Int32), (57 : Int32), (45 : Int32), (109 : Int32), (113 : Int32), (53 : Int32), (120 : Int32), (107 : Int32), (97 : Int32), (122 : Int32), (48 : Int32), (57 : Int32), (45 : Int32), (109 : Int32), (113 : Int32), (53 : Int32), (120 : Int32), (107 : Int32)] ++ [c2, c3] from rfl, own_skip _ _ (by decide)]; rw [own_all, if_neg (show ¬ own_par c2 = 0 from hc718)]; rw [own_all, if_neg (show ¬ own_par c3 = 0 from hc723)]; rfl
           refine go (S' := T728.setTop (mkF m 1143 #[si p1, si p2, si p3, si c0, si c1, si c2, si c3, si mm, sr b370, si 1] [(.int 1)])) (fun t k => XS.icmpNo X728.here hx rfl (hb hby at_1135) rfl (teq hc729).2 (XS.iconst X728.here hx rfl (hb hby at_1138) (XS.goto X728.here hx rfl (pc0 := 1139) (pc' := 1143) rfl (hb hby at_1139) (by decide) (by decide) k))) ?_
           refine finNW X728 hx hk (t := .boolean) hret (by simp) hS hkS hZ (own_EW hw) C704 e728 (hb hby at_1143) (by decide) (by decide) ?_
           exact ⟨rfl, N728, K706⟩
      ·
       refine go (S' := T0.setTop (mkF m 717 #[si p1, si p2, si p3, si c0, si c1, si c2, si c3, si mm, .unset, .unset] [(.int 6), (.int mm)])) (fun t k => XS.icmpYes X0.here hx rfl (pc0 := 279) (pc' := 713) rfl (hb hby at_279) rfl (feq hc369).2 (by decide) (by decide) (XS.iload X0.here hx rfl (hb hby at_713) rfl (XS.bipush X0.here hx rfl (hb hby at_715) k))) ?_
       by_cases hc730 : mm = (6 : Int32)
       ·
        refine go (S' := T0.setTop (mkF m 720 #[si p1, si p2, si p3, si c0, si c1, si c2, si c3, si mm, .unset, .unset] [])) (fun t k => XS.icmpNo X0.here hx rfl (hb hby at_717) rfl (teq hc730).2 k) ?_
        obtain ⟨T731, h731, X731, e731, E731, A731, D731, -, st731⟩ := newO X0 hx hZ hown (ww hw 0 rfl) (ww hw 1 rfl) (ww hw 2 rfl) e0 (g := (mkF m 720 #[si p1, si p2, si p3, si c0, si c1, si c2, si c3, si mm, .unset, .unset] [])) rfl (hb hby at_720) (by decide) (by decide)
        obtain ⟨b731, g731⟩ : ∃ z, z = h0.size := ⟨_, rfl⟩
        rw [← g731] at A731 D731 st731
        have ge_b731 : n0 ≤ b731 := by rw [g731]; exact (Nat.le_trans Z0 K0.1)
        have sz_b731 : h0.size ≤ b731 := by rw [g731]; exact K0.1
        have K732 : Keep h0 h731 [] := K0.ext E731
        have hkS := Nat.le_trans hkS E731.1
        have C733 := C0.trans (CHr.ext E731 C0.1)
        have sf734 := Safe.ext E731 C0.1 (Safe.new (Nat.le_of_eq g731.symm))
        refine go (S' := T731.setTop (mkF m 726 #[si p1, si p2, si p3, si c0, si c1, si c2, si c3, si mm, .unset, .unset] [(.int 65), (.ref b731), (.ref b731)])) (fun t k => st731 _ (XS.dup X731.here hx rfl (hb hby at_723) rfl rfl (XS.bipush X731.here hx rfl (hb hby at_724) k))) ?_
        obtain ⟨T735, h735, k735, X735, e735, E735, A735, st735⟩ := newP X731 hx hZ (ww hw 3 rfl) e731 (g := (mkF m 726 #[si p1, si p2, si p3, si c0, si c1, si c2, si c3, si mm, .unset, .unset] [(.int 65), (.ref b731), (.ref b731)])) rfl (hb hby at_726) rfl (by decide) (cap := 65) (by decide) (by decide) (by decide) (by decide)
        obtain ⟨b735, g735⟩ : ∃ z, z = h731.size := ⟨_, rfl⟩
        rw [← g735] at A735 st735
        have lt_b731_b735 : b731 < b735 := by rw [g735]; exact A731.lt
        have ge_b735 : n0 ≤ b735 := by rw [g735]; exact (Nat.le_trans Z0 K732.1)
        have sz_b735 : h0.size ≤ b735 := by rw [g735]; exact K732.1
        have K736 : Keep h0 h735 [] := K732.ext E735
        have hkS := Nat.le_trans hkS E735.1
        have C737 := C733.trans (CHr.ext E735 C733.1)
        have sf738 := Safe.ext E735 C733.1 sf734
        have V735 : Arv Z h735 b735 k735 .char (65 : Int32) [] (.int 0) := Arv.new A735 (by decide)
        refine go (S' := T735.setTop (mkF m 731 #[si p1, si p2, si p3, si c0, si c1, si c2, si c3, si mm, .unset, .unset] [(.int c0), (.int 0), (.ref b735), (.ref b735), (.ref b731), (.ref b731)])) (fun t k => st735 _ (XS.dup X735.here hx rfl (hb hby at_728) rfl rfl (XS.iconst X735.here hx rfl (hb hby at_729) (XS.iloadN X735.here hx rfl (hb hby at_730) rfl k)))) ?_
        obtain ⟨T739, h739, ws739, X739, e739, W739, V739, hw739, hl739, st739⟩ := putS X735 hx hZ e735 V735 (j := (0 : Int32)) (x := c0) (oj_c16 hbc0) ⟨by decide, by decide⟩ (i := 0) rfl List.length_nil (g := (mkF m 731 #[si p1, si p2, si p3, si c0, si c1, si c2, si c3, si mm, .unset, .unset] [(.int c0), (.int 0), (.ref b735), (.ref b735), (.ref b731), (.ref b731)])) rfl rfl (hb hby at_731)
        have K740 : Keep h0 h739 [] := K736.wr W739 (Or.inr sz_b735)
        have N741 := Fr.snoc X739 N0 ge_b735
        have hkS := Nat.le_trans hkS (Keep.of_wr W739).1
        have C742 := C737.trans (CHr.wr W739 (safeArv hZ.alike V735 (by decide)) C737.1)
        have sf743 := Safe.wr W739 (safeArv hZ.alike V735 (by decide)) C737.1 sf738
        refine go (S' := T739.setTop (mkF m 736 #[si p1, si p2, si p3, si c0, si c1, si c2, si c3, si mm, .unset, .unset] [(.int c1), (.int 1), (.ref b735), (.ref b735), (.ref b731), (.ref b731)])) (fun t k => st739 _ (XS.dup X739.here hx rfl (hb hby at_732) rfl rfl (XS.iconst X739.here hx rfl (hb hby at_733) (XS.iload X739.here hx rfl (hb hby at_734) rfl k)))) ?_
        obtain ⟨T744, h744, ws744, X744, e744, W744, V744, hw744, hl744, st744⟩ := putS X739 hx hZ e739 V739 (j := (1 : Int32)) (x := c1) (oj_c16 hbc1) ⟨by decide, by decide⟩ (i := 1) rfl hl739 (g := (mkF m 736 #[si p1, si p2, si p3, si c0, si c1, si c2, si c3, si mm, .unset, .unset] [(.int c1), (.int 1), (.ref b735), (.ref b735), (.ref b731), (.ref b731)])) rfl rfl (hb hby at_736)
        have K745 : Keep h0 h744 [] := K740.wr W744 (Or.inr sz_b735)
        have N746 := Fr.snoc X744 N741 ge_b735
        have hkS := Nat.le_trans hkS (Keep.of_wr W744).1
        have C747 := C742.trans (CHr.wr W744 (safeArv hZ.alike V739 (by decide)) C742.1)
        have sf748 := Safe.wr W744 (safeArv hZ.alike V739 (by decide)) C742.1 sf743
        refine go (S' := T744.setTop (mkF m 741 #[si p1, si p2, si p3, si c0, si c1, si c2, si c3, si mm, .unset, .unset] [(.int 97), (.int 2), (.ref b735), (.ref b735), (.ref b731), (.ref b731)])) (fun t k => st744 _ (XS.dup X744.here hx rfl (hb hby at_737) rfl rfl (XS.iconst X744.here hx rfl (hb hby at_738) (XS.bipush X744.here hx rfl (hb hby at_739) k)))) ?_
        obtain ⟨T749, h749, ws749, X749, e749, W749, V749, hw749, hl749, st749⟩ := putS X744 hx hZ e744 V744 (j := (2 : Int32)) (x := (97 : Int32)) (by decide) ⟨by decide, by decide⟩ (i := 2) rfl hl744 (g := (mkF m 741 #[si p1, si p2, si p3, si c0, si c1, si c2, si c3, si mm, .unset, .unset] [(.int 97), (.int 2), (.ref b735), (.ref b735), (.ref b731), (.ref b731)])) rfl rfl (hb hby at_741)
        have K750 : Keep h0 h749 [] := K745.wr W749 (Or.inr sz_b735)
        have N751 := Fr.snoc X749 N746 ge_b735
        have hkS := Nat.le_trans hkS (Keep.of_wr W749).1
        have C752 := C747.trans (CHr.wr W749 (safeArv hZ.alike V744 (by decide)) C747.1)
        have sf753 := Safe.wr W749 (safeArv hZ.alike V744 (by decide)) C747.1 sf748
        refine go (S' := T749.setTop (mkF m 746 #[si p1, si p2, si p3, si c0, si c1, si c2, si c3, si mm, .unset, .unset] [(.int 122), (.int 3), (.ref b735), (.ref b735), (.ref b731), (.ref b731)])) (fun t k => st749 _ (XS.dup X749.here hx rfl (hb hby at_742) rfl rfl (XS.iconst X749.here hx rfl (hb hby at_743) (XS.bipush X749.here hx rfl (hb hby at_744) k)))) ?_
        obtain ⟨T754, h754, ws754, X754, e754, W754, V754, hw754, hl754, st754⟩ := putS X749 hx hZ e749 V749 (j := (3 : Int32)) (x := (122 : Int32)) (by decide) ⟨by decide, by decide⟩ (i := 3) rfl hl749 (g := (mkF m 746 #[si p1, si p2, si p3, si c0, si c1, si c2, si c3, si mm, .unset, .unset] [(.int 122), (.int 3), (.ref b735), (.ref b735), (.ref b731), (.ref b731)])) rfl rfl (hb hby at_746)
        have K755 : Keep h0 h754 [] := K750.wr W754 (Or.inr sz_b735)
        have N756 := Fr.snoc X754 N751 ge_b735
        have hkS := Nat.le_trans hkS (Keep.of_wr W754).1
        have C757 := C752.trans (CHr.wr W754 (safeArv hZ.alike V749 (by decide)) C752.1)
        have sf758 := Safe.wr W754 (safeArv hZ.alike V749 (by decide)) C752.1 sf753
        refine go (S' := T754.setTop (mkF m 751 #[si p1, si p2, si p3, si c0, si c1, si c2, si c3, si mm, .unset, .unset] [(.int 48), (.int 4), (.ref b735), (.ref b735), (.ref b731), (.ref b731)])) (fun t k => st754 _ (XS.dup X754.here hx rfl (hb hby at_747) rfl rfl (XS.iconst X754.here hx rfl (hb hby at_748) (XS.bipush X754.here hx rfl (hb hby at_749) k)))) ?_
        obtain ⟨T759, h759, ws759, X759, e759, W759, V759, hw759, hl759, st759⟩ := putS X754 hx hZ e754 V754 (j := (4 : Int32)) (x := (48 : Int32)) (by decide) ⟨by decide, by decide⟩ (i := 4) rfl hl754 (g := (mkF m 751 #[si p1, si p2, si p3, si c0, si c1, si c2, si c3, si mm, .unset, .unset] [(.int 48), (.int 4), (.ref b735), (.ref b735), (.ref b731), (.ref b731)])) rfl rfl (hb hby at_751)
        have K760 : Keep h0 h759 [] := K755.wr W759 (Or.inr sz_b735)
        have N761 := Fr.snoc X759 N756 ge_b735
        have hkS := Nat.le_trans hkS (Keep.of_wr W759).1
        have C762 := C757.trans (CHr.wr W759 (safeArv hZ.alike V754 (by decide)) C757.1)
        have sf763 := Safe.wr W759 (safeArv hZ.alike V754 (by decide)) C757.1 sf758
        refine go (S' := T759.setTop (mkF m 756 #[si p1, si p2, si p3, si c0, si c1, si c2, si c3, si mm, .unset, .unset] [(.int 57), (.int 5), (.ref b735), (.ref b735), (.ref b731), (.ref b731)])) (fun t k => st759 _ (XS.dup X759.here hx rfl (hb hby at_752) rfl rfl (XS.iconst X759.here hx rfl (hb hby at_753) (XS.bipush X759.here hx rfl (hb hby at_754) k)))) ?_
        obtain ⟨T764, h764, ws764, X764, e764, W764, V764, hw764, hl764, st764⟩ := putS X759 hx hZ e759 V759 (j := (5 : Int32)) (x := (57 : Int32)) (by decide) ⟨by decide, by decide⟩ (i := 5) rfl hl759 (g := (mkF m 756 #[si p1, si p2, si p3, si c0, si c1, si c2, si c3, si mm, .unset, .unset] [(.int 57), (.int 5), (.ref b735), (.ref b735), (.ref b731), (.ref b731)])) rfl rfl (hb hby at_756)
        have K765 : Keep h0 h764 [] := K760.wr W764 (Or.inr sz_b735)
        have N766 := Fr.snoc X764 N761 ge_b735
        have hkS := Nat.le_trans hkS (Keep.of_wr W764).1
        have C767 := C762.trans (CHr.wr W764 (safeArv hZ.alike V759 (by decide)) C762.1)
        have sf768 := Safe.wr W764 (safeArv hZ.alike V759 (by decide)) C762.1 sf763
        refine go (S' := T764.setTop (mkF m 762 #[si p1, si p2, si p3, si c0, si c1, si c2, si c3, si mm, .unset, .unset] [(.int 45), (.int 6), (.ref b735), (.ref b735), (.ref b731), (.ref b731)])) (fun t k => st764 _ (XS.dup X764.here hx rfl (hb hby at_757) rfl rfl (XS.bipush X764.here hx rfl (hb hby at_758) (XS.bipush X764.here hx rfl (hb hby at_760) k)))) ?_
        obtain ⟨T769, h769, ws769, X769, e769, W769, V769, hw769, hl769, st769⟩ := putS X764 hx hZ e764 V764 (j := (6 : Int32)) (x := (45 : Int32)) (by decide) ⟨by decide, by decide⟩ (i := 6) rfl hl764 (g := (mkF m 762 #[si p1, si p2, si p3, si c0, si c1, si c2, si c3, si mm, .unset, .unset] [(.int 45), (.int 6), (.ref b735), (.ref b735), (.ref b731), (.ref b731)])) rfl rfl (hb hby at_762)
        have K770 : Keep h0 h769 [] := K765.wr W769 (Or.inr sz_b735)
        have N771 := Fr.snoc X769 N766 ge_b735
        have hkS := Nat.le_trans hkS (Keep.of_wr W769).1
        have C772 := C767.trans (CHr.wr W769 (safeArv hZ.alike V764 (by decide)) C767.1)
        have sf773 := Safe.wr W769 (safeArv hZ.alike V764 (by decide)) C767.1 sf768
        refine go (S' := T769.setTop (mkF m 768 #[si p1, si p2, si p3, si c0, si c1, si c2, si c3, si mm, .unset, .unset] [(.int 109), (.int 7), (.ref b735), (.ref b735), (.ref b731), (.ref b731)])) (fun t k => st769 _ (XS.dup X769.here hx rfl (hb hby at_763) rfl rfl (XS.bipush X769.here hx rfl (hb hby at_764) (XS.bipush X769.here hx rfl (hb hby at_766) k)))) ?_
        obtain ⟨T774, h774, ws774, X774, e774, W774, V774, hw774, hl774, st774⟩ := putS X769 hx hZ e769 V769 (j := (7 : Int32)) (x := (109 : Int32)) (by decide) ⟨by decide, by decide⟩ (i := 7) rfl hl769 (g := (mkF m 768 #[si p1, si p2, si p3, si c0, si c1, si c2, si c3, si mm, .unset, .unset] [(.int 109), (.int 7), (.ref b735), (.ref b735), (.ref b731), (.ref b731)])) rfl rfl (hb hby at_768)
        have K775 : Keep h0 h774 [] := K770.wr W774 (Or.inr sz_b735)
        have N776 := Fr.snoc X774 N771 ge_b735
        have hkS := Nat.le_trans hkS (Keep.of_wr W774).1
        have C777 := C772.trans (CHr.wr W774 (safeArv hZ.alike V769 (by decide)) C772.1)
        have sf778 := Safe.wr W774 (safeArv hZ.alike V769 (by decide)) C772.1 sf773
        refine go (S' := T774.setTop (mkF m 774 #[si p1, si p2, si p3, si c0, si c1, si c2, si c3, si mm, .unset, .unset] [(.int 113), (.int 8), (.ref b735), (.ref b735), (.ref b731), (.ref b731)])) (fun t k => st774 _ (XS.dup X774.here hx rfl (hb hby at_769) rfl rfl (XS.bipush X774.here hx rfl (hb hby at_770) (XS.bipush X774.here hx rfl (hb hby at_772) k)))) ?_
        obtain ⟨T779, h779, ws779, X779, e779, W779, V779, hw779, hl779, st779⟩ := putS X774 hx hZ e774 V774 (j := (8 : Int32)) (x := (113 : Int32)) (by decide) ⟨by decide, by decide⟩ (i := 8) rfl hl774 (g := (mkF m 774 #[si p1, si p2, si p3, si c0, si c1, si c2, si c3, si mm, .unset, .unset] [(.int 113), (.int 8), (.ref b735), (.ref b735), (.ref b731), (.ref b731)])) rfl rfl (hb hby at_774)
        have K780 : Keep h0 h779 [] := K775.wr W779 (Or.inr sz_b735)
        have N781 := Fr.snoc X779 N776 ge_b735
        have hkS := Nat.le_trans hkS (Keep.of_wr W779).1
        have C782 := C777.trans (CHr.wr W779 (safeArv hZ.alike V774 (by decide)) C777.1)
        have sf783 := Safe.wr W779 (safeArv hZ.alike V774 (by decide)) C777.1 sf778
        refine go (S' := T779.setTop (mkF m 780 #[si p1, si p2, si p3, si c0, si c1, si c2, si c3, si mm, .unset, .unset] [(.int 53), (.int 9), (.ref b735), (.ref b735), (.ref b731), (.ref b731)])) (fun t k => st779 _ (XS.dup X779.here hx rfl (hb hby at_775) rfl rfl (XS.bipush X779.here hx rfl (hb hby at_776) (XS.bipush X779.here hx rfl (hb hby at_778) k)))) ?_
        obtain ⟨T784, h784, ws784, X784, e784, W784, V784, hw784, hl784, st784⟩ := putS X779 hx hZ e779 V779 (j := (9 : Int32)) (x := (53 : Int32)) (by decide) ⟨by decide, by decide⟩ (i := 9) rfl hl779 (g := (mkF m 780 #[si p1, si p2, si p3, si c0, si c1, si c2, si c3, si mm, .unset, .unset] [(.int 53), (.int 9), (.ref b735), (.ref b735), (.ref b731), (.ref b731)])) rfl rfl (hb hby at_780)
        have K785 : Keep h0 h784 [] := K780.wr W784 (Or.inr sz_b735)
        have N786 := Fr.snoc X784 N781 ge_b735
        have hkS := Nat.le_trans hkS (Keep.of_wr W784).1
        have C787 := C782.trans (CHr.wr W784 (safeArv hZ.alike V779 (by decide)) C782.1)
        have sf788 := Safe.wr W784 (safeArv hZ.alike V779 (by decide)) C782.1 sf783
        refine go (S' := T784.setTop (mkF m 786 #[si p1, si p2, si p3, si c0, si c1, si c2, si c3, si mm, .unset, .unset] [(.int 120), (.int 10), (.ref b735), (.ref b735), (.ref b731), (.ref b731)])) (fun t k => st784 _ (XS.dup X784.here hx rfl (hb hby at_781) rfl rfl (XS.bipush X784.here hx rfl (hb hby at_782) (XS.bipush X784.here hx rfl (hb hby at_784) k)))) ?_
        obtain ⟨T789, h789, ws789, X789, e789, W789, V789, hw789, hl789, st789⟩ := putS X784 hx hZ e784 V784 (j := (10 : Int32)) (x := (120 : Int32)) (by decide) ⟨by decide, by decide⟩ (i := 10) rfl hl784 (g := (mkF m 786 #[si p1, si p2, si p3, si c0, si c1, si c2, si c3, si mm, .unset, .unset] [(.int 120), (.int 10), (.ref b735), (.ref b735), (.ref b731), (.ref b731)])) rfl rfl (hb hby at_786)
        have K790 : Keep h0 h789 [] := K785.wr W789 (Or.inr sz_b735)
        have N791 := Fr.snoc X789 N786 ge_b735
        have hkS := Nat.le_trans hkS (Keep.of_wr W789).1
        have C792 := C787.trans (CHr.wr W789 (safeArv hZ.alike V784 (by decide)) C787.1)
        have sf793 := Safe.wr W789 (safeArv hZ.alike V784 (by decide)) C787.1 sf788
        refine go (S' := T789.setTop (mkF m 792 #[si p1, si p2, si p3, si c0, si c1, si c2, si c3, si mm, .unset, .unset] [(.int 107), (.int 11), (.ref b735), (.ref b735), (.ref b731), (.ref b731)])) (fun t k => st789 _ (XS.dup X789.here hx rfl (hb hby at_787) rfl rfl (XS.bipush X789.here hx rfl (hb hby at_788) (XS.bipush X789.here hx rfl (hb hby at_790) k)))) ?_
        obtain ⟨T794, h794, ws794, X794, e794, W794, V794, hw794, hl794, st794⟩ := putS X789 hx hZ e789 V789 (j := (11 : Int32)) (x := (107 : Int32)) (by decide) ⟨by decide, by decide⟩ (i := 11) rfl hl789 (g := (mkF m 792 #[si p1, si p2, si p3, si c0, si c1, si c2, si c3, si mm, .unset, .unset] [(.int 107), (.int 11), (.ref b735), (.ref b735), (.ref b731), (.ref b731)])) rfl rfl (hb hby at_792)
        have K795 : Keep h0 h794 [] := K790.wr W794 (Or.inr sz_b735)
        have N796 := Fr.snoc X794 N791 ge_b735
        have hkS := Nat.le_trans hkS (Keep.of_wr W794).1
        have C797 := C792.trans (CHr.wr W794 (safeArv hZ.alike V789 (by decide)) C792.1)
        have sf798 := Safe.wr W794 (safeArv hZ.alike V789 (by decide)) C792.1 sf793
        refine go (S' := T794.setTop (mkF m 798 #[si p1, si p2, si p3, si c0, si c1, si c2, si c3, si mm, .unset, .unset] [(.int 97), (.int 12), (.ref b735), (.ref b735), (.ref b731), (.ref b731)])) (fun t k => st794 _ (XS.dup X794.here hx rfl (hb hby at_793) rfl rfl (XS.bipush X794.here hx rfl (hb hby at_794) (XS.bipush X794.here hx rfl (hb hby at_796) k)))) ?_
        obtain ⟨T799, h799, ws799, X799, e799, W799, V799, hw799, hl799, st799⟩ := putS X794 hx hZ e794 V794 (j := (12 : Int32)) (x := (97 : Int32)) (by decide) ⟨by decide, by decide⟩ (i := 12) rfl hl794 (g := (mkF m 798 #[si p1, si p2, si p3, si c0, si c1, si c2, si c3, si mm, .unset, .unset] [(.int 97), (.int 12), (.ref b735), (.ref b735), (.ref b731), (.ref b731)])) rfl rfl (hb hby at_798)
        have K800 : Keep h0 h799 [] := K795.wr W799 (Or.inr sz_b735)
        have N801 := Fr.snoc X799 N796 ge_b735
        have hkS := Nat.le_trans hkS (Keep.of_wr W799).1
        have C802 := C797.trans (CHr.wr W799 (safeArv hZ.alike V794 (by decide)) C797.1)
        have sf803 := Safe.wr W799 (safeArv hZ.alike V794 (by decide)) C797.1 sf798
        refine go (S' := T799.setTop (mkF m 804 #[si p1, si p2, si p3, si c0, si c1, si c2, si c3, si mm, .unset, .unset] [(.int 122), (.int 13), (.ref b735), (.ref b735), (.ref b731), (.ref b731)])) (fun t k => st799 _ (XS.dup X799.here hx rfl (hb hby at_799) rfl rfl (XS.bipush X799.here hx rfl (hb hby at_800) (XS.bipush X799.here hx rfl (hb hby at_802) k)))) ?_
        obtain ⟨T804, h804, ws804, X804, e804, W804, V804, hw804, hl804, st804⟩ := putS X799 hx hZ e799 V799 (j := (13 : Int32)) (x := (122 : Int32)) (by decide) ⟨by decide, by decide⟩ (i := 13) rfl hl799 (g := (mkF m 804 #[si p1, si p2, si p3, si c0, si c1, si c2, si c3, si mm, .unset, .unset] [(.int 122), (.int 13), (.ref b735), (.ref b735), (.ref b731), (.ref b731)])) rfl rfl (hb hby at_804)
        have K805 : Keep h0 h804 [] := K800.wr W804 (Or.inr sz_b735)
        have N806 := Fr.snoc X804 N801 ge_b735
        have hkS := Nat.le_trans hkS (Keep.of_wr W804).1
        have C807 := C802.trans (CHr.wr W804 (safeArv hZ.alike V799 (by decide)) C802.1)
        have sf808 := Safe.wr W804 (safeArv hZ.alike V799 (by decide)) C802.1 sf803
        refine go (S' := T804.setTop (mkF m 810 #[si p1, si p2, si p3, si c0, si c1, si c2, si c3, si mm, .unset, .unset] [(.int 48), (.int 14), (.ref b735), (.ref b735), (.ref b731), (.ref b731)])) (fun t k => st804 _ (XS.dup X804.here hx rfl (hb hby at_805) rfl rfl (XS.bipush X804.here hx rfl (hb hby at_806) (XS.bipush X804.here hx rfl (hb hby at_808) k)))) ?_
        obtain ⟨T809, h809, ws809, X809, e809, W809, V809, hw809, hl809, st809⟩ := putS X804 hx hZ e804 V804 (j := (14 : Int32)) (x := (48 : Int32)) (by decide) ⟨by decide, by decide⟩ (i := 14) rfl hl804 (g := (mkF m 810 #[si p1, si p2, si p3, si c0, si c1, si c2, si c3, si mm, .unset, .unset] [(.int 48), (.int 14), (.ref b735), (.ref b735), (.ref b731), (.ref b731)])) rfl rfl (hb hby at_810)
        have K810 : Keep h0 h809 [] := K805.wr W809 (Or.inr sz_b735)
        have N811 := Fr.snoc X809 N806 ge_b735
        have hkS := Nat.le_trans hkS (Keep.of_wr W809).1
        have C812 := C807.trans (CHr.wr W809 (safeArv hZ.alike V804 (by decide)) C807.1)
        have sf813 := Safe.wr W809 (safeArv hZ.alike V804 (by decide)) C807.1 sf808
        refine go (S' := T809.setTop (mkF m 816 #[si p1, si p2, si p3, si c0, si c1, si c2, si c3, si mm, .unset, .unset] [(.int 57), (.int 15), (.ref b735), (.ref b735), (.ref b731), (.ref b731)])) (fun t k => st809 _ (XS.dup X809.here hx rfl (hb hby at_811) rfl rfl (XS.bipush X809.here hx rfl (hb hby at_812) (XS.bipush X809.here hx rfl (hb hby at_814) k)))) ?_
        obtain ⟨T814, h814, ws814, X814, e814, W814, V814, hw814, hl814, st814⟩ := putS X809 hx hZ e809 V809 (j := (15 : Int32)) (x := (57 : Int32)) (by decide) ⟨by decide, by decide⟩ (i := 15) rfl hl809 (g := (mkF m 816 #[si p1, si p2, si p3, si c0, si c1, si c2, si c3, si mm, .unset, .unset] [(.int 57), (.int 15), (.ref b735), (.ref b735), (.ref b731), (.ref b731)])) rfl rfl (hb hby at_816)
        have K815 : Keep h0 h814 [] := K810.wr W814 (Or.inr sz_b735)
        have N816 := Fr.snoc X814 N811 ge_b735
        have hkS := Nat.le_trans hkS (Keep.of_wr W814).1
        have C817 := C812.trans (CHr.wr W814 (safeArv hZ.alike V809 (by decide)) C812.1)
        have sf818 := Safe.wr W814 (safeArv hZ.alike V809 (by decide)) C812.1 sf813
        refine go (S' := T814.setTop (mkF m 822 #[si p1, si p2, si p3, si c0, si c1, si c2, si c3, si mm, .unset, .unset] [(.int 45), (.int 16), (.ref b735), (.ref b735), (.ref b731), (.ref b731)])) (fun t k => st814 _ (XS.dup X814.here hx rfl (hb hby at_817) rfl rfl (XS.bipush X814.here hx rfl (hb hby at_818) (XS.bipush X814.here hx rfl (hb hby at_820) k)))) ?_
        obtain ⟨T819, h819, ws819, X819, e819, W819, V819, hw819, hl819, st819⟩ := putS X814 hx hZ e814 V814 (j := (16 : Int32)) (x := (45 : Int32)) (by decide) ⟨by decide, by decide⟩ (i := 16) rfl hl814 (g := (mkF m 822 #[si p1, si p2, si p3, si c0, si c1, si c2, si c3, si mm, .unset, .unset] [(.int 45), (.int 16), (.ref b735), (.ref b735), (.ref b731), (.ref b731)])) rfl rfl (hb hby at_822)
        have K820 : Keep h0 h819 [] := K815.wr W819 (Or.inr sz_b735)
        have N821 := Fr.snoc X819 N816 ge_b735
        have hkS := Nat.le_trans hkS (Keep.of_wr W819).1
        have C822 := C817.trans (CHr.wr W819 (safeArv hZ.alike V814 (by decide)) C817.1)
        have sf823 := Safe.wr W819 (safeArv hZ.alike V814 (by decide)) C817.1 sf818
        refine go (S' := T819.setTop (mkF m 828 #[si p1, si p2, si p3, si c0, si c1, si c2, si c3, si mm, .unset, .unset] [(.int 109), (.int 17), (.ref b735), (.ref b735), (.ref b731), (.ref b731)])) (fun t k => st819 _ (XS.dup X819.here hx rfl (hb hby at_823) rfl rfl (XS.bipush X819.here hx rfl (hb hby at_824) (XS.bipush X819.here hx rfl (hb hby at_826) k)))) ?_
        obtain ⟨T824, h824, ws824, X824, e824, W824, V824, hw824, hl824, st824⟩ := putS X819 hx hZ e819 V819 (j := (17 : Int32)) (x := (109 : Int32)) (by decide) ⟨by decide, by decide⟩ (i := 17) rfl hl819 (g := (mkF m 828 #[si p1, si p2, si p3, si c0, si c1, si c2, si c3, si mm, .unset, .unset] [(.int 109), (.int 17), (.ref b735), (.ref b735), (.ref b731), (.ref b731)])) rfl rfl (hb hby at_828)
        have K825 : Keep h0 h824 [] := K820.wr W824 (Or.inr sz_b735)
        have N826 := Fr.snoc X824 N821 ge_b735
        have hkS := Nat.le_trans hkS (Keep.of_wr W824).1
        have C827 := C822.trans (CHr.wr W824 (safeArv hZ.alike V819 (by decide)) C822.1)
        have sf828 := Safe.wr W824 (safeArv hZ.alike V819 (by decide)) C822.1 sf823
        refine go (S' := T824.setTop (mkF m 834 #[si p1, si p2, si p3, si c0, si c1, si c2, si c3, si mm, .unset, .unset] [(.int 113), (.int 18), (.ref b735), (.ref b735), (.ref b731), (.ref b731)])) (fun t k => st824 _ (XS.dup X824.here hx rfl (hb hby at_829) rfl rfl (XS.bipush X824.here hx rfl (hb hby at_830) (XS.bipush X824.here hx rfl (hb hby at_832) k)))) ?_
        obtain ⟨T829, h829, ws829, X829, e829, W829, V829, hw829, hl829, st829⟩ := putS X824 hx hZ e824 V824 (j := (18 : Int32)) (x := (113 : Int32)) (by decide) ⟨by decide, by decide⟩ (i := 18) rfl hl824 (g := (mkF m 834 #[si p1, si p2, si p3, si c0, si c1, si c2, si c3, si mm, .unset, .unset] [(.int 113), (.int 18), (.ref b735), (.ref b735), (.ref b731), (.ref b731)])) rfl rfl (hb hby at_834)
        have K830 : Keep h0 h829 [] := K825.wr W829 (Or.inr sz_b735)
        have N831 := Fr.snoc X829 N826 ge_b735
        have hkS := Nat.le_trans hkS (Keep.of_wr W829).1
        have C832 := C827.trans (CHr.wr W829 (safeArv hZ.alike V824 (by decide)) C827.1)
        have sf833 := Safe.wr W829 (safeArv hZ.alike V824 (by decide)) C827.1 sf828
        refine go (S' := T829.setTop (mkF m 840 #[si p1, si p2, si p3, si c0, si c1, si c2, si c3, si mm, .unset, .unset] [(.int 53), (.int 19), (.ref b735), (.ref b735), (.ref b731), (.ref b731)])) (fun t k => st829 _ (XS.dup X829.here hx rfl (hb hby at_835) rfl rfl (XS.bipush X829.here hx rfl (hb hby at_836) (XS.bipush X829.here hx rfl (hb hby at_838) k)))) ?_
        obtain ⟨T834, h834, ws834, X834, e834, W834, V834, hw834, hl834, st834⟩ := putS X829 hx hZ e829 V829 (j := (19 : Int32)) (x := (53 : Int32)) (by decide) ⟨by decide, by decide⟩ (i := 19) rfl hl829 (g := (mkF m 840 #[si p1, si p2, si p3, si c0, si c1, si c2, si c3, si mm, .unset, .unset] [(.int 53), (.int 19), (.ref b735), (.ref b735), (.ref b731), (.ref b731)])) rfl rfl (hb hby at_840)
        have K835 : Keep h0 h834 [] := K830.wr W834 (Or.inr sz_b735)
        have N836 := Fr.snoc X834 N831 ge_b735
        have hkS := Nat.le_trans hkS (Keep.of_wr W834).1
        have C837 := C832.trans (CHr.wr W834 (safeArv hZ.alike V829 (by decide)) C832.1)
        have sf838 := Safe.wr W834 (safeArv hZ.alike V829 (by decide)) C832.1 sf833
        refine go (S' := T834.setTop (mkF m 846 #[si p1, si p2, si p3, si c0, si c1, si c2, si c3, si mm, .unset, .unset] [(.int 120), (.int 20), (.ref b735), (.ref b735), (.ref b731), (.ref b731)])) (fun t k => st834 _ (XS.dup X834.here hx rfl (hb hby at_841) rfl rfl (XS.bipush X834.here hx rfl (hb hby at_842) (XS.bipush X834.here hx rfl (hb hby at_844) k)))) ?_
        obtain ⟨T839, h839, ws839, X839, e839, W839, V839, hw839, hl839, st839⟩ := putS X834 hx hZ e834 V834 (j := (20 : Int32)) (x := (120 : Int32)) (by decide) ⟨by decide, by decide⟩ (i := 20) rfl hl834 (g := (mkF m 846 #[si p1, si p2, si p3, si c0, si c1, si c2, si c3, si mm, .unset, .unset] [(.int 120), (.int 20), (.ref b735), (.ref b735), (.ref b731), (.ref b731)])) rfl rfl (hb hby at_846)
        have K840 : Keep h0 h839 [] := K835.wr W839 (Or.inr sz_b735)
        have N841 := Fr.snoc X839 N836 ge_b735
        have hkS := Nat.le_trans hkS (Keep.of_wr W839).1
        have C842 := C837.trans (CHr.wr W839 (safeArv hZ.alike V834 (by decide)) C837.1)
        have sf843 := Safe.wr W839 (safeArv hZ.alike V834 (by decide)) C837.1 sf838
        refine go (S' := T839.setTop (mkF m 852 #[si p1, si p2, si p3, si c0, si c1, si c2, si c3, si mm, .unset, .unset] [(.int 107), (.int 21), (.ref b735), (.ref b735), (.ref b731), (.ref b731)])) (fun t k => st839 _ (XS.dup X839.here hx rfl (hb hby at_847) rfl rfl (XS.bipush X839.here hx rfl (hb hby at_848) (XS.bipush X839.here hx rfl (hb hby at_850) k)))) ?_
        obtain ⟨T844, h844, ws844, X844, e844, W844, V844, hw844, hl844, st844⟩ := putS X839 hx hZ e839 V839 (j := (21 : Int32)) (x := (107 : Int32)) (by decide) ⟨by decide, by decide⟩ (i := 21) rfl hl839 (g := (mkF m 852 #[si p1, si p2, si p3, si c0, si c1, si c2, si c3, si mm, .unset, .unset] [(.int 107), (.int 21), (.ref b735), (.ref b735), (.ref b731), (.ref b731)])) rfl rfl (hb hby at_852)
        have K845 : Keep h0 h844 [] := K840.wr W844 (Or.inr sz_b735)
        have N846 := Fr.snoc X844 N841 ge_b735
        have hkS := Nat.le_trans hkS (Keep.of_wr W844).1
        have C847 := C842.trans (CHr.wr W844 (safeArv hZ.alike V839 (by decide)) C842.1)
        have sf848 := Safe.wr W844 (safeArv hZ.alike V839 (by decide)) C842.1 sf843
        refine go (S' := T844.setTop (mkF m 858 #[si p1, si p2, si p3, si c0, si c1, si c2, si c3, si mm, .unset, .unset] [(.int 97), (.int 22), (.ref b735), (.ref b735), (.ref b731), (.ref b731)])) (fun t k => st844 _ (XS.dup X844.here hx rfl (hb hby at_853) rfl rfl (XS.bipush X844.here hx rfl (hb hby at_854) (XS.bipush X844.here hx rfl (hb hby at_856) k)))) ?_
        obtain ⟨T849, h849, ws849, X849, e849, W849, V849, hw849, hl849, st849⟩ := putS X844 hx hZ e844 V844 (j := (22 : Int32)) (x := (97 : Int32)) (by decide) ⟨by decide, by decide⟩ (i := 22) rfl hl844 (g := (mkF m 858 #[si p1, si p2, si p3, si c0, si c1, si c2, si c3, si mm, .unset, .unset] [(.int 97), (.int 22), (.ref b735), (.ref b735), (.ref b731), (.ref b731)])) rfl rfl (hb hby at_858)
        have K850 : Keep h0 h849 [] := K845.wr W849 (Or.inr sz_b735)
        have N851 := Fr.snoc X849 N846 ge_b735
        have hkS := Nat.le_trans hkS (Keep.of_wr W849).1
        have C852 := C847.trans (CHr.wr W849 (safeArv hZ.alike V844 (by decide)) C847.1)
        have sf853 := Safe.wr W849 (safeArv hZ.alike V844 (by decide)) C847.1 sf848
        refine go (S' := T849.setTop (mkF m 864 #[si p1, si p2, si p3, si c0, si c1, si c2, si c3, si mm, .unset, .unset] [(.int 122), (.int 23), (.ref b735), (.ref b735), (.ref b731), (.ref b731)])) (fun t k => st849 _ (XS.dup X849.here hx rfl (hb hby at_859) rfl rfl (XS.bipush X849.here hx rfl (hb hby at_860) (XS.bipush X849.here hx rfl (hb hby at_862) k)))) ?_
        obtain ⟨T854, h854, ws854, X854, e854, W854, V854, hw854, hl854, st854⟩ := putS X849 hx hZ e849 V849 (j := (23 : Int32)) (x := (122 : Int32)) (by decide) ⟨by decide, by decide⟩ (i := 23) rfl hl849 (g := (mkF m 864 #[si p1, si p2, si p3, si c0, si c1, si c2, si c3, si mm, .unset, .unset] [(.int 122), (.int 23), (.ref b735), (.ref b735), (.ref b731), (.ref b731)])) rfl rfl (hb hby at_864)
        have K855 : Keep h0 h854 [] := K850.wr W854 (Or.inr sz_b735)
        have N856 := Fr.snoc X854 N851 ge_b735
        have hkS := Nat.le_trans hkS (Keep.of_wr W854).1
        have C857 := C852.trans (CHr.wr W854 (safeArv hZ.alike V849 (by decide)) C852.1)
        have sf858 := Safe.wr W854 (safeArv hZ.alike V849 (by decide)) C852.1 sf853
        refine go (S' := T854.setTop (mkF m 870 #[si p1, si p2, si p3, si c0, si c1, si c2, si c3, si mm, .unset, .unset] [(.int 48), (.int 24), (.ref b735), (.ref b735), (.ref b731), (.ref b731)])) (fun t k => st854 _ (XS.dup X854.here hx rfl (hb hby at_865) rfl rfl (XS.bipush X854.here hx rfl (hb hby at_866) (XS.bipush X854.here hx rfl (hb hby at_868) k)))) ?_
        obtain ⟨T859, h859, ws859, X859, e859, W859, V859, hw859, hl859, st859⟩ := putS X854 hx hZ e854 V854 (j := (24 : Int32)) (x := (48 : Int32)) (by decide) ⟨by decide, by decide⟩ (i := 24) rfl hl854 (g := (mkF m 870 #[si p1, si p2, si p3, si c0, si c1, si c2, si c3, si mm, .unset, .unset] [(.int 48), (.int 24), (.ref b735), (.ref b735), (.ref b731), (.ref b731)])) rfl rfl (hb hby at_870)
        have K860 : Keep h0 h859 [] := K855.wr W859 (Or.inr sz_b735)
        have N861 := Fr.snoc X859 N856 ge_b735
        have hkS := Nat.le_trans hkS (Keep.of_wr W859).1
        have C862 := C857.trans (CHr.wr W859 (safeArv hZ.alike V854 (by decide)) C857.1)
        have sf863 := Safe.wr W859 (safeArv hZ.alike V854 (by decide)) C857.1 sf858
        refine go (S' := T859.setTop (mkF m 876 #[si p1, si p2, si p3, si c0, si c1, si c2, si c3, si mm, .unset, .unset] [(.int 57), (.int 25), (.ref b735), (.ref b735), (.ref b731), (.ref b731)])) (fun t k => st859 _ (XS.dup X859.here hx rfl (hb hby at_871) rfl rfl (XS.bipush X859.here hx rfl (hb hby at_872) (XS.bipush X859.here hx rfl (hb hby at_874) k)))) ?_
        obtain ⟨T864, h864, ws864, X864, e864, W864, V864, hw864, hl864, st864⟩ := putS X859 hx hZ e859 V859 (j := (25 : Int32)) (x := (57 : Int32)) (by decide) ⟨by decide, by decide⟩ (i := 25) rfl hl859 (g := (mkF m 876 #[si p1, si p2, si p3, si c0, si c1, si c2, si c3, si mm, .unset, .unset] [(.int 57), (.int 25), (.ref b735), (.ref b735), (.ref b731), (.ref b731)])) rfl rfl (hb hby at_876)
        have K865 : Keep h0 h864 [] := K860.wr W864 (Or.inr sz_b735)
        have N866 := Fr.snoc X864 N861 ge_b735
        have hkS := Nat.le_trans hkS (Keep.of_wr W864).1
        have C867 := C862.trans (CHr.wr W864 (safeArv hZ.alike V859 (by decide)) C862.1)
        have sf868 := Safe.wr W864 (safeArv hZ.alike V859 (by decide)) C862.1 sf863
        refine go (S' := T864.setTop (mkF m 882 #[si p1, si p2, si p3, si c0, si c1, si c2, si c3, si mm, .unset, .unset] [(.int 45), (.int 26), (.ref b735), (.ref b735), (.ref b731), (.ref b731)])) (fun t k => st864 _ (XS.dup X864.here hx rfl (hb hby at_877) rfl rfl (XS.bipush X864.here hx rfl (hb hby at_878) (XS.bipush X864.here hx rfl (hb hby at_880) k)))) ?_
        obtain ⟨T869, h869, ws869, X869, e869, W869, V869, hw869, hl869, st869⟩ := putS X864 hx hZ e864 V864 (j := (26 : Int32)) (x := (45 : Int32)) (by decide) ⟨by decide, by decide⟩ (i := 26) rfl hl864 (g := (mkF m 882 #[si p1, si p2, si p3, si c0, si c1, si c2, si c3, si mm, .unset, .unset] [(.int 45), (.int 26), (.ref b735), (.ref b735), (.ref b731), (.ref b731)])) rfl rfl (hb hby at_882)
        have K870 : Keep h0 h869 [] := K865.wr W869 (Or.inr sz_b735)
        have N871 := Fr.snoc X869 N866 ge_b735
        have hkS := Nat.le_trans hkS (Keep.of_wr W869).1
        have C872 := C867.trans (CHr.wr W869 (safeArv hZ.alike V864 (by decide)) C867.1)
        have sf873 := Safe.wr W869 (safeArv hZ.alike V864 (by decide)) C867.1 sf868
        refine go (S' := T869.setTop (mkF m 888 #[si p1, si p2, si p3, si c0, si c1, si c2, si c3, si mm, .unset, .unset] [(.int 109), (.int 27), (.ref b735), (.ref b735), (.ref b731), (.ref b731)])) (fun t k => st869 _ (XS.dup X869.here hx rfl (hb hby at_883) rfl rfl (XS.bipush X869.here hx rfl (hb hby at_884) (XS.bipush X869.here hx rfl (hb hby at_886) k)))) ?_
        obtain ⟨T874, h874, ws874, X874, e874, W874, V874, hw874, hl874, st874⟩ := putS X869 hx hZ e869 V869 (j := (27 : Int32)) (x := (109 : Int32)) (by decide) ⟨by decide, by decide⟩ (i := 27) rfl hl869 (g := (mkF m 888 #[si p1, si p2, si p3, si c0, si c1, si c2, si c3, si mm, .unset, .unset] [(.int 109), (.int 27), (.ref b735), (.ref b735), (.ref b731), (.ref b731)])) rfl rfl (hb hby at_888)
        have K875 : Keep h0 h874 [] := K870.wr W874 (Or.inr sz_b735)
        have N876 := Fr.snoc X874 N871 ge_b735
        have hkS := Nat.le_trans hkS (Keep.of_wr W874).1
        have C877 := C872.trans (CHr.wr W874 (safeArv hZ.alike V869 (by decide)) C872.1)
        have sf878 := Safe.wr W874 (safeArv hZ.alike V869 (by decide)) C872.1 sf873
        refine go (S' := T874.setTop (mkF m 894 #[si p1, si p2, si p3, si c0, si c1, si c2, si c3, si mm, .unset, .unset] [(.int 113), (.int 28), (.ref b735), (.ref b735), (.ref b731), (.ref b731)])) (fun t k => st874 _ (XS.dup X874.here hx rfl (hb hby at_889) rfl rfl (XS.bipush X874.here hx rfl (hb hby at_890) (XS.bipush X874.here hx rfl (hb hby at_892) k)))) ?_
        obtain ⟨T879, h879, ws879, X879, e879, W879, V879, hw879, hl879, st879⟩ := putS X874 hx hZ e874 V874 (j := (28 : Int32)) (x := (113 : Int32)) (by decide) ⟨by decide, by decide⟩ (i := 28) rfl hl874 (g := (mkF m 894 #[si p1, si p2, si p3, si c0, si c1, si c2, si c3, si mm, .unset, .unset] [(.int 113), (.int 28), (.ref b735), (.ref b735), (.ref b731), (.ref b731)])) rfl rfl (hb hby at_894)
        have K880 : Keep h0 h879 [] := K875.wr W879 (Or.inr sz_b735)
        have N881 := Fr.snoc X879 N876 ge_b735
        have hkS := Nat.le_trans hkS (Keep.of_wr W879).1
        have C882 := C877.trans (CHr.wr W879 (safeArv hZ.alike V874 (by decide)) C877.1)
        have sf883 := Safe.wr W879 (safeArv hZ.alike V874 (by decide)) C877.1 sf878
        refine go (S' := T879.setTop (mkF m 900 #[si p1, si p2, si p3, si c0, si c1, si c2, si c3, si mm, .unset, .unset] [(.int 53), (.int 29), (.ref b735), (.ref b735), (.ref b731), (.ref b731)])) (fun t k => st879 _ (XS.dup X879.here hx rfl (hb hby at_895) rfl rfl (XS.bipush X879.here hx rfl (hb hby at_896) (XS.bipush X879.here hx rfl (hb hby at_898) k)))) ?_
        obtain ⟨T884, h884, ws884, X884, e884, W884, V884, hw884, hl884, st884⟩ := putS X879 hx hZ e879 V879 (j := (29 : Int32)) (x := (53 : Int32)) (by decide) ⟨by decide, by decide⟩ (i := 29) rfl hl879 (g := (mkF m 900 #[si p1, si p2, si p3, si c0, si c1, si c2, si c3, si mm, .unset, .unset] [(.int 53), (.int 29), (.ref b735), (.ref b735), (.ref b731), (.ref b731)])) rfl rfl (hb hby at_900)
        have K885 : Keep h0 h884 [] := K880.wr W884 (Or.inr sz_b735)
        have N886 := Fr.snoc X884 N881 ge_b735
        have hkS := Nat.le_trans hkS (Keep.of_wr W884).1
        have C887 := C882.trans (CHr.wr W884 (safeArv hZ.alike V879 (by decide)) C882.1)
        have sf888 := Safe.wr W884 (safeArv hZ.alike V879 (by decide)) C882.1 sf883
        refine go (S' := T884.setTop (mkF m 906 #[si p1, si p2, si p3, si c0, si c1, si c2, si c3, si mm, .unset, .unset] [(.int 120), (.int 30), (.ref b735), (.ref b735), (.ref b731), (.ref b731)])) (fun t k => st884 _ (XS.dup X884.here hx rfl (hb hby at_901) rfl rfl (XS.bipush X884.here hx rfl (hb hby at_902) (XS.bipush X884.here hx rfl (hb hby at_904) k)))) ?_
        obtain ⟨T889, h889, ws889, X889, e889, W889, V889, hw889, hl889, st889⟩ := putS X884 hx hZ e884 V884 (j := (30 : Int32)) (x := (120 : Int32)) (by decide) ⟨by decide, by decide⟩ (i := 30) rfl hl884 (g := (mkF m 906 #[si p1, si p2, si p3, si c0, si c1, si c2, si c3, si mm, .unset, .unset] [(.int 120), (.int 30), (.ref b735), (.ref b735), (.ref b731), (.ref b731)])) rfl rfl (hb hby at_906)
        have K890 : Keep h0 h889 [] := K885.wr W889 (Or.inr sz_b735)
        have N891 := Fr.snoc X889 N886 ge_b735
        have hkS := Nat.le_trans hkS (Keep.of_wr W889).1
        have C892 := C887.trans (CHr.wr W889 (safeArv hZ.alike V884 (by decide)) C887.1)
        have sf893 := Safe.wr W889 (safeArv hZ.alike V884 (by decide)) C887.1 sf888
        refine go (S' := T889.setTop (mkF m 912 #[si p1, si p2, si p3, si c0, si c1, si c2, si c3, si mm, .unset, .unset] [(.int 107), (.int 31), (.ref b735), (.ref b735), (.ref b731), (.ref b731)])) (fun t k => st889 _ (XS.dup X889.here hx rfl (hb hby at_907) rfl rfl (XS.bipush X889.here hx rfl (hb hby at_908) (XS.bipush X889.here hx rfl (hb hby at_910) k)))) ?_
        obtain ⟨T894, h894, ws894, X894, e894, W894, V894, hw894, hl894, st894⟩ := putS X889 hx hZ e889 V889 (j := (31 : Int32)) (x := (107 : Int32)) (by decide) ⟨by decide, by decide⟩ (i := 31) rfl hl889 (g := (mkF m 912 #[si p1, si p2, si p3, si c0, si c1, si c2, si c3, si mm, .unset, .unset] [(.int 107), (.int 31), (.ref b735), (.ref b735), (.ref b731), (.ref b731)])) rfl rfl (hb hby at_912)
        have K895 : Keep h0 h894 [] := K890.wr W894 (Or.inr sz_b735)
        have N896 := Fr.snoc X894 N891 ge_b735
        have hkS := Nat.le_trans hkS (Keep.of_wr W894).1
        have C897 := C892.trans (CHr.wr W894 (safeArv hZ.alike V889 (by decide)) C892.1)
        have sf898 := Safe.wr W894 (safeArv hZ.alike V889 (by decide)) C892.1 sf893
        refine go (S' := T894.setTop (mkF m 918 #[si p1, si p2, si p3, si c0, si c1, si c2, si c3, si mm, .unset, .unset] [(.int 97), (.int 32), (.ref b735), (.ref b735), (.ref b731), (.ref b731)])) (fun t k => st894 _ (XS.dup X894.here hx rfl (hb hby at_913) rfl rfl (XS.bipush X894.here hx rfl (hb hby at_914) (XS.bipush X894.here hx rfl (hb hby at_916) k)))) ?_
        obtain ⟨T899, h899, ws899, X899, e899, W899, V899, hw899, hl899, st899⟩ := putS X894 hx hZ e894 V894 (j := (32 : Int32)) (x := (97 : Int32)) (by decide) ⟨by decide, by decide⟩ (i := 32) rfl hl894 (g := (mkF m 918 #[si p1, si p2, si p3, si c0, si c1, si c2, si c3, si mm, .unset, .unset] [(.int 97), (.int 32), (.ref b735), (.ref b735), (.ref b731), (.ref b731)])) rfl rfl (hb hby at_918)
        have K900 : Keep h0 h899 [] := K895.wr W899 (Or.inr sz_b735)
        have N901 := Fr.snoc X899 N896 ge_b735
        have hkS := Nat.le_trans hkS (Keep.of_wr W899).1
        have C902 := C897.trans (CHr.wr W899 (safeArv hZ.alike V894 (by decide)) C897.1)
        have sf903 := Safe.wr W899 (safeArv hZ.alike V894 (by decide)) C897.1 sf898
        refine go (S' := T899.setTop (mkF m 924 #[si p1, si p2, si p3, si c0, si c1, si c2, si c3, si mm, .unset, .unset] [(.int 122), (.int 33), (.ref b735), (.ref b735), (.ref b731), (.ref b731)])) (fun t k => st899 _ (XS.dup X899.here hx rfl (hb hby at_919) rfl rfl (XS.bipush X899.here hx rfl (hb hby at_920) (XS.bipush X899.here hx rfl (hb hby at_922) k)))) ?_
        obtain ⟨T904, h904, ws904, X904, e904, W904, V904, hw904, hl904, st904⟩ := putS X899 hx hZ e899 V899 (j := (33 : Int32)) (x := (122 : Int32)) (by decide) ⟨by decide, by decide⟩ (i := 33) rfl hl899 (g := (mkF m 924 #[si p1, si p2, si p3, si c0, si c1, si c2, si c3, si mm, .unset, .unset] [(.int 122), (.int 33), (.ref b735), (.ref b735), (.ref b731), (.ref b731)])) rfl rfl (hb hby at_924)
        have K905 : Keep h0 h904 [] := K900.wr W904 (Or.inr sz_b735)
        have N906 := Fr.snoc X904 N901 ge_b735
        have hkS := Nat.le_trans hkS (Keep.of_wr W904).1
        have C907 := C902.trans (CHr.wr W904 (safeArv hZ.alike V899 (by decide)) C902.1)
        have sf908 := Safe.wr W904 (safeArv hZ.alike V899 (by decide)) C902.1 sf903
        refine go (S' := T904.setTop (mkF m 930 #[si p1, si p2, si p3, si c0, si c1, si c2, si c3, si mm, .unset, .unset] [(.int 48), (.int 34), (.ref b735), (.ref b735), (.ref b731), (.ref b731)])) (fun t k => st904 _ (XS.dup X904.here hx rfl (hb hby at_925) rfl rfl (XS.bipush X904.here hx rfl (hb hby at_926) (XS.bipush X904.here hx rfl (hb hby at_928) k)))) ?_
        obtain ⟨T909, h909, ws909, X909, e909, W909, V909, hw909, hl909, st909⟩ := putS X904 hx hZ e904 V904 (j := (34 : Int32)) (x := (48 : Int32)) (by decide) ⟨by decide, by decide⟩ (i := 34) rfl hl904 (g := (mkF m 930 #[si p1, si p2, si p3, si c0, si c1, si c2, si c3, si mm, .unset, .unset] [(.int 48), (.int 34), (.ref b735), (.ref b735), (.ref b731), (.ref b731)])) rfl rfl (hb hby at_930)
        have K910 : Keep h0 h909 [] := K905.wr W909 (Or.inr sz_b735)
        have N911 := Fr.snoc X909 N906 ge_b735
        have hkS := Nat.le_trans hkS (Keep.of_wr W909).1
        have C912 := C907.trans (CHr.wr W909 (safeArv hZ.alike V904 (by decide)) C907.1)
        have sf913 := Safe.wr W909 (safeArv hZ.alike V904 (by decide)) C907.1 sf908
        refine go (S' := T909.setTop (mkF m 936 #[si p1, si p2, si p3, si c0, si c1, si c2, si c3, si mm, .unset, .unset] [(.int 57), (.int 35), (.ref b735), (.ref b735), (.ref b731), (.ref b731)])) (fun t k => st909 _ (XS.dup X909.here hx rfl (hb hby at_931) rfl rfl (XS.bipush X909.here hx rfl (hb hby at_932) (XS.bipush X909.here hx rfl (hb hby at_934) k)))) ?_
        obtain ⟨T914, h914, ws914, X914, e914, W914, V914, hw914, hl914, st914⟩ := putS X909 hx hZ e909 V909 (j := (35 : Int32)) (x := (57 : Int32)) (by decide) ⟨by decide, by decide⟩ (i := 35) rfl hl909 (g := (mkF m 936 #[si p1, si p2, si p3, si c0, si c1, si c2, si c3, si mm, .unset, .unset] [(.int 57), (.int 35), (.ref b735), (.ref b735), (.ref b731), (.ref b731)])) rfl rfl (hb hby at_936)
        have K915 : Keep h0 h914 [] := K910.wr W914 (Or.inr sz_b735)
        have N916 := Fr.snoc X914 N911 ge_b735
        have hkS := Nat.le_trans hkS (Keep.of_wr W914).1
        have C917 := C912.trans (CHr.wr W914 (safeArv hZ.alike V909 (by decide)) C912.1)
        have sf918 := Safe.wr W914 (safeArv hZ.alike V909 (by decide)) C912.1 sf913
        refine go (S' := T914.setTop (mkF m 942 #[si p1, si p2, si p3, si c0, si c1, si c2, si c3, si mm, .unset, .unset] [(.int 45), (.int 36), (.ref b735), (.ref b735), (.ref b731), (.ref b731)])) (fun t k => st914 _ (XS.dup X914.here hx rfl (hb hby at_937) rfl rfl (XS.bipush X914.here hx rfl (hb hby at_938) (XS.bipush X914.here hx rfl (hb hby at_940) k)))) ?_
        obtain ⟨T919, h919, ws919, X919, e919, W919, V919, hw919, hl919, st919⟩ := putS X914 hx hZ e914 V914 (j := (36 : Int32)) (x := (45 : Int32)) (by decide) ⟨by decide, by decide⟩ (i := 36) rfl hl914 (g := (mkF m 942 #[si p1, si p2, si p3, si c0, si c1, si c2, si c3, si mm, .unset, .unset] [(.int 45), (.int 36), (.ref b735), (.ref b735), (.ref b731), (.ref b731)])) rfl rfl (hb hby at_942)
        have K920 : Keep h0 h919 [] := K915.wr W919 (Or.inr sz_b735)
        have N921 := Fr.snoc X919 N916 ge_b735
        have hkS := Nat.le_trans hkS (Keep.of_wr W919).1
        have C922 := C917.trans (CHr.wr W919 (safeArv hZ.alike V914 (by decide)) C917.1)
        have sf923 := Safe.wr W919 (safeArv hZ.alike V914 (by decide)) C917.1 sf918
        refine go (S' := T919.setTop (mkF m 948 #[si p1, si p2, si p3, si c0, si c1, si c2, si c3, si mm, .unset, .unset] [(.int 109), (.int 37), (.ref b735), (.ref b735), (.ref b731), (.ref b731)])) (fun t k => st919 _ (XS.dup X919.here hx rfl (hb hby at_943) rfl rfl (XS.bipush X919.here hx rfl (hb hby at_944) (XS.bipush X919.here hx rfl (hb hby at_946) k)))) ?_
        obtain ⟨T924, h924, ws924, X924, e924, W924, V924, hw924, hl924, st924⟩ := putS X919 hx hZ e919 V919 (j := (37 : Int32)) (x := (109 : Int32)) (by decide) ⟨by decide, by decide⟩ (i := 37) rfl hl919 (g := (mkF m 948 #[si p1, si p2, si p3, si c0, si c1, si c2, si c3, si mm, .unset, .unset] [(.int 109), (.int 37), (.ref b735), (.ref b735), (.ref b731), (.ref b731)])) rfl rfl (hb hby at_948)
        have K925 : Keep h0 h924 [] := K920.wr W924 (Or.inr sz_b735)
        have N926 := Fr.snoc X924 N921 ge_b735
        have hkS := Nat.le_trans hkS (Keep.of_wr W924).1
        have C927 := C922.trans (CHr.wr W924 (safeArv hZ.alike V919 (by decide)) C922.1)
        have sf928 := Safe.wr W924 (safeArv hZ.alike V919 (by decide)) C922.1 sf923
        refine go (S' := T924.setTop (mkF m 954 #[si p1, si p2, si p3, si c0, si c1, si c2, si c3, si mm, .unset, .unset] [(.int 113), (.int 38), (.ref b735), (.ref b735), (.ref b731), (.ref b731)])) (fun t k => st924 _ (XS.dup X924.here hx rfl (hb hby at_949) rfl rfl (XS.bipush X924.here hx rfl (hb hby at_950) (XS.bipush X924.here hx rfl (hb hby at_952) k)))) ?_
        obtain ⟨T929, h929, ws929, X929, e929, W929, V929, hw929, hl929, st929⟩ := putS X924 hx hZ e924 V924 (j := (38 : Int32)) (x := (113 : Int32)) (by decide) ⟨by decide, by decide⟩ (i := 38) rfl hl924 (g := (mkF m 954 #[si p1, si p2, si p3, si c0, si c1, si c2, si c3, si mm, .unset, .unset] [(.int 113), (.int 38), (.ref b735), (.ref b735), (.ref b731), (.ref b731)])) rfl rfl (hb hby at_954)
        have K930 : Keep h0 h929 [] := K925.wr W929 (Or.inr sz_b735)
        have N931 := Fr.snoc X929 N926 ge_b735
        have hkS := Nat.le_trans hkS (Keep.of_wr W929).1
        have C932 := C927.trans (CHr.wr W929 (safeArv hZ.alike V924 (by decide)) C927.1)
        have sf933 := Safe.wr W929 (safeArv hZ.alike V924 (by decide)) C927.1 sf928
        refine go (S' := T929.setTop (mkF m 960 #[si p1, si p2, si p3, si c0, si c1, si c2, si c3, si mm, .unset, .unset] [(.int 53), (.int 39), (.ref b735), (.ref b735), (.ref b731), (.ref b731)])) (fun t k => st929 _ (XS.dup X929.here hx rfl (hb hby at_955) rfl rfl (XS.bipush X929.here hx rfl (hb hby at_956) (XS.bipush X929.here hx rfl (hb hby at_958) k)))) ?_
        obtain ⟨T934, h934, ws934, X934, e934, W934, V934, hw934, hl934, st934⟩ := putS X929 hx hZ e929 V929 (j := (39 : Int32)) (x := (53 : Int32)) (by decide) ⟨by decide, by decide⟩ (i := 39) rfl hl929 (g := (mkF m 960 #[si p1, si p2, si p3, si c0, si c1, si c2, si c3, si mm, .unset, .unset] [(.int 53), (.int 39), (.ref b735), (.ref b735), (.ref b731), (.ref b731)])) rfl rfl (hb hby at_960)
        have K935 : Keep h0 h934 [] := K930.wr W934 (Or.inr sz_b735)
        have N936 := Fr.snoc X934 N931 ge_b735
        have hkS := Nat.le_trans hkS (Keep.of_wr W934).1
        have C937 := C932.trans (CHr.wr W934 (safeArv hZ.alike V929 (by decide)) C932.1)
        have sf938 := Safe.wr W934 (safeArv hZ.alike V929 (by decide)) C932.1 sf933
        refine go (S' := T934.setTop (mkF m 966 #[si p1, si p2, si p3, si c0, si c1, si c2, si c3, si mm, .unset, .unset] [(.int 120), (.int 40), (.ref b735), (.ref b735), (.ref b731), (.ref b731)])) (fun t k => st934 _ (XS.dup X934.here hx rfl (hb hby at_961) rfl rfl (XS.bipush X934.here hx rfl (hb hby at_962) (XS.bipush X934.here hx rfl (hb hby at_964) k)))) ?_
        obtain ⟨T939, h939, ws939, X939, e939, W939, V939, hw939, hl939, st939⟩ := putS X934 hx hZ e934 V934 (j := (40 : Int32)) (x := (120 : Int32)) (by decide) ⟨by decide, by decide⟩ (i := 40) rfl hl934 (g := (mkF m 966 #[si p1, si p2, si p3, si c0, si c1, si c2, si c3, si mm, .unset, .unset] [(.int 120), (.int 40), (.ref b735), (.ref b735), (.ref b731), (.ref b731)])) rfl rfl (hb hby at_966)
        have K940 : Keep h0 h939 [] := K935.wr W939 (Or.inr sz_b735)
        have N941 := Fr.snoc X939 N936 ge_b735
        have hkS := Nat.le_trans hkS (Keep.of_wr W939).1
        have C942 := C937.trans (CHr.wr W939 (safeArv hZ.alike V934 (by decide)) C937.1)
        have sf943 := Safe.wr W939 (safeArv hZ.alike V934 (by decide)) C937.1 sf938
        refine go (S' := T939.setTop (mkF m 972 #[si p1, si p2, si p3, si c0, si c1, si c2, si c3, si mm, .unset, .unset] [(.int 107), (.int 41), (.ref b735), (.ref b735), (.ref b731), (.ref b731)])) (fun t k => st939 _ (XS.dup X939.here hx rfl (hb hby at_967) rfl rfl (XS.bipush X939.here hx rfl (hb hby at_968) (XS.bipush X939.here hx rfl (hb hby at_970) k)))) ?_
        obtain ⟨T944, h944, ws944, X944, e944, W944, V944, hw944, hl944, st944⟩ := putS X939 hx hZ e939 V939 (j := (41 : Int32)) (x := (107 : Int32)) (by decide) ⟨by decide, by decide⟩ (i := 41) rfl hl939 (g := (mkF m 972 #[si p1, si p2, si p3, si c0, si c1, si c2, si c3, si mm, .unset, .unset] [(.int 107), (.int 41), (.ref b735), (.ref b735), (.ref b731), (.ref b731)])) rfl rfl (hb hby at_972)
        have K945 : Keep h0 h944 [] := K940.wr W944 (Or.inr sz_b735)
        have N946 := Fr.snoc X944 N941 ge_b735
        have hkS := Nat.le_trans hkS (Keep.of_wr W944).1
        have C947 := C942.trans (CHr.wr W944 (safeArv hZ.alike V939 (by decide)) C942.1)
        have sf948 := Safe.wr W944 (safeArv hZ.alike V939 (by decide)) C942.1 sf943
        refine go (S' := T944.setTop (mkF m 978 #[si p1, si p2, si p3, si c0, si c1, si c2, si c3, si mm, .unset, .unset] [(.int 97), (.int 42), (.ref b735), (.ref b735), (.ref b731), (.ref b731)])) (fun t k => st944 _ (XS.dup X944.here hx rfl (hb hby at_973) rfl rfl (XS.bipush X944.here hx rfl (hb hby at_974) (XS.bipush X944.here hx rfl (hb hby at_976) k)))) ?_
        obtain ⟨T949, h949, ws949, X949, e949, W949, V949, hw949, hl949, st949⟩ := putS X944 hx hZ e944 V944 (j := (42 : Int32)) (x := (97 : Int32)) (by decide) ⟨by decide, by decide⟩ (i := 42) rfl hl944 (g := (mkF m 978 #[si p1, si p2, si p3, si c0, si c1, si c2, si c3, si mm, .unset, .unset] [(.int 97), (.int 42), (.ref b735), (.ref b735), (.ref b731), (.ref b731)])) rfl rfl (hb hby at_978)
        have K950 : Keep h0 h949 [] := K945.wr W949 (Or.inr sz_b735)
        have N951 := Fr.snoc X949 N946 ge_b735
        have hkS := Nat.le_trans hkS (Keep.of_wr W949).1
        have C952 := C947.trans (CHr.wr W949 (safeArv hZ.alike V944 (by decide)) C947.1)
        have sf953 := Safe.wr W949 (safeArv hZ.alike V944 (by decide)) C947.1 sf948
        refine go (S' := T949.setTop (mkF m 984 #[si p1, si p2, si p3, si c0, si c1, si c2, si c3, si mm, .unset, .unset] [(.int 122), (.int 43), (.ref b735), (.ref b735), (.ref b731), (.ref b731)])) (fun t k => st949 _ (XS.dup X949.here hx rfl (hb hby at_979) rfl rfl (XS.bipush X949.here hx rfl (hb hby at_980) (XS.bipush X949.here hx rfl (hb hby at_982) k)))) ?_
        obtain ⟨T954, h954, ws954, X954, e954, W954, V954, hw954, hl954, st954⟩ := putS X949 hx hZ e949 V949 (j := (43 : Int32)) (x := (122 : Int32)) (by decide) ⟨by decide, by decide⟩ (i := 43) rfl hl949 (g := (mkF m 984 #[si p1, si p2, si p3, si c0, si c1, si c2, si c3, si mm, .unset, .unset] [(.int 122), (.int 43), (.ref b735), (.ref b735), (.ref b731), (.ref b731)])) rfl rfl (hb hby at_984)
        have K955 : Keep h0 h954 [] := K950.wr W954 (Or.inr sz_b735)
        have N956 := Fr.snoc X954 N951 ge_b735
        have hkS := Nat.le_trans hkS (Keep.of_wr W954).1
        have C957 := C952.trans (CHr.wr W954 (safeArv hZ.alike V949 (by decide)) C952.1)
        have sf958 := Safe.wr W954 (safeArv hZ.alike V949 (by decide)) C952.1 sf953
        refine go (S' := T954.setTop (mkF m 990 #[si p1, si p2, si p3, si c0, si c1, si c2, si c3, si mm, .unset, .unset] [(.int 48), (.int 44), (.ref b735), (.ref b735), (.ref b731), (.ref b731)])) (fun t k => st954 _ (XS.dup X954.here hx rfl (hb hby at_985) rfl rfl (XS.bipush X954.here hx rfl (hb hby at_986) (XS.bipush X954.here hx rfl (hb hby at_988) k)))) ?_
        obtain ⟨T959, h959, ws959, X959, e959, W959, V959, hw959, hl959, st959⟩ := putS X954 hx hZ e954 V954 (j := (44 : Int32)) (x := (48 : Int32)) (by decide) ⟨by decide, by decide⟩ (i := 44) rfl hl954 (g := (mkF m 990 #[si p1, si p2, si p3, si c0, si c1, si c2, si c3, si mm, .unset, .unset] [(.int 48), (.int 44), (.ref b735), (.ref b735), (.ref b731), (.ref b731)])) rfl rfl (hb hby at_990)
        have K960 : Keep h0 h959 [] := K955.wr W959 (Or.inr sz_b735)
        have N961 := Fr.snoc X959 N956 ge_b735
        have hkS := Nat.le_trans hkS (Keep.of_wr W959).1
        have C962 := C957.trans (CHr.wr W959 (safeArv hZ.alike V954 (by decide)) C957.1)
        have sf963 := Safe.wr W959 (safeArv hZ.alike V954 (by decide)) C957.1 sf958
        refine go (S' := T959.setTop (mkF m 996 #[si p1, si p2, si p3, si c0, si c1, si c2, si c3, si mm, .unset, .unset] [(.int 57), (.int 45), (.ref b735), (.ref b735), (.ref b731), (.ref b731)])) (fun t k => st959 _ (XS.dup X959.here hx rfl (hb hby at_991) rfl rfl (XS.bipush X959.here hx rfl (hb hby at_992) (XS.bipush X959.here hx rfl (hb hby at_994) k)))) ?_
        obtain ⟨T964, h964, ws964, X964, e964, W964, V964, hw964, hl964, st964⟩ := putS X959 hx hZ e959 V959 (j := (45 : Int32)) (x := (57 : Int32)) (by decide) ⟨by decide, by decide⟩ (i := 45) rfl hl959 (g := (mkF m 996 #[si p1, si p2, si p3, si c0, si c1, si c2, si c3, si mm, .unset, .unset] [(.int 57), (.int 45), (.ref b735), (.ref b735), (.ref b731), (.ref b731)])) rfl rfl (hb hby at_996)
        have K965 : Keep h0 h964 [] := K960.wr W964 (Or.inr sz_b735)
        have N966 := Fr.snoc X964 N961 ge_b735
        have hkS := Nat.le_trans hkS (Keep.of_wr W964).1
        have C967 := C962.trans (CHr.wr W964 (safeArv hZ.alike V959 (by decide)) C962.1)
        have sf968 := Safe.wr W964 (safeArv hZ.alike V959 (by decide)) C962.1 sf963
        refine go (S' := T964.setTop (mkF m 1002 #[si p1, si p2, si p3, si c0, si c1, si c2, si c3, si mm, .unset, .unset] [(.int 45), (.int 46), (.ref b735), (.ref b735), (.ref b731), (.ref b731)])) (fun t k => st964 _ (XS.dup X964.here hx rfl (hb hby at_997) rfl rfl (XS.bipush X964.here hx rfl (hb hby at_998) (XS.bipush X964.here hx rfl (hb hby at_1000) k)))) ?_
        obtain ⟨T969, h969, ws969, X969, e969, W969, V969, hw969, hl969, st969⟩ := putS X964 hx hZ e964 V964 (j := (46 : Int32)) (x := (45 : Int32)) (by decide) ⟨by decide, by decide⟩ (i := 46) rfl hl964 (g := (mkF m 1002 #[si p1, si p2, si p3, si c0, si c1, si c2, si c3, si mm, .unset, .unset] [(.int 45), (.int 46), (.ref b735), (.ref b735), (.ref b731), (.ref b731)])) rfl rfl (hb hby at_1002)
        have K970 : Keep h0 h969 [] := K965.wr W969 (Or.inr sz_b735)
        have N971 := Fr.snoc X969 N966 ge_b735
        have hkS := Nat.le_trans hkS (Keep.of_wr W969).1
        have C972 := C967.trans (CHr.wr W969 (safeArv hZ.alike V964 (by decide)) C967.1)
        have sf973 := Safe.wr W969 (safeArv hZ.alike V964 (by decide)) C967.1 sf968
        refine go (S' := T969.setTop (mkF m 1008 #[si p1, si p2, si p3, si c0, si c1, si c2, si c3, si mm, .unset, .unset] [(.int 109), (.int 47), (.ref b735), (.ref b735), (.ref b731), (.ref b731)])) (fun t k => st969 _ (XS.dup X969.here hx rfl (hb hby at_1003) rfl rfl (XS.bipush X969.here hx rfl (hb hby at_1004) (XS.bipush X969.here hx rfl (hb hby at_1006) k)))) ?_
        obtain ⟨T974, h974, ws974, X974, e974, W974, V974, hw974, hl974, st974⟩ := putS X969 hx hZ e969 V969 (j := (47 : Int32)) (x := (109 : Int32)) (by decide) ⟨by decide, by decide⟩ (i := 47) rfl hl969 (g := (mkF m 1008 #[si p1, si p2, si p3, si c0, si c1, si c2, si c3, si mm, .unset, .unset] [(.int 109), (.int 47), (.ref b735), (.ref b735), (.ref b731), (.ref b731)])) rfl rfl (hb hby at_1008)
        have K975 : Keep h0 h974 [] := K970.wr W974 (Or.inr sz_b735)
        have N976 := Fr.snoc X974 N971 ge_b735
        have hkS := Nat.le_trans hkS (Keep.of_wr W974).1
        have C977 := C972.trans (CHr.wr W974 (safeArv hZ.alike V969 (by decide)) C972.1)
        have sf978 := Safe.wr W974 (safeArv hZ.alike V969 (by decide)) C972.1 sf973
        refine go (S' := T974.setTop (mkF m 1014 #[si p1, si p2, si p3, si c0, si c1, si c2, si c3, si mm, .unset, .unset] [(.int 113), (.int 48), (.ref b735), (.ref b735), (.ref b731), (.ref b731)])) (fun t k => st974 _ (XS.dup X974.here hx rfl (hb hby at_1009) rfl rfl (XS.bipush X974.here hx rfl (hb hby at_1010) (XS.bipush X974.here hx rfl (hb hby at_1012) k)))) ?_
        obtain ⟨T979, h979, ws979, X979, e979, W979, V979, hw979, hl979, st979⟩ := putS X974 hx hZ e974 V974 (j := (48 : Int32)) (x := (113 : Int32)) (by decide) ⟨by decide, by decide⟩ (i := 48) rfl hl974 (g := (mkF m 1014 #[si p1, si p2, si p3, si c0, si c1, si c2, si c3, si mm, .unset, .unset] [(.int 113), (.int 48), (.ref b735), (.ref b735), (.ref b731), (.ref b731)])) rfl rfl (hb hby at_1014)
        have K980 : Keep h0 h979 [] := K975.wr W979 (Or.inr sz_b735)
        have N981 := Fr.snoc X979 N976 ge_b735
        have hkS := Nat.le_trans hkS (Keep.of_wr W979).1
        have C982 := C977.trans (CHr.wr W979 (safeArv hZ.alike V974 (by decide)) C977.1)
        have sf983 := Safe.wr W979 (safeArv hZ.alike V974 (by decide)) C977.1 sf978
        refine go (S' := T979.setTop (mkF m 1020 #[si p1, si p2, si p3, si c0, si c1, si c2, si c3, si mm, .unset, .unset] [(.int 53), (.int 49), (.ref b735), (.ref b735), (.ref b731), (.ref b731)])) (fun t k => st979 _ (XS.dup X979.here hx rfl (hb hby at_1015) rfl rfl (XS.bipush X979.here hx rfl (hb hby at_1016) (XS.bipush X979.here hx rfl (hb hby at_1018) k)))) ?_
        obtain ⟨T984, h984, ws984, X984, e984, W984, V984, hw984, hl984, st984⟩ := putS X979 hx hZ e979 V979 (j := (49 : Int32)) (x := (53 : Int32)) (by decide) ⟨by decide, by decide⟩ (i := 49) rfl hl979 (g := (mkF m 1020 #[si p1, si p2, si p3, si c0, si c1, si c2, si c3, si mm, .unset, .unset] [(.int 53), (.int 49), (.ref b735), (.ref b735), (.ref b731), (.ref b731)])) rfl rfl (hb hby at_1020)
        have K985 : Keep h0 h984 [] := K980.wr W984 (Or.inr sz_b735)
        have N986 := Fr.snoc X984 N981 ge_b735
        have hkS := Nat.le_trans hkS (Keep.of_wr W984).1
        have C987 := C982.trans (CHr.wr W984 (safeArv hZ.alike V979 (by decide)) C982.1)
        have sf988 := Safe.wr W984 (safeArv hZ.alike V979 (by decide)) C982.1 sf983
        refine go (S' := T984.setTop (mkF m 1026 #[si p1, si p2, si p3, si c0, si c1, si c2, si c3, si mm, .unset, .unset] [(.int 120), (.int 50), (.ref b735), (.ref b735), (.ref b731), (.ref b731)])) (fun t k => st984 _ (XS.dup X984.here hx rfl (hb hby at_1021) rfl rfl (XS.bipush X984.here hx rfl (hb hby at_1022) (XS.bipush X984.here hx rfl (hb hby at_1024) k)))) ?_
        obtain ⟨T989, h989, ws989, X989, e989, W989, V989, hw989, hl989, st989⟩ := putS X984 hx hZ e984 V984 (j := (50 : Int32)) (x := (120 : Int32)) (by decide) ⟨by decide, by decide⟩ (i := 50) rfl hl984 (g := (mkF m 1026 #[si p1, si p2, si p3, si c0, si c1, si c2, si c3, si mm, .unset, .unset] [(.int 120), (.int 50), (.ref b735), (.ref b735), (.ref b731), (.ref b731)])) rfl rfl (hb hby at_1026)
        have K990 : Keep h0 h989 [] := K985.wr W989 (Or.inr sz_b735)
        have N991 := Fr.snoc X989 N986 ge_b735
        have hkS := Nat.le_trans hkS (Keep.of_wr W989).1
        have C992 := C987.trans (CHr.wr W989 (safeArv hZ.alike V984 (by decide)) C987.1)
        have sf993 := Safe.wr W989 (safeArv hZ.alike V984 (by decide)) C987.1 sf988
        refine go (S' := T989.setTop (mkF m 1032 #[si p1, si p2, si p3, si c0, si c1, si c2, si c3, si mm, .unset, .unset] [(.int 107), (.int 51), (.ref b735), (.ref b735), (.ref b731), (.ref b731)])) (fun t k => st989 _ (XS.dup X989.here hx rfl (hb hby at_1027) rfl rfl (XS.bipush X989.here hx rfl (hb hby at_1028) (XS.bipush X989.here hx rfl (hb hby at_1030) k)))) ?_
        obtain ⟨T994, h994, ws994, X994, e994, W994, V994, hw994, hl994, st994⟩ := putS X989 hx hZ e989 V989 (j := (51 : Int32)) (x := (107 : Int32)) (by decide) ⟨by decide, by decide⟩ (i := 51) rfl hl989 (g := (mkF m 1032 #[si p1, si p2, si p3, si c0, si c1, si c2, si c3, si mm, .unset, .unset] [(.int 107), (.int 51), (.ref b735), (.ref b735), (.ref b731), (.ref b731)])) rfl rfl (hb hby at_1032)
        have K995 : Keep h0 h994 [] := K990.wr W994 (Or.inr sz_b735)
        have N996 := Fr.snoc X994 N991 ge_b735
        have hkS := Nat.le_trans hkS (Keep.of_wr W994).1
        have C997 := C992.trans (CHr.wr W994 (safeArv hZ.alike V989 (by decide)) C992.1)
        have sf998 := Safe.wr W994 (safeArv hZ.alike V989 (by decide)) C992.1 sf993
        refine go (S' := T994.setTop (mkF m 1038 #[si p1, si p2, si p3, si c0, si c1, si c2, si c3, si mm, .unset, .unset] [(.int 97), (.int 52), (.ref b735), (.ref b735), (.ref b731), (.ref b731)])) (fun t k => st994 _ (XS.dup X994.here hx rfl (hb hby at_1033) rfl rfl (XS.bipush X994.here hx rfl (hb hby at_1034) (XS.bipush X994.here hx rfl (hb hby at_1036) k)))) ?_
        obtain ⟨T999, h999, ws999, X999, e999, W999, V999, hw999, hl999, st999⟩ := putS X994 hx hZ e994 V994 (j := (52 : Int32)) (x := (97 : Int32)) (by decide) ⟨by decide, by decide⟩ (i := 52) rfl hl994 (g := (mkF m 1038 #[si p1, si p2, si p3, si c0, si c1, si c2, si c3, si mm, .unset, .unset] [(.int 97), (.int 52), (.ref b735), (.ref b735), (.ref b731), (.ref b731)])) rfl rfl (hb hby at_1038)
        have K1000 : Keep h0 h999 [] := K995.wr W999 (Or.inr sz_b735)
        have N1001 := Fr.snoc X999 N996 ge_b735
        have hkS := Nat.le_trans hkS (Keep.of_wr W999).1
        have C1002 := C997.trans (CHr.wr W999 (safeArv hZ.alike V994 (by decide)) C997.1)
        have sf1003 := Safe.wr W999 (safeArv hZ.alike V994 (by decide)) C997.1 sf998
        refine go (S' := T999.setTop (mkF m 1044 #[si p1, si p2, si p3, si c0, si c1, si c2, si c3, si mm, .unset, .unset] [(.int 122), (.int 53), (.ref b735), (.ref b735), (.ref b731), (.ref b731)])) (fun t k => st999 _ (XS.dup X999.here hx rfl (hb hby at_1039) rfl rfl (XS.bipush X999.here hx rfl (hb hby at_1040) (XS.bipush X999.here hx rfl (hb hby at_1042) k)))) ?_
        obtain ⟨T1004, h1004, ws1004, X1004, e1004, W1004, V1004, hw1004, hl1004, st1004⟩ := putS X999 hx hZ e999 V999 (j := (53 : Int32)) (x := (122 : Int32)) (by decide) ⟨by decide, by decide⟩ (i := 53) rfl hl999 (g := (mkF m 1044 #[si p1, si p2, si p3, si c0, si c1, si c2, si c3, si mm, .unset, .unset] [(.int 122), (.int 53), (.ref b735), (.ref b735), (.ref b731), (.ref b731)])) rfl rfl (hb hby at_1044)
        have K1005 : Keep h0 h1004 [] := K1000.wr W1004 (Or.inr sz_b735)
        have N1006 := Fr.snoc X1004 N1001 ge_b735
        have hkS := Nat.le_trans hkS (Keep.of_wr W1004).1
        have C1007 := C1002.trans (CHr.wr W1004 (safeArv hZ.alike V999 (by decide)) C1002.1)
        have sf1008 := Safe.wr W1004 (safeArv hZ.alike V999 (by decide)) C1002.1 sf1003
        refine go (S' := T1004.setTop (mkF m 1050 #[si p1, si p2, si p3, si c0, si c1, si c2, si c3, si mm, .unset, .unset] [(.int 48), (.int 54), (.ref b735), (.ref b735), (.ref b731), (.ref b731)])) (fun t k => st1004 _ (XS.dup X1004.here hx rfl (hb hby at_1045) rfl rfl (XS.bipush X1004.here hx rfl (hb hby at_1046) (XS.bipush X1004.here hx rfl (hb hby at_1048) k)))) ?_
        obtain ⟨T1009, h1009, ws1009, X1009, e1009, W1009, V1009, hw1009, hl1009, st1009⟩ := putS X1004 hx hZ e1004 V1004 (j := (54 : Int32)) (x := (48 : Int32)) (by decide) ⟨by decide, by decide⟩ (i := 54) rfl hl1004 (g := (mkF m 1050 #[si p1, si p2, si p3, si c0, si c1, si c2, si c3, si mm, .unset, .unset] [(.int 48), (.int 54), (.ref b735), (.ref b735), (.ref b731), (.ref b731)])) rfl rfl (hb hby at_1050)
        have K1010 : Keep h0 h1009 [] := K1005.wr W1009 (Or.inr sz_b735)
        have N1011 := Fr.snoc X1009 N1006 ge_b735
        have hkS := Nat.le_trans hkS (Keep.of_wr W1009).1
        have C1012 := C1007.trans (CHr.wr W1009 (safeArv hZ.alike V1004 (by decide)) C1007.1)
        have sf1013 := Safe.wr W1009 (safeArv hZ.alike V1004 (by decide)) C1007.1 sf1008
        refine go (S' := T1009.setTop (mkF m 1056 #[si p1, si p2, si p3, si c0, si c1, si c2, si c3, si mm, .unset, .unset] [(.int 57), (.int 55), (.ref b735), (.ref b735), (.ref b731), (.ref b731)])) (fun t k => st1009 _ (XS.dup X1009.here hx rfl (hb hby at_1051) rfl rfl (XS.bipush X1009.here hx rfl (hb hby at_1052) (XS.bipush X1009.here hx rfl (hb hby at_1054) k)))) ?_
        obtain ⟨T1014, h1014, ws1014, X1014, e1014, W1014, V1014, hw1014, hl1014, st1014⟩ := putS X1009 hx hZ e1009 V1009 (j := (55 : Int32)) (x := (57 : Int32)) (by decide) ⟨by decide, by decide⟩ (i := 55) rfl hl1009 (g := (mkF m 1056 #[si p1, si p2, si p3, si c0, si c1, si c2, si c3, si mm, .unset, .unset] [(.int 57), (.int 55), (.ref b735), (.ref b735), (.ref b731), (.ref b731)])) rfl rfl (hb hby at_1056)
        have K1015 : Keep h0 h1014 [] := K1010.wr W1014 (Or.inr sz_b735)
        have N1016 := Fr.snoc X1014 N1011 ge_b735
        have hkS := Nat.le_trans hkS (Keep.of_wr W1014).1
        have C1017 := C1012.trans (CHr.wr W1014 (safeArv hZ.alike V1009 (by decide)) C1012.1)
        have sf1018 := Safe.wr W1014 (safeArv hZ.alike V1009 (by decide)) C1012.1 sf1013
        refine go (S' := T1014.setTop (mkF m 1062 #[si p1, si p2, si p3, si c0, si c1, si c2, si c3, si mm, .unset, .unset] [(.int 45), (.int 56), (.ref b735), (.ref b735), (.ref b731), (.ref b731)])) (fun t k => st1014 _ (XS.dup X1014.here hx rfl (hb hby at_1057) rfl rfl (XS.bipush X1014.here hx rfl (hb hby at_1058) (XS.bipush X1014.here hx rfl (hb hby at_1060) k)))) ?_
        obtain ⟨T1019, h1019, ws1019, X1019, e1019, W1019, V1019, hw1019, hl1019, st1019⟩ := putS X1014 hx hZ e1014 V1014 (j := (56 : Int32)) (x := (45 : Int32)) (by decide) ⟨by decide, by decide⟩ (i := 56) rfl hl1014 (g := (mkF m 1062 #[si p1, si p2, si p3, si c0, si c1, si c2, si c3, si mm, .unset, .unset] [(.int 45), (.int 56), (.ref b735), (.ref b735), (.ref b731), (.ref b731)])) rfl rfl (hb hby at_1062)
        have K1020 : Keep h0 h1019 [] := K1015.wr W1019 (Or.inr sz_b735)
        have N1021 := Fr.snoc X1019 N1016 ge_b735
        have hkS := Nat.le_trans hkS (Keep.of_wr W1019).1
        have C1022 := C1017.trans (CHr.wr W1019 (safeArv hZ.alike V1014 (by decide)) C1017.1)
        have sf1023 := Safe.wr W1019 (safeArv hZ.alike V1014 (by decide)) C1017.1 sf1018
        refine go (S' := T1019.setTop (mkF m 1068 #[si p1, si p2, si p3, si c0, si c1, si c2, si c3, si mm, .unset, .unset] [(.int 109), (.int 57), (.ref b735), (.ref b735), (.ref b731), (.ref b731)])) (fun t k => st1019 _ (XS.dup X1019.here hx rfl (hb hby at_1063) rfl rfl (XS.bipush X1019.here hx rfl (hb hby at_1064) (XS.bipush X1019.here hx rfl (hb hby at_1066) k)))) ?_
        obtain ⟨T1024, h1024, ws1024, X1024, e1024, W1024, V1024, hw1024, hl1024, st1024⟩ := putS X1019 hx hZ e1019 V1019 (j := (57 : Int32)) (x := (109 : Int32)) (by decide) ⟨by decide, by decide⟩ (i := 57) rfl hl1019 (g := (mkF m 1068 #[si p1, si p2, si p3, si c0, si c1, si c2, si c3, si mm, .unset, .unset] [(.int 109), (.int 57), (.ref b735), (.ref b735), (.ref b731), (.ref b731)])) rfl rfl (hb hby at_1068)
        have K1025 : Keep h0 h1024 [] := K1020.wr W1024 (Or.inr sz_b735)
        have N1026 := Fr.snoc X1024 N1021 ge_b735
        have hkS := Nat.le_trans hkS (Keep.of_wr W1024).1
        have C1027 := C1022.trans (CHr.wr W1024 (safeArv hZ.alike V1019 (by decide)) C1022.1)
        have sf1028 := Safe.wr W1024 (safeArv hZ.alike V1019 (by decide)) C1022.1 sf1023
        refine go (S' := T1024.setTop (mkF m 1074 #[si p1, si p2, si p3, si c0, si c1, si c2, si c3, si mm, .unset, .unset] [(.int 113), (.int 58), (.ref b735), (.ref b735), (.ref b731), (.ref b731)])) (fun t k => st1024 _ (XS.dup X1024.here hx rfl (hb hby at_1069) rfl rfl (XS.bipush X1024.here hx rfl (hb hby at_1070) (XS.bipush X1024.here hx rfl (hb hby at_1072) k)))) ?_
        obtain ⟨T1029, h1029, ws1029, X1029, e1029, W1029, V1029, hw1029, hl1029, st1029⟩ := putS X1024 hx hZ e1024 V1024 (j := (58 : Int32)) (x := (113 : Int32)) (by decide) ⟨by decide, by decide⟩ (i := 58) rfl hl1024 (g := (mkF m 1074 #[si p1, si p2, si p3, si c0, si c1, si c2, si c3, si mm, .unset, .unset] [(.int 113), (.int 58), (.ref b735), (.ref b735), (.ref b731), (.ref b731)])) rfl rfl (hb hby at_1074)
        have K1030 : Keep h0 h1029 [] := K1025.wr W1029 (Or.inr sz_b735)
        have N1031 := Fr.snoc X1029 N1026 ge_b735
        have hkS := Nat.le_trans hkS (Keep.of_wr W1029).1
        have C1032 := C1027.trans (CHr.wr W1029 (safeArv hZ.alike V1024 (by decide)) C1027.1)
        have sf1033 := Safe.wr W1029 (safeArv hZ.alike V1024 (by decide)) C1027.1 sf1028
        refine go (S' := T1029.setTop (mkF m 1080 #[si p1, si p2, si p3, si c0, si c1, si c2, si c3, si mm, .unset, .unset] [(.int 53), (.int 59), (.ref b735), (.ref b735), (.ref b731), (.ref b731)])) (fun t k => st1029 _ (XS.dup X1029.here hx rfl (hb hby at_1075) rfl rfl (XS.bipush X1029.here hx rfl (hb hby at_1076) (XS.bipush X1029.here hx rfl (hb hby at_1078) k)))) ?_
        obtain ⟨T1034, h1034, ws1034, X1034, e1034, W1034, V1034, hw1034, hl1034, st1034⟩ := putS X1029 hx hZ e1029 V1029 (j := (59 : Int32)) (x := (53 : Int32)) (by decide) ⟨by decide, by decide⟩ (i := 59) rfl hl1029 (g := (mkF m 1080 #[si p1, si p2, si p3, si c0, si c1, si c2, si c3, si mm, .unset, .unset] [(.int 53), (.int 59), (.ref b735), (.ref b735), (.ref b731), (.ref b731)])) rfl rfl (hb hby at_1080)
        have K1035 : Keep h0 h1034 [] := K1030.wr W1034 (Or.inr sz_b735)
        have N1036 := Fr.snoc X1034 N1031 ge_b735
        have hkS := Nat.le_trans hkS (Keep.of_wr W1034).1
        have C1037 := C1032.trans (CHr.wr W1034 (safeArv hZ.alike V1029 (by decide)) C1032.1)
        have sf1038 := Safe.wr W1034 (safeArv hZ.alike V1029 (by decide)) C1032.1 sf1033
        refine go (S' := T1034.setTop (mkF m 1086 #[si p1, si p2, si p3, si c0, si c1, si c2, si c3, si mm, .unset, .unset] [(.int 120), (.int 60), (.ref b735), (.ref b735), (.ref b731), (.ref b731)])) (fun t k => st1034 _ (XS.dup X1034.here hx rfl (hb hby at_1081) rfl rfl (XS.bipush X1034.here hx rfl (hb hby at_1082) (XS.bipush X1034.here hx rfl (hb hby at_1084) k)))) ?_
        obtain ⟨T1039, h1039, ws1039, X1039, e1039, W1039, V1039, hw1039, hl1039, st1039⟩ := putS X1034 hx hZ e1034 V1034 (j := (60 : Int32)) (x := (120 : Int32)) (by decide) ⟨by decide, by decide⟩ (i := 60) rfl hl1034 (g := (mkF m 1086 #[si p1, si p2, si p3, si c0, si c1, si c2, si c3, si mm, .unset, .unset] [(.int 120), (.int 60), (.ref b735), (.ref b735), (.ref b731), (.ref b731)])) rfl rfl (hb hby at_1086)
        have K1040 : Keep h0 h1039 [] := K1035.wr W1039 (Or.inr sz_b735)
        have N1041 := Fr.snoc X1039 N1036 ge_b735
        have hkS := Nat.le_trans hkS (Keep.of_wr W1039).1
        have C1042 := C1037.trans (CHr.wr W1039 (safeArv hZ.alike V1034 (by decide)) C1037.1)
        have sf1043 := Safe.wr W1039 (safeArv hZ.alike V1034 (by decide)) C1037.1 sf1038
        refine go (S' := T1039.setTop (mkF m 1092 #[si p1, si p2, si p3, si c0, si c1, si c2, si c3, si mm, .unset, .unset] [(.int 107), (.int 61), (.ref b735), (.ref b735), (.ref b731), (.ref b731)])) (fun t k => st1039 _ (XS.dup X1039.here hx rfl (hb hby at_1087) rfl rfl (XS.bipush X1039.here hx rfl (hb hby at_1088) (XS.bipush X1039.here hx rfl (hb hby at_1090) k)))) ?_
        obtain ⟨T1044, h1044, ws1044, X1044, e1044, W1044, V1044, hw1044, hl1044, st1044⟩ := putS X1039 hx hZ e1039 V1039 (j := (61 : Int32)) (x := (107 : Int32)) (by decide) ⟨by decide, by decide⟩ (i := 61) rfl hl1039 (g := (mkF m 1092 #[si p1, si p2, si p3, si c0, si c1, si c2, si c3, si mm, .unset, .unset] [(.int 107), (.int 61), (.ref b735), (.ref b735), (.ref b731), (.ref b731)])) rfl rfl (hb hby at_1092)
        have K1045 : Keep h0 h1044 [] := K1040.wr W1044 (Or.inr sz_b735)
        have N1046 := Fr.snoc X1044 N1041 ge_b735
        have hkS := Nat.le_trans hkS (Keep.of_wr W1044).1
        have C1047 := C1042.trans (CHr.wr W1044 (safeArv hZ.alike V1039 (by decide)) C1042.1)
        have sf1048 := Safe.wr W1044 (safeArv hZ.alike V1039 (by decide)) C1042.1 sf1043
        refine go (S' := T1044.setTop (mkF m 1098 #[si p1, si p2, si p3, si c0, si c1, si c2, si c3, si mm, .unset, .unset] [(.int 98), (.int 62), (.ref b735), (.ref b735), (.ref b731), (.ref b731)])) (fun t k => st1044 _ (XS.dup X1044.here hx rfl (hb hby at_1093) rfl rfl (XS.bipush X1044.here hx rfl (hb hby at_1094) (XS.bipush X1044.here hx rfl (hb hby at_1096) k)))) ?_
        obtain ⟨T1049, h1049, ws1049, X1049, e1049, W1049, V1049, hw1049, hl1049, st1049⟩ := putS X1044 hx hZ e1044 V1044 (j := (62 : Int32)) (x := (98 : Int32)) (by decide) ⟨by decide, by decide⟩ (i := 62) rfl hl1044 (g := (mkF m 1098 #[si p1, si p2, si p3, si c0, si c1, si c2, si c3, si mm, .unset, .unset] [(.int 98), (.int 62), (.ref b735), (.ref b735), (.ref b731), (.ref b731)])) rfl rfl (hb hby at_1098)
        have K1050 : Keep h0 h1049 [] := K1045.wr W1049 (Or.inr sz_b735)
        have N1051 := Fr.snoc X1049 N1046 ge_b735
        have hkS := Nat.le_trans hkS (Keep.of_wr W1049).1
        have C1052 := C1047.trans (CHr.wr W1049 (safeArv hZ.alike V1044 (by decide)) C1047.1)
        have sf1053 := Safe.wr W1049 (safeArv hZ.alike V1044 (by decide)) C1047.1 sf1048
        refine go (S' := T1049.setTop (mkF m 1104 #[si p1, si p2, si p3, si c0, si c1, si c2, si c3, si mm, .unset, .unset] [(.int c2), (.int 63), (.ref b735), (.ref b735), (.ref b731), (.ref b731)])) (fun t k => st1049 _ (XS.dup X1049.here hx rfl (hb hby at_1099) rfl rfl (XS.bipush X1049.here hx rfl (hb hby at_1100) (XS.iload X1049.here hx rfl (hb hby at_1102) rfl k)))) ?_
        obtain ⟨T1054, h1054, ws1054, X1054, e1054, W1054, V1054, hw1054, hl1054, st1054⟩ := putS X1049 hx hZ e1049 V1049 (j := (63 : Int32)) (x := c2) (oj_c16 hbc2) ⟨by decide, by decide⟩ (i := 63) rfl hl1049 (g := (mkF m 1104 #[si p1, si p2, si p3, si c0, si c1, si c2, si c3, si mm, .unset, .unset] [(.int c2), (.int 63), (.ref b735), (.ref b735), (.ref b731), (.ref b731)])) rfl rfl (hb hby at_1104)
        have K1055 : Keep h0 h1054 [] := K1050.wr W1054 (Or.inr sz_b735)
        have N1056 := Fr.snoc X1054 N1051 ge_b735
        have hkS := Nat.le_trans hkS (Keep.of_wr W1054).1
        have C1057 := C1052.trans (CHr.wr W1054 (safeArv hZ.alike V1049 (by decide)) C1052.1)
        have sf1058 := Safe.wr W1054 (safeArv hZ.alike V1049 (by decide)) C1052.1 sf1053
        refine go (S' := T1054.setTop (mkF m 1110 #[si p1, si p2, si p3, si c0, si c1, si c2, si c3, si mm, .unset, .unset] [(.int c3), (.int 64), (.ref b735), (.ref b735), (.ref b731), (.ref b731)])) (fun t k => st1054 _ (XS.dup X1054.here hx rfl (hb hby at_1105) rfl rfl (XS.bipush X1054.here hx rfl (hb hby at_1106) (XS.iload X1054.here hx rfl (hb hby at_1108) rfl k)))) ?_
        obtain ⟨T1059, h1059, ws1059, X1059, e1059, W1059, V1059, hw1059, hl1059, st1059⟩ := putS X1054 hx hZ e1054 V1054 (j := (64 : Int32)) (x := c3) (oj_c16 hbc3) ⟨by decide, by decide⟩ (i := 64) rfl hl1054 (g := (mkF m 1110 #[si p1, si p2, si p3, si c0, si c1, si c2, si c3, si mm, .unset, .unset] [(.int c3), (.int 64), (.ref b735), (.ref b735), (.ref b731), (.ref b731)])) rfl rfl (hb hby at_1110)
        have K1060 : Keep h0 h1059 [] := K1055.wr W1059 (Or.inr sz_b735)
        have N1061 := Fr.snoc X1059 N1056 ge_b735
        have hkS := Nat.le_trans hkS (Keep.of_wr W1059).1
        have C1062 := C1057.trans (CHr.wr W1059 (safeArv hZ.alike V1054 (by decide)) C1057.1)
        have sf1063 := Safe.wr W1059 (safeArv hZ.alike V1054 (by decide)) C1057.1 sf1058
        refine go (S' := T1059.setTop (mkF m 1111 #[si p1, si p2, si p3, si c0, si c1, si c2, si c3, si mm, .unset, .unset] [(.ref b735), (.ref b731), (.ref b731)])) st1059 ?_
        have V1064 : Arv Z h1059 b735 k735 .char (65 : Int32) [(.int c0), (.int c1), (.int 97), (.int 122), (.int 48), (.int 57), (.int 45), (.int 109), (.int 113), (.int 53), (.int 120), (.int 107), (.int 97), (.int 122), (.int 48), (.int 57), (.int 45), (.int 109), (.int 113), (.int 53), (.int 120), (.int 107), (.int 97), (.int 122), (.int 48), (.int 57), (.int 45), (.int 109), (.int 113), (.int 53), (.int 120), (.int 107), (.int 97), (.int 122), (.int 48), (.int 57), (.int 45), (.int 109), (.int 113), (.int 53), (.int 120), (.int 107), (.int 97), (.int 122), (.int 48), (.int 57), (.int 45), (.int 109), (.int 113), (.int 53), (.int 120), (.int 107), (.int 97), (.int 122), (.int 48), (.int 57), (.int 45), (.int 109), (.int 113), (.int 53), (.int 120), (.int 107), (.int 98), (.int c2), (.int c3)] (.int 0) := snV (snS hw1059 (snS hw1054 (snS hw1049 (snS hw1044 (snS hw1039 (snS hw1034 (snS hw1029 (snS hw1024 (snS hw1019 (snS hw1014 (snS hw1009 (snS hw1004 (snS hw999 (snS hw994 (snS hw989 (snS hw984 (snS hw979 (snS hw974 (snS hw969 (snS hw964 (snS hw959 (snS hw954 (snS hw949 (snS hw944 (snS hw939 (snS hw934 (snS hw929 (snS hw924 (snS hw919 (snS hw914 (snS hw909 (snS hw904 (snS hw899 (snS hw894 (snS hw889 (snS hw884 (snS hw879 (snS hw874 (snS hw869 (snS hw864 (snS hw859 (snS hw854 (snS hw849 (snS hw844 (snS hw839 (snS hw834 (snS hw829 (snS hw824 (snS hw819 (snS hw814 (snS hw809 (snS hw804 (snS hw799 (snS hw794 (snS hw789 (snS hw784 (snS hw779 (snS hw774 (snS hw769 (snS hw764 (snS hw759 (snS hw754 (snS hw749 (snS hw744 (snS hw739 (List.nil_append _)))))))))))))))))))))))))))))))))))))))))))))))))))))))))))))))))) V1059
        have f1065 : Exa Z h1059 b731 "java/lang/String" := ((((((((((((((((((((((((((((((((((((((((((((((((((((((((((((((((((A731.ext E735).wr W739).wr W744).wr W749).wr W754).wr W759).wr W764).wr W769).wr W774).wr W779).wr W784).wr W789).wr W794).wr W799).wr W804).wr W809).wr W814).wr W819).wr W824).wr W829).wr W834).wr W839).wr W844).wr W849).wr W854).wr W859).wr W864).wr W869).wr W874).wr W879).wr W884).wr W889).wr W894).wr W899).wr W904).wr W909).wr W914).wr W919).wr W924).wr W929).wr W934).wr W939).wr W944).wr W949).wr W954).wr W959).wr W964).wr W969).wr W974).wr W979).wr W984).wr W989).wr W994).wr W999).wr W1004).wr W1009).wr W1014).wr W1019).wr W1024).wr W1029).wr W1034).wr W1039).wr W1044).wr W1049).wr W1054).wr W1059)
        have f1066 : Fld Z h1059 b731 "java/lang/String" "value" "[B" .null := (Fld.other W1059 (Fld.other W1054 (Fld.other W1049 (Fld.other W1044 (Fld.other W1039 (Fld.other W1034 (Fld.other W1029 (Fld.other W1024 (Fld.other W1019 (Fld.other W1014 (Fld.other W1009 (Fld.other W1004 (Fld.other W999 (Fld.other W994 (Fld.other W989 (Fld.other W984 (Fld.other W979 (Fld.other W974 (Fld.other W969 (Fld.other W964 (Fld.other W959 (Fld.other W954 (Fld.other W949 (Fld.other W944 (Fld.other W939 (Fld.other W934 (Fld.other W929 (Fld.other W924 (Fld.other W919 (Fld.other W914 (Fld.other W909 (Fld.other W904 (Fld.other W899 (Fld.other W894 (Fld.other W889 (Fld.other W884 (Fld.other W879 (Fld.other W874 (Fld.other W869 (Fld.other W864 (Fld.other W859 (Fld.other W854 (Fld.other W849 (Fld.other W844 (Fld.other W839 (Fld.other W834 (Fld.other W829 (Fld.other W824 (Fld.other W819 (Fld.other W814 (Fld.other W809 (Fld.other W804 (Fld.other W799 (Fld.other W794 (Fld.other W789 (Fld.other W784 (Fld.other W779 (Fld.other W774 (Fld.other W769 (Fld.other W764 (Fld.other W759 (Fld.other W754 (Fld.other W749 (Fld.other W744 (Fld.other W739 ((D731 (Or.inr (ww hw 16 rfl)) (ty := (.array .byte)) (by decide)).ext E735) (Or.inl (Nat.ne_of_lt lt_b731_b735))) (Or.inl (Nat.ne_of_lt lt_b731_b735))) (Or.inl (Nat.ne_of_lt lt_b731_b735))) (Or.inl (Nat.ne_of_lt lt_b731_b735))) (Or.inl (Nat.ne_of_lt lt_b731_b735))) (Or.inl (Nat.ne_of_lt lt_b731_b735))) (Or.inl (Nat.ne_of_lt lt_b731_b735))) (Or.inl (Nat.ne_of_lt lt_b731_b735))) (Or.inl (Nat.ne_of_lt lt_b731_b735))) (Or.inl (Nat.ne_of_lt lt_b731_b735))) (Or.inl (Nat.ne_of_lt lt_b731_b735))) (Or.inl (Nat.ne_of_lt lt_b731_b735))) (Or.inl (Nat.ne_of_lt lt_b731_b735))) (Or.inl (Nat.ne_of_lt lt_b731_b735))) (Or.inl (Nat.ne_of_lt lt_b731_b735))) (Or.inl (Nat.ne_of_lt lt_b731_b735))) (Or.inl (Nat.ne_of_lt lt_b731_b735))) (Or.inl (Nat.ne_of_lt lt_b731_b735))) (Or.inl (Nat.ne_of_lt lt_b731_b735))) (Or.inl (Nat.ne_of_lt lt_b731_b735))) (Or.inl (Nat.ne_of_lt lt_b731_b735))) (Or.inl (Nat.ne_of_lt lt_b731_b735))) (Or.inl (Nat.ne_of_lt lt_b731_b735))) (Or.inl (Nat.ne_of_lt lt_b731_b735))) (Or.inl (Nat.ne_of_lt lt_b731_b735))) (Or.inl (Nat.ne_of_lt lt_b731_b735))) (Or.inl (Nat.ne_of_lt lt_b731_b735))) (Or.inl (Nat.ne_of_lt lt_b731_b735))) (Or.inl (Nat.ne_of_lt lt_b731_b735))) (Or.inl (Nat.ne_of_lt lt_b731_b735))) (Or.inl (Nat.ne_of_lt lt_b731_b735))) (Or.inl (Nat.ne_of_lt lt_b731_b735))) (Or.inl (Nat.ne_of_lt lt_b731_b735))) (Or.inl (Nat.ne_of_lt lt_b731_b735))) (Or.inl (Nat.ne_of_lt lt_b731_b735))) (Or.inl (Nat.ne_of_lt lt_b731_b735))) (Or.inl (Nat.ne_of_lt lt_b731_b735))) (Or.inl (Nat.ne_of_lt lt_b731_b735))) (Or.inl (Nat.ne_of_lt lt_b731_b735))) (Or.inl (Nat.ne_of_lt lt_b731_b735))) (Or.inl (Nat.ne_of_lt lt_b731_b735))) (Or.inl (Nat.ne_of_lt lt_b731_b735))) (Or.inl (Nat.ne_of_lt lt_b731_b735))) (Or.inl (Nat.ne_of_lt lt_b731_b735))) (Or.inl (Nat.ne_of_lt lt_b731_b735))) (Or.inl (Nat.ne_of_lt lt_b731_b735))) (Or.inl (Nat.ne_of_lt lt_b731_b735))) (Or.inl (Nat.ne_of_lt lt_b731_b735))) (Or.inl (Nat.ne_of_lt lt_b731_b735))) (Or.inl (Nat.ne_of_lt lt_b731_b735))) (Or.inl (Nat.ne_of_lt lt_b731_b735))) (Or.inl (Nat.ne_of_lt lt_b731_b735))) (Or.inl (Nat.ne_of_lt lt_b731_b735))) (Or.inl (Nat.ne_of_lt lt_b731_b735))) (Or.inl (Nat.ne_of_lt lt_b731_b735))) (Or.inl (Nat.ne_of_lt lt_b731_b735))) (Or.inl (Nat.ne_of_lt lt_b731_b735))) (Or.inl (Nat.ne_of_lt lt_b731_b735))) (Or.inl (Nat.ne_of_lt lt_b731_b735))) (Or.inl (Nat.ne_of_lt lt_b731_b735))) (Or.inl (Nat.ne_of_lt lt_b731_b735))) (Or.inl (Nat.ne_of_lt lt_b731_b735))) (Or.inl (Nat.ne_of_lt lt_b731_b735))) (Or.inl (Nat.ne_of_lt lt_b731_b735))) (Or.inl (Nat.ne_of_lt lt_b731_b735)))
        have f1067 : Fld Z h1059 b731 "java/lang/String" "coder" "B" (.int 0) := (Fld.other W1059 (Fld.other W1054 (Fld.other W1049 (Fld.other W1044 (Fld.other W1039 (Fld.other W1034 (Fld.other W1029 (Fld.other W1024 (Fld.other W1019 (Fld.other W1014 (Fld.other W1009 (Fld.other W1004 (Fld.other W999 (Fld.other W994 (Fld.other W989 (Fld.other W984 (Fld.other W979 (Fld.other W974 (Fld.other W969 (Fld.other W964 (Fld.other W959 (Fld.other W954 (Fld.other W949 (Fld.other W944 (Fld.other W939 (Fld.other W934 (Fld.other W929 (Fld.other W924 (Fld.other W919 (Fld.other W914 (Fld.other W909 (Fld.other W904 (Fld.other W899 (Fld.other W894 (Fld.other W889 (Fld.other W884 (Fld.other W879 (Fld.other W874 (Fld.other W869 (Fld.other W864 (Fld.other W859 (Fld.other W854 (Fld.other W849 (Fld.other W844 (Fld.other W839 (Fld.other W834 (Fld.other W829 (Fld.other W824 (Fld.other W819 (Fld.other W814 (Fld.other W809 (Fld.other W804 (Fld.other W799 (Fld.other W794 (Fld.other W789 (Fld.other W784 (Fld.other W779 (Fld.other W774 (Fld.other W769 (Fld.other W764 (Fld.other W759 (Fld.other W754 (Fld.other W749 (Fld.other W744 (Fld.other W739 ((D731 (Or.inr (ww hw 17 rfl)) (ty := .byte) (by decide)).ext E735) (Or.inl (Nat.ne_of_lt lt_b731_b735))) (Or.inl (Nat.ne_of_lt lt_b731_b735))) (Or.inl (Nat.ne_of_lt lt_b731_b735))) (Or.inl (Nat.ne_of_lt lt_b731_b735))) (Or.inl (Nat.ne_of_lt lt_b731_b735))) (Or.inl (Nat.ne_of_lt lt_b731_b735))) (Or.inl (Nat.ne_of_lt lt_b731_b735))) (Or.inl (Nat.ne_of_lt lt_b731_b735))) (Or.inl (Nat.ne_of_lt lt_b731_b735))) (Or.inl (Nat.ne_of_lt lt_b731_b735))) (Or.inl (Nat.ne_of_lt lt_b731_b735))) (Or.inl (Nat.ne_of_lt lt_b731_b735))) (Or.inl (Nat.ne_of_lt lt_b731_b735))) (Or.inl (Nat.ne_of_lt lt_b731_b735))) (Or.inl (Nat.ne_of_lt lt_b731_b735))) (Or.inl (Nat.ne_of_lt lt_b731_b735))) (Or.inl (Nat.ne_of_lt lt_b731_b735))) (Or.inl (Nat.ne_of_lt lt_b731_b735))) (Or.inl (Nat.ne_of_lt lt_b731_b735))) (Or.inl (Nat.ne_of_lt lt_b731_b735))) (Or.inl (Nat.ne_of_lt lt_b731_b735))) (Or.inl (Nat.ne_of_lt lt_b731_b735))) (Or.inl (Nat.ne_of_lt lt_b731_b735))) (Or.inl (Nat.ne_of_lt lt_b731_b735))) (Or.inl (Nat.ne_of_lt lt_b731_b735))) (Or.inl (Nat.ne_of_lt lt_b731_b735))) (Or.inl (Nat.ne_of_lt lt_b731_b735))) (Or.inl (Nat.ne_of_lt lt_b731_b735))) (Or.inl (Nat.ne_of_lt lt_b731_b735))) (Or.inl (Nat.ne_of_lt lt_b731_b735))) (Or.inl (Nat.ne_of_lt lt_b731_b735))) (Or.inl (Nat.ne_of_lt lt_b731_b735))) (Or.inl (Nat.ne_of_lt lt_b731_b735))) (Or.inl (Nat.ne_of_lt lt_b731_b735))) (Or.inl (Nat.ne_of_lt lt_b731_b735))) (Or.inl (Nat.ne_of_lt lt_b731_b735))) (Or.inl (Nat.ne_of_lt lt_b731_b735))) (Or.inl (Nat.ne_of_lt lt_b731_b735))) (Or.inl (Nat.ne_of_lt lt_b731_b735))) (Or.inl (Nat.ne_of_lt lt_b731_b735))) (Or.inl (Nat.ne_of_lt lt_b731_b735))) (Or.inl (Nat.ne_of_lt lt_b731_b735))) (Or.inl (Nat.ne_of_lt lt_b731_b735))) (Or.inl (Nat.ne_of_lt lt_b731_b735))) (Or.inl (Nat.ne_of_lt lt_b731_b735))) (Or.inl (Nat.ne_of_lt lt_b731_b735))) (Or.inl (Nat.ne_of_lt lt_b731_b735))) (Or.inl (Nat.ne_of_lt lt_b731_b735))) (Or.inl (Nat.ne_of_lt lt_b731_b735))) (Or.inl (Nat.ne_of_lt lt_b731_b735))) (Or.inl (Nat.ne_of_lt lt_b731_b735))) (Or.inl (Nat.ne_of_lt lt_b731_b735))) (Or.inl (Nat.ne_of_lt lt_b731_b735))) (Or.inl (Nat.ne_of_lt lt_b731_b735))) (Or.inl (Nat.ne_of_lt lt_b731_b735))) (Or.inl (Nat.ne_of_lt lt_b731_b735))) (Or.inl (Nat.ne_of_lt lt_b731_b735))) (Or.inl (Nat.ne_of_lt lt_b731_b735))) (Or.inl (Nat.ne_of_lt lt_b731_b735))) (Or.inl (Nat.ne_of_lt lt_b731_b735))) (Or.inl (Nat.ne_of_lt lt_b731_b735))) (Or.inl (Nat.ne_of_lt lt_b731_b735))) (Or.inl (Nat.ne_of_lt lt_b731_b735))) (Or.inl (Nat.ne_of_lt lt_b731_b735))) (Or.inl (Nat.ne_of_lt lt_b731_b735)))
        have O1068 : Old Z n0 h1059 := O0.keep K1060 all0
        obtain ⟨v1069, T1069, L1069, X1069, hQ1069, st1069⟩ := callSp X1059 hx hZ (y := y_9) rfl hown (ww hw 4 rfl) (ww hw 5 rfl) (ww hw 6 rfl) (by decide) (backOf (W := 1) (rmInit1 l Z a0 hw [] b731 b735 (65 : Int32) k735 ([c0, c1, 97, 122, 48, 57, 45, 109, 113, 53, 120, 107, 97, 122, 48, 57, 45, 109, 113, 53, 120, 107, 97, 122, 48, 57, 45, 109, 113, 53, 120, 107, 97, 122, 48, 57, 45, 109, 113, 53, 120, 107, 97, 122, 48, 57, 45, 109, 113, 53, 120, 107, 97, 122, 48, 57, 45, 109, 113, 53, 120, 107, 98, c2, c3] : List Int32) (.int 0) G1 h1059 n0 (Nat.le_trans Z0 K1060.1) V1064 rfl (Nat.le_of_ble_eq_true rfl) (Nat.le_of_ble_eq_true rfl) (allI hbc0 (allI hbc1 (allI (by decide) (allI (by decide) (allI (by decide) (allI (by decide) (allI (by decide) (allI (by decide) (allI (by decide) (allI (by decide) (allI (by decide) (allI (by decide) (allI (by decide) (allI (by decide) (allI (by decide) (allI (by decide) (allI (by decide) (allI (by decide) (allI (by decide) (allI (by decide) (allI (by decide) (allI (by decide) (allI (by decide) (allI (by decide) (allI (by decide) (allI (by decide) (allI (by decide) (allI (by decide) (allI (by decide) (allI (by decide) (allI (by decide) (allI (by decide) (allI (by decide) (allI (by decide) (allI (by decide) (allI (by decide) (allI (by decide) (allI (by decide) (allI (by decide) (allI (by decide) (allI (by decide) (allI (by decide) (allI (by decide) (allI (by decide) (allI (by decide) (allI (by decide) (allI (by decide) (allI (by decide) (allI (by decide) (allI (by decide) (allI (by decide) (allI (by decide) (allI (by decide) (allI (by decide) (allI (by decide) (allI (by decide) (allI (by decide) (allI (by decide) (allI (by decide) (allI (by decide) (allI (by decide) (allI (by decide) (allI (by decide) (allI hbc2 (allI hbc3 (fun _ q => nomatch q)))))))))))))))))))))))))))))))))))))))))))))))))))))))))))))))))) f1065 f1066 f1067 ge_b731 (Nat.ne_of_lt lt_b731_b735) hp0 hG1 hp4 hp5 hp6 O1068) hZ (ww hw 6 rfl) (ww hw 2 rfl) (by decide) (by decide)) (g := (mkF m 1111 #[si p1, si p2, si p3, si c0, si c1, si c2, si c3, si mm, .unset, .unset] [(.ref b735), (.ref b731), (.ref b731)])) rfl (by rw [hml]; rfl) (a := b731) (kc := 2) (ks := 195) (argsL := [(.ref b735)]) (rest := [(.ref b731)]) (lenOf pd_16 rfl) rfl (mr0 rfl) (hb hby at_1111) e1059 (by decide) (by decide)
        obtain ⟨t_1069, cd_1069, rfl, N1069q, Kq1069, q1069_0, q1069_1, q1069_2⟩ := hQ1069
        have N1069 := Fr.app N1061 N1069q
        have hkS := Nat.le_trans hkS Kq1069.1
        have C1070 := C1062.trans (CHr.keep Kq1069 (allS sf1063 all0) C1062.1)
        have sf1071 := Safe.keep Kq1069 (allS sf1063 all0) C1062.1 sf1063
        have K1072 : Keep h0 T1069.heap [] := K1060.trans Kq1069 (allS (P := fun x => x ∈ [] ∨ h0.size ≤ x) (Or.inr sz_b731) all0)
        have lt_b731_t_1069 : b731 < t_1069 := Nat.lt_of_lt_of_le f1065.lt q1069_0
        have lt_b735_t_1069 : b735 < t_1069 := Nat.lt_of_lt_of_le V1064.lt q1069_0
        have sz_t_1069 : h0.size ≤ t_1069 := Nat.le_trans K1060.1 q1069_0
        have ge_t_1069 : n0 ≤ t_1069 := Nat.le_trans Z0 sz_t_1069
        have ne_t_1069_b731 := q1069_1
        refine go (S' := T1069.setTop (mkF m 1130 #[si p1, si p2, si p3, si c0, si c1, si c2, si c3, si mm, sr b731, si 0] [(.ref b731)])) (fun t k => st1069 _ (XS.astore X1069.here hx rfl (hb hby at_1114) rfl rfl (l' := #[si p1, si p2, si p3, si c0, si c1, si c2, si c3, si mm, sr b731, .unset]) rfl (XS.iconst X1069.here hx rfl (hb hby at_1116) (XS.istore X1069.here hx rfl (hb hby at_1117) rfl (l' := #[si p1, si p2, si p3, si c0, si c1, si c2, si c3, si mm, sr b731, si 0]) rfl (XS.goto X1069.here hx rfl (pc0 := 1119) (pc' := 1128) rfl (hb hby at_1119) (by decide) (by decide) (XS.aload X1069.here hx rfl (hb hby at_1128) rfl rfl k)))))) ?_
        have O1073 : Old Z n0 T1069.heap := O0.keep K1072 all0
        obtain ⟨v1074, T1074, L1074, X1074, hQ1074, st1074⟩ := callSt X1069 hx hZ (y := y_21) hown (ww hw 22 rfl) (ww hw 23 rfl) (ww hw 24 rfl) (ww hw 25 rfl) (by decide) (backOf (W := 0) (rmVa l Z a0 hw [] b731 t_1069 cd_1069 ([c0, c1, 97, 122, 48, 57, 45, 109, 113, 53, 120, 107, 97, 122, 48, 57, 45, 109, 113, 53, 120, 107, 97, 122, 48, 57, 45, 109, 113, 53, 120, 107, 97, 122, 48, 57, 45, 109, 113, 53, 120, 107, 97, 122, 48, 57, 45, 109, 113, 53, 120, 107, 97, 122, 48, 57, 45, 109, 113, 53, 120, 107, 98, c2, c3] : List Int32) G1 fm T1069.heap n0 (Nat.le_trans Z0 K1072.1) q1069_2 (Nat.le_of_ble_eq_true rfl) hfm hp2 hp0 hG1 hp4 hp5 hp6 O1073) hZ (ww hw 25 rfl) (ww hw 24 rfl) (by decide) (by decide)) (g := (mkF m 1130 #[si p1, si p2, si p3, si c0, si c1, si c2, si c3, si mm, sr b731, si 0] [(.ref b731)])) rfl (by rw [hml]; rfl) (kc := 0) (ks := 0) (argsL := [(.ref b731)]) (rest := []) (lenOf pd_17 rfl) rfl (mr0 rfl) (hb hby at_1130) rfl (by decide) (by decide)
        obtain ⟨rfl, N1074q, e1074⟩ := hQ1074
        have N1074 := Fr.app N1069 N1074q
        refine go (S' := T1074.setTop (mkF m 1135 #[si p1, si p2, si p3, si c0, si c1, si c2, si c3, si mm, sr b731, si 0] [(.int 0), (.int (own_val ([c0, c1, 97, 122, 48, 57, 45, 109, 113, 53, 120, 107, 97, 122, 48, 57, 45, 109, 113, 53, 120, 107, 97, 122, 48, 57, 45, 109, 113, 53, 120, 107, 97, 122, 48, 57, 45, 109, 113, 53, 120, 107, 97, 122, 48, 57, 45, 109, 113, 53, 120, 107, 97, 122, 48, 57, 45, 109, 113, 53, 120, 107, 98, c2, c3] : List Int32)))])) (fun t k => st1074 _ (XS.iload X1074.here hx rfl (hb hby at_1133) rfl k)) ?_
        have hc1075 : (own_val ([c0, c1, 97, 122, 48, 57, 45, 109, 113, 53, 120, 107, 97, 122, 48, 57, 45, 109, 113, 53, 120, 107, 97, 122, 48, 57, 45, 109, 113, 53, 120, 107, 97, 122, 48, 57, 45, 109, 113, 53, 120, 107, 97, 122, 48, 57, 45, 109, 113, 53, 120, 107, 97, 122, 48, 57, 45, 109, 113, 53, 120, 107, 98, c2, c3] : List Int32)) = (0 : Int32) := own_val_65 rfl
        refine go (S' := T1074.setTop (mkF m 1143 #[si p1, si p2, si p3, si c0, si c1, si c2, si c3, si mm, sr b731, si 0] [(.int 1)])) (fun t k => XS.icmpNo X1074.here hx rfl (hb hby at_1135) rfl (teq hc1075).2 (XS.iconst X1074.here hx rfl (hb hby at_1138) (XS.goto X1074.here hx rfl (pc0 := 1139) (pc' := 1143) rfl (hb hby at_1139) (by decide) (by decide) k))) ?_
        refine finNW X1074 hx hk (t := .boolean) hret (by simp) hS hkS hZ (own_EW hw) C1070 e1074 (hb hby at_1143) (by decide) (by decide) ?_
        exact ⟨rfl, N1074, K1072⟩
       ·
        refine go (S' := T0.setTop (mkF m 1130 #[si p1, si p2, si p3, si c0, si c1, si c2, si c3, si mm, .val .null, si 0] [.null])) (fun t k => XS.icmpYes X0.here hx rfl (pc0 := 717) (pc' := 1122) rfl (hb hby at_717) rfl (feq hc730).2 (by decide) (by decide) (XS.aconstNull X0.here hx rfl (hb hby at_1122) (XS.astore X0.here hx rfl (hb hby at_1123) rfl rfl (l' := #[si p1, si p2, si p3, si c0, si c1, si c2, si c3, si mm, .val .null, .unset]) rfl (XS.iconst X0.here hx rfl (hb hby at_1125) (XS.istore X0.here hx rfl (hb hby at_1126) rfl (l' := #[si p1, si p2, si p3, si c0, si c1, si c2, si c3, si mm, .val .null, si 0]) rfl (XS.aload X0.here hx rfl (hb hby at_1128) rfl rfl k)))))) ?_
        obtain ⟨v1076, T1076, L1076, X1076, hQ1076, st1076⟩ := callSt X0 hx hZ (y := y_21) hown (ww hw 22 rfl) (ww hw 23 rfl) (ww hw 24 rfl) (ww hw 25 rfl) (by decide) (backOf (W := 0) (rmVn l Z a0 hw []  h0 n0 (Nat.le_trans Z0 K0.1) ) hZ (ww hw 25 rfl) (ww hw 24 rfl) (by decide) (by decide)) (g := (mkF m 1130 #[si p1, si p2, si p3, si c0, si c1, si c2, si c3, si mm, .val .null, si 0] [.null])) rfl (by rw [hml]; rfl) (kc := 0) (ks := 0) (argsL := [.null]) (rest := []) (lenOf pd_17 rfl) rfl (mr0 rfl) (hb hby at_1130) e0 (by decide) (by decide)
        obtain ⟨rfl, N1076q, e1076⟩ := hQ1076
        have N1076 := Fr.app N0 N1076q
        refine go (S' := T1076.setTop (mkF m 1135 #[si p1, si p2, si p3, si c0, si c1, si c2, si c3, si mm, .val .null, si 0] [(.int 0), (.int 0)])) (fun t k => st1076 _ (XS.iload X1076.here hx rfl (hb hby at_1133) rfl k)) ?_
        have hc1077 : (0 : Int32) = (0 : Int32) := by decide
        refine go (S' := T1076.setTop (mkF m 1143 #[si p1, si p2, si p3, si c0, si c1, si c2, si c3, si mm, .val .null, si 0] [(.int 1)])) (fun t k => XS.icmpNo X1076.here hx rfl (hb hby at_1135) rfl (teq hc1077).2 (XS.iconst X1076.here hx rfl (hb hby at_1138) (XS.goto X1076.here hx rfl (pc0 := 1139) (pc' := 1143) rfl (hb hby at_1139) (by decide) (by decide) k))) ?_
        refine finNW X1076 hx hk (t := .boolean) hret (by simp) hS hkS hZ (own_EW hw) C0 e1076 (hb hby at_1143) (by decide) (by decide) ?_
        exact ⟨rfl, N1076, K0⟩
set_option maxRecDepth 65536 in
set_option maxHeartbeats 40000000 in
theorem comes_1 {Post : Tables → Env → Array Value → State → Outcome → State → Prop} (hpost : ∀ tb e args s v u, (limb_1_1.after args s (.returned v) u = true ∧ limb_1_2.after args s (.returned v) u = true ∧ True) → ReturnedEndW s (.returned v) u (Jvm.fieldLocs frame_1_writes args s ++ Jvm.arrayLocs frame_1_arrays args s ++ Jvm.staticLocs frame_1_statics s) 24 1664 → Post tb e args s (.returned v) u) :
    ArmFor flags0 classFile x code maxLocals ret World_1 tables_1 room_1 Calls_1 rest_1 Pre_1 Post := by
  intro l hfl _ _ p e ha hc hk s m args below hf hA hF happ hP
  obtain ⟨hcalls, hrest, hpre⟩ := hP
  obtain ⟨-, -, -, hnamed, -, -, -, hat⟩ := (Spec.applies_iff hf).mp happ
  obtain ⟨hg, hn⟩ := and_e (Cond.before_iff.mp (show (Jvm.Cond.and given_1 narrow_1).before args s = true from hpre))
  obtain ⟨hcount, hg0⟩ := and_e hg
  obtain ⟨ha0, hg1⟩ := and_e hg0
  obtain ⟨ha1, hg2⟩ := and_e hg1
  have ha2 := hg2
  obtain ⟨w0, w1, w2, rfl⟩ : ∃ w0 w1 w2 : Value, args = #[w0, w1, w2] := by
    have hs : args.size = 3 := by simpa [Cond.value, given_1] using hcount
    obtain ⟨L⟩ := args
    match L, hs with
    | [w0, w1, w2], _ => exact ⟨w0, w1, w2, rfl⟩
  have hw := fun d (hd : d ∈ tables_1) => atoms_spec (ws := Jvm.Cond.code x code maxLocals ret :: tables_1) hat d (List.mem_cons_of_mem _ hd)
  obtain ⟨hsets, hown0⟩ := atoms_of _ (rest_1_c_eq ▸ (show rest_1_c.before _ s = true from hrest))
  obtain ⟨i0, ei0⟩ := is_v ha0
  obtain rfl : w0 = (.int i0) := Option.some.inj ei0
  obtain ⟨i1, ei1⟩ := is_v ha1
  obtain rfl : w1 = (.int i1) := Option.some.inj ei1
  obtain ⟨i2, ei2⟩ := is_v ha2
  obtain rfl : w2 = (.int i2) := Option.some.inj ei2
  have hn_0 := hn
  obtain ⟨g1078, eg1078⟩ := is_v (Cond.before_iff.mp (hsets _ (List.mem_of_getElem? (i := 1) rfl)))
  have sg1078 : Sta s s.heap "java/lang/String" "COMPACT_STRINGS" "Z" (.int g1078) := Sta.start eg1078 (Or.inl (hsets _ (List.mem_of_getElem? (i := 0) rfl)))
  obtain ⟨g1079, eg1079, rg1079⟩ := isR_v (Cond.before_iff.mp (hsets _ (List.mem_of_getElem? (i := 8) rfl)))
  have sg1079 : Sta s s.heap "jdk/internal/util/Preconditions" "SIOOBE_FORMATTER" "Ljava/util/function/BiFunction;" g1079 := Sta.start eg1079 (Or.inl (hsets _ (List.mem_of_getElem? (i := 7) rfl)))
  have eg1080 := eqInt_v (Cond.before_iff.mp (hsets _ (List.mem_of_getElem? (i := 12) rfl)))
  have sg1080 : Sta s s.heap "java/lang/StringUTF16" "$assertionsDisabled" "Z" (.int 1) := Sta.start eg1080 (Or.inl (hsets _ (List.mem_of_getElem? (i := 11) rfl)))
  have eg1081 := eqInt_v (Cond.before_iff.mp (hsets _ (List.mem_of_getElem? (i := 15) rfl)))
  have sg1081 : Sta s s.heap "java/lang/StringUTF16" "HI_BYTE_SHIFT" "I" (.int 0) := Sta.start eg1081 (Or.inl (hsets _ (List.mem_of_getElem? (i := 14) rfl)))
  have eg1082 := eqInt_v (Cond.before_iff.mp (hsets _ (List.mem_of_getElem? (i := 18) rfl)))
  have sg1082 : Sta s s.heap "java/lang/StringUTF16" "LO_BYTE_SHIFT" "I" (.int 8) := Sta.start eg1082 (Or.inl (hsets _ (List.mem_of_getElem? (i := 17) rfl)))
  have c1083 : ¬ (g1078 = (0 : Int32)) := gotF (Cond.eq_ints eg1078 (Term.int_eval (0))) (not_v (Cond.before_iff.mp (hsets _ (List.mem_of_getElem? (i := 2) rfl))))
  have hCH : CHv s consts_1 s.vm s.heap := CHv.start (own_EW hw) (fun p hp => hcalls.1 p hp) (show Jvm.Lit.compactW.before _ s = true from hsets _ (List.mem_of_getElem? (i := 2) rfl)) (ww hw 15 rfl) (ww hw 1 rfl)
  obtain ⟨n, o, h1, h2, h3, _, L, rfl, ⟨rfl, N, -⟩, -, hq⟩ := rmLaw l s _ hw tables_1 i0 i1 i2 g1078 g1079 s.heap s.heap.size (Nat.le_refl _) sg1078 c1083 sg1079 rg1079 sg1080 sg1081 sg1082 (Old.start s) p e ha hc hk s m _ below hf ((Spec.applies_iff_loose hf).mp happ).1 ⟨rfl, State.Warmed39.refl s, rfl, hCH, all0⟩ trivial
  refine ⟨n, _, h1, h2, h3, hpost _ _ _ _ _ _ ⟨Cond.after_iff.mpr rfl, Cond.after_iff.mpr (eq_i res_at (Term.int_eval (1)) rfl), trivial⟩ ⟨hq.1, hq.2.1, hq.2.2.1, (hq.2.2.2.sift fun y hy => Or.inr (N y hy)).mono (by decide) (by decide)⟩⟩
theorem main_1_1 : Claimed_1_1 := comes_1 fun _ _ _ _ _ _ h hF => ⟨h.1, hF⟩
theorem main_1_2 : Claimed_1_2 := comes_1 fun _ _ _ _ _ _ h hF => ⟨h.2.1, hF⟩
end Jvm.Pilot.@@N@@
namespace Jvm.Pilot.@@N@@
open Jvm Jvm.ClassFile Sem Op Lib Jvm.Free Jvm.Stand Jvm.Pilot.@@N@@.Jvm.D
/-! MADE BY PROGRAM (witnessworld.py) out of the Statement's table words and the real class files: 20 classes; the members and pool entries that the words name. The judged class is class 1, her method 3. -/
namespace start1
open Jvm.ClassFile
def u (s : String) : CpInfo := .utf8 (stringToUtf16 s)
/-- a pool by its gaps: so many unusable entries, then the entry; so many at the end -/
def gap : Nat → List CpInfo → List CpInfo
  | 0, r => r
  | n + 1, r => .unusable :: gap n r
def poolList (es : List (Nat × CpInfo)) (last : Nat) : List CpInfo := es.foldr (fun e r => gap e.1 (e.2 :: r)) (gap last [])
def pool (es : List (Nat × CpInfo)) (last : Nat) : Array CpInfo := ⟨poolList es last⟩
def fileOf (pool : Array CpInfo) (this : Nat) (attrs : Array Attribute := #[]) (ms : Array MethodInfo := #[]) (fl : Nat := 33) (sup : Nat := 0) (ifs : Array Nat := #[]) (fds : Array FieldInfo := #[]) : ClassFile where
  minorVersion := 0
  majorVersion := 65
  constantPool := pool
  accessFlags := fl
  thisClass := this
  superClass := sup
  interfaces := ifs
  fields := fds
  methods := ms
  attributes := attrs
def plain (name : String) (sup : Option ClassId) : Class where
  name := name
  kind := .ordinary
  loader := none
  accessFlags := 33
  super := sup
  interfaces := #[]
  cf := none
  fields := #[]
  methods := #[]
  instanceTypes := #[]
  staticTypes := #[]
  resolved := #[]
  callSites := []
  init := .initialized
  statics := none
  mirror := none

def pool0 : Array CpInfo := pool [(5, u "<init>"), (0, u "()V"), (1, .class_ 10), (1, u "java/lang/Object")] 113

def k0c0 : Code := { maxStack := 0, maxLocals := 1, code := object_method_1_code, exceptionTable := #[], attributes := #[] }
def k0m0 : Method := { name := "<init>", desc := "()V", sig := { parameters := [], returnType := none }, accessFlags := 1, code := some k0c0 }
/-- java/lang/Object -/
def k0 : Class := { plain "java/lang/Object" none with
  accessFlags := 33
  interfaces := #[]
  cf := some (fileOf pool0 8 #[] #[{ accessFlags := 1, nameIndex := 5, descriptorIndex := 6, attributes := #[] }] 33 0 #[] #[])
  fields := #[]
  methods := #[k0m0]
  instanceTypes := #[]
  staticTypes := #[]
  resolved := Array.replicate 124 none
  statics := none }

def pool1 : Array CpInfo := pool [(2, .class_ 4), (1, u "java/lang/Object"), (0, u "<init>"), (0, u "()V"), (0, .methodref 8 9), (0, .class_ 10), (0, .nameAndType 11 12), (0, u "castworks/NamesIsValidPinLaw"), (0, u "letter"), (0, u "(C)Z"), (0, .class_ 14), (0, u "java/lang/String"), (0, .methodref 13 16), (0, .nameAndType 5 17), (0, u "([C)V"), (0, .methodref 8 19), (0, .nameAndType 20 12), (0, u "part"), (0, .methodref 22 23), (0, .class_ 24), (0, .nameAndType 25 26), (0, u "castworks/Names"), (0, u "isValid"), (0, u "(Ljava/lang/String;)Z"), (3, u "law"), (0, u "(III)Z")] 2

def k1m0 : Method := { name := "<init>", desc := "()V", sig := { parameters := [], returnType := none }, accessFlags := 2, code := none }
def k1c1 : Code := { maxStack := 2, maxLocals := 1, code := method_2_code, exceptionTable := #[], attributes := #[] }
def k1m1 : Method := { name := "letter", desc := "(C)Z", sig := { parameters := [.char], returnType := some .boolean }, accessFlags := 10, code := some k1c1 }
def k1c2 : Code := { maxStack := 2, maxLocals := 1, code := method_3_code, exceptionTable := #[], attributes := #[] }
def k1m2 : Method := { name := "part", desc := "(C)Z", sig := { parameters := [.char], returnType := some .boolean }, accessFlags := 10, code := some k1c2 }
def k1c3 : Code := { maxStack := 6, maxLocals := 10, code := code, exceptionTable := #[], attributes := #[] }
def k1m3 : Method := { name := "law", desc := "(III)Z", sig := { parameters := [.int, .int, .int], returnType := some .boolean }, accessFlags := 9, code := some k1c3 }
/-- castworks/NamesIsValidPinLaw -/
def k1 : Class := { plain "castworks/NamesIsValidPinLaw" (some 0) with
  accessFlags := 49
  interfaces := #[]
  cf := some (fileOf pool1 8 #[] #[{ accessFlags := 2, nameIndex := 5, descriptorIndex := 6, attributes := #[] }, { accessFlags := 10, nameIndex := 11, descriptorIndex := 12, attributes := #[] }, { accessFlags := 10, nameIndex := 20, descriptorIndex := 12, attributes := #[] }, { accessFlags := 9, nameIndex := 30, descriptorIndex := 31, attributes := #[] }] 49 2 #[] #[])
  fields := #[]
  methods := #[k1m0, k1m1, k1m2, k1m3]
  instanceTypes := #[]
  staticTypes := #[]
  resolved := Array.replicate 34 none
  statics := none }

def pool2 : Array CpInfo := pool [(1, .class_ 2), (0, u "java/io/Serializable"), (0, .class_ 4), (0, u "java/lang/Object")] 2

/-- java/io/Serializable -/
def k2 : Class := { plain "java/io/Serializable" (some 0) with
  accessFlags := 1537
  interfaces := #[]
  cf := some (fileOf pool2 1 #[] #[] 1537 3 #[] #[])
  fields := #[]
  methods := #[]
  instanceTypes := #[]
  staticTypes := #[]
  resolved := Array.replicate 7 none
  statics := none }

def pool3 : Array CpInfo := pool [(1, .class_ 2), (0, u "java/lang/Comparable"), (0, .class_ 4), (0, u "java/lang/Object")] 7

/-- java/lang/Comparable -/
def k3 : Class := { plain "java/lang/Comparable" (some 0) with
  accessFlags := 1537
  interfaces := #[]
  cf := some (fileOf pool3 1 #[] #[] 1537 3 #[] #[])
  fields := #[]
  methods := #[]
  instanceTypes := #[]
  staticTypes := #[]
  resolved := Array.replicate 12 none
  statics := none }

def pool4 : Array CpInfo := pool [(2, .class_ 4), (1, u "java/lang/CharSequence"), (42, .class_ 48), (0, u "java/lang/CharSequence$1CodePointIterator"), (10, .class_ 60), (0, u "java/lang/CharSequence$1CharIterator"), (5, .class_ 67), (0, u "java/lang/Object")] 63

/-- java/lang/CharSequence -/
def k4 : Class := { plain "java/lang/CharSequence" (some 0) with
  accessFlags := 1537
  interfaces := #[]
  cf := some (fileOf pool4 2 #[.nestMembers #[47, 59]] #[] 1537 66 #[] #[])
  fields := #[]
  methods := #[]
  instanceTypes := #[]
  staticTypes := #[]
  resolved := Array.replicate 131 none
  statics := none }

def pool5 : Array CpInfo := pool [(1, .class_ 2), (0, u "java/lang/constant/Constable"), (0, .class_ 4), (0, u "java/lang/Object")] 6

/-- java/lang/constant/Constable -/
def k5 : Class := { plain "java/lang/constant/Constable" (some 0) with
  accessFlags := 1537
  interfaces := #[]
  cf := some (fileOf pool5 1 #[] #[] 1537 3 #[] #[])
  fields := #[]
  methods := #[]
  instanceTypes := #[]
  staticTypes := #[]
  resolved := Array.replicate 11 none
  statics := none }

def pool6 : Array CpInfo := pool [(1, .class_ 2), (0, u "java/lang/constant/ConstantDesc"), (0, .class_ 4), (0, u "java/lang/Object")] 32

/-- java/lang/constant/ConstantDesc -/
def k6 : Class := { plain "java/lang/constant/ConstantDesc" (some 0) with
  accessFlags := 1537
  interfaces := #[]
  cf := some (fileOf pool6 1 #[] #[] 1537 3 #[] #[])
  fields := #[]
  methods := #[]
  instanceTypes := #[]
  staticTypes := #[]
  resolved := Array.replicate 37 none
  statics := none }

def pool7 : Array CpInfo := pool [(1, .methodref 2 3), (0, .class_ 4), (0, .nameAndType 5 6), (0, u "java/lang/Object"), (0, u "<init>"), (0, u "()V"), (0, .string 8), (0, u ""), (0, .fieldref 10 11), (0, .class_ 12), (0, .nameAndType 13 14), (0, u "java/lang/String"), (0, u "value"), (0, u "[B"), (0, .fieldref 10 16), (0, .nameAndType 17 18), (0, u "coder"), (0, u "B"), (2, u "hash"), (0, u "I"), (2, u "hashIsZero"), (0, u "Z"), (0, .methodref 10 28), (0, .nameAndType 5 29), (0, u "([CIILjava/lang/Void;)V"), (8, .fieldref 10 39), (0, .nameAndType 40 26), (0, u "COMPACT_STRINGS"), (1, .class_ 44), (1, u "java/lang/StringUTF16"), (0, u "compress"), (1, .methodref 42 48), (0, .nameAndType 49 50), (0, u "coderFromArrayLen"), (0, u "([BI)B"), (56, .class_ 109), (1, u "java/lang/StringLatin1"), (32, u "()Z"), (34, .methodref 42 178), (0, .nameAndType 45 179), (0, u "([CII)[B"), (154, u "()I"), (0, .methodref 10 336), (0, .nameAndType 17 337), (0, u "()B"), (25, u "([BI)C"), (27, u "(II)V"), (35, u "(I)C"), (64, .methodref 10 493), (0, .nameAndType 494 142), (0, u "isLatin1"), (0, .methodref 107 496), (0, .nameAndType 497 363), (0, u "charAt"), (0, .methodref 42 496), (2, u "checkIndex"), (5, u "length"), (67, .class_ 576), (0, u "java/lang/CharSequence"), (22, u "CASE_INSENSITIVE_ORDER"), (0, u "Ljava/util/Comparator;"), (91, u "isEmpty"), (317, u "([C)V"), (42, .fieldref 1054 1055), (0, .class_ 1056), (0, .nameAndType 1057 1058), (0, u "jdk/internal/util/Preconditions"), (0, u "SIOOBE_FORMATTER"), (0, u "Ljava/util/function/BiFunction;"), (0, .methodref 1054 1060), (0, .nameAndType 501 1061), (0, u "(IILjava/util/function/BiFunction;)I"), (39, u "serialPersistentFields"), (0, u "[Ljava/io/ObjectStreamField;"), (0, .class_ 1104), (0, u "java/lang/String$CaseInsensitiveComparator"), (1, .class_ 1107), (0, u "java/io/Serializable"), (0, .class_ 1109), (0, u "java/lang/Comparable"), (0, .class_ 1111), (0, u "java/lang/constant/Constable"), (0, .class_ 1113), (0, u "java/lang/constant/ConstantDesc"), (2, u "serialVersionUID"), (0, u "J"), (3, u "REPL"), (0, u "C"), (2, u "LATIN1"), (1, u "UTF16")] 323

def k7m0 : Method := { name := "<init>", desc := "()V", sig := { parameters := [], returnType := none }, accessFlags := 1, code := none }
def k7c1 : Code := { maxStack := 5, maxLocals := 2, code := jdk_42_method_3_code, exceptionTable := #[], attributes := #[] }
def k7m1 : Method := { name := "<init>", desc := "([C)V", sig := { parameters := [(.array .char)], returnType := none }, accessFlags := 1, code := some k7c1 }
def k7c2 : Code := { maxStack := 2, maxLocals := 1, code := jdk_42_method_54_code, exceptionTable := #[], attributes := #[] }
def k7m2 : Method := { name := "length", desc := "()I", sig := { parameters := [], returnType := some .int }, accessFlags := 1, code := some k7c2 }
def k7c3 : Code := { maxStack := 1, maxLocals := 1, code := jdk_42_method_55_code, exceptionTable := #[], attributes := #[] }
def k7m3 : Method := { name := "isEmpty", desc := "()Z", sig := { parameters := [], returnType := some .boolean }, accessFlags := 1, code := some k7c3 }
def k7c4 : Code := { maxStack := 2, maxLocals := 2, code := jdk_42_method_56_code, exceptionTable := #[], attributes := #[] }
def k7m4 : Method := { name := "charAt", desc := "(I)C", sig := { parameters := [.int], returnType := some .char }, accessFlags := 1, code := some k7c4 }
def k7c5 : Code := { maxStack := 4, maxLocals := 6, code := jdk_42_method_149_code, exceptionTable := #[], attributes := #[] }
def k7m5 : Method := { name := "<init>", desc := "([CIILjava/lang/Void;)V", sig := { parameters := [(.array .char), .int, .int, (.object "java/lang/Void")], returnType := none }, accessFlags := 2, code := some k7c5 }
def k7c6 : Code := { maxStack := 1, maxLocals := 1, code := jdk_42_method_152_code, exceptionTable := #[], attributes := #[] }
def k7m6 : Method := { name := "coder", desc := "()B", sig := { parameters := [], returnType := some .byte }, accessFlags := 0, code := some k7c6 }
def k7c7 : Code := { maxStack := 1, maxLocals := 1, code := jdk_42_method_154_code, exceptionTable := #[], attributes := #[] }
def k7m7 : Method := { name := "isLatin1", desc := "()Z", sig := { parameters := [], returnType := some .boolean }, accessFlags := 0, code := some k7c7 }
def k7c8 : Code := { maxStack := 3, maxLocals := 2, code := jdk_42_method_155_code, exceptionTable := #[], attributes := #[] }
def k7m8 : Method := { name := "checkIndex", desc := "(II)V", sig := { parameters := [.int, .int], returnType := none }, accessFlags := 8, code := some k7c8 }
/-- java/lang/String -/
def k7 : Class := { plain "java/lang/String" (some 0) with
  accessFlags := 49
  interfaces := #[2, 3, 4, 5, 6]
  cf := some (fileOf pool7 10 #[.nestMembers #[1103]] #[{ accessFlags := 1, nameIndex := 5, descriptorIndex := 6, attributes := #[] }, { accessFlags := 1, nameIndex := 5, descriptorIndex := 1010, attributes := #[] }, { accessFlags := 1, nameIndex := 507, descriptorIndex := 334, attributes := #[] }, { accessFlags := 1, nameIndex := 692, descriptorIndex := 142, attributes := #[] }, { accessFlags := 1, nameIndex := 497, descriptorIndex := 427, attributes := #[] }, { accessFlags := 2, nameIndex := 5, descriptorIndex := 29, attributes := #[] }, { accessFlags := 0, nameIndex := 17, descriptorIndex := 337, attributes := #[] }, { accessFlags := 0, nameIndex := 494, descriptorIndex := 142, attributes := #[] }, { accessFlags := 8, nameIndex := 501, descriptorIndex := 391, attributes := #[] }] 49 2 #[1106, 1108, 575, 1110, 1112] #[{ accessFlags := 18, nameIndex := 13, descriptorIndex := 14, attributes := #[] }, { accessFlags := 18, nameIndex := 17, descriptorIndex := 18, attributes := #[] }, { accessFlags := 2, nameIndex := 21, descriptorIndex := 22, attributes := #[] }, { accessFlags := 2, nameIndex := 25, descriptorIndex := 26, attributes := #[] }, { accessFlags := 26, nameIndex := 1116, descriptorIndex := 1117, attributes := #[] }, { accessFlags := 24, nameIndex := 40, descriptorIndex := 26, attributes := #[] }, { accessFlags := 26, nameIndex := 1101, descriptorIndex := 1102, attributes := #[] }, { accessFlags := 26, nameIndex := 1121, descriptorIndex := 1122, attributes := #[] }, { accessFlags := 25, nameIndex := 599, descriptorIndex := 600, attributes := #[] }, { accessFlags := 24, nameIndex := 1125, descriptorIndex := 18, attributes := #[] }, { accessFlags := 24, nameIndex := 1127, descriptorIndex := 18, attributes := #[] }])
  fields := #[{ name := "value", type := (.array .byte), accessFlags := 18, slot := 0, constantValue := 0 }, { name := "coder", type := .byte, accessFlags := 18, slot := 1, constantValue := 0 }, { name := "hash", type := .int, accessFlags := 2, slot := 2, constantValue := 0 }, { name := "hashIsZero", type := .boolean, accessFlags := 2, slot := 3, constantValue := 0 }, { name := "serialVersionUID", type := .long, accessFlags := 26, slot := 0, constantValue := 0 }, { name := "COMPACT_STRINGS", type := .boolean, accessFlags := 24, slot := 1, constantValue := 0 }, { name := "serialPersistentFields", type := (.array (.object "java/io/ObjectStreamField")), accessFlags := 26, slot := 2, constantValue := 0 }, { name := "REPL", type := .char, accessFlags := 26, slot := 3, constantValue := 0 }, { name := "CASE_INSENSITIVE_ORDER", type := (.object "java/util/Comparator"), accessFlags := 25, slot := 4, constantValue := 0 }, { name := "LATIN1", type := .byte, accessFlags := 24, slot := 5, constantValue := 0 }, { name := "UTF16", type := .byte, accessFlags := 24, slot := 6, constantValue := 0 }]
  methods := #[k7m0, k7m1, k7m2, k7m3, k7m4, k7m5, k7m6, k7m7, k7m8]
  instanceTypes := #[(.array .byte), .byte, .int, .boolean]
  staticTypes := #[.long, .boolean, (.array (.object "java/io/ObjectStreamField")), .char, (.object "java/util/Comparator"), .byte, .byte]
  resolved := Array.replicate 1451 none
  statics := some 0 }

def pool8 : Array CpInfo := pool [(2, .class_ 4), (1, u "java/lang/Object"), (0, u "<init>"), (0, u "()V"), (0, .methodref 8 9), (0, .class_ 10), (0, .nameAndType 11 12), (0, u "java/lang/String"), (0, u "isEmpty"), (0, u "()Z"), (0, .methodref 8 14), (0, .nameAndType 15 16), (0, u "length"), (0, u "()I"), (0, .class_ 18), (0, u "castworks/Names"), (0, .methodref 8 20), (0, .nameAndType 21 22), (0, u "charAt"), (0, u "(I)C"), (0, .methodref 17 24), (0, .nameAndType 25 26), (0, u "isLetter"), (0, u "(C)Z"), (20, u "BYTE_ORDER"), (0, u "Ljava/util/Comparator;"), (0, u "MAX_LENGTH"), (0, u "I"), (6, u "isValid"), (0, u "(Ljava/lang/String;)Z")] 26

def k8m0 : Method := { name := "<init>", desc := "()V", sig := { parameters := [], returnType := none }, accessFlags := 2, code := none }
def k8c1 : Code := { maxStack := 2, maxLocals := 3, code := prog_25_method_2_code, exceptionTable := #[], attributes := #[] }
def k8m1 : Method := { name := "isValid", desc := "(Ljava/lang/String;)Z", sig := { parameters := [(.object "java/lang/String")], returnType := some .boolean }, accessFlags := 9, code := some k8c1 }
def k8c2 : Code := { maxStack := 2, maxLocals := 1, code := prog_25_method_3_code, exceptionTable := #[], attributes := #[] }
def k8m2 : Method := { name := "isLetter", desc := "(C)Z", sig := { parameters := [.char], returnType := some .boolean }, accessFlags := 10, code := some k8c2 }
/-- castworks/Names -/
def k8 : Class := { plain "castworks/Names" (some 0) with
  accessFlags := 49
  interfaces := #[]
  cf := some (fileOf pool8 17 #[] #[{ accessFlags := 2, nameIndex := 5, descriptorIndex := 6, attributes := #[] }, { accessFlags := 9, nameIndex := 57, descriptorIndex := 58, attributes := #[] }, { accessFlags := 10, nameIndex := 25, descriptorIndex := 26, attributes := #[] }] 49 2 #[] #[{ accessFlags := 25, nameIndex := 49, descriptorIndex := 50, attributes := #[] }, { accessFlags := 25, nameIndex := 47, descriptorIndex := 48, attributes := #[] }])
  fields := #[{ name := "MAX_LENGTH", type := .int, accessFlags := 25, slot := 0, constantValue := 0 }, { name := "BYTE_ORDER", type := (.object "java/util/Comparator"), accessFlags := 25, slot := 1, constantValue := 0 }]
  methods := #[k8m0, k8m1, k8m2]
  instanceTypes := #[]
  staticTypes := #[.int, (.object "java/util/Comparator")]
  resolved := Array.replicate 85 none
  statics := none }

def pool9 : Array CpInfo := pool [(3, .class_ 4), (0, u "java/lang/String"), (1, .class_ 8), (1, u "java/lang/Object"), (0, u "<init>"), (0, u "()V"), (0, .methodref 12 13), (0, .class_ 14), (0, .nameAndType 15 16), (0, u "java/lang/StringUTF16"), (0, u "newBytesLength"), (0, u "(I)I"), (3, .integer 1073741823), (23, .fieldref 12 45), (0, .nameAndType 46 47), (0, u "$assertionsDisabled"), (0, u "Z"), (0, .methodref 12 49), (0, .nameAndType 50 51), (0, u "length"), (0, u "([B)I"), (7, .fieldref 12 60), (0, .nameAndType 61 62), (0, u "HI_BYTE_SHIFT"), (0, u "I"), (0, .fieldref 12 64), (0, .nameAndType 65 62), (0, u "LO_BYTE_SHIFT"), (1, .methodref 12 68), (0, .nameAndType 69 70), (0, u "checkIndex"), (0, u "(I[B)V"), (0, .methodref 12 72), (0, .nameAndType 73 74), (0, u "getChar"), (0, u "([BI)C"), (32, .methodref 12 108), (0, .nameAndType 109 110), (0, u "newBytesFor"), (0, u "(I)[B"), (0, .methodref 12 112), (0, .nameAndType 113 114), (0, u "putChar"), (0, u "([BII)V"), (0, .methodref 12 116), (0, .nameAndType 117 118), (0, u "compress"), (0, u "([CI[BII)I"), (0, .methodref 12 120), (0, .nameAndType 121 122), (0, u "toBytes"), (0, u "([CII)[B"), (138, u "coderFromArrayLen"), (0, u "([BI)B"), (106, .class_ 371), (1, u "java/lang/StringUTF16$LinesSpliterator"), (20, u "charAt"), (21, .methodref 3 415), (0, .nameAndType 69 416), (0, u "(II)V"), (13, u "MAX_LENGTH"), (196, .class_ 628), (0, u "java/lang/StringUTF16$CodePointsSpliterator"), (0, .class_ 630), (0, u "java/lang/StringUTF16$CharsSpliterator")] 4

def k9m0 : Method := { name := "<init>", desc := "()V", sig := { parameters := [], returnType := none }, accessFlags := 0, code := none }
def k9c1 : Code := { maxStack := 1, maxLocals := 1, code := jdk_52_method_2_code, exceptionTable := #[], attributes := #[] }
def k9m1 : Method := { name := "newBytesFor", desc := "(I)[B", sig := { parameters := [.int], returnType := some (.array .byte) }, accessFlags := 9, code := some k9c1 }
def k9c2 : Code := { maxStack := 4, maxLocals := 1, code := jdk_52_method_3_code, exceptionTable := #[], attributes := #[] }
def k9m2 : Method := { name := "newBytesLength", desc := "(I)I", sig := { parameters := [.int], returnType := some .int }, accessFlags := 9, code := some k9c2 }
def k9c3 : Code := { maxStack := 4, maxLocals := 3, code := jdk_52_method_4_code, exceptionTable := #[], attributes := #[] }
def k9m3 : Method := { name := "putChar", desc := "([BII)V", sig := { parameters := [(.array .byte), .int, .int], returnType := none }, accessFlags := 8, code := some k9c3 }
def k9c4 : Code := { maxStack := 3, maxLocals := 2, code := jdk_52_method_5_code, exceptionTable := #[], attributes := #[] }
def k9m4 : Method := { name := "getChar", desc := "([BI)C", sig := { parameters := [(.array .byte), .int], returnType := some .char }, accessFlags := 8, code := some k9c4 }
def k9c5 : Code := { maxStack := 2, maxLocals := 1, code := jdk_52_method_6_code, exceptionTable := #[], attributes := #[] }
def k9m5 : Method := { name := "length", desc := "([B)I", sig := { parameters := [(.array .byte)], returnType := some .int }, accessFlags := 9, code := some k9c5 }
def k9c6 : Code := { maxStack := 4, maxLocals := 5, code := jdk_52_method_14_code, exceptionTable := #[], attributes := #[] }
def k9m6 : Method := { name := "toBytes", desc := "([CII)[B", sig := { parameters := [(.array .char), .int, .int], returnType := some (.array .byte) }, accessFlags := 9, code := some k9c6 }
def k9c7 : Code := { maxStack := 2, maxLocals := 2, code := jdk_52_method_15_code, exceptionTable := #[], attributes := #[] }
def k9m7 : Method := { name := "coderFromArrayLen", desc := "([BI)B", sig := { parameters := [(.array .byte), .int], returnType := some .byte }, accessFlags := 8, code := some k9c7 }
def k9c8 : Code := { maxStack := 5, maxLocals := 6, code := jdk_52_method_16_code, exceptionTable := #[], attributes := #[] }
def k9m8 : Method := { name := "compress", desc := "([CII)[B", sig := { parameters := [(.array .char), .int, .int], returnType := some (.array .byte) }, accessFlags := 9, code := some k9c8 }
def k9c9 : Code := { maxStack := 3, maxLocals := 7, code := jdk_52_method_21_code, exceptionTable := #[], attributes := #[] }
def k9m9 : Method := { name := "compress", desc := "([CI[BII)I", sig := { parameters := [(.array .char), .int, (.array .byte), .int, .int], returnType := some .int }, accessFlags := 9, code := some k9c9 }
def k9c10 : Code := { maxStack := 2, maxLocals := 2, code := jdk_52_method_83_code, exceptionTable := #[], attributes := #[] }
def k9m10 : Method := { name := "charAt", desc := "([BI)C", sig := { parameters := [(.array .byte), .int], returnType := some .char }, accessFlags := 9, code := some k9c10 }
def k9c11 : Code := { maxStack := 2, maxLocals := 2, code := jdk_52_method_91_code, exceptionTable := #[], attributes := #[] }
def k9m11 : Method := { name := "checkIndex", desc := "(I[B)V", sig := { parameters := [.int, (.array .byte)], returnType := none }, accessFlags := 9, code := some k9c11 }
/-- java/lang/StringUTF16 -/
def k9 : Class := { plain "java/lang/StringUTF16" (some 0) with
  accessFlags := 48
  interfaces := #[]
  cf := some (fileOf pool9 12 #[.nestMembers #[627, 629, 369]] #[{ accessFlags := 0, nameIndex := 9, descriptorIndex := 10, attributes := #[] }, { accessFlags := 9, nameIndex := 109, descriptorIndex := 110, attributes := #[] }, { accessFlags := 9, nameIndex := 15, descriptorIndex := 16, attributes := #[] }, { accessFlags := 8, nameIndex := 113, descriptorIndex := 114, attributes := #[] }, { accessFlags := 8, nameIndex := 73, descriptorIndex := 74, attributes := #[] }, { accessFlags := 9, nameIndex := 50, descriptorIndex := 51, attributes := #[] }, { accessFlags := 9, nameIndex := 121, descriptorIndex := 122, attributes := #[] }, { accessFlags := 8, nameIndex := 261, descriptorIndex := 262, attributes := #[] }, { accessFlags := 9, nameIndex := 117, descriptorIndex := 122, attributes := #[] }, { accessFlags := 9, nameIndex := 117, descriptorIndex := 118, attributes := #[] }, { accessFlags := 9, nameIndex := 392, descriptorIndex := 74, attributes := #[] }, { accessFlags := 9, nameIndex := 69, descriptorIndex := 70, attributes := #[] }] 48 6 #[] #[{ accessFlags := 26, nameIndex := 61, descriptorIndex := 62, attributes := #[] }, { accessFlags := 26, nameIndex := 65, descriptorIndex := 62, attributes := #[] }, { accessFlags := 24, nameIndex := 430, descriptorIndex := 62, attributes := #[] }, { accessFlags := 4120, nameIndex := 46, descriptorIndex := 47, attributes := #[] }])
  fields := #[{ name := "HI_BYTE_SHIFT", type := .int, accessFlags := 26, slot := 0, constantValue := 0 }, { name := "LO_BYTE_SHIFT", type := .int, accessFlags := 26, slot := 1, constantValue := 0 }, { name := "MAX_LENGTH", type := .int, accessFlags := 24, slot := 2, constantValue := 0 }, { name := "$assertionsDisabled", type := .boolean, accessFlags := 4120, slot := 3, constantValue := 0 }]
  methods := #[k9m0, k9m1, k9m2, k9m3, k9m4, k9m5, k9m6, k9m7, k9m8, k9m9, k9m10, k9m11]
  instanceTypes := #[]
  staticTypes := #[.int, .int, .int, .boolean]
  resolved := Array.replicate 635 none
  statics := some 1 }

def pool10 : Array CpInfo := pool [(1, .class_ 2), (0, u "java/lang/String"), (1, .class_ 6), (1, u "java/lang/Object"), (0, u "<init>"), (0, u "()V"), (0, .methodref 1 10), (0, .nameAndType 11 12), (0, u "checkIndex"), (0, u "(II)V"), (1, .class_ 16), (1, u "java/lang/StringLatin1"), (36, u "([BI)C"), (67, u "$assertionsDisabled"), (0, u "Z"), (98, .class_ 223), (1, u "java/lang/StringLatin1$LinesSpliterator"), (28, u "charAt"), (137, .class_ 391), (0, u "java/lang/StringLatin1$CharsSpliterator")] 3

def k10m0 : Method := { name := "<init>", desc := "()V", sig := { parameters := [], returnType := none }, accessFlags := 0, code := none }
def k10c1 : Code := { maxStack := 2, maxLocals := 2, code := jdk_43_method_2_code, exceptionTable := #[], attributes := #[] }
def k10m1 : Method := { name := "charAt", desc := "([BI)C", sig := { parameters := [(.array .byte), .int], returnType := some .char }, accessFlags := 9, code := some k10c1 }
/-- java/lang/StringLatin1 -/
def k10 : Class := { plain "java/lang/StringLatin1" (some 0) with
  accessFlags := 48
  interfaces := #[]
  cf := some (fileOf pool10 14 #[.nestMembers #[390, 221]] #[{ accessFlags := 0, nameIndex := 7, descriptorIndex := 8, attributes := #[] }, { accessFlags := 9, nameIndex := 252, descriptorIndex := 53, attributes := #[] }] 48 4 #[] #[{ accessFlags := 4120, nameIndex := 121, descriptorIndex := 122, attributes := #[] }])
  fields := #[{ name := "$assertionsDisabled", type := .boolean, accessFlags := 4120, slot := 0, constantValue := 0 }]
  methods := #[k10m0, k10m1]
  instanceTypes := #[]
  staticTypes := #[.boolean]
  resolved := Array.replicate 395 none
  statics := none }

def pool11 : Array CpInfo := pool [(2, .class_ 4), (1, u "java/lang/Object"), (0, u "<init>"), (0, u "()V"), (17, .class_ 26), (1, u "jdk/internal/util/Preconditions"), (6, u "checkIndex"), (21, .class_ 56), (0, u "jdk/internal/util/Preconditions$4"), (57, .class_ 115), (0, u "jdk/internal/util/Preconditions$1"), (7, u "SIOOBE_FORMATTER"), (0, u "Ljava/util/function/BiFunction;"), (0, .class_ 126), (0, u "jdk/internal/util/Preconditions$2"), (3, u "AIOOBE_FORMATTER"), (0, .class_ 132), (0, u "jdk/internal/util/Preconditions$3"), (3, u "IOOBE_FORMATTER"), (41, u "(IILjava/util/function/BiFunction;)I")] 15

def k11m0 : Method := { name := "<init>", desc := "()V", sig := { parameters := [], returnType := none }, accessFlags := 1, code := none }
def k11c1 : Code := { maxStack := 3, maxLocals := 3, code := jdk_41_method_11_code, exceptionTable := #[], attributes := #[] }
def k11m1 : Method := { name := "checkIndex", desc := "(IILjava/util/function/BiFunction;)I", sig := { parameters := [.int, .int, (.object "java/util/function/BiFunction")], returnType := some .int }, accessFlags := 9, code := some k11c1 }
/-- jdk/internal/util/Preconditions -/
def k11 : Class := { plain "jdk/internal/util/Preconditions" (some 0) with
  accessFlags := 33
  interfaces := #[]
  cf := some (fileOf pool11 24 #[.nestMembers #[55, 131, 125, 114]] #[{ accessFlags := 1, nameIndex := 5, descriptorIndex := 6, attributes := #[] }, { accessFlags := 9, nameIndex := 33, descriptorIndex := 178, attributes := #[] }] 33 2 #[] #[{ accessFlags := 25, nameIndex := 123, descriptorIndex := 124, attributes := #[] }, { accessFlags := 25, nameIndex := 130, descriptorIndex := 124, attributes := #[] }, { accessFlags := 25, nameIndex := 136, descriptorIndex := 124, attributes := #[] }])
  fields := #[{ name := "SIOOBE_FORMATTER", type := (.object "java/util/function/BiFunction"), accessFlags := 25, slot := 0, constantValue := 0 }, { name := "AIOOBE_FORMATTER", type := (.object "java/util/function/BiFunction"), accessFlags := 25, slot := 1, constantValue := 0 }, { name := "IOOBE_FORMATTER", type := (.object "java/util/function/BiFunction"), accessFlags := 25, slot := 2, constantValue := 0 }]
  methods := #[k11m0, k11m1]
  instanceTypes := #[]
  staticTypes := #[(.object "java/util/function/BiFunction"), (.object "java/util/function/BiFunction"), (.object "java/util/function/BiFunction")]
  resolved := Array.replicate 194 none
  statics := some 2 }

def pool12 : Array CpInfo := pool [(9, u "<init>"), (6, .class_ 18), (1, u "java/lang/Object"), (0, u "()V"), (1, .class_ 23), (1, u "jdk/internal/util/ArraysSupport"), (0, u "LOG2_ARRAY_LONG_INDEX_SCALE"), (0, u "I"), (2, u "U"), (0, u "Ljdk/internal/misc/Unsafe;"), (8, u "BIG_ENDIAN"), (0, u "Z"), (8, u "LOG2_BYTE_BIT_SIZE"), (4, u "LOG2_ARRAY_INT_INDEX_SCALE"), (54, u "JLA"), (0, u "Ljdk/internal/access/JavaLangAccess;"), (11, u "LOG2_ARRAY_BOOLEAN_INDEX_SCALE"), (9, u "LOG2_ARRAY_BYTE_INDEX_SCALE"), (5, u "LOG2_ARRAY_CHAR_INDEX_SCALE"), (5, u "LOG2_ARRAY_SHORT_INDEX_SCALE"), (18, u "LOG2_ARRAY_FLOAT_INDEX_SCALE"), (24, u "LOG2_ARRAY_DOUBLE_INDEX_SCALE"), (89, u "T_BOOLEAN"), (2, u "T_CHAR"), (1, u "T_FLOAT"), (1, u "T_DOUBLE"), (1, u "T_BYTE"), (1, u "T_SHORT"), (1, u "T_INT"), (1, u "T_LONG"), (1, u "SOFT_MAX_ARRAY_LENGTH")] 83

def k12m0 : Method := { name := "<init>", desc := "()V", sig := { parameters := [], returnType := none }, accessFlags := 2, code := none }
/-- jdk/internal/util/ArraysSupport -/
def k12 : Class := { plain "jdk/internal/util/ArraysSupport" (some 0) with
  accessFlags := 33
  interfaces := #[]
  cf := some (fileOf pool12 21 #[] #[{ accessFlags := 2, nameIndex := 9, descriptorIndex := 19, attributes := #[] }] 33 16 #[] #[{ accessFlags := 24, nameIndex := 28, descriptorIndex := 29, attributes := #[] }, { accessFlags := 26, nameIndex := 38, descriptorIndex := 39, attributes := #[] }, { accessFlags := 25, nameIndex := 121, descriptorIndex := 25, attributes := #[] }, { accessFlags := 25, nameIndex := 131, descriptorIndex := 25, attributes := #[] }, { accessFlags := 25, nameIndex := 137, descriptorIndex := 25, attributes := #[] }, { accessFlags := 25, nameIndex := 143, descriptorIndex := 25, attributes := #[] }, { accessFlags := 25, nameIndex := 53, descriptorIndex := 25, attributes := #[] }, { accessFlags := 25, nameIndex := 24, descriptorIndex := 25, attributes := #[] }, { accessFlags := 25, nameIndex := 162, descriptorIndex := 25, attributes := #[] }, { accessFlags := 25, nameIndex := 187, descriptorIndex := 25, attributes := #[] }, { accessFlags := 26, nameIndex := 48, descriptorIndex := 25, attributes := #[] }, { accessFlags := 25, nameIndex := 277, descriptorIndex := 25, attributes := #[] }, { accessFlags := 25, nameIndex := 280, descriptorIndex := 25, attributes := #[] }, { accessFlags := 25, nameIndex := 282, descriptorIndex := 25, attributes := #[] }, { accessFlags := 25, nameIndex := 284, descriptorIndex := 25, attributes := #[] }, { accessFlags := 25, nameIndex := 286, descriptorIndex := 25, attributes := #[] }, { accessFlags := 25, nameIndex := 288, descriptorIndex := 25, attributes := #[] }, { accessFlags := 25, nameIndex := 290, descriptorIndex := 25, attributes := #[] }, { accessFlags := 25, nameIndex := 292, descriptorIndex := 25, attributes := #[] }, { accessFlags := 26, nameIndex := 108, descriptorIndex := 109, attributes := #[] }, { accessFlags := 25, nameIndex := 294, descriptorIndex := 25, attributes := #[] }])
  fields := #[{ name := "U", type := (.object "jdk/internal/misc/Unsafe"), accessFlags := 24, slot := 0, constantValue := 0 }, { name := "BIG_ENDIAN", type := .boolean, accessFlags := 26, slot := 1, constantValue := 0 }, { name := "LOG2_ARRAY_BOOLEAN_INDEX_SCALE", type := .int, accessFlags := 25, slot := 2, constantValue := 0 }, { name := "LOG2_ARRAY_BYTE_INDEX_SCALE", type := .int, accessFlags := 25, slot := 3, constantValue := 0 }, { name := "LOG2_ARRAY_CHAR_INDEX_SCALE", type := .int, accessFlags := 25, slot := 4, constantValue := 0 }, { name := "LOG2_ARRAY_SHORT_INDEX_SCALE", type := .int, accessFlags := 25, slot := 5, constantValue := 0 }, { name := "LOG2_ARRAY_INT_INDEX_SCALE", type := .int, accessFlags := 25, slot := 6, constantValue := 0 }, { name := "LOG2_ARRAY_LONG_INDEX_SCALE", type := .int, accessFlags := 25, slot := 7, constantValue := 0 }, { name := "LOG2_ARRAY_FLOAT_INDEX_SCALE", type := .int, accessFlags := 25, slot := 8, constantValue := 0 }, { name := "LOG2_ARRAY_DOUBLE_INDEX_SCALE", type := .int, accessFlags := 25, slot := 9, constantValue := 0 }, { name := "LOG2_BYTE_BIT_SIZE", type := .int, accessFlags := 26, slot := 10, constantValue := 0 }, { name := "T_BOOLEAN", type := .int, accessFlags := 25, slot := 11, constantValue := 0 }, { name := "T_CHAR", type := .int, accessFlags := 25, slot := 12, constantValue := 0 }, { name := "T_FLOAT", type := .int, accessFlags := 25, slot := 13, constantValue := 0 }, { name := "T_DOUBLE", type := .int, accessFlags := 25, slot := 14, constantValue := 0 }, { name := "T_BYTE", type := .int, accessFlags := 25, slot := 15, constantValue := 0 }, { name := "T_SHORT", type := .int, accessFlags := 25, slot := 16, constantValue := 0 }, { name := "T_INT", type := .int, accessFlags := 25, slot := 17, constantValue := 0 }, { name := "T_LONG", type := .int, accessFlags := 25, slot := 18, constantValue := 0 }, { name := "JLA", type := (.object "jdk/internal/access/JavaLangAccess"), accessFlags := 26, slot := 19, constantValue := 0 }, { name := "SOFT_MAX_ARRAY_LENGTH", type := .int, accessFlags := 25, slot := 20, constantValue := 0 }]
  methods := #[k12m0]
  instanceTypes := #[]
  staticTypes := #[(.object "jdk/internal/misc/Unsafe"), .boolean, .int, .int, .int, .int, .int, .int, .int, .int, .int, .int, .int, .int, .int, .int, .int, .int, .int, (.object "jdk/internal/access/JavaLangAccess"), .int]
  resolved := Array.replicate 378 none
  statics := none }

def pool13 : Array CpInfo := pool [(1, u "java/lang/Cloneable"), (0, .class_ 1), (0, u "java/lang/Object"), (0, .class_ 3)] 3

/-- java/lang/Cloneable -/
def k13 : Class := { plain "java/lang/Cloneable" (some 0) with
  accessFlags := 1537
  interfaces := #[]
  cf := some (fileOf pool13 2 #[] #[] 1537 4 #[] #[])
  fields := #[]
  methods := #[]
  instanceTypes := #[]
  staticTypes := #[]
  resolved := Array.replicate 8 none
  statics := none }

/-- the primitive byte -/
def k14 : Class := { plain "byte" none with kind := .primitive 'B', accessFlags := 0x411 }
/-- [B -/
def k15 : Class := { plain "[B" (some 0) with kind := .array 14 .byte, interfaces := #[13, 2], accessFlags := 1041 }

/-- the primitive char -/
def k16 : Class := { plain "char" none with kind := .primitive 'C', accessFlags := 0x411 }
/-- [C -/
def k17 : Class := { plain "[C" (some 0) with kind := .array 16 .char, interfaces := #[13, 2], accessFlags := 1041 }

/-- the primitive int -/
def k18 : Class := { plain "int" none with kind := .primitive 'I', accessFlags := 0x411 }
/-- [I -/
def k19 : Class := { plain "[I" (some 0) with kind := .array 18 .int, interfaces := #[13, 2], accessFlags := 1041 }

def heap : Heap := #[{ cls := 7, slots := #[.long 0, .int 1, .null, .int 0, .null, .int 0, .int 0], vm := .statics 7 },
  { cls := 9, slots := #[.int 0, .int 8, .int 0, .int 1], vm := .statics 9 },
  { cls := 11, slots := #[.null, .null, .null], vm := .statics 11 }]
def classes : Array Class := #[k0, k1, k2, k3, k4, k5, k6, k7, k8, k9, k10, k11, k12, k13, k14, k15, k16, k17, k18, k19]
def interned : List (Array UInt16 × Addr) := []
def slotsUsed : Nat := 14
def theMethod : MethodId := ⟨1, 3⟩
def args0 : Array Value := #[.int 5, .int 7, .int 5]
def aboutOver (below : List Frame) : State where
  vm := { classes := classes, interned := interned.toArray }
  heap := heap
  slotsUsed := slotsUsed
  threads := #[{ frames := .invoking theMethod args0 :: below }]
def below0 : List Frame := [.native { method := ⟨0, 0⟩, args := #[] }]
def about1 : State := aboutOver below0
def p0 : Program := .bare "" "" ""
def e0 : Env := launch0.env 0 0 0
theorem w_frames : about1.frames = Frame.invoking theMethod args0 :: below0 := rfl
set_option maxRecDepth 65536 in
theorem w_args : argsFit about1.vm theMethod args0 = true := by decide +kernel
set_option maxRecDepth 65536 in
theorem w_heap : heapFits about1 = true := by decide +kernel
set_option maxRecDepth 65536 in
theorem w_runnable : about1.curStatus? = some .runnable := by decide +kernel
set_option maxRecDepth 65536 in
theorem w_alone : about1.alone = true := by decide +kernel
set_option maxRecDepth 65536 in
theorem w_named : about1.methodNamed? x = some theMethod := by decide +kernel
set_option maxRecDepth 65536 in
theorem w_hears : about1.hears theMethod below0 = true := by decide +kernel
set_option maxRecDepth 65536 in
theorem w_ripe : about1.ripe theMethod args0 below0 = true := by decide +kernel
theorem w_running : about1.status = .running := rfl
set_option maxRecDepth 65536 in
theorem w_room : about1.hasRoom e0.platform room_1 = true :=
  launch0.hasRoom_least _ room_1 (by decide +kernel) (by decide +kernel) (by decide +kernel) (by decide +kernel) (by decide +kernel) (by decide +kernel)
theorem allAtoms_all (ts : List Jvm.Cond) (a : Array Jvm.Value) (st : Jvm.State) : (allAtoms ts).before a st = ts.all (fun c => c.before a st) := by
  induction ts with
  | nil => rfl
  | cons c t ih =>
    show (Jvm.Cond.and c (allAtoms t)).before a st = _
    rw [Jvm.Cond.before_and, ih, List.all_cons]
def words1 : List Jvm.Cond := Jvm.Cond.code x code maxLocals ret :: tables_1
/-- a 'code' word, met by the world's own term for the bytes: nothing is compared byte by byte -/
theorem code_word {y : MethodName} {bytes : ByteArray} {mx : Nat} {rt : Option FieldType} {a : Array Value} {s : State} {m : MethodId} {meth : Method} {c : Code} (h1 : s.methodNamed? y = some m) (h2 : s.vm.method? m = some meth) (h3 : meth.code = some c) (h4 : c.code = bytes)
    (h5 : (c.maxLocals == mx && c.exceptionTable.isEmpty && decide (c.maxStack ≤ mostOperands) && decide (meth.sig.returnType = rt) && !meth.locks && decide (parseMethodDescriptor y.desc = some meth.sig)) = true) : (Jvm.Cond.code y bytes mx rt).before a s = true := by
  simp only [Bool.and_eq_true, beq_iff_eq, Bool.not_eq_true', decide_eq_true_eq] at h5
  obtain ⟨⟨⟨⟨⟨g1, g2⟩, g3⟩, g4⟩, g5⟩, g6⟩ := h5
  simp [Cond.before, Cond.holds, Cond.value, h1, h2, h3, h4, g1, g2, g3, g4, g5, g6]
def isCode : Jvm.Cond → Bool
  | .code _ _ _ _ => true
  | _ => false
theorem all_split {L : List Jvm.Cond} {P : Jvm.Cond → Bool} (h1 : L.all (fun c => isCode c || P c) = true) (h2 : ∀ c ∈ L.filter isCode, P c = true) : L.all P = true := by
  refine List.all_eq_true.mpr fun c hc => ?_
  have h := List.all_eq_true.mp h1 c hc
  rcases Bool.eq_false_or_eq_true (isCode c) with hi | hi
  · exact h2 c (List.mem_filter.mpr ⟨hc, hi⟩)
  · simpa [hi] using h
set_option maxRecDepth 65536 in
theorem w_c0 : (Jvm.Cond.code x code maxLocals ret).before args0 about1 = true := code_word (m := ⟨1, 3⟩) (meth := k1m3) (c := k1c3) (by decide +kernel) rfl rfl rfl (by decide +kernel)
set_option maxRecDepth 65536 in
theorem w_c1 : (Jvm.Cond.code ({ cls := "java/lang/String", name := "<init>", desc := "([C)V" } : Jvm.MethodName) jdk_42_method_3_code (2 : Nat) (Option.none : Option Jvm.ClassFile.FieldType)).before args0 about1 = true := code_word (m := ⟨7, 1⟩) (meth := k7m1) (c := k7c1) (by decide +kernel) rfl rfl rfl (by decide +kernel)
set_option maxRecDepth 65536 in
theorem w_c2 : (Jvm.Cond.code ({ cls := "java/lang/String", name := "<init>", desc := "([CIILjava/lang/Void;)V" } : Jvm.MethodName) jdk_42_method_149_code (6 : Nat) (Option.none : Option Jvm.ClassFile.FieldType)).before args0 about1 = true := code_word (m := ⟨7, 5⟩) (meth := k7m5) (c := k7c5) (by decide +kernel) rfl rfl rfl (by decide +kernel)
set_option maxRecDepth 65536 in
theorem w_c3 : (Jvm.Cond.code ({ cls := "java/lang/Object", name := "<init>", desc := "()V" } : Jvm.MethodName) object_method_1_code (1 : Nat) (Option.none : Option Jvm.ClassFile.FieldType)).before args0 about1 = true := code_word (m := ⟨0, 0⟩) (meth := k0m0) (c := k0c0) (by decide +kernel) rfl rfl rfl (by decide +kernel)
set_option maxRecDepth 65536 in
theorem w_c4 : (Jvm.Cond.code ({ cls := "castworks/Names", name := "isValid", desc := "(Ljava/lang/String;)Z" } : Jvm.MethodName) prog_25_method_2_code (3 : Nat) (Option.some Jvm.ClassFile.FieldType.boolean)).before args0 about1 = true := code_word (m := ⟨8, 1⟩) (meth := k8m1) (c := k8c1) (by decide +kernel) rfl rfl rfl (by decide +kernel)
set_option maxRecDepth 65536 in
theorem w_c5 : (Jvm.Cond.code ({ cls := "java/lang/String", name := "isEmpty", desc := "()Z" } : Jvm.MethodName) jdk_42_method_55_code (1 : Nat) (Option.some Jvm.ClassFile.FieldType.boolean)).before args0 about1 = true := code_word (m := ⟨7, 3⟩) (meth := k7m3) (c := k7c3) (by decide +kernel) rfl rfl rfl (by decide +kernel)
set_option maxRecDepth 65536 in
theorem w_c6 : (Jvm.Cond.code ({ cls := "java/lang/StringUTF16", name := "compress", desc := "([CII)[B" } : Jvm.MethodName) jdk_52_method_16_code (6 : Nat) (Option.some (Jvm.ClassFile.FieldType.array Jvm.ClassFile.FieldType.byte))).before args0 about1 = true := code_word (m := ⟨9, 8⟩) (meth := k9m8) (c := k9c8) (by decide +kernel) rfl rfl rfl (by decide +kernel)
set_option maxRecDepth 65536 in
theorem w_c7 : (Jvm.Cond.code ({ cls := "java/lang/StringUTF16", name := "compress", desc := "([CI[BII)I" } : Jvm.MethodName) jdk_52_method_21_code (7 : Nat) (Option.some Jvm.ClassFile.FieldType.int)).before args0 about1 = true := code_word (m := ⟨9, 9⟩) (meth := k9m9) (c := k9c9) (by decide +kernel) rfl rfl rfl (by decide +kernel)
set_option maxRecDepth 65536 in
theorem w_c8 : (Jvm.Cond.code ({ cls := "java/lang/StringUTF16", name := "coderFromArrayLen", desc := "([BI)B" } : Jvm.MethodName) jdk_52_method_15_code (2 : Nat) (Option.some Jvm.ClassFile.FieldType.byte)).before args0 about1 = true := code_word (m := ⟨9, 7⟩) (meth := k9m7) (c := k9c7) (by decide +kernel) rfl rfl rfl (by decide +kernel)
set_option maxRecDepth 65536 in
theorem w_c9 : (Jvm.Cond.code ({ cls := "castworks/NamesIsValidPinLaw", name := "letter", desc := "(C)Z" } : Jvm.MethodName) method_2_code (1 : Nat) (Option.some Jvm.ClassFile.FieldType.boolean)).before args0 about1 = true := code_word (m := ⟨1, 1⟩) (meth := k1m1) (c := k1c1) (by decide +kernel) rfl rfl rfl (by decide +kernel)
set_option maxRecDepth 65536 in
theorem w_c10 : (Jvm.Cond.code ({ cls := "java/lang/String", name := "length", desc := "()I" } : Jvm.MethodName) jdk_42_method_54_code (1 : Nat) (Option.some Jvm.ClassFile.FieldType.int)).before args0 about1 = true := code_word (m := ⟨7, 2⟩) (meth := k7m2) (c := k7c2) (by decide +kernel) rfl rfl rfl (by decide +kernel)
set_option maxRecDepth 65536 in
theorem w_c11 : (Jvm.Cond.code ({ cls := "java/lang/String", name := "coder", desc := "()B" } : Jvm.MethodName) jdk_42_method_152_code (1 : Nat) (Option.some Jvm.ClassFile.FieldType.byte)).before args0 about1 = true := code_word (m := ⟨7, 6⟩) (meth := k7m6) (c := k7c6) (by decide +kernel) rfl rfl rfl (by decide +kernel)
set_option maxRecDepth 65536 in
theorem w_c12 : (Jvm.Cond.code ({ cls := "java/lang/String", name := "charAt", desc := "(I)C" } : Jvm.MethodName) jdk_42_method_56_code (2 : Nat) (Option.some Jvm.ClassFile.FieldType.char)).before args0 about1 = true := code_word (m := ⟨7, 4⟩) (meth := k7m4) (c := k7c4) (by decide +kernel) rfl rfl rfl (by decide +kernel)
set_option maxRecDepth 65536 in
theorem w_c13 : (Jvm.Cond.code ({ cls := "java/lang/String", name := "isLatin1", desc := "()Z" } : Jvm.MethodName) jdk_42_method_154_code (1 : Nat) (Option.some Jvm.ClassFile.FieldType.boolean)).before args0 about1 = true := code_word (m := ⟨7, 7⟩) (meth := k7m7) (c := k7c7) (by decide +kernel) rfl rfl rfl (by decide +kernel)
set_option maxRecDepth 65536 in
theorem w_c14 : (Jvm.Cond.code ({ cls := "java/lang/StringLatin1", name := "charAt", desc := "([BI)C" } : Jvm.MethodName) jdk_43_method_2_code (2 : Nat) (Option.some Jvm.ClassFile.FieldType.char)).before args0 about1 = true := code_word (m := ⟨10, 1⟩) (meth := k10m1) (c := k10c1) (by decide +kernel) rfl rfl rfl (by decide +kernel)
set_option maxRecDepth 65536 in
theorem w_c15 : (Jvm.Cond.code ({ cls := "java/lang/String", name := "checkIndex", desc := "(II)V" } : Jvm.MethodName) jdk_42_method_155_code (2 : Nat) (Option.none : Option Jvm.ClassFile.FieldType)).before args0 about1 = true := code_word (m := ⟨7, 8⟩) (meth := k7m8) (c := k7c8) (by decide +kernel) rfl rfl rfl (by decide +kernel)
set_option maxRecDepth 65536 in
theorem w_c16 : (Jvm.Cond.code ({ cls := "jdk/internal/util/Preconditions", name := "checkIndex", desc := "(IILjava/util/function/BiFunction;)I" } : Jvm.MethodName) jdk_41_method_11_code (3 : Nat) (Option.some Jvm.ClassFile.FieldType.int)).before args0 about1 = true := code_word (m := ⟨11, 1⟩) (meth := k11m1) (c := k11c1) (by decide +kernel) rfl rfl rfl (by decide +kernel)
set_option maxRecDepth 65536 in
theorem w_c17 : (Jvm.Cond.code ({ cls := "castworks/Names", name := "isLetter", desc := "(C)Z" } : Jvm.MethodName) prog_25_method_3_code (1 : Nat) (Option.some Jvm.ClassFile.FieldType.boolean)).before args0 about1 = true := code_word (m := ⟨8, 2⟩) (meth := k8m2) (c := k8c2) (by decide +kernel) rfl rfl rfl (by decide +kernel)
set_option maxRecDepth 65536 in
theorem w_c18 : (Jvm.Cond.code ({ cls := "java/lang/StringUTF16", name := "toBytes", desc := "([CII)[B" } : Jvm.MethodName) jdk_52_method_14_code (5 : Nat) (Option.some (Jvm.ClassFile.FieldType.array Jvm.ClassFile.FieldType.byte))).before args0 about1 = true := code_word (m := ⟨9, 6⟩) (meth := k9m6) (c := k9c6) (by decide +kernel) rfl rfl rfl (by decide +kernel)
set_option maxRecDepth 65536 in
theorem w_c19 : (Jvm.Cond.code ({ cls := "java/lang/StringUTF16", name := "newBytesFor", desc := "(I)[B" } : Jvm.MethodName) jdk_52_method_2_code (1 : Nat) (Option.some (Jvm.ClassFile.FieldType.array Jvm.ClassFile.FieldType.byte))).before args0 about1 = true := code_word (m := ⟨9, 1⟩) (meth := k9m1) (c := k9c1) (by decide +kernel) rfl rfl rfl (by decide +kernel)
set_option maxRecDepth 65536 in
theorem w_c20 : (Jvm.Cond.code ({ cls := "java/lang/StringUTF16", name := "newBytesLength", desc := "(I)I" } : Jvm.MethodName) jdk_52_method_3_code (1 : Nat) (Option.some Jvm.ClassFile.FieldType.int)).before args0 about1 = true := code_word (m := ⟨9, 2⟩) (meth := k9m2) (c := k9c2) (by decide +kernel) rfl rfl rfl (by decide +kernel)
set_option maxRecDepth 65536 in
theorem w_c21 : (Jvm.Cond.code ({ cls := "java/lang/StringUTF16", name := "putChar", desc := "([BII)V" } : Jvm.MethodName) jdk_52_method_4_code (3 : Nat) (Option.none : Option Jvm.ClassFile.FieldType)).before args0 about1 = true := code_word (m := ⟨9, 3⟩) (meth := k9m3) (c := k9c3) (by decide +kernel) rfl rfl rfl (by decide +kernel)
set_option maxRecDepth 65536 in
theorem w_c22 : (Jvm.Cond.code ({ cls := "java/lang/StringUTF16", name := "getChar", desc := "([BI)C" } : Jvm.MethodName) jdk_52_method_5_code (2 : Nat) (Option.some Jvm.ClassFile.FieldType.char)).before args0 about1 = true := code_word (m := ⟨9, 4⟩) (meth := k9m4) (c := k9c4) (by decide +kernel) rfl rfl rfl (by decide +kernel)
set_option maxRecDepth 65536 in
theorem w_c23 : (Jvm.Cond.code ({ cls := "java/lang/StringUTF16", name := "charAt", desc := "([BI)C" } : Jvm.MethodName) jdk_52_method_83_code (2 : Nat) (Option.some Jvm.ClassFile.FieldType.char)).before args0 about1 = true := code_word (m := ⟨9, 10⟩) (meth := k9m10) (c := k9c10) (by decide +kernel) rfl rfl rfl (by decide +kernel)
set_option maxRecDepth 65536 in
theorem w_c24 : (Jvm.Cond.code ({ cls := "java/lang/StringUTF16", name := "checkIndex", desc := "(I[B)V" } : Jvm.MethodName) jdk_52_method_91_code (2 : Nat) (Option.none : Option Jvm.ClassFile.FieldType)).before args0 about1 = true := code_word (m := ⟨9, 11⟩) (meth := k9m11) (c := k9c11) (by decide +kernel) rfl rfl rfl (by decide +kernel)
set_option maxRecDepth 65536 in
theorem w_c25 : (Jvm.Cond.code ({ cls := "java/lang/StringUTF16", name := "length", desc := "([B)I" } : Jvm.MethodName) jdk_52_method_6_code (1 : Nat) (Option.some Jvm.ClassFile.FieldType.int)).before args0 about1 = true := code_word (m := ⟨9, 5⟩) (meth := k9m5) (c := k9c5) (by decide +kernel) rfl rfl rfl (by decide +kernel)
set_option maxRecDepth 65536 in
theorem w_c26 : (Jvm.Cond.code ({ cls := "castworks/NamesIsValidPinLaw", name := "part", desc := "(C)Z" } : Jvm.MethodName) method_3_code (1 : Nat) (Option.some Jvm.ClassFile.FieldType.boolean)).before args0 about1 = true := code_word (m := ⟨1, 2⟩) (meth := k1m2) (c := k1c2) (by decide +kernel) rfl rfl rfl (by decide +kernel)
def codes1 : List Jvm.Cond := [Jvm.Cond.code x code maxLocals ret, Jvm.Cond.code ({ cls := "java/lang/String", name := "<init>", desc := "([C)V" } : Jvm.MethodName) jdk_42_method_3_code (2 : Nat) (Option.none : Option Jvm.ClassFile.FieldType), Jvm.Cond.code ({ cls := "java/lang/String", name := "<init>", desc := "([CIILjava/lang/Void;)V" } : Jvm.MethodName) jdk_42_method_149_code (6 : Nat) (Option.none : Option Jvm.ClassFile.FieldType), Jvm.Cond.code ({ cls := "java/lang/Object", name := "<init>", desc := "()V" } : Jvm.MethodName) object_method_1_code (1 : Nat) (Option.none : Option Jvm.ClassFile.FieldType), Jvm.Cond.code ({ cls := "castworks/Names", name := "isValid", desc := "(Ljava/lang/String;)Z" } : Jvm.MethodName) prog_25_method_2_code (3 : Nat) (Option.some Jvm.ClassFile.FieldType.boolean), Jvm.Cond.code ({ cls := "java/lang/String", name := "isEmpty", desc := "()Z" } : Jvm.MethodName) jdk_42_method_55_code (1 : Nat) (Option.some Jvm.ClassFile.FieldType.boolean), Jvm.Cond.code ({ cls := "java/lang/StringUTF16", name := "compress", desc := "([CII)[B" } : Jvm.MethodName) jdk_52_method_16_code (6 : Nat) (Option.some (Jvm.ClassFile.FieldType.array Jvm.ClassFile.FieldType.byte)), Jvm.Cond.code ({ cls := "java/lang/StringUTF16", name := "compress", desc := "([CI[BII)I" } : Jvm.MethodName) jdk_52_method_21_code (7 : Nat) (Option.some Jvm.ClassFile.FieldType.int), Jvm.Cond.code ({ cls := "java/lang/StringUTF16", name := "coderFromArrayLen", desc := "([BI)B" } : Jvm.MethodName) jdk_52_method_15_code (2 : Nat) (Option.some Jvm.ClassFile.FieldType.byte), Jvm.Cond.code ({ cls := "castworks/NamesIsValidPinLaw", name := "letter", desc := "(C)Z" } : Jvm.MethodName) method_2_code (1 : Nat) (Option.some Jvm.ClassFile.FieldType.boolean), Jvm.Cond.code ({ cls := "java/lang/String", name := "length", desc := "()I" } : Jvm.MethodName) jdk_42_method_54_code (1 : Nat) (Option.some Jvm.ClassFile.FieldType.int), Jvm.Cond.code ({ cls := "java/lang/String", name := "coder", desc := "()B" } : Jvm.MethodName) jdk_42_method_152_code (1 : Nat) (Option.some Jvm.ClassFile.FieldType.byte), Jvm.Cond.code ({ cls := "java/lang/String", name := "charAt", desc := "(I)C" } : Jvm.MethodName) jdk_42_method_56_code (2 : Nat) (Option.some Jvm.ClassFile.FieldType.char), Jvm.Cond.code ({ cls := "java/lang/String", name := "isLatin1", desc := "()Z" } : Jvm.MethodName) jdk_42_method_154_code (1 : Nat) (Option.some Jvm.ClassFile.FieldType.boolean), Jvm.Cond.code ({ cls := "java/lang/StringLatin1", name := "charAt", desc := "([BI)C" } : Jvm.MethodName) jdk_43_method_2_code (2 : Nat) (Option.some Jvm.ClassFile.FieldType.char), Jvm.Cond.code ({ cls := "java/lang/String", name := "checkIndex", desc := "(II)V" } : Jvm.MethodName) jdk_42_method_155_code (2 : Nat) (Option.none : Option Jvm.ClassFile.FieldType), Jvm.Cond.code ({ cls := "jdk/internal/util/Preconditions", name := "checkIndex", desc := "(IILjava/util/function/BiFunction;)I" } : Jvm.MethodName) jdk_41_method_11_code (3 : Nat) (Option.some Jvm.ClassFile.FieldType.int), Jvm.Cond.code ({ cls := "castworks/Names", name := "isLetter", desc := "(C)Z" } : Jvm.MethodName) prog_25_method_3_code (1 : Nat) (Option.some Jvm.ClassFile.FieldType.boolean), Jvm.Cond.code ({ cls := "java/lang/StringUTF16", name := "toBytes", desc := "([CII)[B" } : Jvm.MethodName) jdk_52_method_14_code (5 : Nat) (Option.some (Jvm.ClassFile.FieldType.array Jvm.ClassFile.FieldType.byte)), Jvm.Cond.code ({ cls := "java/lang/StringUTF16", name := "newBytesFor", desc := "(I)[B" } : Jvm.MethodName) jdk_52_method_2_code (1 : Nat) (Option.some (Jvm.ClassFile.FieldType.array Jvm.ClassFile.FieldType.byte)), Jvm.Cond.code ({ cls := "java/lang/StringUTF16", name := "newBytesLength", desc := "(I)I" } : Jvm.MethodName) jdk_52_method_3_code (1 : Nat) (Option.some Jvm.ClassFile.FieldType.int), Jvm.Cond.code ({ cls := "java/lang/StringUTF16", name := "putChar", desc := "([BII)V" } : Jvm.MethodName) jdk_52_method_4_code (3 : Nat) (Option.none : Option Jvm.ClassFile.FieldType), Jvm.Cond.code ({ cls := "java/lang/StringUTF16", name := "getChar", desc := "([BI)C" } : Jvm.MethodName) jdk_52_method_5_code (2 : Nat) (Option.some Jvm.ClassFile.FieldType.char), Jvm.Cond.code ({ cls := "java/lang/StringUTF16", name := "charAt", desc := "([BI)C" } : Jvm.MethodName) jdk_52_method_83_code (2 : Nat) (Option.some Jvm.ClassFile.FieldType.char), Jvm.Cond.code ({ cls := "java/lang/StringUTF16", name := "checkIndex", desc := "(I[B)V" } : Jvm.MethodName) jdk_52_method_91_code (2 : Nat) (Option.none : Option Jvm.ClassFile.FieldType), Jvm.Cond.code ({ cls := "java/lang/StringUTF16", name := "length", desc := "([B)I" } : Jvm.MethodName) jdk_52_method_6_code (1 : Nat) (Option.some Jvm.ClassFile.FieldType.int), Jvm.Cond.code ({ cls := "castworks/NamesIsValidPinLaw", name := "part", desc := "(C)Z" } : Jvm.MethodName) method_3_code (1 : Nat) (Option.some Jvm.ClassFile.FieldType.boolean)]
set_option maxRecDepth 65536 in
theorem codes_eq : words1.filter isCode = codes1 := rfl
theorem w_codes : ∀ c ∈ words1.filter isCode, c.before args0 about1 = true := by
  rw [codes_eq]
  intro c hc
  simp only [codes1, List.mem_cons, List.not_mem_nil, or_false] at hc
  rcases hc with rfl | rfl | rfl | rfl | rfl | rfl | rfl | rfl | rfl | rfl | rfl | rfl | rfl | rfl | rfl | rfl | rfl | rfl | rfl | rfl | rfl | rfl | rfl | rfl | rfl | rfl | rfl
  · exact w_c0
  · exact w_c1
  · exact w_c2
  · exact w_c3
  · exact w_c4
  · exact w_c5
  · exact w_c6
  · exact w_c7
  · exact w_c8
  · exact w_c9
  · exact w_c10
  · exact w_c11
  · exact w_c12
  · exact w_c13
  · exact w_c14
  · exact w_c15
  · exact w_c16
  · exact w_c17
  · exact w_c18
  · exact w_c19
  · exact w_c20
  · exact w_c21
  · exact w_c22
  · exact w_c23
  · exact w_c24
  · exact w_c25
  · exact w_c26
set_option maxRecDepth 65536 in
theorem w_t1 : (words1.take 24).all (fun c => isCode c || c.before args0 about1) = true := by decide +kernel
set_option maxRecDepth 65536 in
theorem w_t2 : ((words1.drop 24).take 24).all (fun c => isCode c || c.before args0 about1) = true := by decide +kernel
set_option maxRecDepth 65536 in
theorem w_t3 : (((words1.drop 24).drop 24).take 24).all (fun c => isCode c || c.before args0 about1) = true := by decide +kernel
set_option maxRecDepth 65536 in
theorem w_t4 : ((((words1.drop 24).drop 24).drop 24).take 24).all (fun c => isCode c || c.before args0 about1) = true := by decide +kernel
set_option maxRecDepth 65536 in
theorem w_t5 : ((((words1.drop 24).drop 24).drop 24).drop 24).all (fun c => isCode c || c.before args0 about1) = true := by decide +kernel
theorem w_tables : (allAtoms (Jvm.Cond.code x code maxLocals ret :: tables_1)).before args0 about1 = true := by
  rw [allAtoms_all]
  show words1.all (fun c => c.before args0 about1) = true
  refine all_split ?_ w_codes
  rw [← List.take_append_drop 24 words1, List.all_append, w_t1, ← List.take_append_drop 24 (words1.drop 24), List.all_append, w_t2, ← List.take_append_drop 24 ((words1.drop 24).drop 24), List.all_append, w_t3, ← List.take_append_drop 24 (((words1.drop 24).drop 24).drop 24), List.all_append, w_t4, w_t5]
  rfl
set_option maxRecDepth 65536 in
theorem w_rest : rest_1_c.before args0 about1 = true := by decide +kernel
set_option maxRecDepth 65536 in
theorem w_case : (Jvm.Cond.and given_1 narrow_1).before args0 about1 = true := by decide +kernel
set_option maxRecDepth 65536 in
theorem w_consts : constsHeld consts_1 about1 := Jvm.Lit.constsHeldB_iff.mp (by decide +kernel)
theorem w_applies : (headSpec (Jvm.Cond.code x code maxLocals ret :: tables_1) room_1).applies x e0.platform about1 = true :=
  (Spec.applies_iff w_frames).mpr ⟨w_running, w_runnable, w_alone, w_named, w_hears, w_ripe, w_room, w_tables⟩
theorem atStart : AtStart classFile x code maxLocals ret World_1 tables_1 room_1 Calls_1 rest_1 Pre_1 launch0 p0 e0 about1 theMethod args0 below0 :=
  ⟨lists_1, trivial, launch0.admits_env _ _ _, launch0.least_env, fairChoices_fair.cas, fairChoices_fair.clock, w_frames, w_args, w_heap, w_applies, ⟨w_consts, trivial⟩, w_rest, w_case⟩
end start1
theorem witness_1 : WitnessClaimed_1 := ⟨start1.p0, start1.e0, start1.about1, start1.theMethod, start1.args0, start1.below0, start1.atStart⟩
end Jvm.Pilot.@@N@@
