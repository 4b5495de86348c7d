import JvmDerived
import JvmDerived.Pilot.@@N@@Statement
import JvmDerived.Pilot.@@N@@Code
set_option linter.unusedVariables false
set_option linter.unusedSimpArgs false
namespace Jvm.RoadKit
open Sem ClassFile Op Lib Jvm.Stand Jvm.Free Jvm.LawKit
section New
variable {p : Program} {l : Launch} {e : Env} {R : Room} {s : State} {m : MethodId} {args : Array Value} {below : List Frame} {meth : Method} {c : Code} {T : State} {locs : List Loc} {cells slots : Nat}
theorem retI (X : Stand p l e R s m args below meth c T locs cells slots) (hx : p.tables.exec = Jvm.exec) {pc : Nat} {Ls : Array Slot} {z : Int32} {rest : List Value} (hret : meth.sig.returnType = some .int) (hd : decode c.code pc = .ok (.ireturn, 1)) {fs : List Frame}
    (hl : ∀ (f : JFrame) (acts : List Action), f.method = m → f.locked = none → f.entered = [] → (doReturn e (T.setTop f) acts (some (.int z))).1 = T.setFrames fs) : Steps p.tables e below (T.setTop (mkF m pc Ls (.int z :: rest))) (T.setFrames fs) := by
  have hm' : T.vm.method? m = some meth := X.method'
  have hn : narrow .int (.int z) = .int z := rfl
  show Steps p.tables e below (T.setTop { method := m, pc := pc, locals := Ls, stack := _ :: rest, locked := none }) _
  jvm_step X.here [X.here.top, hx, hd, hm', hret, hn]
  first | (intro acts; rw [hl _ acts rfl rfl rfl]) | rw [hl _ _ rfl rfl rfl]
  exact Steps.refl _
end New
end Jvm.RoadKit
/- laws to paste: Road.chN (cut by pick.py; bodies as the Statement names them) -/
namespace Jvm.Pilot.@@N@@
namespace StrChars
open Jvm Sem ClassFile Op Lib Jvm.Stand Jvm.Free.XT Jvm.Free.ALB Jvm.Free.JM Jvm.Free
open Jvm.Lib.Cold (StaticIs)
/-- the byte that i2b leaves of a char -/
def lo8 (x : Int32) : Int32 := x.toInt8.toInt32
def U16 : String := "java/lang/StringUTF16"
namespace Cmp5
def yN : MethodName := ⟨"java/lang/StringUTF16", "compress", "([CI[BII)I"⟩
abbrev yB : ByteArray := jdk_52_method_21_code
end Cmp5
namespace Cmp3
def yN : MethodName := ⟨"java/lang/StringUTF16", "compress", "([CII)[B"⟩
abbrev yB : ByteArray := jdk_52_method_16_code
end Cmp3
namespace CodL
def yN : MethodName := ⟨"java/lang/StringUTF16", "coderFromArrayLen", "([BI)B"⟩
abbrev yB : ByteArray := jdk_52_method_15_code
end CodL
namespace New4
def yN : MethodName := ⟨"java/lang/String", "<init>", "([CIILjava/lang/Void;)V"⟩
abbrev yB : ByteArray := jdk_42_method_149_code
end New4
namespace New1
def yN : MethodName := ⟨"java/lang/String", "<init>", "([C)V"⟩
abbrev yB : ByteArray := jdk_42_method_3_code
end New1
/-- the byte, read back as charAt reads it, is the char -/
theorem lo8_mask {x : Int32} (h0 : ¬ x < 0) (h1 : ¬ 255 < x) : lo8 x &&& 255 = x := by
  have t : ∀ k : Fin 256, lo8 (Int32.ofNat k.val) &&& 255 = Int32.ofNat k.val := by decide +kernel
  rw [Int32.lt_iff_toInt_lt] at h0 h1
  have e0 : (0 : Int32).toInt = 0 := rfl
  have e1 : (255 : Int32).toInt = 255 := rfl
  obtain ⟨k, hk⟩ : ∃ k : Nat, x.toInt = k := ⟨x.toInt.toNat, by omega⟩
  have hx : x = Int32.ofNat k := Int32.toInt_inj.mp (by rw [hk, Int32.toInt_ofNat_small (by omega)])
  rw [hx]
  exact t ⟨k, by omega⟩
end StrChars
namespace StrChars.Road
open Jvm Sem ClassFile Op Lib Jvm.Stand Jvm.Free Jvm.Free.XT
open Jvm.Lib.Cold (StaticIs)
abbrev ST : String := "java/lang/String"
/-- every table word that New1's law asks, flat -/
abbrev words : List Jvm.Cond := [.code New1.yN New1.yB 2 none, .initialized ST, .methodLink ST 27 New4.yN, .instanceMethod New4.yN,
  .code New4.yN New4.yB 6 none, .fieldLink ST 38 ST "COMPACT_STRINGS" "Z", .laysFinal ST ST "value" "[B", .fieldLink ST 9 ST "value" "[B", .laysFinal ST ST "coder" "B", .fieldLink ST 15 ST "coder" "B",
  .methodLink ST 1 Lib.objectInit, .instanceMethod Lib.objectInit, .code Lib.objectInit ⟨#[0xb1]⟩ 1 none, .methodLink ST 177 Cmp3.yN, .static Cmp3.yN, .methodLink ST 47 CodL.yN, .static CodL.yN,
  .code Cmp3.yN Cmp3.yB 6 (some (.array .byte)), .initialized U16, .arrayClass .byte, .methodLink U16 115 Cmp5.yN, .static Cmp5.yN, .code Cmp5.yN Cmp5.yB 7 (some .int), .code CodL.yN CodL.yB 2 (some .byte)]
end StrChars.Road
namespace StrChars
open Jvm Sem ClassFile Op Lib Jvm.Stand Jvm.Free.XT Jvm.Free.ALB Jvm.Free.JM Jvm.Free
open Jvm.Lib.Cold (StaticIs)
def hi8 (x : Int32) : Int32 := lo8 (x >>> ((8 : Int32) &&& 31))
/-- what StringUTF16.getChar makes of two bytes -/
def pairCh (u v : Int32) : Int32 := (((u &&& 255) <<< ((0 : Int32) &&& 31)) ||| ((v &&& 255) <<< ((8 : Int32) &&& 31))).toUInt32.toUInt16.toUInt32.toInt32
theorem lo8_and (x : Int32) : (lo8 x &&& 255).toBitVec.toNat = x.toBitVec.toNat % 256 := by
  have h : (lo8 x).toBitVec = (x.toBitVec.signExtend 8).signExtend 32 := by rw [lo8, Int8.toBitVec_toInt32, Int32.toBitVec_toInt8]
  rw [Int32.toBitVec_and, BitVec.toNat_and, h]
  have e : ((x.toBitVec.signExtend 8).signExtend 32).toNat % 256 = x.toBitVec.toNat % 256 := by
    rw [BitVec.toNat_signExtend]
    have hlt := x.toBitVec.isLt
    simp only [BitVec.toNat_setWidth, BitVec.toNat_signExtend]
    split <;> split <;> omega
  rw [← e]
  exact Nat.and_two_pow_sub_one_eq_mod _ 8
theorem pair_says {c : Int32} (h0 : ¬ c < 0) (h1 : ¬ 65535 < c) : pairCh (lo8 c) (hi8 c) = c := by
  rw [Int32.lt_iff_toInt_lt] at h0 h1
  have e0 : (0 : Int32).toInt = 0 := rfl
  have e1 : (65535 : Int32).toInt = 65535 := rfl
  have hc : c.toInt = c.toBitVec.toNat := by
    have := c.toBitVec.isLt
    have e : c.toInt = c.toBitVec.toInt := rfl
    rw [e] at h0 h1
    rw [e]
    rw [BitVec.toInt_eq_toNat_cond] at h0 h1 ⊢
    split at h0 <;> split <;> omega
  have hn : c.toBitVec.toNat < 65536 := by omega
  have a1 := lo8_and c
  have a2 : (hi8 c &&& 255).toBitVec.toNat = c.toBitVec.toNat / 256 := by
    rw [hi8, lo8_and]
    have e : ((8 : Int32) &&& 31) = 8 := by decide
    rw [e, Int32.toBitVec_shiftRight]
    have e2 : ((8 : Int32).toBitVec.smod 32) = 8#32 := by decide
    rw [e2, BitVec.sshiftRight_eq', BitVec.toNat_sshiftRight_of_msb_false (by rw [BitVec.msb_eq_false_iff_two_mul_lt]; omega)]
    show c.toBitVec.toNat >>> 8 % 256 = _
    rw [Nat.shiftRight_eq_div_pow]
    omega
  unfold pairCh
  apply Int32.toBitVec_inj.mp
  apply BitVec.eq_of_toNat_eq
  have f0 : ((0 : Int32) &&& 31) = 0 := by decide
  have f8 : ((8 : Int32) &&& 31) = 8 := by decide
  rw [f0, f8]
  have g : (((lo8 c &&& 255) <<< (0 : Int32)) ||| ((hi8 c &&& 255) <<< (8 : Int32))).toBitVec.toNat = c.toBitVec.toNat := by
    rw [Int32.toBitVec_or, Int32.toBitVec_shiftLeft, Int32.toBitVec_shiftLeft]
    have s0 : ((0 : Int32).toBitVec.smod 32) = 0#32 := by decide
    have s8 : ((8 : Int32).toBitVec.smod 32) = 8#32 := by decide
    rw [s0, s8, BitVec.toNat_or]
    simp only [BitVec.shiftLeft_eq', BitVec.toNat_shiftLeft, a1, a2]
    show (c.toBitVec.toNat % 256) <<< 0 % 2 ^ 32 ||| (c.toBitVec.toNat / 256) <<< 8 % 2 ^ 32 = _
    rw [Nat.shiftLeft_zero, Nat.mod_eq_of_lt (show c.toBitVec.toNat % 256 < 2 ^ 32 by omega), Nat.mod_eq_of_lt (show (c.toBitVec.toNat / 256) <<< 8 < 2 ^ 32 by rw [Nat.shiftLeft_eq]; omega), Nat.or_comm, ← Nat.shiftLeft_add_eq_or_of_lt (by omega), Nat.shiftLeft_eq]
    omega
  show BitVec.toNat (((((lo8 c &&& 255) <<< (0 : Int32)) ||| ((hi8 c &&& 255) <<< (8 : Int32))).toBitVec.setWidth 16).setWidth 32) = _
  rw [BitVec.toNat_setWidth, BitVec.toNat_setWidth, g]
  omega
end StrChars
namespace StrChars
open Jvm Sem ClassFile Op Lib Jvm.Stand Jvm.Free.XT Jvm.Free.ALB Jvm.Free.JM Jvm.Free
open Jvm.Lib.Cold (StaticIs)
/-- charAt's cast of a byte read back -/
def chr8 (u : Int32) : Int32 := (u &&& 255).toUInt32.toUInt16.toUInt32.toInt32
theorem chr8_lo8 {c : Int32} (h0 : ¬ c < 0) (h1 : ¬ 255 < c) : chr8 (lo8 c) = c := by
  have t : ∀ k : Fin 256, (Int32.ofNat k.val).toUInt32.toUInt16.toUInt32.toInt32 = Int32.ofNat k.val := by decide +kernel
  unfold chr8
  rw [lo8_mask h0 h1]
  rw [Int32.lt_iff_toInt_lt] at h0 h1
  have e0 : (0 : Int32).toInt = 0 := rfl
  have e1 : (255 : Int32).toInt = 255 := rfl
  obtain ⟨k, hk⟩ : ∃ k : Nat, c.toInt = k := ⟨c.toInt.toNat, by omega⟩
  have hx : c = Int32.ofNat k := Int32.toInt_inj.mp (by rw [hk, Int32.toInt_ofNat_small (by omega)])
  rw [hx]
  exact t ⟨k, by omega⟩
theorem narrow_ch {c : Int32} (h0 : ¬ c < 0) (h1 : ¬ 65535 < c) : narrow .char (.int c) = .int c := by
  have q : narrow .char (.int (pairCh (lo8 c) (hi8 c))) = .int (pairCh (lo8 c) (hi8 c)) := narrow_c _
  rwa [pair_says h0 h1] at q
/-- the array's cell V codes the n chars f 0 .. f (n - 1) by the coder cd, as the JDK does: coder 1 just where some char is above 255 -/
def Cod (cd : Int32) (n : Nat) (f : Nat → Int32) (V : Cell) : Prop := (cd = 0 ∧ V.slots.size = n ∧ ∀ j, j < n → V.slots[j]? = some (.int (lo8 (f j))) ∧ ¬ 255 < f j) ∨ (cd = 1 ∧ V.slots.size = 2 * n ∧ (∀ j, j < n → V.slots[2 * j]? = some (.int (lo8 (f j))) ∧ V.slots[2 * j + 1]? = some (.int (hi8 (f j)))) ∧ ∃ j, j < n ∧ 255 < f j)
theorem Cod.cd {cd : Int32} {n : Nat} {f : Nat → Int32} {V : Cell} (h : Cod cd n f V) : cd = 0 ∨ cd = 1 := h.imp (fun q => q.1) fun q => q.1
/-- **x is a String of the n chars f 0 .. f (n - 1)**, Latin-1 or UTF-16; its array at t has the cell V -/
def Txt (x t : Addr) (V : Cell) (cd : Int32) (n : Nat) (f : Nat → Int32) (U : State) : Prop := Exact "java/lang/String" x U ∧ Has x "java/lang/String" "value" "[B" (.ref t) U ∧ Has x "java/lang/String" "coder" "B" (.int cd) U ∧ XT.Arr .byte t V U ∧ Cod cd n f V ∧ ∀ j, j < n → ¬ f j < 0 ∧ ¬ 65535 < f j
theorem Txt.mv {x t : Addr} {V : Cell} {cd : Int32} {n : Nat} {f : Nat → Int32} {U U' : State} (h : Txt x t V cd n f U) (hal : U.vm.Alike U'.vm) (hh : U'.heap = U.heap) : Txt x t V cd n f U' := ⟨h.1.mv hal hh, h.2.1.mv hal hh, h.2.2.1.mv hal hh, h.2.2.2.1.mv hal hh, h.2.2.2.2⟩
namespace IsL
def yN : MethodName := ⟨"java/lang/String", "isLatin1", "()Z"⟩
abbrev yB : ByteArray := jdk_42_method_154_code
theorem d0 : decode yB 0 = .ok (.getstatic 38, 3) := by decide +kernel
theorem d3 : decode yB 3 = .ok (.ifCond (.eq) 14, 3) := by decide +kernel
theorem d6 : decode yB 6 = .ok (.aload_n 0, 1) := by decide +kernel
theorem d7 : decode yB 7 = .ok (.getfield 15, 3) := by decide +kernel
theorem d10 : decode yB 10 = .ok (.ifCond (.ne) 7, 3) := by decide +kernel
theorem d13 : decode yB 13 = .ok (.iconst 1, 1) := by decide +kernel
theorem d14 : decode yB 14 = .ok (.goto 4, 3) := by decide +kernel
theorem d17 : decode yB 17 = .ok (.iconst 0, 1) := by decide +kernel
theorem d18 : decode yB 18 = .ok (.ireturn, 1) := by decide +kernel
def site : List Cond := [.fieldLink "java/lang/String" 38 "java/lang/String" "COMPACT_STRINGS" "Z", .fieldLink "java/lang/String" 15 "java/lang/String" "coder" "B"]
def tab : Cond := tabOf yN yB 1 (some .boolean) site
def P (x : Addr) (cd z : Int32) (args : Array Value) (s : State) : Prop := args = #[.ref x] ∧ Has x "java/lang/String" "coder" "B" (.int cd) s ∧ (cd = 0 ∨ cd = 1) ∧ StaticIs s "java/lang/String" "COMPACT_STRINGS" "Z" (.int z) ∧ ¬ z = 0
def E (cd : Int32) (r : Option Value) (s u : State) : Prop := XT.PureE (some (.int (1 - cd))) r s u
theorem law (l : Launch) (x : Addr) (cd z : Int32) : Law l yN 1 0 0 0 yB 1 (some .boolean) site (P x cd z) (E cd) [] 0 0 := by
  refine Law.of_walk (plainFor_of_name (by decide +kernel)) (by decide +kernel) (by decide +kernel) (by decide) (fun _ _ h => by rw [h.1]; rfl) (fun _ U U' hal hh h => ⟨h.1, h.2.1.mv hal hh, h.2.2.1, h.2.2.2.1.there hal hh, h.2.2.2.2⟩) (fun r U U' V V' h1 hal h2 h => XT.PureE.mv r U U' V V' h1 hal h2 h) ?_
  intro p e s m args below meth c s₁ X0 hexec hbytes hml hret hlk hnm hown hh0 W hP
  obtain ⟨rfl, hx, hc, s1, hz⟩ := hP
  have c1 : Steps p.tables e below (s₁.setTop (entryFrame m #[.ref x] 1)) (s₁.setTop (mkF m 0 #[.val (.ref x)] [])) := entry rfl
  obtain ⟨T2, X2, q2, st2⟩ := X0.sget hexec hown (wk W (.fieldLink "java/lang/String" 38 "java/lang/String" "COMPACT_STRINGS" "Z")) s1 (fun _ _ h => by rw [hh0]; exact h) (g := (mkF m 0 #[.val (.ref x)] [])) rfl (hb hbytes d0)
  have hh2 := q2.trans hh0
  have c3 : Steps p.tables e below (s₁.setTop (entryFrame m #[.ref x] 1)) (T2.setTop (mkF m 7 #[.val (.ref x)] [.ref x])) := (c1.trans (st2 _ (Steps.refl _))).trans (by
    refine XS.ifNo X2.here hexec rfl (hb hbytes d3) rfl (i0_eq_f hz) ?_
    refine XS.aloadN X2.here hexec rfl (hb hbytes d6) rfl rfl ?_
    exact Steps.refl _)
  obtain ⟨T4, X4, q4, st4⟩ := X2.hget hexec hown (wk W (.fieldLink "java/lang/String" 15 "java/lang/String" "coder" "B")) (hx.mv X2.warmed.alike hh2) (g := (mkF m 7 #[.val (.ref x)] [.ref x])) rfl (rest := []) rfl (hb hbytes d7)
  have c5 : Steps p.tables e below (s₁.setTop (entryFrame m #[.ref x] 1)) (T4.setTop (mkF m 10 #[.val (.ref x)] [.int cd])) := c3.trans (st4 _ (Steps.refl _))
  have c6 : Steps p.tables e below (s₁.setTop (entryFrame m #[.ref x] 1)) (T4.setTop (mkF m 18 #[.val (.ref x)] [.int (1 - cd)])) := by
    rcases hc with rfl | rfl
    · exact c5.trans (by
        refine XS.ifNo X4.here hexec rfl (hb hbytes d10) rfl (i0_ne_f rfl) ?_
        refine iconstV X4.here hexec rfl 1 (hb hbytes d13) (by decide) ?_
        refine XS.goto X4.here hexec rfl (pc0 := 14) rfl (hb hbytes d14) (by decide) rfl ?_
        exact Steps.refl _)
    · exact c5.trans (by
        refine XS.ifYes X4.here hexec rfl (pc0 := 10) rfl (hb hbytes d10) rfl (i0_ne_t (by decide)) (by decide) rfl ?_
        refine iconstV X4.here hexec rfl 0 (hb hbytes d17) (by decide) ?_
        exact Steps.refl _)
  exact ⟨T4, some (.int (1 - cd)), _, _, _, X4, rfl, rfl, rfl, (fun h => by cases h), ⟨rfl, q4.trans hh2⟩, fun fs hl => c6.trans (X4.ireturnOut hexec hret (by rcases hc with rfl | rfl <;> rfl) (Or.inr (Or.inl rfl)) (hb hbytes d18) hl)⟩
end IsL
namespace LChA
def yN : MethodName := ⟨"java/lang/StringLatin1", "charAt", "([BI)C"⟩
abbrev yB : ByteArray := jdk_43_method_2_code
theorem d0 : decode yB 0 = .ok (.iload_n 1, 1) := by decide +kernel
theorem d1 : decode yB 1 = .ok (.aload_n 0, 1) := by decide +kernel
theorem d2 : decode yB 2 = .ok (.arraylength, 1) := by decide +kernel
theorem d3 : decode yB 3 = .ok (.invokestatic 9, 3) := by decide +kernel
theorem d6 : decode yB 6 = .ok (.aload_n 0, 1) := by decide +kernel
theorem d7 : decode yB 7 = .ok (.iload_n 1, 1) := by decide +kernel
theorem d8 : decode yB 8 = .ok (.baload, 1) := by decide +kernel
theorem d9 : decode yB 9 = .ok (.sipush 255, 3) := by decide +kernel
theorem d12 : decode yB 12 = .ok (.iand, 1) := by decide +kernel
theorem d13 : decode yB 13 = .ok (.i2c, 1) := by decide +kernel
theorem d14 : decode yB 14 = .ok (.ireturn, 1) := by decide +kernel
def site : List Cond := [JO.Str_checkIndex.tab] ++ staticW "java/lang/StringLatin1" 9 JO.Str_checkIndex.yN
def tab : Cond := tabOf yN yB 2 (some .char) site
def P (t : Addr) (V : Cell) (i : Nat) (u : Int32) (fm : Value) (args : Array Value) (s : State) : Prop := args = #[.ref t, .int (Int32.ofNat i)] ∧ XT.Arr .byte t V s ∧ V.slots[i]? = some (.int u) ∧ (StaticIs s "jdk/internal/util/Preconditions" "SIOOBE_FORMATTER" "Ljava/util/function/BiFunction;" fm ∧ fm.isRef = true)
def E (u : Int32) (r : Option Value) (s w : State) : Prop := XT.PureE (some (.int (chr8 u))) r s w
theorem law (l : Launch) (t : Addr) (V : Cell) (i : Nat) (u : Int32) (fm : Value) : Law l yN 2 2 2 27 yB 2 (some .char) site (P t V i u fm) (E u) [] 0 0 := by
  refine Law.of_walk (plainFor_of_name (by decide +kernel)) (by decide +kernel) (by decide +kernel) (by decide) (fun _ _ h => by rw [h.1]; rfl) (fun _ U U' hal hh h => ⟨h.1, h.2.1.mv hal hh, h.2.2.1, h.2.2.2.1.there hal hh, h.2.2.2.2⟩) (fun r U U' V V' h1 hal h2 h => XT.PureE.mv r U U' V V' h1 hal h2 h) ?_
  intro p e s m args below meth c s₁ X0 hexec hbytes hml hret hlk hnm hown hh0 W hP
  obtain ⟨rfl, hV, hu, s1, rf⟩ := hP
  have v31 := hV.2.2.2
  have hi : i < V.slots.size := (Array.getElem?_eq_some_iff.mp hu).1
  have c1 : Steps p.tables e below (s₁.setTop (entryFrame m #[.ref t, .int (Int32.ofNat i)] 2)) (s₁.setTop (mkF m 0 #[.val (.ref t), .val (.int (Int32.ofNat i))] [])) := entry rfl
  have c2 : Steps p.tables e below (s₁.setTop (entryFrame m #[.ref t, .int (Int32.ofNat i)] 2)) (s₁.setTop (mkF m 3 #[.val (.ref t), .val (.int (Int32.ofNat i))] [.int (Int32.ofNat V.slots.size), .int (Int32.ofNat i)])) := c1.trans (by
    refine XS.iloadN X0.here hexec rfl (hb hbytes d0) rfl ?_
    refine XS.aloadN X0.here hexec rfl (hb hbytes d1) rfl rfl ?_
    refine X0.alen hexec (hV.mv X0.warmed.alike hh0) rfl rfl (hb hbytes d2) ?_
    exact Steps.refl _)
  obtain ⟨v3, T3, X3, E3, g3⟩ := X0.callS hexec (JO.Str_checkIndex.law l (Int32.ofNat i) (Int32.ofNat V.slots.size) fm) hown (wks W (staticW "java/lang/StringLatin1" 9 JO.Str_checkIndex.yN)) (wk W JO.Str_checkIndex.tab) (W := 0) (Nat.le_of_ble_eq_true rfl) (Nat.le_of_ble_eq_true rfl) (Nat.le_refl _) (Nat.le_refl _) (g := (mkF m 3 #[.val (.ref t), .val (.int (Int32.ofNat i))] [.int (Int32.ofNat V.slots.size), .int (Int32.ofNat i)])) rfl (by rw [hml]; rfl) c2 (argsL := [.int (Int32.ofNat i), .int (Int32.ofNat V.slots.size)]) (rest := []) rfl rfl (by show 2 * 0 + 0 ≤ _; decide) (hb hbytes d3) (⟨rfl, rf, s1.there X0.warmed.alike hh0, Int32.ofNat_not_neg (by omega), lt32 v31 hi⟩)
  obtain ⟨rfl, q3⟩ := E3
  have hh3 := q3.trans hh0
  have c4 : Steps p.tables e below (s₁.setTop (entryFrame m #[.ref t, .int (Int32.ofNat i)] 2)) (T3.setTop (mkF m 14 #[.val (.ref t), .val (.int (Int32.ofNat i))] [.int (chr8 u)])) := Steps.trans g3 (by
    refine XS.aloadN X3.here hexec rfl (hb hbytes d6) rfl rfl ?_
    refine XS.iloadN X3.here hexec rfl (hb hbytes d7) rfl ?_
    refine X3.aget hexec (hV.mv X3.warmed.alike hh3) rfl hu rfl rfl (hb hbytes d8) ?_
    refine sipushV X3.here hexec rfl 255 (hb hbytes d9) (by decide) ?_
    refine XS.iand X3.here hexec rfl (hb hbytes d12) rfl ?_
    refine i2c X3.here hexec rfl (hb hbytes d13) rfl ?_
    exact Steps.refl _)
  exact ⟨T3, some (.int (chr8 u)), _, _, _, X3, rfl, rfl, rfl, (fun h => by cases h), ⟨rfl, hh3⟩, fun fs hl => c4.trans (X3.ireturnOut hexec hret (narrow_c _) (Or.inr (Or.inr (Or.inr (Or.inl rfl)))) (hb hbytes d14) hl)⟩
end LChA
end StrChars
namespace StrChars.Road
open Jvm Sem ClassFile Op Lib Jvm.Stand Jvm.Free Jvm.Free.XT
open Jvm.Lib.Cold (StaticIs)
theorem consq {a : Array Value} {s : State} {c : Jvm.Cond} {L : List Jvm.Cond} (h0 : c.before a s = true) (h : ∀ w ∈ L, w.before a s = true) : ∀ w ∈ c :: L, w.before a s = true := fun w hw => (List.mem_cons.mp hw).elim (fun e => e ▸ h0) (h w)
/-- the bytes of the chars cs, low before high -/
def wideBytes : List Int32 → List Value
  | [] => []
  | c :: cs => .int (lo8 c) :: .int (hi8 c) :: wideBytes cs
theorem wide_lo (d : Value) : ∀ (cs : List Int32) (j : Nat), j < cs.length → (wideBytes cs).getD (2 * j) d = .int (lo8 (cs.getD j 0))
  | [], j, h => absurd h (Nat.not_lt_zero j)
  | c :: cs, 0, _ => rfl
  | c :: cs, j + 1, h => by
    have q := wide_lo d cs j (by simpa using h)
    rw [show 2 * (j + 1) = 2 * j + 1 + 1 from by omega]
    simpa [wideBytes] using q
theorem wide_hi (d : Value) : ∀ (cs : List Int32) (j : Nat), j < cs.length → (wideBytes cs).getD (2 * j + 1) d = .int (hi8 (cs.getD j 0))
  | [], j, h => absurd h (Nat.not_lt_zero j)
  | c :: cs, 0, _ => rfl
  | c :: cs, j + 1, h => by
    have q := wide_hi d cs j (by simpa using h)
    rw [show 2 * (j + 1) + 1 = 2 * j + 1 + 1 + 1 from by omega]
    simpa [wideBytes] using q
theorem low_at (d : Value) (cs : List Int32) (j : Nat) (h : j < cs.length) : (cs.map fun c => Value.int (lo8 c)).getD j d = .int (lo8 (cs.getD j 0)) := by
  simp [List.getD_eq_getElem?_getD, h]
/-- an array of N2 bytes vs codes the chars cs by the coder cd -/
def CodA (cs : List Int32) (cd N2 : Int32) (vs : List Value) : Prop := (cd = 0 ∧ N2 = Int32.ofNat cs.length ∧ vs = (cs.map fun c => Value.int (lo8 c)) ∧ ∀ c ∈ cs, ¬ 255 < c) ∨ (cd = 1 ∧ N2 = Int32.ofNat (2 * cs.length) ∧ vs = wideBytes cs ∧ ∃ c ∈ cs, 255 < c)
theorem CodA.cod {cs : List Int32} {cd N2 : Int32} {vs : List Value} {V : Cell} (h : CodA cs cd N2 vs) (hn : 2 * cs.length < 2 ^ 31) (hs : V.slots.size = N2.toNatClampNeg) (hv : RoadKit.Has V vs (.int 0)) : Cod cd cs.length (fun j => cs.getD j 0) V := by
  rcases h with ⟨rfl, rfl, rfl, h⟩ | ⟨rfl, rfl, rfl, c, hc, hw⟩
  · rw [n32 (by omega)] at hs
    exact Or.inl ⟨rfl, hs, fun j hj => ⟨by rw [hv j (by omega), low_at _ _ _ hj], by
      have e : cs.getD j 0 = cs[j] := by simp [List.getD_eq_getElem?_getD, hj]
      show ¬ 255 < cs.getD j 0
      rw [e]; exact h _ (List.getElem_mem _)⟩⟩
  · rw [n32 (by omega)] at hs
    obtain ⟨j, hj, rfl⟩ := List.getElem_of_mem hc
    exact Or.inr ⟨rfl, hs, fun j hj => ⟨by rw [hv _ (by omega), wide_lo _ _ _ hj], by rw [hv _ (by omega), wide_hi _ _ _ hj]⟩, j, hj, by
      have e : cs.getD j 0 = cs[j] := by simp [List.getD_eq_getElem?_getD, hj]
      show 255 < cs.getD j 0
      rw [e]; exact hw⟩
/-- an object of exactly java/lang/String, its two fields found: as the laws ask it -/
theorem strObj {Z U : State} {a0 : Array Value} {kI : Nat} (wi : (Jvm.Cond.instantiable ST kI).before a0 Z = true) (al : Z.vm.Alike U.vm) {x : Addr} {v0 c0 : Value} (E : RoadKit.Exa Z U.heap x ST) (V : RoadKit.Fld Z U.heap x ST "value" "[B" v0) (C : RoadKit.Fld Z U.heap x ST "coder" "B" c0) :
    ∃ (D : Cell) (fV fC : Field), Blank ST x D U ∧ Found ST "value" "[B" fV U ∧ Found ST "coder" "B" fC U ∧ D.slots[fV.slot]? = some v0 ∧ D.slots[fC.slot]? = some c0 ∧ RoadKit.slotOf Z ST "value" "[B" = fV.slot ∧ RoadKit.slotOf Z ST "coder" "B" = fC.slot := by
  obtain ⟨D, cfV, kV, iV, fV, hD, gV, stV, knV, obV, asV, slV⟩ := V
  obtain ⟨D', cfC, kC, iC, fC, hD', gC, stC, -, -, asC, slC⟩ := C
  cases hD.symm.trans hD'
  obtain ⟨D2, kD, e1, e2, e3, e4, e5⟩ := E
  cases hD.symm.trans e1
  obtain ⟨c2, k2, i1, i2, i3, -⟩ := Cond.instantiable_spec wi
  cases e2.symm.trans i1
  cases e3.symm.trans i2
  obtain ⟨kU, u1, u2⟩ := al.2.2 _ _ e3
  exact ⟨D, fV, fC, ⟨hD, ⟨knV, fun q hq => by rw [hq] at obV; cases obV⟩, by rw [al.findClass]; exact e2, kU, u1, by rw [u2]; exact i3, by rw [u2]; exact e5 i3⟩, ⟨SBG.found_only al ⟨cfV, kV, iV, gV⟩, stV⟩, ⟨SBG.found_only al ⟨cfC, kC, iC, gC⟩, stC⟩, slV, slC, by simp [RoadKit.slotOf, gV], by simp [RoadKit.slotOf, gC]⟩
theorem sta_is {Z U : State} (al : Z.vm.Alike U.vm) {C n d : String} {v : Value} (S : RoadKit.Sta Z U.heap C n d v) : StaticIs U C n d v := by
  obtain ⟨cfS, iS, kS, fS, st, cS, t1, t2, t3, t4, t5, t6, t7⟩ := S
  exact StaticIs.there (s := { Z with heap := U.heap }) ⟨cfS, iS, kS, fS, st, cS, t1, t2, t3, t4, t5, (fun q => by rw [q] at t6; cases t6), t7⟩ al rfl
end StrChars.Road
namespace StrChars.Road
open Jvm Sem ClassFile Op Lib Jvm.Stand Jvm.Free Jvm.Free.XT
open Jvm.Lib.Cold (StaticIs)
/-- the road's facts of a String, as the laws ask it -/
theorem txt_of {Z U : State} {a0 : Array Value} {kI : Nat} (wi : (Jvm.Cond.instantiable ST kI).before a0 Z = true) (al : Z.vm.Alike U.vm) {x t : Addr} {kb : ClassId} {cs : List Int32} {cd N2 : Int32} {vs : List Value} (E : RoadKit.Exa Z U.heap x ST) (V : RoadKit.Fld Z U.heap x ST "value" "[B" (.ref t)) (C : RoadKit.Fld Z U.heap x ST "coder" "B" (.int cd)) (K : RoadKit.Arv Z U.heap t kb .byte N2 vs (.int 0)) (hc : CodA cs cd N2 vs) (hb : ∀ c ∈ cs, ¬ c < 0 ∧ ¬ (65535 : Int32) < c) (l2 : cs.length ≤ 4000) :
    ∃ A, Txt x t A cd cs.length (fun j => cs.getD j 0) U := by
  obtain ⟨A, K1, K2, K3, K4, K5, K6⟩ := K
  have hcod := hc.cod (by omega) K3 K5
  obtain ⟨D, fV, fC, hB, F1, F2, g1, g2, -, -⟩ := strObj wi al E V C
  exact ⟨A, ⟨_, hB.2.2.1, D, hB.1, rfl, by cases q : D.vm <;> first | rfl | exact absurd q (hB.2.1.2 _)⟩, Has.of hB F1 g1, Has.of hB F2 g2, ⟨K1.1, State.isArrayOf_alike al K1.2.1, K1.2.2, by rcases hcod with ⟨-, q, -⟩ | ⟨-, q, -⟩ <;> omega⟩, hcod, fun j hj => by
    have e : cs.getD j 0 = cs[j] := by simp [List.getD_eq_getElem?_getD, hj]
    show ¬ cs.getD j 0 < 0 ∧ ¬ 65535 < cs.getD j 0
    rw [e]; exact hb _ (List.getElem_mem _)⟩
end StrChars.Road
namespace StrChars
open Jvm Sem ClassFile Op Lib Jvm.Stand Jvm.Free.XT Jvm.Free.ALB Jvm.Free.JM Jvm.Free
open Jvm.Lib.Cold (StaticIs)
namespace ChN
def yN : MethodName := ⟨"java/lang/String", "charAt", "(I)C"⟩
abbrev yB : ByteArray := jdk_42_method_56_code
theorem d0 : decode yB 0 = .ok (.aload_n 0, 1) := by decide +kernel
theorem d1 : decode yB 1 = .ok (.invokevirtual 492, 3) := by decide +kernel
theorem d4 : decode yB 4 = .ok (.ifCond (.eq) 12, 3) := by decide +kernel
theorem d7 : decode yB 7 = .ok (.aload_n 0, 1) := by decide +kernel
theorem d8 : decode yB 8 = .ok (.getfield 9, 3) := by decide +kernel
theorem d11 : decode yB 11 = .ok (.iload_n 1, 1) := by decide +kernel
theorem d12 : decode yB 12 = .ok (.invokestatic 495, 3) := by decide +kernel
theorem d15 : decode yB 15 = .ok (.ireturn, 1) := by decide +kernel
def site : List Cond := [.fieldLink "java/lang/String" 9 "java/lang/String" "value" "[B", IsL.tab, LChA.tab] ++ virtW "java/lang/String" 492 "java/lang/String" IsL.yN IsL.yN ++ staticW "java/lang/String" 495 LChA.yN
def tab : Cond := tabOf yN yB 2 (some .char) site
def P (x t : Addr) (V : Cell) (n : Nat) (f : Nat → Int32) (z : Int32) (fm : Value) (i : Nat) (args : Array Value) (s : State) : Prop := args = #[.ref x, .int (Int32.ofNat i)] ∧ Txt x t V 0 n f s ∧ i < n ∧ StaticIs s "java/lang/String" "COMPACT_STRINGS" "Z" (.int z) ∧ ¬ z = 0 ∧ StaticIs s "jdk/internal/util/Preconditions" "SIOOBE_FORMATTER" "Ljava/util/function/BiFunction;" fm ∧ fm.isRef = true
def E (f : Nat → Int32) (i : Nat) (r : Option Value) (s u : State) : Prop := XT.PureE (some (.int (f i))) r s u
/-- charAt(i) of a Latin-1 String of n chars, i < n: f i -/
theorem law (l : Launch) (x t : Addr) (V : Cell) (n : Nat) (f : Nat → Int32) (z : Int32) (fm : Value) (i : Nat) : Law l yN 2 1 3 40 yB 2 (some .char) site (P x t V n f z fm i) (E f i) [] 0 0 := by
  refine Law.of_walk (plainFor_of_name (by decide +kernel)) (by decide +kernel) (by decide +kernel) (by decide) (fun _ _ h => by rw [h.1]; rfl) (fun _ U U' hal hh h => ⟨h.1, h.2.1.mv hal hh, h.2.2.1, h.2.2.2.1.there hal hh, h.2.2.2.2.1, h.2.2.2.2.2.1.there hal hh, h.2.2.2.2.2.2⟩) (fun r U U' V V' h1 hal h2 h => XT.PureE.mv r U U' V V' h1 hal h2 h) ?_
  intro p e s m args below meth c s₁ X0 hexec hbytes hml hret hlk hnm hown hh0 W hP
  obtain ⟨rfl, hx, hi, s1, hz, s3, rf⟩ := hP
  have v31 := hx.2.2.2.1.2.2.2
  have hr := hx.2.2.2.2.2 i hi
  have hx0 := hx.mv X0.warmed.alike hh0
  have c1 : Steps p.tables e below (s₁.setTop (entryFrame m #[.ref x, .int (Int32.ofNat i)] 2)) (s₁.setTop (mkF m 1 #[.val (.ref x), .val (.int (Int32.ofNat i))] [.ref x])) := Steps.trans (entry rfl) (by
    show Steps p.tables e below (s₁.setTop (mkF m 0 #[.val (.ref x), .val (.int (Int32.ofNat i))] [])) _
    refine XS.aloadN X0.here hexec rfl (hb hbytes d0) rfl rfl ?_
    exact Steps.refl _)
  obtain ⟨v2, T2, X2, E2, g2⟩ := X0.callV hexec (IsL.law l x 0 z) hown (wks W (virtW "java/lang/String" 492 "java/lang/String" IsL.yN IsL.yN)) rfl (by decide) (wk W IsL.tab) (W := 0) (Nat.le_of_ble_eq_true rfl) (Nat.le_of_ble_eq_true rfl) (Nat.le_refl _) (Nat.le_refl _) (hx0.1.fc X0.warmed.alike) hx0.1.is (g := (mkF m 1 #[.val (.ref x), .val (.int (Int32.ofNat i))] [.ref x])) rfl (by rw [hml]; rfl) c1 (argsL := []) (rest := []) rfl rfl (by show 2 * 0 + 0 ≤ _; decide) (hb hbytes d1) (⟨rfl, hx0.2.2.1, hx.2.2.2.2.1.cd, s1.there X0.warmed.alike hh0, hz⟩)
  obtain ⟨rfl, q2⟩ := E2
  have hh2 := q2.trans hh0
  have hx2 := hx.mv X2.warmed.alike hh2
  obtain ⟨-, k1, k2⟩ | ⟨k0, -⟩ := hx.2.2.2.2.1
  · have c3 : Steps p.tables e below (s₁.setTop (entryFrame m #[.ref x, .int (Int32.ofNat i)] 2)) (T2.setTop (mkF m 8 #[.val (.ref x), .val (.int (Int32.ofNat i))] [.ref x])) := Steps.trans g2 (by
      refine XS.ifNo X2.here hexec rfl (hb hbytes d4) rfl (i0_eq_f (by decide)) ?_
      refine XS.aloadN X2.here hexec rfl (hb hbytes d7) rfl rfl ?_
      exact Steps.refl _)
    obtain ⟨T4, X4, q4, st4⟩ := X2.hget hexec hown (wk W (.fieldLink "java/lang/String" 9 "java/lang/String" "value" "[B")) hx2.2.1 (g := (mkF m 8 #[.val (.ref x), .val (.int (Int32.ofNat i))] [.ref x])) rfl (rest := []) rfl (hb hbytes d8)
    have hh4 := q4.trans hh2
    have c5 : Steps p.tables e below (s₁.setTop (entryFrame m #[.ref x, .int (Int32.ofNat i)] 2)) (T4.setTop (mkF m 12 #[.val (.ref x), .val (.int (Int32.ofNat i))] [.int (Int32.ofNat i), .ref t])) := (c3.trans (st4 _ (Steps.refl _))).trans (by
      refine XS.iloadN X4.here hexec rfl (hb hbytes d11) rfl ?_
      exact Steps.refl _)
    obtain ⟨v6, T6, X6, E6, g6⟩ := X4.callS hexec (LChA.law l t V i (lo8 (f i)) fm) hown (wks W (staticW "java/lang/String" 495 LChA.yN)) (wk W LChA.tab) (W := 0) (Nat.le_of_ble_eq_true rfl) (Nat.le_of_ble_eq_true rfl) (Nat.le_refl _) (Nat.le_refl _) (g := (mkF m 12 #[.val (.ref x), .val (.int (Int32.ofNat i))] [.int (Int32.ofNat i), .ref t])) rfl (by rw [hml]; rfl) c5 (argsL := [.ref t, .int (Int32.ofNat i)]) (rest := []) rfl rfl (by show 2 * 0 + 0 ≤ _; decide) (hb hbytes d12) (⟨rfl, hx.2.2.2.1.mv X4.warmed.alike hh4, (k2 i hi).1, s3.there X4.warmed.alike hh4, rf⟩)
    obtain ⟨rfl, q6⟩ := E6
    rw [chr8_lo8 hr.1 (k2 i hi).2] at g6
    exact ⟨T6, some (.int (f i)), _, _, _, X6, rfl, rfl, rfl, (fun h => by cases h), ⟨rfl, q6.trans hh4⟩, fun fs hl => Steps.trans g6 (X6.ireturnOut hexec hret (narrow_ch hr.1 hr.2) (Or.inr (Or.inr (Or.inr (Or.inl rfl)))) (hb hbytes d15) hl)⟩
  · exact absurd k0 (by decide)
theorem pays {l : Launch} {R : Room} {p : Program} {e : Env} {below : List Frame} {s : State} {sargs : Array Value} {len W : Nat} (x t : Addr) (V : Cell) (n : Nat) (f : Nat → Int32) (z : Int32) (fm : Value) (i : Nat) (htab : tab.before sargs s = true) (hfr : 4 ≤ R.frames) (hlo : W + 53 ≤ R.locals) :
    Back l R p e below s sargs yN len W (fun A₁ a₁ => A₁.cells + 0 ≤ R.cells ∧ A₁.slots + 0 ≤ R.slots ∧ P x t V n f z fm i a₁ A₁.U) (fun A₁ _ v₁ B₁ => E f i v₁ A₁.U B₁.U ∧ B₁.locs = A₁.locs ++ [] ∧ B₁.cells = A₁.cells + 0 ∧ B₁.slots = A₁.slots + 0) :=
  (law l x t V n f z fm i).pays htab hfr (by omega)
end ChN
end StrChars
namespace StrChars.Road
open Jvm Sem ClassFile Op Lib Jvm.Stand Jvm.Free Jvm.Free.XT
open Jvm.Lib.Cold (StaticIs)
/-- the words of String.charAt(int), the Latin-1 road alone -/
abbrev wordsChN : List Jvm.Cond := [.code ChN.yN ChN.yB 2 (some .char), .initialized ST, .fieldLink ST 9 ST "value" "[B", .fieldLink ST 38 ST "COMPACT_STRINGS" "Z", .fieldLink ST 15 ST "coder" "B", .code IsL.yN IsL.yB 1 (some .boolean), .methodLink ST 492 IsL.yN, .declares IsL.yN, .selects ST IsL.yN IsL.yN, .instanceMethod IsL.yN,
  .methodLink ST 495 LChA.yN, .static LChA.yN, .code LChA.yN LChA.yB 2 (some .char), .initialized "java/lang/StringLatin1", .methodLink "java/lang/StringLatin1" 9 JO.Str_checkIndex.yN, .static JO.Str_checkIndex.yN, .code JO.Str_checkIndex.yN JO.Str_checkIndex.yB 2 none,
  .fieldLink ST 1053 "jdk/internal/util/Preconditions" "SIOOBE_FORMATTER" "Ljava/util/function/BiFunction;", .methodLink ST 1059 JC.PreCheck.yN, .static JC.PreCheck.yN, .code JC.PreCheck.yN JC.PreCheck.yB 3 (some .int), .initialized "jdk/internal/util/Preconditions"]
theorem tabChN_of {a : Array Value} {s : State} (h : ∀ w ∈ wordsChN, w.before a s = true) : ChN.tab.before a s = true := by
  have hp : JC.PreCheck.tab.before a s = true := unparts (wk h (.code JC.PreCheck.yN JC.PreCheck.yB 3 (some .int))) (wks h (.initialized JC.PreCheck.yN.cls :: JC.PreCheck.site))
  have qk := consq hp h
  have hk : JO.Str_checkIndex.tab.before a s = true := unparts (wk qk (.code JO.Str_checkIndex.yN JO.Str_checkIndex.yB 2 none)) (wks qk (.initialized JO.Str_checkIndex.yN.cls :: JO.Str_checkIndex.site))
  have ql := consq hk h
  have hl : LChA.tab.before a s = true := unparts (wk ql (.code LChA.yN LChA.yB 2 (some .char))) (wks ql (.initialized LChA.yN.cls :: LChA.site))
  have hi : IsL.tab.before a s = true := unparts (wk h (.code IsL.yN IsL.yB 1 (some .boolean))) (wks h (.initialized IsL.yN.cls :: IsL.site))
  have q := consq hi (consq hl h)
  exact unparts (wk q (.code ChN.yN ChN.yB 2 (some .char))) (wks q (.initialized ChN.yN.cls :: ChN.site))
theorem movedChN {Z s : State} {a0 args : Array Value} (hZ : Z.Warmed39 s.vm) (hw : ∀ d ∈ wordsChN, d.before a0 Z = true) : ∀ d ∈ wordsChN, d.before args s = true := fun d hd => by
  have t : ∀ d ∈ wordsChN, (d.onTables && d.keepsFace) = true := by decide +kernel
  exact RoadKit.mv hZ (hw d hd) (t d hd)
/-- **charAt(i) OF A LATIN-1 STRING**, i < n: the char -/
theorem chN {p : Program} {l : Launch} {e : Env} {R : Room} {s : State} {args : Array Value} {below : List Frame} {len W : Nat} {Z : State} {a0 : Array Value} {h : Heap} (hZ : Z.Warmed39 s.vm) (hw : ∀ d ∈ wordsChN, d.before a0 Z = true) {kI : Nat} (wi : (Jvm.Cond.instantiable ST kI).before a0 Z = true)
    {x t : Addr} {kb : ClassId} {cs : List Int32} {N2 z : Int32} {vs : List Value} {fm : Value} {i : Nat} {j : Int32} (E : RoadKit.Exa Z h x ST) (V : RoadKit.Fld Z h x ST "value" "[B" (.ref t)) (C : RoadKit.Fld Z h x ST "coder" "B" (.int 0)) (K : RoadKit.Arv Z h t kb .byte N2 vs (.int 0)) (hc : CodA cs 0 N2 vs) (hb : ∀ c ∈ cs, ¬ c < 0 ∧ ¬ (65535 : Int32) < c)
    (S : RoadKit.Sta Z h ST "COMPACT_STRINGS" "Z" (.int z)) (hz : ¬ z = 0) (F : RoadKit.Sta Z h "jdk/internal/util/Preconditions" "SIOOBE_FORMATTER" "Ljava/util/function/BiFunction;" fm) (rf : fm.isRef = true) (l2 : cs.length ≤ 4000) (hi : i < cs.length) (hj : j = Int32.ofNat i) (hfr : 4 ≤ R.frames) (hlo : W + 53 ≤ R.locals) :
    Back l R p e below s args (⟨"java/lang/String", "charAt", "(I)C"⟩ : MethodName) len W (fun P a => a = #[.ref x, .int j] ∧ P.U.heap = h ∧ P.cells + 0 ≤ R.cells ∧ P.slots + 0 ≤ R.slots)
      (fun P _ v B => ∃ L, (v = some (.int (cs.getD i 0)) ∧ L = [] ∧ B.U.heap = h) ∧ B.locs = P.locs ++ L ∧ B.cells = P.cells + 0 ∧ B.slots = P.slots + 0) := by
  subst hj
  intro m meth c P g ig mk a X hg hsize hdg hW hn hp'
  obtain ⟨rfl, rfl, r1, r2⟩ := hp'
  have al : Z.vm.Alike P.U.vm := hZ.alike.trans X.warmed.alike
  obtain ⟨A, hx⟩ := txt_of wi al E V C K hc hb l2
  obtain ⟨v, B, X', ⟨⟨hv, hh⟩, hl, hk, hs⟩, st⟩ := ChN.pays x t A cs.length (fun j => cs.getD j 0) z fm i (tabChN_of (movedChN hZ hw)) hfr hlo m meth c P g ig mk _ X hg hsize hdg hW hn ⟨r1, r2, rfl, hx, hi, sta_is al S, hz, sta_is al F, rf⟩
  exact ⟨v, B, X', ⟨[], ⟨hv, rfl, hh⟩, hl, hk, hs⟩, st⟩
end StrChars.Road
end Jvm.Pilot.@@N@@
namespace Jvm.Pilot.@@N@@
open Jvm Jvm.ClassFile Sem Op Lib Jvm.Free Jvm.Stand Jvm.LawKit Jvm.RoadKit Bundle Jvm.Pilot.@@N@@.Jvm.D
abbrev si (x : Int32) : Slot := .val (.int x)
abbrev sr (x : Addr) : Slot := .val (.ref x)
theorem ww {a0 : Array Value} {Z : State} {d : Jvm.Cond} (hw : ∀ d ∈ tables_1, d.before a0 Z = true) (i : Nat) (h : tables_1[i]? = some d) : d.before a0 Z = true := hw _ (List.mem_of_getElem? h)
theorem mr0 {a b : Nat} (h : a = b) : a ≤ b := Nat.le_of_eq h
section Own
variable {p : Program} {l : Launch} {e : Env} {R : Room} {s : State} {m : MethodId} {args : Array Value} {below : List Frame} {meth : Method} {c : Code} {T : State} {locs : List Loc} {cells slots : Nat} {Z : State} {a0 : Array Value} {h : Heap}
/-- from S the run comes to an end that P speaks of -/
def Goes (tb : Tables) (e : Env) (below : List Frame) (P : State → Outcome → Prop) (S : State) : Prop := ∃ s₂ o, Steps tb e below S s₂ ∧ P s₂ o
theorem go {tb : Tables} {P : State → Outcome → Prop} {S S' : State} (st : ∀ t, Steps tb e below S' t → Steps tb e below S t) (h : Goes tb e below P S') : Goes tb e below P S := by
  obtain ⟨s₂, o, h1, h2⟩ := h
  exact ⟨s₂, o, st _ h1, h2⟩
/-- from S the run comes to the frame F, in a state that P speaks of -/
def Reach (tb : Tables) (e : Env) (below : List Frame) (F : JFrame) (P : State → Prop) (S : State) : Prop := ∃ T', P T' ∧ ∀ t, Steps tb e below (T'.setTop F) t → Steps tb e below S t
theorem goR {tb : Tables} {F : JFrame} {P : State → Prop} {S S' : State} (st : ∀ t, Steps tb e below S' t → Steps tb e below S t) (h : Reach tb e below F P S') : Reach tb e below F P S := by
  obtain ⟨T', h1, h2⟩ := h
  exact ⟨T', h1, fun t k => st t (h2 t k)⟩
def Same (X : Stand p l e R s m args below meth c T locs cells slots) (n0 : Nat) (h : Heap) : State → Prop := fun T' => ∃ locs', Stand p l e R s m args below meth c T' locs' cells slots ∧ Fr n0 locs' ∧ T'.heap = h
/-- the end of a body: it returned, and Q holds of the value, the heap, the written places -/
def EndP (s : State) (below : List Frame) (Q : Option Value → Heap → List Loc → Prop) (kc ks : Nat) (s₂ : State) (o : Outcome) : Prop :=
  s₂.status = .running ∧ Ended s₂ below o ∧ ∃ v L, o = .returned v ∧ Q v s₂.heap L ∧ FrameEnd s o s₂ L kc ks
variable {Q : Option Value → Heap → List Loc → Prop} {kc ks : Nat}
theorem finG {g : JFrame} (X : Stand p l e R s m args below meth c T locs cells slots) (hk : meth.locks = false) (v : Option Value) (hv : meth.sig.returnType = none → v = none)
    (st : ∀ fs, (∀ (f : JFrame) (acts : List Action), f.method = m → f.locked = none → f.entered = [] → (doReturn e (T.setTop f) acts v).1 = T.setFrames fs) → Steps p.tables e below (T.setTop g) (T.setFrames fs))
    (hc : cells ≤ kc) (hs : slots ≤ ks) (hQ : Q v T.heap locs) : Goes p.tables e below (EndP s below Q kc ks) (T.setTop g) := by
  obtain ⟨fs, hr, hrun, hended, hW, hsame⟩ := X.leave (v := v) hv hk
  exact ⟨_, _, st fs hr, hrun, hended, v, locs, rfl, hQ, ⟨_, rfl⟩, hW, hsame.mono hc hs⟩
theorem finV (X : Stand p l e R s m args below meth c T locs cells slots) (hx : p.tables.exec = Jvm.exec) (hk : meth.locks = false) (hret : meth.sig.returnType = none) {pc : Nat} {Ls : Array Slot} (hd : decode c.code pc = .ok (.return_, 1)) (hc : cells ≤ kc) (hs : slots ≤ ks) (hQ : Q none T.heap locs) :
    Goes p.tables e below (EndP s below Q kc ks) (T.setTop (mkF m pc Ls [])) := finG X hk none (fun _ => rfl) (fun _ hr => X.returnOut hx hret hd hr) hc hs hQ
theorem finI (X : Stand p l e R s m args below meth c T locs cells slots) (hx : p.tables.exec = Jvm.exec) (hk : meth.locks = false) (hret : meth.sig.returnType = some .int) {pc : Nat} {Ls : Array Slot} {z : Int32} {rest : List Value} (hd : decode c.code pc = .ok (.ireturn, 1)) (hc : cells ≤ kc) (hs : slots ≤ ks) (hQ : Q (some (.int z)) T.heap locs) :
    Goes p.tables e below (EndP s below Q kc ks) (T.setTop (mkF m pc Ls (.int z :: rest))) := finG X hk _ (fun q => by rw [hret] at q; cases q) (fun _ hr => retI X hx hret hd hr) hc hs hQ
theorem finN (X : Stand p l e R s m args below meth c T locs cells slots) (hx : p.tables.exec = Jvm.exec) (hk : meth.locks = false) {t : FieldType} (hret : meth.sig.returnType = some t) (ht : t = .boolean ∨ t = .byte ∨ t = .char ∨ t = .short) {pc : Nat} {Ls : Array Slot} {z : Int32} {rest : List Value} (hd : decode c.code pc = .ok (.ireturn, 1)) (hc : cells ≤ kc) (hs : slots ≤ ks) (hQ : Q (some (.int (nar t z))) T.heap locs) :
    Goes p.tables e below (EndP s below Q kc ks) (T.setTop (mkF m pc Ls (.int z :: rest))) := finG X hk _ (fun q => by rw [hret] at q; cases q) (fun _ hr => retN X hx hret ht hd hr) hc hs hQ
theorem finR (X : Stand p l e R s m args below meth c T locs cells slots) (hx : p.tables.exec = Jvm.exec) (hk : meth.locks = false) {t : FieldType} (hret : meth.sig.returnType = some t) (ht : t.isReference = true) {w : Value} (hw : w.isRef = true) {pc : Nat} {Ls : Array Slot} (hd : decode c.code pc = .ok (.areturn, 1)) (hc : cells ≤ kc) (hs : slots ≤ ks) (hQ : Q (some w) T.heap locs) :
    Goes p.tables e below (EndP s below Q kc ks) (T.setTop (mkF m pc Ls [w])) := finG X hk _ (fun q => by rw [hret] at q; cases q) (fun _ hr => X.areturnOut hx hw hret ht hd hr) hc hs hQ
theorem finJ (X : Stand p l e R s m args below meth c T locs cells slots) (hx : p.tables.exec = Jvm.exec) (hk : meth.locks = false) (hret : meth.sig.returnType = some .long) {pc : Nat} {Ls : Array Slot} {z : Int64} (hd : decode c.code pc = .ok (.lreturn, 1)) (hc : cells ≤ kc) (hs : slots ≤ ks) (hQ : Q (some (.long z)) T.heap locs) :
    Goes p.tables e below (EndP s below Q kc ks) (T.setTop (mkF m pc Ls [.long z])) := finG X hk _ (fun q => by rw [hret] at q; cases q) (fun _ hr => X.lreturnOut hx hret hd hr) hc hs hQ
theorem bodyOf {y : MethodName} {bytes : ByteArray} {maxL : Nat} {ret : Option FieldType} {ws : List Jvm.Cond} {rm : Room} {as' : Array Value} {Ls : Array Slot} {h0 : Heap}
    (pn : plainFor y = true) (ef : ∀ m, entryFrame m as' maxL = mkF m 0 Ls [])
    (body : ∀ (p : Program) (e : Env) (s : State) (m : MethodId) (below : List Frame) (meth : Method) (c : Code) (T : State), Stand p l e rm s m as' below meth c T [] 0 0 → p.tables.exec = Jvm.exec → c.code = bytes → c.maxLocals = maxL →
      s.vm.findClass y.cls = some m.cls → meth.name = y.name → meth.sig.returnType = ret → meth.locks = false → Z.Warmed39 s.vm → T.heap = h0 → Goes p.tables e below (EndP s below Q rm.cells rm.slots) (T.setTop (mkF m 0 Ls []))) :
    MetFree l y (head1 (Jvm.Cond.code y bytes maxL ret :: ws) rm) (fun a U => a = as' ∧ Z.Warmed39 U.vm ∧ U.heap = h0) (fun _ _ _ _ _ => True) (fun _ U o U' => ∃ v L, o = .returned v ∧ Q v U'.heap L ∧ FrameEnd U o U' L rm.cells rm.slots) := by
  refine MetFree.of_bodySF pn hisR ?_
  intro p e s m args below meth c s₁ Bd hml0 hP hK
  obtain ⟨rfl, hZ, hh⟩ := hP
  have e0 : s₁.heap = h0 := by rw [← hh, Bd.state]; rfl
  obtain ⟨s₂, o, st, hrun, hend, hq⟩ := body p e s m below meth c s₁ (Stand.of_body Bd) Bd.exec Bd.bytes hml0 (findClass_of_methodNamed Bd.named) (name_of_methodNamed Bd.named Bd.method).1 Bd.returns Bd.notSynchronized hZ e0
  exact ⟨s₂, o, castTop (ef m) st, hrun, hend, hq⟩
variable {y z : MethodName} {own C : String} {index W len : Nat} {bytes : ByteArray} {maxL : Nat} {ret : Option FieldType} {as' : Array Value} {argsL rest : List Value} {g : JFrame}
theorem callSt (X : Stand p l e R s m args below meth c T locs cells slots) (hx : p.tables.exec = Jvm.exec) (hZ : Z.Warmed39 s.vm) (hown : s.vm.findClass own = some m.cls)
    (w1 : (Jvm.Cond.methodLink own index y).before a0 Z = true) (w2 : (Jvm.Cond.static y).before a0 Z = true) (w3 : (Jvm.Cond.initialized y.cls).before a0 Z = true) (w4 : (Jvm.Cond.code y bytes maxL ret).before a0 Z = true)
    (hy : y.cls ≠ "java/lang/invoke/MethodHandle" ∧ y.cls ≠ "java/lang/invoke/VarHandle")
    (hB : Back l R p e below s args y 3 W (fun A a => a = argsL.toArray ∧ A.U.heap = h ∧ A.cells + kc ≤ R.cells ∧ A.slots + ks ≤ R.slots) (fun A _ v B => ∃ L, Q v B.U.heap L ∧ B.locs = A.locs ++ L ∧ B.cells = A.cells + kc ∧ B.slots = A.slots + ks))
    (hg : g.method = m) (hsize : g.locals.size = c.maxLocals) (hlen : ∀ sig, parseMethodDescriptor y.desc = some sig → argsL.length = sig.parameters.length) (hstack : g.stack = argsL.reverse ++ rest) (hW : 2 * g.monitorRoom + (rest.map fun v => v.category).sum ≤ W)
    (hd : decode c.code g.pc = .ok (.invokestatic index, 3)) (eT : T.heap = h) (hc : cells + kc ≤ R.cells) (hs : slots + ks ≤ R.slots) :
    ∃ v T' L, Stand p l e R s m args below meth c T' (locs ++ L) (cells + kc) (slots + ks) ∧ Q v T'.heap L ∧ ∀ t, Steps p.tables e below (T'.setTop { g with pc := g.pc + 3, stack := v.toList ++ rest }) t → Steps p.tables e below (T.setTop g) t := by
  obtain ⟨v, _, ⟨T1, L1, k1, n1⟩, -, X1, ⟨L, hQ, hl, hk, hn⟩, st⟩ := Jvm.LawKit.callS X hx hown (mvT hZ w1) (mvT hZ w2) (mvT hZ w3) (mvT hZ w4) hy hB hg hsize hlen hstack hW hd (fun _ _ => ⟨rfl, eT, hc, hs⟩)
  dsimp only [Pt.U, Pt.locs, Pt.cells, Pt.slots] at X1 hl hk hn st hQ
  subst hl hk hn
  exact ⟨v, T1, L, X1, hQ, st⟩
theorem callSp {a : Addr} (X : Stand p l e R s m args below meth c T locs cells slots) (hx : p.tables.exec = Jvm.exec) (hZ : Z.Warmed39 s.vm) (hy1 : y.name = "<init>") (hown : s.vm.findClass own = some m.cls)
    (w1 : (Jvm.Cond.methodLink own index y).before a0 Z = true) (w2 : (Jvm.Cond.instanceMethod y).before a0 Z = true) (w4 : (Jvm.Cond.code y bytes maxL none).before a0 Z = true)
    (hy : y.cls ≠ "java/lang/invoke/MethodHandle" ∧ y.cls ≠ "java/lang/invoke/VarHandle")
    (hB : Back l R p e below s args y 3 W (fun A b => b = (Value.ref a :: argsL).toArray ∧ A.U.heap = h ∧ A.cells + kc ≤ R.cells ∧ A.slots + ks ≤ R.slots) (fun A _ v B => ∃ L, Q v B.U.heap L ∧ B.locs = A.locs ++ L ∧ B.cells = A.cells + kc ∧ B.slots = A.slots + ks))
    (hg : g.method = m) (hsize : g.locals.size = c.maxLocals) (hlen : ∀ sig, parseMethodDescriptor y.desc = some sig → argsL.length = sig.parameters.length) (hstack : g.stack = argsL.reverse ++ .ref a :: rest) (hW : 2 * g.monitorRoom + (rest.map fun v => v.category).sum ≤ W)
    (hd : decode c.code g.pc = .ok (.invokespecial index, 3)) (eT : T.heap = h) (hc : cells + kc ≤ R.cells) (hs : slots + ks ≤ R.slots) :
    ∃ v T' L, Stand p l e R s m args below meth c T' (locs ++ L) (cells + kc) (slots + ks) ∧ Q v T'.heap L ∧ ∀ t, Steps p.tables e below (T'.setTop { g with pc := g.pc + 3, stack := v.toList ++ rest }) t → Steps p.tables e below (T.setTop g) t := by
  obtain ⟨v, _, ⟨T1, L1, k1, n1⟩, -, X1, ⟨L, hQ, hl, hk, hn⟩, st⟩ := X.specialBack hx hy1 hown (mvT hZ w1) (mvT hZ w2) (mvT hZ w4) hy hB hg hsize (Steps.refl _) hlen hstack hW hd (fun _ _ => ⟨rfl, eT, hc, hs⟩)
  dsimp only [Pt.U, Pt.locs, Pt.cells, Pt.slots] at X1 hl hk hn st hQ
  subst hl hk hn
  exact ⟨v, T1, L, X1, hQ, fun t k => st.trans k⟩
theorem callV {a : Addr} (X : Stand p l e R s m args below meth c T locs cells slots) (hx : p.tables.exec = Jvm.exec) (hZ : Z.Warmed39 s.vm) (hown : s.vm.findClass own = some m.cls)
    (w1 : (Jvm.Cond.methodLink own index y).before a0 Z = true) (w2 : (Jvm.Cond.declares y).before a0 Z = true) (nf : NotFace s y) (w3 : (Jvm.Cond.selects C y z).before a0 Z = true) (w4 : (Jvm.Cond.instanceMethod z).before a0 Z = true)
    (hy : y.cls ≠ "java/lang/invoke/MethodHandle" ∧ y.cls ≠ "java/lang/invoke/VarHandle")
    (hB : Back l R p e below s args z 3 W (fun A b => b = (Value.ref a :: argsL).toArray ∧ A.U.heap = h ∧ A.cells + kc ≤ R.cells ∧ A.slots + ks ≤ R.slots) (fun A _ v B => ∃ L, Q v B.U.heap L ∧ B.locs = A.locs ++ L ∧ B.cells = A.cells + kc ∧ B.slots = A.slots + ks))
    (E : Exa Z h a C) (hg : g.method = m) (hsize : g.locals.size = c.maxLocals) (hlen : ∀ sig, parseMethodDescriptor y.desc = some sig → argsL.length = sig.parameters.length) (hstack : g.stack = argsL.reverse ++ .ref a :: rest) (hW : 2 * g.monitorRoom + (rest.map fun v => v.category).sum ≤ W)
    (hd : decode c.code g.pc = .ok (.invokevirtual index, 3)) (eT : T.heap = h) (hc : cells + kc ≤ R.cells) (hs : slots + ks ≤ R.slots) :
    ∃ v T' L, Stand p l e R s m args below meth c T' (locs ++ L) (cells + kc) (slots + ks) ∧ Q v T'.heap L ∧ ∀ t, Steps p.tables e below (T'.setTop { g with pc := g.pc + 3, stack := v.toList ++ rest }) t → Steps p.tables e below (T.setTop g) t := by
  obtain ⟨cq, kq, qa, qb, qc⟩ := isOf hZ eT E
  obtain ⟨v, _, ⟨T1, L1, k1, n1⟩, -, X1, ⟨L, hQ, hl, hk, hn⟩, st⟩ := X.virtualBack hx hown (mvT hZ w1) (mvT hZ w2) nf (mvT hZ w3) (mvT hZ w4) hy hB qa qc hg hsize (Steps.refl _) hlen hstack hW hd (fun _ _ => ⟨rfl, eT, hc, hs⟩)
  dsimp only [Pt.U, Pt.locs, Pt.cells, Pt.slots] at X1 hl hk hn st hQ
  subst hl hk hn
  exact ⟨v, T1, L, X1, hQ, fun t k => st.trans k⟩
theorem nsRoot {O K : String} {n : Nat} (w : (Jvm.Cond.noSuperclass O).before a0 Z = true) (wk : (Jvm.Cond.instantiable K n).before a0 Z = true) (hn : O ≠ K) : NS Z O K := by
  obtain ⟨c, k, h1, h2, h3, -, -⟩ := Cond.noSuperclass_spec w
  obtain ⟨t, kt, g1, -⟩ := Cond.instantiable_spec wk
  have ne := ids_ne h1 g1 hn
  refine ⟨c, t, h1, g1, fun fuel => ?_⟩
  cases fuel with
  | zero => rfl
  | succ f => simp [Vm.isSubclassAux, ne, h2, h3]
theorem nsNo {C S K : String} {n : Nat} (w : (Jvm.Cond.superclass C S).before a0 Z = true) (wk : (Jvm.Cond.instantiable K n).before a0 Z = true) (n : NS Z C K) (hn : C ≠ K) : ∃ c t, Z.vm.findClass C = some c ∧ Z.vm.findClass K = some t ∧ Z.vm.assignable c t = false := by
  obtain ⟨c, t, h0, g0, n3⟩ := n
  obtain ⟨p, k, kp, h1, h2, h3, h4, h5, -, h7⟩ := Cond.superclass_spec h0 w
  obtain ⟨t', kt, g1, g2, g3, g4, -⟩ := Cond.instantiable_spec wk
  cases g0.symm.trans g1
  have g7 : kt.isInterface = false := (Bool.or_eq_false_iff.mp g4).1
  have ne := ids_ne h0 g0 hn
  refine ⟨c, t, h0, g0, ?_⟩
  show Z.vm.assignableAux (255 + 1) c t = false
  simp [Vm.assignableAux, ne, h2, g2, h5, g3, g7, Vm.isSubclass, n3]
theorem lsw {tb : Tables} [Ours tb] {target : State} {g : JFrame} (h : At T m c below) (hx : tb.exec = Jvm.exec) (hg : g.method = m) {dflt : Int} {pairs : Array (Int × Int)} {len : Nat} {pc0 pc' : Nat} (hpc : g.pc = pc0) (hd : decode c.code g.pc = .ok (.lookupswitch dflt pairs, len)) {i : Int32} {rest : List Value} (hs : g.stack = .int i :: rest)
    (hsrt : (pairs.toList.zip pairs.toList.tail).all (fun z => decide (z.1.1 < z.2.1)) = true) (ho : 0 ≤ (pc0 : Int) + lookupswitch.offset pairs.toList dflt i.toInt) (hp : ((pc0 : Int) + lookupswitch.offset pairs.toList dflt i.toInt).toNat = pc') (hr : Steps tb e below (T.setTop { g with pc := pc', stack := rest }) target) : Steps tb e below (T.setTop g) target := by
  subst hg hpc hp
  jvm_step h [h.top, hx, hd, hs, ho, lookupswitch.wp_chain]
  exact ⟨fun a b a1 b1 q => of_decide_eq_true (List.all_eq_true.mp hsrt _ q), hr⟩
theorem eqInt_v {t : Term} {n : Int32} (h : (Jvm.Cond.eq t (.int n)).value args s none s [] = some true) : t.eval args s none [] s = some (.int n) := by
  obtain ⟨x, y, hx, hy, k1, -⟩ := cmp_v (Or.inl h)
  have hy' : (Term.int n).eval args s none [] s = some (.int n) := Term.int_eval n
  have e : y = .int n := Option.some.inj (hy.symm.trans hy')
  subst e
  cases x <;> simp [Kin, Value.isRef] at k1
  rw [gotT (Cond.eq_ints hx hy') h] at hx
  exact hx
theorem putC (X : Stand p l e R s m args below meth c T locs cells slots) (hx : p.tables.exec = Jvm.exec) (hZ : Z.Warmed39 s.vm) (eT : T.heap = h) {b : Addr} {kB : ClassId} {nB : Int32} {vB : List Value} {dB : Value} (B : Arv Z h b kB .char nB vB dB) {j x : Int32} {i : Nat} (hn : nar .char x = x) (hj : ¬ j < 0 ∧ j < nB) (hi : j.toNatClampNeg = i) (hl : i < vB.length) (hg : g.method = m) (hs : g.stack = .int x :: .int j :: .ref b :: rest) (hd : decode c.code g.pc = .ok (.castore, 1)) :
    ∃ T' h', Stand p l e R s m args below meth c T' (locs ++ [⟨b, j.toNatClampNeg⟩]) cells slots ∧ T'.heap = h' ∧ Wr h h' b j.toNatClampNeg (.int x) ∧ Arv Z h' b kB .char nB (vB.set i (.int x)) dB ∧ ∀ t, Steps p.tables e below (T'.setTop { g with pc := g.pc + 1, stack := rest }) t → Steps p.tables e below (T.setTop g) t := by
  obtain ⟨cl, A, q1, S1, M1, H1, G1⟩ := B
  obtain ⟨T', h', X', e', W, st⟩ := stC X hx hZ eT A (inb_of S1 hj) hg hs hd
  rw [hn] at W
  exact ⟨T', h', X', e', W, Arv.set A q1 S1 M1 H1 G1 (by rw [← hn]; exact fits_nar_char _) W i hi hl, st⟩
theorem getC (X : Stand p l e R s m args below meth c T locs cells slots) (hx : p.tables.exec = Jvm.exec) (hZ : Z.Warmed39 s.vm) (eT : T.heap = h) {b : Addr} {kB : ClassId} {nB : Int32} {vB : List Value} {dB v : Value} (B : Arv Z h b kB .char nB vB dB) {j : Int32} (hj : ¬ j < 0 ∧ j < nB) (hv : vB.getD j.toNatClampNeg dB = v) (hg : g.method = m) (hs : g.stack = .int j :: .ref b :: rest) (hd : decode c.code g.pc = .ok (.caload, 1)) {t : State} (hr : Steps p.tables e below (T.setTop { g with pc := g.pc + 1, stack := v :: rest }) t) : Steps p.tables e below (T.setTop g) t := by
  obtain ⟨cl, A, q1, S1, M1, H1, G1⟩ := B
  have hin := inb_of S1 hj
  exact X.caload hx (j := j) (v := v) (by rw [eT]; exact A.1) (State.isArrayOf_alike hZ.alike A.2.1) A.2.2 hin (Has.at H1 hin hv) hg hs hd _ hr
theorem narc (x : Int32) : nar .char x.toUInt32.toUInt16.toUInt32.toInt32 = x.toUInt32.toUInt16.toUInt32.toInt32 := by
  have h1 := c_i2c x
  have h2 := c_i2c x.toUInt32.toUInt16.toUInt32.toInt32
  apply Int32.toInt_inj.mp
  show (x.toUInt32.toUInt16.toUInt32.toInt32).toUInt32.toUInt16.toUInt32.toInt32.toInt = _
  omega
end Own
end Jvm.Pilot.@@N@@
namespace Jvm.Pilot.@@N@@
open Jvm Jvm.ClassFile Sem Op Lib Jvm.Free Jvm.Stand Jvm.LawKit Jvm.RoadKit Bundle Jvm.Pilot.@@N@@.Jvm.D
theorem allI {P : Int32 → Prop} {y : Int32} {L : List Int32} (q : P y) (r : ∀ x ∈ L, P x) : ∀ x ∈ y :: L, P x := fun x z => (List.mem_cons.mp z).elim (fun u => u ▸ q) (r x)
theorem own_sub {L : List Jvm.Cond} {a0 : Array Value} {Z : State} (hs : ∀ d ∈ L, d ∈ tables_1) (hw : ∀ d ∈ tables_1, d.before a0 Z = true) : ∀ d ∈ L, d.before a0 Z = true := fun d hd => hw d (hs d hd)

end Jvm.Pilot.@@N@@
namespace Jvm.Pilot.@@N@@
open Jvm Jvm.ClassFile Sem Op Lib Jvm.Free Jvm.Stand Jvm.LawKit Jvm.RoadKit Bundle Jvm.Pilot.@@N@@.Jvm.D
/-- x is a String whose bytes, at t, spell the chars cs by the coder cd -/
def Str (Z : State) (h : Heap) (x t : Addr) (cd : Int32) (cs : List Int32) : Prop := ∃ (kb : ClassId) (N2 : Int32) (vs : List Value), Exa Z h x "java/lang/String" ∧ Fld Z h x "java/lang/String" "value" "[B" (.ref t) ∧ Fld Z h x "java/lang/String" "coder" "B" (.int cd) ∧ Arv Z h t kb .byte N2 vs (.int 0) ∧ StrChars.Road.CodA cs cd N2 vs ∧ (∀ c ∈ cs, ¬ c < 0 ∧ ¬ (65535 : Int32) < c) ∧ cs.length ≤ 4000
theorem own_codOf {cs : List Int32} {n : Nat} (hn : cs.length = n) (hb : ∀ c ∈ cs, ¬ (255 : Int32) < c) : StrChars.Road.CodA cs 0 (Int32.ofNat n) ((cs.map StrChars.lo8).map Value.int) := Or.inl ⟨rfl, by rw [hn], by simp [List.map_map, Function.comp_def], hb⟩
section StrF
variable {Z : State} {h h' : Heap} {x t a : Addr} {cd : Int32} {cs : List Int32} {sl : Nat} {v : Value} {ws : List Addr}
theorem Str.exa (F : Str Z h x t cd cs) : Exa Z h x "java/lang/String" := by obtain ⟨_, _, _, q, -⟩ := F; exact q
theorem Str.val (F : Str Z h x t cd cs) : Fld Z h x "java/lang/String" "value" "[B" (.ref t) := by obtain ⟨_, _, _, -, q, -⟩ := F; exact q
theorem Str.cod (F : Str Z h x t cd cs) : Fld Z h x "java/lang/String" "coder" "B" (.int cd) := by obtain ⟨_, _, _, -, -, q, -⟩ := F; exact q
theorem Str.lt1 (F : Str Z h x t cd cs) : x < h.size := F.exa.lt
theorem Str.lt2 (F : Str Z h x t cd cs) : t < h.size := by obtain ⟨_, _, _, -, -, -, q, -⟩ := F; exact q.lt
theorem Str.ext (F : Str Z h x t cd cs) (E : Ext h h') : Str Z h' x t cd cs := by obtain ⟨k, n, vs, a1, a2, a3, a4, r⟩ := F; exact ⟨k, n, vs, a1.ext E, a2.ext E, a3.ext E, a4.ext E, r⟩
theorem Str.keep (F : Str Z h x t cd cs) (K : Keep h h' ws) (q1 : x ∉ ws) (q2 : t ∉ ws) : Str Z h' x t cd cs := by obtain ⟨k, n, vs, a1, a2, a3, a4, r⟩ := F; exact ⟨k, n, vs, a1.keep K, a2.keep K q1, a3.keep K q1, a4.keep K q2, r⟩
theorem Str.wr (F : Str Z h x t cd cs) (W : Wr h h' a sl v) (q1 : x ≠ a) (q2 : t ≠ a) : Str Z h' x t cd cs := by obtain ⟨k, n, vs, a1, a2, a3, a4, r⟩ := F; exact ⟨k, n, vs, a1.wr W, Fld.other W a2 (Or.inl q1), Fld.other W a3 (Or.inl q1), a4.other W q2, r⟩
theorem Str.ne1 {b : Addr} {C : String} (F : Str Z h x t cd cs) (E : Exa Z h b C) (hC : "java/lang/String" ≠ C) : x ≠ b := F.exa.ne E hC
theorem Str.ne2 {b : Addr} {C : String} {n : Nat} {a0 : Array Value} (F : Str Z h x t cd cs) (E : Exa Z h b C) (w : (Jvm.Cond.instantiable C n).before a0 Z = true) : t ≠ b := by obtain ⟨_, _, _, -, -, -, q, -⟩ := F; exact Ne.symm (E.neArv q w)
end StrF
theorem oj_lt {i n : Nat} (h : i < n) (hn : n ≤ 8000) : Int32.ofNat i < Int32.ofNat n := (Int32.ofNat_lt_ofNat (by omega) (by omega)).mpr h
theorem oj_nlt {i n : Nat} (h : ¬ i < n) (hi : i ≤ 8000) (hn : n ≤ 8000) : ¬ Int32.ofNat i < Int32.ofNat n := fun q => h ((Int32.ofNat_lt_ofNat (by omega) (by omega)).mp q)
theorem oj_nn {n : Nat} (hn : n ≤ 8000) : ¬ Int32.ofNat n < 0 := Int32.ofNat_not_neg (by omega)
theorem oj_n {n : Nat} (hn : n ≤ 8000) : (Int32.ofNat n).toNatClampNeg = n := by
  rw [Int32.toNatClampNeg, Int32.toInt_ofNat_of_lt (by omega)]; rfl
theorem oj_inj {i n : Nat} (hi : i ≤ 8000) (hn : n ≤ 8000) (h : Int32.ofNat i = Int32.ofNat n) : i = n := by
  have := congrArg Int32.toNatClampNeg h
  rwa [oj_n hi, oj_n hn] at this
theorem oj_one (i : Nat) : Int32.ofNat i + (1 : Int32) = Int32.ofNat (i + 1) := (Int32.ofNat_add i 1).symm
theorem oj_in {c : Cell} {n i : Nat} {z : Int32} (S : c.slots.size = z.toNatClampNeg) (hz : z = Int32.ofNat n) (h : i < n) (hn : n ≤ 8000) : ¬ (Int32.ofNat i < 0 ∨ c.slots.size ≤ (Int32.ofNat i).toNatClampNeg) := by
  rw [S, hz, oj_n hn, oj_n (by omega)]
  exact fun q => q.elim (oj_nn (by omega)) (by omega)
theorem oj_dbl {n : Nat} (hn : n ≤ 4000) : (Int32.ofNat n) <<< ((1 : Int32) &&& 31) = Int32.ofNat (2 * n) := by
  have q := c_ishl (Int32.ofNat n) 1 1 (by decide)
  rw [Int32.toInt_ofNat_of_lt (by omega)] at q
  apply Int32.toInt_inj.mp
  rw [Int32.toInt_ofNat_of_lt (by omega)]
  have r := rng32 (Int32.ofNat n <<< ((1 : Int32) &&& 31))
  omega
theorem oj_half {n : Nat} (hn : n ≤ 4000) : (Int32.ofNat (2 * n)) >>> ((1 : Int32) &&& 31) = Int32.ofNat n := by
  have q := c_ishr (Int32.ofNat (2 * n)) 1 1 (by decide)
  rw [Int32.toInt_ofNat_of_lt (by omega)] at q
  apply Int32.toInt_inj.mp
  rw [Int32.toInt_ofNat_of_lt (by omega), q]
  omega
theorem oj_get (cs : List Int32) {i : Nat} (h : i < cs.length) (d : Value) : (cs.map Value.int).getD i d = .int (cs.getD i 0) := by
  simp [List.getD_eq_getElem?_getD, h]
theorem oj_take (cs : List Int32) {i : Nat} (h : i < cs.length) (f : Int32 → Value) : (cs.take i).map f ++ [f (cs.getD i 0)] = (cs.take (i + 1)).map f := by
  rw [List.take_add_one, List.map_append, List.getD_eq_getElem?_getD, List.getElem?_eq_getElem h]; rfl
theorem oj_narb (x : Int32) : nar .byte (x.toInt8.toInt32) = x.toInt8.toInt32 := by simp [nar]
theorem oj_shr0 (c : Int32) : c >>> ((0 : Int32) &&& 31) = c := by
  have q := c_ishr c 0 0 (by decide)
  apply Int32.toInt_inj.mp
  first | omega | (rw [q]; simp)
theorem oj_bb (x : Int32) : x.toInt8.toInt32.toInt8.toInt32 = x.toInt8.toInt32 := by simp
theorem arvSnoc {Z : State} {h h' : Heap} {a : Addr} {k : ClassId} {ty : FieldType} {z j : Int32} {vs : List Value} {dv v : Value} {c : Cell} (A : Arr Z h a c ty) (q1 : c.cls = k) (S : c.slots.size = z.toNatClampNeg) (q3 : ¬ z < 0) (H : Has c vs dv) (G : ∀ i, i < c.slots.size → fits ty (vs.getD i dv) = true) (hv : fits ty v = true) (W : Wr h h' a j.toNatClampNeg v) (hj : j.toNatClampNeg = vs.length) : Arv Z h' a k ty z (vs ++ [v]) dv := by
  have H' : Has c (vs ++ [dv]) dv := fun i hi => by rw [show [dv] = List.replicate 1 dv from rfl, pad_rep vs dv 1 i]; exact H i hi
  have G' : ∀ i, i < c.slots.size → fits ty ((vs ++ [dv]).getD i dv) = true := fun i hi => by rw [show [dv] = List.replicate 1 dv from rfl, pad_rep vs dv 1 i]; exact G i hi
  have q := Arv.set A q1 S q3 H' G' hv W vs.length hj (by simp)
  have e : (vs ++ [dv]).set vs.length v = vs ++ [v] := by simp
  rwa [e] at q
/-- how many chars ahead of the first above 255 -/
def own_k : List Int32 → Nat
  | [] => 0
  | c :: r => if (255 : Int32) < c then 0 else own_k r + 1
theorem own_k_at : ∀ (cs : List Int32) (i : Nat), (∀ j, j < i → ¬ (255 : Int32) < cs.getD j 0) → i < cs.length → (255 : Int32) < cs.getD i 0 → own_k cs = i
  | [], _, _, h, _ => absurd h (Nat.not_lt_zero _)
  | c :: r, 0, _, _, hc => by simp only [own_k]; exact if_pos hc
  | c :: r, i + 1, hb, h, hc => by
    have h0 : ¬ (255 : Int32) < c := hb 0 (Nat.succ_pos _)
    simp only [own_k, if_neg h0]
    rw [own_k_at r i (fun j hj => hb (j + 1) (by omega)) (by simpa using h) hc]
theorem own_k_all : ∀ (cs : List Int32), (∀ j, j < cs.length → ¬ (255 : Int32) < cs.getD j 0) → own_k cs = cs.length
  | [], _ => rfl
  | c :: r, hb => by
    have h0 : ¬ (255 : Int32) < c := hb 0 (Nat.succ_pos _)
    simp only [own_k, if_neg h0]
    rw [own_k_all r fun j hj => hb (j + 1) (by simpa using hj)]; rfl
theorem own_k_le : ∀ cs : List Int32, own_k cs ≤ cs.length
  | [] => Nat.le_refl _
  | c :: r => by
    simp only [own_k]
    split
    · exact Nat.zero_le _
    · exact Nat.succ_le_succ (own_k_le r)
theorem own_k_hi : ∀ cs : List Int32, own_k cs ≠ cs.length → own_k cs < cs.length ∧ (255 : Int32) < cs.getD (own_k cs) 0
  | [], h => absurd rfl h
  | c :: r, h => by
    by_cases q : (255 : Int32) < c
    · simp only [own_k, if_pos q]; exact ⟨Nat.succ_pos _, q⟩
    · simp only [own_k, if_neg q] at h ⊢
      obtain ⟨h1, h2⟩ := own_k_hi r fun e => h (congrArg (· + 1) e)
      exact ⟨Nat.succ_lt_succ h1, h2⟩
theorem own_k_lo (cs : List Int32) (h : own_k cs = cs.length) : ∀ c ∈ cs, ¬ (255 : Int32) < c := by
  induction cs with
  | nil => exact fun _ q => nomatch q
  | cons c r ih =>
    by_cases q : (255 : Int32) < c
    · simp only [own_k, if_pos q] at h; exact absurd h (Nat.succ_ne_zero _).symm
    · simp only [own_k, if_neg q] at h
      intro x hx
      rcases List.mem_cons.mp hx with rfl | hx
      · exact q
      · exact ih (Nat.succ.inj h) x hx
theorem oj_mem {cs : List Int32} {i : Nat} (h : i < cs.length) : cs.getD i 0 ∈ cs := by
  rw [List.getD_eq_getElem?_getD, List.getElem?_eq_getElem h]; exact List.getElem_mem h
theorem wide_len : ∀ cs : List Int32, (StrChars.Road.wideBytes cs).length = 2 * cs.length
  | [] => rfl
  | c :: r => by simp only [StrChars.Road.wideBytes, List.length_cons, wide_len r]; omega
theorem wide_snoc : ∀ (cs : List Int32) (c : Int32), StrChars.Road.wideBytes (cs ++ [c]) = StrChars.Road.wideBytes cs ++ [.int (StrChars.lo8 c)] ++ [.int (StrChars.hi8 c)]
  | [], _ => rfl
  | d :: r, c => by simp only [List.cons_append, StrChars.Road.wideBytes, wide_snoc r c]
theorem oj_take1 (cs : List Int32) {i : Nat} (h : i < cs.length) : cs.take i ++ [cs.getD i 0] = cs.take (i + 1) := by
  rw [List.take_add_one, List.getD_eq_getElem?_getD, List.getElem?_eq_getElem h]; rfl
theorem oj_cod0 {n : Nat} (h : n ≤ 4000) : nar .byte ((((Int32.ofNat n - Int32.ofNat n).toUInt32 >>> ((31 : Int32) &&& 31).toUInt32).toInt32).toInt8.toInt32) = 0 := by
  rw [Int32.sub_self]; decide
theorem oj_cod1 {n : Nat} (h0 : 0 < n) (h : n ≤ 4000) : nar .byte ((((Int32.ofNat n - Int32.ofNat (2 * n)).toUInt32 >>> ((31 : Int32) &&& 31).toUInt32).toInt32).toInt8.toInt32) = 1 := by
  have q := c_iushr (Int32.ofNat n - Int32.ofNat (2 * n)) 31 31 (by decide) (by decide)
  have e := c_isub (Int32.ofNat n) (Int32.ofNat (2 * n))
  have r := rng32 (Int32.ofNat n - Int32.ofNat (2 * n))
  rw [Int32.toInt_ofNat_of_lt (by omega), Int32.toInt_ofNat_of_lt (by omega)] at e
  have v : ((((Int32.ofNat n - Int32.ofNat (2 * n)).toUInt32 >>> ((31 : Int32) &&& 31).toUInt32).toInt32)) = 1 := by
    apply Int32.toInt_inj.mp
    rw [q]
    have : ((1 : Int32).toInt) = 1 := rfl
    omega
  rw [v]; decide
theorem oj_c16 {c : Int32} (h : ¬ c < 0 ∧ ¬ (65535 : Int32) < c) : nar .char c = c := by
  show c.toUInt32.toUInt16.toUInt32.toInt32 = c
  have q := c_i2c c
  have r := rng32 c
  obtain ⟨h0, h1⟩ := h
  rw [Int32.lt_iff_toInt_lt] at h0 h1
  have e0 : (0 : Int32).toInt = 0 := rfl
  have e1 : (65535 : Int32).toInt = 65535 := rfl
  apply Int32.toInt_inj.mp
  omega

theorem d6_0 : decode jdk_52_method_21_code 0 = .ok (.iconst 0, 1) := by decide +kernel
theorem d6_1 : decode jdk_52_method_21_code 1 = .ok (.istore 5, 2) := by decide +kernel
theorem d6_3 : decode jdk_52_method_21_code 3 = .ok (.iload 5, 2) := by decide +kernel
theorem d6_5 : decode jdk_52_method_21_code 5 = .ok (.iload 4, 2) := by decide +kernel
theorem d6_7 : decode jdk_52_method_21_code 7 = .ok (.if_icmp .ge 37, 3) := by decide +kernel
theorem d6_44 : decode jdk_52_method_21_code 44 = .ok (.iload 4, 2) := by decide +kernel
theorem d6_46 : decode jdk_52_method_21_code 46 = .ok (.ireturn, 1) := by decide +kernel
theorem d6_10 : decode jdk_52_method_21_code 10 = .ok (.aload_n 0, 1) := by decide +kernel
theorem d6_11 : decode jdk_52_method_21_code 11 = .ok (.iload_n 1, 1) := by decide +kernel
theorem d6_12 : decode jdk_52_method_21_code 12 = .ok (.caload, 1) := by decide +kernel
theorem d6_13 : decode jdk_52_method_21_code 13 = .ok (.istore 6, 2) := by decide +kernel
theorem d6_15 : decode jdk_52_method_21_code 15 = .ok (.iload 6, 2) := by decide +kernel
theorem d6_17 : decode jdk_52_method_21_code 17 = .ok (.sipush 255, 3) := by decide +kernel
theorem d6_20 : decode jdk_52_method_21_code 20 = .ok (.if_icmp .le 6, 3) := by decide +kernel
theorem d6_23 : decode jdk_52_method_21_code 23 = .ok (.iload 5, 2) := by decide +kernel
theorem d6_25 : decode jdk_52_method_21_code 25 = .ok (.ireturn, 1) := by decide +kernel
theorem d6_26 : decode jdk_52_method_21_code 26 = .ok (.aload_n 2, 1) := by decide +kernel
theorem d6_27 : decode jdk_52_method_21_code 27 = .ok (.iload_n 3, 1) := by decide +kernel
theorem d6_28 : decode jdk_52_method_21_code 28 = .ok (.iload 6, 2) := by decide +kernel
theorem d6_30 : decode jdk_52_method_21_code 30 = .ok (.i2b, 1) := by decide +kernel
theorem d6_31 : decode jdk_52_method_21_code 31 = .ok (.bastore, 1) := by decide +kernel
theorem d6_32 : decode jdk_52_method_21_code 32 = .ok (.iinc 1 1, 3) := by decide +kernel
theorem d6_35 : decode jdk_52_method_21_code 35 = .ok (.iinc 3 1, 3) := by decide +kernel
theorem d6_38 : decode jdk_52_method_21_code 38 = .ok (.iinc 5 1, 3) := by decide +kernel
theorem d6_41 : decode jdk_52_method_21_code 41 = .ok (.goto (-38), 3) := by decide +kernel
abbrev y_0 : MethodName := ⟨"java/lang/StringUTF16", "compress", "([CI[BII)I"⟩
theorem pn_0 : plainFor y_0 = true := by first | exact plainFor_of_name (by first | (simp [plainName, overriddenIn]; done) | decide +kernel) | decide +kernel
theorem ef_rmCmp5 (m : MethodId) (a1 : Addr) (a3 : Addr) (pn : Int32) : entryFrame m #[(.ref a1), (.int 0), (.ref a3), (.int 0), (.int pn)] 7 = mkF m 0 #[sr a1, si 0, sr a3, si 0, si pn, .unset, .unset] [] := by first | (simp [entryFrame, mkF, argsToLocals, Value.category]; done) | rfl
def Q_rmCmp5 (Z : State) (a1 : Addr) (a3 : Addr) (pn : Int32) (kC : ClassId) (kB : ClassId) (cs : List Int32) (dC : Value) (h0 : Heap) (n0 : Nat) (v : Option Value) (h : Heap) (L : List Loc) : Prop := v = some (.int (Int32.ofNat (own_k cs))) ∧ Fr n0 L ∧ Keep h0 h [a3] ∧ (Arv Z h a3 kB .byte pn ((cs.take (own_k cs)).map fun c => Value.int (StrChars.lo8 c)) (.int 0))
set_option maxRecDepth 65536 in
set_option maxHeartbeats 40000000 in
theorem rmCmp5 (l : Launch) (Z : State) (a0 : Array Value) (hw : ∀ d ∈ tables_1, d.before a0 Z = true) (ws : List Jvm.Cond) (a1 : Addr) (a3 : Addr) (pn : Int32) (kC : ClassId) (kB : ClassId) (cs : List Int32) (dC : Value) (h0 : Heap) (n0 : Nat) (Z0 : n0 ≤ h0.size) (hn : pn = Int32.ofNat cs.length) (hl : cs.length ≤ 3) (hp2 : Arv Z h0 a1 kC .char pn (cs.map Value.int) dC) (hp3 : Arv Z h0 a3 kB .byte pn [] (.int 0)) (hp4 : n0 ≤ a3) (hp5 : a1 ≠ a3) :
    MetFree l y_0 (head1 (Jvm.Cond.code y_0 jdk_52_method_21_code 7 (some .int) :: ws) ({ frames := 0, cells := 0, slots := 0, locals := 0 } : Room)) (fun a U => a = #[(.ref a1), (.int 0), (.ref a3), (.int 0), (.int pn)] ∧ Z.Warmed39 U.vm ∧ U.heap = h0) (fun _ _ _ _ _ => True) (fun _ U o U' => ∃ v L, o = .returned v ∧ Q_rmCmp5 Z a1 a3 pn kC kB cs dC h0 n0 v U'.heap L ∧ FrameEnd U o U' L ({ frames := 0, cells := 0, slots := 0, locals := 0 } : Room).cells ({ frames := 0, cells := 0, slots := 0, locals := 0 } : Room).slots) := by
 refine bodyOf pn_0 (fun m => ef_rmCmp5 m a1 a3 pn) ?_
 intro p e s m below meth c T0 X0 hx hby hml hown hnm hret hk hZ e0
 have N0 := Fr.nil n0
 have K0 : Keep h0 h0 [a3] := Keep.refl _ _
 have ne_a1_a3 := hp5
 refine go (S' := T0.setTop (mkF m 3 #[sr a1, si 0, sr a3, si 0, si pn, si 0, .unset] [])) (fun t k => XS.iconst X0.here hx rfl (hb hby d6_0) (XS.istore X0.here hx rfl (hb hby d6_1) rfl (l' := #[sr a1, si 0, sr a3, si 0, si pn, si 0, .unset]) rfl k)) ?_
 have loop5 : ∀ (r : Nat) (i : Nat) (s6 : Slot) (T : State) (locs : List Loc) (h : Heap), (i + r = cs.length) → (∀ j, j < i → ¬ (255 : Int32) < cs.getD j 0) → (One s6) → Stand p l e ({ frames := 0, cells := 0, slots := 0, locals := 0 } : Room) s m #[(.ref a1), (.int 0), (.ref a3), (.int 0), (.int pn)] below meth c T locs 0 0 → T.heap = h → Fr n0 locs → Keep h0 h [a3] → Arv Z h a1 kC .char pn (cs.map Value.int) dC → Arv Z h a3 kB .byte pn ((cs.take i).map fun c => Value.int (StrChars.lo8 c)) (.int 0) → Goes p.tables e below (EndP s below (Q_rmCmp5 Z a1 a3 pn kC kB cs dC h0 n0) ({ frames := 0, cells := 0, slots := 0, locals := 0 } : Room).cells ({ frames := 0, cells := 0, slots := 0, locals := 0 } : Room).slots) (T.setTop (mkF m 3 #[sr a1, si (Int32.ofNat i), sr a3, si (Int32.ofNat i), si pn, si (Int32.ofNat i), s6] [])) := by
  intro r
  induction r with
  | zero =>
   intro i s6 T locs h hi hbd hs6 X eT N K lf1_0 lf1_1
   refine go (S' := T.setTop (mkF m 7 #[sr a1, si (Int32.ofNat i), sr a3, si (Int32.ofNat i), si pn, si (Int32.ofNat i), s6] [(.int pn), (.int (Int32.ofNat i))])) (fun t k => XS.iload X.here hx rfl (hb hby d6_3) rfl (XS.iload X.here hx rfl (hb hby d6_5) rfl k)) ?_
   have hc2 : ¬ ((Int32.ofNat i) < pn) := by rw [hn]; exact oj_nlt (by omega) (by omega) (by omega)
   refine go (S' := T.setTop (mkF m 46 #[sr a1, si (Int32.ofNat i), sr a3, si (Int32.ofNat i), si pn, si (Int32.ofNat i), s6] [(.int pn)])) (fun t k => XS.icmpYes X.here hx rfl (pc0 := 7) (pc' := 44) rfl (hb hby d6_7) rfl (flt hc2).2.1 (by decide) (by decide) (XS.iload X.here hx rfl (hb hby d6_44) rfl k)) ?_
   refine finI X hx hk hret (hb hby d6_46) (by decide) (by decide) ?_
   have hk5 : own_k cs = i := (own_k_all cs (fun j hj => hbd j (by omega))).trans (by omega)
   rw [eT]
   refine ⟨?_, N, K, ?_⟩
   · rw [hk5, hn, ← (by omega : i = cs.length)]
   · rw [hk5]; exact lf1_1
  | succ r ih =>
   intro i s6 T locs h hi hbd hs6 X eT N K lf1_0 lf1_1
   refine go (S' := T.setTop (mkF m 7 #[sr a1, si (Int32.ofNat i), sr a3, si (Int32.ofNat i), si pn, si (Int32.ofNat i), s6] [(.int pn), (.int (Int32.ofNat i))])) (fun t k => XS.iload X.here hx rfl (hb hby d6_3) rfl (XS.iload X.here hx rfl (hb hby d6_5) rfl k)) ?_
   have hc3 : (Int32.ofNat i) < pn := by rw [hn]; exact oj_lt (by omega) (by omega)
   refine go (S' := T.setTop (mkF m 12 #[sr a1, si (Int32.ofNat i), sr a3, si (Int32.ofNat i), si pn, si (Int32.ofNat i), s6] [(.int (Int32.ofNat i)), (.ref a1)])) (fun t k => XS.icmpNo X.here hx rfl (hb hby d6_7) rfl (tlt hc3).2.1 (XS.aloadN X.here hx rfl (hb hby d6_10) rfl rfl (XS.iloadN X.here hx rfl (hb hby d6_11) rfl k))) ?_
   obtain ⟨cl4, Ar4, q4, S4, M4, H4, G4⟩ := id lf1_0
   have hin4 : ¬ ((Int32.ofNat i) < 0 ∨ cl4.slots.size ≤ ((Int32.ofNat i)).toNatClampNeg) := oj_in S4 hn (by omega) (by omega)
   have hat4 : cl4.slots[((Int32.ofNat i)).toNatClampNeg]? = some (.int (cs.getD i 0)) := Has.at H4 hin4 (by rw [oj_n (by omega)]; exact oj_get cs (by omega) _)
   refine go (S' := T.setTop (mkF m 20 #[sr a1, si (Int32.ofNat i), sr a3, si (Int32.ofNat i), si pn, si (Int32.ofNat i), si (cs.getD i 0)] [(.int 255), (.int (cs.getD i 0))])) (fun t k => X.caload hx (j := (Int32.ofNat i)) (v := (.int (cs.getD i 0))) (by rw [eT]; exact Ar4.1) (State.isArrayOf_alike hZ.alike Ar4.2.1) Ar4.2.2 hin4 hat4 (g := (mkF m 12 #[sr a1, si (Int32.ofNat i), sr a3, si (Int32.ofNat i), si pn, si (Int32.ofNat i), s6] [(.int (Int32.ofNat i)), (.ref a1)])) rfl rfl (hb hby d6_12) _ (XS.istore X.here hx rfl (hb hby d6_13) rfl (l' := #[sr a1, si (Int32.ofNat i), sr a3, si (Int32.ofNat i), si pn, si (Int32.ofNat i), si (cs.getD i 0)]) (XS.store1 rfl hs6 rfl) (XS.iload X.here hx rfl (hb hby d6_15) rfl (XS.sipush X.here hx rfl (hb hby d6_17) k)))) ?_
   by_cases hc5 : (255 : Int32) < (cs.getD i 0)
   ·
    refine go (S' := T.setTop (mkF m 25 #[sr a1, si (Int32.ofNat i), sr a3, si (Int32.ofNat i), si pn, si (Int32.ofNat i), si (cs.getD i 0)] [(.int (Int32.ofNat i))])) (fun t k => XS.icmpNo X.here hx rfl (hb hby d6_20) rfl (tlt hc5).2.2.2 (XS.iload X.here hx rfl (hb hby d6_23) rfl k)) ?_
    refine finI X hx hk hret (hb hby d6_25) (by decide) (by decide) ?_
    have hk5 : own_k cs = i := own_k_at cs i hbd (by omega) hc5
    rw [eT]
    refine ⟨?_, N, K, ?_⟩
    · rw [hk5]
    · rw [hk5]; exact lf1_1
   ·
    refine go (S' := T.setTop (mkF m 31 #[sr a1, si (Int32.ofNat i), sr a3, si (Int32.ofNat i), si pn, si (Int32.ofNat i), si (cs.getD i 0)] [(.int ((cs.getD i 0).toInt8.toInt32)), (.int (Int32.ofNat i)), (.ref a3)])) (fun t k => XS.icmpYes X.here hx rfl (pc0 := 20) (pc' := 26) rfl (hb hby d6_20) rfl (flt hc5).2.2.2 (by decide) (by decide) (XS.aloadN X.here hx rfl (hb hby d6_26) rfl rfl (XS.iloadN X.here hx rfl (hb hby d6_27) rfl (XS.iload X.here hx rfl (hb hby d6_28) rfl (XS.i2b X.here hx rfl (hb hby d6_30) rfl k))))) ?_
    obtain ⟨cl6, Ar6, q6, S6, M6, H6, G6⟩ := id lf1_1
    have hin6 : ¬ ((Int32.ofNat i) < 0 ∨ cl6.slots.size ≤ ((Int32.ofNat i)).toNatClampNeg) := oj_in S6 hn (by omega) (by omega)
    obtain ⟨T6, h6, X6, e6, W6, st6⟩ := stB X hx hZ eT Ar6 (j := (Int32.ofNat i)) hin6 (g := (mkF m 31 #[sr a1, si (Int32.ofNat i), sr a3, si (Int32.ofNat i), si pn, si (Int32.ofNat i), si (cs.getD i 0)] [(.int ((cs.getD i 0).toInt8.toInt32)), (.int (Int32.ofNat i)), (.ref a3)])) rfl rfl (hb hby d6_31)
    have V6 : Arv Z h6 a3 kB .byte pn ((cs.take (i + 1)).map fun c => Value.int (StrChars.lo8 c)) (.int 0) := by
     have q := arvSnoc Ar6 q6 S6 M6 H6 G6 (fits_nar_byte _) W6 (by rw [oj_n (by omega)]; simp; omega)
     (first | rw [oj_narb] at q | rw [oj_bb] at q); rw [← StrChars.lo8] at q; rw [← oj_take cs (by omega)]; exact q
    have K7 : Keep h0 h6 [a3] := K.wr W6 (Or.inl (List.mem_of_getElem? (i := 0) rfl))
    have N8 := Fr.snoc X6 N hp4
    refine go (S' := T6.setTop (mkF m 3 #[sr a1, si ((Int32.ofNat i) + (1 : Int32)), sr a3, si ((Int32.ofNat i) + (1 : Int32)), si pn, si ((Int32.ofNat i) + (1 : Int32)), si (cs.getD i 0)] [])) (fun t k => st6 _ (XS.iinc X6.here hx rfl (hb hby d6_32) rfl (l' := #[sr a1, si ((Int32.ofNat i) + (1 : Int32)), sr a3, si (Int32.ofNat i), si pn, si (Int32.ofNat i), si (cs.getD i 0)]) rfl (XS.iinc X6.here hx rfl (hb hby d6_35) rfl (l' := #[sr a1, si ((Int32.ofNat i) + (1 : Int32)), sr a3, si ((Int32.ofNat i) + (1 : Int32)), si pn, si (Int32.ofNat i), si (cs.getD i 0)]) rfl (XS.iinc X6.here hx rfl (hb hby d6_38) rfl (l' := #[sr a1, si ((Int32.ofNat i) + (1 : Int32)), sr a3, si ((Int32.ofNat i) + (1 : Int32)), si pn, si ((Int32.ofNat i) + (1 : Int32)), si (cs.getD i 0)]) rfl (XS.goto X6.here hx rfl (pc0 := 41) (pc' := 3) rfl (hb hby d6_41) (by decide) (by decide) k))))) ?_
    rw [oj_one i]
    have f9 : Arv Z h6 a1 kC .char pn (cs.map Value.int) dC := (lf1_0.other W6 ne_a1_a3)
    exact ih (i + 1) _ _ _ _ (by omega) (fun j hj => by by_cases qj : j < i; exact hbd j qj; rw [(by omega : j = i)]; exact hc5) (One.val rfl) X6 e6 N8 K7 f9 V6
 exact loop5 cs.length 0 _ _ _ _ (Nat.zero_add _) (fun j hj => absurd hj (Nat.not_lt_zero _)) One.u X0 e0 N0 K0 hp2 hp3
theorem d9_0 : decode jdk_52_method_3_code 0 = .ok (.iload_n 0, 1) := by decide +kernel
theorem d9_1 : decode jdk_52_method_3_code 1 = .ok (.ifCond .ge 11, 3) := by decide +kernel
theorem d9_12 : decode jdk_52_method_3_code 12 = .ok (.iload_n 0, 1) := by decide +kernel
theorem d9_13 : decode jdk_52_method_3_code 13 = .ok (.ldc 20, 2) := by decide +kernel
theorem d9_15 : decode jdk_52_method_3_code 15 = .ok (.if_icmp .lt 40, 3) := by decide +kernel
theorem d9_55 : decode jdk_52_method_3_code 55 = .ok (.iload_n 0, 1) := by decide +kernel
theorem d9_56 : decode jdk_52_method_3_code 56 = .ok (.iconst 1, 1) := by decide +kernel
theorem d9_57 : decode jdk_52_method_3_code 57 = .ok (.ishl, 1) := by decide +kernel
theorem d9_58 : decode jdk_52_method_3_code 58 = .ok (.ireturn, 1) := by decide +kernel
abbrev y_1 : MethodName := ⟨"java/lang/StringUTF16", "newBytesLength", "(I)I"⟩
theorem pn_1 : plainFor y_1 = true := by first | exact plainFor_of_name (by first | (simp [plainName, overriddenIn]; done) | decide +kernel) | decide +kernel
theorem ef_rmNbl (m : MethodId) (p1 : Int32) : entryFrame m #[(.int p1)] 1 = mkF m 0 #[si p1] [] := by first | (simp [entryFrame, mkF, argsToLocals, Value.category]; done) | rfl
def Q_rmNbl (Z : State) (p1 : Int32) (h0 : Heap) (n0 : Nat) (v : Option Value) (h : Heap) (L : List Loc) : Prop := v = some (.int (p1 <<< ((1 : Int32) &&& 31))) ∧ Fr n0 L ∧ h = h0
set_option maxRecDepth 65536 in
set_option maxHeartbeats 40000000 in
theorem rmNbl (l : Launch) (Z : State) (a0 : Array Value) (hw : ∀ d ∈ tables_1, d.before a0 Z = true) (ws : List Jvm.Cond) (p1 : Int32) (h0 : Heap) (n0 : Nat) (Z0 : n0 ≤ h0.size) (hz0 : ¬ (p1 < (0 : Int32))) (hz1 : p1 < (1073741823 : Int32)) :
    MetFree l y_1 (head1 (Jvm.Cond.code y_1 jdk_52_method_3_code 1 (some .int) :: ws) ({ frames := 0, cells := 0, slots := 0, locals := 0 } : Room)) (fun a U => a = #[(.int p1)] ∧ Z.Warmed39 U.vm ∧ U.heap = h0) (fun _ _ _ _ _ => True) (fun _ U o U' => ∃ v L, o = .returned v ∧ Q_rmNbl Z p1 h0 n0 v U'.heap L ∧ FrameEnd U o U' L ({ frames := 0, cells := 0, slots := 0, locals := 0 } : Room).cells ({ frames := 0, cells := 0, slots := 0, locals := 0 } : Room).slots) := by
 refine bodyOf pn_1 (fun m => ef_rmNbl m p1) ?_
 intro p e s m below meth c T0 X0 hx hby hml hown hnm hret hk hZ e0
 have N0 := Fr.nil n0
 have K0 : Keep h0 h0 [] := Keep.refl _ _
 refine go (S' := T0.setTop (mkF m 58 #[si p1] [(.int (p1 <<< ((1 : Int32) &&& 31)))])) (fun t k => XS.iloadN X0.here hx rfl (hb hby d9_0) rfl (XS.ifYes X0.here hx rfl (pc0 := 1) (pc' := 12) rfl (hb hby d9_1) rfl ((if0 _ _).trans (flt hz0).2.1) (by decide) (by decide) (XS.iloadN X0.here hx rfl (hb hby d9_12) rfl (X0.ldcInt hx hown (mvT hZ (ww hw 38 rfl)) (g := (mkF m 13 #[si p1] [(.int p1)])) rfl (hb hby d9_13) _ (XS.icmpYes X0.here hx rfl (pc0 := 15) (pc' := 55) rfl (hb hby d9_15) rfl (tlt hz1).1 (by decide) (by decide) (XS.iloadN X0.here hx rfl (hb hby d9_55) rfl (XS.iconst X0.here hx rfl (hb hby d9_56) (XS.ishl X0.here hx rfl (hb hby d9_57) rfl k)))))))) ?_
 refine finI X0 hx hk hret (hb hby d9_58) (by decide) (by decide) ?_
 rw [e0]
 exact ⟨rfl, N0, rfl⟩
theorem d8_0 : decode jdk_52_method_2_code 0 = .ok (.iload_n 0, 1) := by decide +kernel
theorem d8_1 : decode jdk_52_method_2_code 1 = .ok (.invokestatic 11, 3) := by decide +kernel
theorem pd_0 : parseMethodDescriptor "(I)I" = some ⟨[.int], some .int⟩ := by decide +kernel
theorem d8_4 : decode jdk_52_method_2_code 4 = .ok (.newarray .byte, 2) := by decide +kernel
theorem d8_6 : decode jdk_52_method_2_code 6 = .ok (.areturn, 1) := by decide +kernel
abbrev y_2 : MethodName := ⟨"java/lang/StringUTF16", "newBytesFor", "(I)[B"⟩
theorem pn_2 : plainFor y_2 = true := by first | exact plainFor_of_name (by first | (simp [plainName, overriddenIn]; done) | decide +kernel) | decide +kernel
theorem ef_rmNbf (m : MethodId) (p1 : Int32) : entryFrame m #[(.int p1)] 1 = mkF m 0 #[si p1] [] := by first | (simp [entryFrame, mkF, argsToLocals, Value.category]; done) | rfl
def Q_rmNbf (Z : State) (p1 : Int32) (n : Nat) (h0 : Heap) (n0 : Nat) (v : Option Value) (h : Heap) (L : List Loc) : Prop := ∃ (t : Addr), ∃ (kb : ClassId), v = some (.ref t) ∧ Fr n0 L ∧ Keep h0 h [] ∧ (h0.size ≤ t) ∧ (Arv Z h t kb .byte (Int32.ofNat (2 * n)) [] (.int 0))
set_option maxRecDepth 65536 in
set_option maxHeartbeats 40000000 in
theorem rmNbf (l : Launch) (Z : State) (a0 : Array Value) (hw : ∀ d ∈ tables_1, d.before a0 Z = true) (ws : List Jvm.Cond) (p1 : Int32) (n : Nat) (h0 : Heap) (n0 : Nat) (Z0 : n0 ≤ h0.size) (hn : p1 = Int32.ofNat n) (hl : n ≤ 3) :
    MetFree l y_2 (head1 (Jvm.Cond.code y_2 jdk_52_method_2_code 1 (some (.array .byte)) :: ws) ({ frames := 1, cells := 1, slots := 6, locals := 12 } : Room)) (fun a U => a = #[(.int p1)] ∧ Z.Warmed39 U.vm ∧ U.heap = h0) (fun _ _ _ _ _ => True) (fun _ U o U' => ∃ v L, o = .returned v ∧ Q_rmNbf Z p1 n h0 n0 v U'.heap L ∧ FrameEnd U o U' L ({ frames := 1, cells := 1, slots := 6, locals := 12 } : Room).cells ({ frames := 1, cells := 1, slots := 6, locals := 12 } : Room).slots) := by
 refine bodyOf pn_2 (fun m => ef_rmNbf m p1) ?_
 intro p e s m below meth c T0 X0 hx hby hml hown hnm hret hk hZ e0
 have N0 := Fr.nil n0
 have K0 : Keep h0 h0 [] := Keep.refl _ _
 have hz0 : ¬ (p1 < (0 : Int32)) := by rw [hn]; exact oj_nn (by omega)
 have hz1 : p1 < (1073741823 : Int32) := by rw [hn]; exact (Int32.ofNat_lt_ofNat (n := 1073741823) (by omega) (by omega)).mpr (by omega)
 refine go (S' := T0.setTop (mkF m 1 #[si p1] [(.int p1)])) (fun t k => XS.iloadN X0.here hx rfl (hb hby d8_0) rfl k) ?_
 obtain ⟨v10, T10, L10, X10, hQ10, st10⟩ := callSt X0 hx hZ (y := y_1) hown (ww hw 35 rfl) (ww hw 36 rfl) (ww hw 23 rfl) (ww hw 37 rfl) (by decide) (backOf (W := 0) (rmNbl l Z a0 hw [] p1 h0 n0 (Nat.le_trans Z0 K0.1) hz0 hz1) hZ (ww hw 37 rfl) (ww hw 23 rfl) (by decide) (by decide)) (g := (mkF m 1 #[si p1] [(.int p1)])) rfl (by rw [hml]; rfl) (kc := 0) (ks := 0) (argsL := [(.int p1)]) (rest := []) (lenOf pd_0 rfl) rfl (mr0 rfl) (hb hby d8_1) e0 (by decide) (by decide)
 obtain ⟨rfl, N10q, e10⟩ := hQ10
 have N10 := Fr.app N0 N10q
 refine go (S' := T10.setTop (mkF m 4 #[si p1] [(.int (p1 <<< ((1 : Int32) &&& 31)))])) st10 ?_
 rw [hn, oj_dbl (by omega)]
 obtain ⟨T11, h11, k11, X11, e11, E11, A11, st11⟩ := newP X10 hx hZ (ww hw 25 rfl) e10 (g := (mkF m 4 #[si (Int32.ofNat n)] [(.int (Int32.ofNat (2 * n)))])) rfl (hb hby d8_4) rfl (oj_nn (by omega)) (cap := 6) (by rw [oj_n (by omega)]; omega) (by decide) (by decide) (by decide)
 obtain ⟨b11, g11⟩ : ∃ z, z = h0.size := ⟨_, rfl⟩
 rw [← g11] at A11 st11
 have ge_b11 : n0 ≤ b11 := by rw [g11]; exact (Nat.le_trans Z0 K0.1)
 have sz_b11 : h0.size ≤ b11 := by rw [g11]; exact K0.1
 have K12 : Keep h0 h11 [] := K0.ext E11
 have V11 : Arv Z h11 b11 k11 .byte (Int32.ofNat (2 * n)) [] (.int 0) := Arv.new A11 (oj_nn (by omega))
 refine go (S' := T11.setTop (mkF m 6 #[si (Int32.ofNat n)] [(.ref b11)])) st11 ?_
 refine finR X11 hx hk hret rfl rfl (hb hby d8_6) (by decide) (by decide) ?_
 rw [e11]
 exact ⟨b11, k11, rfl, N10, K12, sz_b11, V11⟩
theorem d10_0 : decode jdk_52_method_4_code 0 = .ok (.getstatic 44, 3) := by decide +kernel
theorem d10_3 : decode jdk_52_method_4_code 3 = .ok (.ifCond .ne 25, 3) := by decide +kernel
theorem d10_28 : decode jdk_52_method_4_code 28 = .ok (.iload_n 1, 1) := by decide +kernel
theorem d10_29 : decode jdk_52_method_4_code 29 = .ok (.iconst 1, 1) := by decide +kernel
theorem d10_30 : decode jdk_52_method_4_code 30 = .ok (.ishl, 1) := by decide +kernel
theorem d10_31 : decode jdk_52_method_4_code 31 = .ok (.istore_n 1, 1) := by decide +kernel
theorem d10_32 : decode jdk_52_method_4_code 32 = .ok (.aload_n 0, 1) := by decide +kernel
theorem d10_33 : decode jdk_52_method_4_code 33 = .ok (.iload_n 1, 1) := by decide +kernel
theorem d10_34 : decode jdk_52_method_4_code 34 = .ok (.iinc 1 1, 3) := by decide +kernel
theorem d10_37 : decode jdk_52_method_4_code 37 = .ok (.iload_n 2, 1) := by decide +kernel
theorem d10_38 : decode jdk_52_method_4_code 38 = .ok (.getstatic 59, 3) := by decide +kernel
theorem d10_41 : decode jdk_52_method_4_code 41 = .ok (.ishr, 1) := by decide +kernel
theorem d10_42 : decode jdk_52_method_4_code 42 = .ok (.i2b, 1) := by decide +kernel
theorem d10_43 : decode jdk_52_method_4_code 43 = .ok (.bastore, 1) := by decide +kernel
theorem d10_44 : decode jdk_52_method_4_code 44 = .ok (.aload_n 0, 1) := by decide +kernel
theorem d10_45 : decode jdk_52_method_4_code 45 = .ok (.iload_n 1, 1) := by decide +kernel
theorem d10_46 : decode jdk_52_method_4_code 46 = .ok (.iload_n 2, 1) := by decide +kernel
theorem d10_47 : decode jdk_52_method_4_code 47 = .ok (.getstatic 63, 3) := by decide +kernel
theorem d10_50 : decode jdk_52_method_4_code 50 = .ok (.ishr, 1) := by decide +kernel
theorem d10_51 : decode jdk_52_method_4_code 51 = .ok (.i2b, 1) := by decide +kernel
theorem d10_52 : decode jdk_52_method_4_code 52 = .ok (.bastore, 1) := by decide +kernel
theorem d10_53 : decode jdk_52_method_4_code 53 = .ok (.return_, 1) := by decide +kernel
abbrev y_3 : MethodName := ⟨"java/lang/StringUTF16", "putChar", "([BII)V"⟩
theorem pn_3 : plainFor y_3 = true := by first | exact plainFor_of_name (by first | (simp [plainName, overriddenIn]; done) | decide +kernel) | decide +kernel
theorem ef_rmPut (m : MethodId) (a1 : Addr) (p2 : Int32) (p3 : Int32) : entryFrame m #[(.ref a1), (.int p2), (.int p3)] 3 = mkF m 0 #[sr a1, si p2, si p3] [] := by first | (simp [entryFrame, mkF, argsToLocals, Value.category]; done) | rfl
def Q_rmPut (Z : State) (a1 : Addr) (p2 : Int32) (p3 : Int32) (kB : ClassId) (m_ : Nat) (n : Nat) (vs : List Value) (h0 : Heap) (n0 : Nat) (v : Option Value) (h : Heap) (L : List Loc) : Prop := v = none ∧ Fr n0 L ∧ Keep h0 h [a1] ∧ (Arv Z h a1 kB .byte (Int32.ofNat (2 * n)) (vs ++ [.int (StrChars.lo8 p3)] ++ [.int (StrChars.hi8 p3)]) (.int 0))
set_option maxRecDepth 65536 in
set_option maxHeartbeats 40000000 in
theorem rmPut (l : Launch) (Z : State) (a0 : Array Value) (hw : ∀ d ∈ tables_1, d.before a0 Z = true) (ws : List Jvm.Cond) (a1 : Addr) (p2 : Int32) (p3 : Int32) (kB : ClassId) (m_ : Nat) (n : Nat) (vs : List Value) (h0 : Heap) (n0 : Nat) (Z0 : n0 ≤ h0.size) (hp0 : Arv Z h0 a1 kB .byte (Int32.ofNat (2 * n)) vs (.int 0)) (hm : p2 = Int32.ofNat m_) (hv : vs.length = 2 * m_) (hmn : m_ < n) (hl : n ≤ 3) (hp5 : n0 ≤ a1) (hp6 : Sta Z Z.heap "java/lang/StringUTF16" "$assertionsDisabled" "Z" (.int 1)) (hp7 : Sta Z Z.heap "java/lang/StringUTF16" "HI_BYTE_SHIFT" "I" (.int 0)) (hp8 : Sta Z Z.heap "java/lang/StringUTF16" "LO_BYTE_SHIFT" "I" (.int 8)) (hp9 : Old Z n0 h0) :
    MetFree l y_3 (head1 (Jvm.Cond.code y_3 jdk_52_method_4_code 3 none :: ws) ({ frames := 0, cells := 0, slots := 0, locals := 0 } : Room)) (fun a U => a = #[(.ref a1), (.int p2), (.int p3)] ∧ Z.Warmed39 U.vm ∧ U.heap = h0) (fun _ _ _ _ _ => True) (fun _ U o U' => ∃ v L, o = .returned v ∧ Q_rmPut Z a1 p2 p3 kB m_ n vs h0 n0 v U'.heap L ∧ FrameEnd U o U' L ({ frames := 0, cells := 0, slots := 0, locals := 0 } : Room).cells ({ frames := 0, cells := 0, slots := 0, locals := 0 } : Room).slots) := by
 refine bodyOf pn_3 (fun m => ef_rmPut m a1 p2 p3) ?_
 intro p e s m below meth c T0 X0 hx hby hml hown hnm hret hk hZ e0
 have N0 := Fr.nil n0
 have K0 : Keep h0 h0 [a1] := Keep.refl _ _
 have O0 := hp9
 have O14 : Old Z n0 h0 := O0.keep K0 (allS hp5 all0)
 obtain ⟨T13, X13, e13, st13⟩ := getS2 X0 hx hZ hown (host := "") (Or.inl (ww hw 42 rfl)) Via.refl e0 (hp6.ext O14.2) (g := (mkF m 0 #[sr a1, si p2, si p3] [])) rfl (hb hby d10_0)
 refine go (S' := T13.setTop (mkF m 3 #[sr a1, si p2, si p3] [(.int 1)])) st13 ?_
 have hc15 : ¬ ((1 : Int32) = (0 : Int32)) := by decide
 refine go (S' := T13.setTop (mkF m 32 #[sr a1, si (p2 <<< ((1 : Int32) &&& 31)), si p3] [])) (fun t k => XS.ifYes X13.here hx rfl (pc0 := 3) (pc' := 28) rfl (hb hby d10_3) rfl ((if0 _ _).trans (feq hc15).2) (by decide) (by decide) (XS.iloadN X13.here hx rfl (hb hby d10_28) rfl (XS.iconst X13.here hx rfl (hb hby d10_29) (XS.ishl X13.here hx rfl (hb hby d10_30) rfl (XS.istoreN X13.here hx rfl (hb hby d10_31) rfl (l' := #[sr a1, si (p2 <<< ((1 : Int32) &&& 31)), si p3]) rfl k))))) ?_
 rw [hm, oj_dbl (by omega)]
 refine go (S' := T13.setTop (mkF m 37 #[sr a1, si ((Int32.ofNat (2 * m_)) + (1 : Int32)), si p3] [(.int (Int32.ofNat (2 * m_))), (.ref a1)])) (fun t k => XS.aloadN X13.here hx rfl (hb hby d10_32) rfl rfl (XS.iloadN X13.here hx rfl (hb hby d10_33) rfl (XS.iinc X13.here hx rfl (hb hby d10_34) rfl (l' := #[sr a1, si ((Int32.ofNat (2 * m_)) + (1 : Int32)), si p3]) rfl k))) ?_
 rw [oj_one]
 refine go (S' := T13.setTop (mkF m 38 #[sr a1, si (Int32.ofNat (2 * m_ + 1)), si p3] [(.int p3), (.int (Int32.ofNat (2 * m_))), (.ref a1)])) (fun t k => XS.iloadN X13.here hx rfl (hb hby d10_37) rfl k) ?_
 obtain ⟨T16, X16, e16, st16⟩ := getS2 X13 hx hZ hown (host := "") (Or.inl (ww hw 43 rfl)) Via.refl e13 (hp7.ext O14.2) (g := (mkF m 38 #[sr a1, si (Int32.ofNat (2 * m_ + 1)), si p3] [(.int p3), (.int (Int32.ofNat (2 * m_))), (.ref a1)])) rfl (hb hby d10_38)
 refine go (S' := T16.setTop (mkF m 43 #[sr a1, si (Int32.ofNat (2 * m_ + 1)), si p3] [(.int ((p3 >>> ((0 : Int32) &&& 31)).toInt8.toInt32)), (.int (Int32.ofNat (2 * m_))), (.ref a1)])) (fun t k => st16 _ (XS.ishr X16.here hx rfl (hb hby d10_41) rfl (XS.i2b X16.here hx rfl (hb hby d10_42) rfl k))) ?_
 obtain ⟨cl17, Ar17, q17, S17, M17, H17, G17⟩ := id hp0
 have hin17 : ¬ ((Int32.ofNat (2 * m_)) < 0 ∨ cl17.slots.size ≤ ((Int32.ofNat (2 * m_))).toNatClampNeg) := oj_in S17 rfl (by omega) (by omega)
 obtain ⟨T17, h17, X17, e17, W17, st17⟩ := stB X16 hx hZ e16 Ar17 (j := (Int32.ofNat (2 * m_))) hin17 (g := (mkF m 43 #[sr a1, si (Int32.ofNat (2 * m_ + 1)), si p3] [(.int ((p3 >>> ((0 : Int32) &&& 31)).toInt8.toInt32)), (.int (Int32.ofNat (2 * m_))), (.ref a1)])) rfl rfl (hb hby d10_43)
 have V17 : Arv Z h17 a1 kB .byte (Int32.ofNat (2 * n)) (vs ++ [.int (StrChars.lo8 p3)]) (.int 0) := by
  have q := arvSnoc Ar17 q17 S17 M17 H17 G17 (fits_nar_byte _) W17 (by rw [oj_n (by omega)]; exact hv.symm)
  (first | rw [oj_narb] at q | rw [oj_bb] at q); rw [oj_shr0, ← StrChars.lo8] at q; exact q
 have K18 : Keep h0 h17 [a1] := K0.wr W17 (Or.inl (List.mem_of_getElem? (i := 0) rfl))
 have N19 := Fr.snoc X17 N0 hp5
 refine go (S' := T17.setTop (mkF m 47 #[sr a1, si (Int32.ofNat (2 * m_ + 1)), si p3] [(.int p3), (.int (Int32.ofNat (2 * m_ + 1))), (.ref a1)])) (fun t k => st17 _ (XS.aloadN X17.here hx rfl (hb hby d10_44) rfl rfl (XS.iloadN X17.here hx rfl (hb hby d10_45) rfl (XS.iloadN X17.here hx rfl (hb hby d10_46) rfl k)))) ?_
 have O21 : Old Z n0 h17 := O0.keep K18 (allS hp5 all0)
 obtain ⟨T20, X20, e20, st20⟩ := getS2 X17 hx hZ hown (host := "") (Or.inl (ww hw 44 rfl)) Via.refl e17 (hp8.ext O21.2) (g := (mkF m 47 #[sr a1, si (Int32.ofNat (2 * m_ + 1)), si p3] [(.int p3), (.int (Int32.ofNat (2 * m_ + 1))), (.ref a1)])) rfl (hb hby d10_47)
 refine go (S' := T20.setTop (mkF m 52 #[sr a1, si (Int32.ofNat (2 * m_ + 1)), si p3] [(.int ((p3 >>> ((8 : Int32) &&& 31)).toInt8.toInt32)), (.int (Int32.ofNat (2 * m_ + 1))), (.ref a1)])) (fun t k => st20 _ (XS.ishr X20.here hx rfl (hb hby d10_50) rfl (XS.i2b X20.here hx rfl (hb hby d10_51) rfl k))) ?_
 obtain ⟨cl22, Ar22, q22, S22, M22, H22, G22⟩ := id V17
 have hin22 : ¬ ((Int32.ofNat (2 * m_ + 1)) < 0 ∨ cl22.slots.size ≤ ((Int32.ofNat (2 * m_ + 1))).toNatClampNeg) := oj_in S22 rfl (by omega) (by omega)
 obtain ⟨T22, h22, X22, e22, W22, st22⟩ := stB X20 hx hZ e20 Ar22 (j := (Int32.ofNat (2 * m_ + 1))) hin22 (g := (mkF m 52 #[sr a1, si (Int32.ofNat (2 * m_ + 1)), si p3] [(.int ((p3 >>> ((8 : Int32) &&& 31)).toInt8.toInt32)), (.int (Int32.ofNat (2 * m_ + 1))), (.ref a1)])) rfl rfl (hb hby d10_52)
 have V22 : Arv Z h22 a1 kB .byte (Int32.ofNat (2 * n)) (vs ++ [.int (StrChars.lo8 p3)] ++ [.int (StrChars.hi8 p3)]) (.int 0) := by
  have q := arvSnoc Ar22 q22 S22 M22 H22 G22 (fits_nar_byte _) W22 (by rw [oj_n (by omega)]; simp; omega)
  (first | rw [oj_narb] at q | rw [oj_bb] at q); rw [← StrChars.lo8, ← StrChars.hi8] at q; exact q
 have K23 : Keep h0 h22 [a1] := K18.wr W22 (Or.inl (List.mem_of_getElem? (i := 0) rfl))
 have N24 := Fr.snoc X22 N19 hp5
 refine go (S' := T22.setTop (mkF m 53 #[sr a1, si (Int32.ofNat (2 * m_ + 1)), si p3] [])) st22 ?_
 refine finV X22 hx hk hret (hb hby d10_53) (by decide) (by decide) ?_
 rw [e22]
 exact ⟨rfl, N24, K23, V22⟩
theorem d11_0 : decode jdk_52_method_5_code 0 = .ok (.getstatic 44, 3) := by decide +kernel
theorem d11_3 : decode jdk_52_method_5_code 3 = .ok (.ifCond .ne 25, 3) := by decide +kernel
theorem d11_28 : decode jdk_52_method_5_code 28 = .ok (.iload_n 1, 1) := by decide +kernel
theorem d11_29 : decode jdk_52_method_5_code 29 = .ok (.iconst 1, 1) := by decide +kernel
theorem d11_30 : decode jdk_52_method_5_code 30 = .ok (.ishl, 1) := by decide +kernel
theorem d11_31 : decode jdk_52_method_5_code 31 = .ok (.istore_n 1, 1) := by decide +kernel
theorem d11_32 : decode jdk_52_method_5_code 32 = .ok (.aload_n 0, 1) := by decide +kernel
theorem d11_33 : decode jdk_52_method_5_code 33 = .ok (.iload_n 1, 1) := by decide +kernel
theorem d11_34 : decode jdk_52_method_5_code 34 = .ok (.iinc 1 1, 3) := by decide +kernel
theorem d11_37 : decode jdk_52_method_5_code 37 = .ok (.baload, 1) := by decide +kernel
theorem d11_38 : decode jdk_52_method_5_code 38 = .ok (.sipush 255, 3) := by decide +kernel
theorem d11_41 : decode jdk_52_method_5_code 41 = .ok (.iand, 1) := by decide +kernel
theorem d11_42 : decode jdk_52_method_5_code 42 = .ok (.getstatic 59, 3) := by decide +kernel
theorem d11_45 : decode jdk_52_method_5_code 45 = .ok (.ishl, 1) := by decide +kernel
theorem d11_46 : decode jdk_52_method_5_code 46 = .ok (.aload_n 0, 1) := by decide +kernel
theorem d11_47 : decode jdk_52_method_5_code 47 = .ok (.iload_n 1, 1) := by decide +kernel
theorem d11_48 : decode jdk_52_method_5_code 48 = .ok (.baload, 1) := by decide +kernel
theorem d11_49 : decode jdk_52_method_5_code 49 = .ok (.sipush 255, 3) := by decide +kernel
theorem d11_52 : decode jdk_52_method_5_code 52 = .ok (.iand, 1) := by decide +kernel
theorem d11_53 : decode jdk_52_method_5_code 53 = .ok (.getstatic 63, 3) := by decide +kernel
theorem d11_56 : decode jdk_52_method_5_code 56 = .ok (.ishl, 1) := by decide +kernel
theorem d11_57 : decode jdk_52_method_5_code 57 = .ok (.ior, 1) := by decide +kernel
theorem d11_58 : decode jdk_52_method_5_code 58 = .ok (.i2c, 1) := by decide +kernel
theorem d11_59 : decode jdk_52_method_5_code 59 = .ok (.ireturn, 1) := by decide +kernel
abbrev y_4 : MethodName := ⟨"java/lang/StringUTF16", "getChar", "([BI)C"⟩
theorem pn_4 : plainFor y_4 = true := by first | exact plainFor_of_name (by first | (simp [plainName, overriddenIn]; done) | decide +kernel) | decide +kernel
theorem ef_rmGet (m : MethodId) (a1 : Addr) (p2 : Int32) : entryFrame m #[(.ref a1), (.int p2)] 2 = mkF m 0 #[sr a1, si p2] [] := by first | (simp [entryFrame, mkF, argsToLocals, Value.category]; done) | rfl
def Q_rmGet (Z : State) (a1 : Addr) (p2 : Int32) (kB : ClassId) (m_ : Nat) (n : Nat) (vs : List Value) (ch : Int32) (h0 : Heap) (n0 : Nat) (v : Option Value) (h : Heap) (L : List Loc) : Prop := v = some (.int ch) ∧ Fr n0 L ∧ h = h0
set_option maxRecDepth 65536 in
set_option maxHeartbeats 40000000 in
theorem rmGet (l : Launch) (Z : State) (a0 : Array Value) (hw : ∀ d ∈ tables_1, d.before a0 Z = true) (ws : List Jvm.Cond) (a1 : Addr) (p2 : Int32) (kB : ClassId) (m_ : Nat) (n : Nat) (vs : List Value) (ch : Int32) (h0 : Heap) (n0 : Nat) (Z0 : n0 ≤ h0.size) (hp0 : Arv Z h0 a1 kB .byte (Int32.ofNat (2 * n)) vs (.int 0)) (hm : p2 = Int32.ofNat m_) (hmn : m_ < n) (hl : n ≤ 3) (hlo : vs.getD (2 * m_) (.int 0) = .int (StrChars.lo8 ch)) (hhi : vs.getD (2 * m_ + 1) (.int 0) = .int (StrChars.hi8 ch)) (hch : ¬ ch < 0 ∧ ¬ (65535 : Int32) < ch) (hp7 : Sta Z Z.heap "java/lang/StringUTF16" "$assertionsDisabled" "Z" (.int 1)) (hp8 : Sta Z Z.heap "java/lang/StringUTF16" "HI_BYTE_SHIFT" "I" (.int 0)) (hp9 : Sta Z Z.heap "java/lang/StringUTF16" "LO_BYTE_SHIFT" "I" (.int 8)) (hp10 : Old Z n0 h0) :
    MetFree l y_4 (head1 (Jvm.Cond.code y_4 jdk_52_method_5_code 2 (some .char) :: ws) ({ frames := 0, cells := 0, slots := 0, locals := 0 } : Room)) (fun a U => a = #[(.ref a1), (.int p2)] ∧ Z.Warmed39 U.vm ∧ U.heap = h0) (fun _ _ _ _ _ => True) (fun _ U o U' => ∃ v L, o = .returned v ∧ Q_rmGet Z a1 p2 kB m_ n vs ch h0 n0 v U'.heap L ∧ FrameEnd U o U' L ({ frames := 0, cells := 0, slots := 0, locals := 0 } : Room).cells ({ frames := 0, cells := 0, slots := 0, locals := 0 } : Room).slots) := by
 refine bodyOf pn_4 (fun m => ef_rmGet m a1 p2) ?_
 intro p e s m below meth c T0 X0 hx hby hml hown hnm hret hk hZ e0
 have N0 := Fr.nil n0
 have K0 : Keep h0 h0 [] := Keep.refl _ _
 have O0 := hp10
 have O26 : Old Z n0 h0 := O0.keep K0 all0
 obtain ⟨T25, X25, e25, st25⟩ := getS2 X0 hx hZ hown (host := "") (Or.inl (ww hw 42 rfl)) Via.refl e0 (hp7.ext O26.2) (g := (mkF m 0 #[sr a1, si p2] [])) rfl (hb hby d11_0)
 refine go (S' := T25.setTop (mkF m 3 #[sr a1, si p2] [(.int 1)])) st25 ?_
 have hc27 : ¬ ((1 : Int32) = (0 : Int32)) := by decide
 refine go (S' := T25.setTop (mkF m 32 #[sr a1, si (p2 <<< ((1 : Int32) &&& 31))] [])) (fun t k => XS.ifYes X25.here hx rfl (pc0 := 3) (pc' := 28) rfl (hb hby d11_3) rfl ((if0 _ _).trans (feq hc27).2) (by decide) (by decide) (XS.iloadN X25.here hx rfl (hb hby d11_28) rfl (XS.iconst X25.here hx rfl (hb hby d11_29) (XS.ishl X25.here hx rfl (hb hby d11_30) rfl (XS.istoreN X25.here hx rfl (hb hby d11_31) rfl (l' := #[sr a1, si (p2 <<< ((1 : Int32) &&& 31))]) rfl k))))) ?_
 rw [hm, oj_dbl (by omega)]
 refine go (S' := T25.setTop (mkF m 37 #[sr a1, si ((Int32.ofNat (2 * m_)) + (1 : Int32))] [(.int (Int32.ofNat (2 * m_))), (.ref a1)])) (fun t k => XS.aloadN X25.here hx rfl (hb hby d11_32) rfl rfl (XS.iloadN X25.here hx rfl (hb hby d11_33) rfl (XS.iinc X25.here hx rfl (hb hby d11_34) rfl (l' := #[sr a1, si ((Int32.ofNat (2 * m_)) + (1 : Int32))]) rfl k))) ?_
 rw [oj_one]
 obtain ⟨cl28, Ar28, q28, S28, M28, H28, G28⟩ := id hp0
 have hin28 : ¬ ((Int32.ofNat (2 * m_)) < 0 ∨ cl28.slots.size ≤ ((Int32.ofNat (2 * m_))).toNatClampNeg) := oj_in S28 rfl (by omega) (by omega)
 have hat28 : cl28.slots[((Int32.ofNat (2 * m_))).toNatClampNeg]? = some (.int (StrChars.lo8 ch)) := Has.at H28 hin28 (by rw [oj_n (by omega)]; exact hlo)
 refine go (S' := T25.setTop (mkF m 42 #[sr a1, si (Int32.ofNat (2 * m_ + 1))] [(.int ((StrChars.lo8 ch) &&& (255 : Int32)))])) (fun t k => X25.baloadBytes hx (j := (Int32.ofNat (2 * m_))) (v := (.int (StrChars.lo8 ch))) (by rw [e25]; exact Ar28.1) (State.isArrayOf_alike hZ.alike Ar28.2.1) Ar28.2.2 hin28 hat28 (g := (mkF m 37 #[sr a1, si (Int32.ofNat (2 * m_ + 1))] [(.int (Int32.ofNat (2 * m_))), (.ref a1)])) rfl rfl (hb hby d11_37) _ (XS.sipush X25.here hx rfl (hb hby d11_38) (XS.iand X25.here hx rfl (hb hby d11_41) rfl k))) ?_
 obtain ⟨T29, X29, e29, st29⟩ := getS2 X25 hx hZ hown (host := "") (Or.inl (ww hw 43 rfl)) Via.refl e25 (hp8.ext O26.2) (g := (mkF m 42 #[sr a1, si (Int32.ofNat (2 * m_ + 1))] [(.int ((StrChars.lo8 ch) &&& (255 : Int32)))])) rfl (hb hby d11_42)
 refine go (S' := T29.setTop (mkF m 48 #[sr a1, si (Int32.ofNat (2 * m_ + 1))] [(.int (Int32.ofNat (2 * m_ + 1))), (.ref a1), (.int (((StrChars.lo8 ch) &&& (255 : Int32)) <<< ((0 : Int32) &&& 31)))])) (fun t k => st29 _ (XS.ishl X29.here hx rfl (hb hby d11_45) rfl (XS.aloadN X29.here hx rfl (hb hby d11_46) rfl rfl (XS.iloadN X29.here hx rfl (hb hby d11_47) rfl k)))) ?_
 obtain ⟨cl30, Ar30, q30, S30, M30, H30, G30⟩ := id hp0
 have hin30 : ¬ ((Int32.ofNat (2 * m_ + 1)) < 0 ∨ cl30.slots.size ≤ ((Int32.ofNat (2 * m_ + 1))).toNatClampNeg) := oj_in S30 rfl (by omega) (by omega)
 have hat30 : cl30.slots[((Int32.ofNat (2 * m_ + 1))).toNatClampNeg]? = some (.int (StrChars.hi8 ch)) := Has.at H30 hin30 (by rw [oj_n (by omega)]; exact hhi)
 refine go (S' := T29.setTop (mkF m 53 #[sr a1, si (Int32.ofNat (2 * m_ + 1))] [(.int ((StrChars.hi8 ch) &&& (255 : Int32))), (.int (((StrChars.lo8 ch) &&& (255 : Int32)) <<< ((0 : Int32) &&& 31)))])) (fun t k => X29.baloadBytes hx (j := (Int32.ofNat (2 * m_ + 1))) (v := (.int (StrChars.hi8 ch))) (by rw [e29]; exact Ar30.1) (State.isArrayOf_alike hZ.alike Ar30.2.1) Ar30.2.2 hin30 hat30 (g := (mkF m 48 #[sr a1, si (Int32.ofNat (2 * m_ + 1))] [(.int (Int32.ofNat (2 * m_ + 1))), (.ref a1), (.int (((StrChars.lo8 ch) &&& (255 : Int32)) <<< ((0 : Int32) &&& 31)))])) rfl rfl (hb hby d11_48) _ (XS.sipush X29.here hx rfl (hb hby d11_49) (XS.iand X29.here hx rfl (hb hby d11_52) rfl k))) ?_
 obtain ⟨T31, X31, e31, st31⟩ := getS2 X29 hx hZ hown (host := "") (Or.inl (ww hw 44 rfl)) Via.refl e29 (hp9.ext O26.2) (g := (mkF m 53 #[sr a1, si (Int32.ofNat (2 * m_ + 1))] [(.int ((StrChars.hi8 ch) &&& (255 : Int32))), (.int (((StrChars.lo8 ch) &&& (255 : Int32)) <<< ((0 : Int32) &&& 31)))])) rfl (hb hby d11_53)
 refine go (S' := T31.setTop (mkF m 59 #[sr a1, si (Int32.ofNat (2 * m_ + 1))] [(.int (((((StrChars.lo8 ch) &&& (255 : Int32)) <<< ((0 : Int32) &&& 31)) ||| (((StrChars.hi8 ch) &&& (255 : Int32)) <<< ((8 : Int32) &&& 31))).toUInt32.toUInt16.toUInt32.toInt32))])) (fun t k => st31 _ (XS.ishl X31.here hx rfl (hb hby d11_56) rfl (XS.ior X31.here hx rfl (hb hby d11_57) rfl (XS.i2c X31.here hx rfl (hb hby d11_58) rfl k)))) ?_
 refine finN X31 hx hk (t := .char) hret (by simp) (hb hby d11_59) (by decide) (by decide) ?_
 rw [e31]
 exact ⟨(by rw [narc]; exact congrArg (fun z => some (Value.int z)) (StrChars.pair_says hch.1 hch.2)), N0, rfl⟩
theorem d7_0 : decode jdk_52_method_14_code 0 = .ok (.iload_n 2, 1) := by decide +kernel
theorem d7_1 : decode jdk_52_method_14_code 1 = .ok (.invokestatic 107, 3) := by decide +kernel
theorem pd_1 : parseMethodDescriptor "(I)[B" = some ⟨[.int], some (.array .byte)⟩ := by decide +kernel
theorem d7_4 : decode jdk_52_method_14_code 4 = .ok (.astore_n 3, 1) := by decide +kernel
theorem d7_5 : decode jdk_52_method_14_code 5 = .ok (.iconst 0, 1) := by decide +kernel
theorem d7_6 : decode jdk_52_method_14_code 6 = .ok (.istore 4, 2) := by decide +kernel
theorem d7_8 : decode jdk_52_method_14_code 8 = .ok (.iload 4, 2) := by decide +kernel
theorem d7_10 : decode jdk_52_method_14_code 10 = .ok (.iload_n 2, 1) := by decide +kernel
theorem d7_11 : decode jdk_52_method_14_code 11 = .ok (.if_icmp .ge 21, 3) := by decide +kernel
theorem d7_32 : decode jdk_52_method_14_code 32 = .ok (.aload_n 3, 1) := by decide +kernel
theorem d7_33 : decode jdk_52_method_14_code 33 = .ok (.areturn, 1) := by decide +kernel
theorem d7_14 : decode jdk_52_method_14_code 14 = .ok (.aload_n 3, 1) := by decide +kernel
theorem d7_15 : decode jdk_52_method_14_code 15 = .ok (.iload 4, 2) := by decide +kernel
theorem d7_17 : decode jdk_52_method_14_code 17 = .ok (.aload_n 0, 1) := by decide +kernel
theorem d7_18 : decode jdk_52_method_14_code 18 = .ok (.iload_n 1, 1) := by decide +kernel
theorem d7_19 : decode jdk_52_method_14_code 19 = .ok (.caload, 1) := by decide +kernel
theorem d7_20 : decode jdk_52_method_14_code 20 = .ok (.invokestatic 111, 3) := by decide +kernel
theorem pd_2 : parseMethodDescriptor "([BII)V" = some ⟨[(.array .byte), .int, .int], none⟩ := by decide +kernel
theorem d7_23 : decode jdk_52_method_14_code 23 = .ok (.iinc 1 1, 3) := by decide +kernel
theorem d7_26 : decode jdk_52_method_14_code 26 = .ok (.iinc 4 1, 3) := by decide +kernel
theorem d7_29 : decode jdk_52_method_14_code 29 = .ok (.goto (-21), 3) := by decide +kernel
abbrev y_5 : MethodName := ⟨"java/lang/StringUTF16", "toBytes", "([CII)[B"⟩
theorem pn_5 : plainFor y_5 = true := by first | exact plainFor_of_name (by first | (simp [plainName, overriddenIn]; done) | decide +kernel) | decide +kernel
theorem ef_rmTob (m : MethodId) (a1 : Addr) (pn : Int32) : entryFrame m #[(.ref a1), (.int 0), (.int pn)] 5 = mkF m 0 #[sr a1, si 0, si pn, .unset, .unset] [] := by first | (simp [entryFrame, mkF, argsToLocals, Value.category]; done) | rfl
def Q_rmTob (Z : State) (a1 : Addr) (pn : Int32) (kC : ClassId) (cs : List Int32) (dC : Value) (h0 : Heap) (n0 : Nat) (v : Option Value) (h : Heap) (L : List Loc) : Prop := ∃ (t : Addr), ∃ (kb : ClassId), v = some (.ref t) ∧ Fr n0 L ∧ Keep h0 h [] ∧ (h0.size ≤ t) ∧ (Arv Z h t kb .byte (Int32.ofNat (2 * cs.length)) (StrChars.Road.wideBytes cs) (.int 0))
set_option maxRecDepth 65536 in
set_option maxHeartbeats 40000000 in
theorem rmTob (l : Launch) (Z : State) (a0 : Array Value) (hw : ∀ d ∈ tables_1, d.before a0 Z = true) (ws : List Jvm.Cond) (a1 : Addr) (pn : Int32) (kC : ClassId) (cs : List Int32) (dC : Value) (h0 : Heap) (n0 : Nat) (Z0 : n0 ≤ h0.size) (hn : pn = Int32.ofNat cs.length) (hl : cs.length ≤ 3) (hp2 : Arv Z h0 a1 kC .char pn (cs.map Value.int) dC) (hp3 : Sta Z Z.heap "java/lang/StringUTF16" "$assertionsDisabled" "Z" (.int 1)) (hp4 : Sta Z Z.heap "java/lang/StringUTF16" "HI_BYTE_SHIFT" "I" (.int 0)) (hp5 : Sta Z Z.heap "java/lang/StringUTF16" "LO_BYTE_SHIFT" "I" (.int 8)) (hp6 : Old Z n0 h0) :
    MetFree l y_5 (head1 (Jvm.Cond.code y_5 jdk_52_method_14_code 5 (some (.array .byte)) :: ws) ({ frames := 2, cells := 1, slots := 6, locals := 24 } : Room)) (fun a U => a = #[(.ref a1), (.int 0), (.int pn)] ∧ Z.Warmed39 U.vm ∧ U.heap = h0) (fun _ _ _ _ _ => True) (fun _ U o U' => ∃ v L, o = .returned v ∧ Q_rmTob Z a1 pn kC cs dC h0 n0 v U'.heap L ∧ FrameEnd U o U' L ({ frames := 2, cells := 1, slots := 6, locals := 24 } : Room).cells ({ frames := 2, cells := 1, slots := 6, locals := 24 } : Room).slots) := by
 refine bodyOf pn_5 (fun m => ef_rmTob m a1 pn) ?_
 intro p e s m below meth c T0 X0 hx hby hml hown hnm hret hk hZ e0
 have N0 := Fr.nil n0
 have K0 : Keep h0 h0 [] := Keep.refl _ _
 have O0 := hp6
 refine go (S' := T0.setTop (mkF m 1 #[sr a1, si 0, si pn, .unset, .unset] [(.int pn)])) (fun t k => XS.iloadN X0.here hx rfl (hb hby d7_0) rfl k) ?_
 obtain ⟨v32, T32, L32, X32, hQ32, st32⟩ := callSt X0 hx hZ (y := y_2) hown (ww hw 32 rfl) (ww hw 33 rfl) (ww hw 23 rfl) (ww hw 34 rfl) (by decide) (backOf (W := 0) (rmNbf l Z a0 hw [] pn cs.length h0 n0 (Nat.le_trans Z0 K0.1) hn hl) hZ (ww hw 34 rfl) (ww hw 23 rfl) (by decide) (by decide)) (g := (mkF m 1 #[sr a1, si 0, si pn, .unset, .unset] [(.int pn)])) rfl (by rw [hml]; rfl) (kc := 1) (ks := 6) (argsL := [(.int pn)]) (rest := []) (lenOf pd_1 rfl) rfl (mr0 rfl) (hb hby d7_1) e0 (by decide) (by decide)
 obtain ⟨t_32, kb_32, rfl, N32q, Kq32, q32_0, q32_1⟩ := hQ32
 have N32 := Fr.app N0 N32q
 have K33 : Keep h0 T32.heap [] := K0.trans Kq32 all0
 have lt_a1_t_32 : a1 < t_32 := Nat.lt_of_lt_of_le hp2.lt q32_0
 have sz_t_32 : h0.size ≤ t_32 := Nat.le_trans K0.1 q32_0
 have ge_t_32 : n0 ≤ t_32 := Nat.le_trans Z0 sz_t_32
 refine go (S' := T32.setTop (mkF m 8 #[sr a1, si 0, si pn, sr t_32, si 0] [])) (fun t k => st32 _ (XS.astoreN X32.here hx rfl (hb hby d7_4) rfl rfl (l' := #[sr a1, si 0, si pn, sr t_32, .unset]) rfl (XS.iconst X32.here hx rfl (hb hby d7_5) (XS.istore X32.here hx rfl (hb hby d7_6) rfl (l' := #[sr a1, si 0, si pn, sr t_32, si 0]) rfl k)))) ?_
 have loopT : ∀ (r : Nat) (i : Nat) (T : State) (locs : List Loc) (h : Heap), (i + r = cs.length) → Stand p l e ({ frames := 2, cells := 1, slots := 6, locals := 24 } : Room) s m #[(.ref a1), (.int 0), (.int pn)] below meth c T locs 1 6 → T.heap = h → Fr n0 locs → Keep h0 h [] → Arv Z h a1 kC .char pn (cs.map Value.int) dC → Arv Z h t_32 kb_32 .byte (Int32.ofNat (2 * cs.length)) (StrChars.Road.wideBytes (cs.take i)) (.int 0) → Goes p.tables e below (EndP s below (Q_rmTob Z a1 pn kC cs dC h0 n0) ({ frames := 2, cells := 1, slots := 6, locals := 24 } : Room).cells ({ frames := 2, cells := 1, slots := 6, locals := 24 } : Room).slots) (T.setTop (mkF m 8 #[sr a1, si (Int32.ofNat i), si pn, sr t_32, si (Int32.ofNat i)] [])) := by
  intro r
  induction r with
  | zero =>
   intro i T locs h hi X eT N K lf34_0 lf34_1
   refine go (S' := T.setTop (mkF m 11 #[sr a1, si (Int32.ofNat i), si pn, sr t_32, si (Int32.ofNat i)] [(.int pn), (.int (Int32.ofNat i))])) (fun t k => XS.iload X.here hx rfl (hb hby d7_8) rfl (XS.iloadN X.here hx rfl (hb hby d7_10) rfl k)) ?_
   have hc35 : ¬ ((Int32.ofNat i) < pn) := by rw [hn]; exact oj_nlt (by omega) (by omega) (by omega)
   refine go (S' := T.setTop (mkF m 33 #[sr a1, si (Int32.ofNat i), si pn, sr t_32, si (Int32.ofNat i)] [(.ref t_32)])) (fun t k => XS.icmpYes X.here hx rfl (pc0 := 11) (pc' := 32) rfl (hb hby d7_11) rfl (flt hc35).2.1 (by decide) (by decide) (XS.aloadN X.here hx rfl (hb hby d7_32) rfl rfl k)) ?_
   refine finR X hx hk hret rfl rfl (hb hby d7_33) (by decide) (by decide) ?_
   have ht : cs.take i = cs := List.take_of_length_le (by omega)
   rw [eT]
   exact ⟨t_32, kb_32, rfl, N, K, sz_t_32, by have q := lf34_1; rw [ht] at q; exact q⟩
  | succ r ih =>
   intro i T locs h hi X eT N K lf34_0 lf34_1
   refine go (S' := T.setTop (mkF m 11 #[sr a1, si (Int32.ofNat i), si pn, sr t_32, si (Int32.ofNat i)] [(.int pn), (.int (Int32.ofNat i))])) (fun t k => XS.iload X.here hx rfl (hb hby d7_8) rfl (XS.iloadN X.here hx rfl (hb hby d7_10) rfl k)) ?_
   have hc36 : (Int32.ofNat i) < pn := by rw [hn]; exact oj_lt (by omega) (by omega)
   refine go (S' := T.setTop (mkF m 19 #[sr a1, si (Int32.ofNat i), si pn, sr t_32, si (Int32.ofNat i)] [(.int (Int32.ofNat i)), (.ref a1), (.int (Int32.ofNat i)), (.ref t_32)])) (fun t k => XS.icmpNo X.here hx rfl (hb hby d7_11) rfl (tlt hc36).2.1 (XS.aloadN X.here hx rfl (hb hby d7_14) rfl rfl (XS.iload X.here hx rfl (hb hby d7_15) rfl (XS.aloadN X.here hx rfl (hb hby d7_17) rfl rfl (XS.iloadN X.here hx rfl (hb hby d7_18) rfl k))))) ?_
   obtain ⟨cl37, Ar37, q37, S37, M37, H37, G37⟩ := id lf34_0
   have hin37 : ¬ ((Int32.ofNat i) < 0 ∨ cl37.slots.size ≤ ((Int32.ofNat i)).toNatClampNeg) := oj_in S37 hn (by omega) (by omega)
   have hat37 : cl37.slots[((Int32.ofNat i)).toNatClampNeg]? = some (.int (cs.getD i 0)) := Has.at H37 hin37 (by rw [oj_n (by omega)]; exact oj_get cs (by omega) _)
   refine go (S' := T.setTop (mkF m 20 #[sr a1, si (Int32.ofNat i), si pn, sr t_32, si (Int32.ofNat i)] [(.int (cs.getD i 0)), (.int (Int32.ofNat i)), (.ref t_32)])) (fun t k => X.caload hx (j := (Int32.ofNat i)) (v := (.int (cs.getD i 0))) (by rw [eT]; exact Ar37.1) (State.isArrayOf_alike hZ.alike Ar37.2.1) Ar37.2.2 hin37 hat37 (g := (mkF m 19 #[sr a1, si (Int32.ofNat i), si pn, sr t_32, si (Int32.ofNat i)] [(.int (Int32.ofNat i)), (.ref a1), (.int (Int32.ofNat i)), (.ref t_32)])) rfl rfl (hb hby d7_19) _ k) ?_
   have O38 : Old Z n0 h := O0.keep K all0
   obtain ⟨v39, T39, L39, X39, hQ39, st39⟩ := callSt X hx hZ (y := y_3) hown (ww hw 39 rfl) (ww hw 40 rfl) (ww hw 23 rfl) (ww hw 41 rfl) (by decide) (backOf (W := 0) (rmPut l Z a0 hw [] t_32 (Int32.ofNat i) (cs.getD i 0) kb_32 i cs.length (StrChars.Road.wideBytes (cs.take i)) h n0 (Nat.le_trans Z0 K.1) lf34_1 rfl (by rw [wide_len, List.length_take]; omega) (by omega) hl ge_t_32 hp3 hp4 hp5 O38) hZ (ww hw 41 rfl) (ww hw 23 rfl) (by decide) (by decide)) (g := (mkF m 20 #[sr a1, si (Int32.ofNat i), si pn, sr t_32, si (Int32.ofNat i)] [(.int (cs.getD i 0)), (.int (Int32.ofNat i)), (.ref t_32)])) rfl (by rw [hml]; rfl) (kc := 0) (ks := 0) (argsL := [(.ref t_32), (.int (Int32.ofNat i)), (.int (cs.getD i 0))]) (rest := []) (lenOf pd_2 rfl) rfl (mr0 rfl) (hb hby d7_20) eT (by decide) (by decide)
   obtain ⟨rfl, N39q, Kq39, q39_0⟩ := hQ39
   have N39 := Fr.app N N39q
   have K40 : Keep h0 T39.heap [] := K.trans Kq39 (allS (P := fun x => x ∈ [] ∨ h0.size ≤ x) (Or.inr sz_t_32) all0)
   refine go (S' := T39.setTop (mkF m 8 #[sr a1, si ((Int32.ofNat i) + (1 : Int32)), si pn, sr t_32, si ((Int32.ofNat i) + (1 : Int32))] [])) (fun t k => st39 _ (XS.iinc X39.here hx rfl (hb hby d7_23) rfl (l' := #[sr a1, si ((Int32.ofNat i) + (1 : Int32)), si pn, sr t_32, si (Int32.ofNat i)]) rfl (XS.iinc X39.here hx rfl (hb hby d7_26) rfl (l' := #[sr a1, si ((Int32.ofNat i) + (1 : Int32)), si pn, sr t_32, si ((Int32.ofNat i) + (1 : Int32))]) rfl (XS.goto X39.here hx rfl (pc0 := 29) (pc' := 8) rfl (hb hby d7_29) (by decide) (by decide) k)))) ?_
   have V41 : Arv Z T39.heap t_32 kb_32 .byte (Int32.ofNat (2 * cs.length)) (StrChars.Road.wideBytes (cs.take (i + 1))) (.int 0) := by rw [← oj_take1 cs (by omega), wide_snoc]; exact q39_0
   rw [oj_one i]
   have f42 : Arv Z T39.heap a1 kC .char pn (cs.map Value.int) dC := (lf34_0.keep Kq39 (ninS (Nat.ne_of_lt lt_a1_t_32) nin0))
   exact ih (i + 1) _ _ _ (by omega) X39 rfl N39 K40 f42 V41
 exact loopT cs.length 0 _ _ _ (Nat.zero_add _) X32 rfl N32 K33 (hp2.keep K33 nin0) q32_1
theorem d5_0 : decode jdk_52_method_16_code 0 = .ok (.iload_n 2, 1) := by decide +kernel
theorem d5_1 : decode jdk_52_method_16_code 1 = .ok (.newarray .byte, 2) := by decide +kernel
theorem d5_3 : decode jdk_52_method_16_code 3 = .ok (.astore_n 3, 1) := by decide +kernel
theorem d5_4 : decode jdk_52_method_16_code 4 = .ok (.aload_n 0, 1) := by decide +kernel
theorem d5_5 : decode jdk_52_method_16_code 5 = .ok (.iload_n 1, 1) := by decide +kernel
theorem d5_6 : decode jdk_52_method_16_code 6 = .ok (.aload_n 3, 1) := by decide +kernel
theorem d5_7 : decode jdk_52_method_16_code 7 = .ok (.iconst 0, 1) := by decide +kernel
theorem d5_8 : decode jdk_52_method_16_code 8 = .ok (.iload_n 2, 1) := by decide +kernel
theorem d5_9 : decode jdk_52_method_16_code 9 = .ok (.invokestatic 115, 3) := by decide +kernel
theorem pd_3 : parseMethodDescriptor "([CI[BII)I" = some ⟨[(.array .char), .int, (.array .byte), .int, .int], some .int⟩ := by decide +kernel
theorem d5_12 : decode jdk_52_method_16_code 12 = .ok (.istore 4, 2) := by decide +kernel
theorem d5_14 : decode jdk_52_method_16_code 14 = .ok (.iload 4, 2) := by decide +kernel
theorem d5_16 : decode jdk_52_method_16_code 16 = .ok (.iload_n 2, 1) := by decide +kernel
theorem d5_17 : decode jdk_52_method_16_code 17 = .ok (.if_icmp .eq 40, 3) := by decide +kernel
theorem d5_57 : decode jdk_52_method_16_code 57 = .ok (.aload_n 3, 1) := by decide +kernel
theorem d5_58 : decode jdk_52_method_16_code 58 = .ok (.areturn, 1) := by decide +kernel
theorem d5_20 : decode jdk_52_method_16_code 20 = .ok (.aload_n 0, 1) := by decide +kernel
theorem d5_21 : decode jdk_52_method_16_code 21 = .ok (.iload_n 1, 1) := by decide +kernel
theorem d5_22 : decode jdk_52_method_16_code 22 = .ok (.iload_n 2, 1) := by decide +kernel
theorem d5_23 : decode jdk_52_method_16_code 23 = .ok (.invokestatic 119, 3) := by decide +kernel
theorem pd_4 : parseMethodDescriptor "([CII)[B" = some ⟨[(.array .char), .int, .int], some (.array .byte)⟩ := by decide +kernel
theorem d5_26 : decode jdk_52_method_16_code 26 = .ok (.astore 5, 2) := by decide +kernel
theorem d5_28 : decode jdk_52_method_16_code 28 = .ok (.aload 5, 2) := by decide +kernel
theorem d5_30 : decode jdk_52_method_16_code 30 = .ok (.iload 4, 2) := by decide +kernel
theorem d5_32 : decode jdk_52_method_16_code 32 = .ok (.invokestatic 71, 3) := by decide +kernel
theorem pd_5 : parseMethodDescriptor "([BI)C" = some ⟨[(.array .byte), .int], some .char⟩ := by decide +kernel
theorem d5_35 : decode jdk_52_method_16_code 35 = .ok (.sipush 255, 3) := by decide +kernel
theorem d5_38 : decode jdk_52_method_16_code 38 = .ok (.if_icmp .gt 16, 3) := by decide +kernel
theorem d5_54 : decode jdk_52_method_16_code 54 = .ok (.aload 5, 2) := by decide +kernel
theorem d5_56 : decode jdk_52_method_16_code 56 = .ok (.areturn, 1) := by decide +kernel
abbrev y_6 : MethodName := ⟨"java/lang/StringUTF16", "compress", "([CII)[B"⟩
theorem pn_6 : plainFor y_6 = true := by first | exact plainFor_of_name (by first | (simp [plainName, overriddenIn]; done) | decide +kernel) | decide +kernel
theorem ef_rmCmp3 (m : MethodId) (a1 : Addr) (pn : Int32) : entryFrame m #[(.ref a1), (.int 0), (.int pn)] 6 = mkF m 0 #[sr a1, si 0, si pn, .unset, .unset, .unset] [] := by first | (simp [entryFrame, mkF, argsToLocals, Value.category]; done) | rfl
def Q_rmCmp3 (Z : State) (a1 : Addr) (pn : Int32) (kC : ClassId) (cs : List Int32) (dC : Value) (h0 : Heap) (n0 : Nat) (v : Option Value) (h : Heap) (L : List Loc) : Prop := ∃ (t : Addr), ∃ (kb : ClassId), ∃ (cd : Int32), ∃ (N2 : Int32), ∃ (vs : List Value), v = some (.ref t) ∧ Fr n0 L ∧ Keep h0 h [] ∧ (h0.size ≤ t) ∧ (Arv Z h t kb .byte N2 vs (.int 0)) ∧ (StrChars.Road.CodA cs cd N2 vs)
set_option maxRecDepth 65536 in
set_option maxHeartbeats 40000000 in
theorem rmCmp3 (l : Launch) (Z : State) (a0 : Array Value) (hw : ∀ d ∈ tables_1, d.before a0 Z = true) (ws : List Jvm.Cond) (a1 : Addr) (pn : Int32) (kC : ClassId) (cs : List Int32) (dC : Value) (h0 : Heap) (n0 : Nat) (Z0 : n0 ≤ h0.size) (hn : pn = Int32.ofNat cs.length) (hl : cs.length ≤ 3) (hpc : ∀ c ∈ cs, ¬ c < 0 ∧ ¬ (65535 : Int32) < c) (hp3 : Arv Z h0 a1 kC .char pn (cs.map Value.int) dC) (hp4 : Sta Z Z.heap "java/lang/StringUTF16" "$assertionsDisabled" "Z" (.int 1)) (hp5 : Sta Z Z.heap "java/lang/StringUTF16" "HI_BYTE_SHIFT" "I" (.int 0)) (hp6 : Sta Z Z.heap "java/lang/StringUTF16" "LO_BYTE_SHIFT" "I" (.int 8)) (hp7 : Old Z n0 h0) :
    MetFree l y_6 (head1 (Jvm.Cond.code y_6 jdk_52_method_16_code 6 (some (.array .byte)) :: ws) ({ frames := 3, cells := 2, slots := 9, locals := 40 } : Room)) (fun a U => a = #[(.ref a1), (.int 0), (.int pn)] ∧ Z.Warmed39 U.vm ∧ U.heap = h0) (fun _ _ _ _ _ => True) (fun _ U o U' => ∃ v L, o = .returned v ∧ Q_rmCmp3 Z a1 pn kC cs dC h0 n0 v U'.heap L ∧ FrameEnd U o U' L ({ frames := 3, cells := 2, slots := 9, locals := 40 } : Room).cells ({ frames := 3, cells := 2, slots := 9, locals := 40 } : Room).slots) := by
 refine bodyOf pn_6 (fun m => ef_rmCmp3 m a1 pn) ?_
 intro p e s m below meth c T0 X0 hx hby hml hown hnm hret hk hZ e0
 have N0 := Fr.nil n0
 have K0 : Keep h0 h0 [] := Keep.refl _ _
 have O0 := hp7
 refine go (S' := T0.setTop (mkF m 1 #[sr a1, si 0, si pn, .unset, .unset, .unset] [(.int pn)])) (fun t k => XS.iloadN X0.here hx rfl (hb hby d5_0) rfl k) ?_
 obtain ⟨T43, h43, k43, X43, e43, E43, A43, st43⟩ := newP X0 hx hZ (ww hw 25 rfl) e0 (g := (mkF m 1 #[sr a1, si 0, si pn, .unset, .unset, .unset] [(.int pn)])) rfl (hb hby d5_1) rfl (by rw [hn]; exact oj_nn (by omega)) (cap := 3) (by rw [hn, oj_n (by omega)]; omega) (by decide) (by decide) (by decide)
 obtain ⟨b43, g43⟩ : ∃ z, z = h0.size := ⟨_, rfl⟩
 rw [← g43] at A43 st43
 have lt_a1_b43 : a1 < b43 := by rw [g43]; exact hp3.lt
 have ge_b43 : n0 ≤ b43 := by rw [g43]; exact (Nat.le_trans Z0 K0.1)
 have sz_b43 : h0.size ≤ b43 := by rw [g43]; exact K0.1
 have K44 : Keep h0 h43 [] := K0.ext E43
 have V43 : Arv Z h43 b43 k43 .byte pn [] (.int 0) := Arv.new A43 (by rw [hn]; exact oj_nn (by omega))
 refine go (S' := T43.setTop (mkF m 9 #[sr a1, si 0, si pn, sr b43, .unset, .unset] [(.int pn), (.int 0), (.ref b43), (.int 0), (.ref a1)])) (fun t k => st43 _ (XS.astoreN X43.here hx rfl (hb hby d5_3) rfl rfl (l' := #[sr a1, si 0, si pn, sr b43, .unset, .unset]) rfl (XS.aloadN X43.here hx rfl (hb hby d5_4) rfl rfl (XS.iloadN X43.here hx rfl (hb hby d5_5) rfl (XS.aloadN X43.here hx rfl (hb hby d5_6) rfl rfl (XS.iconst X43.here hx rfl (hb hby d5_7) (XS.iloadN X43.here hx rfl (hb hby d5_8) rfl k))))))) ?_
 obtain ⟨v45, T45, L45, X45, hQ45, st45⟩ := callSt X43 hx hZ (y := y_0) hown (ww hw 26 rfl) (ww hw 27 rfl) (ww hw 23 rfl) (ww hw 28 rfl) (by decide) (backOf (W := 0) (rmCmp5 l Z a0 hw [] a1 b43 pn kC k43 cs dC h43 n0 (Nat.le_trans Z0 K44.1) hn hl (hp3.keep K44 nin0) V43 ge_b43 (Nat.ne_of_lt lt_a1_b43)) hZ (ww hw 28 rfl) (ww hw 23 rfl) (by decide) (by decide)) (g := (mkF m 9 #[sr a1, si 0, si pn, sr b43, .unset, .unset] [(.int pn), (.int 0), (.ref b43), (.int 0), (.ref a1)])) rfl (by rw [hml]; rfl) (kc := 0) (ks := 0) (argsL := [(.ref a1), (.int 0), (.ref b43), (.int 0), (.int pn)]) (rest := []) (lenOf pd_3 rfl) rfl (mr0 rfl) (hb hby d5_9) e43 (by decide) (by decide)
 obtain ⟨rfl, N45q, Kq45, q45_0⟩ := hQ45
 have N45 := Fr.app N0 N45q
 have K46 : Keep h0 T45.heap [] := K44.trans Kq45 (allS (P := fun x => x ∈ [] ∨ h0.size ≤ x) (Or.inr sz_b43) all0)
 refine go (S' := T45.setTop (mkF m 17 #[sr a1, si 0, si pn, sr b43, si (Int32.ofNat (own_k cs)), .unset] [(.int pn), (.int (Int32.ofNat (own_k cs)))])) (fun t k => st45 _ (XS.istore X45.here hx rfl (hb hby d5_12) rfl (l' := #[sr a1, si 0, si pn, sr b43, si (Int32.ofNat (own_k cs)), .unset]) rfl (XS.iload X45.here hx rfl (hb hby d5_14) rfl (XS.iloadN X45.here hx rfl (hb hby d5_16) rfl k)))) ?_
 by_cases hq : own_k cs = cs.length
 ·
  have hqq : (Int32.ofNat (own_k cs)) = pn := by rw [hn, hq]
  refine go (S' := T45.setTop (mkF m 58 #[sr a1, si 0, si pn, sr b43, si (Int32.ofNat (own_k cs)), .unset] [(.ref b43)])) (fun t k => XS.icmpYes X45.here hx rfl (pc0 := 17) (pc' := 57) rfl (hb hby d5_17) rfl (teq hqq).1 (by decide) (by decide) (XS.aloadN X45.here hx rfl (hb hby d5_57) rfl rfl k)) ?_
  refine finR X45 hx hk hret rfl rfl (hb hby d5_58) (by decide) (by decide) ?_
  have hV : (cs.take (own_k cs)) = cs := List.take_of_length_le (by omega)
  exact ⟨b43, k43, 0, pn, _, rfl, N45, K46, sz_b43, q45_0, Or.inl ⟨rfl, hn, by rw [hV], own_k_lo cs hq⟩⟩
 ·
  have hkk := own_k_hi cs hq
  have hqq : ¬ ((Int32.ofNat (own_k cs)) = pn) := fun q => hq (oj_inj (by omega) (by omega) (q.trans hn))
  refine go (S' := T45.setTop (mkF m 23 #[sr a1, si 0, si pn, sr b43, si (Int32.ofNat (own_k cs)), .unset] [(.int pn), (.int 0), (.ref a1)])) (fun t k => XS.icmpNo X45.here hx rfl (hb hby d5_17) rfl (feq hqq).1 (XS.aloadN X45.here hx rfl (hb hby d5_20) rfl rfl (XS.iloadN X45.here hx rfl (hb hby d5_21) rfl (XS.iloadN X45.here hx rfl (hb hby d5_22) rfl k)))) ?_
  have O47 : Old Z n0 T45.heap := O0.keep K46 all0
  obtain ⟨v48, T48, L48, X48, hQ48, st48⟩ := callSt X45 hx hZ (y := y_5) hown (ww hw 29 rfl) (ww hw 30 rfl) (ww hw 23 rfl) (ww hw 31 rfl) (by decide) (backOf (W := 0) (rmTob l Z a0 hw [] a1 pn kC cs dC T45.heap n0 (Nat.le_trans Z0 K46.1) hn hl (hp3.keep K46 nin0) hp4 hp5 hp6 O47) hZ (ww hw 31 rfl) (ww hw 23 rfl) (by decide) (by decide)) (g := (mkF m 23 #[sr a1, si 0, si pn, sr b43, si (Int32.ofNat (own_k cs)), .unset] [(.int pn), (.int 0), (.ref a1)])) rfl (by rw [hml]; rfl) (kc := 1) (ks := 6) (argsL := [(.ref a1), (.int 0), (.int pn)]) (rest := []) (lenOf pd_4 rfl) rfl (mr0 rfl) (hb hby d5_23) rfl (by decide) (by decide)
  obtain ⟨t_48, kb_48, rfl, N48q, Kq48, q48_0, q48_1⟩ := hQ48
  have N48 := Fr.app N45 N48q
  have K49 : Keep h0 T48.heap [] := K46.trans Kq48 all0
  have lt_a1_t_48 : a1 < t_48 := Nat.lt_of_lt_of_le (hp3.keep K46 nin0).lt q48_0
  have lt_b43_t_48 : b43 < t_48 := Nat.lt_of_lt_of_le q45_0.lt q48_0
  have sz_t_48 : h0.size ≤ t_48 := Nat.le_trans K46.1 q48_0
  have ge_t_48 : n0 ≤ t_48 := Nat.le_trans Z0 sz_t_48
  refine go (S' := T48.setTop (mkF m 32 #[sr a1, si 0, si pn, sr b43, si (Int32.ofNat (own_k cs)), sr t_48] [(.int (Int32.ofNat (own_k cs))), (.ref t_48)])) (fun t k => st48 _ (XS.astore X48.here hx rfl (hb hby d5_26) rfl rfl (l' := #[sr a1, si 0, si pn, sr b43, si (Int32.ofNat (own_k cs)), sr t_48]) rfl (XS.aload X48.here hx rfl (hb hby d5_28) rfl rfl (XS.iload X48.here hx rfl (hb hby d5_30) rfl k)))) ?_
  have O50 : Old Z n0 T48.heap := O0.keep K49 all0
  obtain ⟨v51, T51, L51, X51, hQ51, st51⟩ := callSt X48 hx hZ (y := y_4) hown (ww hw 45 rfl) (ww hw 46 rfl) (ww hw 23 rfl) (ww hw 47 rfl) (by decide) (backOf (W := 0) (rmGet l Z a0 hw [] t_48 (Int32.ofNat (own_k cs)) kb_48 (own_k cs) cs.length (StrChars.Road.wideBytes cs) (cs.getD (own_k cs) 0) T48.heap n0 (Nat.le_trans Z0 K49.1) q48_1 rfl hkk.1 hl (StrChars.Road.wide_lo _ cs _ hkk.1) (StrChars.Road.wide_hi _ cs _ hkk.1) (hpc _ (oj_mem hkk.1)) hp4 hp5 hp6 O50) hZ (ww hw 47 rfl) (ww hw 23 rfl) (by decide) (by decide)) (g := (mkF m 32 #[sr a1, si 0, si pn, sr b43, si (Int32.ofNat (own_k cs)), sr t_48] [(.int (Int32.ofNat (own_k cs))), (.ref t_48)])) rfl (by rw [hml]; rfl) (kc := 0) (ks := 0) (argsL := [(.ref t_48), (.int (Int32.ofNat (own_k cs)))]) (rest := []) (lenOf pd_5 rfl) rfl (mr0 rfl) (hb hby d5_32) rfl (by decide) (by decide)
  obtain ⟨rfl, N51q, e51⟩ := hQ51
  have N51 := Fr.app N48 N51q
  refine go (S' := T51.setTop (mkF m 56 #[sr a1, si 0, si pn, sr b43, si (Int32.ofNat (own_k cs)), sr t_48] [(.ref t_48)])) (fun t k => st51 _ (XS.sipush X51.here hx rfl (hb hby d5_35) (XS.icmpYes X51.here hx rfl (pc0 := 38) (pc' := 54) rfl (hb hby d5_38) rfl (tlt hkk.2).2.2.1 (by decide) (by decide) (XS.aload X51.here hx rfl (hb hby d5_54) rfl rfl k)))) ?_
  refine finR X51 hx hk hret rfl rfl (hb hby d5_56) (by decide) (by decide) ?_
  rw [e51]
  exact ⟨t_48, kb_48, 1, _, _, rfl, N51, K49, sz_t_48, q48_1, Or.inr ⟨rfl, rfl, rfl, _, oj_mem hkk.1, hkk.2⟩⟩
theorem d12_0 : decode jdk_52_method_15_code 0 = .ok (.iload_n 1, 1) := by decide +kernel
theorem d12_1 : decode jdk_52_method_15_code 1 = .ok (.aload_n 0, 1) := by decide +kernel
theorem d12_2 : decode jdk_52_method_15_code 2 = .ok (.arraylength, 1) := by decide +kernel
theorem d12_3 : decode jdk_52_method_15_code 3 = .ok (.isub, 1) := by decide +kernel
theorem d12_4 : decode jdk_52_method_15_code 4 = .ok (.bipush 31, 2) := by decide +kernel
theorem d12_6 : decode jdk_52_method_15_code 6 = .ok (.iushr, 1) := by decide +kernel
theorem d12_7 : decode jdk_52_method_15_code 7 = .ok (.i2b, 1) := by decide +kernel
theorem d12_8 : decode jdk_52_method_15_code 8 = .ok (.ireturn, 1) := by decide +kernel
abbrev y_7 : MethodName := ⟨"java/lang/StringUTF16", "coderFromArrayLen", "([BI)B"⟩
theorem pn_7 : plainFor y_7 = true := by first | exact plainFor_of_name (by first | (simp [plainName, overriddenIn]; done) | decide +kernel) | decide +kernel
theorem ef_rmCfl (m : MethodId) (a1 : Addr) (pn : Int32) : entryFrame m #[(.ref a1), (.int pn)] 2 = mkF m 0 #[sr a1, si pn] [] := by first | (simp [entryFrame, mkF, argsToLocals, Value.category]; done) | rfl
def Q_rmCfl (Z : State) (a1 : Addr) (pn : Int32) (kb : ClassId) (cd : Int32) (N2 : Int32) (vs : List Value) (cs : List Int32) (h0 : Heap) (n0 : Nat) (v : Option Value) (h : Heap) (L : List Loc) : Prop := v = some (.int cd) ∧ Fr n0 L ∧ h = h0
set_option maxRecDepth 65536 in
set_option maxHeartbeats 40000000 in
theorem rmCfl (l : Launch) (Z : State) (a0 : Array Value) (hw : ∀ d ∈ tables_1, d.before a0 Z = true) (ws : List Jvm.Cond) (a1 : Addr) (pn : Int32) (kb : ClassId) (cd : Int32) (N2 : Int32) (vs : List Value) (cs : List Int32) (h0 : Heap) (n0 : Nat) (Z0 : n0 ≤ h0.size) (hp0 : Arv Z h0 a1 kb .byte N2 vs (.int 0)) (hcod : StrChars.Road.CodA cs cd N2 vs) (hn : pn = Int32.ofNat cs.length) (hl : cs.length ≤ 4000) (hl0 : 0 < cs.length) :
    MetFree l y_7 (head1 (Jvm.Cond.code y_7 jdk_52_method_15_code 2 (some .byte) :: ws) ({ frames := 0, cells := 0, slots := 0, locals := 0 } : Room)) (fun a U => a = #[(.ref a1), (.int pn)] ∧ Z.Warmed39 U.vm ∧ U.heap = h0) (fun _ _ _ _ _ => True) (fun _ U o U' => ∃ v L, o = .returned v ∧ Q_rmCfl Z a1 pn kb cd N2 vs cs h0 n0 v U'.heap L ∧ FrameEnd U o U' L ({ frames := 0, cells := 0, slots := 0, locals := 0 } : Room).cells ({ frames := 0, cells := 0, slots := 0, locals := 0 } : Room).slots) := by
 refine bodyOf pn_7 (fun m => ef_rmCfl m a1 pn) ?_
 intro p e s m below meth c T0 X0 hx hby hml hown hnm hret hk hZ e0
 have N0 := Fr.nil n0
 have K0 : Keep h0 h0 [] := Keep.refl _ _
 refine go (S' := T0.setTop (mkF m 2 #[sr a1, si pn] [(.ref a1), (.int pn)])) (fun t k => XS.iloadN X0.here hx rfl (hb hby d12_0) rfl (XS.aloadN X0.here hx rfl (hb hby d12_1) rfl rfl k)) ?_
 obtain ⟨cl52, Ar52, -, S52, M52, -, -⟩ := id hp0
 refine go (S' := T0.setTop (mkF m 8 #[sr a1, si pn] [(.int ((((pn - N2).toUInt32 >>> ((31 : Int32) &&& 31).toUInt32).toInt32).toInt8.toInt32))])) (fun t k => X0.arraylength hx (by rw [e0]; exact Ar52.1) (State.isArrayOf_alike hZ.alike Ar52.2.1) (g := (mkF m 2 #[sr a1, si pn] [(.ref a1), (.int pn)])) rfl rfl (hb hby d12_2) _ (by rw [len_of S52 M52]; exact (XS.isub X0.here hx rfl (hb hby d12_3) rfl (XS.bipush X0.here hx rfl (hb hby d12_4) (XS.iushr X0.here hx rfl (hb hby d12_6) rfl (XS.i2b X0.here hx rfl (hb hby d12_7) rfl k)))))) ?_
 refine finN X0 hx hk (t := .byte) hret (by simp) (hb hby d12_8) (by decide) (by decide) ?_
 rw [e0]
 exact ⟨(congrArg (fun z => some (Value.int z)) (by rcases hcod with ⟨q1, q2, -⟩ | ⟨q1, q2, -⟩; rw [hn, q1, q2]; exact oj_cod0 hl; rw [hn, q1, q2]; exact oj_cod1 hl0 hl)), N0, rfl⟩
theorem d3_0 : decode jdk_42_method_149_code 0 = .ok (.aload_n 0, 1) := by decide +kernel
theorem d3_1 : decode jdk_42_method_149_code 1 = .ok (.invokespecial 1, 3) := by decide +kernel
theorem d3_4 : decode jdk_42_method_149_code 4 = .ok (.iload_n 3, 1) := by decide +kernel
theorem d3_5 : decode jdk_42_method_149_code 5 = .ok (.ifCond .ne 22, 3) := by decide +kernel
theorem d3_27 : decode jdk_42_method_149_code 27 = .ok (.getstatic 38, 3) := by decide +kernel
theorem d3_30 : decode jdk_42_method_149_code 30 = .ok (.ifCond .eq 28, 3) := by decide +kernel
theorem d3_33 : decode jdk_42_method_149_code 33 = .ok (.aload_n 1, 1) := by decide +kernel
theorem d3_34 : decode jdk_42_method_149_code 34 = .ok (.iload_n 2, 1) := by decide +kernel
theorem d3_35 : decode jdk_42_method_149_code 35 = .ok (.iload_n 3, 1) := by decide +kernel
theorem d3_36 : decode jdk_42_method_149_code 36 = .ok (.invokestatic 177, 3) := by decide +kernel
theorem d3_39 : decode jdk_42_method_149_code 39 = .ok (.astore 5, 2) := by decide +kernel
theorem d3_41 : decode jdk_42_method_149_code 41 = .ok (.aload_n 0, 1) := by decide +kernel
theorem d3_42 : decode jdk_42_method_149_code 42 = .ok (.aload 5, 2) := by decide +kernel
theorem d3_44 : decode jdk_42_method_149_code 44 = .ok (.iload_n 3, 1) := by decide +kernel
theorem d3_45 : decode jdk_42_method_149_code 45 = .ok (.invokestatic 47, 3) := by decide +kernel
theorem pd_6 : parseMethodDescriptor "([BI)B" = some ⟨[(.array .byte), .int], some .byte⟩ := by decide +kernel
theorem d3_48 : decode jdk_42_method_149_code 48 = .ok (.putfield 15, 3) := by decide +kernel
theorem d3_51 : decode jdk_42_method_149_code 51 = .ok (.aload_n 0, 1) := by decide +kernel
theorem d3_52 : decode jdk_42_method_149_code 52 = .ok (.aload 5, 2) := by decide +kernel
theorem d3_54 : decode jdk_42_method_149_code 54 = .ok (.putfield 9, 3) := by decide +kernel
theorem d3_57 : decode jdk_42_method_149_code 57 = .ok (.return_, 1) := by decide +kernel
abbrev y_8 : MethodName := ⟨"java/lang/String", "<init>", "([CIILjava/lang/Void;)V"⟩
theorem pn_8 : plainFor y_8 = true := by first | exact plainFor_of_name (by first | (simp [plainName, overriddenIn]; done) | decide +kernel) | decide +kernel
theorem ef_rmInit4 (m : MethodId) (x1 : Addr) (b1 : Addr) (pn : Int32) : entryFrame m #[(.ref x1), (.ref b1), (.int 0), (.int pn), .null] 6 = mkF m 0 #[sr x1, sr b1, si 0, si pn, .val .null, .unset] [] := by first | (simp [entryFrame, mkF, argsToLocals, Value.category]; done) | rfl
def Q_rmInit4 (Z : State) (x1 : Addr) (b1 : Addr) (pn : Int32) (kC : ClassId) (cs : List Int32) (dC : Value) (G1 : Int32) (h0 : Heap) (n0 : Nat) (v : Option Value) (h : Heap) (L : List Loc) : Prop := ∃ (t : Addr), ∃ (cd : Int32), v = none ∧ Fr n0 L ∧ Keep h0 h [x1] ∧ (h0.size ≤ t) ∧ (t ≠ x1) ∧ (Str Z h x1 t cd cs)
set_option maxRecDepth 65536 in
set_option maxHeartbeats 40000000 in
theorem rmInit4 (l : Launch) (Z : State) (a0 : Array Value) (hw : ∀ d ∈ tables_1, d.before a0 Z = true) (ws : List Jvm.Cond) (x1 : Addr) (b1 : Addr) (pn : Int32) (kC : ClassId) (cs : List Int32) (dC : Value) (G1 : Int32) (h0 : Heap) (n0 : Nat) (Z0 : n0 ≤ h0.size) (hn : pn = Int32.ofNat cs.length) (hl : cs.length ≤ 3) (hl0 : 0 < cs.length) (hpc : ∀ c ∈ cs, ¬ c < 0 ∧ ¬ (65535 : Int32) < c) (hp4 : Arv Z h0 b1 kC .char pn (cs.map Value.int) dC) (hp5 : Exa Z h0 x1 "java/lang/String") (hp6 : Fld Z h0 x1 "java/lang/String" "value" "[B" .null) (hp7 : Fld Z h0 x1 "java/lang/String" "coder" "B" (.int 0)) (hp8 : n0 ≤ x1) (hp9 : x1 ≠ b1) (hp10 : Sta Z Z.heap "java/lang/String" "COMPACT_STRINGS" "Z" (.int G1)) (hG1 : ¬ (G1 = (0 : Int32))) (hp12 : Sta Z Z.heap "java/lang/StringUTF16" "$assertionsDisabled" "Z" (.int 1)) (hp13 : Sta Z Z.heap "java/lang/StringUTF16" "HI_BYTE_SHIFT" "I" (.int 0)) (hp14 : Sta Z Z.heap "java/lang/StringUTF16" "LO_BYTE_SHIFT" "I" (.int 8)) (hp15 : Old Z n0 h0) :
    MetFree l y_8 (head1 (Jvm.Cond.code y_8 jdk_42_method_149_code 6 none :: ws) ({ frames := 4, cells := 2, slots := 9, locals := 57 } : Room)) (fun a U => a = #[(.ref x1), (.ref b1), (.int 0), (.int pn), .null] ∧ Z.Warmed39 U.vm ∧ U.heap = h0) (fun _ _ _ _ _ => True) (fun _ U o U' => ∃ v L, o = .returned v ∧ Q_rmInit4 Z x1 b1 pn kC cs dC G1 h0 n0 v U'.heap L ∧ FrameEnd U o U' L ({ frames := 4, cells := 2, slots := 9, locals := 57 } : Room).cells ({ frames := 4, cells := 2, slots := 9, locals := 57 } : Room).slots) := by
 refine bodyOf pn_8 (fun m => ef_rmInit4 m x1 b1 pn) ?_
 intro p e s m below meth c T0 X0 hx hby hml hown hnm hret hk hZ e0
 have N0 := Fr.nil n0
 have K0 : Keep h0 h0 [x1] := Keep.refl _ _
 have ne_x1_b1 := hp9
 have O0 := hp15
 have hne0 : ¬ (pn = (0 : Int32)) := fun q => absurd (oj_inj (i := cs.length) (n := 0) (by omega) (by omega) (hn.symm.trans (q.trans (rfl : (0 : Int32) = Int32.ofNat 0)))) (by omega)
 refine go (S' := T0.setTop (mkF m 1 #[sr x1, sr b1, si 0, si pn, .val .null, .unset] [(.ref x1)])) (fun t k => XS.aloadN X0.here hx rfl (hb hby d3_0) rfl rfl k) ?_
 obtain ⟨T53, X53, e53, st53⟩ := initO X0 hx hZ hown (ww hw 17 rfl) (ww hw 18 rfl) (ww hw 19 rfl) e0 (g := (mkF m 1 #[sr x1, sr b1, si 0, si pn, .val .null, .unset] [(.ref x1)])) rfl (by rw [hml]; rfl) rfl (hb hby d3_1) (by decide) (W := 0) (mr0 rfl) (by decide)
 refine go (S' := T53.setTop (mkF m 27 #[sr x1, sr b1, si 0, si pn, .val .null, .unset] [])) (fun t k => st53 _ (XS.iloadN X53.here hx rfl (hb hby d3_4) rfl (XS.ifYes X53.here hx rfl (pc0 := 5) (pc' := 27) rfl (hb hby d3_5) rfl ((if0 _ _).trans (feq hne0).2) (by decide) (by decide) k))) ?_
 have O55 : Old Z n0 h0 := O0.keep K0 (allS hp8 all0)
 obtain ⟨T54, X54, e54, st54⟩ := getS2 X53 hx hZ hown (host := "") (Or.inl (ww hw 20 rfl)) Via.refl e53 (hp10.ext O55.2) (g := (mkF m 27 #[sr x1, sr b1, si 0, si pn, .val .null, .unset] [])) rfl (hb hby d3_27)
 refine go (S' := T54.setTop (mkF m 36 #[sr x1, sr b1, si 0, si pn, .val .null, .unset] [(.int pn), (.int 0), (.ref b1)])) (fun t k => st54 _ (XS.ifNo X54.here hx rfl (hb hby d3_30) rfl ((if0 _ _).trans (feq hG1).1) (XS.aloadN X54.here hx rfl (hb hby d3_33) rfl rfl (XS.iloadN X54.here hx rfl (hb hby d3_34) rfl (XS.iloadN X54.here hx rfl (hb hby d3_35) rfl k))))) ?_
 obtain ⟨v56, T56, L56, X56, hQ56, st56⟩ := callSt X54 hx hZ (y := y_6) hown (ww hw 21 rfl) (ww hw 22 rfl) (ww hw 23 rfl) (ww hw 24 rfl) (by decide) (backOf (W := 0) (rmCmp3 l Z a0 hw [] b1 pn kC cs dC h0 n0 (Nat.le_trans Z0 K0.1) hn hl hpc hp4 hp12 hp13 hp14 O55) hZ (ww hw 24 rfl) (ww hw 23 rfl) (by decide) (by decide)) (g := (mkF m 36 #[sr x1, sr b1, si 0, si pn, .val .null, .unset] [(.int pn), (.int 0), (.ref b1)])) rfl (by rw [hml]; rfl) (kc := 2) (ks := 9) (argsL := [(.ref b1), (.int 0), (.int pn)]) (rest := []) (lenOf pd_4 rfl) rfl (mr0 rfl) (hb hby d3_36) e54 (by decide) (by decide)
 obtain ⟨t_56, kb_56, cd_56, N2_56, vs_56, rfl, N56q, Kq56, q56_0, q56_1, q56_2⟩ := hQ56
 have N56 := Fr.app N0 N56q
 have K57 : Keep h0 T56.heap [x1] := K0.trans Kq56 all0
 have lt_b1_t_56 : b1 < t_56 := Nat.lt_of_lt_of_le hp4.lt q56_0
 have lt_x1_t_56 : x1 < t_56 := Nat.lt_of_lt_of_le hp5.lt q56_0
 have sz_t_56 : h0.size ≤ t_56 := Nat.le_trans K0.1 q56_0
 have ge_t_56 : n0 ≤ t_56 := Nat.le_trans Z0 sz_t_56
 refine go (S' := T56.setTop (mkF m 45 #[sr x1, sr b1, si 0, si pn, .val .null, sr t_56] [(.int pn), (.ref t_56), (.ref x1)])) (fun t k => st56 _ (XS.astore X56.here hx rfl (hb hby d3_39) rfl rfl (l' := #[sr x1, sr b1, si 0, si pn, .val .null, sr t_56]) rfl (XS.aloadN X56.here hx rfl (hb hby d3_41) rfl rfl (XS.aload X56.here hx rfl (hb hby d3_42) rfl rfl (XS.iloadN X56.here hx rfl (hb hby d3_44) rfl k))))) ?_
 obtain ⟨v58, T58, L58, X58, hQ58, st58⟩ := callSt X56 hx hZ (y := y_7) hown (ww hw 48 rfl) (ww hw 49 rfl) (ww hw 23 rfl) (ww hw 50 rfl) (by decide) (backOf (W := 1) (rmCfl l Z a0 hw [] t_56 pn kb_56 cd_56 N2_56 vs_56 cs T56.heap n0 (Nat.le_trans Z0 K57.1) q56_1 q56_2 hn (by omega) hl0) hZ (ww hw 50 rfl) (ww hw 23 rfl) (by decide) (by decide)) (g := (mkF m 45 #[sr x1, sr b1, si 0, si pn, .val .null, sr t_56] [(.int pn), (.ref t_56), (.ref x1)])) rfl (by rw [hml]; rfl) (kc := 0) (ks := 0) (argsL := [(.ref t_56), (.int pn)]) (rest := [(.ref x1)]) (lenOf pd_6 rfl) rfl (mr0 rfl) (hb hby d3_45) rfl (by decide) (by decide)
 obtain ⟨rfl, N58q, e58⟩ := hQ58
 have N58 := Fr.app N56 N58q
 refine go (S' := T58.setTop (mkF m 48 #[sr x1, sr b1, si 0, si pn, .val .null, sr t_56] [(.int cd_56), (.ref x1)])) st58 ?_
 have hcd : cd_56 = 0 ∨ cd_56 = 1 := q56_2.imp (·.1) (·.1)
 have f59 : Fld Z T56.heap x1 "java/lang/String" "coder" "B" (.int 0) := (hp7.keep Kq56 nin0)
 obtain ⟨T60, h60, X60, e60, W60, st60⟩ := putF X58 hx hZ hown (host := "") (Or.inl (ww hw 51 rfl)) Via.refl e58 f59 (hp5.keep K57) (Or.inr ⟨(ww hw 52 rfl), rfl, hnm⟩) (ww hw 8 rfl) (ty := .byte) (by decide) (by rcases hcd with q | q <;> rw [q] <;> rfl) (by rcases hcd with q | q <;> rw [q] <;> rfl) (g := (mkF m 48 #[sr x1, sr b1, si 0, si pn, .val .null, sr t_56] [(.int cd_56), (.ref x1)])) rfl rfl (hb hby d3_48)
 have K61 : Keep h0 h60 [x1] := K57.wr W60 (Or.inl (List.mem_of_getElem? (i := 0) rfl))
 have N62 := Fr.snoc X60 N58 hp8
 have f63 : Fld Z h60 x1 "java/lang/String" "coder" "B" (.int cd_56) := (Fld.same W60 f59)
 refine go (S' := T60.setTop (mkF m 54 #[sr x1, sr b1, si 0, si pn, .val .null, sr t_56] [(.ref t_56), (.ref x1)])) (fun t k => st60 _ (XS.aloadN X60.here hx rfl (hb hby d3_51) rfl rfl (XS.aload X60.here hx rfl (hb hby d3_52) rfl rfl k))) ?_
 have f64 : Fld Z h60 x1 "java/lang/String" "value" "[B" .null := (Fld.other W60 (hp6.keep Kq56 nin0) (Or.inr (slot_ne (Or.inr (ww hw 54 rfl)) (Or.inr (ww hw 52 rfl)) (by decide) (t := (.array .byte)) (t' := .byte) (by decide) (by decide))))
 obtain ⟨T65, h65, X65, e65, W65, st65⟩ := putF X60 hx hZ hown (host := "") (Or.inl (ww hw 53 rfl)) Via.refl e60 f64 (hp5.keep K61) (Or.inr ⟨(ww hw 54 rfl), rfl, hnm⟩) (ww hw 8 rfl) (ty := (.array .byte)) (by decide) rfl rfl (g := (mkF m 54 #[sr x1, sr b1, si 0, si pn, .val .null, sr t_56] [(.ref t_56), (.ref x1)])) rfl rfl (hb hby d3_54)
 have K66 : Keep h0 h65 [x1] := K61.wr W65 (Or.inl (List.mem_of_getElem? (i := 0) rfl))
 have N67 := Fr.snoc X65 N62 hp8
 have f68 : Fld Z h65 x1 "java/lang/String" "value" "[B" (.ref t_56) := (Fld.same W65 f64)
 refine go (S' := T65.setTop (mkF m 57 #[sr x1, sr b1, si 0, si pn, .val .null, sr t_56] [])) st65 ?_
 refine finV X65 hx hk hret (hb hby d3_57) (by decide) (by decide) ?_
 have f69 : Fld Z h65 x1 "java/lang/String" "coder" "B" (.int cd_56) := (Fld.other W65 f63 (Or.inr (slot_ne (Or.inr (ww hw 52 rfl)) (Or.inr (ww hw 54 rfl)) (by decide) (t := .byte) (t' := (.array .byte)) (by decide) (by decide))))
 have f70 : Arv Z h65 t_56 kb_56 .byte N2_56 vs_56 (.int 0) := ((q56_1.other W60 (Nat.ne_of_gt lt_x1_t_56)).other W65 (Nat.ne_of_gt lt_x1_t_56))
 rw [e65]
 exact ⟨t_56, cd_56, rfl, N67, K66, sz_t_56, (Nat.ne_of_gt lt_x1_t_56), ⟨_, _, _, (hp5.keep K66), f68, f69, f70, q56_2, hpc, by omega⟩⟩
theorem d2_0 : decode jdk_42_method_3_code 0 = .ok (.aload_n 0, 1) := by decide +kernel
theorem d2_1 : decode jdk_42_method_3_code 1 = .ok (.aload_n 1, 1) := by decide +kernel
theorem d2_2 : decode jdk_42_method_3_code 2 = .ok (.iconst 0, 1) := by decide +kernel
theorem d2_3 : decode jdk_42_method_3_code 3 = .ok (.aload_n 1, 1) := by decide +kernel
theorem d2_4 : decode jdk_42_method_3_code 4 = .ok (.arraylength, 1) := by decide +kernel
theorem d2_5 : decode jdk_42_method_3_code 5 = .ok (.aconst_null, 1) := by decide +kernel
theorem d2_6 : decode jdk_42_method_3_code 6 = .ok (.invokespecial 27, 3) := by decide +kernel
theorem pd_7 : parseMethodDescriptor "([CIILjava/lang/Void;)V" = some ⟨[(.array .char), .int, .int, (.object "java/lang/Void")], none⟩ := by decide +kernel
theorem d2_9 : decode jdk_42_method_3_code 9 = .ok (.return_, 1) := by decide +kernel
abbrev y_9 : MethodName := ⟨"java/lang/String", "<init>", "([C)V"⟩
theorem pn_9 : plainFor y_9 = true := by first | exact plainFor_of_name (by first | (simp [plainName, overriddenIn]; done) | decide +kernel) | decide +kernel
theorem ef_rmInit1 (m : MethodId) (x1 : Addr) (b1 : Addr) : entryFrame m #[(.ref x1), (.ref b1)] 2 = mkF m 0 #[sr x1, sr b1] [] := by first | (simp [entryFrame, mkF, argsToLocals, Value.category]; done) | rfl
def Q_rmInit1 (Z : State) (x1 : Addr) (b1 : Addr) (pn : Int32) (kC : ClassId) (cs : List Int32) (dC : Value) (G1 : Int32) (h0 : Heap) (n0 : Nat) (v : Option Value) (h : Heap) (L : List Loc) : Prop := ∃ (t : Addr), ∃ (cd : Int32), v = none ∧ Fr n0 L ∧ Keep h0 h [x1] ∧ (h0.size ≤ t) ∧ (t ≠ x1) ∧ (Str Z h x1 t cd cs)
set_option maxRecDepth 65536 in
set_option maxHeartbeats 40000000 in
theorem rmInit1 (l : Launch) (Z : State) (a0 : Array Value) (hw : ∀ d ∈ tables_1, d.before a0 Z = true) (ws : List Jvm.Cond) (x1 : Addr) (b1 : Addr) (pn : Int32) (kC : ClassId) (cs : List Int32) (dC : Value) (G1 : Int32) (h0 : Heap) (n0 : Nat) (Z0 : n0 ≤ h0.size) (hp0 : Arv Z h0 b1 kC .char pn (cs.map Value.int) dC) (hn : pn = Int32.ofNat cs.length) (hl : cs.length ≤ 3) (hl0 : 0 < cs.length) (hpc : ∀ c ∈ cs, ¬ c < 0 ∧ ¬ (65535 : Int32) < c) (hp5 : Exa Z h0 x1 "java/lang/String") (hp6 : Fld Z h0 x1 "java/lang/String" "value" "[B" .null) (hp7 : Fld Z h0 x1 "java/lang/String" "coder" "B" (.int 0)) (hp8 : n0 ≤ x1) (hp9 : x1 ≠ b1) (hp10 : Sta Z Z.heap "java/lang/String" "COMPACT_STRINGS" "Z" (.int G1)) (hG1 : ¬ (G1 = (0 : Int32))) (hp12 : Sta Z Z.heap "java/lang/StringUTF16" "$assertionsDisabled" "Z" (.int 1)) (hp13 : Sta Z Z.heap "java/lang/StringUTF16" "HI_BYTE_SHIFT" "I" (.int 0)) (hp14 : Sta Z Z.heap "java/lang/StringUTF16" "LO_BYTE_SHIFT" "I" (.int 8)) (hp15 : Old Z n0 h0) :
    MetFree l y_9 (head1 (Jvm.Cond.code y_9 jdk_42_method_3_code 2 none :: ws) ({ frames := 5, cells := 2, slots := 9, locals := 74 } : Room)) (fun a U => a = #[(.ref x1), (.ref b1)] ∧ Z.Warmed39 U.vm ∧ U.heap = h0) (fun _ _ _ _ _ => True) (fun _ U o U' => ∃ v L, o = .returned v ∧ Q_rmInit1 Z x1 b1 pn kC cs dC G1 h0 n0 v U'.heap L ∧ FrameEnd U o U' L ({ frames := 5, cells := 2, slots := 9, locals := 74 } : Room).cells ({ frames := 5, cells := 2, slots := 9, locals := 74 } : Room).slots) := by
 refine bodyOf pn_9 (fun m => ef_rmInit1 m x1 b1) ?_
 intro p e s m below meth c T0 X0 hx hby hml hown hnm hret hk hZ e0
 have N0 := Fr.nil n0
 have K0 : Keep h0 h0 [x1] := Keep.refl _ _
 have ne_x1_b1 := hp9
 have O0 := hp15
 refine go (S' := T0.setTop (mkF m 4 #[sr x1, sr b1] [(.ref b1), (.int 0), (.ref b1), (.ref x1)])) (fun t k => XS.aloadN X0.here hx rfl (hb hby d2_0) rfl rfl (XS.aloadN X0.here hx rfl (hb hby d2_1) rfl rfl (XS.iconst X0.here hx rfl (hb hby d2_2) (XS.aloadN X0.here hx rfl (hb hby d2_3) rfl rfl k)))) ?_
 obtain ⟨cl71, Ar71, -, S71, M71, -, -⟩ := id hp0
 refine go (S' := T0.setTop (mkF m 6 #[sr x1, sr b1] [.null, (.int pn), (.int 0), (.ref b1), (.ref x1)])) (fun t k => X0.arraylength hx (by rw [e0]; exact Ar71.1) (State.isArrayOf_alike hZ.alike Ar71.2.1) (g := (mkF m 4 #[sr x1, sr b1] [(.ref b1), (.int 0), (.ref b1), (.ref x1)])) rfl rfl (hb hby d2_4) _ (by rw [len_of S71 M71]; exact (XS.aconstNull X0.here hx rfl (hb hby d2_5) k))) ?_
 have O72 : Old Z n0 h0 := O0.keep K0 (allS hp8 all0)
 obtain ⟨v73, T73, L73, X73, hQ73, st73⟩ := callSp X0 hx hZ (y := y_8) rfl hown (ww hw 13 rfl) (ww hw 14 rfl) (ww hw 16 rfl) (by decide) (backOf (W := 0) (rmInit4 l Z a0 hw [] x1 b1 pn kC cs dC G1 h0 n0 (Nat.le_trans Z0 K0.1) hn hl hl0 hpc hp0 hp5 hp6 hp7 hp8 ne_x1_b1 hp10 hG1 hp12 hp13 hp14 O72) hZ (ww hw 16 rfl) (ww hw 9 rfl) (by decide) (by decide)) (g := (mkF m 6 #[sr x1, sr b1] [.null, (.int pn), (.int 0), (.ref b1), (.ref x1)])) rfl (by rw [hml]; rfl) (a := x1) (kc := 2) (ks := 9) (argsL := [(.ref b1), (.int 0), (.int pn), .null]) (rest := []) (lenOf pd_7 rfl) rfl (mr0 rfl) (hb hby d2_6) e0 (by decide) (by decide)
 obtain ⟨t_73, cd_73, rfl, N73q, Kq73, q73_0, q73_1, q73_2⟩ := hQ73
 have N73 := Fr.app N0 N73q
 have K74 : Keep h0 T73.heap [x1] := K0.trans Kq73 (allS (P := fun x => x ∈ [x1] ∨ h0.size ≤ x) (Or.inl (List.mem_of_getElem? (i := 0) rfl)) all0)
 have lt_b1_t_73 : b1 < t_73 := Nat.lt_of_lt_of_le hp0.lt q73_0
 have lt_x1_t_73 : x1 < t_73 := Nat.lt_of_lt_of_le hp5.lt q73_0
 have sz_t_73 : h0.size ≤ t_73 := Nat.le_trans K0.1 q73_0
 have ge_t_73 : n0 ≤ t_73 := Nat.le_trans Z0 sz_t_73
 have ne_t_73_x1 := q73_1
 refine go (S' := T73.setTop (mkF m 9 #[sr x1, sr b1] [])) st73 ?_
 refine finV X73 hx hk hret (hb hby d2_9) (by decide) (by decide) ?_
 exact ⟨t_73, cd_73, rfl, N73, K74, sz_t_73, ne_t_73_x1, q73_2⟩
theorem d20_0 : decode jdk_41_method_11_code 0 = .ok (.iload_n 0, 1) := by decide +kernel
theorem d20_1 : decode jdk_41_method_11_code 1 = .ok (.ifCond .lt 8, 3) := by decide +kernel
theorem d20_4 : decode jdk_41_method_11_code 4 = .ok (.iload_n 0, 1) := by decide +kernel
theorem d20_5 : decode jdk_41_method_11_code 5 = .ok (.iload_n 1, 1) := by decide +kernel
theorem d20_6 : decode jdk_41_method_11_code 6 = .ok (.if_icmp .lt 10, 3) := by decide +kernel
theorem d20_16 : decode jdk_41_method_11_code 16 = .ok (.iload_n 0, 1) := by decide +kernel
theorem d20_17 : decode jdk_41_method_11_code 17 = .ok (.ireturn, 1) := by decide +kernel
abbrev y_10 : MethodName := ⟨"jdk/internal/util/Preconditions", "checkIndex", "(IILjava/util/function/BiFunction;)I"⟩
theorem pn_10 : plainFor y_10 = true := by first | exact plainFor_of_name (by first | (simp [plainName, overriddenIn]; done) | decide +kernel) | decide +kernel
theorem ef_rmPci (m : MethodId) (pi : Int32) (pn : Int32) (fm : Value) (hfm : fm.isRef = true) : entryFrame m #[(.int pi), (.int pn), fm] 3 = mkF m 0 #[si pi, si pn, .val fm] [] := by cases fm <;> simp_all [entryFrame, mkF, argsToLocals, Value.category, Value.isRef]
def Q_rmPci (Z : State) (pi : Int32) (pn : Int32) (fm : Value) (h0 : Heap) (n0 : Nat) (v : Option Value) (h : Heap) (L : List Loc) : Prop := v = some (.int pi) ∧ Fr n0 L ∧ h = h0
set_option maxRecDepth 65536 in
set_option maxHeartbeats 40000000 in
theorem rmPci (l : Launch) (Z : State) (a0 : Array Value) (hw : ∀ d ∈ tables_1, d.before a0 Z = true) (ws : List Jvm.Cond) (pi : Int32) (pn : Int32) (fm : Value) (h0 : Heap) (n0 : Nat) (Z0 : n0 ≤ h0.size) (hfm : fm.isRef = true) (hz0 : ¬ (pi < (0 : Int32))) (hz1 : pi < pn) :
    MetFree l y_10 (head1 (Jvm.Cond.code y_10 jdk_41_method_11_code 3 (some .int) :: ws) ({ frames := 0, cells := 0, slots := 0, locals := 0 } : Room)) (fun a U => a = #[(.int pi), (.int pn), fm] ∧ Z.Warmed39 U.vm ∧ U.heap = h0) (fun _ _ _ _ _ => True) (fun _ U o U' => ∃ v L, o = .returned v ∧ Q_rmPci Z pi pn fm h0 n0 v U'.heap L ∧ FrameEnd U o U' L ({ frames := 0, cells := 0, slots := 0, locals := 0 } : Room).cells ({ frames := 0, cells := 0, slots := 0, locals := 0 } : Room).slots) := by
 refine bodyOf pn_10 (fun m => ef_rmPci m pi pn fm hfm) ?_
 intro p e s m below meth c T0 X0 hx hby hml hown hnm hret hk hZ e0
 have N0 := Fr.nil n0
 have K0 : Keep h0 h0 [] := Keep.refl _ _
 refine go (S' := T0.setTop (mkF m 17 #[si pi, si pn, .val fm] [(.int pi)])) (fun t k => XS.iloadN X0.here hx rfl (hb hby d20_0) rfl (XS.ifNo X0.here hx rfl (hb hby d20_1) rfl ((if0 _ _).trans (flt hz0).1) (XS.iloadN X0.here hx rfl (hb hby d20_4) rfl (XS.iloadN X0.here hx rfl (hb hby d20_5) rfl (XS.icmpYes X0.here hx rfl (pc0 := 6) (pc' := 16) rfl (hb hby d20_6) rfl (tlt hz1).1 (by decide) (by decide) (XS.iloadN X0.here hx rfl (hb hby d20_16) rfl k)))))) ?_
 refine finI X0 hx hk hret (hb hby d20_17) (by decide) (by decide) ?_
 rw [e0]
 exact ⟨rfl, N0, rfl⟩
theorem d19_0 : decode jdk_42_method_155_code 0 = .ok (.iload_n 0, 1) := by decide +kernel
theorem d19_1 : decode jdk_42_method_155_code 1 = .ok (.iload_n 1, 1) := by decide +kernel
theorem d19_2 : decode jdk_42_method_155_code 2 = .ok (.getstatic 1053, 3) := by decide +kernel
theorem d19_5 : decode jdk_42_method_155_code 5 = .ok (.invokestatic 1059, 3) := by decide +kernel
theorem pd_8 : parseMethodDescriptor "(IILjava/util/function/BiFunction;)I" = some ⟨[.int, .int, (.object "java/util/function/BiFunction")], some .int⟩ := by decide +kernel
theorem d19_8 : decode jdk_42_method_155_code 8 = .ok (.pop, 1) := by decide +kernel
theorem d19_9 : decode jdk_42_method_155_code 9 = .ok (.return_, 1) := by decide +kernel
abbrev y_11 : MethodName := ⟨"java/lang/String", "checkIndex", "(II)V"⟩
theorem pn_11 : plainFor y_11 = true := by first | exact plainFor_of_name (by first | (simp [plainName, overriddenIn]; done) | decide +kernel) | decide +kernel
theorem ef_rmSci (m : MethodId) (pi : Int32) (pn : Int32) : entryFrame m #[(.int pi), (.int pn)] 2 = mkF m 0 #[si pi, si pn] [] := by first | (simp [entryFrame, mkF, argsToLocals, Value.category]; done) | rfl
def Q_rmSci (Z : State) (pi : Int32) (pn : Int32) (fm : Value) (h0 : Heap) (n0 : Nat) (v : Option Value) (h : Heap) (L : List Loc) : Prop := v = none ∧ Fr n0 L ∧ h = h0
set_option maxRecDepth 65536 in
set_option maxHeartbeats 40000000 in
theorem rmSci (l : Launch) (Z : State) (a0 : Array Value) (hw : ∀ d ∈ tables_1, d.before a0 Z = true) (ws : List Jvm.Cond) (pi : Int32) (pn : Int32) (fm : Value) (h0 : Heap) (n0 : Nat) (Z0 : n0 ≤ h0.size) (hfm : fm.isRef = true) (hz0 : ¬ (pi < (0 : Int32))) (hz1 : pi < pn) (hp3 : Sta Z Z.heap "jdk/internal/util/Preconditions" "SIOOBE_FORMATTER" "Ljava/util/function/BiFunction;" fm) (hp4 : Old Z n0 h0) :
    MetFree l y_11 (head1 (Jvm.Cond.code y_11 jdk_42_method_155_code 2 none :: ws) ({ frames := 1, cells := 0, slots := 0, locals := 14 } : Room)) (fun a U => a = #[(.int pi), (.int pn)] ∧ Z.Warmed39 U.vm ∧ U.heap = h0) (fun _ _ _ _ _ => True) (fun _ U o U' => ∃ v L, o = .returned v ∧ Q_rmSci Z pi pn fm h0 n0 v U'.heap L ∧ FrameEnd U o U' L ({ frames := 1, cells := 0, slots := 0, locals := 14 } : Room).cells ({ frames := 1, cells := 0, slots := 0, locals := 14 } : Room).slots) := by
 refine bodyOf pn_11 (fun m => ef_rmSci m pi pn) ?_
 intro p e s m below meth c T0 X0 hx hby hml hown hnm hret hk hZ e0
 have N0 := Fr.nil n0
 have K0 : Keep h0 h0 [] := Keep.refl _ _
 have O0 := hp4
 refine go (S' := T0.setTop (mkF m 2 #[si pi, si pn] [(.int pn), (.int pi)])) (fun t k => XS.iloadN X0.here hx rfl (hb hby d19_0) rfl (XS.iloadN X0.here hx rfl (hb hby d19_1) rfl k)) ?_
 have O76 : Old Z n0 h0 := O0.keep K0 all0
 obtain ⟨T75, X75, e75, st75⟩ := getS2 X0 hx hZ hown (host := "") (Or.inl (ww hw 82 rfl)) Via.refl e0 (hp3.ext O76.2) (g := (mkF m 2 #[si pi, si pn] [(.int pn), (.int pi)])) rfl (hb hby d19_2)
 refine go (S' := T75.setTop (mkF m 5 #[si pi, si pn] [fm, (.int pn), (.int pi)])) st75 ?_
 obtain ⟨v77, T77, L77, X77, hQ77, st77⟩ := callSt X75 hx hZ (y := y_10) hown (ww hw 84 rfl) (ww hw 85 rfl) (ww hw 83 rfl) (ww hw 86 rfl) (by decide) (backOf (W := 0) (rmPci l Z a0 hw [] pi pn fm h0 n0 (Nat.le_trans Z0 K0.1) hfm hz0 hz1) hZ (ww hw 86 rfl) (ww hw 83 rfl) (by decide) (by decide)) (g := (mkF m 5 #[si pi, si pn] [fm, (.int pn), (.int pi)])) rfl (by rw [hml]; rfl) (kc := 0) (ks := 0) (argsL := [(.int pi), (.int pn), fm]) (rest := []) (lenOf pd_8 rfl) rfl (mr0 rfl) (hb hby d19_5) e75 (by decide) (by decide)
 obtain ⟨rfl, N77q, e77⟩ := hQ77
 have N77 := Fr.app N0 N77q
 refine go (S' := T77.setTop (mkF m 9 #[si pi, si pn] [])) (fun t k => st77 _ (XS.pop X77.here hx rfl (hb hby d19_8) rfl rfl k)) ?_
 refine finV X77 hx hk hret (hb hby d19_9) (by decide) (by decide) ?_
 rw [e77]
 exact ⟨rfl, N77, rfl⟩
theorem d15_0 : decode jdk_42_method_154_code 0 = .ok (.getstatic 38, 3) := by decide +kernel
theorem d15_3 : decode jdk_42_method_154_code 3 = .ok (.ifCond .eq 14, 3) := by decide +kernel
theorem d15_6 : decode jdk_42_method_154_code 6 = .ok (.aload_n 0, 1) := by decide +kernel
theorem d15_7 : decode jdk_42_method_154_code 7 = .ok (.getfield 15, 3) := by decide +kernel
theorem d15_10 : decode jdk_42_method_154_code 10 = .ok (.ifCond .ne 7, 3) := by decide +kernel
theorem d15_13 : decode jdk_42_method_154_code 13 = .ok (.iconst 1, 1) := by decide +kernel
theorem d15_14 : decode jdk_42_method_154_code 14 = .ok (.goto 4, 3) := by decide +kernel
theorem d15_18 : decode jdk_42_method_154_code 18 = .ok (.ireturn, 1) := by decide +kernel
theorem d15_17 : decode jdk_42_method_154_code 17 = .ok (.iconst 0, 1) := by decide +kernel
abbrev y_12 : MethodName := ⟨"java/lang/String", "isLatin1", "()Z"⟩
theorem pn_12 : plainFor y_12 = true := by first | exact plainFor_of_name (by first | (simp [plainName, overriddenIn]; done) | decide +kernel) | decide +kernel
theorem ef_rmIsl (m : MethodId) (x1 : Addr) : entryFrame m #[(.ref x1)] 1 = mkF m 0 #[sr x1] [] := by first | (simp [entryFrame, mkF, argsToLocals, Value.category]; done) | rfl
def Q_rmIsl (Z : State) (x1 : Addr) (cd : Int32) (G1 : Int32) (h0 : Heap) (n0 : Nat) (v : Option Value) (h : Heap) (L : List Loc) : Prop := v = some (.int (if cd = (0 : Int32) then (1 : Int32) else (0 : Int32))) ∧ Fr n0 L ∧ h = h0
set_option maxRecDepth 65536 in
set_option maxHeartbeats 40000000 in
theorem rmIsl (l : Launch) (Z : State) (a0 : Array Value) (hw : ∀ d ∈ tables_1, d.before a0 Z = true) (ws : List Jvm.Cond) (x1 : Addr) (cd : Int32) (G1 : Int32) (h0 : Heap) (n0 : Nat) (Z0 : n0 ≤ h0.size) (hp0 : Fld Z h0 x1 "java/lang/String" "coder" "B" (.int cd)) (hp1 : Sta Z Z.heap "java/lang/String" "COMPACT_STRINGS" "Z" (.int G1)) (hG1 : ¬ (G1 = (0 : Int32))) (hp3 : Old Z n0 h0) :
    MetFree l y_12 (head1 (Jvm.Cond.code y_12 jdk_42_method_154_code 1 (some .boolean) :: ws) ({ frames := 0, cells := 0, slots := 0, locals := 0 } : Room)) (fun a U => a = #[(.ref x1)] ∧ Z.Warmed39 U.vm ∧ U.heap = h0) (fun _ _ _ _ _ => True) (fun _ U o U' => ∃ v L, o = .returned v ∧ Q_rmIsl Z x1 cd G1 h0 n0 v U'.heap L ∧ FrameEnd U o U' L ({ frames := 0, cells := 0, slots := 0, locals := 0 } : Room).cells ({ frames := 0, cells := 0, slots := 0, locals := 0 } : Room).slots) := by
 refine bodyOf pn_12 (fun m => ef_rmIsl m x1) ?_
 intro p e s m below meth c T0 X0 hx hby hml hown hnm hret hk hZ e0
 have N0 := Fr.nil n0
 have K0 : Keep h0 h0 [] := Keep.refl _ _
 have O0 := hp3
 have O79 : Old Z n0 h0 := O0.keep K0 all0
 obtain ⟨T78, X78, e78, st78⟩ := getS2 X0 hx hZ hown (host := "") (Or.inl (ww hw 20 rfl)) Via.refl e0 (hp1.ext O79.2) (g := (mkF m 0 #[sr x1] [])) rfl (hb hby d15_0)
 refine go (S' := T78.setTop (mkF m 7 #[sr x1] [(.ref x1)])) (fun t k => st78 _ (XS.ifNo X78.here hx rfl (hb hby d15_3) rfl ((if0 _ _).trans (feq hG1).1) (XS.aloadN X78.here hx rfl (hb hby d15_6) rfl rfl k))) ?_
 obtain ⟨T80, X80, e80, st80⟩ := getF X78 hx hZ hown (host := "") (Or.inl (ww hw 51 rfl)) Via.refl e78 hp0 (g := (mkF m 7 #[sr x1] [(.ref x1)])) rfl rfl (hb hby d15_7)
 refine go (S' := T80.setTop (mkF m 10 #[sr x1] [(.int cd)])) st80 ?_
 by_cases hc81 : cd = (0 : Int32)
 ·
  refine go (S' := T80.setTop (mkF m 18 #[sr x1] [(.int 1)])) (fun t k => XS.ifNo X80.here hx rfl (hb hby d15_10) rfl ((if0 _ _).trans (teq hc81).2) (XS.iconst X80.here hx rfl (hb hby d15_13) (XS.goto X80.here hx rfl (pc0 := 14) (pc' := 18) rfl (hb hby d15_14) (by decide) (by decide) k))) ?_
  refine finN X80 hx hk (t := .boolean) hret (by simp) (hb hby d15_18) (by decide) (by decide) ?_
  rw [e80]
  exact ⟨(by rw [if_pos hc81]; rfl), N0, rfl⟩
 ·
  refine go (S' := T80.setTop (mkF m 18 #[sr x1] [(.int 0)])) (fun t k => XS.ifYes X80.here hx rfl (pc0 := 10) (pc' := 17) rfl (hb hby d15_10) rfl ((if0 _ _).trans (feq hc81).2) (by decide) (by decide) (XS.iconst X80.here hx rfl (hb hby d15_17) k)) ?_
  refine finN X80 hx hk (t := .boolean) hret (by simp) (hb hby d15_18) (by decide) (by decide) ?_
  rw [e80]
  exact ⟨(by rw [if_neg hc81]; rfl), N0, rfl⟩
theorem d22_0 : decode jdk_43_method_2_code 0 = .ok (.iload_n 1, 1) := by decide +kernel
theorem d22_1 : decode jdk_43_method_2_code 1 = .ok (.aload_n 0, 1) := by decide +kernel
theorem d22_2 : decode jdk_43_method_2_code 2 = .ok (.arraylength, 1) := by decide +kernel
theorem d22_3 : decode jdk_43_method_2_code 3 = .ok (.invokestatic 9, 3) := by decide +kernel
theorem pd_9 : parseMethodDescriptor "(II)V" = some ⟨[.int, .int], none⟩ := by decide +kernel
theorem d22_6 : decode jdk_43_method_2_code 6 = .ok (.aload_n 0, 1) := by decide +kernel
theorem d22_7 : decode jdk_43_method_2_code 7 = .ok (.iload_n 1, 1) := by decide +kernel
theorem d22_8 : decode jdk_43_method_2_code 8 = .ok (.baload, 1) := by decide +kernel
theorem d22_9 : decode jdk_43_method_2_code 9 = .ok (.sipush 255, 3) := by decide +kernel
theorem d22_12 : decode jdk_43_method_2_code 12 = .ok (.iand, 1) := by decide +kernel
theorem d22_13 : decode jdk_43_method_2_code 13 = .ok (.i2c, 1) := by decide +kernel
theorem d22_14 : decode jdk_43_method_2_code 14 = .ok (.ireturn, 1) := by decide +kernel
abbrev y_13 : MethodName := ⟨"java/lang/StringLatin1", "charAt", "([BI)C"⟩
theorem pn_13 : plainFor y_13 = true := by first | exact plainFor_of_name (by first | (simp [plainName, overriddenIn]; done) | decide +kernel) | decide +kernel
theorem ef_rmLch (m : MethodId) (a1 : Addr) (pi : Int32) : entryFrame m #[(.ref a1), (.int pi)] 2 = mkF m 0 #[sr a1, si pi] [] := by first | (simp [entryFrame, mkF, argsToLocals, Value.category]; done) | rfl
def Q_rmLch (Z : State) (a1 : Addr) (pi : Int32) (kb : ClassId) (cs : List Int32) (i : Nat) (fm : Value) (h0 : Heap) (n0 : Nat) (v : Option Value) (h : Heap) (L : List Loc) : Prop := v = some (.int (cs.getD i 0)) ∧ Fr n0 L ∧ h = h0
set_option maxRecDepth 65536 in
set_option maxHeartbeats 40000000 in
theorem rmLch (l : Launch) (Z : State) (a0 : Array Value) (hw : ∀ d ∈ tables_1, d.before a0 Z = true) (ws : List Jvm.Cond) (a1 : Addr) (pi : Int32) (kb : ClassId) (cs : List Int32) (i : Nat) (fm : Value) (h0 : Heap) (n0 : Nat) (Z0 : n0 ≤ h0.size) (hix : pi = Int32.ofNat i) (hi : i < cs.length) (hl : cs.length ≤ 4000) (hpc : ∀ c ∈ cs, ¬ c < 0 ∧ ¬ (65535 : Int32) < c) (hlat : ∀ c ∈ cs, ¬ (255 : Int32) < c) (hp5 : Arv Z h0 a1 kb .byte (Int32.ofNat cs.length) (cs.map fun c => Value.int (StrChars.lo8 c)) (.int 0)) (hfm : fm.isRef = true) (hp7 : Sta Z Z.heap "jdk/internal/util/Preconditions" "SIOOBE_FORMATTER" "Ljava/util/function/BiFunction;" fm) (hp8 : Old Z n0 h0) :
    MetFree l y_13 (head1 (Jvm.Cond.code y_13 jdk_43_method_2_code 2 (some .char) :: ws) ({ frames := 2, cells := 0, slots := 0, locals := 27 } : Room)) (fun a U => a = #[(.ref a1), (.int pi)] ∧ Z.Warmed39 U.vm ∧ U.heap = h0) (fun _ _ _ _ _ => True) (fun _ U o U' => ∃ v L, o = .returned v ∧ Q_rmLch Z a1 pi kb cs i fm h0 n0 v U'.heap L ∧ FrameEnd U o U' L ({ frames := 2, cells := 0, slots := 0, locals := 27 } : Room).cells ({ frames := 2, cells := 0, slots := 0, locals := 27 } : Room).slots) := by
 refine bodyOf pn_13 (fun m => ef_rmLch m a1 pi) ?_
 intro p e s m below meth c T0 X0 hx hby hml hown hnm hret hk hZ e0
 have N0 := Fr.nil n0
 have K0 : Keep h0 h0 [] := Keep.refl _ _
 have O0 := hp8
 have hz0 : ¬ (pi < (0 : Int32)) := by rw [hix]; exact oj_nn (by omega)
 have hz1 : pi < (Int32.ofNat cs.length) := by rw [hix]; exact oj_lt hi (by omega)
 refine go (S' := T0.setTop (mkF m 2 #[sr a1, si pi] [(.ref a1), (.int pi)])) (fun t k => XS.iloadN X0.here hx rfl (hb hby d22_0) rfl (XS.aloadN X0.here hx rfl (hb hby d22_1) rfl rfl k)) ?_
 obtain ⟨cl82, Ar82, -, S82, M82, -, -⟩ := id hp5
 refine go (S' := T0.setTop (mkF m 3 #[sr a1, si pi] [(.int (Int32.ofNat cs.length)), (.int pi)])) (fun t k => X0.arraylength hx (by rw [e0]; exact Ar82.1) (State.isArrayOf_alike hZ.alike Ar82.2.1) (g := (mkF m 2 #[sr a1, si pi] [(.ref a1), (.int pi)])) rfl rfl (hb hby d22_2) _ (by rw [len_of S82 M82]; exact k)) ?_
 have O83 : Old Z n0 h0 := O0.keep K0 all0
 obtain ⟨v84, T84, L84, X84, hQ84, st84⟩ := callSt X0 hx hZ (y := y_11) hown (ww hw 102 rfl) (ww hw 80 rfl) (ww hw 9 rfl) (ww hw 81 rfl) (by decide) (backOf (W := 0) (rmSci l Z a0 hw [] pi (Int32.ofNat cs.length) fm h0 n0 (Nat.le_trans Z0 K0.1) hfm hz0 hz1 hp7 O83) hZ (ww hw 81 rfl) (ww hw 9 rfl) (by decide) (by decide)) (g := (mkF m 3 #[sr a1, si pi] [(.int (Int32.ofNat cs.length)), (.int pi)])) rfl (by rw [hml]; rfl) (kc := 0) (ks := 0) (argsL := [(.int pi), (.int (Int32.ofNat cs.length))]) (rest := []) (lenOf pd_9 rfl) rfl (mr0 rfl) (hb hby d22_3) e0 (by decide) (by decide)
 obtain ⟨rfl, N84q, e84⟩ := hQ84
 have N84 := Fr.app N0 N84q
 refine go (S' := T84.setTop (mkF m 8 #[sr a1, si pi] [(.int pi), (.ref a1)])) (fun t k => st84 _ (XS.aloadN X84.here hx rfl (hb hby d22_6) rfl rfl (XS.iloadN X84.here hx rfl (hb hby d22_7) rfl k))) ?_
 rw [hix]
 obtain ⟨cl85, Ar85, q85, S85, M85, H85, G85⟩ := id hp5
 have hin85 : ¬ ((Int32.ofNat i) < 0 ∨ cl85.slots.size ≤ ((Int32.ofNat i)).toNatClampNeg) := oj_in S85 rfl hi (by omega)
 have hat85 : cl85.slots[((Int32.ofNat i)).toNatClampNeg]? = some (.int (StrChars.lo8 (cs.getD i 0))) := Has.at H85 hin85 (by rw [oj_n (by omega)]; exact StrChars.Road.low_at _ cs i hi)
 refine go (S' := T84.setTop (mkF m 14 #[sr a1, si (Int32.ofNat i)] [(.int (((StrChars.lo8 (cs.getD i 0)) &&& (255 : Int32)).toUInt32.toUInt16.toUInt32.toInt32))])) (fun t k => X84.baloadBytes hx (j := (Int32.ofNat i)) (v := (.int (StrChars.lo8 (cs.getD i 0)))) (by rw [e84]; exact Ar85.1) (State.isArrayOf_alike hZ.alike Ar85.2.1) Ar85.2.2 hin85 hat85 (g := (mkF m 8 #[sr a1, si (Int32.ofNat i)] [(.int (Int32.ofNat i)), (.ref a1)])) rfl rfl (hb hby d22_8) _ (XS.sipush X84.here hx rfl (hb hby d22_9) (XS.iand X84.here hx rfl (hb hby d22_12) rfl (XS.i2c X84.here hx rfl (hb hby d22_13) rfl k)))) ?_
 refine finN X84 hx hk (t := .char) hret (by simp) (hb hby d22_14) (by decide) (by decide) ?_
 rw [e84]
 exact ⟨(by have q := StrChars.lo8_mask (hpc _ (oj_mem hi)).1 (hlat _ (oj_mem hi)); rw [narc, q]; exact congrArg (fun z => some (Value.int z)) (oj_c16 (hpc _ (oj_mem hi)))), N84, rfl⟩
theorem d18_0 : decode jdk_52_method_6_code 0 = .ok (.aload_n 0, 1) := by decide +kernel
theorem d18_1 : decode jdk_52_method_6_code 1 = .ok (.arraylength, 1) := by decide +kernel
theorem d18_2 : decode jdk_52_method_6_code 2 = .ok (.iconst 1, 1) := by decide +kernel
theorem d18_3 : decode jdk_52_method_6_code 3 = .ok (.ishr, 1) := by decide +kernel
theorem d18_4 : decode jdk_52_method_6_code 4 = .ok (.ireturn, 1) := by decide +kernel
abbrev y_14 : MethodName := ⟨"java/lang/StringUTF16", "length", "([B)I"⟩
theorem pn_14 : plainFor y_14 = true := by first | exact plainFor_of_name (by first | (simp [plainName, overriddenIn]; done) | decide +kernel) | decide +kernel
theorem ef_rmUl (m : MethodId) (a1 : Addr) : entryFrame m #[(.ref a1)] 1 = mkF m 0 #[sr a1] [] := by first | (simp [entryFrame, mkF, argsToLocals, Value.category]; done) | rfl
def Q_rmUl (Z : State) (a1 : Addr) (kb : ClassId) (n : Nat) (vs : List Value) (h0 : Heap) (n0 : Nat) (v : Option Value) (h : Heap) (L : List Loc) : Prop := v = some (.int (Int32.ofNat n)) ∧ Fr n0 L ∧ h = h0
set_option maxRecDepth 65536 in
set_option maxHeartbeats 40000000 in
theorem rmUl (l : Launch) (Z : State) (a0 : Array Value) (hw : ∀ d ∈ tables_1, d.before a0 Z = true) (ws : List Jvm.Cond) (a1 : Addr) (kb : ClassId) (n : Nat) (vs : List Value) (h0 : Heap) (n0 : Nat) (Z0 : n0 ≤ h0.size) (hp0 : Arv Z h0 a1 kb .byte (Int32.ofNat (2 * n)) vs (.int 0)) (hl : n ≤ 4000) :
    MetFree l y_14 (head1 (Jvm.Cond.code y_14 jdk_52_method_6_code 1 (some .int) :: ws) ({ frames := 0, cells := 0, slots := 0, locals := 0 } : Room)) (fun a U => a = #[(.ref a1)] ∧ Z.Warmed39 U.vm ∧ U.heap = h0) (fun _ _ _ _ _ => True) (fun _ U o U' => ∃ v L, o = .returned v ∧ Q_rmUl Z a1 kb n vs h0 n0 v U'.heap L ∧ FrameEnd U o U' L ({ frames := 0, cells := 0, slots := 0, locals := 0 } : Room).cells ({ frames := 0, cells := 0, slots := 0, locals := 0 } : Room).slots) := by
 refine bodyOf pn_14 (fun m => ef_rmUl m a1) ?_
 intro p e s m below meth c T0 X0 hx hby hml hown hnm hret hk hZ e0
 have N0 := Fr.nil n0
 have K0 : Keep h0 h0 [] := Keep.refl _ _
 refine go (S' := T0.setTop (mkF m 1 #[sr a1] [(.ref a1)])) (fun t k => XS.aloadN X0.here hx rfl (hb hby d18_0) rfl rfl k) ?_
 obtain ⟨cl86, Ar86, -, S86, M86, -, -⟩ := id hp0
 refine go (S' := T0.setTop (mkF m 4 #[sr a1] [(.int ((Int32.ofNat (2 * n)) >>> ((1 : Int32) &&& 31)))])) (fun t k => X0.arraylength hx (by rw [e0]; exact Ar86.1) (State.isArrayOf_alike hZ.alike Ar86.2.1) (g := (mkF m 1 #[sr a1] [(.ref a1)])) rfl rfl (hb hby d18_1) _ (by rw [len_of S86 M86]; exact (XS.iconst X0.here hx rfl (hb hby d18_2) (XS.ishr X0.here hx rfl (hb hby d18_3) rfl k)))) ?_
 refine finI X0 hx hk hret (hb hby d18_4) (by decide) (by decide) ?_
 rw [e0]
 exact ⟨(by rw [oj_half hl]), N0, rfl⟩
theorem d17_0 : decode jdk_52_method_91_code 0 = .ok (.iload_n 0, 1) := by decide +kernel
theorem d17_1 : decode jdk_52_method_91_code 1 = .ok (.aload_n 1, 1) := by decide +kernel
theorem d17_2 : decode jdk_52_method_91_code 2 = .ok (.invokestatic 48, 3) := by decide +kernel
theorem pd_10 : parseMethodDescriptor "([B)I" = some ⟨[(.array .byte)], some .int⟩ := by decide +kernel
theorem d17_5 : decode jdk_52_method_91_code 5 = .ok (.invokestatic 414, 3) := by decide +kernel
theorem d17_8 : decode jdk_52_method_91_code 8 = .ok (.return_, 1) := by decide +kernel
abbrev y_15 : MethodName := ⟨"java/lang/StringUTF16", "checkIndex", "(I[B)V"⟩
theorem pn_15 : plainFor y_15 = true := by first | exact plainFor_of_name (by first | (simp [plainName, overriddenIn]; done) | decide +kernel) | decide +kernel
theorem ef_rmUci (m : MethodId) (pi : Int32) (a1 : Addr) : entryFrame m #[(.int pi), (.ref a1)] 2 = mkF m 0 #[si pi, sr a1] [] := by first | (simp [entryFrame, mkF, argsToLocals, Value.category]; done) | rfl
def Q_rmUci (Z : State) (pi : Int32) (a1 : Addr) (kb : ClassId) (n : Nat) (vs : List Value) (fm : Value) (h0 : Heap) (n0 : Nat) (v : Option Value) (h : Heap) (L : List Loc) : Prop := v = none ∧ Fr n0 L ∧ h = h0
set_option maxRecDepth 65536 in
set_option maxHeartbeats 40000000 in
theorem rmUci (l : Launch) (Z : State) (a0 : Array Value) (hw : ∀ d ∈ tables_1, d.before a0 Z = true) (ws : List Jvm.Cond) (pi : Int32) (a1 : Addr) (kb : ClassId) (n : Nat) (vs : List Value) (fm : Value) (h0 : Heap) (n0 : Nat) (Z0 : n0 ≤ h0.size) (hp0 : Arv Z h0 a1 kb .byte (Int32.ofNat (2 * n)) vs (.int 0)) (hl : n ≤ 4000) (hfm : fm.isRef = true) (hz0 : ¬ (pi < (0 : Int32))) (hz1 : pi < (Int32.ofNat n)) (hp5 : Sta Z Z.heap "jdk/internal/util/Preconditions" "SIOOBE_FORMATTER" "Ljava/util/function/BiFunction;" fm) (hp6 : Old Z n0 h0) :
    MetFree l y_15 (head1 (Jvm.Cond.code y_15 jdk_52_method_91_code 2 none :: ws) ({ frames := 2, cells := 0, slots := 0, locals := 27 } : Room)) (fun a U => a = #[(.int pi), (.ref a1)] ∧ Z.Warmed39 U.vm ∧ U.heap = h0) (fun _ _ _ _ _ => True) (fun _ U o U' => ∃ v L, o = .returned v ∧ Q_rmUci Z pi a1 kb n vs fm h0 n0 v U'.heap L ∧ FrameEnd U o U' L ({ frames := 2, cells := 0, slots := 0, locals := 27 } : Room).cells ({ frames := 2, cells := 0, slots := 0, locals := 27 } : Room).slots) := by
 refine bodyOf pn_15 (fun m => ef_rmUci m pi a1) ?_
 intro p e s m below meth c T0 X0 hx hby hml hown hnm hret hk hZ e0
 have N0 := Fr.nil n0
 have K0 : Keep h0 h0 [] := Keep.refl _ _
 have O0 := hp6
 refine go (S' := T0.setTop (mkF m 2 #[si pi, sr a1] [(.ref a1), (.int pi)])) (fun t k => XS.iloadN X0.here hx rfl (hb hby d17_0) rfl (XS.aloadN X0.here hx rfl (hb hby d17_1) rfl rfl k)) ?_
 obtain ⟨v87, T87, L87, X87, hQ87, st87⟩ := callSt X0 hx hZ (y := y_14) hown (ww hw 76 rfl) (ww hw 77 rfl) (ww hw 23 rfl) (ww hw 78 rfl) (by decide) (backOf (W := 1) (rmUl l Z a0 hw [] a1 kb n vs h0 n0 (Nat.le_trans Z0 K0.1) hp0 hl) hZ (ww hw 78 rfl) (ww hw 23 rfl) (by decide) (by decide)) (g := (mkF m 2 #[si pi, sr a1] [(.ref a1), (.int pi)])) rfl (by rw [hml]; rfl) (kc := 0) (ks := 0) (argsL := [(.ref a1)]) (rest := [(.int pi)]) (lenOf pd_10 rfl) rfl (mr0 rfl) (hb hby d17_2) e0 (by decide) (by decide)
 obtain ⟨rfl, N87q, e87⟩ := hQ87
 have N87 := Fr.app N0 N87q
 refine go (S' := T87.setTop (mkF m 5 #[si pi, sr a1] [(.int (Int32.ofNat n)), (.int pi)])) st87 ?_
 have O88 : Old Z n0 h0 := O0.keep K0 all0
 obtain ⟨v89, T89, L89, X89, hQ89, st89⟩ := callSt X87 hx hZ (y := y_11) hown (ww hw 79 rfl) (ww hw 80 rfl) (ww hw 9 rfl) (ww hw 81 rfl) (by decide) (backOf (W := 0) (rmSci l Z a0 hw [] pi (Int32.ofNat n) fm h0 n0 (Nat.le_trans Z0 K0.1) hfm hz0 hz1 hp5 O88) hZ (ww hw 81 rfl) (ww hw 9 rfl) (by decide) (by decide)) (g := (mkF m 5 #[si pi, sr a1] [(.int (Int32.ofNat n)), (.int pi)])) rfl (by rw [hml]; rfl) (kc := 0) (ks := 0) (argsL := [(.int pi), (.int (Int32.ofNat n))]) (rest := []) (lenOf pd_9 rfl) rfl (mr0 rfl) (hb hby d17_5) e87 (by decide) (by decide)
 obtain ⟨rfl, N89q, e89⟩ := hQ89
 have N89 := Fr.app N87 N89q
 refine go (S' := T89.setTop (mkF m 8 #[si pi, sr a1] [])) st89 ?_
 refine finV X89 hx hk hret (hb hby d17_8) (by decide) (by decide) ?_
 rw [e89]
 exact ⟨rfl, N89, rfl⟩
theorem d16_0 : decode jdk_52_method_83_code 0 = .ok (.iload_n 1, 1) := by decide +kernel
theorem d16_1 : decode jdk_52_method_83_code 1 = .ok (.aload_n 0, 1) := by decide +kernel
theorem d16_2 : decode jdk_52_method_83_code 2 = .ok (.invokestatic 67, 3) := by decide +kernel
theorem pd_11 : parseMethodDescriptor "(I[B)V" = some ⟨[.int, (.array .byte)], none⟩ := by decide +kernel
theorem d16_5 : decode jdk_52_method_83_code 5 = .ok (.aload_n 0, 1) := by decide +kernel
theorem d16_6 : decode jdk_52_method_83_code 6 = .ok (.iload_n 1, 1) := by decide +kernel
theorem d16_7 : decode jdk_52_method_83_code 7 = .ok (.invokestatic 71, 3) := by decide +kernel
theorem d16_10 : decode jdk_52_method_83_code 10 = .ok (.ireturn, 1) := by decide +kernel
abbrev y_16 : MethodName := ⟨"java/lang/StringUTF16", "charAt", "([BI)C"⟩
theorem pn_16 : plainFor y_16 = true := by first | exact plainFor_of_name (by first | (simp [plainName, overriddenIn]; done) | decide +kernel) | decide +kernel
theorem ef_rmUch (m : MethodId) (a1 : Addr) (pi : Int32) : entryFrame m #[(.ref a1), (.int pi)] 2 = mkF m 0 #[sr a1, si pi] [] := by first | (simp [entryFrame, mkF, argsToLocals, Value.category]; done) | rfl
def Q_rmUch (Z : State) (a1 : Addr) (pi : Int32) (kb : ClassId) (cs : List Int32) (i : Nat) (fm : Value) (h0 : Heap) (n0 : Nat) (v : Option Value) (h : Heap) (L : List Loc) : Prop := v = some (.int (cs.getD i 0)) ∧ Fr n0 L ∧ h = h0
set_option maxRecDepth 65536 in
set_option maxHeartbeats 40000000 in
theorem rmUch (l : Launch) (Z : State) (a0 : Array Value) (hw : ∀ d ∈ tables_1, d.before a0 Z = true) (ws : List Jvm.Cond) (a1 : Addr) (pi : Int32) (kb : ClassId) (cs : List Int32) (i : Nat) (fm : Value) (h0 : Heap) (n0 : Nat) (Z0 : n0 ≤ h0.size) (hix : pi = Int32.ofNat i) (hi : i < cs.length) (hl : cs.length ≤ 4000) (hpc : ∀ c ∈ cs, ¬ c < 0 ∧ ¬ (65535 : Int32) < c) (hlc : cs.length ≤ 3) (hp5 : Arv Z h0 a1 kb .byte (Int32.ofNat (2 * cs.length)) (StrChars.Road.wideBytes cs) (.int 0)) (hfm : fm.isRef = true) (hp7 : Sta Z Z.heap "jdk/internal/util/Preconditions" "SIOOBE_FORMATTER" "Ljava/util/function/BiFunction;" fm) (hp8 : Sta Z Z.heap "java/lang/StringUTF16" "$assertionsDisabled" "Z" (.int 1)) (hp9 : Sta Z Z.heap "java/lang/StringUTF16" "HI_BYTE_SHIFT" "I" (.int 0)) (hp10 : Sta Z Z.heap "java/lang/StringUTF16" "LO_BYTE_SHIFT" "I" (.int 8)) (hp11 : Old Z n0 h0) :
    MetFree l y_16 (head1 (Jvm.Cond.code y_16 jdk_52_method_83_code 2 (some .char) :: ws) ({ frames := 3, cells := 0, slots := 0, locals := 40 } : Room)) (fun a U => a = #[(.ref a1), (.int pi)] ∧ Z.Warmed39 U.vm ∧ U.heap = h0) (fun _ _ _ _ _ => True) (fun _ U o U' => ∃ v L, o = .returned v ∧ Q_rmUch Z a1 pi kb cs i fm h0 n0 v U'.heap L ∧ FrameEnd U o U' L ({ frames := 3, cells := 0, slots := 0, locals := 40 } : Room).cells ({ frames := 3, cells := 0, slots := 0, locals := 40 } : Room).slots) := by
 refine bodyOf pn_16 (fun m => ef_rmUch m a1 pi) ?_
 intro p e s m below meth c T0 X0 hx hby hml hown hnm hret hk hZ e0
 have N0 := Fr.nil n0
 have K0 : Keep h0 h0 [] := Keep.refl _ _
 have O0 := hp11
 have hz0 : ¬ (pi < (0 : Int32)) := by rw [hix]; exact oj_nn (by omega)
 have hz1 : pi < (Int32.ofNat cs.length) := by rw [hix]; exact oj_lt hi (by omega)
 refine go (S' := T0.setTop (mkF m 2 #[sr a1, si pi] [(.ref a1), (.int pi)])) (fun t k => XS.iloadN X0.here hx rfl (hb hby d16_0) rfl (XS.aloadN X0.here hx rfl (hb hby d16_1) rfl rfl k)) ?_
 have O90 : Old Z n0 h0 := O0.keep K0 all0
 obtain ⟨v91, T91, L91, X91, hQ91, st91⟩ := callSt X0 hx hZ (y := y_15) hown (ww hw 73 rfl) (ww hw 74 rfl) (ww hw 23 rfl) (ww hw 75 rfl) (by decide) (backOf (W := 0) (rmUci l Z a0 hw [] pi a1 kb cs.length (StrChars.Road.wideBytes cs) fm h0 n0 (Nat.le_trans Z0 K0.1) hp5 hl hfm hz0 hz1 hp7 O90) hZ (ww hw 75 rfl) (ww hw 23 rfl) (by decide) (by decide)) (g := (mkF m 2 #[sr a1, si pi] [(.ref a1), (.int pi)])) rfl (by rw [hml]; rfl) (kc := 0) (ks := 0) (argsL := [(.int pi), (.ref a1)]) (rest := []) (lenOf pd_11 rfl) rfl (mr0 rfl) (hb hby d16_2) e0 (by decide) (by decide)
 obtain ⟨rfl, N91q, e91⟩ := hQ91
 have N91 := Fr.app N0 N91q
 refine go (S' := T91.setTop (mkF m 7 #[sr a1, si pi] [(.int pi), (.ref a1)])) (fun t k => st91 _ (XS.aloadN X91.here hx rfl (hb hby d16_5) rfl rfl (XS.iloadN X91.here hx rfl (hb hby d16_6) rfl k))) ?_
 obtain ⟨v92, T92, L92, X92, hQ92, st92⟩ := callSt X91 hx hZ (y := y_4) hown (ww hw 45 rfl) (ww hw 46 rfl) (ww hw 23 rfl) (ww hw 47 rfl) (by decide) (backOf (W := 0) (rmGet l Z a0 hw [] a1 pi kb i cs.length (StrChars.Road.wideBytes cs) (cs.getD i 0) h0 n0 (Nat.le_trans Z0 K0.1) hp5 hix hi hlc (StrChars.Road.wide_lo _ cs _ hi) (StrChars.Road.wide_hi _ cs _ hi) (hpc _ (oj_mem hi)) hp8 hp9 hp10 O90) hZ (ww hw 47 rfl) (ww hw 23 rfl) (by decide) (by decide)) (g := (mkF m 7 #[sr a1, si pi] [(.int pi), (.ref a1)])) rfl (by rw [hml]; rfl) (kc := 0) (ks := 0) (argsL := [(.ref a1), (.int pi)]) (rest := []) (lenOf pd_5 rfl) rfl (mr0 rfl) (hb hby d16_7) e91 (by decide) (by decide)
 obtain ⟨rfl, N92q, e92⟩ := hQ92
 have N92 := Fr.app N91 N92q
 refine go (S' := T92.setTop (mkF m 10 #[sr a1, si pi] [(.int (cs.getD i 0))])) st92 ?_
 refine finN X92 hx hk (t := .char) hret (by simp) (hb hby d16_10) (by decide) (by decide) ?_
 rw [e92]
 exact ⟨(congrArg (fun z => some (Value.int z)) (oj_c16 (hpc _ (oj_mem hi)))), N92, rfl⟩
theorem d14_0 : decode jdk_42_method_56_code 0 = .ok (.aload_n 0, 1) := by decide +kernel
theorem d14_1 : decode jdk_42_method_56_code 1 = .ok (.invokevirtual 492, 3) := by decide +kernel
theorem pd_12 : parseMethodDescriptor "()Z" = some ⟨[], some .boolean⟩ := by decide +kernel
theorem d14_4 : decode jdk_42_method_56_code 4 = .ok (.ifCond .eq 12, 3) := by decide +kernel
theorem d14_7 : decode jdk_42_method_56_code 7 = .ok (.aload_n 0, 1) := by decide +kernel
theorem d14_8 : decode jdk_42_method_56_code 8 = .ok (.getfield 9, 3) := by decide +kernel
theorem d14_11 : decode jdk_42_method_56_code 11 = .ok (.iload_n 1, 1) := by decide +kernel
theorem d14_12 : decode jdk_42_method_56_code 12 = .ok (.invokestatic 495, 3) := by decide +kernel
theorem d14_15 : decode jdk_42_method_56_code 15 = .ok (.ireturn, 1) := by decide +kernel
theorem d14_16 : decode jdk_42_method_56_code 16 = .ok (.aload_n 0, 1) := by decide +kernel
theorem d14_17 : decode jdk_42_method_56_code 17 = .ok (.getfield 9, 3) := by decide +kernel
theorem d14_20 : decode jdk_42_method_56_code 20 = .ok (.iload_n 1, 1) := by decide +kernel
theorem d14_21 : decode jdk_42_method_56_code 21 = .ok (.invokestatic 498, 3) := by decide +kernel
theorem d14_24 : decode jdk_42_method_56_code 24 = .ok (.ireturn, 1) := by decide +kernel
abbrev y_17 : MethodName := ⟨"java/lang/String", "charAt", "(I)C"⟩
theorem pn_17 : plainFor y_17 = true := by first | exact plainFor_of_name (by first | (simp [plainName, overriddenIn]; done) | decide +kernel) | decide +kernel
theorem ef_rmChr (m : MethodId) (x1 : Addr) (pi : Int32) : entryFrame m #[(.ref x1), (.int pi)] 2 = mkF m 0 #[sr x1, si pi] [] := by first | (simp [entryFrame, mkF, argsToLocals, Value.category]; done) | rfl
def Q_rmChr (Z : State) (x1 : Addr) (pi : Int32) (t1 : Addr) (cd : Int32) (cs : List Int32) (i : Nat) (G1 : Int32) (fm : Value) (h0 : Heap) (n0 : Nat) (v : Option Value) (h : Heap) (L : List Loc) : Prop := v = some (.int (cs.getD i 0)) ∧ Fr n0 L ∧ h = h0
set_option maxRecDepth 65536 in
set_option maxHeartbeats 40000000 in
theorem rmChr (l : Launch) (Z : State) (a0 : Array Value) (hw : ∀ d ∈ tables_1, d.before a0 Z = true) (ws : List Jvm.Cond) (x1 : Addr) (pi : Int32) (t1 : Addr) (cd : Int32) (cs : List Int32) (i : Nat) (G1 : Int32) (fm : Value) (h0 : Heap) (n0 : Nat) (Z0 : n0 ≤ h0.size) (hp0 : Str Z h0 x1 t1 cd cs) (hix : pi = Int32.ofNat i) (hi : i < cs.length) (hlc : cs.length ≤ 3) (hfm : fm.isRef = true) (hp5 : Sta Z Z.heap "jdk/internal/util/Preconditions" "SIOOBE_FORMATTER" "Ljava/util/function/BiFunction;" fm) (hp6 : Sta Z Z.heap "java/lang/String" "COMPACT_STRINGS" "Z" (.int G1)) (hG1 : ¬ (G1 = (0 : Int32))) (hp8 : Sta Z Z.heap "java/lang/StringUTF16" "$assertionsDisabled" "Z" (.int 1)) (hp9 : Sta Z Z.heap "java/lang/StringUTF16" "HI_BYTE_SHIFT" "I" (.int 0)) (hp10 : Sta Z Z.heap "java/lang/StringUTF16" "LO_BYTE_SHIFT" "I" (.int 8)) (hp11 : Old Z n0 h0) :
    MetFree l y_17 (head1 (Jvm.Cond.code y_17 jdk_42_method_56_code 2 (some .char) :: ws) ({ frames := 4, cells := 0, slots := 0, locals := 53 } : Room)) (fun a U => a = #[(.ref x1), (.int pi)] ∧ Z.Warmed39 U.vm ∧ U.heap = h0) (fun _ _ _ _ _ => True) (fun _ U o U' => ∃ v L, o = .returned v ∧ Q_rmChr Z x1 pi t1 cd cs i G1 fm h0 n0 v U'.heap L ∧ FrameEnd U o U' L ({ frames := 4, cells := 0, slots := 0, locals := 53 } : Room).cells ({ frames := 4, cells := 0, slots := 0, locals := 53 } : Room).slots) := by
 refine bodyOf pn_17 (fun m => ef_rmChr m x1 pi) ?_
 intro p e s m below meth c T0 X0 hx hby hml hown hnm hret hk hZ e0
 have N0 := Fr.nil n0
 have K0 : Keep h0 h0 [] := Keep.refl _ _
 have O0 := hp11
 obtain ⟨kb, N2, vs, hE, hV, hC, hA, hcod, hpc, hl⟩ := id hp0
 rcases hcod with ⟨hcd, hN2, hvs, hlat⟩ | ⟨hcd, hN2, hvs, hex⟩
 ·
  rw [hcd] at hC; rw [hN2, hvs] at hA
  refine go (S' := T0.setTop (mkF m 1 #[sr x1, si pi] [(.ref x1)])) (fun t k => XS.aloadN X0.here hx rfl (hb hby d14_0) rfl rfl k) ?_
  have O93 : Old Z n0 h0 := O0.keep K0 all0
  obtain ⟨v94, T94, L94, X94, hQ94, st94⟩ := callV X0 hx hZ (y := y_12) (z := y_12) hown (ww hw 65 rfl) (ww hw 66 rfl) (notFace_of_selects (args := #[]) (mvT hZ (ww hw 68 rfl))) (ww hw 68 rfl) (ww hw 67 rfl) (by decide) (backOf (W := 0) (rmIsl l Z a0 hw [] x1 (0 : Int32) G1 h0 n0 (Nat.le_trans Z0 K0.1) hC hp6 hG1 O93) hZ (ww hw 69 rfl) (ww hw 9 rfl) (by decide) (by decide)) hE (g := (mkF m 1 #[sr x1, si pi] [(.ref x1)])) rfl (by rw [hml]; rfl) (kc := 0) (ks := 0) (argsL := []) (rest := []) (lenOf pd_12 rfl) rfl (mr0 rfl) (hb hby d14_1) e0 (by decide) (by decide)
  obtain ⟨rfl, N94q, e94⟩ := hQ94
  have N94 := Fr.app N0 N94q
  refine go (S' := T94.setTop (mkF m 4 #[sr x1, si pi] [(.int (if (0 : Int32) = (0 : Int32) then (1 : Int32) else (0 : Int32)))])) st94 ?_
  have hc95 : ¬ ((if (0 : Int32) = (0 : Int32) then (1 : Int32) else (0 : Int32)) = (0 : Int32)) := by decide
  refine go (S' := T94.setTop (mkF m 8 #[sr x1, si pi] [(.ref x1)])) (fun t k => XS.ifNo X94.here hx rfl (hb hby d14_4) rfl ((if0 _ _).trans (feq hc95).1) (XS.aloadN X94.here hx rfl (hb hby d14_7) rfl rfl k)) ?_
  obtain ⟨T96, X96, e96, st96⟩ := getF X94 hx hZ hown (host := "") (Or.inl (ww hw 53 rfl)) Via.refl e94 hV (g := (mkF m 8 #[sr x1, si pi] [(.ref x1)])) rfl rfl (hb hby d14_8)
  refine go (S' := T96.setTop (mkF m 12 #[sr x1, si pi] [(.int pi), (.ref t1)])) (fun t k => st96 _ (XS.iloadN X96.here hx rfl (hb hby d14_11) rfl k)) ?_
  obtain ⟨v97, T97, L97, X97, hQ97, st97⟩ := callSt X96 hx hZ (y := y_13) hown (ww hw 98 rfl) (ww hw 99 rfl) (ww hw 100 rfl) (ww hw 101 rfl) (by decide) (backOf (W := 0) (rmLch l Z a0 hw [] t1 pi kb cs i fm h0 n0 (Nat.le_trans Z0 K0.1) hix hi hl hpc hlat hA hfm hp5 O93) hZ (ww hw 101 rfl) (ww hw 100 rfl) (by decide) (by decide)) (g := (mkF m 12 #[sr x1, si pi] [(.int pi), (.ref t1)])) rfl (by rw [hml]; rfl) (kc := 0) (ks := 0) (argsL := [(.ref t1), (.int pi)]) (rest := []) (lenOf pd_5 rfl) rfl (mr0 rfl) (hb hby d14_12) e96 (by decide) (by decide)
  obtain ⟨rfl, N97q, e97⟩ := hQ97
  have N97 := Fr.app N94 N97q
  refine go (S' := T97.setTop (mkF m 15 #[sr x1, si pi] [(.int (cs.getD i 0))])) st97 ?_
  refine finN X97 hx hk (t := .char) hret (by simp) (hb hby d14_15) (by decide) (by decide) ?_
  rw [e97]
  exact ⟨(congrArg (fun z => some (Value.int z)) (oj_c16 (hpc _ (oj_mem hi)))), N97, rfl⟩
 ·
  rw [hcd] at hC; rw [hN2, hvs] at hA
  refine go (S' := T0.setTop (mkF m 1 #[sr x1, si pi] [(.ref x1)])) (fun t k => XS.aloadN X0.here hx rfl (hb hby d14_0) rfl rfl k) ?_
  have O98 : Old Z n0 h0 := O0.keep K0 all0
  obtain ⟨v99, T99, L99, X99, hQ99, st99⟩ := callV X0 hx hZ (y := y_12) (z := y_12) hown (ww hw 65 rfl) (ww hw 66 rfl) (notFace_of_selects (args := #[]) (mvT hZ (ww hw 68 rfl))) (ww hw 68 rfl) (ww hw 67 rfl) (by decide) (backOf (W := 0) (rmIsl l Z a0 hw [] x1 (1 : Int32) G1 h0 n0 (Nat.le_trans Z0 K0.1) hC hp6 hG1 O98) hZ (ww hw 69 rfl) (ww hw 9 rfl) (by decide) (by decide)) hE (g := (mkF m 1 #[sr x1, si pi] [(.ref x1)])) rfl (by rw [hml]; rfl) (kc := 0) (ks := 0) (argsL := []) (rest := []) (lenOf pd_12 rfl) rfl (mr0 rfl) (hb hby d14_1) e0 (by decide) (by decide)
  obtain ⟨rfl, N99q, e99⟩ := hQ99
  have N99 := Fr.app N0 N99q
  refine go (S' := T99.setTop (mkF m 4 #[sr x1, si pi] [(.int (if (1 : Int32) = (0 : Int32) then (1 : Int32) else (0 : Int32)))])) st99 ?_
  have hc100 : (if (1 : Int32) = (0 : Int32) then (1 : Int32) else (0 : Int32)) = (0 : Int32) := by decide
  refine go (S' := T99.setTop (mkF m 17 #[sr x1, si pi] [(.ref x1)])) (fun t k => XS.ifYes X99.here hx rfl (pc0 := 4) (pc' := 16) rfl (hb hby d14_4) rfl ((if0 _ _).trans (teq hc100).1) (by decide) (by decide) (XS.aloadN X99.here hx rfl (hb hby d14_16) rfl rfl k)) ?_
  obtain ⟨T101, X101, e101, st101⟩ := getF X99 hx hZ hown (host := "") (Or.inl (ww hw 53 rfl)) Via.refl e99 hV (g := (mkF m 17 #[sr x1, si pi] [(.ref x1)])) rfl rfl (hb hby d14_17)
  refine go (S' := T101.setTop (mkF m 21 #[sr x1, si pi] [(.int pi), (.ref t1)])) (fun t k => st101 _ (XS.iloadN X101.here hx rfl (hb hby d14_20) rfl k)) ?_
  obtain ⟨v102, T102, L102, X102, hQ102, st102⟩ := callSt X101 hx hZ (y := y_16) hown (ww hw 70 rfl) (ww hw 71 rfl) (ww hw 23 rfl) (ww hw 72 rfl) (by decide) (backOf (W := 0) (rmUch l Z a0 hw [] t1 pi kb cs i fm h0 n0 (Nat.le_trans Z0 K0.1) hix hi hl hpc hlc hA hfm hp5 hp8 hp9 hp10 O98) hZ (ww hw 72 rfl) (ww hw 23 rfl) (by decide) (by decide)) (g := (mkF m 21 #[sr x1, si pi] [(.int pi), (.ref t1)])) rfl (by rw [hml]; rfl) (kc := 0) (ks := 0) (argsL := [(.ref t1), (.int pi)]) (rest := []) (lenOf pd_5 rfl) rfl (mr0 rfl) (hb hby d14_21) e101 (by decide) (by decide)
  obtain ⟨rfl, N102q, e102⟩ := hQ102
  have N102 := Fr.app N99 N102q
  refine go (S' := T102.setTop (mkF m 24 #[sr x1, si pi] [(.int (cs.getD i 0))])) st102 ?_
  refine finN X102 hx hk (t := .char) hret (by simp) (hb hby d14_24) (by decide) (by decide) ?_
  rw [e102]
  exact ⟨(congrArg (fun z => some (Value.int z)) (oj_c16 (hpc _ (oj_mem hi)))), N102, rfl⟩
/-- isHighSurrogate -/
def own_hs (c : Int32) : Int32 := if c < 55296 then 0 else if c < 56320 then 1 else 0
/-- at, by its char and the one before -/
def own_at (c q : Int32) : Int32 := if c < 56448 then -1 else if (56575 : Int32) < c then -1 else if q = 0 then c - 56320 else -1
theorem own_hs01 (c : Int32) : own_hs c = 0 ∨ own_hs c = 1 := by
  unfold own_hs
  by_cases h1 : c < 55296
  · rw [if_pos h1]; exact Or.inl rfl
  · rw [if_neg h1]
    by_cases h2 : c < 56320
    · rw [if_pos h2]; exact Or.inr rfl
    · rw [if_neg h2]; exact Or.inl rfl
theorem own_c16 (x : Int32) : ¬ x.toUInt32.toUInt16.toUInt32.toInt32 < 0 ∧ ¬ (65535 : Int32) < x.toUInt32.toUInt16.toUInt32.toInt32 := by
  have h := c_i2c x
  simp only [Int32.lt_iff_toInt_lt]
  have e0 : (0 : Int32).toInt = 0 := rfl
  have e1 : (65535 : Int32).toInt = 65535 := rfl
  omega
theorem own_ix (x : Int32) : (x &&& (2147483647 : Int32)) % (3 : Int32) = 0 ∨ (x &&& (2147483647 : Int32)) % (3 : Int32) = 1 ∨ (x &&& (2147483647 : Int32)) % (3 : Int32) = 2 := by
  have h := c_mask x 2147483647 31 (by decide) (by decide)
  have r := (c_irem (x &&& 2147483647) 3 3 rfl).1 (by omega)
  have e0 : (0 : Int32).toInt = 0 := rfl
  have e1 : (1 : Int32).toInt = 1 := rfl
  have e2 : (2 : Int32).toInt = 2 := rfl
  simp only [← Int32.toInt_inj, e0, e1, e2]
  omega
theorem own_hs_sh {c : Int32} (h : ¬ c < 0 ∧ ¬ (65535 : Int32) < c) : own_hs c = if (c >>> ((10 : Int32) &&& 31)) = (54 : Int32) then (1 : Int32) else (0 : Int32) := by
  have s := c_ishr c 10 10 (by decide)
  obtain ⟨h0, h1⟩ := h
  have e0 : (0 : Int32).toInt = 0 := rfl
  have e1 : (65535 : Int32).toInt = 65535 := rfl
  have e2 : (54 : Int32).toInt = 54 := rfl
  have e3 : (55296 : Int32).toInt = 55296 := rfl
  have e4 : (56320 : Int32).toInt = 56320 := rfl
  simp only [own_hs, Int32.lt_iff_toInt_lt, ← Int32.toInt_inj, e0, e1, e2, e3, e4] at h0 h1 ⊢
  split
  · rw [if_neg (by omega)]
  · split
    · rw [if_pos (by omega)]
    · rw [if_neg (by omega)]
theorem own_at_eq {c : Int32} (h : ¬ c < 0 ∧ ¬ (65535 : Int32) < c) (q : Int32) (hq : q = 0 ∨ q = 1) : own_at c q = if (c >>> ((7 : Int32) &&& 31)) = (441 : Int32) then (if q = (0 : Int32) then (c &&& (255 : Int32)) else (-1 : Int32)) else (-1 : Int32) := by
  have s := c_ishr c 7 7 (by decide)
  have a := c_mask c 255 8 (by decide) (by decide)
  have b := c_isub c 56320
  have r := rng32 (c - 56320)
  obtain ⟨h0, h1⟩ := h
  have e0 : (0 : Int32).toInt = 0 := rfl
  have e1 : (65535 : Int32).toInt = 65535 := rfl
  have e2 : (441 : Int32).toInt = 441 := rfl
  have e3 : (56448 : Int32).toInt = 56448 := rfl
  have e4 : (56320 : Int32).toInt = 56320 := rfl
  have e5 : (56575 : Int32).toInt = 56575 := rfl
  simp only [Int32.lt_iff_toInt_lt, e0, e1] at h0 h1
  have k : (c >>> ((7 : Int32) &&& 31)) = (441 : Int32) ↔ (¬ c < 56448 ∧ ¬ (56575 : Int32) < c) := by
    simp only [← Int32.toInt_inj, Int32.lt_iff_toInt_lt, e2, e3, e5]; omega
  unfold own_at
  by_cases q1 : c < 56448
  · rw [if_pos q1, if_neg fun z => (k.mp z).1 q1]
  · rw [if_neg q1]
    by_cases q2 : (56575 : Int32) < c
    · rw [if_pos q2, if_neg fun z => (k.mp z).2 q2]
    · rw [if_neg q2, if_pos (k.mpr ⟨q1, q2⟩)]
      have e : c - 56320 = c &&& 255 := by
        apply Int32.toInt_inj.mp
        simp only [Int32.lt_iff_toInt_lt, e3, e5] at q1 q2
        omega
      rw [e]

theorem d21_0 : decode jdk_89_method_14_code 0 = .ok (.iload_n 0, 1) := by decide +kernel
theorem d21_1 : decode jdk_89_method_14_code 1 = .ok (.ldc 75, 2) := by decide +kernel
theorem d21_3 : decode jdk_89_method_14_code 3 = .ok (.if_icmp .lt 13, 3) := by decide +kernel
theorem d21_16 : decode jdk_89_method_14_code 16 = .ok (.iconst 0, 1) := by decide +kernel
theorem d21_17 : decode jdk_89_method_14_code 17 = .ok (.ireturn, 1) := by decide +kernel
theorem d21_6 : decode jdk_89_method_14_code 6 = .ok (.iload_n 0, 1) := by decide +kernel
theorem d21_7 : decode jdk_89_method_14_code 7 = .ok (.ldc 76, 2) := by decide +kernel
theorem d21_9 : decode jdk_89_method_14_code 9 = .ok (.if_icmp .ge 7, 3) := by decide +kernel
theorem d21_12 : decode jdk_89_method_14_code 12 = .ok (.iconst 1, 1) := by decide +kernel
theorem d21_13 : decode jdk_89_method_14_code 13 = .ok (.goto 4, 3) := by decide +kernel
abbrev y_18 : MethodName := ⟨"java/lang/Character", "isHighSurrogate", "(C)Z"⟩
theorem pn_18 : plainFor y_18 = true := by first | exact plainFor_of_name (by first | (simp [plainName, overriddenIn]; done) | decide +kernel) | decide +kernel
theorem ef_rmHs (m : MethodId) (p1 : Int32) : entryFrame m #[(.int p1)] 1 = mkF m 0 #[si p1] [] := by first | (simp [entryFrame, mkF, argsToLocals, Value.category]; done) | rfl
def Q_rmHs (Z : State) (p1 : Int32) (h0 : Heap) (n0 : Nat) (v : Option Value) (h : Heap) (L : List Loc) : Prop := v = some (.int (own_hs p1)) ∧ Fr n0 L ∧ h = h0
set_option maxRecDepth 65536 in
set_option maxHeartbeats 40000000 in
theorem rmHs (l : Launch) (Z : State) (a0 : Array Value) (hw : ∀ d ∈ tables_1, d.before a0 Z = true) (ws : List Jvm.Cond) (p1 : Int32) (h0 : Heap) (n0 : Nat) (Z0 : n0 ≤ h0.size)  :
    MetFree l y_18 (head1 (Jvm.Cond.code y_18 jdk_89_method_14_code 1 (some .boolean) :: ws) ({ frames := 0, cells := 0, slots := 0, locals := 0 } : Room)) (fun a U => a = #[(.int p1)] ∧ Z.Warmed39 U.vm ∧ U.heap = h0) (fun _ _ _ _ _ => True) (fun _ U o U' => ∃ v L, o = .returned v ∧ Q_rmHs Z p1 h0 n0 v U'.heap L ∧ FrameEnd U o U' L ({ frames := 0, cells := 0, slots := 0, locals := 0 } : Room).cells ({ frames := 0, cells := 0, slots := 0, locals := 0 } : Room).slots) := by
 refine bodyOf pn_18 (fun m => ef_rmHs m p1) ?_
 intro p e s m below meth c T0 X0 hx hby hml hown hnm hret hk hZ e0
 have N0 := Fr.nil n0
 have K0 : Keep h0 h0 [] := Keep.refl _ _
 refine go (S' := T0.setTop (mkF m 3 #[si p1] [(.int 55296), (.int p1)])) (fun t k => XS.iloadN X0.here hx rfl (hb hby d21_0) rfl (X0.ldcInt hx hown (mvT hZ (ww hw 93 rfl)) (g := (mkF m 1 #[si p1] [(.int p1)])) rfl (hb hby d21_1) _ k)) ?_
 by_cases hc103 : p1 < (55296 : Int32)
 ·
  refine go (S' := T0.setTop (mkF m 17 #[si p1] [(.int 0)])) (fun t k => XS.icmpYes X0.here hx rfl (pc0 := 3) (pc' := 16) rfl (hb hby d21_3) rfl (tlt hc103).1 (by decide) (by decide) (XS.iconst X0.here hx rfl (hb hby d21_16) k)) ?_
  refine finN X0 hx hk (t := .boolean) hret (by simp) (hb hby d21_17) (by decide) (by decide) ?_
  rw [e0]
  exact ⟨(by rw [own_hs, if_pos hc103]; rfl), N0, rfl⟩
 ·
  refine go (S' := T0.setTop (mkF m 9 #[si p1] [(.int 56320), (.int p1)])) (fun t k => XS.icmpNo X0.here hx rfl (hb hby d21_3) rfl (flt hc103).1 (XS.iloadN X0.here hx rfl (hb hby d21_6) rfl (X0.ldcInt hx hown (mvT hZ (ww hw 94 rfl)) (g := (mkF m 7 #[si p1] [(.int p1)])) rfl (hb hby d21_7) _ k))) ?_
  by_cases hc104 : p1 < (56320 : Int32)
  ·
   refine go (S' := T0.setTop (mkF m 17 #[si p1] [(.int 1)])) (fun t k => XS.icmpNo X0.here hx rfl (hb hby d21_9) rfl (tlt hc104).2.1 (XS.iconst X0.here hx rfl (hb hby d21_12) (XS.goto X0.here hx rfl (pc0 := 13) (pc' := 17) rfl (hb hby d21_13) (by decide) (by decide) k))) ?_
   refine finN X0 hx hk (t := .boolean) hret (by simp) (hb hby d21_17) (by decide) (by decide) ?_
   rw [e0]
   exact ⟨(by rw [own_hs, if_neg hc103, if_pos hc104]; rfl), N0, rfl⟩
  ·
   refine go (S' := T0.setTop (mkF m 17 #[si p1] [(.int 0)])) (fun t k => XS.icmpYes X0.here hx rfl (pc0 := 9) (pc' := 16) rfl (hb hby d21_9) rfl (flt hc104).2.1 (by decide) (by decide) (XS.iconst X0.here hx rfl (hb hby d21_16) k)) ?_
   refine finN X0 hx hk (t := .boolean) hret (by simp) (hb hby d21_17) (by decide) (by decide) ?_
   rw [e0]
   exact ⟨(by rw [own_hs, if_neg hc103, if_neg hc104]; rfl), N0, rfl⟩
theorem d1_0 : decode method_2_code 0 = .ok (.iload_n 1, 1) := by decide +kernel
theorem d1_1 : decode method_2_code 1 = .ok (.iconst 3, 1) := by decide +kernel
theorem d1_2 : decode method_2_code 2 = .ok (.iand, 1) := by decide +kernel
theorem d1_3 : decode method_2_code 3 = .ok (.istore_n 2, 1) := by decide +kernel
theorem d1_4 : decode method_2_code 4 = .ok (.iload_n 2, 1) := by decide +kernel
theorem d1_5 : decode method_2_code 5 = .ok (.ifCond .ne 9, 3) := by decide +kernel
theorem d1_8 : decode method_2_code 8 = .ok (.iload_n 0, 1) := by decide +kernel
theorem d1_9 : decode method_2_code 9 = .ok (.ldc 7, 2) := by decide +kernel
theorem d1_11 : decode method_2_code 11 = .ok (.iand, 1) := by decide +kernel
theorem d1_12 : decode method_2_code 12 = .ok (.i2c, 1) := by decide +kernel
theorem d1_13 : decode method_2_code 13 = .ok (.ireturn, 1) := by decide +kernel
theorem d1_14 : decode method_2_code 14 = .ok (.iload_n 2, 1) := by decide +kernel
theorem d1_15 : decode method_2_code 15 = .ok (.iconst 1, 1) := by decide +kernel
theorem d1_16 : decode method_2_code 16 = .ok (.if_icmp .ne 13, 3) := by decide +kernel
theorem d1_19 : decode method_2_code 19 = .ok (.ldc 8, 2) := by decide +kernel
theorem d1_21 : decode method_2_code 21 = .ok (.iload_n 0, 1) := by decide +kernel
theorem d1_22 : decode method_2_code 22 = .ok (.sipush 511, 3) := by decide +kernel
theorem d1_25 : decode method_2_code 25 = .ok (.iand, 1) := by decide +kernel
theorem d1_26 : decode method_2_code 26 = .ok (.iadd, 1) := by decide +kernel
theorem d1_27 : decode method_2_code 27 = .ok (.i2c, 1) := by decide +kernel
theorem d1_28 : decode method_2_code 28 = .ok (.ireturn, 1) := by decide +kernel
theorem d1_29 : decode method_2_code 29 = .ok (.iload_n 2, 1) := by decide +kernel
theorem d1_30 : decode method_2_code 30 = .ok (.iconst 2, 1) := by decide +kernel
theorem d1_31 : decode method_2_code 31 = .ok (.if_icmp .ne 13, 3) := by decide +kernel
theorem d1_34 : decode method_2_code 34 = .ok (.ldc 9, 2) := by decide +kernel
theorem d1_36 : decode method_2_code 36 = .ok (.iload_n 0, 1) := by decide +kernel
theorem d1_37 : decode method_2_code 37 = .ok (.sipush 2047, 3) := by decide +kernel
theorem d1_40 : decode method_2_code 40 = .ok (.iand, 1) := by decide +kernel
theorem d1_41 : decode method_2_code 41 = .ok (.iadd, 1) := by decide +kernel
theorem d1_42 : decode method_2_code 42 = .ok (.i2c, 1) := by decide +kernel
theorem d1_43 : decode method_2_code 43 = .ok (.ireturn, 1) := by decide +kernel
theorem d1_44 : decode method_2_code 44 = .ok (.ldc 10, 2) := by decide +kernel
theorem d1_46 : decode method_2_code 46 = .ok (.iload_n 0, 1) := by decide +kernel
theorem d1_47 : decode method_2_code 47 = .ok (.bipush 127, 2) := by decide +kernel
theorem d1_49 : decode method_2_code 49 = .ok (.iand, 1) := by decide +kernel
theorem d1_50 : decode method_2_code 50 = .ok (.iadd, 1) := by decide +kernel
theorem d1_51 : decode method_2_code 51 = .ok (.i2c, 1) := by decide +kernel
theorem d1_52 : decode method_2_code 52 = .ok (.ireturn, 1) := by decide +kernel
abbrev y_19 : MethodName := ⟨"com/example/kuvert/kuvert/mime/KeptOctetsAtPinLaw", "draw", "(II)C"⟩
theorem pn_19 : plainFor y_19 = true := by first | exact plainFor_of_name (by first | (simp [plainName, overriddenIn]; done) | decide +kernel) | decide +kernel
theorem ef_rmDr (m : MethodId) (p1 : Int32) (p2 : Int32) : entryFrame m #[(.int p1), (.int p2)] 3 = mkF m 0 #[si p1, si p2, .unset] [] := by first | (simp [entryFrame, mkF, argsToLocals, Value.category]; done) | rfl
def Q_rmDr (Z : State) (p1 : Int32) (p2 : Int32) (h0 : Heap) (n0 : Nat) (v : Option Value) (h : Heap) (L : List Loc) : Prop := ∃ (r : Int32), v = some (.int r) ∧ Fr n0 L ∧ h = h0 ∧ (¬ r < 0 ∧ ¬ (65535 : Int32) < r)
set_option maxRecDepth 65536 in
set_option maxHeartbeats 40000000 in
theorem rmDr (l : Launch) (Z : State) (a0 : Array Value) (hw : ∀ d ∈ tables_1, d.before a0 Z = true) (ws : List Jvm.Cond) (p1 : Int32) (p2 : Int32) (h0 : Heap) (n0 : Nat) (Z0 : n0 ≤ h0.size)  :
    MetFree l y_19 (head1 (Jvm.Cond.code y_19 method_2_code 3 (some .char) :: ws) ({ frames := 0, cells := 0, slots := 0, locals := 0 } : Room)) (fun a U => a = #[(.int p1), (.int p2)] ∧ Z.Warmed39 U.vm ∧ U.heap = h0) (fun _ _ _ _ _ => True) (fun _ U o U' => ∃ v L, o = .returned v ∧ Q_rmDr Z p1 p2 h0 n0 v U'.heap L ∧ FrameEnd U o U' L ({ frames := 0, cells := 0, slots := 0, locals := 0 } : Room).cells ({ frames := 0, cells := 0, slots := 0, locals := 0 } : Room).slots) := by
 refine bodyOf pn_19 (fun m => ef_rmDr m p1 p2) ?_
 intro p e s m below meth c T0 X0 hx hby hml hown hnm hret hk hZ e0
 have N0 := Fr.nil n0
 have K0 : Keep h0 h0 [] := Keep.refl _ _
 refine go (S' := T0.setTop (mkF m 5 #[si p1, si p2, si (p2 &&& (3 : Int32))] [(.int (p2 &&& (3 : Int32)))])) (fun t k => XS.iloadN X0.here hx rfl (hb hby d1_0) rfl (XS.iconst X0.here hx rfl (hb hby d1_1) (XS.iand X0.here hx rfl (hb hby d1_2) rfl (XS.istoreN X0.here hx rfl (hb hby d1_3) rfl (l' := #[si p1, si p2, si (p2 &&& (3 : Int32))]) rfl (XS.iloadN X0.here hx rfl (hb hby d1_4) rfl k))))) ?_
 by_cases hc105 : (p2 &&& (3 : Int32)) = (0 : Int32)
 ·
  refine go (S' := T0.setTop (mkF m 13 #[si p1, si p2, si (p2 &&& (3 : Int32))] [(.int ((p1 &&& (65535 : Int32)).toUInt32.toUInt16.toUInt32.toInt32))])) (fun t k => XS.ifNo X0.here hx rfl (hb hby d1_5) rfl ((if0 _ _).trans (teq hc105).2) (XS.iloadN X0.here hx rfl (hb hby d1_8) rfl (X0.ldcInt hx hown (mvT hZ (ww hw 6 rfl)) (g := (mkF m 9 #[si p1, si p2, si (p2 &&& (3 : Int32))] [(.int p1)])) rfl (hb hby d1_9) _ (XS.iand X0.here hx rfl (hb hby d1_11) rfl (XS.i2c X0.here hx rfl (hb hby d1_12) rfl k))))) ?_
  refine finN X0 hx hk (t := .char) hret (by simp) (hb hby d1_13) (by decide) (by decide) ?_
  rw [e0]
  exact ⟨_, rfl, N0, rfl, by rw [narc]; exact own_c16 _⟩
 ·
  refine go (S' := T0.setTop (mkF m 16 #[si p1, si p2, si (p2 &&& (3 : Int32))] [(.int 1), (.int (p2 &&& (3 : Int32)))])) (fun t k => XS.ifYes X0.here hx rfl (pc0 := 5) (pc' := 14) rfl (hb hby d1_5) rfl ((if0 _ _).trans (feq hc105).2) (by decide) (by decide) (XS.iloadN X0.here hx rfl (hb hby d1_14) rfl (XS.iconst X0.here hx rfl (hb hby d1_15) k))) ?_
  by_cases hc106 : (p2 &&& (3 : Int32)) = (1 : Int32)
  ·
   refine go (S' := T0.setTop (mkF m 28 #[si p1, si p2, si (p2 &&& (3 : Int32))] [(.int (((56320 : Int32) + (p1 &&& (511 : Int32))).toUInt32.toUInt16.toUInt32.toInt32))])) (fun t k => XS.icmpNo X0.here hx rfl (hb hby d1_16) rfl (teq hc106).2 (X0.ldcInt hx hown (mvT hZ (ww hw 5 rfl)) (g := (mkF m 19 #[si p1, si p2, si (p2 &&& (3 : Int32))] [])) rfl (hb hby d1_19) _ (XS.iloadN X0.here hx rfl (hb hby d1_21) rfl (XS.sipush X0.here hx rfl (hb hby d1_22) (XS.iand X0.here hx rfl (hb hby d1_25) rfl (XS.iadd X0.here hx rfl (hb hby d1_26) rfl (XS.i2c X0.here hx rfl (hb hby d1_27) rfl k))))))) ?_
   refine finN X0 hx hk (t := .char) hret (by simp) (hb hby d1_28) (by decide) (by decide) ?_
   rw [e0]
   exact ⟨_, rfl, N0, rfl, by rw [narc]; exact own_c16 _⟩
  ·
   refine go (S' := T0.setTop (mkF m 31 #[si p1, si p2, si (p2 &&& (3 : Int32))] [(.int 2), (.int (p2 &&& (3 : Int32)))])) (fun t k => XS.icmpYes X0.here hx rfl (pc0 := 16) (pc' := 29) rfl (hb hby d1_16) rfl (feq hc106).2 (by decide) (by decide) (XS.iloadN X0.here hx rfl (hb hby d1_29) rfl (XS.iconst X0.here hx rfl (hb hby d1_30) k))) ?_
   by_cases hc107 : (p2 &&& (3 : Int32)) = (2 : Int32)
   ·
    refine go (S' := T0.setTop (mkF m 43 #[si p1, si p2, si (p2 &&& (3 : Int32))] [(.int (((55040 : Int32) + (p1 &&& (2047 : Int32))).toUInt32.toUInt16.toUInt32.toInt32))])) (fun t k => XS.icmpNo X0.here hx rfl (hb hby d1_31) rfl (teq hc107).2 (X0.ldcInt hx hown (mvT hZ (ww hw 97 rfl)) (g := (mkF m 34 #[si p1, si p2, si (p2 &&& (3 : Int32))] [])) rfl (hb hby d1_34) _ (XS.iloadN X0.here hx rfl (hb hby d1_36) rfl (XS.sipush X0.here hx rfl (hb hby d1_37) (XS.iand X0.here hx rfl (hb hby d1_40) rfl (XS.iadd X0.here hx rfl (hb hby d1_41) rfl (XS.i2c X0.here hx rfl (hb hby d1_42) rfl k))))))) ?_
    refine finN X0 hx hk (t := .char) hret (by simp) (hb hby d1_43) (by decide) (by decide) ?_
    rw [e0]
    exact ⟨_, rfl, N0, rfl, by rw [narc]; exact own_c16 _⟩
   ·
    refine go (S' := T0.setTop (mkF m 52 #[si p1, si p2, si (p2 &&& (3 : Int32))] [(.int (((56448 : Int32) + (p1 &&& (127 : Int32))).toUInt32.toUInt16.toUInt32.toInt32))])) (fun t k => XS.icmpYes X0.here hx rfl (pc0 := 31) (pc' := 44) rfl (hb hby d1_31) rfl (feq hc107).2 (by decide) (by decide) (X0.ldcInt hx hown (mvT hZ (ww hw 88 rfl)) (g := (mkF m 44 #[si p1, si p2, si (p2 &&& (3 : Int32))] [])) rfl (hb hby d1_44) _ (XS.iloadN X0.here hx rfl (hb hby d1_46) rfl (XS.bipush X0.here hx rfl (hb hby d1_47) (XS.iand X0.here hx rfl (hb hby d1_49) rfl (XS.iadd X0.here hx rfl (hb hby d1_50) rfl (XS.i2c X0.here hx rfl (hb hby d1_51) rfl k))))))) ?_
    refine finN X0 hx hk (t := .char) hret (by simp) (hb hby d1_52) (by decide) (by decide) ?_
    rw [e0]
    exact ⟨_, rfl, N0, rfl, by rw [narc]; exact own_c16 _⟩
theorem d13_0 : decode prog_28_method_3_code 0 = .ok (.aload_n 0, 1) := by decide +kernel
theorem d13_1 : decode prog_28_method_3_code 1 = .ok (.iload_n 1, 1) := by decide +kernel
theorem d13_2 : decode prog_28_method_3_code 2 = .ok (.invokevirtual 14, 3) := by decide +kernel
theorem pd_13 : parseMethodDescriptor "(I)C" = some ⟨[.int], some .char⟩ := by decide +kernel
theorem d13_5 : decode prog_28_method_3_code 5 = .ok (.istore_n 2, 1) := by decide +kernel
theorem d13_6 : decode prog_28_method_3_code 6 = .ok (.iload_n 1, 1) := by decide +kernel
theorem d13_7 : decode prog_28_method_3_code 7 = .ok (.ifCond .le 20, 3) := by decide +kernel
theorem d13_27 : decode prog_28_method_3_code 27 = .ok (.iconst 0, 1) := by decide +kernel
theorem d13_28 : decode prog_28_method_3_code 28 = .ok (.istore_n 3, 1) := by decide +kernel
theorem d13_29 : decode prog_28_method_3_code 29 = .ok (.iload_n 2, 1) := by decide +kernel
theorem d13_30 : decode prog_28_method_3_code 30 = .ok (.ldc 26, 2) := by decide +kernel
theorem d13_32 : decode prog_28_method_3_code 32 = .ok (.if_icmp .lt 20, 3) := by decide +kernel
theorem d13_52 : decode prog_28_method_3_code 52 = .ok (.iconst (-1), 1) := by decide +kernel
theorem d13_53 : decode prog_28_method_3_code 53 = .ok (.ireturn, 1) := by decide +kernel
theorem d13_35 : decode prog_28_method_3_code 35 = .ok (.iload_n 2, 1) := by decide +kernel
theorem d13_36 : decode prog_28_method_3_code 36 = .ok (.ldc 27, 2) := by decide +kernel
theorem d13_38 : decode prog_28_method_3_code 38 = .ok (.if_icmp .gt 14, 3) := by decide +kernel
theorem d13_41 : decode prog_28_method_3_code 41 = .ok (.iload_n 3, 1) := by decide +kernel
theorem d13_42 : decode prog_28_method_3_code 42 = .ok (.ifCond .ne 10, 3) := by decide +kernel
theorem d13_45 : decode prog_28_method_3_code 45 = .ok (.iload_n 2, 1) := by decide +kernel
theorem d13_46 : decode prog_28_method_3_code 46 = .ok (.ldc 7, 2) := by decide +kernel
theorem d13_48 : decode prog_28_method_3_code 48 = .ok (.isub, 1) := by decide +kernel
theorem d13_49 : decode prog_28_method_3_code 49 = .ok (.goto 4, 3) := by decide +kernel
abbrev y_20 : MethodName := ⟨"com/example/kuvert/kuvert/mime/KeptOctets", "at", "(Ljava/lang/String;I)I"⟩
theorem pn_20 : plainFor y_20 = true := by first | exact plainFor_of_name (by first | (simp [plainName, overriddenIn]; done) | decide +kernel) | decide +kernel
theorem ef_rmAt0 (m : MethodId) (x1 : Addr) : entryFrame m #[(.ref x1), (.int 0)] 4 = mkF m 0 #[sr x1, si 0, .unset, .unset] [] := by first | (simp [entryFrame, mkF, argsToLocals, Value.category]; done) | rfl
def Q_rmAt0 (Z : State) (x1 : Addr) (t1 : Addr) (cd : Int32) (cs : List Int32) (G1 : Int32) (fm : Value) (h0 : Heap) (n0 : Nat) (v : Option Value) (h : Heap) (L : List Loc) : Prop := v = some (.int (own_at (cs.getD 0 0) (0 : Int32))) ∧ Fr n0 L ∧ h = h0
set_option maxRecDepth 65536 in
set_option maxHeartbeats 40000000 in
theorem rmAt0 (l : Launch) (Z : State) (a0 : Array Value) (hw : ∀ d ∈ tables_1, d.before a0 Z = true) (ws : List Jvm.Cond) (x1 : Addr) (t1 : Addr) (cd : Int32) (cs : List Int32) (G1 : Int32) (fm : Value) (h0 : Heap) (n0 : Nat) (Z0 : n0 ≤ h0.size) (hp0 : Str Z h0 x1 t1 cd cs) (hlc : cs.length = 3) (hfm : fm.isRef = true) (hp3 : Sta Z Z.heap "jdk/internal/util/Preconditions" "SIOOBE_FORMATTER" "Ljava/util/function/BiFunction;" fm) (hp4 : Sta Z Z.heap "java/lang/String" "COMPACT_STRINGS" "Z" (.int G1)) (hG1 : ¬ (G1 = (0 : Int32))) (hp6 : Sta Z Z.heap "java/lang/StringUTF16" "$assertionsDisabled" "Z" (.int 1)) (hp7 : Sta Z Z.heap "java/lang/StringUTF16" "HI_BYTE_SHIFT" "I" (.int 0)) (hp8 : Sta Z Z.heap "java/lang/StringUTF16" "LO_BYTE_SHIFT" "I" (.int 8)) (hp9 : Old Z n0 h0) :
    MetFree l y_20 (head1 (Jvm.Cond.code y_20 prog_28_method_3_code 4 (some .int) :: ws) ({ frames := 5, cells := 0, slots := 0, locals := 66 } : Room)) (fun a U => a = #[(.ref x1), (.int 0)] ∧ Z.Warmed39 U.vm ∧ U.heap = h0) (fun _ _ _ _ _ => True) (fun _ U o U' => ∃ v L, o = .returned v ∧ Q_rmAt0 Z x1 t1 cd cs G1 fm h0 n0 v U'.heap L ∧ FrameEnd U o U' L ({ frames := 5, cells := 0, slots := 0, locals := 66 } : Room).cells ({ frames := 5, cells := 0, slots := 0, locals := 66 } : Room).slots) := by
 refine bodyOf pn_20 (fun m => ef_rmAt0 m x1) ?_
 intro p e s m below meth c T0 X0 hx hby hml hown hnm hret hk hZ e0
 have N0 := Fr.nil n0
 have K0 : Keep h0 h0 [] := Keep.refl _ _
 have O0 := hp9
 refine go (S' := T0.setTop (mkF m 2 #[sr x1, si 0, .unset, .unset] [(.int 0), (.ref x1)])) (fun t k => XS.aloadN X0.here hx rfl (hb hby d13_0) rfl rfl (XS.iloadN X0.here hx rfl (hb hby d13_1) rfl k)) ?_
 have O108 : Old Z n0 h0 := O0.keep K0 all0
 obtain ⟨v109, T109, L109, X109, hQ109, st109⟩ := callV X0 hx hZ (y := y_17) (z := y_17) hown (ww hw 60 rfl) (ww hw 61 rfl) (notFace_of_selects (args := #[]) (mvT hZ (ww hw 63 rfl))) (ww hw 63 rfl) (ww hw 62 rfl) (by decide) (backOf (W := 0) (rmChr l Z a0 hw [] x1 (0 : Int32) t1 cd cs 0 G1 fm h0 n0 (Nat.le_trans Z0 K0.1) hp0 rfl (by rw [hlc]; decide) (by omega) hfm hp3 hp4 hG1 hp6 hp7 hp8 O108) hZ (ww hw 64 rfl) (ww hw 9 rfl) (by decide) (by decide)) hp0.exa (g := (mkF m 2 #[sr x1, si 0, .unset, .unset] [(.int 0), (.ref x1)])) rfl (by rw [hml]; rfl) (kc := 0) (ks := 0) (argsL := [(.int 0)]) (rest := []) (lenOf pd_13 rfl) rfl (mr0 rfl) (hb hby d13_2) e0 (by decide) (by decide)
 obtain ⟨rfl, N109q, e109⟩ := hQ109
 have N109 := Fr.app N0 N109q
 refine go (S' := T109.setTop (mkF m 7 #[sr x1, si 0, si (cs.getD 0 0), .unset] [(.int 0)])) (fun t k => st109 _ (XS.istoreN X109.here hx rfl (hb hby d13_5) rfl (l' := #[sr x1, si 0, si (cs.getD 0 0), .unset]) rfl (XS.iloadN X109.here hx rfl (hb hby d13_6) rfl k))) ?_
 have hc110 : ¬ ((0 : Int32) < (0 : Int32)) := by decide
 refine go (S' := T109.setTop (mkF m 32 #[sr x1, si 0, si (cs.getD 0 0), si 0] [(.int 56448), (.int (cs.getD 0 0))])) (fun t k => XS.ifYes X109.here hx rfl (pc0 := 7) (pc' := 27) rfl (hb hby d13_7) rfl ((if0 _ _).trans (flt hc110).2.2.2) (by decide) (by decide) (XS.iconst X109.here hx rfl (hb hby d13_27) (XS.istoreN X109.here hx rfl (hb hby d13_28) rfl (l' := #[sr x1, si 0, si (cs.getD 0 0), si 0]) rfl (XS.iloadN X109.here hx rfl (hb hby d13_29) rfl (X109.ldcInt hx hown (mvT hZ (ww hw 87 rfl)) (g := (mkF m 30 #[sr x1, si 0, si (cs.getD 0 0), si 0] [(.int (cs.getD 0 0))])) rfl (hb hby d13_30) _ k))))) ?_
 by_cases hc111 : (cs.getD 0 0) < (56448 : Int32)
 ·
  refine go (S' := T109.setTop (mkF m 53 #[sr x1, si 0, si (cs.getD 0 0), si 0] [(.int (-1 : Int32))])) (fun t k => XS.icmpYes X109.here hx rfl (pc0 := 32) (pc' := 52) rfl (hb hby d13_32) rfl (tlt hc111).1 (by decide) (by decide) (XS.iconst X109.here hx rfl (hb hby d13_52) k)) ?_
  refine finI X109 hx hk hret (hb hby d13_53) (by decide) (by decide) ?_
  rw [e109]
  exact ⟨(by rw [own_at, if_pos hc111]), N109, rfl⟩
 ·
  refine go (S' := T109.setTop (mkF m 38 #[sr x1, si 0, si (cs.getD 0 0), si 0] [(.int 56575), (.int (cs.getD 0 0))])) (fun t k => XS.icmpNo X109.here hx rfl (hb hby d13_32) rfl (flt hc111).1 (XS.iloadN X109.here hx rfl (hb hby d13_35) rfl (X109.ldcInt hx hown (mvT hZ (ww hw 95 rfl)) (g := (mkF m 36 #[sr x1, si 0, si (cs.getD 0 0), si 0] [(.int (cs.getD 0 0))])) rfl (hb hby d13_36) _ k))) ?_
  by_cases hc112 : (56575 : Int32) < (cs.getD 0 0)
  ·
   refine go (S' := T109.setTop (mkF m 53 #[sr x1, si 0, si (cs.getD 0 0), si 0] [(.int (-1 : Int32))])) (fun t k => XS.icmpYes X109.here hx rfl (pc0 := 38) (pc' := 52) rfl (hb hby d13_38) rfl (tlt hc112).2.2.1 (by decide) (by decide) (XS.iconst X109.here hx rfl (hb hby d13_52) k)) ?_
   refine finI X109 hx hk hret (hb hby d13_53) (by decide) (by decide) ?_
   rw [e109]
   exact ⟨(by rw [own_at, if_neg hc111, if_pos hc112]), N109, rfl⟩
  ·
   refine go (S' := T109.setTop (mkF m 42 #[sr x1, si 0, si (cs.getD 0 0), si 0] [(.int 0)])) (fun t k => XS.icmpNo X109.here hx rfl (hb hby d13_38) rfl (flt hc112).2.2.1 (XS.iloadN X109.here hx rfl (hb hby d13_41) rfl k)) ?_
   have hc113 : (0 : Int32) = (0 : Int32) := by decide
   refine go (S' := T109.setTop (mkF m 53 #[sr x1, si 0, si (cs.getD 0 0), si 0] [(.int ((cs.getD 0 0) - (56320 : Int32)))])) (fun t k => XS.ifNo X109.here hx rfl (hb hby d13_42) rfl ((if0 _ _).trans (teq hc113).2) (XS.iloadN X109.here hx rfl (hb hby d13_45) rfl (X109.ldcInt hx hown (mvT hZ (ww hw 96 rfl)) (g := (mkF m 46 #[sr x1, si 0, si (cs.getD 0 0), si 0] [(.int (cs.getD 0 0))])) rfl (hb hby d13_46) _ (XS.isub X109.here hx rfl (hb hby d13_48) rfl (XS.goto X109.here hx rfl (pc0 := 49) (pc' := 53) rfl (hb hby d13_49) (by decide) (by decide) k))))) ?_
   refine finI X109 hx hk hret (hb hby d13_53) (by decide) (by decide) ?_
   rw [e109]
   exact ⟨(by rw [own_at, if_neg hc111, if_neg hc112, if_pos rfl]), N109, rfl⟩
theorem d13_10 : decode prog_28_method_3_code 10 = .ok (.aload_n 0, 1) := by decide +kernel
theorem d13_11 : decode prog_28_method_3_code 11 = .ok (.iload_n 1, 1) := by decide +kernel
theorem d13_12 : decode prog_28_method_3_code 12 = .ok (.iconst 1, 1) := by decide +kernel
theorem d13_13 : decode prog_28_method_3_code 13 = .ok (.isub, 1) := by decide +kernel
theorem d13_14 : decode prog_28_method_3_code 14 = .ok (.invokevirtual 14, 3) := by decide +kernel
theorem d13_17 : decode prog_28_method_3_code 17 = .ok (.invokestatic 20, 3) := by decide +kernel
theorem pd_14 : parseMethodDescriptor "(C)Z" = some ⟨[.char], some .boolean⟩ := by decide +kernel
theorem d13_20 : decode prog_28_method_3_code 20 = .ok (.ifCond .eq 7, 3) := by decide +kernel
theorem d13_23 : decode prog_28_method_3_code 23 = .ok (.iconst 1, 1) := by decide +kernel
theorem d13_24 : decode prog_28_method_3_code 24 = .ok (.goto 4, 3) := by decide +kernel
theorem ef_rmAt1 (m : MethodId) (x1 : Addr) : entryFrame m #[(.ref x1), (.int 1)] 4 = mkF m 0 #[sr x1, si 1, .unset, .unset] [] := by first | (simp [entryFrame, mkF, argsToLocals, Value.category]; done) | rfl
def Q_rmAt1 (Z : State) (x1 : Addr) (t1 : Addr) (cd : Int32) (cs : List Int32) (G1 : Int32) (fm : Value) (h0 : Heap) (n0 : Nat) (v : Option Value) (h : Heap) (L : List Loc) : Prop := v = some (.int (own_at (cs.getD 1 0) (own_hs (cs.getD 0 0)))) ∧ Fr n0 L ∧ h = h0
set_option maxRecDepth 65536 in
set_option maxHeartbeats 40000000 in
theorem rmAt1 (l : Launch) (Z : State) (a0 : Array Value) (hw : ∀ d ∈ tables_1, d.before a0 Z = true) (ws : List Jvm.Cond) (x1 : Addr) (t1 : Addr) (cd : Int32) (cs : List Int32) (G1 : Int32) (fm : Value) (h0 : Heap) (n0 : Nat) (Z0 : n0 ≤ h0.size) (hp0 : Str Z h0 x1 t1 cd cs) (hlc : cs.length = 3) (hfm : fm.isRef = true) (hp3 : Sta Z Z.heap "jdk/internal/util/Preconditions" "SIOOBE_FORMATTER" "Ljava/util/function/BiFunction;" fm) (hp4 : Sta Z Z.heap "java/lang/String" "COMPACT_STRINGS" "Z" (.int G1)) (hG1 : ¬ (G1 = (0 : Int32))) (hp6 : Sta Z Z.heap "java/lang/StringUTF16" "$assertionsDisabled" "Z" (.int 1)) (hp7 : Sta Z Z.heap "java/lang/StringUTF16" "HI_BYTE_SHIFT" "I" (.int 0)) (hp8 : Sta Z Z.heap "java/lang/StringUTF16" "LO_BYTE_SHIFT" "I" (.int 8)) (hp9 : Old Z n0 h0) :
    MetFree l y_20 (head1 (Jvm.Cond.code y_20 prog_28_method_3_code 4 (some .int) :: ws) ({ frames := 5, cells := 0, slots := 0, locals := 66 } : Room)) (fun a U => a = #[(.ref x1), (.int 1)] ∧ Z.Warmed39 U.vm ∧ U.heap = h0) (fun _ _ _ _ _ => True) (fun _ U o U' => ∃ v L, o = .returned v ∧ Q_rmAt1 Z x1 t1 cd cs G1 fm h0 n0 v U'.heap L ∧ FrameEnd U o U' L ({ frames := 5, cells := 0, slots := 0, locals := 66 } : Room).cells ({ frames := 5, cells := 0, slots := 0, locals := 66 } : Room).slots) := by
 refine bodyOf pn_20 (fun m => ef_rmAt1 m x1) ?_
 intro p e s m below meth c T0 X0 hx hby hml hown hnm hret hk hZ e0
 have N0 := Fr.nil n0
 have K0 : Keep h0 h0 [] := Keep.refl _ _
 have O0 := hp9
 refine go (S' := T0.setTop (mkF m 2 #[sr x1, si 1, .unset, .unset] [(.int 1), (.ref x1)])) (fun t k => XS.aloadN X0.here hx rfl (hb hby d13_0) rfl rfl (XS.iloadN X0.here hx rfl (hb hby d13_1) rfl k)) ?_
 have O114 : Old Z n0 h0 := O0.keep K0 all0
 obtain ⟨v115, T115, L115, X115, hQ115, st115⟩ := callV X0 hx hZ (y := y_17) (z := y_17) hown (ww hw 60 rfl) (ww hw 61 rfl) (notFace_of_selects (args := #[]) (mvT hZ (ww hw 63 rfl))) (ww hw 63 rfl) (ww hw 62 rfl) (by decide) (backOf (W := 0) (rmChr l Z a0 hw [] x1 (1 : Int32) t1 cd cs 1 G1 fm h0 n0 (Nat.le_trans Z0 K0.1) hp0 rfl (by rw [hlc]; decide) (by omega) hfm hp3 hp4 hG1 hp6 hp7 hp8 O114) hZ (ww hw 64 rfl) (ww hw 9 rfl) (by decide) (by decide)) hp0.exa (g := (mkF m 2 #[sr x1, si 1, .unset, .unset] [(.int 1), (.ref x1)])) rfl (by rw [hml]; rfl) (kc := 0) (ks := 0) (argsL := [(.int 1)]) (rest := []) (lenOf pd_13 rfl) rfl (mr0 rfl) (hb hby d13_2) e0 (by decide) (by decide)
 obtain ⟨rfl, N115q, e115⟩ := hQ115
 have N115 := Fr.app N0 N115q
 refine go (S' := T115.setTop (mkF m 7 #[sr x1, si 1, si (cs.getD 1 0), .unset] [(.int 1)])) (fun t k => st115 _ (XS.istoreN X115.here hx rfl (hb hby d13_5) rfl (l' := #[sr x1, si 1, si (cs.getD 1 0), .unset]) rfl (XS.iloadN X115.here hx rfl (hb hby d13_6) rfl k))) ?_
 have hc116 : (0 : Int32) < (1 : Int32) := by decide
 refine go (S' := T115.setTop (mkF m 14 #[sr x1, si 1, si (cs.getD 1 0), .unset] [(.int 0), (.ref x1)])) (fun t k => XS.ifNo X115.here hx rfl (hb hby d13_7) rfl ((if0 _ _).trans (tlt hc116).2.2.2) (XS.aloadN X115.here hx rfl (hb hby d13_10) rfl rfl (XS.iloadN X115.here hx rfl (hb hby d13_11) rfl (XS.iconst X115.here hx rfl (hb hby d13_12) (XS.isub X115.here hx rfl (hb hby d13_13) rfl k))))) ?_
 obtain ⟨v117, T117, L117, X117, hQ117, st117⟩ := callV X115 hx hZ (y := y_17) (z := y_17) hown (ww hw 60 rfl) (ww hw 61 rfl) (notFace_of_selects (args := #[]) (mvT hZ (ww hw 63 rfl))) (ww hw 63 rfl) (ww hw 62 rfl) (by decide) (backOf (W := 0) (rmChr l Z a0 hw [] x1 (0 : Int32) t1 cd cs 0 G1 fm h0 n0 (Nat.le_trans Z0 K0.1) hp0 rfl (by rw [hlc]; decide) (by omega) hfm hp3 hp4 hG1 hp6 hp7 hp8 O114) hZ (ww hw 64 rfl) (ww hw 9 rfl) (by decide) (by decide)) hp0.exa (g := (mkF m 14 #[sr x1, si 1, si (cs.getD 1 0), .unset] [(.int 0), (.ref x1)])) rfl (by rw [hml]; rfl) (kc := 0) (ks := 0) (argsL := [(.int 0)]) (rest := []) (lenOf pd_13 rfl) rfl (mr0 rfl) (hb hby d13_14) e115 (by decide) (by decide)
 obtain ⟨rfl, N117q, e117⟩ := hQ117
 have N117 := Fr.app N115 N117q
 refine go (S' := T117.setTop (mkF m 17 #[sr x1, si 1, si (cs.getD 1 0), .unset] [(.int (cs.getD 0 0))])) st117 ?_
 obtain ⟨v118, T118, L118, X118, hQ118, st118⟩ := callSt X117 hx hZ (y := y_18) hown (ww hw 89 rfl) (ww hw 90 rfl) (ww hw 91 rfl) (ww hw 92 rfl) (by decide) (backOf (W := 0) (rmHs l Z a0 hw [] (cs.getD 0 0) h0 n0 (Nat.le_trans Z0 K0.1) ) hZ (ww hw 92 rfl) (ww hw 91 rfl) (by decide) (by decide)) (g := (mkF m 17 #[sr x1, si 1, si (cs.getD 1 0), .unset] [(.int (cs.getD 0 0))])) rfl (by rw [hml]; rfl) (kc := 0) (ks := 0) (argsL := [(.int (cs.getD 0 0))]) (rest := []) (lenOf pd_14 rfl) rfl (mr0 rfl) (hb hby d13_17) e117 (by decide) (by decide)
 obtain ⟨rfl, N118q, e118⟩ := hQ118
 have N118 := Fr.app N117 N118q
 refine go (S' := T118.setTop (mkF m 20 #[sr x1, si 1, si (cs.getD 1 0), .unset] [(.int (own_hs (cs.getD 0 0)))])) st118 ?_
 by_cases hc119 : (own_hs (cs.getD 0 0)) = (0 : Int32)
 ·
  refine go (S' := T118.setTop (mkF m 32 #[sr x1, si 1, si (cs.getD 1 0), si 0] [(.int 56448), (.int (cs.getD 1 0))])) (fun t k => XS.ifYes X118.here hx rfl (pc0 := 20) (pc' := 27) rfl (hb hby d13_20) rfl ((if0 _ _).trans (teq hc119).1) (by decide) (by decide) (XS.iconst X118.here hx rfl (hb hby d13_27) (XS.istoreN X118.here hx rfl (hb hby d13_28) rfl (l' := #[sr x1, si 1, si (cs.getD 1 0), si 0]) rfl (XS.iloadN X118.here hx rfl (hb hby d13_29) rfl (X118.ldcInt hx hown (mvT hZ (ww hw 87 rfl)) (g := (mkF m 30 #[sr x1, si 1, si (cs.getD 1 0), si 0] [(.int (cs.getD 1 0))])) rfl (hb hby d13_30) _ k))))) ?_
  by_cases hc120 : (cs.getD 1 0) < (56448 : Int32)
  ·
   refine go (S' := T118.setTop (mkF m 53 #[sr x1, si 1, si (cs.getD 1 0), si 0] [(.int (-1 : Int32))])) (fun t k => XS.icmpYes X118.here hx rfl (pc0 := 32) (pc' := 52) rfl (hb hby d13_32) rfl (tlt hc120).1 (by decide) (by decide) (XS.iconst X118.here hx rfl (hb hby d13_52) k)) ?_
   refine finI X118 hx hk hret (hb hby d13_53) (by decide) (by decide) ?_
   rw [e118]
   exact ⟨(by rw [own_at, if_pos hc120]), N118, rfl⟩
  ·
   refine go (S' := T118.setTop (mkF m 38 #[sr x1, si 1, si (cs.getD 1 0), si 0] [(.int 56575), (.int (cs.getD 1 0))])) (fun t k => XS.icmpNo X118.here hx rfl (hb hby d13_32) rfl (flt hc120).1 (XS.iloadN X118.here hx rfl (hb hby d13_35) rfl (X118.ldcInt hx hown (mvT hZ (ww hw 95 rfl)) (g := (mkF m 36 #[sr x1, si 1, si (cs.getD 1 0), si 0] [(.int (cs.getD 1 0))])) rfl (hb hby d13_36) _ k))) ?_
   by_cases hc121 : (56575 : Int32) < (cs.getD 1 0)
   ·
    refine go (S' := T118.setTop (mkF m 53 #[sr x1, si 1, si (cs.getD 1 0), si 0] [(.int (-1 : Int32))])) (fun t k => XS.icmpYes X118.here hx rfl (pc0 := 38) (pc' := 52) rfl (hb hby d13_38) rfl (tlt hc121).2.2.1 (by decide) (by decide) (XS.iconst X118.here hx rfl (hb hby d13_52) k)) ?_
    refine finI X118 hx hk hret (hb hby d13_53) (by decide) (by decide) ?_
    rw [e118]
    exact ⟨(by rw [own_at, if_neg hc120, if_pos hc121]), N118, rfl⟩
   ·
    refine go (S' := T118.setTop (mkF m 42 #[sr x1, si 1, si (cs.getD 1 0), si 0] [(.int 0)])) (fun t k => XS.icmpNo X118.here hx rfl (hb hby d13_38) rfl (flt hc121).2.2.1 (XS.iloadN X118.here hx rfl (hb hby d13_41) rfl k)) ?_
    have hc122 : (0 : Int32) = (0 : Int32) := by decide
    refine go (S' := T118.setTop (mkF m 53 #[sr x1, si 1, si (cs.getD 1 0), si 0] [(.int ((cs.getD 1 0) - (56320 : Int32)))])) (fun t k => XS.ifNo X118.here hx rfl (hb hby d13_42) rfl ((if0 _ _).trans (teq hc122).2) (XS.iloadN X118.here hx rfl (hb hby d13_45) rfl (X118.ldcInt hx hown (mvT hZ (ww hw 96 rfl)) (g := (mkF m 46 #[sr x1, si 1, si (cs.getD 1 0), si 0] [(.int (cs.getD 1 0))])) rfl (hb hby d13_46) _ (XS.isub X118.here hx rfl (hb hby d13_48) rfl (XS.goto X118.here hx rfl (pc0 := 49) (pc' := 53) rfl (hb hby d13_49) (by decide) (by decide) k))))) ?_
    refine finI X118 hx hk hret (hb hby d13_53) (by decide) (by decide) ?_
    rw [e118]
    exact ⟨(by rw [own_at, if_neg hc120, if_neg hc121, if_pos hc119]), N118, rfl⟩
 ·
  refine go (S' := T118.setTop (mkF m 32 #[sr x1, si 1, si (cs.getD 1 0), si 1] [(.int 56448), (.int (cs.getD 1 0))])) (fun t k => XS.ifNo X118.here hx rfl (hb hby d13_20) rfl ((if0 _ _).trans (feq hc119).1) (XS.iconst X118.here hx rfl (hb hby d13_23) (XS.goto X118.here hx rfl (pc0 := 24) (pc' := 28) rfl (hb hby d13_24) (by decide) (by decide) (XS.istoreN X118.here hx rfl (hb hby d13_28) rfl (l' := #[sr x1, si 1, si (cs.getD 1 0), si 1]) rfl (XS.iloadN X118.here hx rfl (hb hby d13_29) rfl (X118.ldcInt hx hown (mvT hZ (ww hw 87 rfl)) (g := (mkF m 30 #[sr x1, si 1, si (cs.getD 1 0), si 1] [(.int (cs.getD 1 0))])) rfl (hb hby d13_30) _ k)))))) ?_
  by_cases hc123 : (cs.getD 1 0) < (56448 : Int32)
  ·
   refine go (S' := T118.setTop (mkF m 53 #[sr x1, si 1, si (cs.getD 1 0), si 1] [(.int (-1 : Int32))])) (fun t k => XS.icmpYes X118.here hx rfl (pc0 := 32) (pc' := 52) rfl (hb hby d13_32) rfl (tlt hc123).1 (by decide) (by decide) (XS.iconst X118.here hx rfl (hb hby d13_52) k)) ?_
   refine finI X118 hx hk hret (hb hby d13_53) (by decide) (by decide) ?_
   rw [e118]
   exact ⟨(by rw [own_at, if_pos hc123]), N118, rfl⟩
  ·
   refine go (S' := T118.setTop (mkF m 38 #[sr x1, si 1, si (cs.getD 1 0), si 1] [(.int 56575), (.int (cs.getD 1 0))])) (fun t k => XS.icmpNo X118.here hx rfl (hb hby d13_32) rfl (flt hc123).1 (XS.iloadN X118.here hx rfl (hb hby d13_35) rfl (X118.ldcInt hx hown (mvT hZ (ww hw 95 rfl)) (g := (mkF m 36 #[sr x1, si 1, si (cs.getD 1 0), si 1] [(.int (cs.getD 1 0))])) rfl (hb hby d13_36) _ k))) ?_
   by_cases hc124 : (56575 : Int32) < (cs.getD 1 0)
   ·
    refine go (S' := T118.setTop (mkF m 53 #[sr x1, si 1, si (cs.getD 1 0), si 1] [(.int (-1 : Int32))])) (fun t k => XS.icmpYes X118.here hx rfl (pc0 := 38) (pc' := 52) rfl (hb hby d13_38) rfl (tlt hc124).2.2.1 (by decide) (by decide) (XS.iconst X118.here hx rfl (hb hby d13_52) k)) ?_
    refine finI X118 hx hk hret (hb hby d13_53) (by decide) (by decide) ?_
    rw [e118]
    exact ⟨(by rw [own_at, if_neg hc123, if_pos hc124]), N118, rfl⟩
   ·
    refine go (S' := T118.setTop (mkF m 42 #[sr x1, si 1, si (cs.getD 1 0), si 1] [(.int 1)])) (fun t k => XS.icmpNo X118.here hx rfl (hb hby d13_38) rfl (flt hc124).2.2.1 (XS.iloadN X118.here hx rfl (hb hby d13_41) rfl k)) ?_
    have hc125 : ¬ ((1 : Int32) = (0 : Int32)) := by decide
    refine go (S' := T118.setTop (mkF m 53 #[sr x1, si 1, si (cs.getD 1 0), si 1] [(.int (-1 : Int32))])) (fun t k => XS.ifYes X118.here hx rfl (pc0 := 42) (pc' := 52) rfl (hb hby d13_42) rfl ((if0 _ _).trans (feq hc125).2) (by decide) (by decide) (XS.iconst X118.here hx rfl (hb hby d13_52) k)) ?_
    refine finI X118 hx hk hret (hb hby d13_53) (by decide) (by decide) ?_
    rw [e118]
    exact ⟨(by rw [own_at, if_neg hc123, if_neg hc124, if_neg hc119]), N118, rfl⟩
theorem ef_rmAt2 (m : MethodId) (x1 : Addr) : entryFrame m #[(.ref x1), (.int 2)] 4 = mkF m 0 #[sr x1, si 2, .unset, .unset] [] := by first | (simp [entryFrame, mkF, argsToLocals, Value.category]; done) | rfl
def Q_rmAt2 (Z : State) (x1 : Addr) (t1 : Addr) (cd : Int32) (cs : List Int32) (G1 : Int32) (fm : Value) (h0 : Heap) (n0 : Nat) (v : Option Value) (h : Heap) (L : List Loc) : Prop := v = some (.int (own_at (cs.getD 2 0) (own_hs (cs.getD 1 0)))) ∧ Fr n0 L ∧ h = h0
set_option maxRecDepth 65536 in
set_option maxHeartbeats 40000000 in
theorem rmAt2 (l : Launch) (Z : State) (a0 : Array Value) (hw : ∀ d ∈ tables_1, d.before a0 Z = true) (ws : List Jvm.Cond) (x1 : Addr) (t1 : Addr) (cd : Int32) (cs : List Int32) (G1 : Int32) (fm : Value) (h0 : Heap) (n0 : Nat) (Z0 : n0 ≤ h0.size) (hp0 : Str Z h0 x1 t1 cd cs) (hlc : cs.length = 3) (hfm : fm.isRef = true) (hp3 : Sta Z Z.heap "jdk/internal/util/Preconditions" "SIOOBE_FORMATTER" "Ljava/util/function/BiFunction;" fm) (hp4 : Sta Z Z.heap "java/lang/String" "COMPACT_STRINGS" "Z" (.int G1)) (hG1 : ¬ (G1 = (0 : Int32))) (hp6 : Sta Z Z.heap "java/lang/StringUTF16" "$assertionsDisabled" "Z" (.int 1)) (hp7 : Sta Z Z.heap "java/lang/StringUTF16" "HI_BYTE_SHIFT" "I" (.int 0)) (hp8 : Sta Z Z.heap "java/lang/StringUTF16" "LO_BYTE_SHIFT" "I" (.int 8)) (hp9 : Old Z n0 h0) :
    MetFree l y_20 (head1 (Jvm.Cond.code y_20 prog_28_method_3_code 4 (some .int) :: ws) ({ frames := 5, cells := 0, slots := 0, locals := 66 } : Room)) (fun a U => a = #[(.ref x1), (.int 2)] ∧ Z.Warmed39 U.vm ∧ U.heap = h0) (fun _ _ _ _ _ => True) (fun _ U o U' => ∃ v L, o = .returned v ∧ Q_rmAt2 Z x1 t1 cd cs G1 fm h0 n0 v U'.heap L ∧ FrameEnd U o U' L ({ frames := 5, cells := 0, slots := 0, locals := 66 } : Room).cells ({ frames := 5, cells := 0, slots := 0, locals := 66 } : Room).slots) := by
 refine bodyOf pn_20 (fun m => ef_rmAt2 m x1) ?_
 intro p e s m below meth c T0 X0 hx hby hml hown hnm hret hk hZ e0
 have N0 := Fr.nil n0
 have K0 : Keep h0 h0 [] := Keep.refl _ _
 have O0 := hp9
 refine go (S' := T0.setTop (mkF m 2 #[sr x1, si 2, .unset, .unset] [(.int 2), (.ref x1)])) (fun t k => XS.aloadN X0.here hx rfl (hb hby d13_0) rfl rfl (XS.iloadN X0.here hx rfl (hb hby d13_1) rfl k)) ?_
 have O126 : Old Z n0 h0 := O0.keep K0 all0
 obtain ⟨v127, T127, L127, X127, hQ127, st127⟩ := callV X0 hx hZ (y := y_17) (z := y_17) hown (ww hw 60 rfl) (ww hw 61 rfl) (notFace_of_selects (args := #[]) (mvT hZ (ww hw 63 rfl))) (ww hw 63 rfl) (ww hw 62 rfl) (by decide) (backOf (W := 0) (rmChr l Z a0 hw [] x1 (2 : Int32) t1 cd cs 2 G1 fm h0 n0 (Nat.le_trans Z0 K0.1) hp0 rfl (by rw [hlc]; decide) (by omega) hfm hp3 hp4 hG1 hp6 hp7 hp8 O126) hZ (ww hw 64 rfl) (ww hw 9 rfl) (by decide) (by decide)) hp0.exa (g := (mkF m 2 #[sr x1, si 2, .unset, .unset] [(.int 2), (.ref x1)])) rfl (by rw [hml]; rfl) (kc := 0) (ks := 0) (argsL := [(.int 2)]) (rest := []) (lenOf pd_13 rfl) rfl (mr0 rfl) (hb hby d13_2) e0 (by decide) (by decide)
 obtain ⟨rfl, N127q, e127⟩ := hQ127
 have N127 := Fr.app N0 N127q
 refine go (S' := T127.setTop (mkF m 7 #[sr x1, si 2, si (cs.getD 2 0), .unset] [(.int 2)])) (fun t k => st127 _ (XS.istoreN X127.here hx rfl (hb hby d13_5) rfl (l' := #[sr x1, si 2, si (cs.getD 2 0), .unset]) rfl (XS.iloadN X127.here hx rfl (hb hby d13_6) rfl k))) ?_
 have hc128 : (0 : Int32) < (2 : Int32) := by decide
 refine go (S' := T127.setTop (mkF m 14 #[sr x1, si 2, si (cs.getD 2 0), .unset] [(.int 1), (.ref x1)])) (fun t k => XS.ifNo X127.here hx rfl (hb hby d13_7) rfl ((if0 _ _).trans (tlt hc128).2.2.2) (XS.aloadN X127.here hx rfl (hb hby d13_10) rfl rfl (XS.iloadN X127.here hx rfl (hb hby d13_11) rfl (XS.iconst X127.here hx rfl (hb hby d13_12) (XS.isub X127.here hx rfl (hb hby d13_13) rfl k))))) ?_
 obtain ⟨v129, T129, L129, X129, hQ129, st129⟩ := callV X127 hx hZ (y := y_17) (z := y_17) hown (ww hw 60 rfl) (ww hw 61 rfl) (notFace_of_selects (args := #[]) (mvT hZ (ww hw 63 rfl))) (ww hw 63 rfl) (ww hw 62 rfl) (by decide) (backOf (W := 0) (rmChr l Z a0 hw [] x1 (1 : Int32) t1 cd cs 1 G1 fm h0 n0 (Nat.le_trans Z0 K0.1) hp0 rfl (by rw [hlc]; decide) (by omega) hfm hp3 hp4 hG1 hp6 hp7 hp8 O126) hZ (ww hw 64 rfl) (ww hw 9 rfl) (by decide) (by decide)) hp0.exa (g := (mkF m 14 #[sr x1, si 2, si (cs.getD 2 0), .unset] [(.int 1), (.ref x1)])) rfl (by rw [hml]; rfl) (kc := 0) (ks := 0) (argsL := [(.int 1)]) (rest := []) (lenOf pd_13 rfl) rfl (mr0 rfl) (hb hby d13_14) e127 (by decide) (by decide)
 obtain ⟨rfl, N129q, e129⟩ := hQ129
 have N129 := Fr.app N127 N129q
 refine go (S' := T129.setTop (mkF m 17 #[sr x1, si 2, si (cs.getD 2 0), .unset] [(.int (cs.getD 1 0))])) st129 ?_
 obtain ⟨v130, T130, L130, X130, hQ130, st130⟩ := callSt X129 hx hZ (y := y_18) hown (ww hw 89 rfl) (ww hw 90 rfl) (ww hw 91 rfl) (ww hw 92 rfl) (by decide) (backOf (W := 0) (rmHs l Z a0 hw [] (cs.getD 1 0) h0 n0 (Nat.le_trans Z0 K0.1) ) hZ (ww hw 92 rfl) (ww hw 91 rfl) (by decide) (by decide)) (g := (mkF m 17 #[sr x1, si 2, si (cs.getD 2 0), .unset] [(.int (cs.getD 1 0))])) rfl (by rw [hml]; rfl) (kc := 0) (ks := 0) (argsL := [(.int (cs.getD 1 0))]) (rest := []) (lenOf pd_14 rfl) rfl (mr0 rfl) (hb hby d13_17) e129 (by decide) (by decide)
 obtain ⟨rfl, N130q, e130⟩ := hQ130
 have N130 := Fr.app N129 N130q
 refine go (S' := T130.setTop (mkF m 20 #[sr x1, si 2, si (cs.getD 2 0), .unset] [(.int (own_hs (cs.getD 1 0)))])) st130 ?_
 by_cases hc131 : (own_hs (cs.getD 1 0)) = (0 : Int32)
 ·
  refine go (S' := T130.setTop (mkF m 32 #[sr x1, si 2, si (cs.getD 2 0), si 0] [(.int 56448), (.int (cs.getD 2 0))])) (fun t k => XS.ifYes X130.here hx rfl (pc0 := 20) (pc' := 27) rfl (hb hby d13_20) rfl ((if0 _ _).trans (teq hc131).1) (by decide) (by decide) (XS.iconst X130.here hx rfl (hb hby d13_27) (XS.istoreN X130.here hx rfl (hb hby d13_28) rfl (l' := #[sr x1, si 2, si (cs.getD 2 0), si 0]) rfl (XS.iloadN X130.here hx rfl (hb hby d13_29) rfl (X130.ldcInt hx hown (mvT hZ (ww hw 87 rfl)) (g := (mkF m 30 #[sr x1, si 2, si (cs.getD 2 0), si 0] [(.int (cs.getD 2 0))])) rfl (hb hby d13_30) _ k))))) ?_
  by_cases hc132 : (cs.getD 2 0) < (56448 : Int32)
  ·
   refine go (S' := T130.setTop (mkF m 53 #[sr x1, si 2, si (cs.getD 2 0), si 0] [(.int (-1 : Int32))])) (fun t k => XS.icmpYes X130.here hx rfl (pc0 := 32) (pc' := 52) rfl (hb hby d13_32) rfl (tlt hc132).1 (by decide) (by decide) (XS.iconst X130.here hx rfl (hb hby d13_52) k)) ?_
   refine finI X130 hx hk hret (hb hby d13_53) (by decide) (by decide) ?_
   rw [e130]
   exact ⟨(by rw [own_at, if_pos hc132]), N130, rfl⟩
  ·
   refine go (S' := T130.setTop (mkF m 38 #[sr x1, si 2, si (cs.getD 2 0), si 0] [(.int 56575), (.int (cs.getD 2 0))])) (fun t k => XS.icmpNo X130.here hx rfl (hb hby d13_32) rfl (flt hc132).1 (XS.iloadN X130.here hx rfl (hb hby d13_35) rfl (X130.ldcInt hx hown (mvT hZ (ww hw 95 rfl)) (g := (mkF m 36 #[sr x1, si 2, si (cs.getD 2 0), si 0] [(.int (cs.getD 2 0))])) rfl (hb hby d13_36) _ k))) ?_
   by_cases hc133 : (56575 : Int32) < (cs.getD 2 0)
   ·
    refine go (S' := T130.setTop (mkF m 53 #[sr x1, si 2, si (cs.getD 2 0), si 0] [(.int (-1 : Int32))])) (fun t k => XS.icmpYes X130.here hx rfl (pc0 := 38) (pc' := 52) rfl (hb hby d13_38) rfl (tlt hc133).2.2.1 (by decide) (by decide) (XS.iconst X130.here hx rfl (hb hby d13_52) k)) ?_
    refine finI X130 hx hk hret (hb hby d13_53) (by decide) (by decide) ?_
    rw [e130]
    exact ⟨(by rw [own_at, if_neg hc132, if_pos hc133]), N130, rfl⟩
   ·
    refine go (S' := T130.setTop (mkF m 42 #[sr x1, si 2, si (cs.getD 2 0), si 0] [(.int 0)])) (fun t k => XS.icmpNo X130.here hx rfl (hb hby d13_38) rfl (flt hc133).2.2.1 (XS.iloadN X130.here hx rfl (hb hby d13_41) rfl k)) ?_
    have hc134 : (0 : Int32) = (0 : Int32) := by decide
    refine go (S' := T130.setTop (mkF m 53 #[sr x1, si 2, si (cs.getD 2 0), si 0] [(.int ((cs.getD 2 0) - (56320 : Int32)))])) (fun t k => XS.ifNo X130.here hx rfl (hb hby d13_42) rfl ((if0 _ _).trans (teq hc134).2) (XS.iloadN X130.here hx rfl (hb hby d13_45) rfl (X130.ldcInt hx hown (mvT hZ (ww hw 96 rfl)) (g := (mkF m 46 #[sr x1, si 2, si (cs.getD 2 0), si 0] [(.int (cs.getD 2 0))])) rfl (hb hby d13_46) _ (XS.isub X130.here hx rfl (hb hby d13_48) rfl (XS.goto X130.here hx rfl (pc0 := 49) (pc' := 53) rfl (hb hby d13_49) (by decide) (by decide) k))))) ?_
    refine finI X130 hx hk hret (hb hby d13_53) (by decide) (by decide) ?_
    rw [e130]
    exact ⟨(by rw [own_at, if_neg hc132, if_neg hc133, if_pos hc131]), N130, rfl⟩
 ·
  refine go (S' := T130.setTop (mkF m 32 #[sr x1, si 2, si (cs.getD 2 0), si 1] [(.int 56448), (.int (cs.getD 2 0))])) (fun t k => XS.ifNo X130.here hx rfl (hb hby d13_20) rfl ((if0 _ _).trans (feq hc131).1) (XS.iconst X130.here hx rfl (hb hby d13_23) (XS.goto X130.here hx rfl (pc0 := 24) (pc' := 28) rfl (hb hby d13_24) (by decide) (by decide) (XS.istoreN X130.here hx rfl (hb hby d13_28) rfl (l' := #[sr x1, si 2, si (cs.getD 2 0), si 1]) rfl (XS.iloadN X130.here hx rfl (hb hby d13_29) rfl (X130.ldcInt hx hown (mvT hZ (ww hw 87 rfl)) (g := (mkF m 30 #[sr x1, si 2, si (cs.getD 2 0), si 1] [(.int (cs.getD 2 0))])) rfl (hb hby d13_30) _ k)))))) ?_
  by_cases hc135 : (cs.getD 2 0) < (56448 : Int32)
  ·
   refine go (S' := T130.setTop (mkF m 53 #[sr x1, si 2, si (cs.getD 2 0), si 1] [(.int (-1 : Int32))])) (fun t k => XS.icmpYes X130.here hx rfl (pc0 := 32) (pc' := 52) rfl (hb hby d13_32) rfl (tlt hc135).1 (by decide) (by decide) (XS.iconst X130.here hx rfl (hb hby d13_52) k)) ?_
   refine finI X130 hx hk hret (hb hby d13_53) (by decide) (by decide) ?_
   rw [e130]
   exact ⟨(by rw [own_at, if_pos hc135]), N130, rfl⟩
  ·
   refine go (S' := T130.setTop (mkF m 38 #[sr x1, si 2, si (cs.getD 2 0), si 1] [(.int 56575), (.int (cs.getD 2 0))])) (fun t k => XS.icmpNo X130.here hx rfl (hb hby d13_32) rfl (flt hc135).1 (XS.iloadN X130.here hx rfl (hb hby d13_35) rfl (X130.ldcInt hx hown (mvT hZ (ww hw 95 rfl)) (g := (mkF m 36 #[sr x1, si 2, si (cs.getD 2 0), si 1] [(.int (cs.getD 2 0))])) rfl (hb hby d13_36) _ k))) ?_
   by_cases hc136 : (56575 : Int32) < (cs.getD 2 0)
   ·
    refine go (S' := T130.setTop (mkF m 53 #[sr x1, si 2, si (cs.getD 2 0), si 1] [(.int (-1 : Int32))])) (fun t k => XS.icmpYes X130.here hx rfl (pc0 := 38) (pc' := 52) rfl (hb hby d13_38) rfl (tlt hc136).2.2.1 (by decide) (by decide) (XS.iconst X130.here hx rfl (hb hby d13_52) k)) ?_
    refine finI X130 hx hk hret (hb hby d13_53) (by decide) (by decide) ?_
    rw [e130]
    exact ⟨(by rw [own_at, if_neg hc135, if_pos hc136]), N130, rfl⟩
   ·
    refine go (S' := T130.setTop (mkF m 42 #[sr x1, si 2, si (cs.getD 2 0), si 1] [(.int 1)])) (fun t k => XS.icmpNo X130.here hx rfl (hb hby d13_38) rfl (flt hc136).2.2.1 (XS.iloadN X130.here hx rfl (hb hby d13_41) rfl k)) ?_
    have hc137 : ¬ ((1 : Int32) = (0 : Int32)) := by decide
    refine go (S' := T130.setTop (mkF m 53 #[sr x1, si 2, si (cs.getD 2 0), si 1] [(.int (-1 : Int32))])) (fun t k => XS.ifYes X130.here hx rfl (pc0 := 42) (pc' := 52) rfl (hb hby d13_42) rfl ((if0 _ _).trans (feq hc137).2) (by decide) (by decide) (XS.iconst X130.here hx rfl (hb hby d13_52) k)) ?_
    refine finI X130 hx hk hret (hb hby d13_53) (by decide) (by decide) ?_
    rw [e130]
    exact ⟨(by rw [own_at, if_neg hc135, if_neg hc136, if_neg hc131]), N130, rfl⟩
theorem pd_15 : parseMethodDescriptor "(II)C" = some ⟨[.int, .int], some .char⟩ := by decide +kernel
theorem pd_16 : parseMethodDescriptor "([C)V" = some ⟨[(.array .char)], none⟩ := by decide +kernel
theorem pd_17 : parseMethodDescriptor "(Ljava/lang/String;I)I" = some ⟨[(.object "java/lang/String"), .int], some .int⟩ := by decide +kernel
abbrev y_21 : MethodName := ⟨"com/example/kuvert/kuvert/mime/KeptOctetsAtPinLaw", "law", "(IIIII)Z"⟩
theorem pn_21 : plainFor y_21 = true := by first | exact plainFor_of_name (by first | (simp [plainName, overriddenIn]; done) | decide +kernel) | decide +kernel
theorem ef_rmLaw (m : MethodId) (p1 : Int32) (p2 : Int32) (p3 : Int32) (p4 : Int32) (p5 : Int32) : entryFrame m #[(.int p1), (.int p2), (.int p3), (.int p4), (.int p5)] maxLocals = mkF m 0 #[si p1, si p2, si p3, si p4, si p5, .unset, .unset, .unset, .unset, .unset, .unset, .unset] [] := by first | (simp [entryFrame, mkF, argsToLocals, Value.category, maxLocals]; done) | rfl
def Q_rmLaw (Z : State) (p1 : Int32) (p2 : Int32) (p3 : Int32) (p4 : Int32) (p5 : Int32) (G1 : Int32) (fm : Value) (h0 : Heap) (n0 : Nat) (v : Option Value) (h : Heap) (L : List Loc) : Prop := v = some (.int 1) ∧ Fr n0 L ∧ Keep h0 h []
set_option maxRecDepth 65536 in
set_option maxHeartbeats 40000000 in
theorem rmLaw (l : Launch) (Z : State) (a0 : Array Value) (hw : ∀ d ∈ tables_1, d.before a0 Z = true) (ws : List Jvm.Cond) (p1 : Int32) (p2 : Int32) (p3 : Int32) (p4 : Int32) (p5 : Int32) (G1 : Int32) (fm : Value) (h0 : Heap) (n0 : Nat) (Z0 : n0 ≤ h0.size) (hp0 : Sta Z Z.heap "java/lang/String" "COMPACT_STRINGS" "Z" (.int G1)) (hG1 : ¬ (G1 = (0 : Int32))) (hp2 : Sta Z Z.heap "jdk/internal/util/Preconditions" "SIOOBE_FORMATTER" "Ljava/util/function/BiFunction;" fm) (hfm : fm.isRef = true) (hp4 : Sta Z Z.heap "java/lang/StringUTF16" "$assertionsDisabled" "Z" (.int 1)) (hp5 : Sta Z Z.heap "java/lang/StringUTF16" "HI_BYTE_SHIFT" "I" (.int 0)) (hp6 : Sta Z Z.heap "java/lang/StringUTF16" "LO_BYTE_SHIFT" "I" (.int 8)) (hp7 : Old Z n0 h0) :
    MetFree l x (head1 (Jvm.Cond.code x code maxLocals ret :: ws) room_1) (fun a U => a = #[(.int p1), (.int p2), (.int p3), (.int p4), (.int p5)] ∧ Z.Warmed39 U.vm ∧ U.heap = h0) (fun _ _ _ _ _ => True) (fun _ U o U' => ∃ v L, o = .returned v ∧ Q_rmLaw Z p1 p2 p3 p4 p5 G1 fm h0 n0 v U'.heap L ∧ FrameEnd U o U' L room_1.cells room_1.slots) := by
 refine bodyOf pn_21 (fun m => ef_rmLaw m p1 p2 p3 p4 p5) ?_
 intro p e s m below meth c T0 X0 hx hby hml hown hnm hret hk hZ e0
 have N0 := Fr.nil n0
 have K0 : Keep h0 h0 [] := Keep.refl _ _
 have O0 := hp7
 refine go (S' := T0.setTop (mkF m 1 #[si p1, si p2, si p3, si p4, si p5, .unset, .unset, .unset, .unset, .unset, .unset, .unset] [(.int 3)])) (fun t k => XS.iconst X0.here hx rfl (hb hby at_0) k) ?_
 obtain ⟨T138, h138, k138, X138, e138, E138, A138, st138⟩ := newP X0 hx hZ (ww hw 0 rfl) e0 (g := (mkF m 1 #[si p1, si p2, si p3, si p4, si p5, .unset, .unset, .unset, .unset, .unset, .unset, .unset] [(.int 3)])) rfl (hb hby at_1) rfl (by decide) (cap := 3) (by decide) (by decide) (by decide) (by decide)
 obtain ⟨b138, g138⟩ : ∃ z, z = h0.size := ⟨_, rfl⟩
 rw [← g138] at A138 st138
 have ge_b138 : n0 ≤ b138 := by rw [g138]; exact (Nat.le_trans Z0 K0.1)
 have sz_b138 : h0.size ≤ b138 := by rw [g138]; exact K0.1
 have K139 : Keep h0 h138 [] := K0.ext E138
 have V138 : Arv Z h138 b138 k138 .char (3 : Int32) [(.int 0), (.int 0), (.int 0)] (.int 0) := (Arv.new A138 (by decide)).pad (pad_rep [] (.int 0) 3)
 refine go (S' := T138.setTop (mkF m 10 #[si p1, si p2, si p3, si p4, si p5, sr b138, .unset, .unset, .unset, .unset, .unset, .unset] [(.int p4), (.int p1), (.int 0), (.ref b138)])) (fun t k => st138 _ (XS.astore X138.here hx rfl (hb hby at_3) rfl rfl (l' := #[si p1, si p2, si p3, si p4, si p5, sr b138, .unset, .unset, .unset, .unset, .unset, .unset]) rfl (XS.aload X138.here hx rfl (hb hby at_5) rfl rfl (XS.iconst X138.here hx rfl (hb hby at_7) (XS.iloadN X138.here hx rfl (hb hby at_8) rfl (XS.iloadN X138.here hx rfl (hb hby at_9) rfl k)))))) ?_
 obtain ⟨v140, T140, L140, X140, hQ140, st140⟩ := callSt X138 hx hZ (y := y_19) hown (ww hw 1 rfl) (ww hw 2 rfl) (ww hw 3 rfl) (ww hw 4 rfl) (by decide) (backOf (W := 2) (rmDr l Z a0 hw [] p1 p4 h138 n0 (Nat.le_trans Z0 K139.1) ) hZ (ww hw 4 rfl) (ww hw 3 rfl) (by decide) (by decide)) (g := (mkF m 10 #[si p1, si p2, si p3, si p4, si p5, sr b138, .unset, .unset, .unset, .unset, .unset, .unset] [(.int p4), (.int p1), (.int 0), (.ref b138)])) rfl (by rw [hml]; rfl) (kc := 0) (ks := 0) (argsL := [(.int p1), (.int p4)]) (rest := [(.int 0), (.ref b138)]) (lenOf pd_15 rfl) rfl (mr0 rfl) (hb hby at_10) e138 (by decide) (by decide)
 obtain ⟨r_140, rfl, N140q, e140, q140_0⟩ := hQ140
 have N140 := Fr.app N0 N140q
 refine go (S' := T140.setTop (mkF m 13 #[si p1, si p2, si p3, si p4, si p5, sr b138, .unset, .unset, .unset, .unset, .unset, .unset] [(.int r_140), (.int 0), (.ref b138)])) st140 ?_
 obtain ⟨T141, h141, X141, e141, W141, V141, st141⟩ := putC X140 hx hZ e140 V138 (j := (0 : Int32)) (x := r_140) (oj_c16 q140_0) ⟨by decide, by decide⟩ (i := 0) rfl (Nat.le_of_ble_eq_true rfl) (g := (mkF m 13 #[si p1, si p2, si p3, si p4, si p5, sr b138, .unset, .unset, .unset, .unset, .unset, .unset] [(.int r_140), (.int 0), (.ref b138)])) rfl rfl (hb hby at_13)
 have K142 : Keep h0 h141 [] := K139.wr W141 (Or.inr sz_b138)
 have N143 := Fr.snoc X141 N140 ge_b138
 refine go (S' := T141.setTop (mkF m 21 #[si p1, si p2, si p3, si p4, si p5, sr b138, .unset, .unset, .unset, .unset, .unset, .unset] [(.int (p4 >>> ((2 : Int32) &&& 31))), (.int p2), (.int 1), (.ref b138)])) (fun t k => st141 _ (XS.aload X141.here hx rfl (hb hby at_14) rfl rfl (XS.iconst X141.here hx rfl (hb hby at_16) (XS.iloadN X141.here hx rfl (hb hby at_17) rfl (XS.iloadN X141.here hx rfl (hb hby at_18) rfl (XS.iconst X141.here hx rfl (hb hby at_19) (XS.ishr X141.here hx rfl (hb hby at_20) rfl k))))))) ?_
 obtain ⟨v144, T144, L144, X144, hQ144, st144⟩ := callSt X141 hx hZ (y := y_19) hown (ww hw 1 rfl) (ww hw 2 rfl) (ww hw 3 rfl) (ww hw 4 rfl) (by decide) (backOf (W := 2) (rmDr l Z a0 hw [] p2 (p4 >>> ((2 : Int32) &&& 31)) h141 n0 (Nat.le_trans Z0 K142.1) ) hZ (ww hw 4 rfl) (ww hw 3 rfl) (by decide) (by decide)) (g := (mkF m 21 #[si p1, si p2, si p3, si p4, si p5, sr b138, .unset, .unset, .unset, .unset, .unset, .unset] [(.int (p4 >>> ((2 : Int32) &&& 31))), (.int p2), (.int 1), (.ref b138)])) rfl (by rw [hml]; rfl) (kc := 0) (ks := 0) (argsL := [(.int p2), (.int (p4 >>> ((2 : Int32) &&& 31)))]) (rest := [(.int 1), (.ref b138)]) (lenOf pd_15 rfl) rfl (mr0 rfl) (hb hby at_21) e141 (by decide) (by decide)
 obtain ⟨r_144, rfl, N144q, e144, q144_0⟩ := hQ144
 have N144 := Fr.app N143 N144q
 refine go (S' := T144.setTop (mkF m 24 #[si p1, si p2, si p3, si p4, si p5, sr b138, .unset, .unset, .unset, .unset, .unset, .unset] [(.int r_144), (.int 1), (.ref b138)])) st144 ?_
 obtain ⟨T145, h145, X145, e145, W145, V145, st145⟩ := putC X144 hx hZ e144 V141 (j := (1 : Int32)) (x := r_144) (oj_c16 q144_0) ⟨by decide, by decide⟩ (i := 1) rfl (Nat.le_of_ble_eq_true rfl) (g := (mkF m 24 #[si p1, si p2, si p3, si p4, si p5, sr b138, .unset, .unset, .unset, .unset, .unset, .unset] [(.int r_144), (.int 1), (.ref b138)])) rfl rfl (hb hby at_24)
 have K146 : Keep h0 h145 [] := K142.wr W145 (Or.inr sz_b138)
 have N147 := Fr.snoc X145 N144 ge_b138
 refine go (S' := T145.setTop (mkF m 32 #[si p1, si p2, si p3, si p4, si p5, sr b138, .unset, .unset, .unset, .unset, .unset, .unset] [(.int (p4 >>> ((4 : Int32) &&& 31))), (.int p3), (.int 2), (.ref b138)])) (fun t k => st145 _ (XS.aload X145.here hx rfl (hb hby at_25) rfl rfl (XS.iconst X145.here hx rfl (hb hby at_27) (XS.iloadN X145.here hx rfl (hb hby at_28) rfl (XS.iloadN X145.here hx rfl (hb hby at_29) rfl (XS.iconst X145.here hx rfl (hb hby at_30) (XS.ishr X145.here hx rfl (hb hby at_31) rfl k))))))) ?_
 obtain ⟨v148, T148, L148, X148, hQ148, st148⟩ := callSt X145 hx hZ (y := y_19) hown (ww hw 1 rfl) (ww hw 2 rfl) (ww hw 3 rfl) (ww hw 4 rfl) (by decide) (backOf (W := 2) (rmDr l Z a0 hw [] p3 (p4 >>> ((4 : Int32) &&& 31)) h145 n0 (Nat.le_trans Z0 K146.1) ) hZ (ww hw 4 rfl) (ww hw 3 rfl) (by decide) (by decide)) (g := (mkF m 32 #[si p1, si p2, si p3, si p4, si p5, sr b138, .unset, .unset, .unset, .unset, .unset, .unset] [(.int (p4 >>> ((4 : Int32) &&& 31))), (.int p3), (.int 2), (.ref b138)])) rfl (by rw [hml]; rfl) (kc := 0) (ks := 0) (argsL := [(.int p3), (.int (p4 >>> ((4 : Int32) &&& 31)))]) (rest := [(.int 2), (.ref b138)]) (lenOf pd_15 rfl) rfl (mr0 rfl) (hb hby at_32) e145 (by decide) (by decide)
 obtain ⟨r_148, rfl, N148q, e148, q148_0⟩ := hQ148
 have N148 := Fr.app N147 N148q
 refine go (S' := T148.setTop (mkF m 35 #[si p1, si p2, si p3, si p4, si p5, sr b138, .unset, .unset, .unset, .unset, .unset, .unset] [(.int r_148), (.int 2), (.ref b138)])) st148 ?_
 obtain ⟨T149, h149, X149, e149, W149, V149, st149⟩ := putC X148 hx hZ e148 V145 (j := (2 : Int32)) (x := r_148) (oj_c16 q148_0) ⟨by decide, by decide⟩ (i := 2) rfl (Nat.le_of_ble_eq_true rfl) (g := (mkF m 35 #[si p1, si p2, si p3, si p4, si p5, sr b138, .unset, .unset, .unset, .unset, .unset, .unset] [(.int r_148), (.int 2), (.ref b138)])) rfl rfl (hb hby at_35)
 have K150 : Keep h0 h149 [] := K146.wr W149 (Or.inr sz_b138)
 have N151 := Fr.snoc X149 N148 ge_b138
 refine go (S' := T149.setTop (mkF m 36 #[si p1, si p2, si p3, si p4, si p5, sr b138, .unset, .unset, .unset, .unset, .unset, .unset] [])) st149 ?_
 obtain ⟨T152, h152, X152, e152, E152, A152, D152, -, st152⟩ := newO X149 hx hZ hown (ww hw 7 rfl) (ww hw 8 rfl) (ww hw 9 rfl) e149 (g := (mkF m 36 #[si p1, si p2, si p3, si p4, si p5, sr b138, .unset, .unset, .unset, .unset, .unset, .unset] [])) rfl (hb hby at_36) (by decide) (by decide)
 obtain ⟨b152, g152⟩ : ∃ z, z = h149.size := ⟨_, rfl⟩
 rw [← g152] at A152 D152 st152
 have lt_b138_b152 : b138 < b152 := by rw [g152]; exact V149.lt
 have ge_b152 : n0 ≤ b152 := by rw [g152]; exact (Nat.le_trans Z0 K150.1)
 have sz_b152 : h0.size ≤ b152 := by rw [g152]; exact K150.1
 have K153 : Keep h0 h152 [] := K150.ext E152
 refine go (S' := T152.setTop (mkF m 42 #[si p1, si p2, si p3, si p4, si p5, sr b138, .unset, .unset, .unset, .unset, .unset, .unset] [(.ref b138), (.ref b152), (.ref b152)])) (fun t k => st152 _ (XS.dup X152.here hx rfl (hb hby at_39) rfl rfl (XS.aload X152.here hx rfl (hb hby at_40) rfl rfl k))) ?_
 have f154 : Arv Z h152 b138 k138 .char (3 : Int32) [(.int r_140), (.int r_144), (.int r_148)] (.int 0) := (V149.ext E152)
 have O155 : Old Z n0 h152 := O0.keep K153 all0
 obtain ⟨v156, T156, L156, X156, hQ156, st156⟩ := callSp X152 hx hZ (y := y_9) rfl hown (ww hw 10 rfl) (ww hw 11 rfl) (ww hw 12 rfl) (by decide) (backOf (W := 1) (rmInit1 l Z a0 hw [] b152 b138 (3 : Int32) k138 ([r_140, r_144, r_148] : List Int32) (.int 0) G1 h152 n0 (Nat.le_trans Z0 K153.1) f154 rfl (Nat.le_of_ble_eq_true rfl) (Nat.le_of_ble_eq_true rfl) (allI q140_0 (allI q144_0 (allI q148_0 (fun _ q => nomatch q)))) A152 (D152 (Or.inr (ww hw 54 rfl)) (ty := (.array .byte)) (by decide)) (D152 (Or.inr (ww hw 52 rfl)) (ty := .byte) (by decide)) ge_b152 (Nat.ne_of_gt lt_b138_b152) hp0 hG1 hp4 hp5 hp6 O155) hZ (ww hw 12 rfl) (ww hw 9 rfl) (by decide) (by decide)) (g := (mkF m 42 #[si p1, si p2, si p3, si p4, si p5, sr b138, .unset, .unset, .unset, .unset, .unset, .unset] [(.ref b138), (.ref b152), (.ref b152)])) rfl (by rw [hml]; rfl) (a := b152) (kc := 2) (ks := 9) (argsL := [(.ref b138)]) (rest := [(.ref b152)]) (lenOf pd_16 rfl) rfl (mr0 rfl) (hb hby at_42) e152 (by decide) (by decide)
 obtain ⟨t_156, cd_156, rfl, N156q, Kq156, q156_0, q156_1, q156_2⟩ := hQ156
 have N156 := Fr.app N151 N156q
 have K157 : Keep h0 T156.heap [] := K153.trans Kq156 (allS (P := fun x => x ∈ [] ∨ h0.size ≤ x) (Or.inr sz_b152) all0)
 have lt_b138_t_156 : b138 < t_156 := Nat.lt_of_lt_of_le f154.lt q156_0
 have lt_b152_t_156 : b152 < t_156 := Nat.lt_of_lt_of_le A152.lt q156_0
 have sz_t_156 : h0.size ≤ t_156 := Nat.le_trans K153.1 q156_0
 have ge_t_156 : n0 ≤ t_156 := Nat.le_trans Z0 sz_t_156
 have ne_t_156_b152 := q156_1
 refine go (S' := T156.setTop (mkF m 54 #[si p1, si p2, si p3, si p4, si p5, sr b138, sr b152, .unset, .unset, .unset, .unset, .unset] [(.int ((p5 &&& (2147483647 : Int32)) % (3 : Int32)))])) (fun t k => st156 _ (XS.astore X156.here hx rfl (hb hby at_45) rfl rfl (l' := #[si p1, si p2, si p3, si p4, si p5, sr b138, sr b152, .unset, .unset, .unset, .unset, .unset]) rfl (XS.iload X156.here hx rfl (hb hby at_47) rfl (X156.ldcInt hx hown (mvT hZ (ww hw 55 rfl)) (g := (mkF m 49 #[si p1, si p2, si p3, si p4, si p5, sr b138, sr b152, .unset, .unset, .unset, .unset, .unset] [(.int p5)])) rfl (hb hby at_49) _ (XS.iand X156.here hx rfl (hb hby at_51) rfl (XS.iconst X156.here hx rfl (hb hby at_52) (iremM X156 hx rfl (hb hby at_53) rfl (by decide) k))))))) ?_
 rcases own_ix p5 with hix | hix | hix
 ·
  rw [hix]
  refine go (S' := T156.setTop (mkF m 60 #[si p1, si p2, si p3, si p4, si p5, sr b138, sr b152, si 0, .unset, .unset, .unset, .unset] [(.int 0), (.ref b152)])) (fun t k => XS.istore X156.here hx rfl (hb hby at_54) rfl (l' := #[si p1, si p2, si p3, si p4, si p5, sr b138, sr b152, si 0, .unset, .unset, .unset, .unset]) rfl (XS.aload X156.here hx rfl (hb hby at_56) rfl rfl (XS.iload X156.here hx rfl (hb hby at_58) rfl k))) ?_
  have O158 : Old Z n0 T156.heap := O0.keep K157 all0
  obtain ⟨v159, T159, L159, X159, hQ159, st159⟩ := callSt X156 hx hZ (y := y_20) hown (ww hw 56 rfl) (ww hw 57 rfl) (ww hw 58 rfl) (ww hw 59 rfl) (by decide) (backOf (W := 0) (rmAt0 l Z a0 hw [] b152 t_156 cd_156 ([r_140, r_144, r_148] : List Int32) G1 fm T156.heap n0 (Nat.le_trans Z0 K157.1) q156_2 rfl hfm hp2 hp0 hG1 hp4 hp5 hp6 O158) hZ (ww hw 59 rfl) (ww hw 58 rfl) (by decide) (by decide)) (g := (mkF m 60 #[si p1, si p2, si p3, si p4, si p5, sr b138, sr b152, si 0, .unset, .unset, .unset, .unset] [(.int 0), (.ref b152)])) rfl (by rw [hml]; rfl) (kc := 0) (ks := 0) (argsL := [(.ref b152), (.int 0)]) (rest := []) (lenOf pd_17 rfl) rfl (mr0 rfl) (hb hby at_60) rfl (by decide) (by decide)
  obtain ⟨rfl, N159q, e159⟩ := hQ159
  have N159 := Fr.app N156 N159q
  refine go (S' := T159.setTop (mkF m 63 #[si p1, si p2, si p3, si p4, si p5, sr b138, sr b152, si 0, .unset, .unset, .unset, .unset] [(.int (own_at (([r_140, r_144, r_148] : List Int32).getD 0 0) (0 : Int32)))])) st159 ?_
  rw [show (own_at (([r_140, r_144, r_148] : List Int32).getD 0 0) (0 : Int32)) = own_at r_140 (0 : Int32) from rfl]
  refine go (S' := T159.setTop (mkF m 69 #[si p1, si p2, si p3, si p4, si p5, sr b138, sr b152, si 0, si (own_at r_140 (0 : Int32)), .unset, .unset, .unset] [(.int 0), (.ref b138)])) (fun t k => XS.istore X159.here hx rfl (hb hby at_63) rfl (l' := #[si p1, si p2, si p3, si p4, si p5, sr b138, sr b152, si 0, si (own_at r_140 (0 : Int32)), .unset, .unset, .unset]) rfl (XS.aload X159.here hx rfl (hb hby at_65) rfl rfl (XS.iload X159.here hx rfl (hb hby at_67) rfl k))) ?_
  have f160 : Arv Z T156.heap b138 k138 .char (3 : Int32) [(.int r_140), (.int r_144), (.int r_148)] (.int 0) := (f154.keep Kq156 (ninS (Nat.ne_of_lt lt_b138_b152) nin0))
  refine go (S' := T159.setTop (mkF m 74 #[si p1, si p2, si p3, si p4, si p5, sr b138, sr b152, si 0, si (own_at r_140 (0 : Int32)), si r_140, .unset, .unset] [(.int 0)])) (fun t k => getC X159 hx hZ e159 f160 (j := (0 : Int32)) (v := (.int r_140)) ⟨by decide, by decide⟩ rfl (g := (mkF m 69 #[si p1, si p2, si p3, si p4, si p5, sr b138, sr b152, si 0, si (own_at r_140 (0 : Int32)), .unset, .unset, .unset] [(.int 0), (.ref b138)])) rfl rfl (hb hby at_69) (XS.istore X159.here hx rfl (hb hby at_70) rfl (l' := #[si p1, si p2, si p3, si p4, si p5, sr b138, sr b152, si 0, si (own_at r_140 (0 : Int32)), si r_140, .unset, .unset]) rfl (XS.iload X159.here hx rfl (hb hby at_72) rfl k))) ?_
  have hc162 : ¬ ((0 : Int32) < (0 : Int32)) := by decide
  refine go (S' := T159.setTop (mkF m 107 #[si p1, si p2, si p3, si p4, si p5, sr b138, sr b152, si 0, si (own_at r_140 (0 : Int32)), si r_140, si 0, .unset] [(.int 441), (.int (r_140 >>> ((7 : Int32) &&& 31)))])) (fun t k => XS.ifYes X159.here hx rfl (pc0 := 74) (pc' := 96) rfl (hb hby at_74) rfl ((if0 _ _).trans (flt hc162).2.2.2) (by decide) (by decide) (XS.iconst X159.here hx rfl (hb hby at_96) (XS.istore X159.here hx rfl (hb hby at_97) rfl (l' := #[si p1, si p2, si p3, si p4, si p5, sr b138, sr b152, si 0, si (own_at r_140 (0 : Int32)), si r_140, si 0, .unset]) rfl (XS.iload X159.here hx rfl (hb hby at_99) rfl (XS.bipush X159.here hx rfl (hb hby at_101) (XS.ishr X159.here hx rfl (hb hby at_103) rfl (XS.sipush X159.here hx rfl (hb hby at_104) k))))))) ?_
  by_cases hc163 : (r_140 >>> ((7 : Int32) &&& 31)) = (441 : Int32)
  ·
   refine go (S' := T159.setTop (mkF m 112 #[si p1, si p2, si p3, si p4, si p5, sr b138, sr b152, si 0, si (own_at r_140 (0 : Int32)), si r_140, si 0, .unset] [(.int 0)])) (fun t k => XS.icmpNo X159.here hx rfl (hb hby at_107) rfl (teq hc163).2 (XS.iload X159.here hx rfl (hb hby at_110) rfl k)) ?_
   have hc164 : (0 : Int32) = (0 : Int32) := by decide
   refine go (S' := T159.setTop (mkF m 133 #[si p1, si p2, si p3, si p4, si p5, sr b138, sr b152, si 0, si (own_at r_140 (0 : Int32)), si r_140, si 0, si (r_140 &&& (255 : Int32))] [(.int (r_140 &&& (255 : Int32))), (.int (own_at r_140 (0 : Int32)))])) (fun t k => XS.ifNo X159.here hx rfl (hb hby at_112) rfl ((if0 _ _).trans (teq hc164).2) (XS.iload X159.here hx rfl (hb hby at_115) rfl (XS.sipush X159.here hx rfl (hb hby at_117) (XS.iand X159.here hx rfl (hb hby at_120) rfl (XS.istore X159.here hx rfl (hb hby at_121) rfl (l' := #[si p1, si p2, si p3, si p4, si p5, sr b138, sr b152, si 0, si (own_at r_140 (0 : Int32)), si r_140, si 0, si (r_140 &&& (255 : Int32))]) rfl (XS.goto X159.here hx rfl (pc0 := 123) (pc' := 129) rfl (hb hby at_123) (by decide) (by decide) (XS.iload X159.here hx rfl (hb hby at_129) rfl (XS.iload X159.here hx rfl (hb hby at_131) rfl k)))))))) ?_
   have hc165 : (own_at r_140 (0 : Int32)) = (r_140 &&& (255 : Int32)) := by rw [own_at_eq q140_0 _ (Or.inl rfl), if_pos hc163, if_pos rfl]
   refine go (S' := T159.setTop (mkF m 141 #[si p1, si p2, si p3, si p4, si p5, sr b138, sr b152, si 0, si (own_at r_140 (0 : Int32)), si r_140, si 0, si (r_140 &&& (255 : Int32))] [(.int 1)])) (fun t k => XS.icmpNo X159.here hx rfl (hb hby at_133) rfl (teq hc165).2 (XS.iconst X159.here hx rfl (hb hby at_136) (XS.goto X159.here hx rfl (pc0 := 137) (pc' := 141) rfl (hb hby at_137) (by decide) (by decide) k))) ?_
   refine finN X159 hx hk (t := .boolean) hret (by simp) (hb hby at_141) (by decide) (by decide) ?_
   rw [e159]
   exact ⟨rfl, N159, K157⟩
  ·
   refine go (S' := T159.setTop (mkF m 133 #[si p1, si p2, si p3, si p4, si p5, sr b138, sr b152, si 0, si (own_at r_140 (0 : Int32)), si r_140, si 0, si (-1 : Int32)] [(.int (-1 : Int32)), (.int (own_at r_140 (0 : Int32)))])) (fun t k => XS.icmpYes X159.here hx rfl (pc0 := 107) (pc' := 126) rfl (hb hby at_107) rfl (feq hc163).2 (by decide) (by decide) (XS.iconst X159.here hx rfl (hb hby at_126) (XS.istore X159.here hx rfl (hb hby at_127) rfl (l' := #[si p1, si p2, si p3, si p4, si p5, sr b138, sr b152, si 0, si (own_at r_140 (0 : Int32)), si r_140, si 0, si (-1 : Int32)]) rfl (XS.iload X159.here hx rfl (hb hby at_129) rfl (XS.iload X159.here hx rfl (hb hby at_131) rfl k))))) ?_
   have hc166 : (own_at r_140 (0 : Int32)) = (-1 : Int32) := by rw [own_at_eq q140_0 _ (Or.inl rfl), if_neg hc163]
   refine go (S' := T159.setTop (mkF m 141 #[si p1, si p2, si p3, si p4, si p5, sr b138, sr b152, si 0, si (own_at r_140 (0 : Int32)), si r_140, si 0, si (-1 : Int32)] [(.int 1)])) (fun t k => XS.icmpNo X159.here hx rfl (hb hby at_133) rfl (teq hc166).2 (XS.iconst X159.here hx rfl (hb hby at_136) (XS.goto X159.here hx rfl (pc0 := 137) (pc' := 141) rfl (hb hby at_137) (by decide) (by decide) k))) ?_
   refine finN X159 hx hk (t := .boolean) hret (by simp) (hb hby at_141) (by decide) (by decide) ?_
   rw [e159]
   exact ⟨rfl, N159, K157⟩
 ·
  rw [hix]
  refine go (S' := T156.setTop (mkF m 60 #[si p1, si p2, si p3, si p4, si p5, sr b138, sr b152, si 1, .unset, .unset, .unset, .unset] [(.int 1), (.ref b152)])) (fun t k => XS.istore X156.here hx rfl (hb hby at_54) rfl (l' := #[si p1, si p2, si p3, si p4, si p5, sr b138, sr b152, si 1, .unset, .unset, .unset, .unset]) rfl (XS.aload X156.here hx rfl (hb hby at_56) rfl rfl (XS.iload X156.here hx rfl (hb hby at_58) rfl k))) ?_
  have O167 : Old Z n0 T156.heap := O0.keep K157 all0
  obtain ⟨v168, T168, L168, X168, hQ168, st168⟩ := callSt X156 hx hZ (y := y_20) hown (ww hw 56 rfl) (ww hw 57 rfl) (ww hw 58 rfl) (ww hw 59 rfl) (by decide) (backOf (W := 0) (rmAt1 l Z a0 hw [] b152 t_156 cd_156 ([r_140, r_144, r_148] : List Int32) G1 fm T156.heap n0 (Nat.le_trans Z0 K157.1) q156_2 rfl hfm hp2 hp0 hG1 hp4 hp5 hp6 O167) hZ (ww hw 59 rfl) (ww hw 58 rfl) (by decide) (by decide)) (g := (mkF m 60 #[si p1, si p2, si p3, si p4, si p5, sr b138, sr b152, si 1, .unset, .unset, .unset, .unset] [(.int 1), (.ref b152)])) rfl (by rw [hml]; rfl) (kc := 0) (ks := 0) (argsL := [(.ref b152), (.int 1)]) (rest := []) (lenOf pd_17 rfl) rfl (mr0 rfl) (hb hby at_60) rfl (by decide) (by decide)
  obtain ⟨rfl, N168q, e168⟩ := hQ168
  have N168 := Fr.app N156 N168q
  refine go (S' := T168.setTop (mkF m 63 #[si p1, si p2, si p3, si p4, si p5, sr b138, sr b152, si 1, .unset, .unset, .unset, .unset] [(.int (own_at (([r_140, r_144, r_148] : List Int32).getD 1 0) (own_hs (([r_140, r_144, r_148] : List Int32).getD 0 0))))])) st168 ?_
  rw [show (own_at (([r_140, r_144, r_148] : List Int32).getD 1 0) (own_hs (([r_140, r_144, r_148] : List Int32).getD 0 0))) = own_at r_144 (own_hs r_140) from rfl]
  refine go (S' := T168.setTop (mkF m 69 #[si p1, si p2, si p3, si p4, si p5, sr b138, sr b152, si 1, si (own_at r_144 (own_hs r_140)), .unset, .unset, .unset] [(.int 1), (.ref b138)])) (fun t k => XS.istore X168.here hx rfl (hb hby at_63) rfl (l' := #[si p1, si p2, si p3, si p4, si p5, sr b138, sr b152, si 1, si (own_at r_144 (own_hs r_140)), .unset, .unset, .unset]) rfl (XS.aload X168.here hx rfl (hb hby at_65) rfl rfl (XS.iload X168.here hx rfl (hb hby at_67) rfl k))) ?_
  have f169 : Arv Z T156.heap b138 k138 .char (3 : Int32) [(.int r_140), (.int r_144), (.int r_148)] (.int 0) := (f154.keep Kq156 (ninS (Nat.ne_of_lt lt_b138_b152) nin0))
  refine go (S' := T168.setTop (mkF m 74 #[si p1, si p2, si p3, si p4, si p5, sr b138, sr b152, si 1, si (own_at r_144 (own_hs r_140)), si r_144, .unset, .unset] [(.int 1)])) (fun t k => getC X168 hx hZ e168 f169 (j := (1 : Int32)) (v := (.int r_144)) ⟨by decide, by decide⟩ rfl (g := (mkF m 69 #[si p1, si p2, si p3, si p4, si p5, sr b138, sr b152, si 1, si (own_at r_144 (own_hs r_140)), .unset, .unset, .unset] [(.int 1), (.ref b138)])) rfl rfl (hb hby at_69) (XS.istore X168.here hx rfl (hb hby at_70) rfl (l' := #[si p1, si p2, si p3, si p4, si p5, sr b138, sr b152, si 1, si (own_at r_144 (own_hs r_140)), si r_144, .unset, .unset]) rfl (XS.iload X168.here hx rfl (hb hby at_72) rfl k))) ?_
  have hc171 : (0 : Int32) < (1 : Int32) := by decide
  refine go (S' := T168.setTop (mkF m 87 #[si p1, si p2, si p3, si p4, si p5, sr b138, sr b152, si 1, si (own_at r_144 (own_hs r_140)), si r_144, .unset, .unset] [(.int (r_140 >>> ((10 : Int32) &&& 31)))])) (fun t k => XS.ifNo X168.here hx rfl (hb hby at_74) rfl ((if0 _ _).trans (tlt hc171).2.2.2) (XS.aload X168.here hx rfl (hb hby at_77) rfl rfl (XS.iload X168.here hx rfl (hb hby at_79) rfl (XS.iconst X168.here hx rfl (hb hby at_81) (XS.isub X168.here hx rfl (hb hby at_82) rfl (getC X168 hx hZ e168 f169 (j := (0 : Int32)) (v := (.int r_140)) ⟨by decide, by decide⟩ rfl (g := (mkF m 83 #[si p1, si p2, si p3, si p4, si p5, sr b138, sr b152, si 1, si (own_at r_144 (own_hs r_140)), si r_144, .unset, .unset] [(.int 0), (.ref b138)])) rfl rfl (hb hby at_83) (XS.bipush X168.here hx rfl (hb hby at_84) (XS.ishr X168.here hx rfl (hb hby at_86) rfl k)))))))) ?_
  refine go (S' := T168.setTop (mkF m 89 #[si p1, si p2, si p3, si p4, si p5, sr b138, sr b152, si 1, si (own_at r_144 (own_hs r_140)), si r_144, .unset, .unset] [(.int 54), (.int (r_140 >>> ((10 : Int32) &&& 31)))])) (fun t k => XS.bipush X168.here hx rfl (hb hby at_87) k) ?_
  by_cases hc173 : (r_140 >>> ((10 : Int32) &&& 31)) = (54 : Int32)
  ·
   refine go (S' := T168.setTop (mkF m 107 #[si p1, si p2, si p3, si p4, si p5, sr b138, sr b152, si 1, si (own_at r_144 (own_hs r_140)), si r_144, si 1, .unset] [(.int 441), (.int (r_144 >>> ((7 : Int32) &&& 31)))])) (fun t k => XS.icmpNo X168.here hx rfl (hb hby at_89) rfl (teq hc173).2 (XS.iconst X168.here hx rfl (hb hby at_92) (XS.goto X168.here hx rfl (pc0 := 93) (pc' := 97) rfl (hb hby at_93) (by decide) (by decide) (XS.istore X168.here hx rfl (hb hby at_97) rfl (l' := #[si p1, si p2, si p3, si p4, si p5, sr b138, sr b152, si 1, si (own_at r_144 (own_hs r_140)), si r_144, si 1, .unset]) rfl (XS.iload X168.here hx rfl (hb hby at_99) rfl (XS.bipush X168.here hx rfl (hb hby at_101) (XS.ishr X168.here hx rfl (hb hby at_103) rfl (XS.sipush X168.here hx rfl (hb hby at_104) k)))))))) ?_
   by_cases hc174 : (r_144 >>> ((7 : Int32) &&& 31)) = (441 : Int32)
   ·
    refine go (S' := T168.setTop (mkF m 112 #[si p1, si p2, si p3, si p4, si p5, sr b138, sr b152, si 1, si (own_at r_144 (own_hs r_140)), si r_144, si 1, .unset] [(.int 1)])) (fun t k => XS.icmpNo X168.here hx rfl (hb hby at_107) rfl (teq hc174).2 (XS.iload X168.here hx rfl (hb hby at_110) rfl k)) ?_
    have hc175 : ¬ ((1 : Int32) = (0 : Int32)) := by decide
    refine go (S' := T168.setTop (mkF m 133 #[si p1, si p2, si p3, si p4, si p5, sr b138, sr b152, si 1, si (own_at r_144 (own_hs r_140)), si r_144, si 1, si (-1 : Int32)] [(.int (-1 : Int32)), (.int (own_at r_144 (own_hs r_140)))])) (fun t k => XS.ifYes X168.here hx rfl (pc0 := 112) (pc' := 126) rfl (hb hby at_112) rfl ((if0 _ _).trans (feq hc175).2) (by decide) (by decide) (XS.iconst X168.here hx rfl (hb hby at_126) (XS.istore X168.here hx rfl (hb hby at_127) rfl (l' := #[si p1, si p2, si p3, si p4, si p5, sr b138, sr b152, si 1, si (own_at r_144 (own_hs r_140)), si r_144, si 1, si (-1 : Int32)]) rfl (XS.iload X168.here hx rfl (hb hby at_129) rfl (XS.iload X168.here hx rfl (hb hby at_131) rfl k))))) ?_
    have hc176 : (own_at r_144 (own_hs r_140)) = (-1 : Int32) := by rw [own_at_eq q144_0 _ (own_hs01 _), if_pos hc174, own_hs_sh q140_0, if_pos hc173, if_neg (by decide)]
    refine go (S' := T168.setTop (mkF m 141 #[si p1, si p2, si p3, si p4, si p5, sr b138, sr b152, si 1, si (own_at r_144 (own_hs r_140)), si r_144, si 1, si (-1 : Int32)] [(.int 1)])) (fun t k => XS.icmpNo X168.here hx rfl (hb hby at_133) rfl (teq hc176).2 (XS.iconst X168.here hx rfl (hb hby at_136) (XS.goto X168.here hx rfl (pc0 := 137) (pc' := 141) rfl (hb hby at_137) (by decide) (by decide) k))) ?_
    refine finN X168 hx hk (t := .boolean) hret (by simp) (hb hby at_141) (by decide) (by decide) ?_
    rw [e168]
    exact ⟨rfl, N168, K157⟩
   ·
    refine go (S' := T168.setTop (mkF m 133 #[si p1, si p2, si p3, si p4, si p5, sr b138, sr b152, si 1, si (own_at r_144 (own_hs r_140)), si r_144, si 1, si (-1 : Int32)] [(.int (-1 : Int32)), (.int (own_at r_144 (own_hs r_140)))])) (fun t k => XS.icmpYes X168.here hx rfl (pc0 := 107) (pc' := 126) rfl (hb hby at_107) rfl (feq hc174).2 (by decide) (by decide) (XS.iconst X168.here hx rfl (hb hby at_126) (XS.istore X168.here hx rfl (hb hby at_127) rfl (l' := #[si p1, si p2, si p3, si p4, si p5, sr b138, sr b152, si 1, si (own_at r_144 (own_hs r_140)), si r_144, si 1, si (-1 : Int32)]) rfl (XS.iload X168.here hx rfl (hb hby at_129) rfl (XS.iload X168.here hx rfl (hb hby at_131) rfl k))))) ?_
    have hc177 : (own_at r_144 (own_hs r_140)) = (-1 : Int32) := by rw [own_at_eq q144_0 _ (own_hs01 _), if_neg hc174]
    refine go (S' := T168.setTop (mkF m 141 #[si p1, si p2, si p3, si p4, si p5, sr b138, sr b152, si 1, si (own_at r_144 (own_hs r_140)), si r_144, si 1, si (-1 : Int32)] [(.int 1)])) (fun t k => XS.icmpNo X168.here hx rfl (hb hby at_133) rfl (teq hc177).2 (XS.iconst X168.here hx rfl (hb hby at_136) (XS.goto X168.here hx rfl (pc0 := 137) (pc' := 141) rfl (hb hby at_137) (by decide) (by decide) k))) ?_
    refine finN X168 hx hk (t := .boolean) hret (by simp) (hb hby at_141) (by decide) (by decide) ?_
    rw [e168]
    exact ⟨rfl, N168, K157⟩
  ·
   refine go (S' := T168.setTop (mkF m 107 #[si p1, si p2, si p3, si p4, si p5, sr b138, sr b152, si 1, si (own_at r_144 (own_hs r_140)), si r_144, si 0, .unset] [(.int 441), (.int (r_144 >>> ((7 : Int32) &&& 31)))])) (fun t k => XS.icmpYes X168.here hx rfl (pc0 := 89) (pc' := 96) rfl (hb hby at_89) rfl (feq hc173).2 (by decide) (by decide) (XS.iconst X168.here hx rfl (hb hby at_96) (XS.istore X168.here hx rfl (hb hby at_97) rfl (l' := #[si p1, si p2, si p3, si p4, si p5, sr b138, sr b152, si 1, si (own_at r_144 (own_hs r_140)), si r_144, si 0, .unset]) rfl (XS.iload X168.here hx rfl (hb hby at_99) rfl (XS.bipush X168.here hx rfl (hb hby at_101) (XS.ishr X168.here hx rfl (hb hby at_103) rfl (XS.sipush X168.here hx rfl (hb hby at_104) k))))))) ?_
   by_cases hc178 : (r_144 >>> ((7 : Int32) &&& 31)) = (441 : Int32)
   ·
    refine go (S' := T168.setTop (mkF m 112 #[si p1, si p2, si p3, si p4, si p5, sr b138, sr b152, si 1, si (own_at r_144 (own_hs r_140)), si r_144, si 0, .unset] [(.int 0)])) (fun t k => XS.icmpNo X168.here hx rfl (hb hby at_107) rfl (teq hc178).2 (XS.iload X168.here hx rfl (hb hby at_110) rfl k)) ?_
    have hc179 : (0 : Int32) = (0 : Int32) := by decide
    refine go (S' := T168.setTop (mkF m 133 #[si p1, si p2, si p3, si p4, si p5, sr b138, sr b152, si 1, si (own_at r_144 (own_hs r_140)), si r_144, si 0, si (r_144 &&& (255 : Int32))] [(.int (r_144 &&& (255 : Int32))), (.int (own_at r_144 (own_hs r_140)))])) (fun t k => XS.ifNo X168.here hx rfl (hb hby at_112) rfl ((if0 _ _).trans (teq hc179).2) (XS.iload X168.here hx rfl (hb hby at_115) rfl (XS.sipush X168.here hx rfl (hb hby at_117) (XS.iand X168.here hx rfl (hb hby at_120) rfl (XS.istore X168.here hx rfl (hb hby at_121) rfl (l' := #[si p1, si p2, si p3, si p4, si p5, sr b138, sr b152, si 1, si (own_at r_144 (own_hs r_140)), si r_144, si 0, si (r_144 &&& (255 : Int32))]) rfl (XS.goto X168.here hx rfl (pc0 := 123) (pc' := 129) rfl (hb hby at_123) (by decide) (by decide) (XS.iload X168.here hx rfl (hb hby at_129) rfl (XS.iload X168.here hx rfl (hb hby at_131) rfl k)))))))) ?_
    have hc180 : (own_at r_144 (own_hs r_140)) = (r_144 &&& (255 : Int32)) := by rw [own_at_eq q144_0 _ (own_hs01 _), if_pos hc178, own_hs_sh q140_0, if_neg hc173, if_pos (by decide)]
    refine go (S' := T168.setTop (mkF m 141 #[si p1, si p2, si p3, si p4, si p5, sr b138, sr b152, si 1, si (own_at r_144 (own_hs r_140)), si r_144, si 0, si (r_144 &&& (255 : Int32))] [(.int 1)])) (fun t k => XS.icmpNo X168.here hx rfl (hb hby at_133) rfl (teq hc180).2 (XS.iconst X168.here hx rfl (hb hby at_136) (XS.goto X168.here hx rfl (pc0 := 137) (pc' := 141) rfl (hb hby at_137) (by decide) (by decide) k))) ?_
    refine finN X168 hx hk (t := .boolean) hret (by simp) (hb hby at_141) (by decide) (by decide) ?_
    rw [e168]
    exact ⟨rfl, N168, K157⟩
   ·
    refine go (S' := T168.setTop (mkF m 133 #[si p1, si p2, si p3, si p4, si p5, sr b138, sr b152, si 1, si (own_at r_144 (own_hs r_140)), si r_144, si 0, si (-1 : Int32)] [(.int (-1 : Int32)), (.int (own_at r_144 (own_hs r_140)))])) (fun t k => XS.icmpYes X168.here hx rfl (pc0 := 107) (pc' := 126) rfl (hb hby at_107) rfl (feq hc178).2 (by decide) (by decide) (XS.iconst X168.here hx rfl (hb hby at_126) (XS.istore X168.here hx rfl (hb hby at_127) rfl (l' := #[si p1, si p2, si p3, si p4, si p5, sr b138, sr b152, si 1, si (own_at r_144 (own_hs r_140)), si r_144, si 0, si (-1 : Int32)]) rfl (XS.iload X168.here hx rfl (hb hby at_129) rfl (XS.iload X168.here hx rfl (hb hby at_131) rfl k))))) ?_
    have hc181 : (own_at r_144 (own_hs r_140)) = (-1 : Int32) := by rw [own_at_eq q144_0 _ (own_hs01 _), if_neg hc178]
    refine go (S' := T168.setTop (mkF m 141 #[si p1, si p2, si p3, si p4, si p5, sr b138, sr b152, si 1, si (own_at r_144 (own_hs r_140)), si r_144, si 0, si (-1 : Int32)] [(.int 1)])) (fun t k => XS.icmpNo X168.here hx rfl (hb hby at_133) rfl (teq hc181).2 (XS.iconst X168.here hx rfl (hb hby at_136) (XS.goto X168.here hx rfl (pc0 := 137) (pc' := 141) rfl (hb hby at_137) (by decide) (by decide) k))) ?_
    refine finN X168 hx hk (t := .boolean) hret (by simp) (hb hby at_141) (by decide) (by decide) ?_
    rw [e168]
    exact ⟨rfl, N168, K157⟩
 ·
  rw [hix]
  refine go (S' := T156.setTop (mkF m 60 #[si p1, si p2, si p3, si p4, si p5, sr b138, sr b152, si 2, .unset, .unset, .unset, .unset] [(.int 2), (.ref b152)])) (fun t k => XS.istore X156.here hx rfl (hb hby at_54) rfl (l' := #[si p1, si p2, si p3, si p4, si p5, sr b138, sr b152, si 2, .unset, .unset, .unset, .unset]) rfl (XS.aload X156.here hx rfl (hb hby at_56) rfl rfl (XS.iload X156.here hx rfl (hb hby at_58) rfl k))) ?_
  have O182 : Old Z n0 T156.heap := O0.keep K157 all0
  obtain ⟨v183, T183, L183, X183, hQ183, st183⟩ := callSt X156 hx hZ (y := y_20) hown (ww hw 56 rfl) (ww hw 57 rfl) (ww hw 58 rfl) (ww hw 59 rfl) (by decide) (backOf (W := 0) (rmAt2 l Z a0 hw [] b152 t_156 cd_156 ([r_140, r_144, r_148] : List Int32) G1 fm T156.heap n0 (Nat.le_trans Z0 K157.1) q156_2 rfl hfm hp2 hp0 hG1 hp4 hp5 hp6 O182) hZ (ww hw 59 rfl) (ww hw 58 rfl) (by decide) (by decide)) (g := (mkF m 60 #[si p1, si p2, si p3, si p4, si p5, sr b138, sr b152, si 2, .unset, .unset, .unset, .unset] [(.int 2), (.ref b152)])) rfl (by rw [hml]; rfl) (kc := 0) (ks := 0) (argsL := [(.ref b152), (.int 2)]) (rest := []) (lenOf pd_17 rfl) rfl (mr0 rfl) (hb hby at_60) rfl (by decide) (by decide)
  obtain ⟨rfl, N183q, e183⟩ := hQ183
  have N183 := Fr.app N156 N183q
  refine go (S' := T183.setTop (mkF m 63 #[si p1, si p2, si p3, si p4, si p5, sr b138, sr b152, si 2, .unset, .unset, .unset, .unset] [(.int (own_at (([r_140, r_144, r_148] : List Int32).getD 2 0) (own_hs (([r_140, r_144, r_148] : List Int32).getD 1 0))))])) st183 ?_
  rw [show (own_at (([r_140, r_144, r_148] : List Int32).getD 2 0) (own_hs (([r_140, r_144, r_148] : List Int32).getD 1 0))) = own_at r_148 (own_hs r_144) from rfl]
  refine go (S' := T183.setTop (mkF m 69 #[si p1, si p2, si p3, si p4, si p5, sr b138, sr b152, si 2, si (own_at r_148 (own_hs r_144)), .unset, .unset, .unset] [(.int 2), (.ref b138)])) (fun t k => XS.istore X183.here hx rfl (hb hby at_63) rfl (l' := #[si p1, si p2, si p3, si p4, si p5, sr b138, sr b152, si 2, si (own_at r_148 (own_hs r_144)), .unset, .unset, .unset]) rfl (XS.aload X183.here hx rfl (hb hby at_65) rfl rfl (XS.iload X183.here hx rfl (hb hby at_67) rfl k))) ?_
  have f184 : Arv Z T156.heap b138 k138 .char (3 : Int32) [(.int r_140), (.int r_144), (.int r_148)] (.int 0) := (f154.keep Kq156 (ninS (Nat.ne_of_lt lt_b138_b152) nin0))
  refine go (S' := T183.setTop (mkF m 74 #[si p1, si p2, si p3, si p4, si p5, sr b138, sr b152, si 2, si (own_at r_148 (own_hs r_144)), si r_148, .unset, .unset] [(.int 2)])) (fun t k => getC X183 hx hZ e183 f184 (j := (2 : Int32)) (v := (.int r_148)) ⟨by decide, by decide⟩ rfl (g := (mkF m 69 #[si p1, si p2, si p3, si p4, si p5, sr b138, sr b152, si 2, si (own_at r_148 (own_hs r_144)), .unset, .unset, .unset] [(.int 2), (.ref b138)])) rfl rfl (hb hby at_69) (XS.istore X183.here hx rfl (hb hby at_70) rfl (l' := #[si p1, si p2, si p3, si p4, si p5, sr b138, sr b152, si 2, si (own_at r_148 (own_hs r_144)), si r_148, .unset, .unset]) rfl (XS.iload X183.here hx rfl (hb hby at_72) rfl k))) ?_
  have hc186 : (0 : Int32) < (2 : Int32) := by decide
  refine go (S' := T183.setTop (mkF m 87 #[si p1, si p2, si p3, si p4, si p5, sr b138, sr b152, si 2, si (own_at r_148 (own_hs r_144)), si r_148, .unset, .unset] [(.int (r_144 >>> ((10 : Int32) &&& 31)))])) (fun t k => XS.ifNo X183.here hx rfl (hb hby at_74) rfl ((if0 _ _).trans (tlt hc186).2.2.2) (XS.aload X183.here hx rfl (hb hby at_77) rfl rfl (XS.iload X183.here hx rfl (hb hby at_79) rfl (XS.iconst X183.here hx rfl (hb hby at_81) (XS.isub X183.here hx rfl (hb hby at_82) rfl (getC X183 hx hZ e183 f184 (j := (1 : Int32)) (v := (.int r_144)) ⟨by decide, by decide⟩ rfl (g := (mkF m 83 #[si p1, si p2, si p3, si p4, si p5, sr b138, sr b152, si 2, si (own_at r_148 (own_hs r_144)), si r_148, .unset, .unset] [(.int 1), (.ref b138)])) rfl rfl (hb hby at_83) (XS.bipush X183.here hx rfl (hb hby at_84) (XS.ishr X183.here hx rfl (hb hby at_86) rfl k)))))))) ?_
  refine go (S' := T183.setTop (mkF m 89 #[si p1, si p2, si p3, si p4, si p5, sr b138, sr b152, si 2, si (own_at r_148 (own_hs r_144)), si r_148, .unset, .unset] [(.int 54), (.int (r_144 >>> ((10 : Int32) &&& 31)))])) (fun t k => XS.bipush X183.here hx rfl (hb hby at_87) k) ?_
  by_cases hc188 : (r_144 >>> ((10 : Int32) &&& 31)) = (54 : Int32)
  ·
   refine go (S' := T183.setTop (mkF m 107 #[si p1, si p2, si p3, si p4, si p5, sr b138, sr b152, si 2, si (own_at r_148 (own_hs r_144)), si r_148, si 1, .unset] [(.int 441), (.int (r_148 >>> ((7 : Int32) &&& 31)))])) (fun t k => XS.icmpNo X183.here hx rfl (hb hby at_89) rfl (teq hc188).2 (XS.iconst X183.here hx rfl (hb hby at_92) (XS.goto X183.here hx rfl (pc0 := 93) (pc' := 97) rfl (hb hby at_93) (by decide) (by decide) (XS.istore X183.here hx rfl (hb hby at_97) rfl (l' := #[si p1, si p2, si p3, si p4, si p5, sr b138, sr b152, si 2, si (own_at r_148 (own_hs r_144)), si r_148, si 1, .unset]) rfl (XS.iload X183.here hx rfl (hb hby at_99) rfl (XS.bipush X183.here hx rfl (hb hby at_101) (XS.ishr X183.here hx rfl (hb hby at_103) rfl (XS.sipush X183.here hx rfl (hb hby at_104) k)))))))) ?_
   by_cases hc189 : (r_148 >>> ((7 : Int32) &&& 31)) = (441 : Int32)
   ·
    refine go (S' := T183.setTop (mkF m 112 #[si p1, si p2, si p3, si p4, si p5, sr b138, sr b152, si 2, si (own_at r_148 (own_hs r_144)), si r_148, si 1, .unset] [(.int 1)])) (fun t k => XS.icmpNo X183.here hx rfl (hb hby at_107) rfl (teq hc189).2 (XS.iload X183.here hx rfl (hb hby at_110) rfl k)) ?_
    have hc190 : ¬ ((1 : Int32) = (0 : Int32)) := by decide
    refine go (S' := T183.setTop (mkF m 133 #[si p1, si p2, si p3, si p4, si p5, sr b138, sr b152, si 2, si (own_at r_148 (own_hs r_144)), si r_148, si 1, si (-1 : Int32)] [(.int (-1 : Int32)), (.int (own_at r_148 (own_hs r_144)))])) (fun t k => XS.ifYes X183.here hx rfl (pc0 := 112) (pc' := 126) rfl (hb hby at_112) rfl ((if0 _ _).trans (feq hc190).2) (by decide) (by decide) (XS.iconst X183.here hx rfl (hb hby at_126) (XS.istore X183.here hx rfl (hb hby at_127) rfl (l' := #[si p1, si p2, si p3, si p4, si p5, sr b138, sr b152, si 2, si (own_at r_148 (own_hs r_144)), si r_148, si 1, si (-1 : Int32)]) rfl (XS.iload X183.here hx rfl (hb hby at_129) rfl (XS.iload X183.here hx rfl (hb hby at_131) rfl k))))) ?_
    have hc191 : (own_at r_148 (own_hs r_144)) = (-1 : Int32) := by rw [own_at_eq q148_0 _ (own_hs01 _), if_pos hc189, own_hs_sh q144_0, if_pos hc188, if_neg (by decide)]
    refine go (S' := T183.setTop (mkF m 141 #[si p1, si p2, si p3, si p4, si p5, sr b138, sr b152, si 2, si (own_at r_148 (own_hs r_144)), si r_148, si 1, si (-1 : Int32)] [(.int 1)])) (fun t k => XS.icmpNo X183.here hx rfl (hb hby at_133) rfl (teq hc191).2 (XS.iconst X183.here hx rfl (hb hby at_136) (XS.goto X183.here hx rfl (pc0 := 137) (pc' := 141) rfl (hb hby at_137) (by decide) (by decide) k))) ?_
    refine finN X183 hx hk (t := .boolean) hret (by simp) (hb hby at_141) (by decide) (by decide) ?_
    rw [e183]
    exact ⟨rfl, N183, K157⟩
   ·
    refine go (S' := T183.setTop (mkF m 133 #[si p1, si p2, si p3, si p4, si p5, sr b138, sr b152, si 2, si (own_at r_148 (own_hs r_144)), si r_148, si 1, si (-1 : Int32)] [(.int (-1 : Int32)), (.int (own_at r_148 (own_hs r_144)))])) (fun t k => XS.icmpYes X183.here hx rfl (pc0 := 107) (pc' := 126) rfl (hb hby at_107) rfl (feq hc189).2 (by decide) (by decide) (XS.iconst X183.here hx rfl (hb hby at_126) (XS.istore X183.here hx rfl (hb hby at_127) rfl (l' := #[si p1, si p2, si p3, si p4, si p5, sr b138, sr b152, si 2, si (own_at r_148 (own_hs r_144)), si r_148, si 1, si (-1 : Int32)]) rfl (XS.iload X183.here hx rfl (hb hby at_129) rfl (XS.iload X183.here hx rfl (hb hby at_131) rfl k))))) ?_
    have hc192 : (own_at r_148 (own_hs r_144)) = (-1 : Int32) := by rw [own_at_eq q148_0 _ (own_hs01 _), if_neg hc189]
    refine go (S' := T183.setTop (mkF m 141 #[si p1, si p2, si p3, si p4, si p5, sr b138, sr b152, si 2, si (own_at r_148 (own_hs r_144)), si r_148, si 1, si (-1 : Int32)] [(.int 1)])) (fun t k => XS.icmpNo X183.here hx rfl (hb hby at_133) rfl (teq hc192).2 (XS.iconst X183.here hx rfl (hb hby at_136) (XS.goto X183.here hx rfl (pc0 := 137) (pc' := 141) rfl (hb hby at_137) (by decide) (by decide) k))) ?_
    refine finN X183 hx hk (t := .boolean) hret (by simp) (hb hby at_141) (by decide) (by decide) ?_
    rw [e183]
    exact ⟨rfl, N183, K157⟩
  ·
   refine go (S' := T183.setTop (mkF m 107 #[si p1, si p2, si p3, si p4, si p5, sr b138, sr b152, si 2, si (own_at r_148 (own_hs r_144)), si r_148, si 0, .unset] [(.int 441), (.int (r_148 >>> ((7 : Int32) &&& 31)))])) (fun t k => XS.icmpYes X183.here hx rfl (pc0 := 89) (pc' := 96) rfl (hb hby at_89) rfl (feq hc188).2 (by decide) (by decide) (XS.iconst X183.here hx rfl (hb hby at_96) (XS.istore X183.here hx rfl (hb hby at_97) rfl (l' := #[si p1, si p2, si p3, si p4, si p5, sr b138, sr b152, si 2, si (own_at r_148 (own_hs r_144)), si r_148, si 0, .unset]) rfl (XS.iload X183.here hx rfl (hb hby at_99) rfl (XS.bipush X183.here hx rfl (hb hby at_101) (XS.ishr X183.here hx rfl (hb hby at_103) rfl (XS.sipush X183.here hx rfl (hb hby at_104) k))))))) ?_
   by_cases hc193 : (r_148 >>> ((7 : Int32) &&& 31)) = (441 : Int32)
   ·
    refine go (S' := T183.setTop (mkF m 112 #[si p1, si p2, si p3, si p4, si p5, sr b138, sr b152, si 2, si (own_at r_148 (own_hs r_144)), si r_148, si 0, .unset] [(.int 0)])) (fun t k => XS.icmpNo X183.here hx rfl (hb hby at_107) rfl (teq hc193).2 (XS.iload X183.here hx rfl (hb hby at_110) rfl k)) ?_
    have hc194 : (0 : Int32) = (0 : Int32) := by decide
    refine go (S' := T183.setTop (mkF m 133 #[si p1, si p2, si p3, si p4, si p5, sr b138, sr b152, si 2, si (own_at r_148 (own_hs r_144)), si r_148, si 0, si (r_148 &&& (255 : Int32))] [(.int (r_148 &&& (255 : Int32))), (.int (own_at r_148 (own_hs r_144)))])) (fun t k => XS.ifNo X183.here hx rfl (hb hby at_112) rfl ((if0 _ _).trans (teq hc194).2) (XS.iload X183.here hx rfl (hb hby at_115) rfl (XS.sipush X183.here hx rfl (hb hby at_117) (XS.iand X183.here hx rfl (hb hby at_120) rfl (XS.istore X183.here hx rfl (hb hby at_121) rfl (l' := #[si p1, si p2, si p3, si p4, si p5, sr b138, sr b152, si 2, si (own_at r_148 (own_hs r_144)), si r_148, si 0, si (r_148 &&& (255 : Int32))]) rfl (XS.goto X183.here hx rfl (pc0 := 123) (pc' := 129) rfl (hb hby at_123) (by decide) (by decide) (XS.iload X183.here hx rfl (hb hby at_129) rfl (XS.iload X183.here hx rfl (hb hby at_131) rfl k)))))))) ?_
    have hc195 : (own_at r_148 (own_hs r_144)) = (r_148 &&& (255 : Int32)) := by rw [own_at_eq q148_0 _ (own_hs01 _), if_pos hc193, own_hs_sh q144_0, if_neg hc188, if_pos (by decide)]
    refine go (S' := T183.setTop (mkF m 141 #[si p1, si p2, si p3, si p4, si p5, sr b138, sr b152, si 2, si (own_at r_148 (own_hs r_144)), si r_148, si 0, si (r_148 &&& (255 : Int32))] [(.int 1)])) (fun t k => XS.icmpNo X183.here hx rfl (hb hby at_133) rfl (teq hc195).2 (XS.iconst X183.here hx rfl (hb hby at_136) (XS.goto X183.here hx rfl (pc0 := 137) (pc' := 141) rfl (hb hby at_137) (by decide) (by decide) k))) ?_
    refine finN X183 hx hk (t := .boolean) hret (by simp) (hb hby at_141) (by decide) (by decide) ?_
    rw [e183]
    exact ⟨rfl, N183, K157⟩
   ·
    refine go (S' := T183.setTop (mkF m 133 #[si p1, si p2, si p3, si p4, si p5, sr b138, sr b152, si 2, si (own_at r_148 (own_hs r_144)), si r_148, si 0, si (-1 : Int32)] [(.int (-1 : Int32)), (.int (own_at r_148 (own_hs r_144)))])) (fun t k => XS.icmpYes X183.here hx rfl (pc0 := 107) (pc' := 126) rfl (hb hby at_107) rfl (feq hc193).2 (by decide) (by decide) (XS.iconst X183.here hx rfl (hb hby at_126) (XS.istore X183.here hx rfl (hb hby at_127) rfl (l' := #[si p1, si p2, si p3, si p4, si p5, sr b138, sr b152, si 2, si (own_at r_148 (own_hs r_144)), si r_148, si 0, si (-1 : Int32)]) rfl (XS.iload X183.here hx rfl (hb hby at_129) rfl (XS.iload X183.here hx rfl (hb hby at_131) rfl k))))) ?_
    have hc196 : (own_at r_148 (own_hs r_144)) = (-1 : Int32) := by rw [own_at_eq q148_0 _ (own_hs01 _), if_neg hc193]
    refine go (S' := T183.setTop (mkF m 141 #[si p1, si p2, si p3, si p4, si p5, sr b138, sr b152, si 2, si (own_at r_148 (own_hs r_144)), si r_148, si 0, si (-1 : Int32)] [(.int 1)])) (fun t k => XS.icmpNo X183.here hx rfl (hb hby at_133) rfl (teq hc196).2 (XS.iconst X183.here hx rfl (hb hby at_136) (XS.goto X183.here hx rfl (pc0 := 137) (pc' := 141) rfl (hb hby at_137) (by decide) (by decide) k))) ?_
    refine finN X183 hx hk (t := .boolean) hret (by simp) (hb hby at_141) (by decide) (by decide) ?_
    rw [e183]
    exact ⟨rfl, N183, K157⟩
set_option maxRecDepth 65536 in
set_option maxHeartbeats 40000000 in
theorem comes_1 {Post : Tables → Env → Array Value → State → Outcome → State → Prop} (hpost : ∀ tb e args s v u, (limb_1_1.after args s (.returned v) u = true ∧ limb_1_2.after args s (.returned v) u = true ∧ True) → FrameEnd s (.returned v) u (Jvm.fieldLocs frame_1_writes args s ++ Jvm.arrayLocs frame_1_arrays args s ++ Jvm.staticLocs frame_1_statics s) 16 128 → Post tb e args s (.returned v) u) :
    ArmFor flags0 classFile x code maxLocals ret World_1 tables_1 room_1 Calls_1 rest_1 Pre_1 Post := by
  intro l hfl _ _ p e ha hc hk s m args below hf hA hF happ hP
  obtain ⟨hcalls, hrest, hpre⟩ := hP
  obtain ⟨-, -, -, hnamed, -, -, -, hat⟩ := (Spec.applies_iff hf).mp happ
  obtain ⟨hg, hn⟩ := and_e (Cond.before_iff.mp (show (Jvm.Cond.and given_1 narrow_1).before args s = true from hpre))
  obtain ⟨hcount, hg0⟩ := and_e hg
  obtain ⟨ha0, hg1⟩ := and_e hg0
  obtain ⟨ha1, hg2⟩ := and_e hg1
  obtain ⟨ha2, hg3⟩ := and_e hg2
  obtain ⟨ha3, hg4⟩ := and_e hg3
  have ha4 := hg4
  obtain ⟨w0, w1, w2, w3, w4, rfl⟩ : ∃ w0 w1 w2 w3 w4 : Value, args = #[w0, w1, w2, w3, w4] := by
    have hs : args.size = 5 := by simpa [Cond.value, given_1] using hcount
    obtain ⟨L⟩ := args
    match L, hs with
    | [w0, w1, w2, w3, w4], _ => exact ⟨w0, w1, w2, w3, w4, rfl⟩
  have hw := fun d (hd : d ∈ tables_1) => atoms_spec (ws := Jvm.Cond.code x code maxLocals ret :: tables_1) hat d (List.mem_cons_of_mem _ hd)
  obtain ⟨hsets, hown0⟩ := atoms_of _ (rest_1_c_eq ▸ (show rest_1_c.before _ s = true from hrest))
  obtain ⟨i0, ei0⟩ := is_v ha0
  obtain rfl : w0 = (.int i0) := Option.some.inj ei0
  obtain ⟨i1, ei1⟩ := is_v ha1
  obtain rfl : w1 = (.int i1) := Option.some.inj ei1
  obtain ⟨i2, ei2⟩ := is_v ha2
  obtain rfl : w2 = (.int i2) := Option.some.inj ei2
  obtain ⟨i3, ei3⟩ := is_v ha3
  obtain rfl : w3 = (.int i3) := Option.some.inj ei3
  obtain ⟨i4, ei4⟩ := is_v ha4
  obtain rfl : w4 = (.int i4) := Option.some.inj ei4
  have hn_0 := hn
  obtain ⟨g197, eg197⟩ := is_v (Cond.before_iff.mp (hsets _ (List.mem_of_getElem? (i := 1) rfl)))
  have sg197 : Sta s s.heap "java/lang/String" "COMPACT_STRINGS" "Z" (.int g197) := Sta.start eg197 (Or.inl (hsets _ (List.mem_of_getElem? (i := 0) rfl)))
  obtain ⟨g198, eg198, rg198⟩ := isR_v (Cond.before_iff.mp (hsets _ (List.mem_of_getElem? (i := 8) rfl)))
  have sg198 : Sta s s.heap "jdk/internal/util/Preconditions" "SIOOBE_FORMATTER" "Ljava/util/function/BiFunction;" g198 := Sta.start eg198 (Or.inl (hsets _ (List.mem_of_getElem? (i := 7) rfl)))
  have eg199 := eqInt_v (Cond.before_iff.mp (hsets _ (List.mem_of_getElem? (i := 12) rfl)))
  have sg199 : Sta s s.heap "java/lang/StringUTF16" "$assertionsDisabled" "Z" (.int 1) := Sta.start eg199 (Or.inl (hsets _ (List.mem_of_getElem? (i := 11) rfl)))
  have eg200 := eqInt_v (Cond.before_iff.mp (hsets _ (List.mem_of_getElem? (i := 15) rfl)))
  have sg200 : Sta s s.heap "java/lang/StringUTF16" "HI_BYTE_SHIFT" "I" (.int 0) := Sta.start eg200 (Or.inl (hsets _ (List.mem_of_getElem? (i := 14) rfl)))
  have eg201 := eqInt_v (Cond.before_iff.mp (hsets _ (List.mem_of_getElem? (i := 18) rfl)))
  have sg201 : Sta s s.heap "java/lang/StringUTF16" "LO_BYTE_SHIFT" "I" (.int 8) := Sta.start eg201 (Or.inl (hsets _ (List.mem_of_getElem? (i := 17) rfl)))
  have c202 : ¬ (g197 = (0 : Int32)) := gotF (Cond.eq_ints eg197 (Term.int_eval (0))) (not_v (Cond.before_iff.mp (hsets _ (List.mem_of_getElem? (i := 2) rfl))))
  obtain ⟨n, o, h1, h2, h3, _, L, rfl, ⟨rfl, N, -⟩, hq⟩ := rmLaw l s _ hw tables_1 i0 i1 i2 i3 i4 g197 g198 s.heap s.heap.size (Nat.le_refl _) sg197 c202 sg198 rg198 sg199 sg200 sg201 (Old.start s) p e ha hc hk s m _ below hf ((Spec.applies_iff_loose hf).mp happ).1 ⟨rfl, State.Warmed39.refl s, rfl⟩ trivial
  refine ⟨n, _, h1, h2, h3, hpost _ _ _ _ _ _ ⟨Cond.after_iff.mpr rfl, Cond.after_iff.mpr (eq_i res_at (Term.int_eval (1)) rfl), trivial⟩ ⟨hq.1, hq.2.1, (hq.2.2.sift fun y hy => Or.inr (N y hy)).mono (by decide) (by decide)⟩⟩
theorem main_1_1 : Claimed_1_1 := comes_1 fun _ _ _ _ _ _ h hF => ⟨h.1, hF⟩
theorem main_1_2 : Claimed_1_2 := comes_1 fun _ _ _ _ _ _ h hF => ⟨h.2.1, hF⟩
end Jvm.Pilot.@@N@@
namespace Jvm.Pilot.@@N@@
open Jvm Jvm.ClassFile Sem Op Lib Jvm.Free Jvm.Stand Jvm.Pilot.@@N@@.Jvm.D
/-! MADE BY PROGRAM (witnessworld.py) out of the Statement's table words and the real class files: 21 classes; the members and pool entries that the words name. The judged class is class 1, her method 2. -/
namespace start1
open Jvm.ClassFile
def u (s : String) : CpInfo := .utf8 (stringToUtf16 s)
/-- a pool by its gaps: so many unusable entries, then the entry; so many at the end -/
def gap : Nat → List CpInfo → List CpInfo
  | 0, r => r
  | n + 1, r => .unusable :: gap n r
def poolList (es : List (Nat × CpInfo)) (last : Nat) : List CpInfo := es.foldr (fun e r => gap e.1 (e.2 :: r)) (gap last [])
def pool (es : List (Nat × CpInfo)) (last : Nat) : Array CpInfo := ⟨poolList es last⟩
def fileOf (pool : Array CpInfo) (this : Nat) (attrs : Array Attribute := #[]) (ms : Array MethodInfo := #[]) (fl : Nat := 33) (sup : Nat := 0) (ifs : Array Nat := #[]) (fds : Array FieldInfo := #[]) : ClassFile where
  minorVersion := 0
  majorVersion := 65
  constantPool := pool
  accessFlags := fl
  thisClass := this
  superClass := sup
  interfaces := ifs
  fields := fds
  methods := ms
  attributes := attrs
def plain (name : String) (sup : Option ClassId) : Class where
  name := name
  kind := .ordinary
  loader := none
  accessFlags := 33
  super := sup
  interfaces := #[]
  cf := none
  fields := #[]
  methods := #[]
  instanceTypes := #[]
  staticTypes := #[]
  resolved := #[]
  callSites := []
  init := .initialized
  statics := none
  mirror := none

def pool0 : Array CpInfo := pool [(5, u "<init>"), (0, u "()V"), (1, .class_ 10), (1, u "java/lang/Object")] 113

def k0c0 : Code := { maxStack := 0, maxLocals := 1, code := object_method_1_code, exceptionTable := #[], attributes := #[] }
def k0m0 : Method := { name := "<init>", desc := "()V", sig := { parameters := [], returnType := none }, accessFlags := 1, code := some k0c0 }
/-- java/lang/Object -/
def k0 : Class := { plain "java/lang/Object" none with
  accessFlags := 33
  interfaces := #[]
  cf := some (fileOf pool0 8 #[] #[{ accessFlags := 1, nameIndex := 5, descriptorIndex := 6, attributes := #[] }] 33 0 #[] #[])
  fields := #[]
  methods := #[k0m0]
  instanceTypes := #[]
  staticTypes := #[]
  resolved := Array.replicate 124 none
  statics := none }

def pool1 : Array CpInfo := pool [(2, .class_ 4), (1, u "java/lang/Object"), (0, u "<init>"), (0, u "()V"), (0, .integer 65535), (0, .integer 56320), (0, .integer 55040), (0, .integer 56448), (0, .methodref 12 13), (0, .class_ 14), (0, .nameAndType 15 16), (0, u "com/example/kuvert/kuvert/mime/KeptOctetsAtPinLaw"), (0, u "draw"), (0, u "(II)C"), (0, .class_ 18), (0, u "java/lang/String"), (0, .methodref 17 20), (0, .nameAndType 5 21), (0, u "([C)V"), (0, .integer 2147483647), (0, .methodref 24 25), (0, .class_ 26), (0, .nameAndType 27 28), (0, u "com/example/kuvert/kuvert/mime/KeptOctets"), (0, u "at"), (0, u "(Ljava/lang/String;I)I"), (3, u "law"), (0, u "(IIIII)Z")] 4

def k1m0 : Method := { name := "<init>", desc := "()V", sig := { parameters := [], returnType := none }, accessFlags := 2, code := none }
def k1c1 : Code := { maxStack := 3, maxLocals := 3, code := method_2_code, exceptionTable := #[], attributes := #[] }
def k1m1 : Method := { name := "draw", desc := "(II)C", sig := { parameters := [.int, .int], returnType := some .char }, accessFlags := 10, code := some k1c1 }
def k1c2 : Code := { maxStack := 5, maxLocals := 12, code := code, exceptionTable := #[], attributes := #[] }
def k1m2 : Method := { name := "law", desc := "(IIIII)Z", sig := { parameters := [.int, .int, .int, .int, .int], returnType := some .boolean }, accessFlags := 9, code := some k1c2 }
/-- com/example/kuvert/kuvert/mime/KeptOctetsAtPinLaw -/
def k1 : Class := { plain "com/example/kuvert/kuvert/mime/KeptOctetsAtPinLaw" (some 0) with
  accessFlags := 49
  interfaces := #[]
  cf := some (fileOf pool1 12 #[] #[{ accessFlags := 2, nameIndex := 5, descriptorIndex := 6, attributes := #[] }, { accessFlags := 10, nameIndex := 15, descriptorIndex := 16, attributes := #[] }, { accessFlags := 9, nameIndex := 32, descriptorIndex := 33, attributes := #[] }] 49 2 #[] #[])
  fields := #[]
  methods := #[k1m0, k1m1, k1m2]
  instanceTypes := #[]
  staticTypes := #[]
  resolved := Array.replicate 38 none
  statics := none }

def pool2 : Array CpInfo := pool [(1, .class_ 2), (0, u "java/io/Serializable"), (0, .class_ 4), (0, u "java/lang/Object")] 2

/-- java/io/Serializable -/
def k2 : Class := { plain "java/io/Serializable" (some 0) with
  accessFlags := 1537
  interfaces := #[]
  cf := some (fileOf pool2 1 #[] #[] 1537 3 #[] #[])
  fields := #[]
  methods := #[]
  instanceTypes := #[]
  staticTypes := #[]
  resolved := Array.replicate 7 none
  statics := none }

def pool3 : Array CpInfo := pool [(1, .class_ 2), (0, u "java/lang/Comparable"), (0, .class_ 4), (0, u "java/lang/Object")] 7

/-- java/lang/Comparable -/
def k3 : Class := { plain "java/lang/Comparable" (some 0) with
  accessFlags := 1537
  interfaces := #[]
  cf := some (fileOf pool3 1 #[] #[] 1537 3 #[] #[])
  fields := #[]
  methods := #[]
  instanceTypes := #[]
  staticTypes := #[]
  resolved := Array.replicate 12 none
  statics := none }

def pool4 : Array CpInfo := pool [(2, .class_ 4), (1, u "java/lang/CharSequence"), (42, .class_ 48), (0, u "java/lang/CharSequence$1CodePointIterator"), (10, .class_ 60), (0, u "java/lang/CharSequence$1CharIterator"), (5, .class_ 67), (0, u "java/lang/Object")] 63

/-- java/lang/CharSequence -/
def k4 : Class := { plain "java/lang/CharSequence" (some 0) with
  accessFlags := 1537
  interfaces := #[]
  cf := some (fileOf pool4 2 #[.nestMembers #[47, 59]] #[] 1537 66 #[] #[])
  fields := #[]
  methods := #[]
  instanceTypes := #[]
  staticTypes := #[]
  resolved := Array.replicate 131 none
  statics := none }

def pool5 : Array CpInfo := pool [(1, .class_ 2), (0, u "java/lang/constant/Constable"), (0, .class_ 4), (0, u "java/lang/Object")] 6

/-- java/lang/constant/Constable -/
def k5 : Class := { plain "java/lang/constant/Constable" (some 0) with
  accessFlags := 1537
  interfaces := #[]
  cf := some (fileOf pool5 1 #[] #[] 1537 3 #[] #[])
  fields := #[]
  methods := #[]
  instanceTypes := #[]
  staticTypes := #[]
  resolved := Array.replicate 11 none
  statics := none }

def pool6 : Array CpInfo := pool [(1, .class_ 2), (0, u "java/lang/constant/ConstantDesc"), (0, .class_ 4), (0, u "java/lang/Object")] 32

/-- java/lang/constant/ConstantDesc -/
def k6 : Class := { plain "java/lang/constant/ConstantDesc" (some 0) with
  accessFlags := 1537
  interfaces := #[]
  cf := some (fileOf pool6 1 #[] #[] 1537 3 #[] #[])
  fields := #[]
  methods := #[]
  instanceTypes := #[]
  staticTypes := #[]
  resolved := Array.replicate 37 none
  statics := none }

def pool7 : Array CpInfo := pool [(1, .methodref 2 3), (0, .class_ 4), (0, .nameAndType 5 6), (0, u "java/lang/Object"), (0, u "<init>"), (0, u "()V"), (2, .fieldref 10 11), (0, .class_ 12), (0, .nameAndType 13 14), (0, u "java/lang/String"), (0, u "value"), (0, u "[B"), (0, .fieldref 10 16), (0, .nameAndType 17 18), (0, u "coder"), (0, u "B"), (2, u "hash"), (0, u "I"), (2, u "hashIsZero"), (0, u "Z"), (0, .methodref 10 28), (0, .nameAndType 5 29), (0, u "([CIILjava/lang/Void;)V"), (8, .fieldref 10 39), (0, .nameAndType 40 26), (0, u "COMPACT_STRINGS"), (1, .class_ 44), (1, u "java/lang/StringUTF16"), (0, u "compress"), (1, .methodref 42 48), (0, .nameAndType 49 50), (0, u "coderFromArrayLen"), (0, u "([BI)B"), (56, .class_ 109), (1, u "java/lang/StringLatin1"), (32, u "()Z"), (34, .methodref 42 178), (0, .nameAndType 45 179), (0, u "([CII)[B"), (183, u "([BI)C"), (27, u "(II)V"), (35, u "(I)C"), (64, .methodref 10 493), (0, .nameAndType 494 142), (0, u "isLatin1"), (0, .methodref 107 496), (0, .nameAndType 497 363), (0, u "charAt"), (0, .methodref 42 496), (2, u "checkIndex"), (73, .class_ 576), (0, u "java/lang/CharSequence"), (22, u "CASE_INSENSITIVE_ORDER"), (0, u "Ljava/util/Comparator;"), (409, u "([C)V"), (42, .fieldref 1054 1055), (0, .class_ 1056), (0, .nameAndType 1057 1058), (0, u "jdk/internal/util/Preconditions"), (0, u "SIOOBE_FORMATTER"), (0, u "Ljava/util/function/BiFunction;"), (0, .methodref 1054 1060), (0, .nameAndType 501 1061), (0, u "(IILjava/util/function/BiFunction;)I"), (39, u "serialPersistentFields"), (0, u "[Ljava/io/ObjectStreamField;"), (0, .class_ 1104), (0, u "java/lang/String$CaseInsensitiveComparator"), (1, .class_ 1107), (0, u "java/io/Serializable"), (0, .class_ 1109), (0, u "java/lang/Comparable"), (0, .class_ 1111), (0, u "java/lang/constant/Constable"), (0, .class_ 1113), (0, u "java/lang/constant/ConstantDesc"), (2, u "serialVersionUID"), (0, u "J"), (3, u "REPL"), (0, u "C"), (2, u "LATIN1"), (1, u "UTF16")] 323

def k7m0 : Method := { name := "<init>", desc := "()V", sig := { parameters := [], returnType := none }, accessFlags := 1, code := none }
def k7c1 : Code := { maxStack := 5, maxLocals := 2, code := jdk_42_method_3_code, exceptionTable := #[], attributes := #[] }
def k7m1 : Method := { name := "<init>", desc := "([C)V", sig := { parameters := [(.array .char)], returnType := none }, accessFlags := 1, code := some k7c1 }
def k7c2 : Code := { maxStack := 2, maxLocals := 2, code := jdk_42_method_56_code, exceptionTable := #[], attributes := #[] }
def k7m2 : Method := { name := "charAt", desc := "(I)C", sig := { parameters := [.int], returnType := some .char }, accessFlags := 1, code := some k7c2 }
def k7c3 : Code := { maxStack := 4, maxLocals := 6, code := jdk_42_method_149_code, exceptionTable := #[], attributes := #[] }
def k7m3 : Method := { name := "<init>", desc := "([CIILjava/lang/Void;)V", sig := { parameters := [(.array .char), .int, .int, (.object "java/lang/Void")], returnType := none }, accessFlags := 2, code := some k7c3 }
def k7c4 : Code := { maxStack := 1, maxLocals := 1, code := jdk_42_method_154_code, exceptionTable := #[], attributes := #[] }
def k7m4 : Method := { name := "isLatin1", desc := "()Z", sig := { parameters := [], returnType := some .boolean }, accessFlags := 0, code := some k7c4 }
def k7c5 : Code := { maxStack := 3, maxLocals := 2, code := jdk_42_method_155_code, exceptionTable := #[], attributes := #[] }
def k7m5 : Method := { name := "checkIndex", desc := "(II)V", sig := { parameters := [.int, .int], returnType := none }, accessFlags := 8, code := some k7c5 }
/-- java/lang/String -/
def k7 : Class := { plain "java/lang/String" (some 0) with
  accessFlags := 49
  interfaces := #[2, 3, 4, 5, 6]
  cf := some (fileOf pool7 10 #[.nestMembers #[1103]] #[{ accessFlags := 1, nameIndex := 5, descriptorIndex := 6, attributes := #[] }, { accessFlags := 1, nameIndex := 5, descriptorIndex := 1010, attributes := #[] }, { accessFlags := 1, nameIndex := 497, descriptorIndex := 427, attributes := #[] }, { accessFlags := 2, nameIndex := 5, descriptorIndex := 29, attributes := #[] }, { accessFlags := 0, nameIndex := 494, descriptorIndex := 142, attributes := #[] }, { accessFlags := 8, nameIndex := 501, descriptorIndex := 391, attributes := #[] }] 49 2 #[1106, 1108, 575, 1110, 1112] #[{ accessFlags := 18, nameIndex := 13, descriptorIndex := 14, attributes := #[] }, { accessFlags := 18, nameIndex := 17, descriptorIndex := 18, attributes := #[] }, { accessFlags := 2, nameIndex := 21, descriptorIndex := 22, attributes := #[] }, { accessFlags := 2, nameIndex := 25, descriptorIndex := 26, attributes := #[] }, { accessFlags := 26, nameIndex := 1116, descriptorIndex := 1117, attributes := #[] }, { accessFlags := 24, nameIndex := 40, descriptorIndex := 26, attributes := #[] }, { accessFlags := 26, nameIndex := 1101, descriptorIndex := 1102, attributes := #[] }, { accessFlags := 26, nameIndex := 1121, descriptorIndex := 1122, attributes := #[] }, { accessFlags := 25, nameIndex := 599, descriptorIndex := 600, attributes := #[] }, { accessFlags := 24, nameIndex := 1125, descriptorIndex := 18, attributes := #[] }, { accessFlags := 24, nameIndex := 1127, descriptorIndex := 18, attributes := #[] }])
  fields := #[{ name := "value", type := (.array .byte), accessFlags := 18, slot := 0, constantValue := 0 }, { name := "coder", type := .byte, accessFlags := 18, slot := 1, constantValue := 0 }, { name := "hash", type := .int, accessFlags := 2, slot := 2, constantValue := 0 }, { name := "hashIsZero", type := .boolean, accessFlags := 2, slot := 3, constantValue := 0 }, { name := "serialVersionUID", type := .long, accessFlags := 26, slot := 0, constantValue := 0 }, { name := "COMPACT_STRINGS", type := .boolean, accessFlags := 24, slot := 1, constantValue := 0 }, { name := "serialPersistentFields", type := (.array (.object "java/io/ObjectStreamField")), accessFlags := 26, slot := 2, constantValue := 0 }, { name := "REPL", type := .char, accessFlags := 26, slot := 3, constantValue := 0 }, { name := "CASE_INSENSITIVE_ORDER", type := (.object "java/util/Comparator"), accessFlags := 25, slot := 4, constantValue := 0 }, { name := "LATIN1", type := .byte, accessFlags := 24, slot := 5, constantValue := 0 }, { name := "UTF16", type := .byte, accessFlags := 24, slot := 6, constantValue := 0 }]
  methods := #[k7m0, k7m1, k7m2, k7m3, k7m4, k7m5]
  instanceTypes := #[(.array .byte), .byte, .int, .boolean]
  staticTypes := #[.long, .boolean, (.array (.object "java/io/ObjectStreamField")), .char, (.object "java/util/Comparator"), .byte, .byte]
  resolved := Array.replicate 1451 none
  statics := some 0 }

def pool8 : Array CpInfo := pool [(3, .class_ 4), (0, u "java/lang/String"), (1, .class_ 8), (1, u "java/lang/Object"), (0, u "<init>"), (0, u "()V"), (0, .methodref 12 13), (0, .class_ 14), (0, .nameAndType 15 16), (0, u "java/lang/StringUTF16"), (0, u "newBytesLength"), (0, u "(I)I"), (3, .integer 1073741823), (23, .fieldref 12 45), (0, .nameAndType 46 47), (0, u "$assertionsDisabled"), (0, u "Z"), (0, .methodref 12 49), (0, .nameAndType 50 51), (0, u "length"), (0, u "([B)I"), (7, .fieldref 12 60), (0, .nameAndType 61 62), (0, u "HI_BYTE_SHIFT"), (0, u "I"), (0, .fieldref 12 64), (0, .nameAndType 65 62), (0, u "LO_BYTE_SHIFT"), (1, .methodref 12 68), (0, .nameAndType 69 70), (0, u "checkIndex"), (0, u "(I[B)V"), (0, .methodref 12 72), (0, .nameAndType 73 74), (0, u "getChar"), (0, u "([BI)C"), (32, .methodref 12 108), (0, .nameAndType 109 110), (0, u "newBytesFor"), (0, u "(I)[B"), (0, .methodref 12 112), (0, .nameAndType 113 114), (0, u "putChar"), (0, u "([BII)V"), (0, .methodref 12 116), (0, .nameAndType 117 118), (0, u "compress"), (0, u "([CI[BII)I"), (0, .methodref 12 120), (0, .nameAndType 121 122), (0, u "toBytes"), (0, u "([CII)[B"), (138, u "coderFromArrayLen"), (0, u "([BI)B"), (106, .class_ 371), (1, u "java/lang/StringUTF16$LinesSpliterator"), (20, u "charAt"), (21, .methodref 3 415), (0, .nameAndType 69 416), (0, u "(II)V"), (13, u "MAX_LENGTH"), (196, .class_ 628), (0, u "java/lang/StringUTF16$CodePointsSpliterator"), (0, .class_ 630), (0, u "java/lang/StringUTF16$CharsSpliterator")] 4

def k8m0 : Method := { name := "<init>", desc := "()V", sig := { parameters := [], returnType := none }, accessFlags := 0, code := none }
def k8c1 : Code := { maxStack := 1, maxLocals := 1, code := jdk_52_method_2_code, exceptionTable := #[], attributes := #[] }
def k8m1 : Method := { name := "newBytesFor", desc := "(I)[B", sig := { parameters := [.int], returnType := some (.array .byte) }, accessFlags := 9, code := some k8c1 }
def k8c2 : Code := { maxStack := 4, maxLocals := 1, code := jdk_52_method_3_code, exceptionTable := #[], attributes := #[] }
def k8m2 : Method := { name := "newBytesLength", desc := "(I)I", sig := { parameters := [.int], returnType := some .int }, accessFlags := 9, code := some k8c2 }
def k8c3 : Code := { maxStack := 4, maxLocals := 3, code := jdk_52_method_4_code, exceptionTable := #[], attributes := #[] }
def k8m3 : Method := { name := "putChar", desc := "([BII)V", sig := { parameters := [(.array .byte), .int, .int], returnType := none }, accessFlags := 8, code := some k8c3 }
def k8c4 : Code := { maxStack := 3, maxLocals := 2, code := jdk_52_method_5_code, exceptionTable := #[], attributes := #[] }
def k8m4 : Method := { name := "getChar", desc := "([BI)C", sig := { parameters := [(.array .byte), .int], returnType := some .char }, accessFlags := 8, code := some k8c4 }
def k8c5 : Code := { maxStack := 2, maxLocals := 1, code := jdk_52_method_6_code, exceptionTable := #[], attributes := #[] }
def k8m5 : Method := { name := "length", desc := "([B)I", sig := { parameters := [(.array .byte)], returnType := some .int }, accessFlags := 9, code := some k8c5 }
def k8c6 : Code := { maxStack := 4, maxLocals := 5, code := jdk_52_method_14_code, exceptionTable := #[], attributes := #[] }
def k8m6 : Method := { name := "toBytes", desc := "([CII)[B", sig := { parameters := [(.array .char), .int, .int], returnType := some (.array .byte) }, accessFlags := 9, code := some k8c6 }
def k8c7 : Code := { maxStack := 2, maxLocals := 2, code := jdk_52_method_15_code, exceptionTable := #[], attributes := #[] }
def k8m7 : Method := { name := "coderFromArrayLen", desc := "([BI)B", sig := { parameters := [(.array .byte), .int], returnType := some .byte }, accessFlags := 8, code := some k8c7 }
def k8c8 : Code := { maxStack := 5, maxLocals := 6, code := jdk_52_method_16_code, exceptionTable := #[], attributes := #[] }
def k8m8 : Method := { name := "compress", desc := "([CII)[B", sig := { parameters := [(.array .char), .int, .int], returnType := some (.array .byte) }, accessFlags := 9, code := some k8c8 }
def k8c9 : Code := { maxStack := 3, maxLocals := 7, code := jdk_52_method_21_code, exceptionTable := #[], attributes := #[] }
def k8m9 : Method := { name := "compress", desc := "([CI[BII)I", sig := { parameters := [(.array .char), .int, (.array .byte), .int, .int], returnType := some .int }, accessFlags := 9, code := some k8c9 }
def k8c10 : Code := { maxStack := 2, maxLocals := 2, code := jdk_52_method_83_code, exceptionTable := #[], attributes := #[] }
def k8m10 : Method := { name := "charAt", desc := "([BI)C", sig := { parameters := [(.array .byte), .int], returnType := some .char }, accessFlags := 9, code := some k8c10 }
def k8c11 : Code := { maxStack := 2, maxLocals := 2, code := jdk_52_method_91_code, exceptionTable := #[], attributes := #[] }
def k8m11 : Method := { name := "checkIndex", desc := "(I[B)V", sig := { parameters := [.int, (.array .byte)], returnType := none }, accessFlags := 9, code := some k8c11 }
/-- java/lang/StringUTF16 -/
def k8 : Class := { plain "java/lang/StringUTF16" (some 0) with
  accessFlags := 48
  interfaces := #[]
  cf := some (fileOf pool8 12 #[.nestMembers #[627, 629, 369]] #[{ accessFlags := 0, nameIndex := 9, descriptorIndex := 10, attributes := #[] }, { accessFlags := 9, nameIndex := 109, descriptorIndex := 110, attributes := #[] }, { accessFlags := 9, nameIndex := 15, descriptorIndex := 16, attributes := #[] }, { accessFlags := 8, nameIndex := 113, descriptorIndex := 114, attributes := #[] }, { accessFlags := 8, nameIndex := 73, descriptorIndex := 74, attributes := #[] }, { accessFlags := 9, nameIndex := 50, descriptorIndex := 51, attributes := #[] }, { accessFlags := 9, nameIndex := 121, descriptorIndex := 122, attributes := #[] }, { accessFlags := 8, nameIndex := 261, descriptorIndex := 262, attributes := #[] }, { accessFlags := 9, nameIndex := 117, descriptorIndex := 122, attributes := #[] }, { accessFlags := 9, nameIndex := 117, descriptorIndex := 118, attributes := #[] }, { accessFlags := 9, nameIndex := 392, descriptorIndex := 74, attributes := #[] }, { accessFlags := 9, nameIndex := 69, descriptorIndex := 70, attributes := #[] }] 48 6 #[] #[{ accessFlags := 26, nameIndex := 61, descriptorIndex := 62, attributes := #[] }, { accessFlags := 26, nameIndex := 65, descriptorIndex := 62, attributes := #[] }, { accessFlags := 24, nameIndex := 430, descriptorIndex := 62, attributes := #[] }, { accessFlags := 4120, nameIndex := 46, descriptorIndex := 47, attributes := #[] }])
  fields := #[{ name := "HI_BYTE_SHIFT", type := .int, accessFlags := 26, slot := 0, constantValue := 0 }, { name := "LO_BYTE_SHIFT", type := .int, accessFlags := 26, slot := 1, constantValue := 0 }, { name := "MAX_LENGTH", type := .int, accessFlags := 24, slot := 2, constantValue := 0 }, { name := "$assertionsDisabled", type := .boolean, accessFlags := 4120, slot := 3, constantValue := 0 }]
  methods := #[k8m0, k8m1, k8m2, k8m3, k8m4, k8m5, k8m6, k8m7, k8m8, k8m9, k8m10, k8m11]
  instanceTypes := #[]
  staticTypes := #[.int, .int, .int, .boolean]
  resolved := Array.replicate 635 none
  statics := some 1 }

def pool9 : Array CpInfo := pool [(2, .class_ 4), (1, u "java/lang/Object"), (0, u "<init>"), (0, u "()V"), (0, .integer 56320), (6, .methodref 15 16), (0, .class_ 17), (0, .nameAndType 18 19), (0, u "java/lang/String"), (0, u "charAt"), (0, u "(I)C"), (0, .methodref 21 22), (0, .class_ 23), (0, .nameAndType 24 25), (0, u "java/lang/Character"), (0, u "isHighSurrogate"), (0, u "(C)Z"), (0, .integer 56448), (0, .integer 56575), (24, .class_ 54), (1, u "com/example/kuvert/kuvert/mime/KeptOctets"), (0, u "at"), (0, u "(Ljava/lang/String;I)I")] 48

def k9m0 : Method := { name := "<init>", desc := "()V", sig := { parameters := [], returnType := none }, accessFlags := 2, code := none }
def k9c1 : Code := { maxStack := 3, maxLocals := 4, code := prog_28_method_3_code, exceptionTable := #[], attributes := #[] }
def k9m1 : Method := { name := "at", desc := "(Ljava/lang/String;I)I", sig := { parameters := [(.object "java/lang/String"), .int], returnType := some .int }, accessFlags := 9, code := some k9c1 }
/-- com/example/kuvert/kuvert/mime/KeptOctets -/
def k9 : Class := { plain "com/example/kuvert/kuvert/mime/KeptOctets" (some 0) with
  accessFlags := 49
  interfaces := #[]
  cf := some (fileOf pool9 52 #[] #[{ accessFlags := 2, nameIndex := 5, descriptorIndex := 6, attributes := #[] }, { accessFlags := 9, nameIndex := 55, descriptorIndex := 56, attributes := #[] }] 49 2 #[] #[])
  fields := #[]
  methods := #[k9m0, k9m1]
  instanceTypes := #[]
  staticTypes := #[]
  resolved := Array.replicate 105 none
  statics := none }

def pool10 : Array CpInfo := pool [(2, .class_ 4), (1, u "java/lang/Object"), (0, u "<init>"), (0, u "()V"), (17, .class_ 26), (1, u "jdk/internal/util/Preconditions"), (6, u "checkIndex"), (21, .class_ 56), (0, u "jdk/internal/util/Preconditions$4"), (57, .class_ 115), (0, u "jdk/internal/util/Preconditions$1"), (7, u "SIOOBE_FORMATTER"), (0, u "Ljava/util/function/BiFunction;"), (0, .class_ 126), (0, u "jdk/internal/util/Preconditions$2"), (3, u "AIOOBE_FORMATTER"), (0, .class_ 132), (0, u "jdk/internal/util/Preconditions$3"), (3, u "IOOBE_FORMATTER"), (41, u "(IILjava/util/function/BiFunction;)I")] 15

def k10m0 : Method := { name := "<init>", desc := "()V", sig := { parameters := [], returnType := none }, accessFlags := 1, code := none }
def k10c1 : Code := { maxStack := 3, maxLocals := 3, code := jdk_41_method_11_code, exceptionTable := #[], attributes := #[] }
def k10m1 : Method := { name := "checkIndex", desc := "(IILjava/util/function/BiFunction;)I", sig := { parameters := [.int, .int, (.object "java/util/function/BiFunction")], returnType := some .int }, accessFlags := 9, code := some k10c1 }
/-- jdk/internal/util/Preconditions -/
def k10 : Class := { plain "jdk/internal/util/Preconditions" (some 0) with
  accessFlags := 33
  interfaces := #[]
  cf := some (fileOf pool10 24 #[.nestMembers #[55, 131, 125, 114]] #[{ accessFlags := 1, nameIndex := 5, descriptorIndex := 6, attributes := #[] }, { accessFlags := 9, nameIndex := 33, descriptorIndex := 178, attributes := #[] }] 33 2 #[] #[{ accessFlags := 25, nameIndex := 123, descriptorIndex := 124, attributes := #[] }, { accessFlags := 25, nameIndex := 130, descriptorIndex := 124, attributes := #[] }, { accessFlags := 25, nameIndex := 136, descriptorIndex := 124, attributes := #[] }])
  fields := #[{ name := "SIOOBE_FORMATTER", type := (.object "java/util/function/BiFunction"), accessFlags := 25, slot := 0, constantValue := 0 }, { name := "AIOOBE_FORMATTER", type := (.object "java/util/function/BiFunction"), accessFlags := 25, slot := 1, constantValue := 0 }, { name := "IOOBE_FORMATTER", type := (.object "java/util/function/BiFunction"), accessFlags := 25, slot := 2, constantValue := 0 }]
  methods := #[k10m0, k10m1]
  instanceTypes := #[]
  staticTypes := #[(.object "java/util/function/BiFunction"), (.object "java/util/function/BiFunction"), (.object "java/util/function/BiFunction")]
  resolved := Array.replicate 194 none
  statics := some 2 }

def pool11 : Array CpInfo := pool [(1, .class_ 2), (0, u "java/lang/Character"), (18, u "value"), (0, u "C"), (19, .class_ 44), (1, u "java/lang/Object"), (3, .class_ 50), (1, u "java/lang/Character$CharacterCache"), (24, .integer 55296), (0, .integer 56320), (3, u "isHighSurrogate"), (0, u "(C)Z"), (202, u "$assertionsDisabled"), (0, u "Z"), (21, .class_ 309), (1, u "java/lang/Character$UnicodeBlock"), (73, u "TYPE"), (0, u "Ljava/lang/Class;"), (0, .class_ 386), (0, u "java/io/Serializable"), (0, .class_ 388), (0, u "java/lang/Comparable"), (0, .class_ 390), (0, u "java/lang/constant/Constable"), (0, u "MIN_RADIX"), (0, u "I"), (2, u "MAX_RADIX"), (1, u "MIN_VALUE"), (1, u "MAX_VALUE"), (3, u "UNASSIGNED"), (0, u "B"), (0, u "UPPERCASE_LETTER"), (1, u "LOWERCASE_LETTER"), (0, u "TITLECASE_LETTER"), (1, u "MODIFIER_LETTER"), (1, u "OTHER_LETTER"), (1, u "NON_SPACING_MARK"), (1, u "ENCLOSING_MARK"), (1, u "COMBINING_SPACING_MARK"), (1, u "DECIMAL_DIGIT_NUMBER"), (1, u "LETTER_NUMBER"), (1, u "OTHER_NUMBER"), (1, u "SPACE_SEPARATOR"), (1, u "LINE_SEPARATOR"), (1, u "PARAGRAPH_SEPARATOR"), (1, u "CONTROL"), (1, u "FORMAT"), (1, u "PRIVATE_USE"), (1, u "SURROGATE"), (1, u "DASH_PUNCTUATION"), (1, u "START_PUNCTUATION"), (1, u "END_PUNCTUATION"), (1, u "CONNECTOR_PUNCTUATION"), (1, u "OTHER_PUNCTUATION"), (1, u "MATH_SYMBOL"), (1, u "CURRENCY_SYMBOL"), (1, u "MODIFIER_SYMBOL"), (1, u "OTHER_SYMBOL"), (1, u "INITIAL_QUOTE_PUNCTUATION"), (1, u "FINAL_QUOTE_PUNCTUATION"), (1, u "ERROR"), (1, u "DIRECTIONALITY_UNDEFINED"), (0, u "DIRECTIONALITY_LEFT_TO_RIGHT"), (0, u "DIRECTIONALITY_RIGHT_TO_LEFT"), (0, u "DIRECTIONALITY_RIGHT_TO_LEFT_ARABIC"), (0, u "DIRECTIONALITY_EUROPEAN_NUMBER"), (0, u "DIRECTIONALITY_EUROPEAN_NUMBER_SEPARATOR"), (0, u "DIRECTIONALITY_EUROPEAN_NUMBER_TERMINATOR"), (0, u "DIRECTIONALITY_ARABIC_NUMBER"), (0, u "DIRECTIONALITY_COMMON_NUMBER_SEPARATOR"), (0, u "DIRECTIONALITY_NONSPACING_MARK"), (0, u "DIRECTIONALITY_BOUNDARY_NEUTRAL"), (0, u "DIRECTIONALITY_PARAGRAPH_SEPARATOR"), (0, u "DIRECTIONALITY_SEGMENT_SEPARATOR"), (0, u "DIRECTIONALITY_WHITESPACE"), (0, u "DIRECTIONALITY_OTHER_NEUTRALS"), (0, u "DIRECTIONALITY_LEFT_TO_RIGHT_EMBEDDING"), (0, u "DIRECTIONALITY_LEFT_TO_RIGHT_OVERRIDE"), (0, u "DIRECTIONALITY_RIGHT_TO_LEFT_EMBEDDING"), (0, u "DIRECTIONALITY_RIGHT_TO_LEFT_OVERRIDE"), (1, u "DIRECTIONALITY_POP_DIRECTIONAL_FORMAT"), (0, u "DIRECTIONALITY_LEFT_TO_RIGHT_ISOLATE"), (0, u "DIRECTIONALITY_RIGHT_TO_LEFT_ISOLATE"), (0, u "DIRECTIONALITY_FIRST_STRONG_ISOLATE"), (0, u "DIRECTIONALITY_POP_DIRECTIONAL_ISOLATE"), (0, u "MIN_HIGH_SURROGATE"), (0, u "MAX_HIGH_SURROGATE"), (1, u "MIN_LOW_SURROGATE"), (0, u "MAX_LOW_SURROGATE"), (1, u "MIN_SURROGATE"), (0, u "MAX_SURROGATE"), (0, u "MIN_SUPPLEMENTARY_CODE_POINT"), (0, u "MIN_CODE_POINT"), (0, u "MAX_CODE_POINT"), (1, u "serialVersionUID"), (0, u "J"), (2, u "SIZE"), (0, u "BYTES"), (88, .class_ 596), (0, u "java/lang/Character$UnicodeScript"), (0, .class_ 598), (0, u "java/lang/Character$Subset")] 5

def k11c0 : Code := { maxStack := 2, maxLocals := 1, code := jdk_89_method_14_code, exceptionTable := #[], attributes := #[] }
def k11m0 : Method := { name := "isHighSurrogate", desc := "(C)Z", sig := { parameters := [.char], returnType := some .boolean }, accessFlags := 9, code := some k11c0 }
/-- java/lang/Character -/
def k11 : Class := { plain "java/lang/Character" (some 0) with
  accessFlags := 49
  interfaces := #[2, 3, 5]
  cf := some (fileOf pool11 1 #[.nestMembers #[48, 595, 307, 597]] #[{ accessFlags := 9, nameIndex := 80, descriptorIndex := 81, attributes := #[] }] 49 42 #[385, 387, 389] #[{ accessFlags := 25, nameIndex := 391, descriptorIndex := 392, attributes := #[] }, { accessFlags := 25, nameIndex := 395, descriptorIndex := 392, attributes := #[] }, { accessFlags := 25, nameIndex := 397, descriptorIndex := 22, attributes := #[] }, { accessFlags := 25, nameIndex := 399, descriptorIndex := 22, attributes := #[] }, { accessFlags := 25, nameIndex := 383, descriptorIndex := 384, attributes := #[] }, { accessFlags := 25, nameIndex := 403, descriptorIndex := 404, attributes := #[] }, { accessFlags := 25, nameIndex := 405, descriptorIndex := 404, attributes := #[] }, { accessFlags := 25, nameIndex := 407, descriptorIndex := 404, attributes := #[] }, { accessFlags := 25, nameIndex := 408, descriptorIndex := 404, attributes := #[] }, { accessFlags := 25, nameIndex := 410, descriptorIndex := 404, attributes := #[] }, { accessFlags := 25, nameIndex := 412, descriptorIndex := 404, attributes := #[] }, { accessFlags := 25, nameIndex := 414, descriptorIndex := 404, attributes := #[] }, { accessFlags := 25, nameIndex := 416, descriptorIndex := 404, attributes := #[] }, { accessFlags := 25, nameIndex := 418, descriptorIndex := 404, attributes := #[] }, { accessFlags := 25, nameIndex := 420, descriptorIndex := 404, attributes := #[] }, { accessFlags := 25, nameIndex := 422, descriptorIndex := 404, attributes := #[] }, { accessFlags := 25, nameIndex := 424, descriptorIndex := 404, attributes := #[] }, { accessFlags := 25, nameIndex := 426, descriptorIndex := 404, attributes := #[] }, { accessFlags := 25, nameIndex := 428, descriptorIndex := 404, attributes := #[] }, { accessFlags := 25, nameIndex := 430, descriptorIndex := 404, attributes := #[] }, { accessFlags := 25, nameIndex := 432, descriptorIndex := 404, attributes := #[] }, { accessFlags := 25, nameIndex := 434, descriptorIndex := 404, attributes := #[] }, { accessFlags := 25, nameIndex := 436, descriptorIndex := 404, attributes := #[] }, { accessFlags := 25, nameIndex := 438, descriptorIndex := 404, attributes := #[] }, { accessFlags := 25, nameIndex := 440, descriptorIndex := 404, attributes := #[] }, { accessFlags := 25, nameIndex := 442, descriptorIndex := 404, attributes := #[] }, { accessFlags := 25, nameIndex := 444, descriptorIndex := 404, attributes := #[] }, { accessFlags := 25, nameIndex := 446, descriptorIndex := 404, attributes := #[] }, { accessFlags := 25, nameIndex := 448, descriptorIndex := 404, attributes := #[] }, { accessFlags := 25, nameIndex := 450, descriptorIndex := 404, attributes := #[] }, { accessFlags := 25, nameIndex := 452, descriptorIndex := 404, attributes := #[] }, { accessFlags := 25, nameIndex := 454, descriptorIndex := 404, attributes := #[] }, { accessFlags := 25, nameIndex := 456, descriptorIndex := 404, attributes := #[] }, { accessFlags := 25, nameIndex := 458, descriptorIndex := 404, attributes := #[] }, { accessFlags := 25, nameIndex := 460, descriptorIndex := 404, attributes := #[] }, { accessFlags := 24, nameIndex := 462, descriptorIndex := 392, attributes := #[] }, { accessFlags := 25, nameIndex := 464, descriptorIndex := 404, attributes := #[] }, { accessFlags := 25, nameIndex := 465, descriptorIndex := 404, attributes := #[] }, { accessFlags := 25, nameIndex := 466, descriptorIndex := 404, attributes := #[] }, { accessFlags := 25, nameIndex := 467, descriptorIndex := 404, attributes := #[] }, { accessFlags := 25, nameIndex := 468, descriptorIndex := 404, attributes := #[] }, { accessFlags := 25, nameIndex := 469, descriptorIndex := 404, attributes := #[] }, { accessFlags := 25, nameIndex := 470, descriptorIndex := 404, attributes := #[] }, { accessFlags := 25, nameIndex := 471, descriptorIndex := 404, attributes := #[] }, { accessFlags := 25, nameIndex := 472, descriptorIndex := 404, attributes := #[] }, { accessFlags := 25, nameIndex := 473, descriptorIndex := 404, attributes := #[] }, { accessFlags := 25, nameIndex := 474, descriptorIndex := 404, attributes := #[] }, { accessFlags := 25, nameIndex := 475, descriptorIndex := 404, attributes := #[] }, { accessFlags := 25, nameIndex := 476, descriptorIndex := 404, attributes := #[] }, { accessFlags := 25, nameIndex := 477, descriptorIndex := 404, attributes := #[] }, { accessFlags := 25, nameIndex := 478, descriptorIndex := 404, attributes := #[] }, { accessFlags := 25, nameIndex := 479, descriptorIndex := 404, attributes := #[] }, { accessFlags := 25, nameIndex := 480, descriptorIndex := 404, attributes := #[] }, { accessFlags := 25, nameIndex := 481, descriptorIndex := 404, attributes := #[] }, { accessFlags := 25, nameIndex := 482, descriptorIndex := 404, attributes := #[] }, { accessFlags := 25, nameIndex := 484, descriptorIndex := 404, attributes := #[] }, { accessFlags := 25, nameIndex := 485, descriptorIndex := 404, attributes := #[] }, { accessFlags := 25, nameIndex := 486, descriptorIndex := 404, attributes := #[] }, { accessFlags := 25, nameIndex := 487, descriptorIndex := 404, attributes := #[] }, { accessFlags := 25, nameIndex := 488, descriptorIndex := 404, attributes := #[] }, { accessFlags := 25, nameIndex := 489, descriptorIndex := 22, attributes := #[] }, { accessFlags := 25, nameIndex := 490, descriptorIndex := 22, attributes := #[] }, { accessFlags := 25, nameIndex := 492, descriptorIndex := 22, attributes := #[] }, { accessFlags := 25, nameIndex := 493, descriptorIndex := 22, attributes := #[] }, { accessFlags := 25, nameIndex := 495, descriptorIndex := 22, attributes := #[] }, { accessFlags := 25, nameIndex := 496, descriptorIndex := 22, attributes := #[] }, { accessFlags := 25, nameIndex := 497, descriptorIndex := 392, attributes := #[] }, { accessFlags := 25, nameIndex := 498, descriptorIndex := 392, attributes := #[] }, { accessFlags := 25, nameIndex := 499, descriptorIndex := 392, attributes := #[] }, { accessFlags := 18, nameIndex := 21, descriptorIndex := 22, attributes := #[] }, { accessFlags := 26, nameIndex := 501, descriptorIndex := 502, attributes := #[] }, { accessFlags := 25, nameIndex := 505, descriptorIndex := 392, attributes := #[] }, { accessFlags := 25, nameIndex := 506, descriptorIndex := 392, attributes := #[] }, { accessFlags := 4120, nameIndex := 284, descriptorIndex := 285, attributes := #[] }])
  fields := #[{ name := "MIN_RADIX", type := .int, accessFlags := 25, slot := 0, constantValue := 0 }, { name := "MAX_RADIX", type := .int, accessFlags := 25, slot := 1, constantValue := 0 }, { name := "MIN_VALUE", type := .char, accessFlags := 25, slot := 2, constantValue := 0 }, { name := "MAX_VALUE", type := .char, accessFlags := 25, slot := 3, constantValue := 0 }, { name := "TYPE", type := (.object "java/lang/Class"), accessFlags := 25, slot := 4, constantValue := 0 }, { name := "UNASSIGNED", type := .byte, accessFlags := 25, slot := 5, constantValue := 0 }, { name := "UPPERCASE_LETTER", type := .byte, accessFlags := 25, slot := 6, constantValue := 0 }, { name := "LOWERCASE_LETTER", type := .byte, accessFlags := 25, slot := 7, constantValue := 0 }, { name := "TITLECASE_LETTER", type := .byte, accessFlags := 25, slot := 8, constantValue := 0 }, { name := "MODIFIER_LETTER", type := .byte, accessFlags := 25, slot := 9, constantValue := 0 }, { name := "OTHER_LETTER", type := .byte, accessFlags := 25, slot := 10, constantValue := 0 }, { name := "NON_SPACING_MARK", type := .byte, accessFlags := 25, slot := 11, constantValue := 0 }, { name := "ENCLOSING_MARK", type := .byte, accessFlags := 25, slot := 12, constantValue := 0 }, { name := "COMBINING_SPACING_MARK", type := .byte, accessFlags := 25, slot := 13, constantValue := 0 }, { name := "DECIMAL_DIGIT_NUMBER", type := .byte, accessFlags := 25, slot := 14, constantValue := 0 }, { name := "LETTER_NUMBER", type := .byte, accessFlags := 25, slot := 15, constantValue := 0 }, { name := "OTHER_NUMBER", type := .byte, accessFlags := 25, slot := 16, constantValue := 0 }, { name := "SPACE_SEPARATOR", type := .byte, accessFlags := 25, slot := 17, constantValue := 0 }, { name := "LINE_SEPARATOR", type := .byte, accessFlags := 25, slot := 18, constantValue := 0 }, { name := "PARAGRAPH_SEPARATOR", type := .byte, accessFlags := 25, slot := 19, constantValue := 0 }, { name := "CONTROL", type := .byte, accessFlags := 25, slot := 20, constantValue := 0 }, { name := "FORMAT", type := .byte, accessFlags := 25, slot := 21, constantValue := 0 }, { name := "PRIVATE_USE", type := .byte, accessFlags := 25, slot := 22, constantValue := 0 }, { name := "SURROGATE", type := .byte, accessFlags := 25, slot := 23, constantValue := 0 }, { name := "DASH_PUNCTUATION", type := .byte, accessFlags := 25, slot := 24, constantValue := 0 }, { name := "START_PUNCTUATION", type := .byte, accessFlags := 25, slot := 25, constantValue := 0 }, { name := "END_PUNCTUATION", type := .byte, accessFlags := 25, slot := 26, constantValue := 0 }, { name := "CONNECTOR_PUNCTUATION", type := .byte, accessFlags := 25, slot := 27, constantValue := 0 }, { name := "OTHER_PUNCTUATION", type := .byte, accessFlags := 25, slot := 28, constantValue := 0 }, { name := "MATH_SYMBOL", type := .byte, accessFlags := 25, slot := 29, constantValue := 0 }, { name := "CURRENCY_SYMBOL", type := .byte, accessFlags := 25, slot := 30, constantValue := 0 }, { name := "MODIFIER_SYMBOL", type := .byte, accessFlags := 25, slot := 31, constantValue := 0 }, { name := "OTHER_SYMBOL", type := .byte, accessFlags := 25, slot := 32, constantValue := 0 }, { name := "INITIAL_QUOTE_PUNCTUATION", type := .byte, accessFlags := 25, slot := 33, constantValue := 0 }, { name := "FINAL_QUOTE_PUNCTUATION", type := .byte, accessFlags := 25, slot := 34, constantValue := 0 }, { name := "ERROR", type := .int, accessFlags := 24, slot := 35, constantValue := 0 }, { name := "DIRECTIONALITY_UNDEFINED", type := .byte, accessFlags := 25, slot := 36, constantValue := 0 }, { name := "DIRECTIONALITY_LEFT_TO_RIGHT", type := .byte, accessFlags := 25, slot := 37, constantValue := 0 }, { name := "DIRECTIONALITY_RIGHT_TO_LEFT", type := .byte, accessFlags := 25, slot := 38, constantValue := 0 }, { name := "DIRECTIONALITY_RIGHT_TO_LEFT_ARABIC", type := .byte, accessFlags := 25, slot := 39, constantValue := 0 }, { name := "DIRECTIONALITY_EUROPEAN_NUMBER", type := .byte, accessFlags := 25, slot := 40, constantValue := 0 }, { name := "DIRECTIONALITY_EUROPEAN_NUMBER_SEPARATOR", type := .byte, accessFlags := 25, slot := 41, constantValue := 0 }, { name := "DIRECTIONALITY_EUROPEAN_NUMBER_TERMINATOR", type := .byte, accessFlags := 25, slot := 42, constantValue := 0 }, { name := "DIRECTIONALITY_ARABIC_NUMBER", type := .byte, accessFlags := 25, slot := 43, constantValue := 0 }, { name := "DIRECTIONALITY_COMMON_NUMBER_SEPARATOR", type := .byte, accessFlags := 25, slot := 44, constantValue := 0 }, { name := "DIRECTIONALITY_NONSPACING_MARK", type := .byte, accessFlags := 25, slot := 45, constantValue := 0 }, { name := "DIRECTIONALITY_BOUNDARY_NEUTRAL", type := .byte, accessFlags := 25, slot := 46, constantValue := 0 }, { name := "DIRECTIONALITY_PARAGRAPH_SEPARATOR", type := .byte, accessFlags := 25, slot := 47, constantValue := 0 }, { name := "DIRECTIONALITY_SEGMENT_SEPARATOR", type := .byte, accessFlags := 25, slot := 48, constantValue := 0 }, { name := "DIRECTIONALITY_WHITESPACE", type := .byte, accessFlags := 25, slot := 49, constantValue := 0 }, { name := "DIRECTIONALITY_OTHER_NEUTRALS", type := .byte, accessFlags := 25, slot := 50, constantValue := 0 }, { name := "DIRECTIONALITY_LEFT_TO_RIGHT_EMBEDDING", type := .byte, accessFlags := 25, slot := 51, constantValue := 0 }, { name := "DIRECTIONALITY_LEFT_TO_RIGHT_OVERRIDE", type := .byte, accessFlags := 25, slot := 52, constantValue := 0 }, { name := "DIRECTIONALITY_RIGHT_TO_LEFT_EMBEDDING", type := .byte, accessFlags := 25, slot := 53, constantValue := 0 }, { name := "DIRECTIONALITY_RIGHT_TO_LEFT_OVERRIDE", type := .byte, accessFlags := 25, slot := 54, constantValue := 0 }, { name := "DIRECTIONALITY_POP_DIRECTIONAL_FORMAT", type := .byte, accessFlags := 25, slot := 55, constantValue := 0 }, { name := "DIRECTIONALITY_LEFT_TO_RIGHT_ISOLATE", type := .byte, accessFlags := 25, slot := 56, constantValue := 0 }, { name := "DIRECTIONALITY_RIGHT_TO_LEFT_ISOLATE", type := .byte, accessFlags := 25, slot := 57, constantValue := 0 }, { name := "DIRECTIONALITY_FIRST_STRONG_ISOLATE", type := .byte, accessFlags := 25, slot := 58, constantValue := 0 }, { name := "DIRECTIONALITY_POP_DIRECTIONAL_ISOLATE", type := .byte, accessFlags := 25, slot := 59, constantValue := 0 }, { name := "MIN_HIGH_SURROGATE", type := .char, accessFlags := 25, slot := 60, constantValue := 0 }, { name := "MAX_HIGH_SURROGATE", type := .char, accessFlags := 25, slot := 61, constantValue := 0 }, { name := "MIN_LOW_SURROGATE", type := .char, accessFlags := 25, slot := 62, constantValue := 0 }, { name := "MAX_LOW_SURROGATE", type := .char, accessFlags := 25, slot := 63, constantValue := 0 }, { name := "MIN_SURROGATE", type := .char, accessFlags := 25, slot := 64, constantValue := 0 }, { name := "MAX_SURROGATE", type := .char, accessFlags := 25, slot := 65, constantValue := 0 }, { name := "MIN_SUPPLEMENTARY_CODE_POINT", type := .int, accessFlags := 25, slot := 66, constantValue := 0 }, { name := "MIN_CODE_POINT", type := .int, accessFlags := 25, slot := 67, constantValue := 0 }, { name := "MAX_CODE_POINT", type := .int, accessFlags := 25, slot := 68, constantValue := 0 }, { name := "value", type := .char, accessFlags := 18, slot := 0, constantValue := 0 }, { name := "serialVersionUID", type := .long, accessFlags := 26, slot := 69, constantValue := 0 }, { name := "SIZE", type := .int, accessFlags := 25, slot := 70, constantValue := 0 }, { name := "BYTES", type := .int, accessFlags := 25, slot := 71, constantValue := 0 }, { name := "$assertionsDisabled", type := .boolean, accessFlags := 4120, slot := 72, constantValue := 0 }]
  methods := #[k11m0]
  instanceTypes := #[.char]
  staticTypes := #[.int, .int, .char, .char, (.object "java/lang/Class"), .byte, .byte, .byte, .byte, .byte, .byte, .byte, .byte, .byte, .byte, .byte, .byte, .byte, .byte, .byte, .byte, .byte, .byte, .byte, .byte, .byte, .byte, .byte, .byte, .byte, .byte, .byte, .byte, .byte, .byte, .int, .byte, .byte, .byte, .byte, .byte, .byte, .byte, .byte, .byte, .byte, .byte, .byte, .byte, .byte, .byte, .byte, .byte, .byte, .byte, .byte, .byte, .byte, .byte, .byte, .char, .char, .char, .char, .char, .char, .int, .int, .int, .long, .int, .int, .boolean]
  resolved := Array.replicate 604 none
  statics := none }

def pool12 : Array CpInfo := pool [(1, .class_ 2), (0, u "java/lang/String"), (1, .class_ 6), (1, u "java/lang/Object"), (0, u "<init>"), (0, u "()V"), (0, .methodref 1 10), (0, .nameAndType 11 12), (0, u "checkIndex"), (0, u "(II)V"), (1, .class_ 16), (1, u "java/lang/StringLatin1"), (36, u "([BI)C"), (67, u "$assertionsDisabled"), (0, u "Z"), (98, .class_ 223), (1, u "java/lang/StringLatin1$LinesSpliterator"), (28, u "charAt"), (137, .class_ 391), (0, u "java/lang/StringLatin1$CharsSpliterator")] 3

def k12m0 : Method := { name := "<init>", desc := "()V", sig := { parameters := [], returnType := none }, accessFlags := 0, code := none }
def k12c1 : Code := { maxStack := 2, maxLocals := 2, code := jdk_43_method_2_code, exceptionTable := #[], attributes := #[] }
def k12m1 : Method := { name := "charAt", desc := "([BI)C", sig := { parameters := [(.array .byte), .int], returnType := some .char }, accessFlags := 9, code := some k12c1 }
/-- java/lang/StringLatin1 -/
def k12 : Class := { plain "java/lang/StringLatin1" (some 0) with
  accessFlags := 48
  interfaces := #[]
  cf := some (fileOf pool12 14 #[.nestMembers #[390, 221]] #[{ accessFlags := 0, nameIndex := 7, descriptorIndex := 8, attributes := #[] }, { accessFlags := 9, nameIndex := 252, descriptorIndex := 53, attributes := #[] }] 48 4 #[] #[{ accessFlags := 4120, nameIndex := 121, descriptorIndex := 122, attributes := #[] }])
  fields := #[{ name := "$assertionsDisabled", type := .boolean, accessFlags := 4120, slot := 0, constantValue := 0 }]
  methods := #[k12m0, k12m1]
  instanceTypes := #[]
  staticTypes := #[.boolean]
  resolved := Array.replicate 395 none
  statics := none }

def pool13 : Array CpInfo := pool [(9, u "<init>"), (6, .class_ 18), (1, u "java/lang/Object"), (0, u "()V"), (1, .class_ 23), (1, u "jdk/internal/util/ArraysSupport"), (0, u "LOG2_ARRAY_LONG_INDEX_SCALE"), (0, u "I"), (2, u "U"), (0, u "Ljdk/internal/misc/Unsafe;"), (8, u "BIG_ENDIAN"), (0, u "Z"), (8, u "LOG2_BYTE_BIT_SIZE"), (4, u "LOG2_ARRAY_INT_INDEX_SCALE"), (54, u "JLA"), (0, u "Ljdk/internal/access/JavaLangAccess;"), (11, u "LOG2_ARRAY_BOOLEAN_INDEX_SCALE"), (9, u "LOG2_ARRAY_BYTE_INDEX_SCALE"), (5, u "LOG2_ARRAY_CHAR_INDEX_SCALE"), (5, u "LOG2_ARRAY_SHORT_INDEX_SCALE"), (18, u "LOG2_ARRAY_FLOAT_INDEX_SCALE"), (24, u "LOG2_ARRAY_DOUBLE_INDEX_SCALE"), (89, u "T_BOOLEAN"), (2, u "T_CHAR"), (1, u "T_FLOAT"), (1, u "T_DOUBLE"), (1, u "T_BYTE"), (1, u "T_SHORT"), (1, u "T_INT"), (1, u "T_LONG"), (1, u "SOFT_MAX_ARRAY_LENGTH")] 83

def k13m0 : Method := { name := "<init>", desc := "()V", sig := { parameters := [], returnType := none }, accessFlags := 2, code := none }
/-- jdk/internal/util/ArraysSupport -/
def k13 : Class := { plain "jdk/internal/util/ArraysSupport" (some 0) with
  accessFlags := 33
  interfaces := #[]
  cf := some (fileOf pool13 21 #[] #[{ accessFlags := 2, nameIndex := 9, descriptorIndex := 19, attributes := #[] }] 33 16 #[] #[{ accessFlags := 24, nameIndex := 28, descriptorIndex := 29, attributes := #[] }, { accessFlags := 26, nameIndex := 38, descriptorIndex := 39, attributes := #[] }, { accessFlags := 25, nameIndex := 121, descriptorIndex := 25, attributes := #[] }, { accessFlags := 25, nameIndex := 131, descriptorIndex := 25, attributes := #[] }, { accessFlags := 25, nameIndex := 137, descriptorIndex := 25, attributes := #[] }, { accessFlags := 25, nameIndex := 143, descriptorIndex := 25, attributes := #[] }, { accessFlags := 25, nameIndex := 53, descriptorIndex := 25, attributes := #[] }, { accessFlags := 25, nameIndex := 24, descriptorIndex := 25, attributes := #[] }, { accessFlags := 25, nameIndex := 162, descriptorIndex := 25, attributes := #[] }, { accessFlags := 25, nameIndex := 187, descriptorIndex := 25, attributes := #[] }, { accessFlags := 26, nameIndex := 48, descriptorIndex := 25, attributes := #[] }, { accessFlags := 25, nameIndex := 277, descriptorIndex := 25, attributes := #[] }, { accessFlags := 25, nameIndex := 280, descriptorIndex := 25, attributes := #[] }, { accessFlags := 25, nameIndex := 282, descriptorIndex := 25, attributes := #[] }, { accessFlags := 25, nameIndex := 284, descriptorIndex := 25, attributes := #[] }, { accessFlags := 25, nameIndex := 286, descriptorIndex := 25, attributes := #[] }, { accessFlags := 25, nameIndex := 288, descriptorIndex := 25, attributes := #[] }, { accessFlags := 25, nameIndex := 290, descriptorIndex := 25, attributes := #[] }, { accessFlags := 25, nameIndex := 292, descriptorIndex := 25, attributes := #[] }, { accessFlags := 26, nameIndex := 108, descriptorIndex := 109, attributes := #[] }, { accessFlags := 25, nameIndex := 294, descriptorIndex := 25, attributes := #[] }])
  fields := #[{ name := "U", type := (.object "jdk/internal/misc/Unsafe"), accessFlags := 24, slot := 0, constantValue := 0 }, { name := "BIG_ENDIAN", type := .boolean, accessFlags := 26, slot := 1, constantValue := 0 }, { name := "LOG2_ARRAY_BOOLEAN_INDEX_SCALE", type := .int, accessFlags := 25, slot := 2, constantValue := 0 }, { name := "LOG2_ARRAY_BYTE_INDEX_SCALE", type := .int, accessFlags := 25, slot := 3, constantValue := 0 }, { name := "LOG2_ARRAY_CHAR_INDEX_SCALE", type := .int, accessFlags := 25, slot := 4, constantValue := 0 }, { name := "LOG2_ARRAY_SHORT_INDEX_SCALE", type := .int, accessFlags := 25, slot := 5, constantValue := 0 }, { name := "LOG2_ARRAY_INT_INDEX_SCALE", type := .int, accessFlags := 25, slot := 6, constantValue := 0 }, { name := "LOG2_ARRAY_LONG_INDEX_SCALE", type := .int, accessFlags := 25, slot := 7, constantValue := 0 }, { name := "LOG2_ARRAY_FLOAT_INDEX_SCALE", type := .int, accessFlags := 25, slot := 8, constantValue := 0 }, { name := "LOG2_ARRAY_DOUBLE_INDEX_SCALE", type := .int, accessFlags := 25, slot := 9, constantValue := 0 }, { name := "LOG2_BYTE_BIT_SIZE", type := .int, accessFlags := 26, slot := 10, constantValue := 0 }, { name := "T_BOOLEAN", type := .int, accessFlags := 25, slot := 11, constantValue := 0 }, { name := "T_CHAR", type := .int, accessFlags := 25, slot := 12, constantValue := 0 }, { name := "T_FLOAT", type := .int, accessFlags := 25, slot := 13, constantValue := 0 }, { name := "T_DOUBLE", type := .int, accessFlags := 25, slot := 14, constantValue := 0 }, { name := "T_BYTE", type := .int, accessFlags := 25, slot := 15, constantValue := 0 }, { name := "T_SHORT", type := .int, accessFlags := 25, slot := 16, constantValue := 0 }, { name := "T_INT", type := .int, accessFlags := 25, slot := 17, constantValue := 0 }, { name := "T_LONG", type := .int, accessFlags := 25, slot := 18, constantValue := 0 }, { name := "JLA", type := (.object "jdk/internal/access/JavaLangAccess"), accessFlags := 26, slot := 19, constantValue := 0 }, { name := "SOFT_MAX_ARRAY_LENGTH", type := .int, accessFlags := 25, slot := 20, constantValue := 0 }]
  methods := #[k13m0]
  instanceTypes := #[]
  staticTypes := #[(.object "jdk/internal/misc/Unsafe"), .boolean, .int, .int, .int, .int, .int, .int, .int, .int, .int, .int, .int, .int, .int, .int, .int, .int, .int, (.object "jdk/internal/access/JavaLangAccess"), .int]
  resolved := Array.replicate 378 none
  statics := none }

def pool14 : Array CpInfo := pool [(1, u "java/lang/Cloneable"), (0, .class_ 1), (0, u "java/lang/Object"), (0, .class_ 3)] 3

/-- java/lang/Cloneable -/
def k14 : Class := { plain "java/lang/Cloneable" (some 0) with
  accessFlags := 1537
  interfaces := #[]
  cf := some (fileOf pool14 2 #[] #[] 1537 4 #[] #[])
  fields := #[]
  methods := #[]
  instanceTypes := #[]
  staticTypes := #[]
  resolved := Array.replicate 8 none
  statics := none }

/-- the primitive byte -/
def k15 : Class := { plain "byte" none with kind := .primitive 'B', accessFlags := 0x411 }
/-- [B -/
def k16 : Class := { plain "[B" (some 0) with kind := .array 15 .byte, interfaces := #[14, 2], accessFlags := 1041 }

/-- the primitive char -/
def k17 : Class := { plain "char" none with kind := .primitive 'C', accessFlags := 0x411 }
/-- [C -/
def k18 : Class := { plain "[C" (some 0) with kind := .array 17 .char, interfaces := #[14, 2], accessFlags := 1041 }

/-- the primitive int -/
def k19 : Class := { plain "int" none with kind := .primitive 'I', accessFlags := 0x411 }
/-- [I -/
def k20 : Class := { plain "[I" (some 0) with kind := .array 19 .int, interfaces := #[14, 2], accessFlags := 1041 }

def heap : Heap := #[{ cls := 7, slots := #[.long 0, .int 1, .null, .int 0, .null, .int 0, .int 0], vm := .statics 7 },
  { cls := 8, slots := #[.int 0, .int 8, .int 0, .int 1], vm := .statics 8 },
  { cls := 10, slots := #[.null, .null, .null], vm := .statics 10 }]
def classes : Array Class := #[k0, k1, k2, k3, k4, k5, k6, k7, k8, k9, k10, k11, k12, k13, k14, k15, k16, k17, k18, k19, k20]
def interned : List (Array UInt16 × Addr) := []
def slotsUsed : Nat := 14
def theMethod : MethodId := ⟨1, 2⟩
def args0 : Array Value := #[.int 5, .int 7, .int 5, .int 1, .int 2]
def aboutOver (below : List Frame) : State where
  vm := { classes := classes, interned := interned.toArray }
  heap := heap
  slotsUsed := slotsUsed
  threads := #[{ frames := .invoking theMethod args0 :: below }]
def below0 : List Frame := [.native { method := ⟨0, 0⟩, args := #[] }]
def about1 : State := aboutOver below0
def p0 : Program := .bare "" "" ""
def e0 : Env := launch0.env 0 0 0
theorem w_frames : about1.frames = Frame.invoking theMethod args0 :: below0 := rfl
set_option maxRecDepth 65536 in
theorem w_args : argsFit about1.vm theMethod args0 = true := by decide +kernel
set_option maxRecDepth 65536 in
theorem w_heap : heapFits about1 = true := by decide +kernel
set_option maxRecDepth 65536 in
theorem w_runnable : about1.curStatus? = some .runnable := by decide +kernel
set_option maxRecDepth 65536 in
theorem w_alone : about1.alone = true := by decide +kernel
set_option maxRecDepth 65536 in
theorem w_named : about1.methodNamed? x = some theMethod := by decide +kernel
set_option maxRecDepth 65536 in
theorem w_hears : about1.hears theMethod below0 = true := by decide +kernel
set_option maxRecDepth 65536 in
theorem w_ripe : about1.ripe theMethod args0 below0 = true := by decide +kernel
theorem w_running : about1.status = .running := rfl
set_option maxRecDepth 65536 in
theorem w_room : about1.hasRoom e0.platform room_1 = true :=
  launch0.hasRoom_least _ room_1 (by decide +kernel) (by decide +kernel) (by decide +kernel) (by decide +kernel) (by decide +kernel) (by decide +kernel)
theorem allAtoms_all (ts : List Jvm.Cond) (a : Array Jvm.Value) (st : Jvm.State) : (allAtoms ts).before a st = ts.all (fun c => c.before a st) := by
  induction ts with
  | nil => rfl
  | cons c t ih =>
    show (Jvm.Cond.and c (allAtoms t)).before a st = _
    rw [Jvm.Cond.before_and, ih, List.all_cons]
def words1 : List Jvm.Cond := Jvm.Cond.code x code maxLocals ret :: tables_1
/-- a 'code' word, met by the world's own term for the bytes: nothing is compared byte by byte -/
theorem code_word {y : MethodName} {bytes : ByteArray} {mx : Nat} {rt : Option FieldType} {a : Array Value} {s : State} {m : MethodId} {meth : Method} {c : Code} (h1 : s.methodNamed? y = some m) (h2 : s.vm.method? m = some meth) (h3 : meth.code = some c) (h4 : c.code = bytes)
    (h5 : (c.maxLocals == mx && c.exceptionTable.isEmpty && decide (c.maxStack ≤ mostOperands) && decide (meth.sig.returnType = rt) && !meth.locks && decide (parseMethodDescriptor y.desc = some meth.sig)) = true) : (Jvm.Cond.code y bytes mx rt).before a s = true := by
  simp only [Bool.and_eq_true, beq_iff_eq, Bool.not_eq_true', decide_eq_true_eq] at h5
  obtain ⟨⟨⟨⟨⟨g1, g2⟩, g3⟩, g4⟩, g5⟩, g6⟩ := h5
  simp [Cond.before, Cond.holds, Cond.value, h1, h2, h3, h4, g1, g2, g3, g4, g5, g6]
def isCode : Jvm.Cond → Bool
  | .code _ _ _ _ => true
  | _ => false
theorem all_split {L : List Jvm.Cond} {P : Jvm.Cond → Bool} (h1 : L.all (fun c => isCode c || P c) = true) (h2 : ∀ c ∈ L.filter isCode, P c = true) : L.all P = true := by
  refine List.all_eq_true.mpr fun c hc => ?_
  have h := List.all_eq_true.mp h1 c hc
  rcases Bool.eq_false_or_eq_true (isCode c) with hi | hi
  · exact h2 c (List.mem_filter.mpr ⟨hc, hi⟩)
  · simpa [hi] using h
set_option maxRecDepth 65536 in
theorem w_c0 : (Jvm.Cond.code x code maxLocals ret).before args0 about1 = true := code_word (m := ⟨1, 2⟩) (meth := k1m2) (c := k1c2) (by decide +kernel) rfl rfl rfl (by decide +kernel)
set_option maxRecDepth 65536 in
theorem w_c1 : (Jvm.Cond.code ({ cls := "com/example/kuvert/kuvert/mime/KeptOctetsAtPinLaw", name := "draw", desc := "(II)C" } : Jvm.MethodName) method_2_code (3 : Nat) (Option.some Jvm.ClassFile.FieldType.char)).before args0 about1 = true := code_word (m := ⟨1, 1⟩) (meth := k1m1) (c := k1c1) (by decide +kernel) rfl rfl rfl (by decide +kernel)
set_option maxRecDepth 65536 in
theorem w_c2 : (Jvm.Cond.code ({ cls := "java/lang/String", name := "<init>", desc := "([C)V" } : Jvm.MethodName) jdk_42_method_3_code (2 : Nat) (Option.none : Option Jvm.ClassFile.FieldType)).before args0 about1 = true := code_word (m := ⟨7, 1⟩) (meth := k7m1) (c := k7c1) (by decide +kernel) rfl rfl rfl (by decide +kernel)
set_option maxRecDepth 65536 in
theorem w_c3 : (Jvm.Cond.code ({ cls := "java/lang/String", name := "<init>", desc := "([CIILjava/lang/Void;)V" } : Jvm.MethodName) jdk_42_method_149_code (6 : Nat) (Option.none : Option Jvm.ClassFile.FieldType)).before args0 about1 = true := code_word (m := ⟨7, 3⟩) (meth := k7m3) (c := k7c3) (by decide +kernel) rfl rfl rfl (by decide +kernel)
set_option maxRecDepth 65536 in
theorem w_c4 : (Jvm.Cond.code ({ cls := "java/lang/Object", name := "<init>", desc := "()V" } : Jvm.MethodName) object_method_1_code (1 : Nat) (Option.none : Option Jvm.ClassFile.FieldType)).before args0 about1 = true := code_word (m := ⟨0, 0⟩) (meth := k0m0) (c := k0c0) (by decide +kernel) rfl rfl rfl (by decide +kernel)
set_option maxRecDepth 65536 in
theorem w_c5 : (Jvm.Cond.code ({ cls := "java/lang/StringUTF16", name := "compress", desc := "([CII)[B" } : Jvm.MethodName) jdk_52_method_16_code (6 : Nat) (Option.some (Jvm.ClassFile.FieldType.array Jvm.ClassFile.FieldType.byte))).before args0 about1 = true := code_word (m := ⟨8, 8⟩) (meth := k8m8) (c := k8c8) (by decide +kernel) rfl rfl rfl (by decide +kernel)
set_option maxRecDepth 65536 in
theorem w_c6 : (Jvm.Cond.code ({ cls := "java/lang/StringUTF16", name := "compress", desc := "([CI[BII)I" } : Jvm.MethodName) jdk_52_method_21_code (7 : Nat) (Option.some Jvm.ClassFile.FieldType.int)).before args0 about1 = true := code_word (m := ⟨8, 9⟩) (meth := k8m9) (c := k8c9) (by decide +kernel) rfl rfl rfl (by decide +kernel)
set_option maxRecDepth 65536 in
theorem w_c7 : (Jvm.Cond.code ({ cls := "java/lang/StringUTF16", name := "toBytes", desc := "([CII)[B" } : Jvm.MethodName) jdk_52_method_14_code (5 : Nat) (Option.some (Jvm.ClassFile.FieldType.array Jvm.ClassFile.FieldType.byte))).before args0 about1 = true := code_word (m := ⟨8, 6⟩) (meth := k8m6) (c := k8c6) (by decide +kernel) rfl rfl rfl (by decide +kernel)
set_option maxRecDepth 65536 in
theorem w_c8 : (Jvm.Cond.code ({ cls := "java/lang/StringUTF16", name := "newBytesFor", desc := "(I)[B" } : Jvm.MethodName) jdk_52_method_2_code (1 : Nat) (Option.some (Jvm.ClassFile.FieldType.array Jvm.ClassFile.FieldType.byte))).before args0 about1 = true := code_word (m := ⟨8, 1⟩) (meth := k8m1) (c := k8c1) (by decide +kernel) rfl rfl rfl (by decide +kernel)
set_option maxRecDepth 65536 in
theorem w_c9 : (Jvm.Cond.code ({ cls := "java/lang/StringUTF16", name := "newBytesLength", desc := "(I)I" } : Jvm.MethodName) jdk_52_method_3_code (1 : Nat) (Option.some Jvm.ClassFile.FieldType.int)).before args0 about1 = true := code_word (m := ⟨8, 2⟩) (meth := k8m2) (c := k8c2) (by decide +kernel) rfl rfl rfl (by decide +kernel)
set_option maxRecDepth 65536 in
theorem w_c10 : (Jvm.Cond.code ({ cls := "java/lang/StringUTF16", name := "putChar", desc := "([BII)V" } : Jvm.MethodName) jdk_52_method_4_code (3 : Nat) (Option.none : Option Jvm.ClassFile.FieldType)).before args0 about1 = true := code_word (m := ⟨8, 3⟩) (meth := k8m3) (c := k8c3) (by decide +kernel) rfl rfl rfl (by decide +kernel)
set_option maxRecDepth 65536 in
theorem w_c11 : (Jvm.Cond.code ({ cls := "java/lang/StringUTF16", name := "getChar", desc := "([BI)C" } : Jvm.MethodName) jdk_52_method_5_code (2 : Nat) (Option.some Jvm.ClassFile.FieldType.char)).before args0 about1 = true := code_word (m := ⟨8, 4⟩) (meth := k8m4) (c := k8c4) (by decide +kernel) rfl rfl rfl (by decide +kernel)
set_option maxRecDepth 65536 in
theorem w_c12 : (Jvm.Cond.code ({ cls := "java/lang/StringUTF16", name := "coderFromArrayLen", desc := "([BI)B" } : Jvm.MethodName) jdk_52_method_15_code (2 : Nat) (Option.some Jvm.ClassFile.FieldType.byte)).before args0 about1 = true := code_word (m := ⟨8, 7⟩) (meth := k8m7) (c := k8c7) (by decide +kernel) rfl rfl rfl (by decide +kernel)
set_option maxRecDepth 65536 in
theorem w_c13 : (Jvm.Cond.code ({ cls := "com/example/kuvert/kuvert/mime/KeptOctets", name := "at", desc := "(Ljava/lang/String;I)I" } : Jvm.MethodName) prog_28_method_3_code (4 : Nat) (Option.some Jvm.ClassFile.FieldType.int)).before args0 about1 = true := code_word (m := ⟨9, 1⟩) (meth := k9m1) (c := k9c1) (by decide +kernel) rfl rfl rfl (by decide +kernel)
set_option maxRecDepth 65536 in
theorem w_c14 : (Jvm.Cond.code ({ cls := "java/lang/String", name := "charAt", desc := "(I)C" } : Jvm.MethodName) jdk_42_method_56_code (2 : Nat) (Option.some Jvm.ClassFile.FieldType.char)).before args0 about1 = true := code_word (m := ⟨7, 2⟩) (meth := k7m2) (c := k7c2) (by decide +kernel) rfl rfl rfl (by decide +kernel)
set_option maxRecDepth 65536 in
theorem w_c15 : (Jvm.Cond.code ({ cls := "java/lang/String", name := "isLatin1", desc := "()Z" } : Jvm.MethodName) jdk_42_method_154_code (1 : Nat) (Option.some Jvm.ClassFile.FieldType.boolean)).before args0 about1 = true := code_word (m := ⟨7, 4⟩) (meth := k7m4) (c := k7c4) (by decide +kernel) rfl rfl rfl (by decide +kernel)
set_option maxRecDepth 65536 in
theorem w_c16 : (Jvm.Cond.code ({ cls := "java/lang/StringUTF16", name := "charAt", desc := "([BI)C" } : Jvm.MethodName) jdk_52_method_83_code (2 : Nat) (Option.some Jvm.ClassFile.FieldType.char)).before args0 about1 = true := code_word (m := ⟨8, 10⟩) (meth := k8m10) (c := k8c10) (by decide +kernel) rfl rfl rfl (by decide +kernel)
set_option maxRecDepth 65536 in
theorem w_c17 : (Jvm.Cond.code ({ cls := "java/lang/StringUTF16", name := "checkIndex", desc := "(I[B)V" } : Jvm.MethodName) jdk_52_method_91_code (2 : Nat) (Option.none : Option Jvm.ClassFile.FieldType)).before args0 about1 = true := code_word (m := ⟨8, 11⟩) (meth := k8m11) (c := k8c11) (by decide +kernel) rfl rfl rfl (by decide +kernel)
set_option maxRecDepth 65536 in
theorem w_c18 : (Jvm.Cond.code ({ cls := "java/lang/StringUTF16", name := "length", desc := "([B)I" } : Jvm.MethodName) jdk_52_method_6_code (1 : Nat) (Option.some Jvm.ClassFile.FieldType.int)).before args0 about1 = true := code_word (m := ⟨8, 5⟩) (meth := k8m5) (c := k8c5) (by decide +kernel) rfl rfl rfl (by decide +kernel)
set_option maxRecDepth 65536 in
theorem w_c19 : (Jvm.Cond.code ({ cls := "java/lang/String", name := "checkIndex", desc := "(II)V" } : Jvm.MethodName) jdk_42_method_155_code (2 : Nat) (Option.none : Option Jvm.ClassFile.FieldType)).before args0 about1 = true := code_word (m := ⟨7, 5⟩) (meth := k7m5) (c := k7c5) (by decide +kernel) rfl rfl rfl (by decide +kernel)
set_option maxRecDepth 65536 in
theorem w_c20 : (Jvm.Cond.code ({ cls := "jdk/internal/util/Preconditions", name := "checkIndex", desc := "(IILjava/util/function/BiFunction;)I" } : Jvm.MethodName) jdk_41_method_11_code (3 : Nat) (Option.some Jvm.ClassFile.FieldType.int)).before args0 about1 = true := code_word (m := ⟨10, 1⟩) (meth := k10m1) (c := k10c1) (by decide +kernel) rfl rfl rfl (by decide +kernel)
set_option maxRecDepth 65536 in
theorem w_c21 : (Jvm.Cond.code ({ cls := "java/lang/Character", name := "isHighSurrogate", desc := "(C)Z" } : Jvm.MethodName) jdk_89_method_14_code (1 : Nat) (Option.some Jvm.ClassFile.FieldType.boolean)).before args0 about1 = true := code_word (m := ⟨11, 0⟩) (meth := k11m0) (c := k11c0) (by decide +kernel) rfl rfl rfl (by decide +kernel)
set_option maxRecDepth 65536 in
theorem w_c22 : (Jvm.Cond.code ({ cls := "java/lang/StringLatin1", name := "charAt", desc := "([BI)C" } : Jvm.MethodName) jdk_43_method_2_code (2 : Nat) (Option.some Jvm.ClassFile.FieldType.char)).before args0 about1 = true := code_word (m := ⟨12, 1⟩) (meth := k12m1) (c := k12c1) (by decide +kernel) rfl rfl rfl (by decide +kernel)
def codes1 : List Jvm.Cond := [Jvm.Cond.code x code maxLocals ret, Jvm.Cond.code ({ cls := "com/example/kuvert/kuvert/mime/KeptOctetsAtPinLaw", name := "draw", desc := "(II)C" } : Jvm.MethodName) method_2_code (3 : Nat) (Option.some Jvm.ClassFile.FieldType.char), Jvm.Cond.code ({ cls := "java/lang/String", name := "<init>", desc := "([C)V" } : Jvm.MethodName) jdk_42_method_3_code (2 : Nat) (Option.none : Option Jvm.ClassFile.FieldType), Jvm.Cond.code ({ cls := "java/lang/String", name := "<init>", desc := "([CIILjava/lang/Void;)V" } : Jvm.MethodName) jdk_42_method_149_code (6 : Nat) (Option.none : Option Jvm.ClassFile.FieldType), Jvm.Cond.code ({ cls := "java/lang/Object", name := "<init>", desc := "()V" } : Jvm.MethodName) object_method_1_code (1 : Nat) (Option.none : Option Jvm.ClassFile.FieldType), Jvm.Cond.code ({ cls := "java/lang/StringUTF16", name := "compress", desc := "([CII)[B" } : Jvm.MethodName) jdk_52_method_16_code (6 : Nat) (Option.some (Jvm.ClassFile.FieldType.array Jvm.ClassFile.FieldType.byte)), Jvm.Cond.code ({ cls := "java/lang/StringUTF16", name := "compress", desc := "([CI[BII)I" } : Jvm.MethodName) jdk_52_method_21_code (7 : Nat) (Option.some Jvm.ClassFile.FieldType.int), Jvm.Cond.code ({ cls := "java/lang/StringUTF16", name := "toBytes", desc := "([CII)[B" } : Jvm.MethodName) jdk_52_method_14_code (5 : Nat) (Option.some (Jvm.ClassFile.FieldType.array Jvm.ClassFile.FieldType.byte)), Jvm.Cond.code ({ cls := "java/lang/StringUTF16", name := "newBytesFor", desc := "(I)[B" } : Jvm.MethodName) jdk_52_method_2_code (1 : Nat) (Option.some (Jvm.ClassFile.FieldType.array Jvm.ClassFile.FieldType.byte)), Jvm.Cond.code ({ cls := "java/lang/StringUTF16", name := "newBytesLength", desc := "(I)I" } : Jvm.MethodName) jdk_52_method_3_code (1 : Nat) (Option.some Jvm.ClassFile.FieldType.int), Jvm.Cond.code ({ cls := "java/lang/StringUTF16", name := "putChar", desc := "([BII)V" } : Jvm.MethodName) jdk_52_method_4_code (3 : Nat) (Option.none : Option Jvm.ClassFile.FieldType), Jvm.Cond.code ({ cls := "java/lang/StringUTF16", name := "getChar", desc := "([BI)C" } : Jvm.MethodName) jdk_52_method_5_code (2 : Nat) (Option.some Jvm.ClassFile.FieldType.char), Jvm.Cond.code ({ cls := "java/lang/StringUTF16", name := "coderFromArrayLen", desc := "([BI)B" } : Jvm.MethodName) jdk_52_method_15_code (2 : Nat) (Option.some Jvm.ClassFile.FieldType.byte), Jvm.Cond.code ({ cls := "com/example/kuvert/kuvert/mime/KeptOctets", name := "at", desc := "(Ljava/lang/String;I)I" } : Jvm.MethodName) prog_28_method_3_code (4 : Nat) (Option.some Jvm.ClassFile.FieldType.int), Jvm.Cond.code ({ cls := "java/lang/String", name := "charAt", desc := "(I)C" } : Jvm.MethodName) jdk_42_method_56_code (2 : Nat) (Option.some Jvm.ClassFile.FieldType.char), Jvm.Cond.code ({ cls := "java/lang/String", name := "isLatin1", desc := "()Z" } : Jvm.MethodName) jdk_42_method_154_code (1 : Nat) (Option.some Jvm.ClassFile.FieldType.boolean), Jvm.Cond.code ({ cls := "java/lang/StringUTF16", name := "charAt", desc := "([BI)C" } : Jvm.MethodName) jdk_52_method_83_code (2 : Nat) (Option.some Jvm.ClassFile.FieldType.char), Jvm.Cond.code ({ cls := "java/lang/StringUTF16", name := "checkIndex", desc := "(I[B)V" } : Jvm.MethodName) jdk_52_method_91_code (2 : Nat) (Option.none : Option Jvm.ClassFile.FieldType), Jvm.Cond.code ({ cls := "java/lang/StringUTF16", name := "length", desc := "([B)I" } : Jvm.MethodName) jdk_52_method_6_code (1 : Nat) (Option.some Jvm.ClassFile.FieldType.int), Jvm.Cond.code ({ cls := "java/lang/String", name := "checkIndex", desc := "(II)V" } : Jvm.MethodName) jdk_42_method_155_code (2 : Nat) (Option.none : Option Jvm.ClassFile.FieldType), Jvm.Cond.code ({ cls := "jdk/internal/util/Preconditions", name := "checkIndex", desc := "(IILjava/util/function/BiFunction;)I" } : Jvm.MethodName) jdk_41_method_11_code (3 : Nat) (Option.some Jvm.ClassFile.FieldType.int), Jvm.Cond.code ({ cls := "java/lang/Character", name := "isHighSurrogate", desc := "(C)Z" } : Jvm.MethodName) jdk_89_method_14_code (1 : Nat) (Option.some Jvm.ClassFile.FieldType.boolean), Jvm.Cond.code ({ cls := "java/lang/StringLatin1", name := "charAt", desc := "([BI)C" } : Jvm.MethodName) jdk_43_method_2_code (2 : Nat) (Option.some Jvm.ClassFile.FieldType.char)]
set_option maxRecDepth 65536 in
theorem codes_eq : words1.filter isCode = codes1 := rfl
theorem w_codes : ∀ c ∈ words1.filter isCode, c.before args0 about1 = true := by
  rw [codes_eq]
  intro c hc
  simp only [codes1, List.mem_cons, List.not_mem_nil, or_false] at hc
  rcases hc with rfl | rfl | rfl | rfl | rfl | rfl | rfl | rfl | rfl | rfl | rfl | rfl | rfl | rfl | rfl | rfl | rfl | rfl | rfl | rfl | rfl | rfl | rfl
  · exact w_c0
  · exact w_c1
  · exact w_c2
  · exact w_c3
  · exact w_c4
  · exact w_c5
  · exact w_c6
  · exact w_c7
  · exact w_c8
  · exact w_c9
  · exact w_c10
  · exact w_c11
  · exact w_c12
  · exact w_c13
  · exact w_c14
  · exact w_c15
  · exact w_c16
  · exact w_c17
  · exact w_c18
  · exact w_c19
  · exact w_c20
  · exact w_c21
  · exact w_c22
set_option maxRecDepth 65536 in
theorem w_t1 : (words1.take 24).all (fun c => isCode c || c.before args0 about1) = true := by decide +kernel
set_option maxRecDepth 65536 in
theorem w_t2 : ((words1.drop 24).take 24).all (fun c => isCode c || c.before args0 about1) = true := by decide +kernel
set_option maxRecDepth 65536 in
theorem w_t3 : (((words1.drop 24).drop 24).take 24).all (fun c => isCode c || c.before args0 about1) = true := by decide +kernel
set_option maxRecDepth 65536 in
theorem w_t4 : ((((words1.drop 24).drop 24).drop 24).take 24).all (fun c => isCode c || c.before args0 about1) = true := by decide +kernel
set_option maxRecDepth 65536 in
theorem w_t5 : ((((words1.drop 24).drop 24).drop 24).drop 24).all (fun c => isCode c || c.before args0 about1) = true := by decide +kernel
theorem w_tables : (allAtoms (Jvm.Cond.code x code maxLocals ret :: tables_1)).before args0 about1 = true := by
  rw [allAtoms_all]
  show words1.all (fun c => c.before args0 about1) = true
  refine all_split ?_ w_codes
  rw [← List.take_append_drop 24 words1, List.all_append, w_t1, ← List.take_append_drop 24 (words1.drop 24), List.all_append, w_t2, ← List.take_append_drop 24 ((words1.drop 24).drop 24), List.all_append, w_t3, ← List.take_append_drop 24 (((words1.drop 24).drop 24).drop 24), List.all_append, w_t4, w_t5]
  rfl
set_option maxRecDepth 65536 in
theorem w_rest : rest_1_c.before args0 about1 = true := by decide +kernel
set_option maxRecDepth 65536 in
theorem w_case : (Jvm.Cond.and given_1 narrow_1).before args0 about1 = true := by decide +kernel
theorem w_applies : (headSpec (Jvm.Cond.code x code maxLocals ret :: tables_1) room_1).applies x e0.platform about1 = true :=
  (Spec.applies_iff w_frames).mpr ⟨w_running, w_runnable, w_alone, w_named, w_hears, w_ripe, w_room, w_tables⟩
theorem atStart : AtStart classFile x code maxLocals ret World_1 tables_1 room_1 Calls_1 rest_1 Pre_1 launch0 p0 e0 about1 theMethod args0 below0 :=
  ⟨lists_1, trivial, launch0.admits_env _ _ _, launch0.least_env, fairChoices_fair.cas, fairChoices_fair.clock, w_frames, w_args, w_heap, w_applies, trivial, w_rest, w_case⟩
end start1
theorem witness_1 : WitnessClaimed_1 := ⟨start1.p0, start1.e0, start1.about1, start1.theMethod, start1.args0, start1.below0, start1.atStart⟩
end Jvm.Pilot.@@N@@
