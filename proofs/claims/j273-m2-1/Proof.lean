import JvmDerived
import JvmDerived.Pilot.@@N@@Statement
import JvmDerived.Pilot.@@N@@Code
set_option linter.unusedVariables false
set_option linter.unusedSimpArgs false
namespace Jvm.RoadKit
open Sem ClassFile Op Lib Jvm.Stand Jvm.Free Jvm.LawKit
section New
variable {p : Program} {l : Launch} {e : Env} {R : Room} {s : State} {m : MethodId} {args : Array Value} {below : List Frame} {meth : Method} {c : Code} {T : State} {locs : List Loc} {cells slots : Nat}
theorem retI (X : Stand p l e R s m args below meth c T locs cells slots) (hx : p.tables.exec = Jvm.exec) {pc : Nat} {Ls : Array Slot} {z : Int32} {rest : List Value} (hret : meth.sig.returnType = some .int) (hd : decode c.code pc = .ok (.ireturn, 1)) {fs : List Frame}
    (hl : ∀ (f : JFrame) (acts : List Action), f.method = m → f.locked = none → f.entered = [] → (doReturn e (T.setTop f) acts (some (.int z))).1 = T.setFrames fs) : Steps p.tables e below (T.setTop (mkF m pc Ls (.int z :: rest))) (T.setFrames fs) := by
  have hm' : T.vm.method? m = some meth := X.method'
  have hn : narrow .int (.int z) = .int z := rfl
  show Steps p.tables e below (T.setTop { method := m, pc := pc, locals := Ls, stack := _ :: rest, locked := none }) _
  jvm_step X.here [X.here.top, hx, hd, hm', hret, hn]
  first | (intro acts; rw [hl _ acts rfl rfl rfl]) | rw [hl _ _ rfl rfl rfl]
  exact Steps.refl _
end New
end Jvm.RoadKit
/- laws to paste: Road.backV, Road.lenW, Road.chN (cut by pick.py; bodies as the Statement names them) -/
namespace Jvm.Pilot.@@N@@
namespace StrChars
open Jvm Sem ClassFile Op Lib Jvm.Stand Jvm.Free.XT Jvm.Free.ALB Jvm.Free.JM Jvm.Free
open Jvm.Lib.Cold (StaticIs)
/-- a char array whose places are chars -/
def Ch (a : Addr) (A : Cell) (U : State) : Prop := Arr .char a A U ∧ Typed .char A
theorem Ch.mv {a : Addr} {A : Cell} {U U' : State} (h : Ch a A U) (hal : U.vm.Alike U'.vm) (hh : U'.heap = U.heap) : Ch a A U' := ⟨h.1.mv hal hh, h.2⟩
theorem Ch.keep {a : Addr} {A : Cell} {U U' : State} (h : Ch a A U) (hal : U.vm.Alike U'.vm) (hk : U'.heap[a]? = some A) : Ch a A U' := ⟨h.1.keep hal hk, h.2⟩
/-- what place i of a char[]'s cell holds -/
def cv (A : Cell) (i : Nat) : Int32 := match A.slots[i]? with | some (.int x) => x | _ => 0
theorem Ch.get {a : Addr} {A : Cell} {U : State} (h : Ch a A U) {i : Nat} (hi : i < A.slots.size) : A.slots[i]? = some (.int (cv A i)) := by
  have e := Array.getElem?_eq_getElem hi
  have f := h.2 i _ e
  unfold cv; rw [e]
  generalize A.slots[i] = v at f
  cases v <;> simp [fits] at f ⊢
/-- the byte that i2b leaves of a char -/
def lo8 (x : Int32) : Int32 := x.toInt8.toInt32
theorem fits_lo8 (y : Int32) : fits .byte (.int (lo8 y)) = true := by
  have h1 := y.toInt8.le_toInt
  have h2 := y.toInt8.toInt_lt
  simp only [lo8, fits, Bool.and_eq_true, decide_eq_true_eq, Int32.le_iff_toInt_le, Int8.toInt_toInt32, show (-128 : Int32).toInt = -128 from by decide, show (127 : Int32).toInt = 127 from by decide]
  omega
/-- A' is A but that each place j of lo .. hi - 1 holds f j -/
def Laid (A A' : Cell) (lo hi : Nat) (f : Nat → Value) : Prop := A'.cls = A.cls ∧ A'.vm = A.vm ∧ A'.slots.size = A.slots.size ∧ ∀ i, A'.slots[i]? = if lo ≤ i ∧ i < hi then some (f i) else A.slots[i]?
theorem Laid.zero (A : Cell) (lo : Nat) (f : Nat → Value) : Laid A A lo (lo + 0) f := ⟨rfl, rfl, rfl, fun i => by rw [if_neg (by omega)]⟩
theorem Laid.step {A Ak : Cell} {lo k : Nat} {f : Nat → Value} {v : Value} (h : Laid A Ak lo k f) (hlo : lo ≤ k) (hk : k < Ak.slots.size) (hv : v = f k) : Laid A (Ak.setSlot k v) lo (k + 1) f := by
  refine ⟨h.1, h.2.1, by simpa [Cell.setSlot] using h.2.2.1, fun i => ?_⟩
  by_cases e : k = i
  · subst e; rw [Cell.slots_setSlot_self v hk, if_pos (by omega), hv]
  · rw [Cell.slots_setSlot_ne v e, h.2.2.2 i]
    by_cases q : lo ≤ i ∧ i < k
    · rw [if_pos q, if_pos (by omega)]
    · rw [if_neg q, if_neg (by omega)]
def U16 : String := "java/lang/StringUTF16"
namespace Cmp5
def yN : MethodName := ⟨"java/lang/StringUTF16", "compress", "([CI[BII)I"⟩
abbrev yB : ByteArray := jdk_52_method_21_code
theorem d0 : decode yB 0 = .ok (.iconst 0, 1) := by decide +kernel
theorem d1 : decode yB 1 = .ok (.istore 5, 2) := by decide +kernel
theorem d3 : decode yB 3 = .ok (.iload 5, 2) := by decide +kernel
theorem d5 : decode yB 5 = .ok (.iload 4, 2) := by decide +kernel
theorem d7 : decode yB 7 = .ok (.if_icmp (.ge) 37, 3) := by decide +kernel
theorem d10 : decode yB 10 = .ok (.aload_n 0, 1) := by decide +kernel
theorem d11 : decode yB 11 = .ok (.iload_n 1, 1) := by decide +kernel
theorem d12 : decode yB 12 = .ok (.caload, 1) := by decide +kernel
theorem d13 : decode yB 13 = .ok (.istore 6, 2) := by decide +kernel
theorem d15 : decode yB 15 = .ok (.iload 6, 2) := by decide +kernel
theorem d17 : decode yB 17 = .ok (.sipush 255, 3) := by decide +kernel
theorem d20 : decode yB 20 = .ok (.if_icmp (.le) 6, 3) := by decide +kernel
theorem d26 : decode yB 26 = .ok (.aload_n 2, 1) := by decide +kernel
theorem d27 : decode yB 27 = .ok (.iload_n 3, 1) := by decide +kernel
theorem d28 : decode yB 28 = .ok (.iload 6, 2) := by decide +kernel
theorem d30 : decode yB 30 = .ok (.i2b, 1) := by decide +kernel
theorem d31 : decode yB 31 = .ok (.bastore, 1) := by decide +kernel
theorem d32 : decode yB 32 = .ok (.iinc 1 1, 3) := by decide +kernel
theorem d35 : decode yB 35 = .ok (.iinc 3 1, 3) := by decide +kernel
theorem d38 : decode yB 38 = .ok (.iinc 5 1, 3) := by decide +kernel
theorem d41 : decode yB 41 = .ok (.goto (-38), 3) := by decide +kernel
theorem d44 : decode yB 44 = .ok (.iload 4, 2) := by decide +kernel
theorem d46 : decode yB 46 = .ok (.ireturn, 1) := by decide +kernel
def site : List Cond := []
def tab : Cond := tabOf yN yB 7 (some .int) site
def P (b : Addr) (A : Cell) (d : Addr) (B : Cell) (o q len : Nat) (args : Array Value) (s : State) : Prop := args = #[.ref b, .int (Int32.ofNat o), .ref d, .int (Int32.ofNat q), .int (Int32.ofNat len)] ∧ Ch b A s ∧ Arr .byte d B s ∧ b ≠ d ∧ o + len ≤ A.slots.size ∧ q + len ≤ B.slots.size ∧ ∀ i, i < len → ¬ 255 < cv A (o + i)
def E (b : Addr) (A : Cell) (d : Addr) (B : Cell) (o q len : Nat) (r : Option Value) (s u : State) : Prop := r = some (.int (Int32.ofNat len)) ∧ ∃ B', Put d B' s u ∧ Laid B B' q (q + len) (fun j => Value.int (lo8 (cv A (o + (j - q)))))
/-- no char of the range above 255: len; the places written hold each char's low byte -/
theorem law (l : Launch) (b : Addr) (A : Cell) (d : Addr) (B : Cell) (o q len : Nat) : Law l yN 5 5 0 0 yB 7 (some .int) site (P b A d B o q len) (E b A d B o q len) (copyLocs d q len) 0 0 := by
  refine Law.of_walk (plainFor_of_name (by decide +kernel)) (by decide +kernel) (by decide +kernel) (by decide) (fun _ _ h => by rw [h.1]; rfl) (fun _ U U' hal hh h => ⟨h.1, h.2.1.mv hal hh, h.2.2.1.mv hal hh, h.2.2.2⟩) (fun r U U' V V' h1 hal h2 h => ⟨h.1, h.2.elim fun B' q => ⟨B', q.1.mv h1 h2, q.2⟩⟩) ?_
  intro p e s m args below meth c s₁ X0 hexec hbytes hml hret hlk hnm hown hh0 W hP
  obtain ⟨rfl, hA, hB, hne, l1, l2, hp⟩ := hP
  have c1 : Steps p.tables e below (s₁.setTop (entryFrame m #[.ref b, .int (Int32.ofNat o), .ref d, .int (Int32.ofNat q), .int (Int32.ofNat len)] 7)) (s₁.setTop (mkF m 0 #[.val (.ref b), .val (.int (Int32.ofNat o)), .val (.ref d), .val (.int (Int32.ofNat q)), .val (.int (Int32.ofNat len)), .unset, .unset] [])) := entry rfl
  have hA0 := hA.1.mv X0.warmed.alike hh0
  have hB0 := hB.mv X0.warmed.alike hh0
  have a31 := hA.1.2.2.2
  have c2 : Steps p.tables e below (s₁.setTop (entryFrame m #[.ref b, .int (Int32.ofNat o), .ref d, .int (Int32.ofNat q), .int (Int32.ofNat len)] 7)) (s₁.setTop (mkF m 3 #[.val (.ref b), .val (.int (Int32.ofNat o)), .val (.ref d), .val (.int (Int32.ofNat q)), .val (.int (Int32.ofNat len)), .val (.int 0), .unset] [])) := c1.trans (by
    refine iconstV X0.here hexec rfl 0 (hb hbytes d0) (by decide) ?_
    refine XS.istore X0.here hexec rfl (hb hbytes d1) rfl rfl ?_
    exact Steps.refl _)
  have loop : ∀ (r i : Nat), i + r = len → ∀ (z : Slot), (z = .unset ∨ ∃ w, z = .val w ∧ w.category = 1) → ∀ (Tl : State) (Bk : Cell), Stand p l e { frames := 0, locals := 0, cells := 0, slots := 0 } s m #[.ref b, .int (Int32.ofNat o), .ref d, .int (Int32.ofNat q), .int (Int32.ofNat len)] below meth c Tl ([] ++ copyLocs d q i) 0 0 → Put d Bk s₁ Tl → Laid B Bk q (q + i) (fun j => Value.int (lo8 (cv A (o + (j - q))))) →
      Steps p.tables e below (s₁.setTop (entryFrame m #[.ref b, .int (Int32.ofNat o), .ref d, .int (Int32.ofNat q), .int (Int32.ofNat len)] 7)) (Tl.setTop (mkF m 3 #[.val (.ref b), .val (.int (Int32.ofNat (o + i))), .val (.ref d), .val (.int (Int32.ofNat (q + i))), .val (.int (Int32.ofNat len)), .val (.int (Int32.ofNat i)), z] [])) → ∃ (T' : State) (B' : Cell) (z' : Slot), Stand p l e { frames := 0, locals := 0, cells := 0, slots := 0 } s m #[.ref b, .int (Int32.ofNat o), .ref d, .int (Int32.ofNat q), .int (Int32.ofNat len)] below meth c T' ([] ++ copyLocs d q len) 0 0 ∧ Put d B' s₁ T' ∧ Laid B B' q (q + len) (fun j => Value.int (lo8 (cv A (o + (j - q))))) ∧
      Steps p.tables e below (s₁.setTop (entryFrame m #[.ref b, .int (Int32.ofNat o), .ref d, .int (Int32.ofNat q), .int (Int32.ofNat len)] 7)) (T'.setTop (mkF m 3 #[.val (.ref b), .val (.int (Int32.ofNat (o + len))), .val (.ref d), .val (.int (Int32.ofNat (q + len))), .val (.int (Int32.ofNat len)), .val (.int (Int32.ofNat len)), z'] [])) := by
    intro r
    induction r with
    | zero =>
      intro i hi z hz Tl Bk Xl pl fl cl
      have hil : i = len := by omega
      rw [hil] at Xl fl cl
      exact ⟨Tl, Bk, z, Xl, pl, fl, cl⟩
    | succ r ih =>
      intro i hi z hz Tl Bk Xl pl fl cl
      have all := X0.warmed.alike.symm.trans Xl.warmed.alike
      have hAl := hA0.keep all (pl.other hne hA0.1)
      have hBk := hB0.like all pl.1 fl.1 fl.2.1 fl.2.2.1
      have hlt : q + i < Bk.slots.size := by rw [fl.2.2.1]; omega
      have c3 : Steps p.tables e below (s₁.setTop (entryFrame m #[.ref b, .int (Int32.ofNat o), .ref d, .int (Int32.ofNat q), .int (Int32.ofNat len)] 7)) (Tl.setTop (mkF m 12 #[.val (.ref b), .val (.int (Int32.ofNat (o + i))), .val (.ref d), .val (.int (Int32.ofNat (q + i))), .val (.int (Int32.ofNat len)), .val (.int (Int32.ofNat i)), z] [.int (Int32.ofNat (o + i)), .ref b])) := cl.trans (by
        refine XS.iload Xl.here hexec rfl (hb hbytes d3) rfl ?_
        refine XS.iload Xl.here hexec rfl (hb hbytes d5) rfl ?_
        refine XS.icmpNo Xl.here hexec rfl (hb hbytes d7) rfl (ii_ge_f (lt32 (by omega) (by omega))) ?_
        refine XS.aloadN Xl.here hexec rfl (hb hbytes d10) rfl rfl ?_
        refine XS.iloadN Xl.here hexec rfl (hb hbytes d11) rfl ?_
        exact Steps.refl _)
      have c4 : Steps p.tables e below (s₁.setTop (entryFrame m #[.ref b, .int (Int32.ofNat o), .ref d, .int (Int32.ofNat q), .int (Int32.ofNat len)] 7)) (Tl.setTop (mkF m 13 #[.val (.ref b), .val (.int (Int32.ofNat (o + i))), .val (.ref d), .val (.int (Int32.ofNat (q + i))), .val (.int (Int32.ofNat len)), .val (.int (Int32.ofNat i)), z] [.int (cv A (o + i))])) := c3.trans (by
        refine Xl.aget hexec hAl rfl (hA.get (i := o + i) (by omega)) rfl rfl (hb hbytes d12) ?_
        exact Steps.refl _)
      have c5 : Steps p.tables e below (s₁.setTop (entryFrame m #[.ref b, .int (Int32.ofNat o), .ref d, .int (Int32.ofNat q), .int (Int32.ofNat len)] 7)) (Tl.setTop (mkF m 15 #[.val (.ref b), .val (.int (Int32.ofNat (o + i))), .val (.ref d), .val (.int (Int32.ofNat (q + i))), .val (.int (Int32.ofNat len)), .val (.int (Int32.ofNat i)), .val (.int (cv A (o + i)))] [])) := c4.trans (by
        refine XS.istoreS Xl.here hexec rfl (hb hbytes d13) rfl rfl hz ?_
        exact Steps.refl _)
      have c6 : Steps p.tables e below (s₁.setTop (entryFrame m #[.ref b, .int (Int32.ofNat o), .ref d, .int (Int32.ofNat q), .int (Int32.ofNat len)] 7)) (Tl.setTop (mkF m 31 #[.val (.ref b), .val (.int (Int32.ofNat (o + i))), .val (.ref d), .val (.int (Int32.ofNat (q + i))), .val (.int (Int32.ofNat len)), .val (.int (Int32.ofNat i)), .val (.int (cv A (o + i)))] [.int (lo8 (cv A (o + i))), .int (Int32.ofNat (q + i)), .ref d])) := c5.trans (by
        refine XS.iload Xl.here hexec rfl (hb hbytes d15) rfl ?_
        refine sipushV Xl.here hexec rfl 255 (hb hbytes d17) (by decide) ?_
        refine XS.icmpYes Xl.here hexec rfl (pc0 := 20) rfl (hb hbytes d20) rfl (ii_le_t (hp i (by omega))) (by decide) rfl ?_
        refine XS.aloadN Xl.here hexec rfl (hb hbytes d26) rfl rfl ?_
        refine XS.iloadN Xl.here hexec rfl (hb hbytes d27) rfl ?_
        refine XS.iload Xl.here hexec rfl (hb hbytes d28) rfl ?_
        refine i2b Xl.here hexec rfl (hb hbytes d30) rfl ?_
        exact Steps.refl _)
      obtain ⟨T7, X7, p7, st7⟩ := Xl.aput hexec hBk rfl hlt rfl (fits_lo8 (cv A (o + i))) (g := (mkF m 31 #[.val (.ref b), .val (.int (Int32.ofNat (o + i))), .val (.ref d), .val (.int (Int32.ofNat (q + i))), .val (.int (Int32.ofNat len)), .val (.int (Int32.ofNat i)), .val (.int (cv A (o + i)))] [.int (lo8 (cv A (o + i))), .int (Int32.ofNat (q + i)), .ref d])) rfl (rest := []) rfl (hb hbytes d31)
      have c8 : Steps p.tables e below (s₁.setTop (entryFrame m #[.ref b, .int (Int32.ofNat o), .ref d, .int (Int32.ofNat q), .int (Int32.ofNat len)] 7)) (T7.setTop (mkF m 32 #[.val (.ref b), .val (.int (Int32.ofNat (o + i))), .val (.ref d), .val (.int (Int32.ofNat (q + i))), .val (.int (Int32.ofNat len)), .val (.int (Int32.ofNat i)), .val (.int (cv A (o + i)))] [])) := c6.trans (st7 _ (Steps.refl _))
      have c9 : Steps p.tables e below (s₁.setTop (entryFrame m #[.ref b, .int (Int32.ofNat o), .ref d, .int (Int32.ofNat q), .int (Int32.ofNat len)] 7)) (T7.setTop (mkF m 3 #[.val (.ref b), .val (.int (Int32.ofNat (o + i) + 1)), .val (.ref d), .val (.int (Int32.ofNat (q + i) + 1)), .val (.int (Int32.ofNat len)), .val (.int (Int32.ofNat i + 1)), .val (.int (cv A (o + i)))] [])) := c8.trans (by
        refine iincV X7.here hexec rfl 1 (hb hbytes d32) (by decide) rfl rfl ?_
        refine iincV X7.here hexec rfl 1 (hb hbytes d35) (by decide) rfl rfl ?_
        refine iincV X7.here hexec rfl 1 (hb hbytes d38) (by decide) rfl rfl ?_
        refine XS.goto X7.here hexec rfl (pc0 := 41) rfl (hb hbytes d41) (by decide) rfl ?_
        exact Steps.refl _)
      have c10 : Steps p.tables e below (s₁.setTop (entryFrame m #[.ref b, .int (Int32.ofNat o), .ref d, .int (Int32.ofNat q), .int (Int32.ofNat len)] 7)) (T7.setTop (mkF m 3 #[.val (.ref b), .val (.int (Int32.ofNat (o + (i + 1)))), .val (.ref d), .val (.int (Int32.ofNat (q + (i + 1)))), .val (.int (Int32.ofNat len)), .val (.int (Int32.ofNat (i + 1))), .val (.int (cv A (o + i)))] [])) := by
        have := c9
        rw [succ32, succ32, succ32] at this
        exact this
      exact ih (i + 1) (by omega) _ (Or.inr ⟨_, rfl, rfl⟩) T7 _ (by rw [copyLocs_step, ← List.append_assoc]; exact X7) (pl.trans p7) (fl.step (by omega) hlt (by simp)) c10
  obtain ⟨T9, B9, z9, X9, p9, f9, g9⟩ := loop len 0 (by omega) .unset (Or.inl rfl) s₁ B (by simpa [copyLocs] using X0) ⟨hB0.1, fun _ _ => rfl, rfl⟩ (Laid.zero _ _ _) c2
  have c11 : Steps p.tables e below (s₁.setTop (entryFrame m #[.ref b, .int (Int32.ofNat o), .ref d, .int (Int32.ofNat q), .int (Int32.ofNat len)] 7)) (T9.setTop (mkF m 46 #[.val (.ref b), .val (.int (Int32.ofNat (o + len))), .val (.ref d), .val (.int (Int32.ofNat (q + len))), .val (.int (Int32.ofNat len)), .val (.int (Int32.ofNat len)), z9] [.int (Int32.ofNat len)])) := g9.trans (by
    refine XS.iload X9.here hexec rfl (hb hbytes d3) rfl ?_
    refine XS.iload X9.here hexec rfl (hb hbytes d5) rfl ?_
    refine XS.icmpYes X9.here hexec rfl (pc0 := 7) rfl (hb hbytes d7) rfl (ii_ge_t (nlt32 (by omega) (Nat.le_refl _))) (by decide) rfl ?_
    refine XS.iload X9.here hexec rfl (hb hbytes d44) rfl ?_
    exact Steps.refl _)
  exact ⟨T9, some (.int (Int32.ofNat len)), _, _, _, X9, by simp, rfl, rfl, (fun h => by cases h), ⟨rfl, B9, p9.from hh0, f9⟩, fun fs hl => c11.trans (X9.ireturnOut hexec hret rfl (Or.inl rfl) (hb hbytes d46) hl)⟩
end Cmp5
namespace Cmp3
def yN : MethodName := ⟨"java/lang/StringUTF16", "compress", "([CII)[B"⟩
abbrev yB : ByteArray := jdk_52_method_16_code
theorem d0 : decode yB 0 = .ok (.iload_n 2, 1) := by decide +kernel
theorem d1 : decode yB 1 = .ok (.newarray .byte, 2) := by decide +kernel
theorem d3 : decode yB 3 = .ok (.astore_n 3, 1) := by decide +kernel
theorem d4 : decode yB 4 = .ok (.aload_n 0, 1) := by decide +kernel
theorem d5 : decode yB 5 = .ok (.iload_n 1, 1) := by decide +kernel
theorem d6 : decode yB 6 = .ok (.aload_n 3, 1) := by decide +kernel
theorem d7 : decode yB 7 = .ok (.iconst 0, 1) := by decide +kernel
theorem d8 : decode yB 8 = .ok (.iload_n 2, 1) := by decide +kernel
theorem d9 : decode yB 9 = .ok (.invokestatic 115, 3) := by decide +kernel
theorem d12 : decode yB 12 = .ok (.istore 4, 2) := by decide +kernel
theorem d14 : decode yB 14 = .ok (.iload 4, 2) := by decide +kernel
theorem d16 : decode yB 16 = .ok (.iload_n 2, 1) := by decide +kernel
theorem d17 : decode yB 17 = .ok (.if_icmp (.eq) 40, 3) := by decide +kernel
theorem d57 : decode yB 57 = .ok (.aload_n 3, 1) := by decide +kernel
theorem d58 : decode yB 58 = .ok (.areturn, 1) := by decide +kernel
def site : List Cond := [.arrayClass .byte, Cmp5.tab] ++ staticW U16 115 Cmp5.yN
def tab : Cond := tabOf yN yB 6 (some (.array .byte)) site
def P (b : Addr) (A : Cell) (o len : Nat) (args : Array Value) (s : State) : Prop := args = #[.ref b, .int (Int32.ofNat o), .int (Int32.ofNat len)] ∧ Ch b A s ∧ o + len ≤ A.slots.size ∧ len ≤ 536870912 ∧ ∀ i, i < len → ¬ 255 < cv A (o + i)
def E (b : Addr) (A : Cell) (o len : Nat) (r : Option Value) (s u : State) : Prop := NewArr .byte "[B" len (fun j => .int (lo8 (cv A (o + j)))) r s u ∧ u.heap.size = s.heap.size + 1
/-- no char of the range above 255: a new byte[] of their low bytes -/
theorem law (l : Launch) (b : Addr) (A : Cell) (o len : Nat) : Law l yN 3 3 1 18 yB 6 (some (.array .byte)) site (P b A o len) (E b A o len) [] 1 len := by
  refine Law.of_walk (plainFor_of_name (by decide +kernel)) (by decide +kernel) (by decide +kernel) (by decide) (fun _ _ h => by rw [h.1]; rfl) (fun _ U U' hal hh h => ⟨h.1, h.2.1.mv hal hh, h.2.2⟩) (fun r U U' V V' h1 hal h2 h => ⟨NewArr.mv r U U' V V' h1 hal h2 h.1, by rw [h1, h2]; exact h.2⟩) ?_
  intro p e s m args below meth c s₁ X0 hexec hbytes hml hret hlk hnm hown hh0 W hP
  obtain ⟨rfl, hA, l1, l2, hp⟩ := hP
  have a31 := hA.1.2.2.2
  have c1 : Steps p.tables e below (s₁.setTop (entryFrame m #[.ref b, .int (Int32.ofNat o), .int (Int32.ofNat len)] 6)) (s₁.setTop (mkF m 0 #[.val (.ref b), .val (.int (Int32.ofNat o)), .val (.int (Int32.ofNat len)), .unset, .unset, .unset] [])) := entry rfl
  have c2 : Steps p.tables e below (s₁.setTop (entryFrame m #[.ref b, .int (Int32.ofNat o), .int (Int32.ofNat len)] 6)) (s₁.setTop (mkF m 1 #[.val (.ref b), .val (.int (Int32.ofNat o)), .val (.int (Int32.ofNat len)), .unset, .unset, .unset] [.int (Int32.ofNat len)])) := c1.trans (by
    refine XS.iloadN X0.here hexec rfl (hb hbytes d0) rfl ?_
    exact Steps.refl _)
  obtain ⟨T3, B3, X3, ba3, bs3, bv3, bh3, bf3, st3⟩ := X0.anew hexec (atype := .byte) (wk W (.arrayClass .byte)) rfl (by show len * 1 ≤ _; omega) (by omega) (g := (mkF m 1 #[.val (.ref b), .val (.int (Int32.ofNat o)), .val (.int (Int32.ofNat len)), .unset, .unset, .unset] [.int (Int32.ofNat len)])) rfl (hb hbytes d1) (rest := []) rfl (Nat.le_refl _) (by show 0 + len ≤ len; omega)
  rw [hh0] at ba3 st3
  have kp3 : XT.Kept s T3 := (XT.Kept.of_eq hh0).push bh3
  have hA3 := hA.keep X3.warmed.alike (kp3 _ _ hA.1.1)
  have hne : b ≠ s.heap.size := hA.1.ne
  have c4 : Steps p.tables e below (s₁.setTop (entryFrame m #[.ref b, .int (Int32.ofNat o), .int (Int32.ofNat len)] 6)) (T3.setTop (mkF m 3 #[.val (.ref b), .val (.int (Int32.ofNat o)), .val (.int (Int32.ofNat len)), .unset, .unset, .unset] [.ref s.heap.size])) := c2.trans (st3 _ (Steps.refl _))
  have c5 : Steps p.tables e below (s₁.setTop (entryFrame m #[.ref b, .int (Int32.ofNat o), .int (Int32.ofNat len)] 6)) (T3.setTop (mkF m 9 #[.val (.ref b), .val (.int (Int32.ofNat o)), .val (.int (Int32.ofNat len)), .val (.ref s.heap.size), .unset, .unset] [.int (Int32.ofNat len), .int 0, .ref s.heap.size, .int (Int32.ofNat o), .ref b])) := c4.trans (by
    refine XS.astoreN X3.here hexec rfl (hb hbytes d3) rfl rfl rfl ?_
    refine XS.aloadN X3.here hexec rfl (hb hbytes d4) rfl rfl ?_
    refine XS.iloadN X3.here hexec rfl (hb hbytes d5) rfl ?_
    refine XS.aloadN X3.here hexec rfl (hb hbytes d6) rfl rfl ?_
    refine iconstV X3.here hexec rfl 0 (hb hbytes d7) (by decide) ?_
    refine XS.iloadN X3.here hexec rfl (hb hbytes d8) rfl ?_
    exact Steps.refl _)
  obtain ⟨v6, T6, X6, E6, g6⟩ := X3.callS hexec (Cmp5.law l b A s.heap.size B3 o 0 len) hown (wks W (staticW U16 115 Cmp5.yN)) (wk W Cmp5.tab) (W := 0) (Nat.le_of_ble_eq_true rfl) (Nat.le_of_ble_eq_true rfl) (Nat.le_refl _) (by show 0 + len + 0 ≤ len; omega) (g := (mkF m 9 #[.val (.ref b), .val (.int (Int32.ofNat o)), .val (.int (Int32.ofNat len)), .val (.ref s.heap.size), .unset, .unset] [.int (Int32.ofNat len), .int (Int32.ofNat 0), .ref s.heap.size, .int (Int32.ofNat o), .ref b])) rfl (by rw [hml]; rfl) c5 (argsL := [.ref b, .int (Int32.ofNat o), .ref s.heap.size, .int (Int32.ofNat 0), .int (Int32.ofNat len)]) (rest := []) rfl rfl (by show 2 * 0 + 0 ≤ _; decide) (hb hbytes d9) (⟨rfl, hA3, ba3, hne, l1, by rw [bs3]; simp, hp⟩)
  obtain ⟨rfl, B6, p6, f6⟩ := E6
  have c7 : Steps p.tables e below (s₁.setTop (entryFrame m #[.ref b, .int (Int32.ofNat o), .int (Int32.ofNat len)] 6)) (T6.setTop (mkF m 12 #[.val (.ref b), .val (.int (Int32.ofNat o)), .val (.int (Int32.ofNat len)), .val (.ref s.heap.size), .unset, .unset] [.int (Int32.ofNat len)])) := g6
  have c8 : Steps p.tables e below (s₁.setTop (entryFrame m #[.ref b, .int (Int32.ofNat o), .int (Int32.ofNat len)] 6)) (T6.setTop (mkF m 58 #[.val (.ref b), .val (.int (Int32.ofNat o)), .val (.int (Int32.ofNat len)), .val (.ref s.heap.size), .val (.int (Int32.ofNat len)), .unset] [.ref s.heap.size])) := c7.trans (by
    refine XS.istore X6.here hexec rfl (hb hbytes d12) rfl rfl ?_
    refine XS.iload X6.here hexec rfl (hb hbytes d14) rfl ?_
    refine XS.iloadN X6.here hexec rfl (hb hbytes d16) rfl ?_
    refine XS.icmpYes X6.here hexec rfl (pc0 := 17) rfl (hb hbytes d17) rfl (ii_eq_t rfl) (by decide) rfl ?_
    refine XS.aloadN X6.here hexec rfl (hb hbytes d57) rfl rfl ?_
    exact Steps.refl _)
  have X8 := X6.wide (L' := []) (cells' := 1) (slots' := len) (fun x hx hlt => by
    simp only [List.nil_append, copyLocs, List.mem_map, List.mem_range] at hx
    obtain ⟨i, -, rfl⟩ := hx
    exact absurd hlt (Nat.lt_irrefl _)) (Nat.le_refl _) (by omega)
  exact ⟨T6, some (.ref s.heap.size), _, _, _, X8, rfl, rfl, rfl, (fun h => by cases h), ⟨⟨rfl, B6, ba3.like (X3.warmed.alike.symm.trans X6.warmed.alike) p6.1 f6.1 f6.2.1 f6.2.2.1, f6.2.1.trans bv3, by rw [X6.warmed.alike.findClass, f6.1]; exact bf3, by rw [f6.2.2.1, bs3]; simp, fun j hj => by rw [f6.2.2.2 j, if_pos (by omega)]; rfl, kp3.put p6 (Nat.le_refl _)⟩, by rw [p6.2.2, bh3, hh0]; simp⟩, fun fs hl => c8.trans (X8.areturnOut hexec rfl hret rfl (hb hbytes d58) hl)⟩
end Cmp3
namespace CodL
def yN : MethodName := ⟨"java/lang/StringUTF16", "coderFromArrayLen", "([BI)B"⟩
abbrev yB : ByteArray := jdk_52_method_15_code
theorem d0 : decode yB 0 = .ok (.iload_n 1, 1) := by decide +kernel
theorem d1 : decode yB 1 = .ok (.aload_n 0, 1) := by decide +kernel
theorem d2 : decode yB 2 = .ok (.arraylength, 1) := by decide +kernel
theorem d3 : decode yB 3 = .ok (.isub, 1) := by decide +kernel
theorem d4 : decode yB 4 = .ok (.bipush 31, 2) := by decide +kernel
theorem d6 : decode yB 6 = .ok (.iushr, 1) := by decide +kernel
theorem d7 : decode yB 7 = .ok (.i2b, 1) := by decide +kernel
theorem d8 : decode yB 8 = .ok (.ireturn, 1) := by decide +kernel
def site : List Cond := []
def tab : Cond := tabOf yN yB 2 (some .byte) site
def P (d : Addr) (B : Cell) (args : Array Value) (s : State) : Prop := args = #[.ref d, .int (Int32.ofNat B.slots.size)] ∧ Arr .byte d B s
def E (r : Option Value) (s u : State) : Prop := XT.PureE (some (.int 0)) r s u
/-- an array as long as the number of chars: LATIN1 -/
theorem law (l : Launch) (d : Addr) (B : Cell) : Law l yN 2 2 0 0 yB 2 (some .byte) site (P d B) E [] 0 0 := by
  refine Law.of_walk (plainFor_of_name (by decide +kernel)) (by decide +kernel) (by decide +kernel) (by decide) (fun _ _ h => by rw [h.1]; rfl) (fun _ U U' hal hh h => ⟨h.1, h.2.mv hal hh⟩) (fun r U U' V V' h1 hal h2 h => XT.PureE.mv r U U' V V' h1 hal h2 h) ?_
  intro p e s m args below meth c s₁ X0 hexec hbytes hml hret hlk hnm hown hh0 W hP
  obtain ⟨rfl, hB⟩ := hP
  have hB0 := hB.mv X0.warmed.alike hh0
  have c1 : Steps p.tables e below (s₁.setTop (entryFrame m #[.ref d, .int (Int32.ofNat B.slots.size)] 2)) (s₁.setTop (mkF m 0 #[.val (.ref d), .val (.int (Int32.ofNat B.slots.size))] [])) := entry rfl
  have c2 : Steps p.tables e below (s₁.setTop (entryFrame m #[.ref d, .int (Int32.ofNat B.slots.size)] 2)) (s₁.setTop (mkF m 2 #[.val (.ref d), .val (.int (Int32.ofNat B.slots.size))] [.ref d, .int (Int32.ofNat B.slots.size)])) := c1.trans (by
    refine XS.iloadN X0.here hexec rfl (hb hbytes d0) rfl ?_
    refine XS.aloadN X0.here hexec rfl (hb hbytes d1) rfl rfl ?_
    exact Steps.refl _)
  have c3 : Steps p.tables e below (s₁.setTop (entryFrame m #[.ref d, .int (Int32.ofNat B.slots.size)] 2)) (s₁.setTop (mkF m 8 #[.val (.ref d), .val (.int (Int32.ofNat B.slots.size))] [.int (lo8 (ushr (Int32.ofNat B.slots.size - Int32.ofNat B.slots.size) 31))])) := c2.trans (by
    refine X0.alen hexec hB0 rfl rfl (hb hbytes d2) ?_
    refine XS.isub X0.here hexec rfl (hb hbytes d3) rfl ?_
    refine bipushV X0.here hexec rfl 31 (hb hbytes d4) (by decide) ?_
    refine iushr X0.here hexec rfl (hb hbytes d6) rfl ?_
    refine i2b X0.here hexec rfl (hb hbytes d7) rfl ?_
    exact Steps.refl _)
  have e0 : lo8 (ushr (Int32.ofNat B.slots.size - Int32.ofNat B.slots.size) 31) = 0 := by rw [Int32.sub_self]; decide
  rw [e0] at c3
  exact ⟨s₁, some (.int 0), _, _, _, X0, rfl, rfl, rfl, (fun h => by cases h), ⟨rfl, hh0⟩, fun fs hl => c3.trans (X0.ireturnOut hexec hret rfl (Or.inr (Or.inr (Or.inl rfl))) (hb hbytes d8) hl)⟩
end CodL
/-- the String at a is Latin-1 over a new byte[] (the heap's one new cell): the low bytes of the len chars of A from o on; every cell but a is kept -/
def Got (a : Addr) (D : Cell) (fV fC : Field) (A : Cell) (o len : Nat) (r : Option Value) (s u : State) : Prop := r = none ∧ ∃ D' V : Cell, Blank "java/lang/String" a D' u ∧ Same D D' [fV.slot, fC.slot] ∧ D'.slots[fV.slot]? = some (.ref s.heap.size) ∧ D'.slots[fC.slot]? = some (.int 0) ∧ Arr .byte s.heap.size V u ∧ V.vm = .none ∧ u.vm.findClass "[B" = some V.cls ∧ V.slots.size = len ∧ (∀ j, j < len → V.slots[j]? = some (.int (lo8 (cv A (o + j))))) ∧ (∀ (y : Addr) (c : Cell), y ≠ a → s.heap[y]? = some c → u.heap[y]? = some c) ∧ u.heap.size = s.heap.size + 1
theorem Got.mv {a : Addr} {D A : Cell} {fV fC : Field} {o len : Nat} : ∀ r (U U' V V' : State), U'.heap = U.heap → V.vm.Alike V'.vm → V'.heap = V.heap → Got a D fV fC A o len r U V → Got a D fV fC A o len r U' V' :=
  fun r U U' V V' h1 hal h2 ⟨e0, D', X, a1, a2, a3, a4, a5, a6, a7, a8, a9, a10, a11⟩ => ⟨e0, D', X, a1.mv hal h2, a2, by rw [h1]; exact a3, a4, by rw [h1]; exact a5.mv hal h2, a6, by rw [hal.findClass]; exact a7, a8, a9, by rw [h1, h2]; exact a10, by rw [h1, h2]; exact a11⟩
namespace New4
def yN : MethodName := ⟨"java/lang/String", "<init>", "([CIILjava/lang/Void;)V"⟩
abbrev yB : ByteArray := jdk_42_method_149_code
theorem d0 : decode yB 0 = .ok (.aload_n 0, 1) := by decide +kernel
theorem d1 : decode yB 1 = .ok (.invokespecial 1, 3) := by decide +kernel
theorem d4 : decode yB 4 = .ok (.iload_n 3, 1) := by decide +kernel
theorem d5 : decode yB 5 = .ok (.ifCond (.ne) 22, 3) := by decide +kernel
theorem d27 : decode yB 27 = .ok (.getstatic 38, 3) := by decide +kernel
theorem d30 : decode yB 30 = .ok (.ifCond (.eq) 28, 3) := by decide +kernel
theorem d33 : decode yB 33 = .ok (.aload_n 1, 1) := by decide +kernel
theorem d34 : decode yB 34 = .ok (.iload_n 2, 1) := by decide +kernel
theorem d35 : decode yB 35 = .ok (.iload_n 3, 1) := by decide +kernel
theorem d36 : decode yB 36 = .ok (.invokestatic 177, 3) := by decide +kernel
theorem d39 : decode yB 39 = .ok (.astore 5, 2) := by decide +kernel
theorem d41 : decode yB 41 = .ok (.aload_n 0, 1) := by decide +kernel
theorem d42 : decode yB 42 = .ok (.aload 5, 2) := by decide +kernel
theorem d44 : decode yB 44 = .ok (.iload_n 3, 1) := by decide +kernel
theorem d45 : decode yB 45 = .ok (.invokestatic 47, 3) := by decide +kernel
theorem d48 : decode yB 48 = .ok (.putfield 15, 3) := by decide +kernel
theorem d51 : decode yB 51 = .ok (.aload_n 0, 1) := by decide +kernel
theorem d52 : decode yB 52 = .ok (.aload 5, 2) := by decide +kernel
theorem d54 : decode yB 54 = .ok (.putfield 9, 3) := by decide +kernel
theorem d57 : decode yB 57 = .ok (.return_, 1) := by decide +kernel
def site : List Cond := [.fieldLink "java/lang/String" 38 "java/lang/String" "COMPACT_STRINGS" "Z", Cmp3.tab, CodL.tab, .laysFinal "java/lang/String" "java/lang/String" "value" "[B", .fieldLink "java/lang/String" 9 "java/lang/String" "value" "[B", .laysFinal "java/lang/String" "java/lang/String" "coder" "B", .fieldLink "java/lang/String" 15 "java/lang/String" "coder" "B"] ++ objW "java/lang/String" 1 ++ staticW "java/lang/String" 177 Cmp3.yN ++ staticW "java/lang/String" 47 CodL.yN
def tab : Cond := tabOf yN yB 6 none site
def P (a : Addr) (D : Cell) (fV fC : Field) (b : Addr) (A : Cell) (z : Int32) (o len : Nat) (args : Array Value) (s : State) : Prop := args = #[.ref a, .ref b, .int (Int32.ofNat o), .int (Int32.ofNat len), .null] ∧ Blank "java/lang/String" a D s ∧ Found "java/lang/String" "value" "[B" fV s ∧ Found "java/lang/String" "coder" "B" fC s ∧ Ch b A s ∧ StaticIs s "java/lang/String" "COMPACT_STRINGS" "Z" (.int z) ∧ ¬ z = 0 ∧ 0 < len ∧ o + len ≤ A.slots.size ∧ len ≤ 536870912 ∧ ∀ i, i < len → ¬ 255 < cv A (o + i)
def E (a : Addr) (D : Cell) (fV fC : Field) (A : Cell) (o len : Nat) (r : Option Value) (s u : State) : Prop := Got a D fV fC A o len r s u
/-- len > 0, no char of the range above 255: a Latin-1 String of their low bytes -/
theorem law (l : Launch) (a : Addr) (D : Cell) (fV fC : Field) (b : Addr) (A : Cell) (z : Int32) (o len : Nat) : Law l yN 5 4 2 35 yB 6 none site (P a D fV fC b A z o len) (E a D fV fC A o len) [⟨a, fC.slot⟩, ⟨a, fV.slot⟩] 1 len := by
  refine Law.of_walk (plainFor_of_name (by decide +kernel)) (by decide +kernel) (by decide +kernel) (by decide) (fun _ _ h => by rw [h.1]; rfl) (fun _ U U' hal hh h => ⟨h.1, h.2.1.mv hal hh, h.2.2.1.al hal, h.2.2.2.1.al hal, h.2.2.2.2.1.mv hal hh, h.2.2.2.2.2.1.there hal hh, h.2.2.2.2.2.2⟩) (fun r U U' V V' h1 hal h2 h => Got.mv r U U' V V' h1 hal h2 h) ?_
  intro p e s m args below meth c s₁ X0 hexec hbytes hml hret hlk hnm hown hh0 W hP
  obtain ⟨rfl, hB, f1, f2, hA, s1, hz, l0, l1, l2, hp⟩ := hP
  have a31 := hA.1.2.2.2
  have c1 : Steps p.tables e below (s₁.setTop (entryFrame m #[.ref a, .ref b, .int (Int32.ofNat o), .int (Int32.ofNat len), .null] 6)) (s₁.setTop (mkF m 0 #[.val (.ref a), .val (.ref b), .val (.int (Int32.ofNat o)), .val (.int (Int32.ofNat len)), .val .null, .unset] [])) := entry rfl
  have c2 : Steps p.tables e below (s₁.setTop (entryFrame m #[.ref a, .ref b, .int (Int32.ofNat o), .int (Int32.ofNat len), .null] 6)) (s₁.setTop (mkF m 1 #[.val (.ref a), .val (.ref b), .val (.int (Int32.ofNat o)), .val (.int (Int32.ofNat len)), .val .null, .unset] [.ref a])) := c1.trans (by
    refine XS.aloadN X0.here hexec rfl (hb hbytes d0) rfl rfl ?_
    exact Steps.refl _)
  obtain ⟨T3, X3, q3, st3⟩ := X0.oinit hexec hown (wks W (objW "java/lang/String" 1)) (g := (mkF m 1 #[.val (.ref a), .val (.ref b), .val (.int (Int32.ofNat o)), .val (.int (Int32.ofNat len)), .val .null, .unset] [.ref a])) rfl (by rw [hml]; rfl) (rest := []) rfl (hb hbytes d1) (W := 0) (by show 2 * 0 + 0 ≤ _; decide) (Nat.le_of_ble_eq_true rfl) (Nat.le_of_ble_eq_true rfl)
  have hh3 := q3.trans hh0
  have c4 : Steps p.tables e below (s₁.setTop (entryFrame m #[.ref a, .ref b, .int (Int32.ofNat o), .int (Int32.ofNat len), .null] 6)) (T3.setTop (mkF m 27 #[.val (.ref a), .val (.ref b), .val (.int (Int32.ofNat o)), .val (.int (Int32.ofNat len)), .val .null, .unset] [])) := (c2.trans (st3 _ (Steps.refl _))).trans (by
    refine XS.iloadN X3.here hexec rfl (hb hbytes d4) rfl ?_
    refine XS.ifYes X3.here hexec rfl (pc0 := 5) rfl (hb hbytes d5) rfl (i0_ne_t (nz32 (by omega) l0)) (by decide) rfl ?_
    exact Steps.refl _)
  obtain ⟨T5, X5, q5, st5⟩ := X3.sget hexec hown (wk W (.fieldLink "java/lang/String" 38 "java/lang/String" "COMPACT_STRINGS" "Z")) s1 (fun _ _ h => by rw [hh3]; exact h) (g := (mkF m 27 #[.val (.ref a), .val (.ref b), .val (.int (Int32.ofNat o)), .val (.int (Int32.ofNat len)), .val .null, .unset] [])) rfl (hb hbytes d27)
  have hh5 := q5.trans hh3
  have c6 : Steps p.tables e below (s₁.setTop (entryFrame m #[.ref a, .ref b, .int (Int32.ofNat o), .int (Int32.ofNat len), .null] 6)) (T5.setTop (mkF m 30 #[.val (.ref a), .val (.ref b), .val (.int (Int32.ofNat o)), .val (.int (Int32.ofNat len)), .val .null, .unset] [.int z])) := c4.trans (st5 _ (Steps.refl _))
  have c7 : Steps p.tables e below (s₁.setTop (entryFrame m #[.ref a, .ref b, .int (Int32.ofNat o), .int (Int32.ofNat len), .null] 6)) (T5.setTop (mkF m 36 #[.val (.ref a), .val (.ref b), .val (.int (Int32.ofNat o)), .val (.int (Int32.ofNat len)), .val .null, .unset] [.int (Int32.ofNat len), .int (Int32.ofNat o), .ref b])) := c6.trans (by
    refine XS.ifNo X5.here hexec rfl (hb hbytes d30) rfl (i0_eq_f hz) ?_
    refine XS.aloadN X5.here hexec rfl (hb hbytes d33) rfl rfl ?_
    refine XS.iloadN X5.here hexec rfl (hb hbytes d34) rfl ?_
    refine XS.iloadN X5.here hexec rfl (hb hbytes d35) rfl ?_
    exact Steps.refl _)
  obtain ⟨v8, T8, X8, E8, g8⟩ := X5.callS hexec (Cmp3.law l b A o len) hown (wks W (staticW "java/lang/String" 177 Cmp3.yN)) (wk W Cmp3.tab) (W := 0) (Nat.le_of_ble_eq_true rfl) (Nat.le_of_ble_eq_true rfl) (Nat.le_refl _) (by show 0 + len ≤ len; omega) (g := (mkF m 36 #[.val (.ref a), .val (.ref b), .val (.int (Int32.ofNat o)), .val (.int (Int32.ofNat len)), .val .null, .unset] [.int (Int32.ofNat len), .int (Int32.ofNat o), .ref b])) rfl (by rw [hml]; rfl) c7 (argsL := [.ref b, .int (Int32.ofNat o), .int (Int32.ofNat len)]) (rest := []) rfl rfl (by show 2 * 0 + 0 ≤ _; decide) (hb hbytes d36) (⟨rfl, hA.mv X5.warmed.alike hh5, l1, l2, hp⟩)
  obtain ⟨e8, z8⟩ := E8
  obtain ⟨rfl, N, n1, n2, n3, n4, n5, n6⟩ := NewArr.mv _ T5 s _ _ hh5.symm (Vm.Alike.refl _) rfl e8
  rw [hh5] at z8
  have hB1 := hB.keep X8.warmed.alike (n6 _ _ hB.1)
  have hne : s.heap.size ≠ a := (Nat.ne_of_lt (Array.getElem?_eq_some_iff.mp hB.1).1).symm
  have c9 : Steps p.tables e below (s₁.setTop (entryFrame m #[.ref a, .ref b, .int (Int32.ofNat o), .int (Int32.ofNat len), .null] 6)) (T8.setTop (mkF m 39 #[.val (.ref a), .val (.ref b), .val (.int (Int32.ofNat o)), .val (.int (Int32.ofNat len)), .val .null, .unset] [.ref s.heap.size])) := g8
  have c10 : Steps p.tables e below (s₁.setTop (entryFrame m #[.ref a, .ref b, .int (Int32.ofNat o), .int (Int32.ofNat len), .null] 6)) (T8.setTop (mkF m 45 #[.val (.ref a), .val (.ref b), .val (.int (Int32.ofNat o)), .val (.int (Int32.ofNat len)), .val .null, .val (.ref s.heap.size)] [.int (Int32.ofNat N.slots.size), .ref s.heap.size, .ref a])) := by
    have hc : Steps p.tables e below (s₁.setTop (entryFrame m #[.ref a, .ref b, .int (Int32.ofNat o), .int (Int32.ofNat len), .null] 6)) (T8.setTop (mkF m 45 #[.val (.ref a), .val (.ref b), .val (.int (Int32.ofNat o)), .val (.int (Int32.ofNat len)), .val .null, .val (.ref s.heap.size)] [.int (Int32.ofNat len), .ref s.heap.size, .ref a])) := c9.trans (by
      refine XS.astore X8.here hexec rfl (hb hbytes d39) rfl rfl rfl ?_
      refine XS.aloadN X8.here hexec rfl (hb hbytes d41) rfl rfl ?_
      refine XS.aload X8.here hexec rfl (hb hbytes d42) rfl rfl ?_
      refine XS.iloadN X8.here hexec rfl (hb hbytes d44) rfl ?_
      exact Steps.refl _)
    rw [n4]; exact hc
  obtain ⟨v11, T11, X11, E11, g11⟩ := X8.callS hexec (CodL.law l s.heap.size N) hown (wks W (staticW "java/lang/String" 47 CodL.yN)) (wk W CodL.tab) (W := 1) (Nat.le_of_ble_eq_true rfl) (Nat.le_of_ble_eq_true rfl) (Nat.le_refl _) (by show 0 + len + 0 ≤ len; omega) (g := (mkF m 45 #[.val (.ref a), .val (.ref b), .val (.int (Int32.ofNat o)), .val (.int (Int32.ofNat len)), .val .null, .val (.ref s.heap.size)] [.int (Int32.ofNat N.slots.size), .ref s.heap.size, .ref a])) rfl (by rw [hml]; rfl) c10 (argsL := [.ref s.heap.size, .int (Int32.ofNat N.slots.size)]) (rest := [.ref a]) rfl rfl (by show 2 * 0 + (1 + 0) ≤ _; decide) (hb hbytes d45) (⟨rfl, n1⟩)
  obtain ⟨rfl, q11⟩ := E11
  have hB11 := hB1.mv (X8.warmed.alike.symm.trans X11.warmed.alike) q11
  have c12 : Steps p.tables e below (s₁.setTop (entryFrame m #[.ref a, .ref b, .int (Int32.ofNat o), .int (Int32.ofNat len), .null] 6)) (T11.setTop (mkF m 48 #[.val (.ref a), .val (.ref b), .val (.int (Int32.ofNat o)), .val (.int (Int32.ofNat len)), .val .null, .val (.ref s.heap.size)] [.int 0, .ref a])) := g11
  obtain ⟨T13, X13, p13, bl13, sl13, st13⟩ := X11.finit hexec hown (wk W (.fieldLink "java/lang/String" 15 "java/lang/String" "coder" "B")) (Or.inr ⟨_, (wk W (.laysFinal "java/lang/String" "java/lang/String" "coder" "B"))⟩) (Or.inl ⟨rfl, hnm⟩) f2 (Or.inl rfl) hB11 (t := .byte) (by decide +kernel) rfl (g := (mkF m 48 #[.val (.ref a), .val (.ref b), .val (.int (Int32.ofNat o)), .val (.int (Int32.ofNat len)), .val .null, .val (.ref s.heap.size)] [.int 0, .ref a])) rfl (rest := []) rfl (hb hbytes d48)
  have c14 : Steps p.tables e below (s₁.setTop (entryFrame m #[.ref a, .ref b, .int (Int32.ofNat o), .int (Int32.ofNat len), .null] 6)) (T13.setTop (mkF m 54 #[.val (.ref a), .val (.ref b), .val (.int (Int32.ofNat o)), .val (.int (Int32.ofNat len)), .val .null, .val (.ref s.heap.size)] [.ref s.heap.size, .ref a])) := (c12.trans (st13 _ (Steps.refl _))).trans (by
    refine XS.aloadN X13.here hexec rfl (hb hbytes d51) rfl rfl ?_
    refine XS.aload X13.here hexec rfl (hb hbytes d52) rfl rfl ?_
    exact Steps.refl _)
  obtain ⟨T15, X15, p15, bl15, sl15, st15⟩ := X13.finit hexec hown (wk W (.fieldLink "java/lang/String" 9 "java/lang/String" "value" "[B")) (Or.inr ⟨_, (wk W (.laysFinal "java/lang/String" "java/lang/String" "value" "[B"))⟩) (Or.inl ⟨rfl, hnm⟩) f1 (Or.inl rfl) bl13 (t := (.array .byte)) (by decide +kernel) rfl (g := (mkF m 54 #[.val (.ref a), .val (.ref b), .val (.int (Int32.ofNat o)), .val (.int (Int32.ofNat len)), .val .null, .val (.ref s.heap.size)] [.ref s.heap.size, .ref a])) rfl (rest := []) rfl (hb hbytes d54)
  have c16 : Steps p.tables e below (s₁.setTop (entryFrame m #[.ref a, .ref b, .int (Int32.ofNat o), .int (Int32.ofNat len), .null] 6)) (T15.setTop (mkF m 57 #[.val (.ref a), .val (.ref b), .val (.int (Int32.ofNat o)), .val (.int (Int32.ofNat len)), .val .null, .val (.ref s.heap.size)] [])) := c14.trans (st15 _ (Steps.refl _))
  have ap := apart (Or.inr ⟨_, (wk W (.laysFinal "java/lang/String" "java/lang/String" "value" "[B"))⟩) (Or.inr ⟨_, (wk W (.laysFinal "java/lang/String" "java/lang/String" "coder" "B"))⟩) f1 f2 (t₁ := .array .byte) (t₂ := .byte) (by decide +kernel) (by decide +kernel) (by decide)
  have al := X8.warmed.alike.symm.trans X15.warmed.alike
  have n7 : T11.heap[s.heap.size]? = some N := by rw [q11]; exact n1.1
  exact ⟨T15, none, _, _, _, X15, by simp, rfl, by omega, (fun _ => rfl), ⟨rfl, _, N, bl15, ((Same.refl D _).set _ (by simp)).set _ (by simp), sl15, (Cell.slots_setSlot_ne _ ap).trans sl13, n1.keep al (p15.other hne (p13.other hne n7)), n2, by rw [al.findClass]; exact n3, n4, n5, fun y c h1 h2 => p15.other h1 (p13.other h1 (by rw [q11]; exact n6 y c h2)), by rw [p15.2.2, p13.2.2, q11]; exact z8⟩, fun fs hl => c16.trans (X15.returnOut hexec hret (hb hbytes d57) hl)⟩
end New4
namespace New1
def yN : MethodName := ⟨"java/lang/String", "<init>", "([C)V"⟩
abbrev yB : ByteArray := jdk_42_method_3_code
theorem d0 : decode yB 0 = .ok (.aload_n 0, 1) := by decide +kernel
theorem d1 : decode yB 1 = .ok (.aload_n 1, 1) := by decide +kernel
theorem d2 : decode yB 2 = .ok (.iconst 0, 1) := by decide +kernel
theorem d3 : decode yB 3 = .ok (.aload_n 1, 1) := by decide +kernel
theorem d4 : decode yB 4 = .ok (.arraylength, 1) := by decide +kernel
theorem d5 : decode yB 5 = .ok (.aconst_null, 1) := by decide +kernel
theorem d6 : decode yB 6 = .ok (.invokespecial 27, 3) := by decide +kernel
theorem d9 : decode yB 9 = .ok (.return_, 1) := by decide +kernel
def site : List Cond := [New4.tab] ++ initW "java/lang/String" 27 New4.yN
def tab : Cond := tabOf yN yB 2 none site
def P (a : Addr) (D : Cell) (fV fC : Field) (b : Addr) (A : Cell) (z : Int32) (args : Array Value) (s : State) : Prop := args = #[.ref a, .ref b] ∧ Blank "java/lang/String" a D s ∧ Found "java/lang/String" "value" "[B" fV s ∧ Found "java/lang/String" "coder" "B" fC s ∧ Ch b A s ∧ StaticIs s "java/lang/String" "COMPACT_STRINGS" "Z" (.int z) ∧ ¬ z = 0 ∧ 0 < A.slots.size ∧ A.slots.size ≤ 536870912 ∧ ∀ i, i < A.slots.size → ¬ 255 < cv A i
def E (a : Addr) (D : Cell) (fV fC : Field) (A : Cell) (r : Option Value) (s u : State) : Prop := Got a D fV fC A 0 A.slots.size r s u
/-- new String(chars), not empty, no char above 255: a Latin-1 String of their low bytes -/
theorem law (l : Launch) (a : Addr) (D : Cell) (fV fC : Field) (b : Addr) (A : Cell) (z : Int32) : Law l yN 2 1 3 52 yB 2 none site (P a D fV fC b A z) (E a D fV fC A) [⟨a, fC.slot⟩, ⟨a, fV.slot⟩] 1 A.slots.size := by
  refine Law.of_walk (plainFor_of_name (by decide +kernel)) (by decide +kernel) (by decide +kernel) (by decide) (fun _ _ h => by rw [h.1]; rfl) (fun _ U U' hal hh h => ⟨h.1, h.2.1.mv hal hh, h.2.2.1.al hal, h.2.2.2.1.al hal, h.2.2.2.2.1.mv hal hh, h.2.2.2.2.2.1.there hal hh, h.2.2.2.2.2.2⟩) (fun r U U' V V' h1 hal h2 h => Got.mv r U U' V V' h1 hal h2 h) ?_
  intro p e s m args below meth c s₁ X0 hexec hbytes hml hret hlk hnm hown hh0 W hP
  obtain ⟨rfl, hB, f1, f2, hA, s1, hz, l0, l2, hp⟩ := hP
  have c1 : Steps p.tables e below (s₁.setTop (entryFrame m #[.ref a, .ref b] 2)) (s₁.setTop (mkF m 0 #[.val (.ref a), .val (.ref b)] [])) := entry rfl
  have c2 : Steps p.tables e below (s₁.setTop (entryFrame m #[.ref a, .ref b] 2)) (s₁.setTop (mkF m 6 #[.val (.ref a), .val (.ref b)] [.null, .int (Int32.ofNat A.slots.size), .int 0, .ref b, .ref a])) := c1.trans (by
    refine XS.aloadN X0.here hexec rfl (hb hbytes d0) rfl rfl ?_
    refine XS.aloadN X0.here hexec rfl (hb hbytes d1) rfl rfl ?_
    refine iconstV X0.here hexec rfl 0 (hb hbytes d2) (by decide) ?_
    refine XS.aloadN X0.here hexec rfl (hb hbytes d3) rfl rfl ?_
    refine X0.alen hexec (hA.1.mv X0.warmed.alike hh0) rfl rfl (hb hbytes d4) ?_
    refine XS.aconstNull X0.here hexec rfl (hb hbytes d5) ?_
    exact Steps.refl _)
  obtain ⟨v3, T3, X3, E3, g3⟩ := X0.callN hexec (New4.law l a D fV fC b A z 0 A.slots.size) rfl hown (wks W (initW "java/lang/String" 27 New4.yN)) (W New4.tab (by simp only [site, List.mem_cons, List.mem_append, true_or, or_true])) (W := 0) (Nat.le_of_ble_eq_true rfl) (Nat.le_of_ble_eq_true rfl) (Nat.le_refl _) (by show 0 + A.slots.size ≤ A.slots.size; omega) (g := (mkF m 6 #[.val (.ref a), .val (.ref b)] [.null, .int (Int32.ofNat A.slots.size), .int (Int32.ofNat 0), .ref b, .ref a])) rfl (by rw [hml]; rfl) c2 (argsL := [.ref b, .int (Int32.ofNat 0), .int (Int32.ofNat A.slots.size), .null]) (rest := []) rfl rfl (by show 2 * 0 + 0 ≤ _; decide) (hb hbytes d6) (⟨rfl, hB.mv X0.warmed.alike hh0, f1.al X0.warmed.alike, f2.al X0.warmed.alike, hA.mv X0.warmed.alike hh0, s1.there X0.warmed.alike hh0, hz, l0, by omega, l2, fun i hi => by rw [Nat.zero_add]; exact hp i hi⟩)
  have e0 := Got.mv _ s₁ s _ _ hh0.symm (Vm.Alike.refl _) rfl E3
  obtain rfl := e0.1
  have c4 : Steps p.tables e below (s₁.setTop (entryFrame m #[.ref a, .ref b] 2)) (T3.setTop (mkF m 9 #[.val (.ref a), .val (.ref b)] [])) := g3
  exact ⟨T3, none, _, _, _, X3, by simp, rfl, by omega, (fun _ => rfl), e0, fun fs hl => c4.trans (X3.returnOut hexec hret (hb hbytes d9) hl)⟩
theorem pays {l : Launch} {R : Room} {p : Program} {e : Env} {below : List Frame} {s : State} {sargs : Array Value} {len W : Nat} (a : Addr) (D : Cell) (fV fC : Field) (b : Addr) (A : Cell) (z : Int32) (htab : tab.before sargs s = true) (hfr : 4 ≤ R.frames) (hlo : W + 65 ≤ R.locals) :
    Back l R p e below s sargs yN len W (fun A₁ a₁ => A₁.cells + 1 ≤ R.cells ∧ A₁.slots + A.slots.size ≤ R.slots ∧ P a D fV fC b A z a₁ A₁.U) (fun A₁ _ v₁ B₁ => E a D fV fC A v₁ A₁.U B₁.U ∧ B₁.locs = A₁.locs ++ [⟨a, fC.slot⟩, ⟨a, fV.slot⟩] ∧ B₁.cells = A₁.cells + 1 ∧ B₁.slots = A₁.slots + A.slots.size) :=
  (law l a D fV fC b A z).pays htab hfr (by omega)
end New1
/-- the byte, read back as charAt reads it, is the char -/
theorem lo8_mask {x : Int32} (h0 : ¬ x < 0) (h1 : ¬ 255 < x) : lo8 x &&& 255 = x := by
  have t : ∀ k : Fin 256, lo8 (Int32.ofNat k.val) &&& 255 = Int32.ofNat k.val := by decide +kernel
  rw [Int32.lt_iff_toInt_lt] at h0 h1
  have e0 : (0 : Int32).toInt = 0 := rfl
  have e1 : (255 : Int32).toInt = 255 := rfl
  obtain ⟨k, hk⟩ : ∃ k : Nat, x.toInt = k := ⟨x.toInt.toNat, by omega⟩
  have hx : x = Int32.ofNat k := Int32.toInt_inj.mp (by rw [hk, Int32.toInt_ofNat_small (by omega)])
  rw [hx]
  exact t ⟨k, by omega⟩
end StrChars
namespace StrChars.Road
open Jvm Sem ClassFile Op Lib Jvm.Stand Jvm.Free Jvm.Free.XT
open Jvm.Lib.Cold (StaticIs)
abbrev ST : String := "java/lang/String"
/-- every table word that New1's law asks, flat -/
abbrev words : List Jvm.Cond := [.code New1.yN New1.yB 2 none, .initialized ST, .methodLink ST 27 New4.yN, .instanceMethod New4.yN,
  .code New4.yN New4.yB 6 none, .fieldLink ST 38 ST "COMPACT_STRINGS" "Z", .laysFinal ST ST "value" "[B", .fieldLink ST 9 ST "value" "[B", .laysFinal ST ST "coder" "B", .fieldLink ST 15 ST "coder" "B",
  .methodLink ST 1 Lib.objectInit, .instanceMethod Lib.objectInit, .code Lib.objectInit ⟨#[0xb1]⟩ 1 none, .methodLink ST 177 Cmp3.yN, .static Cmp3.yN, .methodLink ST 47 CodL.yN, .static CodL.yN,
  .code Cmp3.yN Cmp3.yB 6 (some (.array .byte)), .initialized U16, .arrayClass .byte, .methodLink U16 115 Cmp5.yN, .static Cmp5.yN, .code Cmp5.yN Cmp5.yB 7 (some .int), .code CodL.yN CodL.yB 2 (some .byte)]
theorem tab_of {a : Array Value} {s : State} (h : ∀ w ∈ words, w.before a s = true) : New1.tab.before a s = true := by
  have h5 : Cmp5.tab.before a s = true := unparts (wk h (.code Cmp5.yN Cmp5.yB 7 (some .int))) (wks h (.initialized Cmp5.yN.cls :: Cmp5.site))
  have hc : CodL.tab.before a s = true := unparts (wk h (.code CodL.yN CodL.yB 2 (some .byte))) (wks h (.initialized CodL.yN.cls :: CodL.site))
  have q5 : ∀ w ∈ Cmp5.tab :: words, w.before a s = true := fun w hw => (List.mem_cons.mp hw).elim (fun e => e ▸ h5) (h w)
  have h3 : Cmp3.tab.before a s = true := unparts (wk q5 (.code Cmp3.yN Cmp3.yB 6 (some (.array .byte)))) (wks q5 (.initialized Cmp3.yN.cls :: Cmp3.site))
  have q3 : ∀ w ∈ Cmp3.tab :: CodL.tab :: words, w.before a s = true := fun w hw => (List.mem_cons.mp hw).elim (fun e => e ▸ h3) fun hw => (List.mem_cons.mp hw).elim (fun e => e ▸ hc) (h w)
  have h4 : New4.tab.before a s = true := unparts (wk q3 (.code New4.yN New4.yB 6 none)) (wks q3 (.initialized New4.yN.cls :: New4.site))
  have q4 : ∀ w ∈ New4.tab :: words, w.before a s = true := fun w hw => (List.mem_cons.mp hw).elim (fun e => e ▸ h4) (h w)
  exact unparts (wk q4 (.code New1.yN New1.yB 2 none)) (wks q4 (.initialized New1.yN.cls :: New1.site))
/-- the words ride from the start Z to the walk's own state -/
theorem moved {Z s : State} {a0 args : Array Value} (hZ : Z.Warmed39 s.vm) (hw : ∀ d ∈ words, d.before a0 Z = true) : ∀ d ∈ words, d.before args s = true := fun d hd => by
  have q := hw d hd
  have t : ∀ d ∈ words, d = .arrayClass .byte ∨ (d.onTables && d.keepsFace) = true := by decide +kernel
  rcases t d hd with rfl | t
  · exact RoadKit.mvA hZ q
  · exact RoadKit.mv hZ q t
/-- WHAT COMES BACK, over the tables of the start Z: h the heap at the call, h' behind it -/
def Q (Z : State) (x : Addr) (A : Cell) (h : Heap) (v : Option Value) (h' : Heap) (L : List Loc) : Prop := v = none ∧ (∀ y ∈ L, y.base = x) ∧ RoadKit.Keep h h' [x] ∧ h'.size = h.size + 1 ∧ RoadKit.Exa Z h' x ST ∧ RoadKit.Fld Z h' x ST "value" "[B" (.ref h.size) ∧ RoadKit.Fld Z h' x ST "coder" "B" (.int 0) ∧
  (∃ V : Cell, RoadKit.Arr Z h' h.size V .byte ∧ V.vm = .none ∧ Z.vm.findClass "[B" = some V.cls ∧ V.slots.size = A.slots.size ∧ ∀ j, j < A.slots.size → V.slots[j]? = some (.int (lo8 (cv A j)))) ∧
  ∀ (O n d : String) (w : Value), RoadKit.Fld Z h x O n d w → RoadKit.slotOf Z O n d ≠ RoadKit.slotOf Z ST "value" "[B" → RoadKit.slotOf Z O n d ≠ RoadKit.slotOf Z ST "coder" "B" → RoadKit.Fld Z h' x O n d w
/-- **new String(chars) AT A CALL, IN THE ROAD'S FORM**: for specialBack behind newO: x the fresh String, b the char[] with the cell A -/
theorem back {p : Program} {l : Launch} {e : Env} {R : Room} {s : State} {args : Array Value} {below : List Frame} {len W : Nat} {Z : State} {a0 : Array Value} {h : Heap} (hZ : Z.Warmed39 s.vm) (hw : ∀ d ∈ words, d.before a0 Z = true) {kI : Nat} (wi : (Jvm.Cond.instantiable ST kI).before a0 Z = true)
    {x b : Addr} {A : Cell} {z : Int32} {v0 c0 : Value} (E : RoadKit.Exa Z h x ST) (V : RoadKit.Fld Z h x ST "value" "[B" v0) (C : RoadKit.Fld Z h x ST "coder" "B" c0) (K : RoadKit.Arr Z h b A .char) (hty : Typed .char A) (S : RoadKit.Sta Z h ST "COMPACT_STRINGS" "Z" (.int z)) (hz : ¬ z = 0)
    (l0 : 0 < A.slots.size) (l2 : A.slots.size ≤ 536870912) (hp : ∀ i, i < A.slots.size → ¬ 255 < cv A i) (hfr : 4 ≤ R.frames) (hlo : W + 65 ≤ R.locals) :
    Back l R p e below s args New1.yN len W (fun P a => a = #[.ref x, .ref b] ∧ P.U.heap = h ∧ P.cells + 1 ≤ R.cells ∧ P.slots + A.slots.size ≤ R.slots)
      (fun P _ v B => ∃ L, Q Z x A h v B.U.heap L ∧ B.locs = P.locs ++ L ∧ B.cells = P.cells + 1 ∧ B.slots = P.slots + A.slots.size) := by
  intro m meth c P g ig mk a X hg hsize hdg hW hn hp'
  obtain ⟨rfl, rfl, r1, r2⟩ := hp'
  have al : Z.vm.Alike P.U.vm := hZ.alike.trans X.warmed.alike
  obtain ⟨D, cfV, kV, iV, fV, hD, gV, stV, knV, obV, asV, slV⟩ := id V
  obtain ⟨D', cfC, kC, iC, fC, hD', gC, stC, -, -, asC, slC⟩ := id C
  cases hD.symm.trans hD'
  obtain ⟨D2, kD, e1, e2, e3, e4, e5⟩ := id E
  cases hD.symm.trans e1
  obtain ⟨c2, k2, i1, i2, i3, -⟩ := Cond.instantiable_spec wi
  cases e2.symm.trans i1
  cases e3.symm.trans i2
  obtain ⟨kU, u1, u2⟩ := al.2.2 _ _ e3
  have hB : Blank ST x D P.U := ⟨hD, ⟨knV, fun q hq => by rw [hq] at obV; cases obV⟩, by rw [al.findClass]; exact e2, kU, u1, by rw [u2]; exact i3, by rw [u2]; exact e5 i3⟩
  have F1 : Found ST "value" "[B" fV P.U := ⟨SBG.found_only al ⟨cfV, kV, iV, gV⟩, stV⟩
  have F2 : Found ST "coder" "B" fC P.U := ⟨SBG.found_only al ⟨cfC, kC, iC, gC⟩, stC⟩
  have hA : Ch b A P.U := ⟨⟨K.1, State.isArrayOf_alike al K.2.1, K.2.2, by omega⟩, hty⟩
  have hS : StaticIs P.U ST "COMPACT_STRINGS" "Z" (.int z) := by
    obtain ⟨cfS, iS, kS, fS, st, cS, t1, t2, t3, t4, t5, t6, t7⟩ := S
    exact StaticIs.there (s := { Z with heap := P.U.heap }) ⟨cfS, iS, kS, fS, st, cS, t1, t2, t3, t4, t5, (fun q => by rw [q] at t6; cases t6), t7⟩ al rfl
  obtain ⟨v, B, X', ⟨⟨hv, E', V', q1, q2, q3, q4, q5, q6, q7, q8, q9, q10, q11⟩, hl, hc, hs⟩, st⟩ := New1.pays x D fV fC b A z (tab_of (moved hZ hw)) hfr hlo m meth c P g ig mk _ X hg hsize hdg hW hn ⟨r1, r2, rfl, hB, F1, F2, hA, hS, hz, l0, l2, hp⟩
  have al' : Z.vm.Alike B.U.vm := hZ.alike.trans X'.warmed.alike
  have hsz : E'.slots.size = D.slots.size := by
    obtain ⟨-, -, -, kB, w1, w2, w3⟩ := q1
    obtain ⟨kB', y1, y2⟩ := al'.2.2 _ _ e3
    rw [q2.2.1] at w1
    cases w1.symm.trans y1
    rw [w3, e5 i3, y2]
  refine ⟨v, B, X', ⟨_, ⟨hv, ?_, ⟨by omega, fun y cy hy hn' => q10 y cy (by simpa using hn') hy, fun y cy hy => ?_⟩, q11, ⟨E', _, q1.1, by rw [q2.2.1]; exact e2, by rw [q2.2.1]; exact e3, by rw [q2.1]; exact obV, fun _ => by rw [hsz]; exact e5 i3⟩,
    ⟨E', cfV, kV, iV, fV, q1.1, gV, stV, by rw [q2.1]; exact knV, by rw [q2.1]; exact obV, by rw [q2.2.1]; exact asV, q3⟩, ⟨E', cfC, kC, iC, fC, q1.1, gC, stC, by rw [q2.1]; exact knV, by rw [q2.1]; exact obV, by rw [q2.2.1]; exact asC, q4⟩,
    ⟨V', ⟨q5.1, State.isArrayOf_alike al'.symm q5.2.1, q5.2.2.1⟩, q6, by rw [← al'.findClass]; exact q7, q8, fun j hj => by have := q9 j hj; rwa [Nat.zero_add] at this⟩, fun O n d w F n1 n2 => ?_⟩, hl, hc, hs⟩, st⟩
  · intro y hy
    simp only [List.mem_cons, List.not_mem_nil, or_false] at hy
    rcases hy with rfl | rfl <;> rfl
  · by_cases q : y = x
    · subst q
      cases hD.symm.trans hy
      exact ⟨E', q1.1, q2.2.1, q2.1, hsz⟩
    · exact ⟨cy, q10 y cy q hy, rfl, rfl, rfl⟩
  · obtain ⟨D3, cf, k, i, f, g1, g2, g3, g4, g5, g6, g7⟩ := F
    cases hD.symm.trans g1
    simp only [RoadKit.slotOf, g2, gV, gC, Option.map_some, Option.getD_some] at n1 n2
    exact ⟨E', cf, k, i, f, q1.1, g2, g3, by rw [q2.1]; exact g4, by rw [q2.1]; exact g5, by rw [q2.2.1]; exact g6, by rw [q2.2.2 f.slot (by simp [n1, n2])]; exact g7⟩
end StrChars.Road
namespace StrChars.Road
open Jvm Sem ClassFile Op Lib Jvm.Stand Jvm.Free Jvm.Free.XT
/-- WHAT COMES BACK, the byte[] as a list of values -/
def QA (Z : State) (x : Addr) (zn : Int32) (cs : List Int32) (h : Heap) (v : Option Value) (h' : Heap) (L : List Loc) : Prop := v = none ∧ (∀ y ∈ L, y.base = x) ∧ RoadKit.Keep h h' [x] ∧ h'.size = h.size + 1 ∧ RoadKit.Exa Z h' x ST ∧ RoadKit.Fld Z h' x ST "value" "[B" (.ref h.size) ∧ RoadKit.Fld Z h' x ST "coder" "B" (.int 0) ∧
  (∃ kb, Z.vm.findClass "[B" = some kb ∧ RoadKit.Arv Z h' h.size kb .byte zn (cs.map fun c => .int (lo8 c)) (.int 0)) ∧
  ∀ (O n d : String) (w : Value), RoadKit.Fld Z h x O n d w → RoadKit.slotOf Z O n d ≠ RoadKit.slotOf Z ST "value" "[B" → RoadKit.slotOf Z O n d ≠ RoadKit.slotOf Z ST "coder" "B" → RoadKit.Fld Z h' x O n d w
/-- **new String(chars) AT A CALL, THE ARRAYS AS LISTS**: the char[] at b holds cs, not empty, no char above 255 -/
theorem backArv {p : Program} {l : Launch} {e : Env} {R : Room} {s : State} {args : Array Value} {below : List Frame} {len W : Nat} {Z : State} {a0 : Array Value} {h : Heap} (hZ : Z.Warmed39 s.vm) (hw : ∀ d ∈ words, d.before a0 Z = true) {kI : Nat} (wi : (Jvm.Cond.instantiable ST kI).before a0 Z = true)
    {x b : Addr} {k : ClassId} {zn z : Int32} {cs : List Int32} {dv v0 c0 : Value} (E : RoadKit.Exa Z h x ST) (V : RoadKit.Fld Z h x ST "value" "[B" v0) (C : RoadKit.Fld Z h x ST "coder" "B" c0) (K : RoadKit.Arv Z h b k .char zn (cs.map Value.int) dv) (S : RoadKit.Sta Z h ST "COMPACT_STRINGS" "Z" (.int z)) (hz : ¬ z = 0)
    (hlen : zn.toNatClampNeg = cs.length) (h0 : 0 < cs.length) (hbig : cs.length ≤ 536870912) (hall : ∀ c ∈ cs, ¬ 255 < c) (hfr : 4 ≤ R.frames) (hlo : W + 65 ≤ R.locals) :
    Back l R p e below s args New1.yN len W (fun P a => a = #[.ref x, .ref b] ∧ P.U.heap = h ∧ P.cells + 1 ≤ R.cells ∧ P.slots + cs.length ≤ R.slots)
      (fun P _ v B => ∃ L, QA Z x zn cs h v B.U.heap L ∧ B.locs = P.locs ++ L ∧ B.cells = P.cells + 1 ∧ B.slots = P.slots + cs.length) := by
  obtain ⟨A, K1, K2, K3, K4, K5, K6⟩ := K
  have e : A.slots.size = cs.length := K3.trans hlen
  have hat : ∀ (i : Nat) (hi : i < cs.length), A.slots[i]? = some (.int cs[i]) := fun i hi => by rw [K5 i (by omega)]; simp [List.getD_eq_getElem?_getD, hi]
  have hcv : ∀ (i : Nat) (hi : i < cs.length), cv A i = cs[i] := fun i hi => by unfold cv; rw [hat i hi]
  have hty : Typed .char A := fun i v hv => by
    have hi : i < A.slots.size := (Array.getElem?_eq_some_iff.mp hv).1
    have q := K5 i hi
    rw [hv] at q
    rw [Option.some.inj q]
    exact K6 i hi
  refine Back.mono (back hZ hw wi E V C K1 hty S hz (by omega) (by omega) (fun i hi => by rw [hcv i (by omega)]; exact hall _ (List.getElem_mem _)) hfr hlo) (fun P a hp => ⟨hp.1, hp.2.1, hp.2.2.1, by rw [e]; exact hp.2.2.2⟩) (fun P a v B hp hq => ?_)
  obtain ⟨L, ⟨q1, q2, q3, q4, q5, q6, q7, ⟨V', v1, v2, v3, v4, v5⟩, q9⟩, hl, hc, hs⟩ := hq
  refine ⟨L, ⟨q1, q2, q3, q4, q5, q6, q7, ⟨V'.cls, v3, V', v1, rfl, by rw [v4, e, hlen], K4, fun i hi => ?_, fun i hi => ?_⟩, q9⟩, hl, hc, by rw [hs, e]⟩
  · have hi' : i < cs.length := by omega
    rw [v5 i (by omega), hcv i hi']; simp [List.getD_eq_getElem?_getD, hi']
  · have hi' : i < cs.length := by omega
    simp only [List.getD_eq_getElem?_getD, List.getElem?_map, List.getElem?_eq_getElem hi', Option.map_some, Option.getD_some]
    exact fits_lo8 _
end StrChars.Road
namespace StrChars.Road
open Jvm Sem ClassFile Op Lib Jvm.Stand Jvm.Free Jvm.Free.XT
/-- WHAT COMES BACK, in the writer's own shape -/
def QV (Z : State) (x : Addr) (N : Int32) (bs : List Int32) (h : Heap) (n0 : Nat) (v : Option Value) (h' : Heap) (L : List Loc) : Prop := v = none ∧ RoadKit.Fr n0 L ∧ RoadKit.Keep h h' [x] ∧ RoadKit.Exa Z h' x ST ∧ RoadKit.Fld Z h' x ST "coder" "B" (.int 0) ∧
  ∃ (t : Addr) (kb : ClassId), n0 ≤ t ∧ h.size ≤ t ∧ ¬ t = x ∧ RoadKit.Fld Z h' x ST "value" "[B" (.ref t) ∧ RoadKit.Arv Z h' t kb .byte N (bs.map Value.int) (.int 0)
/-- **new String(chars) AT A CALL, FOR THE WRITER**: a char[] of n known ints, each 0 to 255 -/
theorem backV {p : Program} {l : Launch} {e : Env} {R : Room} {s : State} {args : Array Value} {below : List Frame} {len W : Nat} {Z : State} {a0 : Array Value} {h : Heap} (hZ : Z.Warmed39 s.vm) (hw : ∀ d ∈ words, d.before a0 Z = true) {kI : Nat} (wi : (Jvm.Cond.instantiable ST kI).before a0 Z = true)
    {x b : Addr} {kC : ClassId} {cs bs : List Int32} {d v0 c0 : Value} {z N : Int32} {n n0 : Nat} (hx0 : n0 ≤ x) (hh0 : n0 ≤ h.size) (E : RoadKit.Exa Z h x ST) (V : RoadKit.Fld Z h x ST "value" "[B" v0) (C : RoadKit.Fld Z h x ST "coder" "B" c0) (K : RoadKit.Arv Z h b kC .char N (cs.map Value.int) d) (S : RoadKit.Sta Z h ST "COMPACT_STRINGS" "Z" (.int z)) (hz : ¬ z = 0)
    (hn : cs.length = n) (hN : N = Int32.ofNat n) (l0 : 0 < n) (l2 : n ≤ 4000) (hp : ∀ c ∈ cs, ¬ c < 0 ∧ ¬ (255 : Int32) < c) (hb : bs = cs.map (fun c => c.toInt8.toInt32)) (hfr : 4 ≤ R.frames) (hlo : W + 65 ≤ R.locals) :
    Back l R p e below s args (⟨"java/lang/String", "<init>", "([C)V"⟩ : MethodName) len W (fun P a => a = #[.ref x, .ref b] ∧ P.U.heap = h ∧ P.cells + 1 ≤ R.cells ∧ P.slots + n ≤ R.slots)
      (fun P _ v B => ∃ L, QV Z x N bs h n0 v B.U.heap L ∧ B.locs = P.locs ++ L ∧ B.cells = P.cells + 1 ∧ B.slots = P.slots + n) := by
  subst hn hN hb
  refine Back.mono (backArv hZ hw wi E V C K S hz (n32 (by omega)) l0 (by omega) (fun c hc => (hp c hc).2) hfr hlo) (fun P a hp => hp) (fun P a v B hp hq => ?_)
  obtain ⟨L, ⟨q1, q2, q3, q4, q5, q6, q7, ⟨kb, v1, v2⟩, q9⟩, hl, hc, hs⟩ := hq
  exact ⟨L, ⟨q1, fun y hy => by rw [q2 y hy]; exact hx0, q3, q5, q7, h.size, kb, hh0, Nat.le_refl _, Nat.ne_of_gt E.lt, q6, by rw [List.map_map]; exact v2⟩, hl, hc, hs⟩
end StrChars.Road
namespace StrChars
open Jvm Sem ClassFile Op Lib Jvm.Stand Jvm.Free.XT Jvm.Free.ALB Jvm.Free.JM Jvm.Free
open Jvm.Lib.Cold (StaticIs)
def hi8 (x : Int32) : Int32 := lo8 (x >>> ((8 : Int32) &&& 31))
/-- what StringUTF16.getChar makes of two bytes -/
def pairCh (u v : Int32) : Int32 := (((u &&& 255) <<< ((0 : Int32) &&& 31)) ||| ((v &&& 255) <<< ((8 : Int32) &&& 31))).toUInt32.toUInt16.toUInt32.toInt32
theorem shr0 (c : Int32) : c >>> ((0 : Int32) &&& 31) = c := by
  have e : ((0 : Int32) &&& 31) = 0 := by decide
  rw [e]
  apply Int32.toBitVec_inj.mp
  rw [Int32.toBitVec_shiftRight]
  have e1 : ((0 : Int32).toBitVec.smod 32) = 0#32 := by decide
  rw [e1, BitVec.sshiftRight_eq']
  exact BitVec.sshiftRight_zero
theorem lo8_and (x : Int32) : (lo8 x &&& 255).toBitVec.toNat = x.toBitVec.toNat % 256 := by
  have h : (lo8 x).toBitVec = (x.toBitVec.signExtend 8).signExtend 32 := by rw [lo8, Int8.toBitVec_toInt32, Int32.toBitVec_toInt8]
  rw [Int32.toBitVec_and, BitVec.toNat_and, h]
  have e : ((x.toBitVec.signExtend 8).signExtend 32).toNat % 256 = x.toBitVec.toNat % 256 := by
    rw [BitVec.toNat_signExtend]
    have hlt := x.toBitVec.isLt
    simp only [BitVec.toNat_setWidth, BitVec.toNat_signExtend]
    split <;> split <;> omega
  rw [← e]
  exact Nat.and_two_pow_sub_one_eq_mod _ 8
theorem pair_says {c : Int32} (h0 : ¬ c < 0) (h1 : ¬ 65535 < c) : pairCh (lo8 c) (hi8 c) = c := by
  rw [Int32.lt_iff_toInt_lt] at h0 h1
  have e0 : (0 : Int32).toInt = 0 := rfl
  have e1 : (65535 : Int32).toInt = 65535 := rfl
  have hc : c.toInt = c.toBitVec.toNat := by
    have := c.toBitVec.isLt
    have e : c.toInt = c.toBitVec.toInt := rfl
    rw [e] at h0 h1
    rw [e]
    rw [BitVec.toInt_eq_toNat_cond] at h0 h1 ⊢
    split at h0 <;> split <;> omega
  have hn : c.toBitVec.toNat < 65536 := by omega
  have a1 := lo8_and c
  have a2 : (hi8 c &&& 255).toBitVec.toNat = c.toBitVec.toNat / 256 := by
    rw [hi8, lo8_and]
    have e : ((8 : Int32) &&& 31) = 8 := by decide
    rw [e, Int32.toBitVec_shiftRight]
    have e2 : ((8 : Int32).toBitVec.smod 32) = 8#32 := by decide
    rw [e2, BitVec.sshiftRight_eq', BitVec.toNat_sshiftRight_of_msb_false (by rw [BitVec.msb_eq_false_iff_two_mul_lt]; omega)]
    show c.toBitVec.toNat >>> 8 % 256 = _
    rw [Nat.shiftRight_eq_div_pow]
    omega
  unfold pairCh
  apply Int32.toBitVec_inj.mp
  apply BitVec.eq_of_toNat_eq
  have f0 : ((0 : Int32) &&& 31) = 0 := by decide
  have f8 : ((8 : Int32) &&& 31) = 8 := by decide
  rw [f0, f8]
  have g : (((lo8 c &&& 255) <<< (0 : Int32)) ||| ((hi8 c &&& 255) <<< (8 : Int32))).toBitVec.toNat = c.toBitVec.toNat := by
    rw [Int32.toBitVec_or, Int32.toBitVec_shiftLeft, Int32.toBitVec_shiftLeft]
    have s0 : ((0 : Int32).toBitVec.smod 32) = 0#32 := by decide
    have s8 : ((8 : Int32).toBitVec.smod 32) = 8#32 := by decide
    rw [s0, s8, BitVec.toNat_or]
    simp only [BitVec.shiftLeft_eq', BitVec.toNat_shiftLeft, a1, a2]
    show (c.toBitVec.toNat % 256) <<< 0 % 2 ^ 32 ||| (c.toBitVec.toNat / 256) <<< 8 % 2 ^ 32 = _
    rw [Nat.shiftLeft_zero, Nat.mod_eq_of_lt (show c.toBitVec.toNat % 256 < 2 ^ 32 by omega), Nat.mod_eq_of_lt (show (c.toBitVec.toNat / 256) <<< 8 < 2 ^ 32 by rw [Nat.shiftLeft_eq]; omega), Nat.or_comm, ← Nat.shiftLeft_add_eq_or_of_lt (by omega), Nat.shiftLeft_eq]
    omega
  show BitVec.toNat (((((lo8 c &&& 255) <<< (0 : Int32)) ||| ((hi8 c &&& 255) <<< (8 : Int32))).toBitVec.setWidth 16).setWidth 32) = _
  rw [BitVec.toNat_setWidth, BitVec.toNat_setWidth, g]
  omega
end StrChars
namespace StrChars
open Jvm Sem ClassFile Op Lib Jvm.Stand Jvm.Free.XT Jvm.Free.ALB Jvm.Free.JM Jvm.Free
open Jvm.Lib.Cold (StaticIs)
theorem shr1 {n : Nat} (h : 2 * n < 2 ^ 31) : Int32.ofNat (2 * n) >>> ((1 : Int32) &&& 31) = Int32.ofNat n := by
  have e : ((1 : Int32) &&& 31) = 1 := by decide
  rw [e]
  apply Int32.toBitVec_inj.mp
  rw [Int32.toBitVec_shiftRight]
  have e1 : ((1 : Int32).toBitVec.smod 32) = 1#32 := by decide
  have hm : (BitVec.ofNat 32 (2 * n)).toNat = 2 * n := by rw [BitVec.toNat_ofNat, Nat.mod_eq_of_lt (by omega)]
  rw [e1, BitVec.sshiftRight_eq']
  apply BitVec.eq_of_toNat_eq
  show ((BitVec.ofNat 32 (2 * n)).sshiftRight 1).toNat = (BitVec.ofNat 32 n).toNat
  rw [BitVec.toNat_sshiftRight_of_msb_false (by rw [BitVec.msb_eq_false_iff_two_mul_lt, hm]; omega), hm, BitVec.toNat_ofNat, Nat.shiftRight_eq_div_pow]
  omega
/-- charAt's cast of a byte read back -/
def chr8 (u : Int32) : Int32 := (u &&& 255).toUInt32.toUInt16.toUInt32.toInt32
theorem chr8_lo8 {c : Int32} (h0 : ¬ c < 0) (h1 : ¬ 255 < c) : chr8 (lo8 c) = c := by
  have t : ∀ k : Fin 256, (Int32.ofNat k.val).toUInt32.toUInt16.toUInt32.toInt32 = Int32.ofNat k.val := by decide +kernel
  unfold chr8
  rw [lo8_mask h0 h1]
  rw [Int32.lt_iff_toInt_lt] at h0 h1
  have e0 : (0 : Int32).toInt = 0 := rfl
  have e1 : (255 : Int32).toInt = 255 := rfl
  obtain ⟨k, hk⟩ : ∃ k : Nat, c.toInt = k := ⟨c.toInt.toNat, by omega⟩
  have hx : c = Int32.ofNat k := Int32.toInt_inj.mp (by rw [hk, Int32.toInt_ofNat_small (by omega)])
  rw [hx]
  exact t ⟨k, by omega⟩
theorem narrow_ch {c : Int32} (h0 : ¬ c < 0) (h1 : ¬ 65535 < c) : narrow .char (.int c) = .int c := by
  have q : narrow .char (.int (pairCh (lo8 c) (hi8 c))) = .int (pairCh (lo8 c) (hi8 c)) := narrow_c _
  rwa [pair_says h0 h1] at q
/-- the array's cell V codes the n chars f 0 .. f (n - 1) by the coder cd, as the JDK does: coder 1 just where some char is above 255 -/
def Cod (cd : Int32) (n : Nat) (f : Nat → Int32) (V : Cell) : Prop := (cd = 0 ∧ V.slots.size = n ∧ ∀ j, j < n → V.slots[j]? = some (.int (lo8 (f j))) ∧ ¬ 255 < f j) ∨ (cd = 1 ∧ V.slots.size = 2 * n ∧ (∀ j, j < n → V.slots[2 * j]? = some (.int (lo8 (f j))) ∧ V.slots[2 * j + 1]? = some (.int (hi8 (f j)))) ∧ ∃ j, j < n ∧ 255 < f j)
theorem Cod.cd {cd : Int32} {n : Nat} {f : Nat → Int32} {V : Cell} (h : Cod cd n f V) : cd = 0 ∨ cd = 1 := h.imp (fun q => q.1) fun q => q.1
theorem Cod.len {cd : Int32} {n : Nat} {f : Nat → Int32} {V : Cell} (h : Cod cd n f V) (hs : V.slots.size < 2 ^ 31) : Int32.ofNat V.slots.size >>> (cd &&& 31) = Int32.ofNat n := by
  rcases h with ⟨rfl, h, -⟩ | ⟨rfl, h, -⟩
  · rw [shr0, h]
  · rw [h, shr1 (by omega)]
/-- **x is a String of the n chars f 0 .. f (n - 1)**, Latin-1 or UTF-16; its array at t has the cell V -/
def Txt (x t : Addr) (V : Cell) (cd : Int32) (n : Nat) (f : Nat → Int32) (U : State) : Prop := Exact "java/lang/String" x U ∧ Has x "java/lang/String" "value" "[B" (.ref t) U ∧ Has x "java/lang/String" "coder" "B" (.int cd) U ∧ XT.Arr .byte t V U ∧ Cod cd n f V ∧ ∀ j, j < n → ¬ f j < 0 ∧ ¬ 65535 < f j
theorem Txt.mv {x t : Addr} {V : Cell} {cd : Int32} {n : Nat} {f : Nat → Int32} {U U' : State} (h : Txt x t V cd n f U) (hal : U.vm.Alike U'.vm) (hh : U'.heap = U.heap) : Txt x t V cd n f U' := ⟨h.1.mv hal hh, h.2.1.mv hal hh, h.2.2.1.mv hal hh, h.2.2.2.1.mv hal hh, h.2.2.2.2⟩
namespace Cdr
def yN : MethodName := ⟨"java/lang/String", "coder", "()B"⟩
abbrev yB : ByteArray := jdk_42_method_152_code
theorem d0 : decode yB 0 = .ok (.getstatic 38, 3) := by decide +kernel
theorem d3 : decode yB 3 = .ok (.ifCond (.eq) 10, 3) := by decide +kernel
theorem d6 : decode yB 6 = .ok (.aload_n 0, 1) := by decide +kernel
theorem d7 : decode yB 7 = .ok (.getfield 15, 3) := by decide +kernel
theorem d10 : decode yB 10 = .ok (.goto 4, 3) := by decide +kernel
theorem d14 : decode yB 14 = .ok (.ireturn, 1) := by decide +kernel
def site : List Cond := [.fieldLink "java/lang/String" 38 "java/lang/String" "COMPACT_STRINGS" "Z", .fieldLink "java/lang/String" 15 "java/lang/String" "coder" "B"]
def tab : Cond := tabOf yN yB 1 (some .byte) site
def P (x : Addr) (cd z : Int32) (args : Array Value) (s : State) : Prop := args = #[.ref x] ∧ Has x "java/lang/String" "coder" "B" (.int cd) s ∧ (cd = 0 ∨ cd = 1) ∧ StaticIs s "java/lang/String" "COMPACT_STRINGS" "Z" (.int z) ∧ ¬ z = 0
def E (cd : Int32) (r : Option Value) (s u : State) : Prop := XT.PureE (some (.int cd)) r s u
theorem law (l : Launch) (x : Addr) (cd z : Int32) : Law l yN 1 0 0 0 yB 1 (some .byte) site (P x cd z) (E cd) [] 0 0 := by
  refine Law.of_walk (plainFor_of_name (by decide +kernel)) (by decide +kernel) (by decide +kernel) (by decide) (fun _ _ h => by rw [h.1]; rfl) (fun _ U U' hal hh h => ⟨h.1, h.2.1.mv hal hh, h.2.2.1, h.2.2.2.1.there hal hh, h.2.2.2.2⟩) (fun r U U' V V' h1 hal h2 h => XT.PureE.mv r U U' V V' h1 hal h2 h) ?_
  intro p e s m args below meth c s₁ X0 hexec hbytes hml hret hlk hnm hown hh0 W hP
  obtain ⟨rfl, hx, hc, s1, hz⟩ := hP
  have c1 : Steps p.tables e below (s₁.setTop (entryFrame m #[.ref x] 1)) (s₁.setTop (mkF m 0 #[.val (.ref x)] [])) := entry rfl
  obtain ⟨T2, X2, q2, st2⟩ := X0.sget hexec hown (wk W (.fieldLink "java/lang/String" 38 "java/lang/String" "COMPACT_STRINGS" "Z")) s1 (fun _ _ h => by rw [hh0]; exact h) (g := (mkF m 0 #[.val (.ref x)] [])) rfl (hb hbytes d0)
  have hh2 := q2.trans hh0
  have c3 : Steps p.tables e below (s₁.setTop (entryFrame m #[.ref x] 1)) (T2.setTop (mkF m 7 #[.val (.ref x)] [.ref x])) := (c1.trans (st2 _ (Steps.refl _))).trans (by
    refine XS.ifNo X2.here hexec rfl (hb hbytes d3) rfl (i0_eq_f hz) ?_
    refine XS.aloadN X2.here hexec rfl (hb hbytes d6) rfl rfl ?_
    exact Steps.refl _)
  obtain ⟨T4, X4, q4, st4⟩ := X2.hget hexec hown (wk W (.fieldLink "java/lang/String" 15 "java/lang/String" "coder" "B")) (hx.mv X2.warmed.alike hh2) (g := (mkF m 7 #[.val (.ref x)] [.ref x])) rfl (rest := []) rfl (hb hbytes d7)
  have c5 : Steps p.tables e below (s₁.setTop (entryFrame m #[.ref x] 1)) (T4.setTop (mkF m 14 #[.val (.ref x)] [.int cd])) := (c3.trans (st4 _ (Steps.refl _))).trans (by
    refine XS.goto X4.here hexec rfl (pc0 := 10) rfl (hb hbytes d10) (by decide) rfl ?_
    exact Steps.refl _)
  exact ⟨T4, some (.int cd), _, _, _, X4, rfl, rfl, rfl, (fun h => by cases h), ⟨rfl, q4.trans hh2⟩, fun fs hl => c5.trans (X4.ireturnOut hexec hret (by rcases hc with rfl | rfl <;> rfl) (Or.inr (Or.inr (Or.inl rfl))) (hb hbytes d14) hl)⟩
end Cdr
namespace Len
def yN : MethodName := ⟨"java/lang/String", "length", "()I"⟩
abbrev yB : ByteArray := jdk_42_method_54_code
theorem d0 : decode yB 0 = .ok (.aload_n 0, 1) := by decide +kernel
theorem d1 : decode yB 1 = .ok (.getfield 9, 3) := by decide +kernel
theorem d4 : decode yB 4 = .ok (.arraylength, 1) := by decide +kernel
theorem d5 : decode yB 5 = .ok (.aload_n 0, 1) := by decide +kernel
theorem d6 : decode yB 6 = .ok (.invokevirtual 335, 3) := by decide +kernel
theorem d9 : decode yB 9 = .ok (.ishr, 1) := by decide +kernel
theorem d10 : decode yB 10 = .ok (.ireturn, 1) := by decide +kernel
def site : List Cond := [.fieldLink "java/lang/String" 9 "java/lang/String" "value" "[B", Cdr.tab] ++ virtW "java/lang/String" 335 "java/lang/String" Cdr.yN Cdr.yN
def tab : Cond := tabOf yN yB 1 (some .int) site
def P (x t : Addr) (V : Cell) (cd : Int32) (n : Nat) (f : Nat → Int32) (z : Int32) (args : Array Value) (s : State) : Prop := args = #[.ref x] ∧ Txt x t V cd n f s ∧ StaticIs s "java/lang/String" "COMPACT_STRINGS" "Z" (.int z) ∧ ¬ z = 0
def E (n : Nat) (r : Option Value) (s u : State) : Prop := XT.PureE (some (.int (Int32.ofNat n))) r s u
/-- length() of a String of n chars, in either coding -/
theorem law (l : Launch) (x t : Addr) (V : Cell) (cd : Int32) (n : Nat) (f : Nat → Int32) (z : Int32) : Law l yN 1 0 1 13 yB 1 (some .int) site (P x t V cd n f z) (E n) [] 0 0 := by
  refine Law.of_walk (plainFor_of_name (by decide +kernel)) (by decide +kernel) (by decide +kernel) (by decide) (fun _ _ h => by rw [h.1]; rfl) (fun _ U U' hal hh h => ⟨h.1, h.2.1.mv hal hh, h.2.2.1.there hal hh, h.2.2.2⟩) (fun r U U' V V' h1 hal h2 h => XT.PureE.mv r U U' V V' h1 hal h2 h) ?_
  intro p e s m args below meth c s₁ X0 hexec hbytes hml hret hlk hnm hown hh0 W hP
  obtain ⟨rfl, hx, s1, hz⟩ := hP
  have v31 := hx.2.2.2.1.2.2.2
  have c1 : Steps p.tables e below (s₁.setTop (entryFrame m #[.ref x] 1)) (s₁.setTop (mkF m 1 #[.val (.ref x)] [.ref x])) := Steps.trans (entry rfl) (by
    show Steps p.tables e below (s₁.setTop (mkF m 0 #[.val (.ref x)] [])) _
    refine XS.aloadN X0.here hexec rfl (hb hbytes d0) rfl rfl ?_
    exact Steps.refl _)
  obtain ⟨T2, X2, q2, st2⟩ := X0.hget hexec hown (wk W (.fieldLink "java/lang/String" 9 "java/lang/String" "value" "[B")) (hx.mv X0.warmed.alike hh0).2.1 (g := (mkF m 1 #[.val (.ref x)] [.ref x])) rfl (rest := []) rfl (hb hbytes d1)
  have hh2 := q2.trans hh0
  have hx2 := hx.mv X2.warmed.alike hh2
  have c3 : Steps p.tables e below (s₁.setTop (entryFrame m #[.ref x] 1)) (T2.setTop (mkF m 6 #[.val (.ref x)] [.ref x, .int (Int32.ofNat V.slots.size)])) := (c1.trans (st2 _ (Steps.refl _))).trans (by
    refine X2.alen hexec hx2.2.2.2.1 rfl rfl (hb hbytes d4) ?_
    refine XS.aloadN X2.here hexec rfl (hb hbytes d5) rfl rfl ?_
    exact Steps.refl _)
  obtain ⟨v4, T4, X4, E4, g4⟩ := X2.callV hexec (Cdr.law l x cd z) hown (wks W (virtW "java/lang/String" 335 "java/lang/String" Cdr.yN Cdr.yN)) rfl (by decide) (wk W Cdr.tab) (W := 1) (Nat.le_of_ble_eq_true rfl) (Nat.le_of_ble_eq_true rfl) (Nat.le_refl _) (Nat.le_refl _) (hx2.1.fc X2.warmed.alike) hx2.1.is (g := (mkF m 6 #[.val (.ref x)] [.ref x, .int (Int32.ofNat V.slots.size)])) rfl (by rw [hml]; rfl) c3 (argsL := []) (rest := [.int (Int32.ofNat V.slots.size)]) rfl rfl (by show 2 * 0 + (1 + 0) ≤ _; decide) (hb hbytes d6) (⟨rfl, hx2.2.2.1, hx.2.2.2.2.1.cd, s1.there X2.warmed.alike hh2, hz⟩)
  obtain ⟨rfl, q4⟩ := E4
  have c5 : Steps p.tables e below (s₁.setTop (entryFrame m #[.ref x] 1)) (T4.setTop (mkF m 10 #[.val (.ref x)] [.int (Int32.ofNat V.slots.size >>> (cd &&& 31))])) := Steps.trans g4 (by
    refine ishr X4.here hexec rfl (hb hbytes d9) rfl ?_
    exact Steps.refl _)
  rw [hx.2.2.2.2.1.len v31] at c5
  exact ⟨T4, some (.int (Int32.ofNat n)), _, _, _, X4, rfl, rfl, rfl, (fun h => by cases h), ⟨rfl, q4.trans hh2⟩, fun fs hl => c5.trans (X4.ireturnOut hexec hret rfl (Or.inl rfl) (hb hbytes d10) hl)⟩
theorem pays {l : Launch} {R : Room} {p : Program} {e : Env} {below : List Frame} {s : State} {sargs : Array Value} {len W : Nat} (x t : Addr) (V : Cell) (cd : Int32) (n : Nat) (f : Nat → Int32) (z : Int32) (htab : tab.before sargs s = true) (hfr : 2 ≤ R.frames) (hlo : W + 25 ≤ R.locals) :
    Back l R p e below s sargs yN len W (fun A₁ a₁ => A₁.cells + 0 ≤ R.cells ∧ A₁.slots + 0 ≤ R.slots ∧ P x t V cd n f z a₁ A₁.U) (fun A₁ _ v₁ B₁ => E n v₁ A₁.U B₁.U ∧ B₁.locs = A₁.locs ++ [] ∧ B₁.cells = A₁.cells + 0 ∧ B₁.slots = A₁.slots + 0) :=
  (law l x t V cd n f z).pays htab hfr (by omega)
end Len
namespace IsL
def yN : MethodName := ⟨"java/lang/String", "isLatin1", "()Z"⟩
abbrev yB : ByteArray := jdk_42_method_154_code
theorem d0 : decode yB 0 = .ok (.getstatic 38, 3) := by decide +kernel
theorem d3 : decode yB 3 = .ok (.ifCond (.eq) 14, 3) := by decide +kernel
theorem d6 : decode yB 6 = .ok (.aload_n 0, 1) := by decide +kernel
theorem d7 : decode yB 7 = .ok (.getfield 15, 3) := by decide +kernel
theorem d10 : decode yB 10 = .ok (.ifCond (.ne) 7, 3) := by decide +kernel
theorem d13 : decode yB 13 = .ok (.iconst 1, 1) := by decide +kernel
theorem d14 : decode yB 14 = .ok (.goto 4, 3) := by decide +kernel
theorem d17 : decode yB 17 = .ok (.iconst 0, 1) := by decide +kernel
theorem d18 : decode yB 18 = .ok (.ireturn, 1) := by decide +kernel
def site : List Cond := [.fieldLink "java/lang/String" 38 "java/lang/String" "COMPACT_STRINGS" "Z", .fieldLink "java/lang/String" 15 "java/lang/String" "coder" "B"]
def tab : Cond := tabOf yN yB 1 (some .boolean) site
def P (x : Addr) (cd z : Int32) (args : Array Value) (s : State) : Prop := args = #[.ref x] ∧ Has x "java/lang/String" "coder" "B" (.int cd) s ∧ (cd = 0 ∨ cd = 1) ∧ StaticIs s "java/lang/String" "COMPACT_STRINGS" "Z" (.int z) ∧ ¬ z = 0
def E (cd : Int32) (r : Option Value) (s u : State) : Prop := XT.PureE (some (.int (1 - cd))) r s u
theorem law (l : Launch) (x : Addr) (cd z : Int32) : Law l yN 1 0 0 0 yB 1 (some .boolean) site (P x cd z) (E cd) [] 0 0 := by
  refine Law.of_walk (plainFor_of_name (by decide +kernel)) (by decide +kernel) (by decide +kernel) (by decide) (fun _ _ h => by rw [h.1]; rfl) (fun _ U U' hal hh h => ⟨h.1, h.2.1.mv hal hh, h.2.2.1, h.2.2.2.1.there hal hh, h.2.2.2.2⟩) (fun r U U' V V' h1 hal h2 h => XT.PureE.mv r U U' V V' h1 hal h2 h) ?_
  intro p e s m args below meth c s₁ X0 hexec hbytes hml hret hlk hnm hown hh0 W hP
  obtain ⟨rfl, hx, hc, s1, hz⟩ := hP
  have c1 : Steps p.tables e below (s₁.setTop (entryFrame m #[.ref x] 1)) (s₁.setTop (mkF m 0 #[.val (.ref x)] [])) := entry rfl
  obtain ⟨T2, X2, q2, st2⟩ := X0.sget hexec hown (wk W (.fieldLink "java/lang/String" 38 "java/lang/String" "COMPACT_STRINGS" "Z")) s1 (fun _ _ h => by rw [hh0]; exact h) (g := (mkF m 0 #[.val (.ref x)] [])) rfl (hb hbytes d0)
  have hh2 := q2.trans hh0
  have c3 : Steps p.tables e below (s₁.setTop (entryFrame m #[.ref x] 1)) (T2.setTop (mkF m 7 #[.val (.ref x)] [.ref x])) := (c1.trans (st2 _ (Steps.refl _))).trans (by
    refine XS.ifNo X2.here hexec rfl (hb hbytes d3) rfl (i0_eq_f hz) ?_
    refine XS.aloadN X2.here hexec rfl (hb hbytes d6) rfl rfl ?_
    exact Steps.refl _)
  obtain ⟨T4, X4, q4, st4⟩ := X2.hget hexec hown (wk W (.fieldLink "java/lang/String" 15 "java/lang/String" "coder" "B")) (hx.mv X2.warmed.alike hh2) (g := (mkF m 7 #[.val (.ref x)] [.ref x])) rfl (rest := []) rfl (hb hbytes d7)
  have c5 : Steps p.tables e below (s₁.setTop (entryFrame m #[.ref x] 1)) (T4.setTop (mkF m 10 #[.val (.ref x)] [.int cd])) := c3.trans (st4 _ (Steps.refl _))
  have c6 : Steps p.tables e below (s₁.setTop (entryFrame m #[.ref x] 1)) (T4.setTop (mkF m 18 #[.val (.ref x)] [.int (1 - cd)])) := by
    rcases hc with rfl | rfl
    · exact c5.trans (by
        refine XS.ifNo X4.here hexec rfl (hb hbytes d10) rfl (i0_ne_f rfl) ?_
        refine iconstV X4.here hexec rfl 1 (hb hbytes d13) (by decide) ?_
        refine XS.goto X4.here hexec rfl (pc0 := 14) rfl (hb hbytes d14) (by decide) rfl ?_
        exact Steps.refl _)
    · exact c5.trans (by
        refine XS.ifYes X4.here hexec rfl (pc0 := 10) rfl (hb hbytes d10) rfl (i0_ne_t (by decide)) (by decide) rfl ?_
        refine iconstV X4.here hexec rfl 0 (hb hbytes d17) (by decide) ?_
        exact Steps.refl _)
  exact ⟨T4, some (.int (1 - cd)), _, _, _, X4, rfl, rfl, rfl, (fun h => by cases h), ⟨rfl, q4.trans hh2⟩, fun fs hl => c6.trans (X4.ireturnOut hexec hret (by rcases hc with rfl | rfl <;> rfl) (Or.inr (Or.inl rfl)) (hb hbytes d18) hl)⟩
end IsL
namespace LChA
def yN : MethodName := ⟨"java/lang/StringLatin1", "charAt", "([BI)C"⟩
abbrev yB : ByteArray := jdk_43_method_2_code
theorem d0 : decode yB 0 = .ok (.iload_n 1, 1) := by decide +kernel
theorem d1 : decode yB 1 = .ok (.aload_n 0, 1) := by decide +kernel
theorem d2 : decode yB 2 = .ok (.arraylength, 1) := by decide +kernel
theorem d3 : decode yB 3 = .ok (.invokestatic 9, 3) := by decide +kernel
theorem d6 : decode yB 6 = .ok (.aload_n 0, 1) := by decide +kernel
theorem d7 : decode yB 7 = .ok (.iload_n 1, 1) := by decide +kernel
theorem d8 : decode yB 8 = .ok (.baload, 1) := by decide +kernel
theorem d9 : decode yB 9 = .ok (.sipush 255, 3) := by decide +kernel
theorem d12 : decode yB 12 = .ok (.iand, 1) := by decide +kernel
theorem d13 : decode yB 13 = .ok (.i2c, 1) := by decide +kernel
theorem d14 : decode yB 14 = .ok (.ireturn, 1) := by decide +kernel
def site : List Cond := [JO.Str_checkIndex.tab] ++ staticW "java/lang/StringLatin1" 9 JO.Str_checkIndex.yN
def tab : Cond := tabOf yN yB 2 (some .char) site
def P (t : Addr) (V : Cell) (i : Nat) (u : Int32) (fm : Value) (args : Array Value) (s : State) : Prop := args = #[.ref t, .int (Int32.ofNat i)] ∧ XT.Arr .byte t V s ∧ V.slots[i]? = some (.int u) ∧ (StaticIs s "jdk/internal/util/Preconditions" "SIOOBE_FORMATTER" "Ljava/util/function/BiFunction;" fm ∧ fm.isRef = true)
def E (u : Int32) (r : Option Value) (s w : State) : Prop := XT.PureE (some (.int (chr8 u))) r s w
theorem law (l : Launch) (t : Addr) (V : Cell) (i : Nat) (u : Int32) (fm : Value) : Law l yN 2 2 2 27 yB 2 (some .char) site (P t V i u fm) (E u) [] 0 0 := by
  refine Law.of_walk (plainFor_of_name (by decide +kernel)) (by decide +kernel) (by decide +kernel) (by decide) (fun _ _ h => by rw [h.1]; rfl) (fun _ U U' hal hh h => ⟨h.1, h.2.1.mv hal hh, h.2.2.1, h.2.2.2.1.there hal hh, h.2.2.2.2⟩) (fun r U U' V V' h1 hal h2 h => XT.PureE.mv r U U' V V' h1 hal h2 h) ?_
  intro p e s m args below meth c s₁ X0 hexec hbytes hml hret hlk hnm hown hh0 W hP
  obtain ⟨rfl, hV, hu, s1, rf⟩ := hP
  have v31 := hV.2.2.2
  have hi : i < V.slots.size := (Array.getElem?_eq_some_iff.mp hu).1
  have c1 : Steps p.tables e below (s₁.setTop (entryFrame m #[.ref t, .int (Int32.ofNat i)] 2)) (s₁.setTop (mkF m 0 #[.val (.ref t), .val (.int (Int32.ofNat i))] [])) := entry rfl
  have c2 : Steps p.tables e below (s₁.setTop (entryFrame m #[.ref t, .int (Int32.ofNat i)] 2)) (s₁.setTop (mkF m 3 #[.val (.ref t), .val (.int (Int32.ofNat i))] [.int (Int32.ofNat V.slots.size), .int (Int32.ofNat i)])) := c1.trans (by
    refine XS.iloadN X0.here hexec rfl (hb hbytes d0) rfl ?_
    refine XS.aloadN X0.here hexec rfl (hb hbytes d1) rfl rfl ?_
    refine X0.alen hexec (hV.mv X0.warmed.alike hh0) rfl rfl (hb hbytes d2) ?_
    exact Steps.refl _)
  obtain ⟨v3, T3, X3, E3, g3⟩ := X0.callS hexec (JO.Str_checkIndex.law l (Int32.ofNat i) (Int32.ofNat V.slots.size) fm) hown (wks W (staticW "java/lang/StringLatin1" 9 JO.Str_checkIndex.yN)) (wk W JO.Str_checkIndex.tab) (W := 0) (Nat.le_of_ble_eq_true rfl) (Nat.le_of_ble_eq_true rfl) (Nat.le_refl _) (Nat.le_refl _) (g := (mkF m 3 #[.val (.ref t), .val (.int (Int32.ofNat i))] [.int (Int32.ofNat V.slots.size), .int (Int32.ofNat i)])) rfl (by rw [hml]; rfl) c2 (argsL := [.int (Int32.ofNat i), .int (Int32.ofNat V.slots.size)]) (rest := []) rfl rfl (by show 2 * 0 + 0 ≤ _; decide) (hb hbytes d3) (⟨rfl, rf, s1.there X0.warmed.alike hh0, Int32.ofNat_not_neg (by omega), lt32 v31 hi⟩)
  obtain ⟨rfl, q3⟩ := E3
  have hh3 := q3.trans hh0
  have c4 : Steps p.tables e below (s₁.setTop (entryFrame m #[.ref t, .int (Int32.ofNat i)] 2)) (T3.setTop (mkF m 14 #[.val (.ref t), .val (.int (Int32.ofNat i))] [.int (chr8 u)])) := Steps.trans g3 (by
    refine XS.aloadN X3.here hexec rfl (hb hbytes d6) rfl rfl ?_
    refine XS.iloadN X3.here hexec rfl (hb hbytes d7) rfl ?_
    refine X3.aget hexec (hV.mv X3.warmed.alike hh3) rfl hu rfl rfl (hb hbytes d8) ?_
    refine sipushV X3.here hexec rfl 255 (hb hbytes d9) (by decide) ?_
    refine XS.iand X3.here hexec rfl (hb hbytes d12) rfl ?_
    refine i2c X3.here hexec rfl (hb hbytes d13) rfl ?_
    exact Steps.refl _)
  exact ⟨T3, some (.int (chr8 u)), _, _, _, X3, rfl, rfl, rfl, (fun h => by cases h), ⟨rfl, hh3⟩, fun fs hl => c4.trans (X3.ireturnOut hexec hret (narrow_c _) (Or.inr (Or.inr (Or.inr (Or.inl rfl)))) (hb hbytes d14) hl)⟩
end LChA
end StrChars
namespace StrChars.Road
open Jvm Sem ClassFile Op Lib Jvm.Stand Jvm.Free Jvm.Free.XT
open Jvm.Lib.Cold (StaticIs)
theorem consq {a : Array Value} {s : State} {c : Jvm.Cond} {L : List Jvm.Cond} (h0 : c.before a s = true) (h : ∀ w ∈ L, w.before a s = true) : ∀ w ∈ c :: L, w.before a s = true := fun w hw => (List.mem_cons.mp hw).elim (fun e => e ▸ h0) (h w)
/-- the words of String.length(), either coding -/
abbrev wordsLen : List Jvm.Cond := [.code Len.yN Len.yB 1 (some .int), .initialized ST, .fieldLink ST 9 ST "value" "[B", .fieldLink ST 38 ST "COMPACT_STRINGS" "Z", .fieldLink ST 15 ST "coder" "B", .code Cdr.yN Cdr.yB 1 (some .byte), .methodLink ST 335 Cdr.yN, .declares Cdr.yN, .selects ST Cdr.yN Cdr.yN, .instanceMethod Cdr.yN]
theorem tabLen_of {a : Array Value} {s : State} (h : ∀ w ∈ wordsLen, w.before a s = true) : Len.tab.before a s = true := by
  have hc : Cdr.tab.before a s = true := unparts (wk h (.code Cdr.yN Cdr.yB 1 (some .byte))) (wks h (.initialized Cdr.yN.cls :: Cdr.site))
  have q := consq hc h
  exact unparts (wk q (.code Len.yN Len.yB 1 (some .int))) (wks q (.initialized Len.yN.cls :: Len.site))
theorem movedLen {Z s : State} {a0 args : Array Value} (hZ : Z.Warmed39 s.vm) (hw : ∀ d ∈ wordsLen, d.before a0 Z = true) : ∀ d ∈ wordsLen, d.before args s = true := fun d hd => by
  have q := hw d hd
  have t : ∀ d ∈ wordsLen, d = .arrayClass .byte ∨ (d.onTables && d.keepsFace) = true := by decide +kernel
  rcases t d hd with rfl | t
  · exact RoadKit.mvA hZ q
  · exact RoadKit.mv hZ q t
/-- the bytes of the chars cs, low before high -/
def wideBytes : List Int32 → List Value
  | [] => []
  | c :: cs => .int (lo8 c) :: .int (hi8 c) :: wideBytes cs
theorem wide_lo (d : Value) : ∀ (cs : List Int32) (j : Nat), j < cs.length → (wideBytes cs).getD (2 * j) d = .int (lo8 (cs.getD j 0))
  | [], j, h => absurd h (Nat.not_lt_zero j)
  | c :: cs, 0, _ => rfl
  | c :: cs, j + 1, h => by
    have q := wide_lo d cs j (by simpa using h)
    rw [show 2 * (j + 1) = 2 * j + 1 + 1 from by omega]
    simpa [wideBytes] using q
theorem wide_hi (d : Value) : ∀ (cs : List Int32) (j : Nat), j < cs.length → (wideBytes cs).getD (2 * j + 1) d = .int (hi8 (cs.getD j 0))
  | [], j, h => absurd h (Nat.not_lt_zero j)
  | c :: cs, 0, _ => rfl
  | c :: cs, j + 1, h => by
    have q := wide_hi d cs j (by simpa using h)
    rw [show 2 * (j + 1) + 1 = 2 * j + 1 + 1 + 1 from by omega]
    simpa [wideBytes] using q
theorem low_at (d : Value) (cs : List Int32) (j : Nat) (h : j < cs.length) : (cs.map fun c => Value.int (lo8 c)).getD j d = .int (lo8 (cs.getD j 0)) := by
  simp [List.getD_eq_getElem?_getD, h]
/-- an array of N2 bytes vs codes the chars cs by the coder cd -/
def CodA (cs : List Int32) (cd N2 : Int32) (vs : List Value) : Prop := (cd = 0 ∧ N2 = Int32.ofNat cs.length ∧ vs = (cs.map fun c => Value.int (lo8 c)) ∧ ∀ c ∈ cs, ¬ 255 < c) ∨ (cd = 1 ∧ N2 = Int32.ofNat (2 * cs.length) ∧ vs = wideBytes cs ∧ ∃ c ∈ cs, 255 < c)
theorem CodA.cod {cs : List Int32} {cd N2 : Int32} {vs : List Value} {V : Cell} (h : CodA cs cd N2 vs) (hn : 2 * cs.length < 2 ^ 31) (hs : V.slots.size = N2.toNatClampNeg) (hv : RoadKit.Has V vs (.int 0)) : Cod cd cs.length (fun j => cs.getD j 0) V := by
  rcases h with ⟨rfl, rfl, rfl, h⟩ | ⟨rfl, rfl, rfl, c, hc, hw⟩
  · rw [n32 (by omega)] at hs
    exact Or.inl ⟨rfl, hs, fun j hj => ⟨by rw [hv j (by omega), low_at _ _ _ hj], by
      have e : cs.getD j 0 = cs[j] := by simp [List.getD_eq_getElem?_getD, hj]
      show ¬ 255 < cs.getD j 0
      rw [e]; exact h _ (List.getElem_mem _)⟩⟩
  · rw [n32 (by omega)] at hs
    obtain ⟨j, hj, rfl⟩ := List.getElem_of_mem hc
    exact Or.inr ⟨rfl, hs, fun j hj => ⟨by rw [hv _ (by omega), wide_lo _ _ _ hj], by rw [hv _ (by omega), wide_hi _ _ _ hj]⟩, j, hj, by
      have e : cs.getD j 0 = cs[j] := by simp [List.getD_eq_getElem?_getD, hj]
      show 255 < cs.getD j 0
      rw [e]; exact hw⟩
/-- an object of exactly java/lang/String, its two fields found: as the laws ask it -/
theorem strObj {Z U : State} {a0 : Array Value} {kI : Nat} (wi : (Jvm.Cond.instantiable ST kI).before a0 Z = true) (al : Z.vm.Alike U.vm) {x : Addr} {v0 c0 : Value} (E : RoadKit.Exa Z U.heap x ST) (V : RoadKit.Fld Z U.heap x ST "value" "[B" v0) (C : RoadKit.Fld Z U.heap x ST "coder" "B" c0) :
    ∃ (D : Cell) (fV fC : Field), Blank ST x D U ∧ Found ST "value" "[B" fV U ∧ Found ST "coder" "B" fC U ∧ D.slots[fV.slot]? = some v0 ∧ D.slots[fC.slot]? = some c0 ∧ RoadKit.slotOf Z ST "value" "[B" = fV.slot ∧ RoadKit.slotOf Z ST "coder" "B" = fC.slot := by
  obtain ⟨D, cfV, kV, iV, fV, hD, gV, stV, knV, obV, asV, slV⟩ := V
  obtain ⟨D', cfC, kC, iC, fC, hD', gC, stC, -, -, asC, slC⟩ := C
  cases hD.symm.trans hD'
  obtain ⟨D2, kD, e1, e2, e3, e4, e5⟩ := E
  cases hD.symm.trans e1
  obtain ⟨c2, k2, i1, i2, i3, -⟩ := Cond.instantiable_spec wi
  cases e2.symm.trans i1
  cases e3.symm.trans i2
  obtain ⟨kU, u1, u2⟩ := al.2.2 _ _ e3
  exact ⟨D, fV, fC, ⟨hD, ⟨knV, fun q hq => by rw [hq] at obV; cases obV⟩, by rw [al.findClass]; exact e2, kU, u1, by rw [u2]; exact i3, by rw [u2]; exact e5 i3⟩, ⟨SBG.found_only al ⟨cfV, kV, iV, gV⟩, stV⟩, ⟨SBG.found_only al ⟨cfC, kC, iC, gC⟩, stC⟩, slV, slC, by simp [RoadKit.slotOf, gV], by simp [RoadKit.slotOf, gC]⟩
theorem sta_is {Z U : State} (al : Z.vm.Alike U.vm) {C n d : String} {v : Value} (S : RoadKit.Sta Z U.heap C n d v) : StaticIs U C n d v := by
  obtain ⟨cfS, iS, kS, fS, st, cS, t1, t2, t3, t4, t5, t6, t7⟩ := S
  exact StaticIs.there (s := { Z with heap := U.heap }) ⟨cfS, iS, kS, fS, st, cS, t1, t2, t3, t4, t5, (fun q => by rw [q] at t6; cases t6), t7⟩ al rfl
/-- **length() OF SUCH A STRING** -/
theorem lenW {p : Program} {l : Launch} {e : Env} {R : Room} {s : State} {args : Array Value} {below : List Frame} {len W : Nat} {Z : State} {a0 : Array Value} {h : Heap} (hZ : Z.Warmed39 s.vm) (hw : ∀ d ∈ wordsLen, d.before a0 Z = true) {kI : Nat} (wi : (Jvm.Cond.instantiable ST kI).before a0 Z = true)
    {x t : Addr} {kb : ClassId} {cs : List Int32} {cd N2 z : Int32} {vs : List Value} (E : RoadKit.Exa Z h x ST) (V : RoadKit.Fld Z h x ST "value" "[B" (.ref t)) (C : RoadKit.Fld Z h x ST "coder" "B" (.int cd)) (K : RoadKit.Arv Z h t kb .byte N2 vs (.int 0)) (hc : CodA cs cd N2 vs) (hb : ∀ c ∈ cs, ¬ c < 0 ∧ ¬ (65535 : Int32) < c)
    (S : RoadKit.Sta Z h ST "COMPACT_STRINGS" "Z" (.int z)) (hz : ¬ z = 0) (l2 : cs.length ≤ 4000) (hfr : 2 ≤ R.frames) (hlo : W + 25 ≤ R.locals) :
    Back l R p e below s args (⟨"java/lang/String", "length", "()I"⟩ : MethodName) len W (fun P a => a = #[.ref x] ∧ P.U.heap = h ∧ P.cells + 0 ≤ R.cells ∧ P.slots + 0 ≤ R.slots)
      (fun P _ v B => ∃ L, (v = some (.int (Int32.ofNat cs.length)) ∧ L = [] ∧ B.U.heap = h) ∧ B.locs = P.locs ++ L ∧ B.cells = P.cells + 0 ∧ B.slots = P.slots + 0) := by
  obtain ⟨A, K1, K2, K3, K4, K5, K6⟩ := K
  have hcod := hc.cod (by omega) K3 K5
  intro m meth c P g ig mk a X hg hsize hdg hW hn hp'
  obtain ⟨rfl, rfl, r1, r2⟩ := hp'
  have al : Z.vm.Alike P.U.vm := hZ.alike.trans X.warmed.alike
  obtain ⟨D, fV, fC, hB, F1, F2, g1, g2, -, -⟩ := strObj wi al E V C
  have hx : Txt x t A cd cs.length (fun j => cs.getD j 0) P.U := ⟨⟨_, hB.2.2.1, D, hB.1, rfl, by cases q : D.vm <;> first | rfl | exact absurd q (hB.2.1.2 _)⟩, Has.of hB F1 g1, Has.of hB F2 g2, ⟨K1.1, State.isArrayOf_alike al K1.2.1, K1.2.2, by rcases hcod with ⟨-, q, -⟩ | ⟨-, q, -⟩ <;> omega⟩, hcod, fun j hj => by
    have e : cs.getD j 0 = cs[j] := by simp [List.getD_eq_getElem?_getD, hj]
    show ¬ cs.getD j 0 < 0 ∧ ¬ 65535 < cs.getD j 0
    rw [e]; exact hb _ (List.getElem_mem _)⟩
  obtain ⟨v, B, X', ⟨⟨hv, hh⟩, hl, hk, hs⟩, st⟩ := Len.pays x t A cd cs.length (fun j => cs.getD j 0) z (tabLen_of (movedLen hZ hw)) hfr hlo m meth c P g ig mk _ X hg hsize hdg hW hn ⟨r1, r2, rfl, hx, sta_is al S, hz⟩
  exact ⟨v, B, X', ⟨[], ⟨hv, rfl, hh⟩, hl, hk, hs⟩, st⟩
end StrChars.Road
namespace StrChars.Road
open Jvm Sem ClassFile Op Lib Jvm.Stand Jvm.Free Jvm.Free.XT
open Jvm.Lib.Cold (StaticIs)
/-- the road's facts of a String, as the laws ask it -/
theorem txt_of {Z U : State} {a0 : Array Value} {kI : Nat} (wi : (Jvm.Cond.instantiable ST kI).before a0 Z = true) (al : Z.vm.Alike U.vm) {x t : Addr} {kb : ClassId} {cs : List Int32} {cd N2 : Int32} {vs : List Value} (E : RoadKit.Exa Z U.heap x ST) (V : RoadKit.Fld Z U.heap x ST "value" "[B" (.ref t)) (C : RoadKit.Fld Z U.heap x ST "coder" "B" (.int cd)) (K : RoadKit.Arv Z U.heap t kb .byte N2 vs (.int 0)) (hc : CodA cs cd N2 vs) (hb : ∀ c ∈ cs, ¬ c < 0 ∧ ¬ (65535 : Int32) < c) (l2 : cs.length ≤ 4000) :
    ∃ A, Txt x t A cd cs.length (fun j => cs.getD j 0) U := by
  obtain ⟨A, K1, K2, K3, K4, K5, K6⟩ := K
  have hcod := hc.cod (by omega) K3 K5
  obtain ⟨D, fV, fC, hB, F1, F2, g1, g2, -, -⟩ := strObj wi al E V C
  exact ⟨A, ⟨_, hB.2.2.1, D, hB.1, rfl, by cases q : D.vm <;> first | rfl | exact absurd q (hB.2.1.2 _)⟩, Has.of hB F1 g1, Has.of hB F2 g2, ⟨K1.1, State.isArrayOf_alike al K1.2.1, K1.2.2, by rcases hcod with ⟨-, q, -⟩ | ⟨-, q, -⟩ <;> omega⟩, hcod, fun j hj => by
    have e : cs.getD j 0 = cs[j] := by simp [List.getD_eq_getElem?_getD, hj]
    show ¬ cs.getD j 0 < 0 ∧ ¬ 65535 < cs.getD j 0
    rw [e]; exact hb _ (List.getElem_mem _)⟩
end StrChars.Road
namespace StrChars
open Jvm Sem ClassFile Op Lib Jvm.Stand Jvm.Free.XT Jvm.Free.ALB Jvm.Free.JM Jvm.Free
open Jvm.Lib.Cold (StaticIs)
namespace ChN
def yN : MethodName := ⟨"java/lang/String", "charAt", "(I)C"⟩
abbrev yB : ByteArray := jdk_42_method_56_code
theorem d0 : decode yB 0 = .ok (.aload_n 0, 1) := by decide +kernel
theorem d1 : decode yB 1 = .ok (.invokevirtual 492, 3) := by decide +kernel
theorem d4 : decode yB 4 = .ok (.ifCond (.eq) 12, 3) := by decide +kernel
theorem d7 : decode yB 7 = .ok (.aload_n 0, 1) := by decide +kernel
theorem d8 : decode yB 8 = .ok (.getfield 9, 3) := by decide +kernel
theorem d11 : decode yB 11 = .ok (.iload_n 1, 1) := by decide +kernel
theorem d12 : decode yB 12 = .ok (.invokestatic 495, 3) := by decide +kernel
theorem d15 : decode yB 15 = .ok (.ireturn, 1) := by decide +kernel
def site : List Cond := [.fieldLink "java/lang/String" 9 "java/lang/String" "value" "[B", IsL.tab, LChA.tab] ++ virtW "java/lang/String" 492 "java/lang/String" IsL.yN IsL.yN ++ staticW "java/lang/String" 495 LChA.yN
def tab : Cond := tabOf yN yB 2 (some .char) site
def P (x t : Addr) (V : Cell) (n : Nat) (f : Nat → Int32) (z : Int32) (fm : Value) (i : Nat) (args : Array Value) (s : State) : Prop := args = #[.ref x, .int (Int32.ofNat i)] ∧ Txt x t V 0 n f s ∧ i < n ∧ StaticIs s "java/lang/String" "COMPACT_STRINGS" "Z" (.int z) ∧ ¬ z = 0 ∧ StaticIs s "jdk/internal/util/Preconditions" "SIOOBE_FORMATTER" "Ljava/util/function/BiFunction;" fm ∧ fm.isRef = true
def E (f : Nat → Int32) (i : Nat) (r : Option Value) (s u : State) : Prop := XT.PureE (some (.int (f i))) r s u
/-- charAt(i) of a Latin-1 String of n chars, i < n: f i -/
theorem law (l : Launch) (x t : Addr) (V : Cell) (n : Nat) (f : Nat → Int32) (z : Int32) (fm : Value) (i : Nat) : Law l yN 2 1 3 40 yB 2 (some .char) site (P x t V n f z fm i) (E f i) [] 0 0 := by
  refine Law.of_walk (plainFor_of_name (by decide +kernel)) (by decide +kernel) (by decide +kernel) (by decide) (fun _ _ h => by rw [h.1]; rfl) (fun _ U U' hal hh h => ⟨h.1, h.2.1.mv hal hh, h.2.2.1, h.2.2.2.1.there hal hh, h.2.2.2.2.1, h.2.2.2.2.2.1.there hal hh, h.2.2.2.2.2.2⟩) (fun r U U' V V' h1 hal h2 h => XT.PureE.mv r U U' V V' h1 hal h2 h) ?_
  intro p e s m args below meth c s₁ X0 hexec hbytes hml hret hlk hnm hown hh0 W hP
  obtain ⟨rfl, hx, hi, s1, hz, s3, rf⟩ := hP
  have v31 := hx.2.2.2.1.2.2.2
  have hr := hx.2.2.2.2.2 i hi
  have hx0 := hx.mv X0.warmed.alike hh0
  have c1 : Steps p.tables e below (s₁.setTop (entryFrame m #[.ref x, .int (Int32.ofNat i)] 2)) (s₁.setTop (mkF m 1 #[.val (.ref x), .val (.int (Int32.ofNat i))] [.ref x])) := Steps.trans (entry rfl) (by
    show Steps p.tables e below (s₁.setTop (mkF m 0 #[.val (.ref x), .val (.int (Int32.ofNat i))] [])) _
    refine XS.aloadN X0.here hexec rfl (hb hbytes d0) rfl rfl ?_
    exact Steps.refl _)
  obtain ⟨v2, T2, X2, E2, g2⟩ := X0.callV hexec (IsL.law l x 0 z) hown (wks W (virtW "java/lang/String" 492 "java/lang/String" IsL.yN IsL.yN)) rfl (by decide) (wk W IsL.tab) (W := 0) (Nat.le_of_ble_eq_true rfl) (Nat.le_of_ble_eq_true rfl) (Nat.le_refl _) (Nat.le_refl _) (hx0.1.fc X0.warmed.alike) hx0.1.is (g := (mkF m 1 #[.val (.ref x), .val (.int (Int32.ofNat i))] [.ref x])) rfl (by rw [hml]; rfl) c1 (argsL := []) (rest := []) rfl rfl (by show 2 * 0 + 0 ≤ _; decide) (hb hbytes d1) (⟨rfl, hx0.2.2.1, hx.2.2.2.2.1.cd, s1.there X0.warmed.alike hh0, hz⟩)
  obtain ⟨rfl, q2⟩ := E2
  have hh2 := q2.trans hh0
  have hx2 := hx.mv X2.warmed.alike hh2
  obtain ⟨-, k1, k2⟩ | ⟨k0, -⟩ := hx.2.2.2.2.1
  · have c3 : Steps p.tables e below (s₁.setTop (entryFrame m #[.ref x, .int (Int32.ofNat i)] 2)) (T2.setTop (mkF m 8 #[.val (.ref x), .val (.int (Int32.ofNat i))] [.ref x])) := Steps.trans g2 (by
      refine XS.ifNo X2.here hexec rfl (hb hbytes d4) rfl (i0_eq_f (by decide)) ?_
      refine XS.aloadN X2.here hexec rfl (hb hbytes d7) rfl rfl ?_
      exact Steps.refl _)
    obtain ⟨T4, X4, q4, st4⟩ := X2.hget hexec hown (wk W (.fieldLink "java/lang/String" 9 "java/lang/String" "value" "[B")) hx2.2.1 (g := (mkF m 8 #[.val (.ref x), .val (.int (Int32.ofNat i))] [.ref x])) rfl (rest := []) rfl (hb hbytes d8)
    have hh4 := q4.trans hh2
    have c5 : Steps p.tables e below (s₁.setTop (entryFrame m #[.ref x, .int (Int32.ofNat i)] 2)) (T4.setTop (mkF m 12 #[.val (.ref x), .val (.int (Int32.ofNat i))] [.int (Int32.ofNat i), .ref t])) := (c3.trans (st4 _ (Steps.refl _))).trans (by
      refine XS.iloadN X4.here hexec rfl (hb hbytes d11) rfl ?_
      exact Steps.refl _)
    obtain ⟨v6, T6, X6, E6, g6⟩ := X4.callS hexec (LChA.law l t V i (lo8 (f i)) fm) hown (wks W (staticW "java/lang/String" 495 LChA.yN)) (wk W LChA.tab) (W := 0) (Nat.le_of_ble_eq_true rfl) (Nat.le_of_ble_eq_true rfl) (Nat.le_refl _) (Nat.le_refl _) (g := (mkF m 12 #[.val (.ref x), .val (.int (Int32.ofNat i))] [.int (Int32.ofNat i), .ref t])) rfl (by rw [hml]; rfl) c5 (argsL := [.ref t, .int (Int32.ofNat i)]) (rest := []) rfl rfl (by show 2 * 0 + 0 ≤ _; decide) (hb hbytes d12) (⟨rfl, hx.2.2.2.1.mv X4.warmed.alike hh4, (k2 i hi).1, s3.there X4.warmed.alike hh4, rf⟩)
    obtain ⟨rfl, q6⟩ := E6
    rw [chr8_lo8 hr.1 (k2 i hi).2] at g6
    exact ⟨T6, some (.int (f i)), _, _, _, X6, rfl, rfl, rfl, (fun h => by cases h), ⟨rfl, q6.trans hh4⟩, fun fs hl => Steps.trans g6 (X6.ireturnOut hexec hret (narrow_ch hr.1 hr.2) (Or.inr (Or.inr (Or.inr (Or.inl rfl)))) (hb hbytes d15) hl)⟩
  · exact absurd k0 (by decide)
theorem pays {l : Launch} {R : Room} {p : Program} {e : Env} {below : List Frame} {s : State} {sargs : Array Value} {len W : Nat} (x t : Addr) (V : Cell) (n : Nat) (f : Nat → Int32) (z : Int32) (fm : Value) (i : Nat) (htab : tab.before sargs s = true) (hfr : 4 ≤ R.frames) (hlo : W + 53 ≤ R.locals) :
    Back l R p e below s sargs yN len W (fun A₁ a₁ => A₁.cells + 0 ≤ R.cells ∧ A₁.slots + 0 ≤ R.slots ∧ P x t V n f z fm i a₁ A₁.U) (fun A₁ _ v₁ B₁ => E f i v₁ A₁.U B₁.U ∧ B₁.locs = A₁.locs ++ [] ∧ B₁.cells = A₁.cells + 0 ∧ B₁.slots = A₁.slots + 0) :=
  (law l x t V n f z fm i).pays htab hfr (by omega)
end ChN
end StrChars
namespace StrChars.Road
open Jvm Sem ClassFile Op Lib Jvm.Stand Jvm.Free Jvm.Free.XT
open Jvm.Lib.Cold (StaticIs)
/-- the words of String.charAt(int), the Latin-1 road alone -/
abbrev wordsChN : List Jvm.Cond := [.code ChN.yN ChN.yB 2 (some .char), .initialized ST, .fieldLink ST 9 ST "value" "[B", .fieldLink ST 38 ST "COMPACT_STRINGS" "Z", .fieldLink ST 15 ST "coder" "B", .code IsL.yN IsL.yB 1 (some .boolean), .methodLink ST 492 IsL.yN, .declares IsL.yN, .selects ST IsL.yN IsL.yN, .instanceMethod IsL.yN,
  .methodLink ST 495 LChA.yN, .static LChA.yN, .code LChA.yN LChA.yB 2 (some .char), .initialized "java/lang/StringLatin1", .methodLink "java/lang/StringLatin1" 9 JO.Str_checkIndex.yN, .static JO.Str_checkIndex.yN, .code JO.Str_checkIndex.yN JO.Str_checkIndex.yB 2 none,
  .fieldLink ST 1053 "jdk/internal/util/Preconditions" "SIOOBE_FORMATTER" "Ljava/util/function/BiFunction;", .methodLink ST 1059 JC.PreCheck.yN, .static JC.PreCheck.yN, .code JC.PreCheck.yN JC.PreCheck.yB 3 (some .int), .initialized "jdk/internal/util/Preconditions"]
theorem tabChN_of {a : Array Value} {s : State} (h : ∀ w ∈ wordsChN, w.before a s = true) : ChN.tab.before a s = true := by
  have hp : JC.PreCheck.tab.before a s = true := unparts (wk h (.code JC.PreCheck.yN JC.PreCheck.yB 3 (some .int))) (wks h (.initialized JC.PreCheck.yN.cls :: JC.PreCheck.site))
  have qk := consq hp h
  have hk : JO.Str_checkIndex.tab.before a s = true := unparts (wk qk (.code JO.Str_checkIndex.yN JO.Str_checkIndex.yB 2 none)) (wks qk (.initialized JO.Str_checkIndex.yN.cls :: JO.Str_checkIndex.site))
  have ql := consq hk h
  have hl : LChA.tab.before a s = true := unparts (wk ql (.code LChA.yN LChA.yB 2 (some .char))) (wks ql (.initialized LChA.yN.cls :: LChA.site))
  have hi : IsL.tab.before a s = true := unparts (wk h (.code IsL.yN IsL.yB 1 (some .boolean))) (wks h (.initialized IsL.yN.cls :: IsL.site))
  have q := consq hi (consq hl h)
  exact unparts (wk q (.code ChN.yN ChN.yB 2 (some .char))) (wks q (.initialized ChN.yN.cls :: ChN.site))
theorem movedChN {Z s : State} {a0 args : Array Value} (hZ : Z.Warmed39 s.vm) (hw : ∀ d ∈ wordsChN, d.before a0 Z = true) : ∀ d ∈ wordsChN, d.before args s = true := fun d hd => by
  have t : ∀ d ∈ wordsChN, (d.onTables && d.keepsFace) = true := by decide +kernel
  exact RoadKit.mv hZ (hw d hd) (t d hd)
/-- **charAt(i) OF A LATIN-1 STRING**, i < n: the char -/
theorem chN {p : Program} {l : Launch} {e : Env} {R : Room} {s : State} {args : Array Value} {below : List Frame} {len W : Nat} {Z : State} {a0 : Array Value} {h : Heap} (hZ : Z.Warmed39 s.vm) (hw : ∀ d ∈ wordsChN, d.before a0 Z = true) {kI : Nat} (wi : (Jvm.Cond.instantiable ST kI).before a0 Z = true)
    {x t : Addr} {kb : ClassId} {cs : List Int32} {N2 z : Int32} {vs : List Value} {fm : Value} {i : Nat} {j : Int32} (E : RoadKit.Exa Z h x ST) (V : RoadKit.Fld Z h x ST "value" "[B" (.ref t)) (C : RoadKit.Fld Z h x ST "coder" "B" (.int 0)) (K : RoadKit.Arv Z h t kb .byte N2 vs (.int 0)) (hc : CodA cs 0 N2 vs) (hb : ∀ c ∈ cs, ¬ c < 0 ∧ ¬ (65535 : Int32) < c)
    (S : RoadKit.Sta Z h ST "COMPACT_STRINGS" "Z" (.int z)) (hz : ¬ z = 0) (F : RoadKit.Sta Z h "jdk/internal/util/Preconditions" "SIOOBE_FORMATTER" "Ljava/util/function/BiFunction;" fm) (rf : fm.isRef = true) (l2 : cs.length ≤ 4000) (hi : i < cs.length) (hj : j = Int32.ofNat i) (hfr : 4 ≤ R.frames) (hlo : W + 53 ≤ R.locals) :
    Back l R p e below s args (⟨"java/lang/String", "charAt", "(I)C"⟩ : MethodName) len W (fun P a => a = #[.ref x, .int j] ∧ P.U.heap = h ∧ P.cells + 0 ≤ R.cells ∧ P.slots + 0 ≤ R.slots)
      (fun P _ v B => ∃ L, (v = some (.int (cs.getD i 0)) ∧ L = [] ∧ B.U.heap = h) ∧ B.locs = P.locs ++ L ∧ B.cells = P.cells + 0 ∧ B.slots = P.slots + 0) := by
  subst hj
  intro m meth c P g ig mk a X hg hsize hdg hW hn hp'
  obtain ⟨rfl, rfl, r1, r2⟩ := hp'
  have al : Z.vm.Alike P.U.vm := hZ.alike.trans X.warmed.alike
  obtain ⟨A, hx⟩ := txt_of wi al E V C K hc hb l2
  obtain ⟨v, B, X', ⟨⟨hv, hh⟩, hl, hk, hs⟩, st⟩ := ChN.pays x t A cs.length (fun j => cs.getD j 0) z fm i (tabChN_of (movedChN hZ hw)) hfr hlo m meth c P g ig mk _ X hg hsize hdg hW hn ⟨r1, r2, rfl, hx, hi, sta_is al S, hz, sta_is al F, rf⟩
  exact ⟨v, B, X', ⟨[], ⟨hv, rfl, hh⟩, hl, hk, hs⟩, st⟩
end StrChars.Road
end Jvm.Pilot.@@N@@
namespace Jvm.Pilot.@@N@@
open Jvm Jvm.ClassFile Sem Op Lib Jvm.Free Jvm.Stand Jvm.LawKit Jvm.RoadKit Bundle Jvm.Pilot.@@N@@.Jvm.D
abbrev si (x : Int32) : Slot := .val (.int x)
abbrev sr (x : Addr) : Slot := .val (.ref x)
theorem ww {a0 : Array Value} {Z : State} {d : Jvm.Cond} (hw : ∀ d ∈ tables_1, d.before a0 Z = true) (i : Nat) (h : tables_1[i]? = some d) : d.before a0 Z = true := hw _ (List.mem_of_getElem? h)
theorem mr0 {a b : Nat} (h : a = b) : a ≤ b := Nat.le_of_eq h
section Own
variable {p : Program} {l : Launch} {e : Env} {R : Room} {s : State} {m : MethodId} {args : Array Value} {below : List Frame} {meth : Method} {c : Code} {T : State} {locs : List Loc} {cells slots : Nat} {Z : State} {a0 : Array Value} {h : Heap}
/-- from S the run comes to an end that P speaks of -/
def Goes (tb : Tables) (e : Env) (below : List Frame) (P : State → Outcome → Prop) (S : State) : Prop := ∃ s₂ o, Steps tb e below S s₂ ∧ P s₂ o
theorem go {tb : Tables} {P : State → Outcome → Prop} {S S' : State} (st : ∀ t, Steps tb e below S' t → Steps tb e below S t) (h : Goes tb e below P S') : Goes tb e below P S := by
  obtain ⟨s₂, o, h1, h2⟩ := h
  exact ⟨s₂, o, st _ h1, h2⟩
/-- from S the run comes to the frame F, in a state that P speaks of -/
def Reach (tb : Tables) (e : Env) (below : List Frame) (F : JFrame) (P : State → Prop) (S : State) : Prop := ∃ T', P T' ∧ ∀ t, Steps tb e below (T'.setTop F) t → Steps tb e below S t
theorem goR {tb : Tables} {F : JFrame} {P : State → Prop} {S S' : State} (st : ∀ t, Steps tb e below S' t → Steps tb e below S t) (h : Reach tb e below F P S') : Reach tb e below F P S := by
  obtain ⟨T', h1, h2⟩ := h
  exact ⟨T', h1, fun t k => st t (h2 t k)⟩
def Same (X : Stand p l e R s m args below meth c T locs cells slots) (n0 : Nat) (h : Heap) : State → Prop := fun T' => ∃ locs', Stand p l e R s m args below meth c T' locs' cells slots ∧ Fr n0 locs' ∧ T'.heap = h
/-- the end of a body: it returned, and Q holds of the value, the heap, the written places -/
def EndP (s : State) (below : List Frame) (Q : Option Value → Heap → List Loc → Prop) (kc ks : Nat) (s₂ : State) (o : Outcome) : Prop :=
  s₂.status = .running ∧ Ended s₂ below o ∧ ∃ v L, o = .returned v ∧ Q v s₂.heap L ∧ FrameEnd s o s₂ L kc ks
variable {Q : Option Value → Heap → List Loc → Prop} {kc ks : Nat}
theorem finG {g : JFrame} (X : Stand p l e R s m args below meth c T locs cells slots) (hk : meth.locks = false) (v : Option Value) (hv : meth.sig.returnType = none → v = none)
    (st : ∀ fs, (∀ (f : JFrame) (acts : List Action), f.method = m → f.locked = none → f.entered = [] → (doReturn e (T.setTop f) acts v).1 = T.setFrames fs) → Steps p.tables e below (T.setTop g) (T.setFrames fs))
    (hc : cells ≤ kc) (hs : slots ≤ ks) (hQ : Q v T.heap locs) : Goes p.tables e below (EndP s below Q kc ks) (T.setTop g) := by
  obtain ⟨fs, hr, hrun, hended, hW, hsame⟩ := X.leave (v := v) hv hk
  exact ⟨_, _, st fs hr, hrun, hended, v, locs, rfl, hQ, ⟨_, rfl⟩, hW, hsame.mono hc hs⟩
theorem finV (X : Stand p l e R s m args below meth c T locs cells slots) (hx : p.tables.exec = Jvm.exec) (hk : meth.locks = false) (hret : meth.sig.returnType = none) {pc : Nat} {Ls : Array Slot} (hd : decode c.code pc = .ok (.return_, 1)) (hc : cells ≤ kc) (hs : slots ≤ ks) (hQ : Q none T.heap locs) :
    Goes p.tables e below (EndP s below Q kc ks) (T.setTop (mkF m pc Ls [])) := finG X hk none (fun _ => rfl) (fun _ hr => X.returnOut hx hret hd hr) hc hs hQ
theorem finI (X : Stand p l e R s m args below meth c T locs cells slots) (hx : p.tables.exec = Jvm.exec) (hk : meth.locks = false) (hret : meth.sig.returnType = some .int) {pc : Nat} {Ls : Array Slot} {z : Int32} {rest : List Value} (hd : decode c.code pc = .ok (.ireturn, 1)) (hc : cells ≤ kc) (hs : slots ≤ ks) (hQ : Q (some (.int z)) T.heap locs) :
    Goes p.tables e below (EndP s below Q kc ks) (T.setTop (mkF m pc Ls (.int z :: rest))) := finG X hk _ (fun q => by rw [hret] at q; cases q) (fun _ hr => retI X hx hret hd hr) hc hs hQ
theorem finN (X : Stand p l e R s m args below meth c T locs cells slots) (hx : p.tables.exec = Jvm.exec) (hk : meth.locks = false) {t : FieldType} (hret : meth.sig.returnType = some t) (ht : t = .boolean ∨ t = .byte ∨ t = .char ∨ t = .short) {pc : Nat} {Ls : Array Slot} {z : Int32} {rest : List Value} (hd : decode c.code pc = .ok (.ireturn, 1)) (hc : cells ≤ kc) (hs : slots ≤ ks) (hQ : Q (some (.int (nar t z))) T.heap locs) :
    Goes p.tables e below (EndP s below Q kc ks) (T.setTop (mkF m pc Ls (.int z :: rest))) := finG X hk _ (fun q => by rw [hret] at q; cases q) (fun _ hr => retN X hx hret ht hd hr) hc hs hQ
theorem finR (X : Stand p l e R s m args below meth c T locs cells slots) (hx : p.tables.exec = Jvm.exec) (hk : meth.locks = false) {t : FieldType} (hret : meth.sig.returnType = some t) (ht : t.isReference = true) {w : Value} (hw : w.isRef = true) {pc : Nat} {Ls : Array Slot} (hd : decode c.code pc = .ok (.areturn, 1)) (hc : cells ≤ kc) (hs : slots ≤ ks) (hQ : Q (some w) T.heap locs) :
    Goes p.tables e below (EndP s below Q kc ks) (T.setTop (mkF m pc Ls [w])) := finG X hk _ (fun q => by rw [hret] at q; cases q) (fun _ hr => X.areturnOut hx hw hret ht hd hr) hc hs hQ
theorem finJ (X : Stand p l e R s m args below meth c T locs cells slots) (hx : p.tables.exec = Jvm.exec) (hk : meth.locks = false) (hret : meth.sig.returnType = some .long) {pc : Nat} {Ls : Array Slot} {z : Int64} (hd : decode c.code pc = .ok (.lreturn, 1)) (hc : cells ≤ kc) (hs : slots ≤ ks) (hQ : Q (some (.long z)) T.heap locs) :
    Goes p.tables e below (EndP s below Q kc ks) (T.setTop (mkF m pc Ls [.long z])) := finG X hk _ (fun q => by rw [hret] at q; cases q) (fun _ hr => X.lreturnOut hx hret hd hr) hc hs hQ
theorem bodyOf {y : MethodName} {bytes : ByteArray} {maxL : Nat} {ret : Option FieldType} {ws : List Jvm.Cond} {rm : Room} {as' : Array Value} {Ls : Array Slot} {h0 : Heap}
    (pn : plainFor y = true) (ef : ∀ m, entryFrame m as' maxL = mkF m 0 Ls [])
    (body : ∀ (p : Program) (e : Env) (s : State) (m : MethodId) (below : List Frame) (meth : Method) (c : Code) (T : State), Stand p l e rm s m as' below meth c T [] 0 0 → p.tables.exec = Jvm.exec → c.code = bytes → c.maxLocals = maxL →
      s.vm.findClass y.cls = some m.cls → meth.name = y.name → meth.sig.returnType = ret → meth.locks = false → Z.Warmed39 s.vm → T.heap = h0 → Goes p.tables e below (EndP s below Q rm.cells rm.slots) (T.setTop (mkF m 0 Ls []))) :
    MetFree l y (head1 (Jvm.Cond.code y bytes maxL ret :: ws) rm) (fun a U => a = as' ∧ Z.Warmed39 U.vm ∧ U.heap = h0) (fun _ _ _ _ _ => True) (fun _ U o U' => ∃ v L, o = .returned v ∧ Q v U'.heap L ∧ FrameEnd U o U' L rm.cells rm.slots) := by
  refine MetFree.of_bodySF pn hisR ?_
  intro p e s m args below meth c s₁ Bd hml0 hP hK
  obtain ⟨rfl, hZ, hh⟩ := hP
  have e0 : s₁.heap = h0 := by rw [← hh, Bd.state]; rfl
  obtain ⟨s₂, o, st, hrun, hend, hq⟩ := body p e s m below meth c s₁ (Stand.of_body Bd) Bd.exec Bd.bytes hml0 (findClass_of_methodNamed Bd.named) (name_of_methodNamed Bd.named Bd.method).1 Bd.returns Bd.notSynchronized hZ e0
  exact ⟨s₂, o, castTop (ef m) st, hrun, hend, hq⟩
variable {y z : MethodName} {own C : String} {index W len : Nat} {bytes : ByteArray} {maxL : Nat} {ret : Option FieldType} {as' : Array Value} {argsL rest : List Value} {g : JFrame}
theorem callSt (X : Stand p l e R s m args below meth c T locs cells slots) (hx : p.tables.exec = Jvm.exec) (hZ : Z.Warmed39 s.vm) (hown : s.vm.findClass own = some m.cls)
    (w1 : (Jvm.Cond.methodLink own index y).before a0 Z = true) (w2 : (Jvm.Cond.static y).before a0 Z = true) (w3 : (Jvm.Cond.initialized y.cls).before a0 Z = true) (w4 : (Jvm.Cond.code y bytes maxL ret).before a0 Z = true)
    (hy : y.cls ≠ "java/lang/invoke/MethodHandle" ∧ y.cls ≠ "java/lang/invoke/VarHandle")
    (hB : Back l R p e below s args y 3 W (fun A a => a = argsL.toArray ∧ A.U.heap = h ∧ A.cells + kc ≤ R.cells ∧ A.slots + ks ≤ R.slots) (fun A _ v B => ∃ L, Q v B.U.heap L ∧ B.locs = A.locs ++ L ∧ B.cells = A.cells + kc ∧ B.slots = A.slots + ks))
    (hg : g.method = m) (hsize : g.locals.size = c.maxLocals) (hlen : ∀ sig, parseMethodDescriptor y.desc = some sig → argsL.length = sig.parameters.length) (hstack : g.stack = argsL.reverse ++ rest) (hW : 2 * g.monitorRoom + (rest.map fun v => v.category).sum ≤ W)
    (hd : decode c.code g.pc = .ok (.invokestatic index, 3)) (eT : T.heap = h) (hc : cells + kc ≤ R.cells) (hs : slots + ks ≤ R.slots) :
    ∃ v T' L, Stand p l e R s m args below meth c T' (locs ++ L) (cells + kc) (slots + ks) ∧ Q v T'.heap L ∧ ∀ t, Steps p.tables e below (T'.setTop { g with pc := g.pc + 3, stack := v.toList ++ rest }) t → Steps p.tables e below (T.setTop g) t := by
  obtain ⟨v, _, ⟨T1, L1, k1, n1⟩, -, X1, ⟨L, hQ, hl, hk, hn⟩, st⟩ := Jvm.LawKit.callS X hx hown (mvT hZ w1) (mvT hZ w2) (mvT hZ w3) (mvT hZ w4) hy hB hg hsize hlen hstack hW hd (fun _ _ => ⟨rfl, eT, hc, hs⟩)
  dsimp only [Pt.U, Pt.locs, Pt.cells, Pt.slots] at X1 hl hk hn st hQ
  subst hl hk hn
  exact ⟨v, T1, L, X1, hQ, st⟩
theorem callSp {a : Addr} (X : Stand p l e R s m args below meth c T locs cells slots) (hx : p.tables.exec = Jvm.exec) (hZ : Z.Warmed39 s.vm) (hy1 : y.name = "<init>") (hown : s.vm.findClass own = some m.cls)
    (w1 : (Jvm.Cond.methodLink own index y).before a0 Z = true) (w2 : (Jvm.Cond.instanceMethod y).before a0 Z = true) (w4 : (Jvm.Cond.code y bytes maxL none).before a0 Z = true)
    (hy : y.cls ≠ "java/lang/invoke/MethodHandle" ∧ y.cls ≠ "java/lang/invoke/VarHandle")
    (hB : Back l R p e below s args y 3 W (fun A b => b = (Value.ref a :: argsL).toArray ∧ A.U.heap = h ∧ A.cells + kc ≤ R.cells ∧ A.slots + ks ≤ R.slots) (fun A _ v B => ∃ L, Q v B.U.heap L ∧ B.locs = A.locs ++ L ∧ B.cells = A.cells + kc ∧ B.slots = A.slots + ks))
    (hg : g.method = m) (hsize : g.locals.size = c.maxLocals) (hlen : ∀ sig, parseMethodDescriptor y.desc = some sig → argsL.length = sig.parameters.length) (hstack : g.stack = argsL.reverse ++ .ref a :: rest) (hW : 2 * g.monitorRoom + (rest.map fun v => v.category).sum ≤ W)
    (hd : decode c.code g.pc = .ok (.invokespecial index, 3)) (eT : T.heap = h) (hc : cells + kc ≤ R.cells) (hs : slots + ks ≤ R.slots) :
    ∃ v T' L, Stand p l e R s m args below meth c T' (locs ++ L) (cells + kc) (slots + ks) ∧ Q v T'.heap L ∧ ∀ t, Steps p.tables e below (T'.setTop { g with pc := g.pc + 3, stack := v.toList ++ rest }) t → Steps p.tables e below (T.setTop g) t := by
  obtain ⟨v, _, ⟨T1, L1, k1, n1⟩, -, X1, ⟨L, hQ, hl, hk, hn⟩, st⟩ := X.specialBack hx hy1 hown (mvT hZ w1) (mvT hZ w2) (mvT hZ w4) hy hB hg hsize (Steps.refl _) hlen hstack hW hd (fun _ _ => ⟨rfl, eT, hc, hs⟩)
  dsimp only [Pt.U, Pt.locs, Pt.cells, Pt.slots] at X1 hl hk hn st hQ
  subst hl hk hn
  exact ⟨v, T1, L, X1, hQ, fun t k => st.trans k⟩
theorem callV {a : Addr} (X : Stand p l e R s m args below meth c T locs cells slots) (hx : p.tables.exec = Jvm.exec) (hZ : Z.Warmed39 s.vm) (hown : s.vm.findClass own = some m.cls)
    (w1 : (Jvm.Cond.methodLink own index y).before a0 Z = true) (w2 : (Jvm.Cond.declares y).before a0 Z = true) (nf : NotFace s y) (w3 : (Jvm.Cond.selects C y z).before a0 Z = true) (w4 : (Jvm.Cond.instanceMethod z).before a0 Z = true)
    (hy : y.cls ≠ "java/lang/invoke/MethodHandle" ∧ y.cls ≠ "java/lang/invoke/VarHandle")
    (hB : Back l R p e below s args z 3 W (fun A b => b = (Value.ref a :: argsL).toArray ∧ A.U.heap = h ∧ A.cells + kc ≤ R.cells ∧ A.slots + ks ≤ R.slots) (fun A _ v B => ∃ L, Q v B.U.heap L ∧ B.locs = A.locs ++ L ∧ B.cells = A.cells + kc ∧ B.slots = A.slots + ks))
    (E : Exa Z h a C) (hg : g.method = m) (hsize : g.locals.size = c.maxLocals) (hlen : ∀ sig, parseMethodDescriptor y.desc = some sig → argsL.length = sig.parameters.length) (hstack : g.stack = argsL.reverse ++ .ref a :: rest) (hW : 2 * g.monitorRoom + (rest.map fun v => v.category).sum ≤ W)
    (hd : decode c.code g.pc = .ok (.invokevirtual index, 3)) (eT : T.heap = h) (hc : cells + kc ≤ R.cells) (hs : slots + ks ≤ R.slots) :
    ∃ v T' L, Stand p l e R s m args below meth c T' (locs ++ L) (cells + kc) (slots + ks) ∧ Q v T'.heap L ∧ ∀ t, Steps p.tables e below (T'.setTop { g with pc := g.pc + 3, stack := v.toList ++ rest }) t → Steps p.tables e below (T.setTop g) t := by
  obtain ⟨cq, kq, qa, qb, qc⟩ := isOf hZ eT E
  obtain ⟨v, _, ⟨T1, L1, k1, n1⟩, -, X1, ⟨L, hQ, hl, hk, hn⟩, st⟩ := X.virtualBack hx hown (mvT hZ w1) (mvT hZ w2) nf (mvT hZ w3) (mvT hZ w4) hy hB qa qc hg hsize (Steps.refl _) hlen hstack hW hd (fun _ _ => ⟨rfl, eT, hc, hs⟩)
  dsimp only [Pt.U, Pt.locs, Pt.cells, Pt.slots] at X1 hl hk hn st hQ
  subst hl hk hn
  exact ⟨v, T1, L, X1, hQ, fun t k => st.trans k⟩
theorem nsRoot {O K : String} {n : Nat} (w : (Jvm.Cond.noSuperclass O).before a0 Z = true) (wk : (Jvm.Cond.instantiable K n).before a0 Z = true) (hn : O ≠ K) : NS Z O K := by
  obtain ⟨c, k, h1, h2, h3, -, -⟩ := Cond.noSuperclass_spec w
  obtain ⟨t, kt, g1, -⟩ := Cond.instantiable_spec wk
  have ne := ids_ne h1 g1 hn
  refine ⟨c, t, h1, g1, fun fuel => ?_⟩
  cases fuel with
  | zero => rfl
  | succ f => simp [Vm.isSubclassAux, ne, h2, h3]
theorem nsNo {C S K : String} {n : Nat} (w : (Jvm.Cond.superclass C S).before a0 Z = true) (wk : (Jvm.Cond.instantiable K n).before a0 Z = true) (n : NS Z C K) (hn : C ≠ K) : ∃ c t, Z.vm.findClass C = some c ∧ Z.vm.findClass K = some t ∧ Z.vm.assignable c t = false := by
  obtain ⟨c, t, h0, g0, n3⟩ := n
  obtain ⟨p, k, kp, h1, h2, h3, h4, h5, -, h7⟩ := Cond.superclass_spec h0 w
  obtain ⟨t', kt, g1, g2, g3, g4, -⟩ := Cond.instantiable_spec wk
  cases g0.symm.trans g1
  have g7 : kt.isInterface = false := (Bool.or_eq_false_iff.mp g4).1
  have ne := ids_ne h0 g0 hn
  refine ⟨c, t, h0, g0, ?_⟩
  show Z.vm.assignableAux (255 + 1) c t = false
  simp [Vm.assignableAux, ne, h2, g2, h5, g3, g7, Vm.isSubclass, n3]
theorem lsw {tb : Tables} [Ours tb] {target : State} {g : JFrame} (h : At T m c below) (hx : tb.exec = Jvm.exec) (hg : g.method = m) {dflt : Int} {pairs : Array (Int × Int)} {len : Nat} {pc0 pc' : Nat} (hpc : g.pc = pc0) (hd : decode c.code g.pc = .ok (.lookupswitch dflt pairs, len)) {i : Int32} {rest : List Value} (hs : g.stack = .int i :: rest)
    (hsrt : (pairs.toList.zip pairs.toList.tail).all (fun z => decide (z.1.1 < z.2.1)) = true) (ho : 0 ≤ (pc0 : Int) + lookupswitch.offset pairs.toList dflt i.toInt) (hp : ((pc0 : Int) + lookupswitch.offset pairs.toList dflt i.toInt).toNat = pc') (hr : Steps tb e below (T.setTop { g with pc := pc', stack := rest }) target) : Steps tb e below (T.setTop g) target := by
  subst hg hpc hp
  jvm_step h [h.top, hx, hd, hs, ho, lookupswitch.wp_chain]
  exact ⟨fun a b a1 b1 q => of_decide_eq_true (List.all_eq_true.mp hsrt _ q), hr⟩
theorem eqInt_v {t : Term} {n : Int32} (h : (Jvm.Cond.eq t (.int n)).value args s none s [] = some true) : t.eval args s none [] s = some (.int n) := by
  obtain ⟨x, y, hx, hy, k1, -⟩ := cmp_v (Or.inl h)
  have hy' : (Term.int n).eval args s none [] s = some (.int n) := Term.int_eval n
  have e : y = .int n := Option.some.inj (hy.symm.trans hy')
  subst e
  cases x <;> simp [Kin, Value.isRef] at k1
  rw [gotT (Cond.eq_ints hx hy') h] at hx
  exact hx
theorem putC (X : Stand p l e R s m args below meth c T locs cells slots) (hx : p.tables.exec = Jvm.exec) (hZ : Z.Warmed39 s.vm) (eT : T.heap = h) {b : Addr} {kB : ClassId} {nB : Int32} {vB : List Value} {dB : Value} (B : Arv Z h b kB .char nB vB dB) {j x : Int32} {i : Nat} (hn : nar .char x = x) (hj : ¬ j < 0 ∧ j < nB) (hi : j.toNatClampNeg = i) (hl : i < vB.length) (hg : g.method = m) (hs : g.stack = .int x :: .int j :: .ref b :: rest) (hd : decode c.code g.pc = .ok (.castore, 1)) :
    ∃ T' h', Stand p l e R s m args below meth c T' (locs ++ [⟨b, j.toNatClampNeg⟩]) cells slots ∧ T'.heap = h' ∧ Wr h h' b j.toNatClampNeg (.int x) ∧ Arv Z h' b kB .char nB (vB.set i (.int x)) dB ∧ ∀ t, Steps p.tables e below (T'.setTop { g with pc := g.pc + 1, stack := rest }) t → Steps p.tables e below (T.setTop g) t := by
  obtain ⟨cl, A, q1, S1, M1, H1, G1⟩ := B
  obtain ⟨T', h', X', e', W, st⟩ := stC X hx hZ eT A (inb_of S1 hj) hg hs hd
  rw [hn] at W
  exact ⟨T', h', X', e', W, Arv.set A q1 S1 M1 H1 G1 (by rw [← hn]; exact fits_nar_char _) W i hi hl, st⟩
theorem getC (X : Stand p l e R s m args below meth c T locs cells slots) (hx : p.tables.exec = Jvm.exec) (hZ : Z.Warmed39 s.vm) (eT : T.heap = h) {b : Addr} {kB : ClassId} {nB : Int32} {vB : List Value} {dB v : Value} (B : Arv Z h b kB .char nB vB dB) {j : Int32} (hj : ¬ j < 0 ∧ j < nB) (hv : vB.getD j.toNatClampNeg dB = v) (hg : g.method = m) (hs : g.stack = .int j :: .ref b :: rest) (hd : decode c.code g.pc = .ok (.caload, 1)) {t : State} (hr : Steps p.tables e below (T.setTop { g with pc := g.pc + 1, stack := v :: rest }) t) : Steps p.tables e below (T.setTop g) t := by
  obtain ⟨cl, A, q1, S1, M1, H1, G1⟩ := B
  have hin := inb_of S1 hj
  exact X.caload hx (j := j) (v := v) (by rw [eT]; exact A.1) (State.isArrayOf_alike hZ.alike A.2.1) A.2.2 hin (Has.at H1 hin hv) hg hs hd _ hr
theorem narc (x : Int32) : nar .char x.toUInt32.toUInt16.toUInt32.toInt32 = x.toUInt32.toUInt16.toUInt32.toInt32 := by
  have h1 := c_i2c x
  have h2 := c_i2c x.toUInt32.toUInt16.toUInt32.toInt32
  apply Int32.toInt_inj.mp
  show (x.toUInt32.toUInt16.toUInt32.toInt32).toUInt32.toUInt16.toUInt32.toInt32.toInt = _
  omega
end Own
end Jvm.Pilot.@@N@@
namespace Jvm.Pilot.@@N@@
open Jvm Jvm.ClassFile Sem Op Lib Jvm.Free Jvm.Stand Jvm.LawKit Jvm.RoadKit Bundle Jvm.Pilot.@@N@@.Jvm.D
theorem allI {P : Int32 → Prop} {y : Int32} {L : List Int32} (q : P y) (r : ∀ x ∈ L, P x) : ∀ x ∈ y :: L, P x := fun x z => (List.mem_cons.mp z).elim (fun u => u ▸ q) (r x)
theorem own_sub {L : List Jvm.Cond} {a0 : Array Value} {Z : State} (hs : ∀ d ∈ L, d ∈ tables_1) (hw : ∀ d ∈ tables_1, d.before a0 Z = true) : ∀ d ∈ L, d.before a0 Z = true := fun d hd => hw d (hs d hd)
set_option maxRecDepth 65536 in
theorem StrChars_words : ∀ d ∈ StrChars.Road.words, d ∈ tables_1 := by decide +kernel
set_option maxRecDepth 65536 in
theorem StrChars_wordsLen : ∀ d ∈ StrChars.Road.wordsLen, d ∈ tables_1 := by decide +kernel
set_option maxRecDepth 65536 in
theorem StrChars_wordsChN : ∀ d ∈ StrChars.Road.wordsChN, d ∈ tables_1 := by decide +kernel
end Jvm.Pilot.@@N@@
namespace Jvm.Pilot.@@N@@
open Jvm Jvm.ClassFile Sem Op Lib Jvm.Free Jvm.Stand Jvm.LawKit Jvm.RoadKit Bundle Jvm.Pilot.@@N@@.Jvm.D
/-- x is a String whose bytes, at t, spell the chars cs by the coder cd -/
def Str (Z : State) (h : Heap) (x t : Addr) (cd : Int32) (cs : List Int32) : Prop := ∃ (kb : ClassId) (N2 : Int32) (vs : List Value), Exa Z h x "java/lang/String" ∧ Fld Z h x "java/lang/String" "value" "[B" (.ref t) ∧ Fld Z h x "java/lang/String" "coder" "B" (.int cd) ∧ Arv Z h t kb .byte N2 vs (.int 0) ∧ StrChars.Road.CodA cs cd N2 vs ∧ (∀ c ∈ cs, ¬ c < 0 ∧ ¬ (65535 : Int32) < c) ∧ cs.length ≤ 4000
theorem own_codOf {cs : List Int32} {n : Nat} (hn : cs.length = n) (hb : ∀ c ∈ cs, ¬ (255 : Int32) < c) : StrChars.Road.CodA cs 0 (Int32.ofNat n) ((cs.map StrChars.lo8).map Value.int) := Or.inl ⟨rfl, by rw [hn], by simp [List.map_map, Function.comp_def], hb⟩
section StrF
variable {Z : State} {h h' : Heap} {x t a : Addr} {cd : Int32} {cs : List Int32} {sl : Nat} {v : Value} {ws : List Addr}
theorem Str.exa (F : Str Z h x t cd cs) : Exa Z h x "java/lang/String" := by obtain ⟨_, _, _, q, -⟩ := F; exact q
theorem Str.val (F : Str Z h x t cd cs) : Fld Z h x "java/lang/String" "value" "[B" (.ref t) := by obtain ⟨_, _, _, -, q, -⟩ := F; exact q
theorem Str.cod (F : Str Z h x t cd cs) : Fld Z h x "java/lang/String" "coder" "B" (.int cd) := by obtain ⟨_, _, _, -, -, q, -⟩ := F; exact q
theorem Str.lt1 (F : Str Z h x t cd cs) : x < h.size := F.exa.lt
theorem Str.lt2 (F : Str Z h x t cd cs) : t < h.size := by obtain ⟨_, _, _, -, -, -, q, -⟩ := F; exact q.lt
theorem Str.ext (F : Str Z h x t cd cs) (E : Ext h h') : Str Z h' x t cd cs := by obtain ⟨k, n, vs, a1, a2, a3, a4, r⟩ := F; exact ⟨k, n, vs, a1.ext E, a2.ext E, a3.ext E, a4.ext E, r⟩
theorem Str.keep (F : Str Z h x t cd cs) (K : Keep h h' ws) (q1 : x ∉ ws) (q2 : t ∉ ws) : Str Z h' x t cd cs := by obtain ⟨k, n, vs, a1, a2, a3, a4, r⟩ := F; exact ⟨k, n, vs, a1.keep K, a2.keep K q1, a3.keep K q1, a4.keep K q2, r⟩
theorem Str.wr (F : Str Z h x t cd cs) (W : Wr h h' a sl v) (q1 : x ≠ a) (q2 : t ≠ a) : Str Z h' x t cd cs := by obtain ⟨k, n, vs, a1, a2, a3, a4, r⟩ := F; exact ⟨k, n, vs, a1.wr W, Fld.other W a2 (Or.inl q1), Fld.other W a3 (Or.inl q1), a4.other W q2, r⟩
theorem Str.ne1 {b : Addr} {C : String} (F : Str Z h x t cd cs) (E : Exa Z h b C) (hC : "java/lang/String" ≠ C) : x ≠ b := F.exa.ne E hC
theorem Str.ne2 {b : Addr} {C : String} {n : Nat} {a0 : Array Value} (F : Str Z h x t cd cs) (E : Exa Z h b C) (w : (Jvm.Cond.instantiable C n).before a0 Z = true) : t ≠ b := by obtain ⟨_, _, _, -, -, -, q, -⟩ := F; exact Ne.symm (E.neArv q w)
end StrF
theorem up16 (cs : List Int32) (h : ∀ c ∈ cs, ¬ c < 0 ∧ ¬ (255 : Int32) < c) : ∀ c ∈ cs, ¬ c < 0 ∧ ¬ (65535 : Int32) < c := fun c hc => ⟨(h c hc).1, fun q => (h c hc).2 (by rw [Int32.lt_iff_toInt_lt] at q ⊢; have e1 : (65535 : Int32).toInt = 65535 := rfl; have e2 : (255 : Int32).toInt = 255 := rfl; omega)⟩
theorem oj_lt {i n : Nat} (h : i < n) (hn : n ≤ 8000) : Int32.ofNat i < Int32.ofNat n := (Int32.ofNat_lt_ofNat (by omega) (by omega)).mpr h
theorem oj_nlt {i n : Nat} (h : ¬ i < n) (hi : i ≤ 8000) (hn : n ≤ 8000) : ¬ Int32.ofNat i < Int32.ofNat n := fun q => h ((Int32.ofNat_lt_ofNat (by omega) (by omega)).mp q)
theorem oj_nn {n : Nat} (hn : n ≤ 8000) : ¬ Int32.ofNat n < 0 := Int32.ofNat_not_neg (by omega)
theorem oj_n {n : Nat} (hn : n ≤ 8000) : (Int32.ofNat n).toNatClampNeg = n := by
  rw [Int32.toNatClampNeg, Int32.toInt_ofNat_of_lt (by omega)]; rfl
theorem oj_inj {i n : Nat} (hi : i ≤ 8000) (hn : n ≤ 8000) (h : Int32.ofNat i = Int32.ofNat n) : i = n := by
  have := congrArg Int32.toNatClampNeg h
  rwa [oj_n hi, oj_n hn] at this
theorem oj_one (i : Nat) : Int32.ofNat i + (1 : Int32) = Int32.ofNat (i + 1) := (Int32.ofNat_add i 1).symm
theorem oj_in {c : Cell} {n i : Nat} {z : Int32} (S : c.slots.size = z.toNatClampNeg) (hz : z = Int32.ofNat n) (h : i < n) (hn : n ≤ 8000) : ¬ (Int32.ofNat i < 0 ∨ c.slots.size ≤ (Int32.ofNat i).toNatClampNeg) := by
  rw [S, hz, oj_n hn, oj_n (by omega)]
  exact fun q => q.elim (oj_nn (by omega)) (by omega)
theorem oj_dbl {n : Nat} (hn : n ≤ 4000) : (Int32.ofNat n) <<< ((1 : Int32) &&& 31) = Int32.ofNat (2 * n) := by
  have q := c_ishl (Int32.ofNat n) 1 1 (by decide)
  rw [Int32.toInt_ofNat_of_lt (by omega)] at q
  apply Int32.toInt_inj.mp
  rw [Int32.toInt_ofNat_of_lt (by omega)]
  have r := rng32 (Int32.ofNat n <<< ((1 : Int32) &&& 31))
  omega
theorem oj_half {n : Nat} (hn : n ≤ 4000) : (Int32.ofNat (2 * n)) >>> ((1 : Int32) &&& 31) = Int32.ofNat n := by
  have q := c_ishr (Int32.ofNat (2 * n)) 1 1 (by decide)
  rw [Int32.toInt_ofNat_of_lt (by omega)] at q
  apply Int32.toInt_inj.mp
  rw [Int32.toInt_ofNat_of_lt (by omega), q]
  omega
theorem oj_get (cs : List Int32) {i : Nat} (h : i < cs.length) (d : Value) : (cs.map Value.int).getD i d = .int (cs.getD i 0) := by
  simp [List.getD_eq_getElem?_getD, h]
theorem oj_take (cs : List Int32) {i : Nat} (h : i < cs.length) (f : Int32 → Value) : (cs.take i).map f ++ [f (cs.getD i 0)] = (cs.take (i + 1)).map f := by
  rw [List.take_add_one, List.map_append, List.getD_eq_getElem?_getD, List.getElem?_eq_getElem h]; rfl
theorem oj_narb (x : Int32) : nar .byte (x.toInt8.toInt32) = x.toInt8.toInt32 := by simp [nar]
theorem oj_shr0 (c : Int32) : c >>> ((0 : Int32) &&& 31) = c := by
  have q := c_ishr c 0 0 (by decide)
  apply Int32.toInt_inj.mp
  first | omega | (rw [q]; simp)
theorem oj_bb (x : Int32) : x.toInt8.toInt32.toInt8.toInt32 = x.toInt8.toInt32 := by simp
theorem arvSnoc {Z : State} {h h' : Heap} {a : Addr} {k : ClassId} {ty : FieldType} {z j : Int32} {vs : List Value} {dv v : Value} {c : Cell} (A : Arr Z h a c ty) (q1 : c.cls = k) (S : c.slots.size = z.toNatClampNeg) (q3 : ¬ z < 0) (H : Has c vs dv) (G : ∀ i, i < c.slots.size → fits ty (vs.getD i dv) = true) (hv : fits ty v = true) (W : Wr h h' a j.toNatClampNeg v) (hj : j.toNatClampNeg = vs.length) : Arv Z h' a k ty z (vs ++ [v]) dv := by
  have H' : Has c (vs ++ [dv]) dv := fun i hi => by rw [show [dv] = List.replicate 1 dv from rfl, pad_rep vs dv 1 i]; exact H i hi
  have G' : ∀ i, i < c.slots.size → fits ty ((vs ++ [dv]).getD i dv) = true := fun i hi => by rw [show [dv] = List.replicate 1 dv from rfl, pad_rep vs dv 1 i]; exact G i hi
  have q := Arv.set A q1 S q3 H' G' hv W vs.length hj (by simp)
  have e : (vs ++ [dv]).set vs.length v = vs ++ [v] := by simp
  rwa [e] at q
theorem oj_c16 {c : Int32} (h : ¬ c < 0 ∧ ¬ (65535 : Int32) < c) : nar .char c = c := by
  show c.toUInt32.toUInt16.toUInt32.toInt32 = c
  have q := c_i2c c
  have r := rng32 c
  obtain ⟨h0, h1⟩ := h
  rw [Int32.lt_iff_toInt_lt] at h0 h1
  have e0 : (0 : Int32).toInt = 0 := rfl
  have e1 : (65535 : Int32).toInt = 65535 := rfl
  apply Int32.toInt_inj.mp
  omega
/-- (char) x -/
abbrev own_c (x : Int32) : Int32 := x.toUInt32.toUInt16.toUInt32.toInt32
/-- what ctext makes of an int -/
def own_ct (v : Int32) : Int32 := if own_c v = 40 then own_c (v + 128) else if own_c v = 41 then own_c (v + 128) else if own_c v = 92 then own_c (v + 128) else own_c v
abbrev own_ush (x k : Int32) : Int32 := (x.toUInt32 >>> (k &&& 31).toUInt32).toInt32
/-- what put writes -/
def own_blk (x : Int32) : List Int32 :=
  if (x &&& 7) = 1 then [own_ct (own_ush x 3 &&& 255)]
  else if (x &&& 7) = 2 then [92, own_c (own_ush x 11 &&& 255)]
  else if (x &&& 7) = 3 then [40, own_ct (own_ush x 3 &&& 255), 41]
  else if (x &&& 7) = 4 then [40, 92, own_c (own_ush x 11 &&& 255), 41]
  else if (x &&& 7) = 5 then [40, 41]
  else if (x &&& 7) = 6 then [40, 40, 41, 41]
  else if (x &&& 7) = 7 then [own_ct (own_ush x 3 &&& 255), own_ct (own_c (own_ush x 11 &&& 255))]
  else []
/-- the scan: position, depth -/
def own_scan : List Int32 → Nat → Int32 → Int32
  | [], _, _ => -1
  | [c], p, d => if c = 92 then -1 else if c = 40 then -1 else if c = 41 then (if d - 1 = 0 then Int32.ofNat (p + 1) else -1) else -1
  | c :: e :: r, p, d => if c = 92 then own_scan r (p + 2) d else if c = 40 then own_scan (e :: r) (p + 1) (d + 1) else if c = 41 then (if d - 1 = 0 then Int32.ofNat (p + 1) else own_scan (e :: r) (p + 1) (d - 1)) else own_scan (e :: r) (p + 1) d
theorem own_scan_bs (r : List Int32) (p : Nat) (d : Int32) : own_scan (92 :: r) p d = own_scan r.tail (p + 2) d := by
  cases r <;> simp [own_scan]
theorem own_scan_op (r : List Int32) (p : Nat) (d : Int32) : own_scan (40 :: r) p d = own_scan r (p + 1) (d + 1) := by
  cases r <;> simp [own_scan]
theorem own_scan_cl (r : List Int32) (p : Nat) (d : Int32) : own_scan (41 :: r) p d = if d - 1 = 0 then Int32.ofNat (p + 1) else own_scan r (p + 1) (d - 1) := by
  cases r <;> simp [own_scan]
theorem own_scan_no {c : Int32} (h : c ≠ 40 ∧ c ≠ 41 ∧ c ≠ 92) (r : List Int32) (p : Nat) (d : Int32) : own_scan (c :: r) p d = own_scan r (p + 1) d := by
  cases r <;> simp [own_scan, h.1, h.2.1, h.2.2]
/-- no bracket and no backslash, but for a last backslash -/
def own_dull : List Int32 → Prop
  | [] => True
  | [c] => c ≠ 40 ∧ c ≠ 41
  | c :: e :: r => (c ≠ 40 ∧ c ≠ 41 ∧ c ≠ 92) ∧ own_dull (e :: r)
theorem own_dull_tail : ∀ {L : List Int32}, own_dull L → own_dull L.tail
  | [], _ => trivial
  | [_], _ => trivial
  | _ :: _ :: _, h => h.2
theorem own_dull_scan : ∀ (L : List Int32) (p : Nat) (d : Int32), own_dull L → own_scan L p d = -1
  | [], _, _, _ => rfl
  | [c], p, d, h => by simp [own_scan, h.1, h.2]
  | c :: e :: r, p, d, h => by rw [own_scan_no h.1]; exact own_dull_scan (e :: r) _ _ h.2
theorem own_ct_no (v : Int32) (h0 : 0 ≤ v.toInt) (h1 : v.toInt ≤ 255) : own_ct v ≠ 40 ∧ own_ct v ≠ 41 ∧ own_ct v ≠ 92 := by
  have a := c_i2c v
  have b := c_i2c (v + 128)
  have s := c_iadd v 128
  have r := rng32 (v + 128)
  have e1 : (128 : Int32).toInt = 128 := rfl
  have e2 : (40 : Int32).toInt = 40 := rfl
  have e3 : (41 : Int32).toInt = 41 := rfl
  have e4 : (92 : Int32).toInt = 92 := rfl
  have k40 : ∀ z : Int32, z = 40 ↔ z.toInt = 40 := fun z => by rw [← Int32.toInt_inj, e2]
  have k41 : ∀ z : Int32, z = 41 ↔ z.toInt = 41 := fun z => by rw [← Int32.toInt_inj, e3]
  have k92 : ∀ z : Int32, z = 92 ↔ z.toInt = 92 := fun z => by rw [← Int32.toInt_inj, e4]
  simp only [own_ct, own_c, ne_eq, k40, k41, k92]
  split
  · omega
  · split
    · omega
    · split <;> omega
theorem own_ct_lat (v : Int32) (h0 : 0 ≤ v.toInt) (h1 : v.toInt ≤ 255) : ¬ own_ct v < 0 ∧ ¬ (255 : Int32) < own_ct v := by
  have a := c_i2c v
  have b := c_i2c (v + 128)
  have s := c_iadd v 128
  have r := rng32 (v + 128)
  have e0 : (0 : Int32).toInt = 0 := rfl
  have e1 : (128 : Int32).toInt = 128 := rfl
  have e2 : (40 : Int32).toInt = 40 := rfl
  have e3 : (41 : Int32).toInt = 41 := rfl
  have e4 : (92 : Int32).toInt = 92 := rfl
  have e5 : (255 : Int32).toInt = 255 := rfl
  have k40 : ∀ z : Int32, z = 40 ↔ z.toInt = 40 := fun z => by rw [← Int32.toInt_inj, e2]
  have k41 : ∀ z : Int32, z = 41 ↔ z.toInt = 41 := fun z => by rw [← Int32.toInt_inj, e3]
  have k92 : ∀ z : Int32, z = 92 ↔ z.toInt = 92 := fun z => by rw [← Int32.toInt_inj, e4]
  simp only [own_ct, own_c, k40, k41, k92, Int32.lt_iff_toInt_lt, e0, e5]
  split
  · omega
  · split
    · omega
    · split <;> omega
theorem own_m255 (x : Int32) : 0 ≤ (x &&& 255).toInt ∧ (x &&& 255).toInt ≤ 255 := by
  have h := c_mask x 255 8 (by decide) (by decide)
  omega
theorem own_c255 (x : Int32) : own_c (x &&& 255) = x &&& 255 := i2c_mask x
theorem own_m255c (x : Int32) : 0 ≤ ((x &&& 255).toUInt32.toUInt16.toUInt32.toInt32).toInt ∧ ((x &&& 255).toUInt32.toUInt16.toUInt32.toInt32).toInt ≤ 255 := by
  rw [show (x &&& 255).toUInt32.toUInt16.toUInt32.toInt32 = x &&& 255 from i2c_mask x]
  exact own_m255 x
theorem own_blk_scan (x : Int32) (r : List Int32) (p : Nat) : own_scan (own_blk x ++ r) p 1 = own_scan r (p + (own_blk x).length) 1 := by
  have c1 := own_ct_no (own_ush x 3 &&& 255) (own_m255 _).1 (own_m255 _).2
  have c2 := own_ct_no (own_c (own_ush x 11 &&& 255)) (by rw [own_c255]; exact (own_m255 _).1) (by rw [own_c255]; exact (own_m255 _).2)
  unfold own_blk
  split
  · simp only [List.cons_append, List.nil_append, own_scan_no c1, List.length_cons, List.length_nil]
  · split
    · simp only [List.cons_append, List.nil_append, own_scan_bs, List.tail_cons, List.length_cons, List.length_nil]
    · split
      · simp only [List.cons_append, List.nil_append, own_scan_op, own_scan_no c1, own_scan_cl, List.length_cons, List.length_nil]
        rw [if_neg (by decide)]; rfl
      · split
        · simp only [List.cons_append, List.nil_append, own_scan_op, own_scan_bs, List.tail_cons, own_scan_cl, List.length_cons, List.length_nil]
          rw [if_neg (by decide)]; rfl
        · split
          · simp only [List.cons_append, List.nil_append, own_scan_op, own_scan_cl, List.length_cons, List.length_nil]
            rw [if_neg (by decide)]; rfl
          · split
            · simp only [List.cons_append, List.nil_append, own_scan_op, own_scan_cl, List.length_cons, List.length_nil]
              rw [if_neg (by decide), if_neg (by decide)]; rfl
            · split
              · simp only [List.cons_append, List.nil_append, own_scan_no c1, own_scan_no c2, List.length_cons, List.length_nil]
              · rfl
theorem own_blk_cut (x : Int32) (D : List Int32) (hD : own_dull D) (k p : Nat) : own_scan ((own_blk x).take k ++ D) p 1 = -1 := by
  have c1 := own_ct_no (own_ush x 3 &&& 255) (own_m255 _).1 (own_m255 _).2
  have c2 := own_ct_no (own_c (own_ush x 11 &&& 255)) (by rw [own_c255]; exact (own_m255 _).1) (by rw [own_c255]; exact (own_m255 _).2)
  have s0 : ∀ p d, own_scan D p d = -1 := fun p d => own_dull_scan D p d hD
  have s1 : ∀ p d, own_scan D.tail p d = -1 := fun p d => own_dull_scan _ p d (own_dull_tail hD)
  have n1 : ¬ ((1 : Int32) + 1 - 1 = 0) := by decide
  have n2 : ¬ ((1 : Int32) + 1 + 1 - 1 = 0) := by decide
  have n3 : ¬ ((1 : Int32) + 1 + 1 - 1 - 1 = 0) := by decide
  rcases k with _ | _ | _ | _ | k <;> (unfold own_blk; (repeat' split) <;> simp [own_scan_no c1, own_scan_no c2, own_scan_bs, own_scan_op, own_scan_cl, s0, s1, n1, n2, n3])
theorem own_cut {L D : List Int32} (x : Int32) (hD : own_dull D) (h : ∀ k p, own_scan (L.take k ++ D) p 1 = -1) (k p : Nat) : own_scan ((own_blk x ++ L).take k ++ D) p 1 = -1 := by
  rw [List.take_append]
  by_cases q : k ≤ (own_blk x).length
  · rw [Nat.sub_eq_zero_of_le q, List.take_zero, List.append_nil]; exact own_blk_cut x D hD k p
  · rw [List.take_of_length_le (by omega), List.append_assoc, own_blk_scan]; exact h _ _
/-- the comment that the law builds -/
def own_com (x1 x2 x3 : Int32) : List Int32 := 40 :: (own_blk x1 ++ (own_blk x2 ++ own_blk x3)) ++ [41]
theorem own_closed (x1 x2 x3 : Int32) (r : List Int32) (p : Nat) : own_scan (own_com x1 x2 x3 ++ r) p 0 = Int32.ofNat (p + (own_com x1 x2 x3).length) := by
  simp only [own_com, List.cons_append, List.append_assoc, List.nil_append, own_scan_op]
  have e : (0 : Int32) + 1 = 1 := by decide
  rw [e, own_blk_scan, own_blk_scan, own_blk_scan, own_scan_cl, if_pos (by decide)]
  congr 1
  simp only [List.length_cons, List.length_append, List.length_nil]
  omega
theorem own_open (x1 x2 x3 : Int32) (D : List Int32) (hD : own_dull D) (k p : Nat) (h0 : 0 < k) (hk : k < (own_com x1 x2 x3).length) : own_scan ((own_com x1 x2 x3).take k ++ D) p 0 = -1 := by
  obtain ⟨k, rfl⟩ : ∃ j, k = j + 1 := ⟨k - 1, by omega⟩
  have e : (own_com x1 x2 x3).take (k + 1) = 40 :: (own_blk x1 ++ (own_blk x2 ++ (own_blk x3 ++ []))).take k := by
    simp only [own_com, List.cons_append, List.take_succ_cons, List.append_nil]
    rw [List.take_append_of_le_length]
    simp only [own_com, List.length_cons, List.length_append, List.length_nil] at hk ⊢
    omega
  rw [e, List.cons_append, own_scan_op]
  have e1 : (0 : Int32) + 1 = 1 := by decide
  rw [e1]
  exact own_cut x1 hD (own_cut x2 hD (own_cut x3 hD fun k p => by rw [List.take_nil, List.nil_append]; exact own_dull_scan D p 1 hD)) k _
theorem oj_add (n k : Nat) : Int32.ofNat n + Int32.ofNat k = Int32.ofNat (n + k) := (Int32.ofNat_add n k).symm
theorem oj_mem {cs : List Int32} {i : Nat} (h : i < cs.length) : cs.getD i 0 ∈ cs := by
  rw [List.getD_eq_getElem?_getD, List.getElem?_eq_getElem h]; exact List.getElem_mem h
theorem own_lat16 {c : Int32} (h : ¬ c < 0 ∧ ¬ (255 : Int32) < c) : nar .char c = c := oj_c16 ⟨h.1, fun q => h.2 (by rw [Int32.lt_iff_toInt_lt] at q ⊢; have e1 : (65535 : Int32).toInt = 65535 := rfl; have e2 : (255 : Int32).toInt = 255 := rfl; omega)⟩
theorem own_c_lat (x : Int32) : ¬ own_c (x &&& 255) < 0 ∧ ¬ (255 : Int32) < own_c (x &&& 255) := by
  rw [own_c255]
  have h := own_m255 x
  simp only [Int32.lt_iff_toInt_lt]
  have e0 : (0 : Int32).toInt = 0 := rfl
  have e1 : (255 : Int32).toInt = 255 := rfl
  omega
theorem own_blk_lat (x : Int32) : ∀ c ∈ own_blk x, ¬ c < 0 ∧ ¬ (255 : Int32) < c := by
  have a := own_ct_lat (own_ush x 3 &&& 255) (own_m255 _).1 (own_m255 _).2
  have b := own_c_lat (own_ush x 11)
  have d := own_ct_lat (own_c (own_ush x 11 &&& 255)) (by rw [own_c255]; exact (own_m255 _).1) (by rw [own_c255]; exact (own_m255 _).2)
  have e1 : ¬ (40 : Int32) < 0 ∧ ¬ (255 : Int32) < 40 := by decide
  have e2 : ¬ (41 : Int32) < 0 ∧ ¬ (255 : Int32) < 41 := by decide
  have e3 : ¬ (92 : Int32) < 0 ∧ ¬ (255 : Int32) < 92 := by decide
  have N : ∀ x ∈ ([] : List Int32), ¬ x < 0 ∧ ¬ (255 : Int32) < x := fun _ q => nomatch q
  unfold own_blk
  split
  · exact allI a N
  · split
    · exact allI e3 (allI b N)
    · split
      · exact allI e1 (allI a (allI e2 N))
      · split
        · exact allI e1 (allI e3 (allI b (allI e2 N)))
        · split
          · exact allI e1 (allI e2 N)
          · split
            · exact allI e1 (allI e1 (allI e2 (allI e2 N)))
            · split
              · exact allI a (allI d N)
              · exact N
theorem own_blk_len (x : Int32) : (own_blk x).length ≤ 4 := by
  unfold own_blk
  (repeat' split) <;> simp
/-- what the law says of its cell j: r -/
def own_cellP (com : List Int32) (pl lim : Nat) (closed : Int32) (j : Nat) (r : Int32) : Prop :=
  (¬ r < 0 ∧ ¬ (255 : Int32) < r) ∧ (pl ≤ j → j - pl < lim → r = com.getD (j - pl) 0) ∧ (pl ≤ j → lim ≤ j - pl → closed = 0 → r ≠ 40 ∧ r ≠ 41 ∧ (r = 92 → j = 15))
theorem own_dull_of : ∀ L : List Int32, (∀ k, k < L.length → L.getD k 0 ≠ 40 ∧ L.getD k 0 ≠ 41 ∧ (L.getD k 0 = 92 → k + 1 = L.length)) → own_dull L
  | [], _ => trivial
  | [c], h => ⟨(h 0 (by simp)).1, (h 0 (by simp)).2.1⟩
  | c :: e :: r, h => by
    have h0 := h 0 (by simp)
    refine ⟨⟨h0.1, h0.2.1, fun q => ?_⟩, own_dull_of (e :: r) fun k hk => ?_⟩
    · have := h0.2.2 q; simp at this
    · have hh := h (k + 1) (by simpa using hk)
      refine ⟨hh.1, hh.2.1, fun q => ?_⟩
      have := hh.2.2 q
      simpa using this
theorem own_split (com rs : List Int32) (pl lim : Nat) (closed : Int32) (hr : rs.length = 16) (h16 : pl + lim ≤ 16) (hlc : lim ≤ com.length) (h : ∀ j, j < 16 → own_cellP com pl lim closed j (rs.getD j 0)) :
    ∃ D, rs.drop pl = com.take lim ++ D ∧ (closed = 0 → own_dull D) := by
  refine ⟨rs.drop (pl + lim), ?_, fun hc => own_dull_of _ fun k hk => ?_⟩
  · have e : (rs.drop pl).take lim = com.take lim := by
      apply List.ext_getElem
      · simp only [List.length_take, List.length_drop]; omega
      · intro k h1 h2
        simp only [List.length_take, List.length_drop] at h1
        simp only [List.getElem_take, List.getElem_drop]
        have q := (h (pl + k) (by omega)).2.1 (by omega) (by omega)
        rw [List.getD_eq_getElem?_getD, List.getElem?_eq_getElem (by omega)] at q
        rw [Nat.add_sub_cancel_left, List.getD_eq_getElem?_getD, List.getElem?_eq_getElem (by omega)] at q
        exact q
    rw [← e, ← List.drop_drop, List.take_append_drop]
  · simp only [List.length_drop] at hk
    have q := (h (pl + lim + k) (by omega)).2.2 (by omega) (by omega) hc
    have e : (rs.drop (pl + lim)).getD k 0 = rs.getD (pl + lim + k) 0 := by simp [List.getD_eq_getElem?_getD]
    rw [e, List.length_drop]
    exact ⟨q.1, q.2.1, fun z => by have := q.2.2 z; omega⟩
theorem own_drop {cs : List Int32} {i : Nat} (h : i < cs.length) : cs.drop i = cs.getD i 0 :: cs.drop (i + 1) := by
  rw [List.drop_eq_getElem_cons h, List.getD_eq_getElem?_getD, List.getElem?_eq_getElem h]; rfl

theorem d2_0 : decode method_4_code 0 = .ok (.iload_n 0, 1) := by decide +kernel
theorem d2_1 : decode method_4_code 1 = .ok (.i2c, 1) := by decide +kernel
theorem d2_2 : decode method_4_code 2 = .ok (.istore_n 1, 1) := by decide +kernel
theorem d2_3 : decode method_4_code 3 = .ok (.iload_n 1, 1) := by decide +kernel
theorem d2_4 : decode method_4_code 4 = .ok (.bipush 40, 2) := by decide +kernel
theorem d2_6 : decode method_4_code 6 = .ok (.if_icmp .eq 15, 3) := by decide +kernel
theorem d2_21 : decode method_4_code 21 = .ok (.iload_n 0, 1) := by decide +kernel
theorem d2_22 : decode method_4_code 22 = .ok (.sipush 128, 3) := by decide +kernel
theorem d2_25 : decode method_4_code 25 = .ok (.iadd, 1) := by decide +kernel
theorem d2_26 : decode method_4_code 26 = .ok (.i2c, 1) := by decide +kernel
theorem d2_27 : decode method_4_code 27 = .ok (.ireturn, 1) := by decide +kernel
theorem d2_9 : decode method_4_code 9 = .ok (.iload_n 1, 1) := by decide +kernel
theorem d2_10 : decode method_4_code 10 = .ok (.bipush 41, 2) := by decide +kernel
theorem d2_12 : decode method_4_code 12 = .ok (.if_icmp .eq 9, 3) := by decide +kernel
theorem d2_15 : decode method_4_code 15 = .ok (.iload_n 1, 1) := by decide +kernel
theorem d2_16 : decode method_4_code 16 = .ok (.bipush 92, 2) := by decide +kernel
theorem d2_18 : decode method_4_code 18 = .ok (.if_icmp .ne 10, 3) := by decide +kernel
theorem d2_28 : decode method_4_code 28 = .ok (.iload_n 1, 1) := by decide +kernel
theorem d2_29 : decode method_4_code 29 = .ok (.ireturn, 1) := by decide +kernel
abbrev y_0 : MethodName := ⟨"com/example/kuvert/kuvert/mime/HeadingCommentEndPinLaw", "ctext", "(I)C"⟩
theorem pn_0 : plainFor y_0 = true := by first | exact plainFor_of_name (by first | (simp [plainName, overriddenIn]; done) | decide +kernel) | decide +kernel
theorem ef_rmCt (m : MethodId) (p1 : Int32) : entryFrame m #[(.int p1)] 2 = mkF m 0 #[si p1, .unset] [] := by first | (simp [entryFrame, mkF, argsToLocals, Value.category]; done) | rfl
def Q_rmCt (Z : State) (p1 : Int32) (h0 : Heap) (n0 : Nat) (v : Option Value) (h : Heap) (L : List Loc) : Prop := v = some (.int (own_ct p1)) ∧ Fr n0 L ∧ h = h0
set_option maxRecDepth 65536 in
set_option maxHeartbeats 40000000 in
theorem rmCt (l : Launch) (Z : State) (a0 : Array Value) (hw : ∀ d ∈ tables_1, d.before a0 Z = true) (ws : List Jvm.Cond) (p1 : Int32) (h0 : Heap) (n0 : Nat) (Z0 : n0 ≤ h0.size)  :
    MetFree l y_0 (head1 (Jvm.Cond.code y_0 method_4_code 2 (some .char) :: ws) ({ frames := 0, cells := 0, slots := 0, locals := 0 } : Room)) (fun a U => a = #[(.int p1)] ∧ Z.Warmed39 U.vm ∧ U.heap = h0) (fun _ _ _ _ _ => True) (fun _ U o U' => ∃ v L, o = .returned v ∧ Q_rmCt Z p1 h0 n0 v U'.heap L ∧ FrameEnd U o U' L ({ frames := 0, cells := 0, slots := 0, locals := 0 } : Room).cells ({ frames := 0, cells := 0, slots := 0, locals := 0 } : Room).slots) := by
 refine bodyOf pn_0 (fun m => ef_rmCt m p1) ?_
 intro p e s m below meth c T0 X0 hx hby hml hown hnm hret hk hZ e0
 have N0 := Fr.nil n0
 have K0 : Keep h0 h0 [] := Keep.refl _ _
 refine go (S' := T0.setTop (mkF m 6 #[si p1, si (p1.toUInt32.toUInt16.toUInt32.toInt32)] [(.int 40), (.int (p1.toUInt32.toUInt16.toUInt32.toInt32))])) (fun t k => XS.iloadN X0.here hx rfl (hb hby d2_0) rfl (XS.i2c X0.here hx rfl (hb hby d2_1) rfl (XS.istoreN X0.here hx rfl (hb hby d2_2) rfl (l' := #[si p1, si (p1.toUInt32.toUInt16.toUInt32.toInt32)]) rfl (XS.iloadN X0.here hx rfl (hb hby d2_3) rfl (XS.bipush X0.here hx rfl (hb hby d2_4) k))))) ?_
 by_cases hc1 : (p1.toUInt32.toUInt16.toUInt32.toInt32) = (40 : Int32)
 ·
  refine go (S' := T0.setTop (mkF m 27 #[si p1, si (p1.toUInt32.toUInt16.toUInt32.toInt32)] [(.int ((p1 + (128 : Int32)).toUInt32.toUInt16.toUInt32.toInt32))])) (fun t k => XS.icmpYes X0.here hx rfl (pc0 := 6) (pc' := 21) rfl (hb hby d2_6) rfl (teq hc1).1 (by decide) (by decide) (XS.iloadN X0.here hx rfl (hb hby d2_21) rfl (XS.sipush X0.here hx rfl (hb hby d2_22) (XS.iadd X0.here hx rfl (hb hby d2_25) rfl (XS.i2c X0.here hx rfl (hb hby d2_26) rfl k))))) ?_
  refine finN X0 hx hk (t := .char) hret (by simp) (hb hby d2_27) (by decide) (by decide) ?_
  rw [e0]
  exact ⟨(by rw [narc, own_ct, if_pos hc1]), N0, rfl⟩
 ·
  refine go (S' := T0.setTop (mkF m 12 #[si p1, si (p1.toUInt32.toUInt16.toUInt32.toInt32)] [(.int 41), (.int (p1.toUInt32.toUInt16.toUInt32.toInt32))])) (fun t k => XS.icmpNo X0.here hx rfl (hb hby d2_6) rfl (feq hc1).1 (XS.iloadN X0.here hx rfl (hb hby d2_9) rfl (XS.bipush X0.here hx rfl (hb hby d2_10) k))) ?_
  by_cases hc2 : (p1.toUInt32.toUInt16.toUInt32.toInt32) = (41 : Int32)
  ·
   refine go (S' := T0.setTop (mkF m 27 #[si p1, si (p1.toUInt32.toUInt16.toUInt32.toInt32)] [(.int ((p1 + (128 : Int32)).toUInt32.toUInt16.toUInt32.toInt32))])) (fun t k => XS.icmpYes X0.here hx rfl (pc0 := 12) (pc' := 21) rfl (hb hby d2_12) rfl (teq hc2).1 (by decide) (by decide) (XS.iloadN X0.here hx rfl (hb hby d2_21) rfl (XS.sipush X0.here hx rfl (hb hby d2_22) (XS.iadd X0.here hx rfl (hb hby d2_25) rfl (XS.i2c X0.here hx rfl (hb hby d2_26) rfl k))))) ?_
   refine finN X0 hx hk (t := .char) hret (by simp) (hb hby d2_27) (by decide) (by decide) ?_
   rw [e0]
   exact ⟨(by rw [narc, own_ct, if_neg hc1, if_pos hc2]), N0, rfl⟩
  ·
   refine go (S' := T0.setTop (mkF m 18 #[si p1, si (p1.toUInt32.toUInt16.toUInt32.toInt32)] [(.int 92), (.int (p1.toUInt32.toUInt16.toUInt32.toInt32))])) (fun t k => XS.icmpNo X0.here hx rfl (hb hby d2_12) rfl (feq hc2).1 (XS.iloadN X0.here hx rfl (hb hby d2_15) rfl (XS.bipush X0.here hx rfl (hb hby d2_16) k))) ?_
   by_cases hc3 : (p1.toUInt32.toUInt16.toUInt32.toInt32) = (92 : Int32)
   ·
    refine go (S' := T0.setTop (mkF m 27 #[si p1, si (p1.toUInt32.toUInt16.toUInt32.toInt32)] [(.int ((p1 + (128 : Int32)).toUInt32.toUInt16.toUInt32.toInt32))])) (fun t k => XS.icmpNo X0.here hx rfl (hb hby d2_18) rfl (teq hc3).2 (XS.iloadN X0.here hx rfl (hb hby d2_21) rfl (XS.sipush X0.here hx rfl (hb hby d2_22) (XS.iadd X0.here hx rfl (hb hby d2_25) rfl (XS.i2c X0.here hx rfl (hb hby d2_26) rfl k))))) ?_
    refine finN X0 hx hk (t := .char) hret (by simp) (hb hby d2_27) (by decide) (by decide) ?_
    rw [e0]
    exact ⟨(by rw [narc, own_ct, if_neg hc1, if_neg hc2, if_pos hc3]), N0, rfl⟩
   ·
    refine go (S' := T0.setTop (mkF m 29 #[si p1, si (p1.toUInt32.toUInt16.toUInt32.toInt32)] [(.int (p1.toUInt32.toUInt16.toUInt32.toInt32))])) (fun t k => XS.icmpYes X0.here hx rfl (pc0 := 18) (pc' := 28) rfl (hb hby d2_18) rfl (feq hc3).2 (by decide) (by decide) (XS.iloadN X0.here hx rfl (hb hby d2_28) rfl k)) ?_
    refine finN X0 hx hk (t := .char) hret (by simp) (hb hby d2_29) (by decide) (by decide) ?_
    rw [e0]
    exact ⟨(by rw [narc, own_ct, if_neg hc1, if_neg hc2, if_neg hc3]), N0, rfl⟩
theorem d1_0 : decode method_5_code 0 = .ok (.iload_n 2, 1) := by decide +kernel
theorem d1_1 : decode method_5_code 1 = .ok (.bipush 7, 2) := by decide +kernel
theorem d1_3 : decode method_5_code 3 = .ok (.iand, 1) := by decide +kernel
theorem d1_4 : decode method_5_code 4 = .ok (.istore_n 3, 1) := by decide +kernel
theorem d1_5 : decode method_5_code 5 = .ok (.iload_n 2, 1) := by decide +kernel
theorem d1_6 : decode method_5_code 6 = .ok (.iconst 3, 1) := by decide +kernel
theorem d1_7 : decode method_5_code 7 = .ok (.iushr, 1) := by decide +kernel
theorem d1_8 : decode method_5_code 8 = .ok (.sipush 255, 3) := by decide +kernel
theorem d1_11 : decode method_5_code 11 = .ok (.iand, 1) := by decide +kernel
theorem d1_12 : decode method_5_code 12 = .ok (.invokestatic 28, 3) := by decide +kernel
theorem pd_0 : parseMethodDescriptor "(I)C" = some ⟨[.int], some .char⟩ := by decide +kernel
theorem d1_15 : decode method_5_code 15 = .ok (.istore 4, 2) := by decide +kernel
theorem d1_17 : decode method_5_code 17 = .ok (.iload_n 2, 1) := by decide +kernel
theorem d1_18 : decode method_5_code 18 = .ok (.bipush 11, 2) := by decide +kernel
theorem d1_20 : decode method_5_code 20 = .ok (.iushr, 1) := by decide +kernel
theorem d1_21 : decode method_5_code 21 = .ok (.sipush 255, 3) := by decide +kernel
theorem d1_24 : decode method_5_code 24 = .ok (.iand, 1) := by decide +kernel
theorem d1_25 : decode method_5_code 25 = .ok (.i2c, 1) := by decide +kernel
theorem d1_26 : decode method_5_code 26 = .ok (.istore 5, 2) := by decide +kernel
theorem d1_28 : decode method_5_code 28 = .ok (.iload_n 3, 1) := by decide +kernel
theorem d1_29 : decode method_5_code 29 = .ok (.iconst 1, 1) := by decide +kernel
theorem d1_30 : decode method_5_code 30 = .ok (.if_icmp .ne 12, 3) := by decide +kernel
theorem d1_33 : decode method_5_code 33 = .ok (.aload_n 0, 1) := by decide +kernel
theorem d1_34 : decode method_5_code 34 = .ok (.iload_n 1, 1) := by decide +kernel
theorem d1_35 : decode method_5_code 35 = .ok (.iload 4, 2) := by decide +kernel
theorem d1_37 : decode method_5_code 37 = .ok (.castore, 1) := by decide +kernel
theorem d1_38 : decode method_5_code 38 = .ok (.iload_n 1, 1) := by decide +kernel
theorem d1_39 : decode method_5_code 39 = .ok (.iconst 1, 1) := by decide +kernel
theorem d1_40 : decode method_5_code 40 = .ok (.iadd, 1) := by decide +kernel
theorem d1_41 : decode method_5_code 41 = .ok (.ireturn, 1) := by decide +kernel
theorem d1_42 : decode method_5_code 42 = .ok (.iload_n 3, 1) := by decide +kernel
theorem d1_43 : decode method_5_code 43 = .ok (.iconst 2, 1) := by decide +kernel
theorem d1_44 : decode method_5_code 44 = .ok (.if_icmp .ne 19, 3) := by decide +kernel
theorem d1_47 : decode method_5_code 47 = .ok (.aload_n 0, 1) := by decide +kernel
theorem d1_48 : decode method_5_code 48 = .ok (.iload_n 1, 1) := by decide +kernel
theorem d1_49 : decode method_5_code 49 = .ok (.bipush 92, 2) := by decide +kernel
theorem d1_51 : decode method_5_code 51 = .ok (.castore, 1) := by decide +kernel
theorem d1_52 : decode method_5_code 52 = .ok (.aload_n 0, 1) := by decide +kernel
theorem d1_53 : decode method_5_code 53 = .ok (.iload_n 1, 1) := by decide +kernel
theorem d1_54 : decode method_5_code 54 = .ok (.iconst 1, 1) := by decide +kernel
theorem d1_55 : decode method_5_code 55 = .ok (.iadd, 1) := by decide +kernel
theorem d1_56 : decode method_5_code 56 = .ok (.iload 5, 2) := by decide +kernel
theorem d1_58 : decode method_5_code 58 = .ok (.castore, 1) := by decide +kernel
theorem d1_59 : decode method_5_code 59 = .ok (.iload_n 1, 1) := by decide +kernel
theorem d1_60 : decode method_5_code 60 = .ok (.iconst 2, 1) := by decide +kernel
theorem d1_61 : decode method_5_code 61 = .ok (.iadd, 1) := by decide +kernel
theorem d1_62 : decode method_5_code 62 = .ok (.ireturn, 1) := by decide +kernel
theorem d1_63 : decode method_5_code 63 = .ok (.iload_n 3, 1) := by decide +kernel
theorem d1_64 : decode method_5_code 64 = .ok (.iconst 3, 1) := by decide +kernel
theorem d1_65 : decode method_5_code 65 = .ok (.if_icmp .ne 26, 3) := by decide +kernel
theorem d1_68 : decode method_5_code 68 = .ok (.aload_n 0, 1) := by decide +kernel
theorem d1_69 : decode method_5_code 69 = .ok (.iload_n 1, 1) := by decide +kernel
theorem d1_70 : decode method_5_code 70 = .ok (.bipush 40, 2) := by decide +kernel
theorem d1_72 : decode method_5_code 72 = .ok (.castore, 1) := by decide +kernel
theorem d1_73 : decode method_5_code 73 = .ok (.aload_n 0, 1) := by decide +kernel
theorem d1_74 : decode method_5_code 74 = .ok (.iload_n 1, 1) := by decide +kernel
theorem d1_75 : decode method_5_code 75 = .ok (.iconst 1, 1) := by decide +kernel
theorem d1_76 : decode method_5_code 76 = .ok (.iadd, 1) := by decide +kernel
theorem d1_77 : decode method_5_code 77 = .ok (.iload 4, 2) := by decide +kernel
theorem d1_79 : decode method_5_code 79 = .ok (.castore, 1) := by decide +kernel
theorem d1_80 : decode method_5_code 80 = .ok (.aload_n 0, 1) := by decide +kernel
theorem d1_81 : decode method_5_code 81 = .ok (.iload_n 1, 1) := by decide +kernel
theorem d1_82 : decode method_5_code 82 = .ok (.iconst 2, 1) := by decide +kernel
theorem d1_83 : decode method_5_code 83 = .ok (.iadd, 1) := by decide +kernel
theorem d1_84 : decode method_5_code 84 = .ok (.bipush 41, 2) := by decide +kernel
theorem d1_86 : decode method_5_code 86 = .ok (.castore, 1) := by decide +kernel
theorem d1_87 : decode method_5_code 87 = .ok (.iload_n 1, 1) := by decide +kernel
theorem d1_88 : decode method_5_code 88 = .ok (.iconst 3, 1) := by decide +kernel
theorem d1_89 : decode method_5_code 89 = .ok (.iadd, 1) := by decide +kernel
theorem d1_90 : decode method_5_code 90 = .ok (.ireturn, 1) := by decide +kernel
theorem d1_91 : decode method_5_code 91 = .ok (.iload_n 3, 1) := by decide +kernel
theorem d1_92 : decode method_5_code 92 = .ok (.iconst 4, 1) := by decide +kernel
theorem d1_93 : decode method_5_code 93 = .ok (.if_icmp .ne 33, 3) := by decide +kernel
theorem d1_96 : decode method_5_code 96 = .ok (.aload_n 0, 1) := by decide +kernel
theorem d1_97 : decode method_5_code 97 = .ok (.iload_n 1, 1) := by decide +kernel
theorem d1_98 : decode method_5_code 98 = .ok (.bipush 40, 2) := by decide +kernel
theorem d1_100 : decode method_5_code 100 = .ok (.castore, 1) := by decide +kernel
theorem d1_101 : decode method_5_code 101 = .ok (.aload_n 0, 1) := by decide +kernel
theorem d1_102 : decode method_5_code 102 = .ok (.iload_n 1, 1) := by decide +kernel
theorem d1_103 : decode method_5_code 103 = .ok (.iconst 1, 1) := by decide +kernel
theorem d1_104 : decode method_5_code 104 = .ok (.iadd, 1) := by decide +kernel
theorem d1_105 : decode method_5_code 105 = .ok (.bipush 92, 2) := by decide +kernel
theorem d1_107 : decode method_5_code 107 = .ok (.castore, 1) := by decide +kernel
theorem d1_108 : decode method_5_code 108 = .ok (.aload_n 0, 1) := by decide +kernel
theorem d1_109 : decode method_5_code 109 = .ok (.iload_n 1, 1) := by decide +kernel
theorem d1_110 : decode method_5_code 110 = .ok (.iconst 2, 1) := by decide +kernel
theorem d1_111 : decode method_5_code 111 = .ok (.iadd, 1) := by decide +kernel
theorem d1_112 : decode method_5_code 112 = .ok (.iload 5, 2) := by decide +kernel
theorem d1_114 : decode method_5_code 114 = .ok (.castore, 1) := by decide +kernel
theorem d1_115 : decode method_5_code 115 = .ok (.aload_n 0, 1) := by decide +kernel
theorem d1_116 : decode method_5_code 116 = .ok (.iload_n 1, 1) := by decide +kernel
theorem d1_117 : decode method_5_code 117 = .ok (.iconst 3, 1) := by decide +kernel
theorem d1_118 : decode method_5_code 118 = .ok (.iadd, 1) := by decide +kernel
theorem d1_119 : decode method_5_code 119 = .ok (.bipush 41, 2) := by decide +kernel
theorem d1_121 : decode method_5_code 121 = .ok (.castore, 1) := by decide +kernel
theorem d1_122 : decode method_5_code 122 = .ok (.iload_n 1, 1) := by decide +kernel
theorem d1_123 : decode method_5_code 123 = .ok (.iconst 4, 1) := by decide +kernel
theorem d1_124 : decode method_5_code 124 = .ok (.iadd, 1) := by decide +kernel
theorem d1_125 : decode method_5_code 125 = .ok (.ireturn, 1) := by decide +kernel
theorem d1_126 : decode method_5_code 126 = .ok (.iload_n 3, 1) := by decide +kernel
theorem d1_127 : decode method_5_code 127 = .ok (.iconst 5, 1) := by decide +kernel
theorem d1_128 : decode method_5_code 128 = .ok (.if_icmp .ne 19, 3) := by decide +kernel
theorem d1_131 : decode method_5_code 131 = .ok (.aload_n 0, 1) := by decide +kernel
theorem d1_132 : decode method_5_code 132 = .ok (.iload_n 1, 1) := by decide +kernel
theorem d1_133 : decode method_5_code 133 = .ok (.bipush 40, 2) := by decide +kernel
theorem d1_135 : decode method_5_code 135 = .ok (.castore, 1) := by decide +kernel
theorem d1_136 : decode method_5_code 136 = .ok (.aload_n 0, 1) := by decide +kernel
theorem d1_137 : decode method_5_code 137 = .ok (.iload_n 1, 1) := by decide +kernel
theorem d1_138 : decode method_5_code 138 = .ok (.iconst 1, 1) := by decide +kernel
theorem d1_139 : decode method_5_code 139 = .ok (.iadd, 1) := by decide +kernel
theorem d1_140 : decode method_5_code 140 = .ok (.bipush 41, 2) := by decide +kernel
theorem d1_142 : decode method_5_code 142 = .ok (.castore, 1) := by decide +kernel
theorem d1_143 : decode method_5_code 143 = .ok (.iload_n 1, 1) := by decide +kernel
theorem d1_144 : decode method_5_code 144 = .ok (.iconst 2, 1) := by decide +kernel
theorem d1_145 : decode method_5_code 145 = .ok (.iadd, 1) := by decide +kernel
theorem d1_146 : decode method_5_code 146 = .ok (.ireturn, 1) := by decide +kernel
theorem d1_147 : decode method_5_code 147 = .ok (.iload_n 3, 1) := by decide +kernel
theorem d1_148 : decode method_5_code 148 = .ok (.bipush 6, 2) := by decide +kernel
theorem d1_150 : decode method_5_code 150 = .ok (.if_icmp .ne 33, 3) := by decide +kernel
theorem d1_153 : decode method_5_code 153 = .ok (.aload_n 0, 1) := by decide +kernel
theorem d1_154 : decode method_5_code 154 = .ok (.iload_n 1, 1) := by decide +kernel
theorem d1_155 : decode method_5_code 155 = .ok (.bipush 40, 2) := by decide +kernel
theorem d1_157 : decode method_5_code 157 = .ok (.castore, 1) := by decide +kernel
theorem d1_158 : decode method_5_code 158 = .ok (.aload_n 0, 1) := by decide +kernel
theorem d1_159 : decode method_5_code 159 = .ok (.iload_n 1, 1) := by decide +kernel
theorem d1_160 : decode method_5_code 160 = .ok (.iconst 1, 1) := by decide +kernel
theorem d1_161 : decode method_5_code 161 = .ok (.iadd, 1) := by decide +kernel
theorem d1_162 : decode method_5_code 162 = .ok (.bipush 40, 2) := by decide +kernel
theorem d1_164 : decode method_5_code 164 = .ok (.castore, 1) := by decide +kernel
theorem d1_165 : decode method_5_code 165 = .ok (.aload_n 0, 1) := by decide +kernel
theorem d1_166 : decode method_5_code 166 = .ok (.iload_n 1, 1) := by decide +kernel
theorem d1_167 : decode method_5_code 167 = .ok (.iconst 2, 1) := by decide +kernel
theorem d1_168 : decode method_5_code 168 = .ok (.iadd, 1) := by decide +kernel
theorem d1_169 : decode method_5_code 169 = .ok (.bipush 41, 2) := by decide +kernel
theorem d1_171 : decode method_5_code 171 = .ok (.castore, 1) := by decide +kernel
theorem d1_172 : decode method_5_code 172 = .ok (.aload_n 0, 1) := by decide +kernel
theorem d1_173 : decode method_5_code 173 = .ok (.iload_n 1, 1) := by decide +kernel
theorem d1_174 : decode method_5_code 174 = .ok (.iconst 3, 1) := by decide +kernel
theorem d1_175 : decode method_5_code 175 = .ok (.iadd, 1) := by decide +kernel
theorem d1_176 : decode method_5_code 176 = .ok (.bipush 41, 2) := by decide +kernel
theorem d1_178 : decode method_5_code 178 = .ok (.castore, 1) := by decide +kernel
theorem d1_179 : decode method_5_code 179 = .ok (.iload_n 1, 1) := by decide +kernel
theorem d1_180 : decode method_5_code 180 = .ok (.iconst 4, 1) := by decide +kernel
theorem d1_181 : decode method_5_code 181 = .ok (.iadd, 1) := by decide +kernel
theorem d1_182 : decode method_5_code 182 = .ok (.ireturn, 1) := by decide +kernel
theorem d1_183 : decode method_5_code 183 = .ok (.iload_n 3, 1) := by decide +kernel
theorem d1_184 : decode method_5_code 184 = .ok (.bipush 7, 2) := by decide +kernel
theorem d1_186 : decode method_5_code 186 = .ok (.if_icmp .ne 22, 3) := by decide +kernel
theorem d1_189 : decode method_5_code 189 = .ok (.aload_n 0, 1) := by decide +kernel
theorem d1_190 : decode method_5_code 190 = .ok (.iload_n 1, 1) := by decide +kernel
theorem d1_191 : decode method_5_code 191 = .ok (.iload 4, 2) := by decide +kernel
theorem d1_193 : decode method_5_code 193 = .ok (.castore, 1) := by decide +kernel
theorem d1_194 : decode method_5_code 194 = .ok (.aload_n 0, 1) := by decide +kernel
theorem d1_195 : decode method_5_code 195 = .ok (.iload_n 1, 1) := by decide +kernel
theorem d1_196 : decode method_5_code 196 = .ok (.iconst 1, 1) := by decide +kernel
theorem d1_197 : decode method_5_code 197 = .ok (.iadd, 1) := by decide +kernel
theorem d1_198 : decode method_5_code 198 = .ok (.iload 5, 2) := by decide +kernel
theorem d1_200 : decode method_5_code 200 = .ok (.invokestatic 28, 3) := by decide +kernel
theorem d1_203 : decode method_5_code 203 = .ok (.castore, 1) := by decide +kernel
theorem d1_204 : decode method_5_code 204 = .ok (.iload_n 1, 1) := by decide +kernel
theorem d1_205 : decode method_5_code 205 = .ok (.iconst 2, 1) := by decide +kernel
theorem d1_206 : decode method_5_code 206 = .ok (.iadd, 1) := by decide +kernel
theorem d1_207 : decode method_5_code 207 = .ok (.ireturn, 1) := by decide +kernel
theorem d1_208 : decode method_5_code 208 = .ok (.iload_n 1, 1) := by decide +kernel
theorem d1_209 : decode method_5_code 209 = .ok (.ireturn, 1) := by decide +kernel
abbrev y_1 : MethodName := ⟨"com/example/kuvert/kuvert/mime/HeadingCommentEndPinLaw", "put", "([CII)I"⟩
theorem pn_1 : plainFor y_1 = true := by first | exact plainFor_of_name (by first | (simp [plainName, overriddenIn]; done) | decide +kernel) | decide +kernel
theorem ef_rmPt (m : MethodId) (a1 : Addr) (p3 : Int32) (cs : List Int32) : entryFrame m #[(.ref a1), (.int (Int32.ofNat cs.length)), (.int p3)] 6 = mkF m 0 #[sr a1, si (Int32.ofNat cs.length), si p3, .unset, .unset, .unset] [] := by first | (simp [entryFrame, mkF, argsToLocals, Value.category]; done) | rfl
def Q_rmPt (Z : State) (a1 : Addr) (p3 : Int32) (kC : ClassId) (cs : List Int32) (h0 : Heap) (n0 : Nat) (v : Option Value) (h : Heap) (L : List Loc) : Prop := v = some (.int (Int32.ofNat (cs ++ own_blk p3).length)) ∧ Fr n0 L ∧ Keep h0 h [a1] ∧ (Arv Z h a1 kC .char (14 : Int32) ((cs ++ own_blk p3).map Value.int) (.int 0))
set_option maxRecDepth 65536 in
set_option maxHeartbeats 40000000 in
theorem rmPt (l : Launch) (Z : State) (a0 : Array Value) (hw : ∀ d ∈ tables_1, d.before a0 Z = true) (ws : List Jvm.Cond) (a1 : Addr) (p3 : Int32) (kC : ClassId) (cs : List Int32) (h0 : Heap) (n0 : Nat) (Z0 : n0 ≤ h0.size) (hp0 : Arv Z h0 a1 kC .char (14 : Int32) (cs.map Value.int) (.int 0)) (hp1 : n0 ≤ a1) (hl : cs.length ≤ 9) :
    MetFree l y_1 (head1 (Jvm.Cond.code y_1 method_5_code 6 (some .int) :: ws) ({ frames := 1, cells := 0, slots := 0, locals := 15 } : Room)) (fun a U => a = #[(.ref a1), (.int (Int32.ofNat cs.length)), (.int p3)] ∧ Z.Warmed39 U.vm ∧ U.heap = h0) (fun _ _ _ _ _ => True) (fun _ U o U' => ∃ v L, o = .returned v ∧ Q_rmPt Z a1 p3 kC cs h0 n0 v U'.heap L ∧ FrameEnd U o U' L ({ frames := 1, cells := 0, slots := 0, locals := 15 } : Room).cells ({ frames := 1, cells := 0, slots := 0, locals := 15 } : Room).slots) := by
 refine bodyOf pn_1 (fun m => ef_rmPt m a1 p3 cs) ?_
 intro p e s m below meth c T0 X0 hx hby hml hown hnm hret hk hZ e0
 have N0 := Fr.nil n0
 have K0 : Keep h0 h0 [a1] := Keep.refl _ _
 refine go (S' := T0.setTop (mkF m 11 #[sr a1, si (Int32.ofNat cs.length), si p3, si (p3 &&& (7 : Int32)), .unset, .unset] [(.int 255), (.int ((p3.toUInt32 >>> ((3 : Int32) &&& 31).toUInt32).toInt32))])) (fun t k => XS.iloadN X0.here hx rfl (hb hby d1_0) rfl (XS.bipush X0.here hx rfl (hb hby d1_1) (XS.iand X0.here hx rfl (hb hby d1_3) rfl (XS.istoreN X0.here hx rfl (hb hby d1_4) rfl (l' := #[sr a1, si (Int32.ofNat cs.length), si p3, si (p3 &&& (7 : Int32)), .unset, .unset]) rfl (XS.iloadN X0.here hx rfl (hb hby d1_5) rfl (XS.iconst X0.here hx rfl (hb hby d1_6) (XS.iushr X0.here hx rfl (hb hby d1_7) rfl (XS.sipush X0.here hx rfl (hb hby d1_8) k)))))))) ?_
 refine go (S' := T0.setTop (mkF m 12 #[sr a1, si (Int32.ofNat cs.length), si p3, si (p3 &&& (7 : Int32)), .unset, .unset] [(.int (((p3.toUInt32 >>> ((3 : Int32) &&& 31).toUInt32).toInt32) &&& (255 : Int32)))])) (fun t k => XS.iand X0.here hx rfl (hb hby d1_11) rfl k) ?_
 obtain ⟨v4, T4, L4, X4, hQ4, st4⟩ := callSt X0 hx hZ (y := y_0) hown (ww hw 5 rfl) (ww hw 6 rfl) (ww hw 3 rfl) (ww hw 7 rfl) (by decide) (backOf (W := 0) (rmCt l Z a0 hw [] (((p3.toUInt32 >>> ((3 : Int32) &&& 31).toUInt32).toInt32) &&& (255 : Int32)) h0 n0 (Nat.le_trans Z0 K0.1) ) hZ (ww hw 7 rfl) (ww hw 3 rfl) (by decide) (by decide)) (g := (mkF m 12 #[sr a1, si (Int32.ofNat cs.length), si p3, si (p3 &&& (7 : Int32)), .unset, .unset] [(.int (((p3.toUInt32 >>> ((3 : Int32) &&& 31).toUInt32).toInt32) &&& (255 : Int32)))])) rfl (by rw [hml]; rfl) (kc := 0) (ks := 0) (argsL := [(.int (((p3.toUInt32 >>> ((3 : Int32) &&& 31).toUInt32).toInt32) &&& (255 : Int32)))]) (rest := []) (lenOf pd_0 rfl) rfl (mr0 rfl) (hb hby d1_12) e0 (by decide) (by decide)
 obtain ⟨rfl, N4q, e4⟩ := hQ4
 have N4 := Fr.app N0 N4q
 refine go (S' := T4.setTop (mkF m 26 #[sr a1, si (Int32.ofNat cs.length), si p3, si (p3 &&& (7 : Int32)), si (own_ct (((p3.toUInt32 >>> ((3 : Int32) &&& 31).toUInt32).toInt32) &&& (255 : Int32))), .unset] [(.int ((((p3.toUInt32 >>> ((11 : Int32) &&& 31).toUInt32).toInt32) &&& (255 : Int32)).toUInt32.toUInt16.toUInt32.toInt32))])) (fun t k => st4 _ (XS.istore X4.here hx rfl (hb hby d1_15) rfl (l' := #[sr a1, si (Int32.ofNat cs.length), si p3, si (p3 &&& (7 : Int32)), si (own_ct (((p3.toUInt32 >>> ((3 : Int32) &&& 31).toUInt32).toInt32) &&& (255 : Int32))), .unset]) rfl (XS.iloadN X4.here hx rfl (hb hby d1_17) rfl (XS.bipush X4.here hx rfl (hb hby d1_18) (XS.iushr X4.here hx rfl (hb hby d1_20) rfl (XS.sipush X4.here hx rfl (hb hby d1_21) (XS.iand X4.here hx rfl (hb hby d1_24) rfl (XS.i2c X4.here hx rfl (hb hby d1_25) rfl k)))))))) ?_
 refine go (S' := T4.setTop (mkF m 30 #[sr a1, si (Int32.ofNat cs.length), si p3, si (p3 &&& (7 : Int32)), si (own_ct (((p3.toUInt32 >>> ((3 : Int32) &&& 31).toUInt32).toInt32) &&& (255 : Int32))), si ((((p3.toUInt32 >>> ((11 : Int32) &&& 31).toUInt32).toInt32) &&& (255 : Int32)).toUInt32.toUInt16.toUInt32.toInt32)] [(.int 1), (.int (p3 &&& (7 : Int32)))])) (fun t k => XS.istore X4.here hx rfl (hb hby d1_26) rfl (l' := #[sr a1, si (Int32.ofNat cs.length), si p3, si (p3 &&& (7 : Int32)), si (own_ct (((p3.toUInt32 >>> ((3 : Int32) &&& 31).toUInt32).toInt32) &&& (255 : Int32))), si ((((p3.toUInt32 >>> ((11 : Int32) &&& 31).toUInt32).toInt32) &&& (255 : Int32)).toUInt32.toUInt16.toUInt32.toInt32)]) rfl (XS.iloadN X4.here hx rfl (hb hby d1_28) rfl (XS.iconst X4.here hx rfl (hb hby d1_29) k))) ?_
 by_cases hc5 : (p3 &&& (7 : Int32)) = (1 : Int32)
 ·
  refine go (S' := T4.setTop (mkF m 37 #[sr a1, si (Int32.ofNat cs.length), si p3, si (p3 &&& (7 : Int32)), si (own_ct (((p3.toUInt32 >>> ((3 : Int32) &&& 31).toUInt32).toInt32) &&& (255 : Int32))), si ((((p3.toUInt32 >>> ((11 : Int32) &&& 31).toUInt32).toInt32) &&& (255 : Int32)).toUInt32.toUInt16.toUInt32.toInt32)] [(.int (own_ct (((p3.toUInt32 >>> ((3 : Int32) &&& 31).toUInt32).toInt32) &&& (255 : Int32)))), (.int (Int32.ofNat cs.length)), (.ref a1)])) (fun t k => XS.icmpNo X4.here hx rfl (hb hby d1_30) rfl (teq hc5).2 (XS.aloadN X4.here hx rfl (hb hby d1_33) rfl rfl (XS.iloadN X4.here hx rfl (hb hby d1_34) rfl (XS.iload X4.here hx rfl (hb hby d1_35) rfl k)))) ?_
  obtain ⟨cl6, Ar6, q6, S6, M6, H6, G6⟩ := id hp0
  have hin6 : ¬ ((Int32.ofNat cs.length) < 0 ∨ cl6.slots.size ≤ ((Int32.ofNat cs.length)).toNatClampNeg) := oj_in (n := 14) S6 rfl (by omega) (by omega)
  obtain ⟨T6, h6, X6, e6, W6, st6⟩ := stC X4 hx hZ e4 Ar6 (j := (Int32.ofNat cs.length)) hin6 (g := (mkF m 37 #[sr a1, si (Int32.ofNat cs.length), si p3, si (p3 &&& (7 : Int32)), si (own_ct (((p3.toUInt32 >>> ((3 : Int32) &&& 31).toUInt32).toInt32) &&& (255 : Int32))), si ((((p3.toUInt32 >>> ((11 : Int32) &&& 31).toUInt32).toInt32) &&& (255 : Int32)).toUInt32.toUInt16.toUInt32.toInt32)] [(.int (own_ct (((p3.toUInt32 >>> ((3 : Int32) &&& 31).toUInt32).toInt32) &&& (255 : Int32)))), (.int (Int32.ofNat cs.length)), (.ref a1)])) rfl rfl (hb hby d1_37)
  have V6 : Arv Z h6 a1 kC .char (14 : Int32) ((cs ++ [(own_ct (((p3.toUInt32 >>> ((3 : Int32) &&& 31).toUInt32).toInt32) &&& (255 : Int32)))]).map Value.int) (.int 0) := by
   have q := arvSnoc Ar6 q6 S6 M6 H6 G6 (fits_nar_char _) W6 (by rw [oj_n (by omega)]; simp)
   rw [(own_lat16 (own_ct_lat _ (by first | exact (own_m255 _).1 | exact (own_m255c _).1) (by first | exact (own_m255 _).2 | exact (own_m255c _).2)) : nar .char (own_ct (((p3.toUInt32 >>> ((3 : Int32) &&& 31).toUInt32).toInt32) &&& (255 : Int32))) = (own_ct (((p3.toUInt32 >>> ((3 : Int32) &&& 31).toUInt32).toInt32) &&& (255 : Int32))))] at q; have e : (cs.map Value.int) ++ [Value.int (own_ct (((p3.toUInt32 >>> ((3 : Int32) &&& 31).toUInt32).toInt32) &&& (255 : Int32)))] = ((cs ++ [(own_ct (((p3.toUInt32 >>> ((3 : Int32) &&& 31).toUInt32).toInt32) &&& (255 : Int32)))]).map Value.int) := (by simp); rw [e] at q; exact q
  have K7 : Keep h0 h6 [a1] := K0.wr W6 (Or.inl (List.mem_of_getElem? (i := 0) rfl))
  have N8 := Fr.snoc X6 N4 hp1
  refine go (S' := T6.setTop (mkF m 41 #[sr a1, si (Int32.ofNat cs.length), si p3, si (p3 &&& (7 : Int32)), si (own_ct (((p3.toUInt32 >>> ((3 : Int32) &&& 31).toUInt32).toInt32) &&& (255 : Int32))), si ((((p3.toUInt32 >>> ((11 : Int32) &&& 31).toUInt32).toInt32) &&& (255 : Int32)).toUInt32.toUInt16.toUInt32.toInt32)] [(.int (Int32.ofNat (cs.length + 1)))])) (fun t k => st6 _ (XS.iloadN X6.here hx rfl (hb hby d1_38) rfl (XS.iconst X6.here hx rfl (hb hby d1_39) (XS.iadd X6.here hx rfl (hb hby d1_40) rfl (by show Steps p.tables e below (T6.setTop (mkF m 41 #[sr a1, si (Int32.ofNat cs.length), si p3, si (p3 &&& (7 : Int32)), si (own_ct (((p3.toUInt32 >>> ((3 : Int32) &&& 31).toUInt32).toInt32) &&& (255 : Int32))), si ((((p3.toUInt32 >>> ((11 : Int32) &&& 31).toUInt32).toInt32) &&& (255 : Int32)).toUInt32.toUInt16.toUInt32.toInt32)] [(.int ((Int32.ofNat cs.length) + (1 : Int32)))])) t; rw [show Int32.ofNat cs.length + (1 : Int32) = Int32.ofNat (cs.length + 1) from oj_add cs.length 1]; exact k))))) ?_
  refine finI X6 hx hk hret (hb hby d1_41) (by decide) (by decide) ?_
  have hb_ : own_blk p3 = [(own_ct (((p3.toUInt32 >>> ((3 : Int32) &&& 31).toUInt32).toInt32) &&& (255 : Int32)))] := by rw [own_blk, if_pos hc5]
  rw [e6]
  refine ⟨?_, N8, K7, ?_⟩
  · rw [hb_, List.length_append]; rfl
  · rw [hb_]; exact V6
 ·
  refine go (S' := T4.setTop (mkF m 44 #[sr a1, si (Int32.ofNat cs.length), si p3, si (p3 &&& (7 : Int32)), si (own_ct (((p3.toUInt32 >>> ((3 : Int32) &&& 31).toUInt32).toInt32) &&& (255 : Int32))), si ((((p3.toUInt32 >>> ((11 : Int32) &&& 31).toUInt32).toInt32) &&& (255 : Int32)).toUInt32.toUInt16.toUInt32.toInt32)] [(.int 2), (.int (p3 &&& (7 : Int32)))])) (fun t k => XS.icmpYes X4.here hx rfl (pc0 := 30) (pc' := 42) rfl (hb hby d1_30) rfl (feq hc5).2 (by decide) (by decide) (XS.iloadN X4.here hx rfl (hb hby d1_42) rfl (XS.iconst X4.here hx rfl (hb hby d1_43) k))) ?_
  by_cases hc9 : (p3 &&& (7 : Int32)) = (2 : Int32)
  ·
   refine go (S' := T4.setTop (mkF m 51 #[sr a1, si (Int32.ofNat cs.length), si p3, si (p3 &&& (7 : Int32)), si (own_ct (((p3.toUInt32 >>> ((3 : Int32) &&& 31).toUInt32).toInt32) &&& (255 : Int32))), si ((((p3.toUInt32 >>> ((11 : Int32) &&& 31).toUInt32).toInt32) &&& (255 : Int32)).toUInt32.toUInt16.toUInt32.toInt32)] [(.int 92), (.int (Int32.ofNat cs.length)), (.ref a1)])) (fun t k => XS.icmpNo X4.here hx rfl (hb hby d1_44) rfl (teq hc9).2 (XS.aloadN X4.here hx rfl (hb hby d1_47) rfl rfl (XS.iloadN X4.here hx rfl (hb hby d1_48) rfl (XS.bipush X4.here hx rfl (hb hby d1_49) k)))) ?_
   obtain ⟨cl10, Ar10, q10, S10, M10, H10, G10⟩ := id hp0
   have hin10 : ¬ ((Int32.ofNat cs.length) < 0 ∨ cl10.slots.size ≤ ((Int32.ofNat cs.length)).toNatClampNeg) := oj_in (n := 14) S10 rfl (by omega) (by omega)
   obtain ⟨T10, h10, X10, e10, W10, st10⟩ := stC X4 hx hZ e4 Ar10 (j := (Int32.ofNat cs.length)) hin10 (g := (mkF m 51 #[sr a1, si (Int32.ofNat cs.length), si p3, si (p3 &&& (7 : Int32)), si (own_ct (((p3.toUInt32 >>> ((3 : Int32) &&& 31).toUInt32).toInt32) &&& (255 : Int32))), si ((((p3.toUInt32 >>> ((11 : Int32) &&& 31).toUInt32).toInt32) &&& (255 : Int32)).toUInt32.toUInt16.toUInt32.toInt32)] [(.int 92), (.int (Int32.ofNat cs.length)), (.ref a1)])) rfl rfl (hb hby d1_51)
   have V10 : Arv Z h10 a1 kC .char (14 : Int32) ((cs ++ [(92 : Int32)]).map Value.int) (.int 0) := by
    have q := arvSnoc Ar10 q10 S10 M10 H10 G10 (fits_nar_char _) W10 (by rw [oj_n (by omega)]; simp)
    rw [(by decide : nar .char (92 : Int32) = (92 : Int32))] at q; have e : (cs.map Value.int) ++ [Value.int (92 : Int32)] = ((cs ++ [(92 : Int32)]).map Value.int) := (by simp); rw [e] at q; exact q
   have K11 : Keep h0 h10 [a1] := K0.wr W10 (Or.inl (List.mem_of_getElem? (i := 0) rfl))
   have N12 := Fr.snoc X10 N4 hp1
   refine go (S' := T10.setTop (mkF m 58 #[sr a1, si (Int32.ofNat cs.length), si p3, si (p3 &&& (7 : Int32)), si (own_ct (((p3.toUInt32 >>> ((3 : Int32) &&& 31).toUInt32).toInt32) &&& (255 : Int32))), si ((((p3.toUInt32 >>> ((11 : Int32) &&& 31).toUInt32).toInt32) &&& (255 : Int32)).toUInt32.toUInt16.toUInt32.toInt32)] [(.int ((((p3.toUInt32 >>> ((11 : Int32) &&& 31).toUInt32).toInt32) &&& (255 : Int32)).toUInt32.toUInt16.toUInt32.toInt32)), (.int (Int32.ofNat (cs.length + 1))), (.ref a1)])) (fun t k => st10 _ (XS.aloadN X10.here hx rfl (hb hby d1_52) rfl rfl (XS.iloadN X10.here hx rfl (hb hby d1_53) rfl (XS.iconst X10.here hx rfl (hb hby d1_54) (XS.iadd X10.here hx rfl (hb hby d1_55) rfl (by show Steps p.tables e below (T10.setTop (mkF m 56 #[sr a1, si (Int32.ofNat cs.length), si p3, si (p3 &&& (7 : Int32)), si (own_ct (((p3.toUInt32 >>> ((3 : Int32) &&& 31).toUInt32).toInt32) &&& (255 : Int32))), si ((((p3.toUInt32 >>> ((11 : Int32) &&& 31).toUInt32).toInt32) &&& (255 : Int32)).toUInt32.toUInt16.toUInt32.toInt32)] [(.int ((Int32.ofNat cs.length) + (1 : Int32))), (.ref a1)])) t; rw [show Int32.ofNat cs.length + (1 : Int32) = Int32.ofNat (cs.length + 1) from oj_add cs.length 1]; exact (XS.iload X10.here hx rfl (hb hby d1_56) rfl k))))))) ?_
   obtain ⟨cl13, Ar13, q13, S13, M13, H13, G13⟩ := id V10
   have hin13 : ¬ ((Int32.ofNat (cs.length + 1)) < 0 ∨ cl13.slots.size ≤ ((Int32.ofNat (cs.length + 1))).toNatClampNeg) := oj_in (n := 14) S13 rfl (by omega) (by omega)
   obtain ⟨T13, h13, X13, e13, W13, st13⟩ := stC X10 hx hZ e10 Ar13 (j := (Int32.ofNat (cs.length + 1))) hin13 (g := (mkF m 58 #[sr a1, si (Int32.ofNat cs.length), si p3, si (p3 &&& (7 : Int32)), si (own_ct (((p3.toUInt32 >>> ((3 : Int32) &&& 31).toUInt32).toInt32) &&& (255 : Int32))), si ((((p3.toUInt32 >>> ((11 : Int32) &&& 31).toUInt32).toInt32) &&& (255 : Int32)).toUInt32.toUInt16.toUInt32.toInt32)] [(.int ((((p3.toUInt32 >>> ((11 : Int32) &&& 31).toUInt32).toInt32) &&& (255 : Int32)).toUInt32.toUInt16.toUInt32.toInt32)), (.int (Int32.ofNat (cs.length + 1))), (.ref a1)])) rfl rfl (hb hby d1_58)
   have V13 : Arv Z h13 a1 kC .char (14 : Int32) ((cs ++ [(92 : Int32), ((((p3.toUInt32 >>> ((11 : Int32) &&& 31).toUInt32).toInt32) &&& (255 : Int32)).toUInt32.toUInt16.toUInt32.toInt32)]).map Value.int) (.int 0) := by
    have q := arvSnoc Ar13 q13 S13 M13 H13 G13 (fits_nar_char _) W13 (by rw [oj_n (by omega)]; simp)
    rw [(narc _ : nar .char ((((p3.toUInt32 >>> ((11 : Int32) &&& 31).toUInt32).toInt32) &&& (255 : Int32)).toUInt32.toUInt16.toUInt32.toInt32) = ((((p3.toUInt32 >>> ((11 : Int32) &&& 31).toUInt32).toInt32) &&& (255 : Int32)).toUInt32.toUInt16.toUInt32.toInt32))] at q; have e : ((cs ++ [(92 : Int32)]).map Value.int) ++ [Value.int ((((p3.toUInt32 >>> ((11 : Int32) &&& 31).toUInt32).toInt32) &&& (255 : Int32)).toUInt32.toUInt16.toUInt32.toInt32)] = ((cs ++ [(92 : Int32), ((((p3.toUInt32 >>> ((11 : Int32) &&& 31).toUInt32).toInt32) &&& (255 : Int32)).toUInt32.toUInt16.toUInt32.toInt32)]).map Value.int) := (by simp); rw [e] at q; exact q
   have K14 : Keep h0 h13 [a1] := K11.wr W13 (Or.inl (List.mem_of_getElem? (i := 0) rfl))
   have N15 := Fr.snoc X13 N12 hp1
   refine go (S' := T13.setTop (mkF m 62 #[sr a1, si (Int32.ofNat cs.length), si p3, si (p3 &&& (7 : Int32)), si (own_ct (((p3.toUInt32 >>> ((3 : Int32) &&& 31).toUInt32).toInt32) &&& (255 : Int32))), si ((((p3.toUInt32 >>> ((11 : Int32) &&& 31).toUInt32).toInt32) &&& (255 : Int32)).toUInt32.toUInt16.toUInt32.toInt32)] [(.int (Int32.ofNat (cs.length + 2)))])) (fun t k => st13 _ (XS.iloadN X13.here hx rfl (hb hby d1_59) rfl (XS.iconst X13.here hx rfl (hb hby d1_60) (XS.iadd X13.here hx rfl (hb hby d1_61) rfl (by show Steps p.tables e below (T13.setTop (mkF m 62 #[sr a1, si (Int32.ofNat cs.length), si p3, si (p3 &&& (7 : Int32)), si (own_ct (((p3.toUInt32 >>> ((3 : Int32) &&& 31).toUInt32).toInt32) &&& (255 : Int32))), si ((((p3.toUInt32 >>> ((11 : Int32) &&& 31).toUInt32).toInt32) &&& (255 : Int32)).toUInt32.toUInt16.toUInt32.toInt32)] [(.int ((Int32.ofNat cs.length) + (2 : Int32)))])) t; rw [show Int32.ofNat cs.length + (2 : Int32) = Int32.ofNat (cs.length + 2) from oj_add cs.length 2]; exact k))))) ?_
   refine finI X13 hx hk hret (hb hby d1_62) (by decide) (by decide) ?_
   have hb_ : own_blk p3 = [(92 : Int32), ((((p3.toUInt32 >>> ((11 : Int32) &&& 31).toUInt32).toInt32) &&& (255 : Int32)).toUInt32.toUInt16.toUInt32.toInt32)] := by rw [own_blk, if_neg hc5, if_pos hc9]
   rw [e13]
   refine ⟨?_, N15, K14, ?_⟩
   · rw [hb_, List.length_append]; rfl
   · rw [hb_]; exact V13
  ·
   refine go (S' := T4.setTop (mkF m 65 #[sr a1, si (Int32.ofNat cs.length), si p3, si (p3 &&& (7 : Int32)), si (own_ct (((p3.toUInt32 >>> ((3 : Int32) &&& 31).toUInt32).toInt32) &&& (255 : Int32))), si ((((p3.toUInt32 >>> ((11 : Int32) &&& 31).toUInt32).toInt32) &&& (255 : Int32)).toUInt32.toUInt16.toUInt32.toInt32)] [(.int 3), (.int (p3 &&& (7 : Int32)))])) (fun t k => XS.icmpYes X4.here hx rfl (pc0 := 44) (pc' := 63) rfl (hb hby d1_44) rfl (feq hc9).2 (by decide) (by decide) (XS.iloadN X4.here hx rfl (hb hby d1_63) rfl (XS.iconst X4.here hx rfl (hb hby d1_64) k))) ?_
   by_cases hc16 : (p3 &&& (7 : Int32)) = (3 : Int32)
   ·
    refine go (S' := T4.setTop (mkF m 72 #[sr a1, si (Int32.ofNat cs.length), si p3, si (p3 &&& (7 : Int32)), si (own_ct (((p3.toUInt32 >>> ((3 : Int32) &&& 31).toUInt32).toInt32) &&& (255 : Int32))), si ((((p3.toUInt32 >>> ((11 : Int32) &&& 31).toUInt32).toInt32) &&& (255 : Int32)).toUInt32.toUInt16.toUInt32.toInt32)] [(.int 40), (.int (Int32.ofNat cs.length)), (.ref a1)])) (fun t k => XS.icmpNo X4.here hx rfl (hb hby d1_65) rfl (teq hc16).2 (XS.aloadN X4.here hx rfl (hb hby d1_68) rfl rfl (XS.iloadN X4.here hx rfl (hb hby d1_69) rfl (XS.bipush X4.here hx rfl (hb hby d1_70) k)))) ?_
    obtain ⟨cl17, Ar17, q17, S17, M17, H17, G17⟩ := id hp0
    have hin17 : ¬ ((Int32.ofNat cs.length) < 0 ∨ cl17.slots.size ≤ ((Int32.ofNat cs.length)).toNatClampNeg) := oj_in (n := 14) S17 rfl (by omega) (by omega)
    obtain ⟨T17, h17, X17, e17, W17, st17⟩ := stC X4 hx hZ e4 Ar17 (j := (Int32.ofNat cs.length)) hin17 (g := (mkF m 72 #[sr a1, si (Int32.ofNat cs.length), si p3, si (p3 &&& (7 : Int32)), si (own_ct (((p3.toUInt32 >>> ((3 : Int32) &&& 31).toUInt32).toInt32) &&& (255 : Int32))), si ((((p3.toUInt32 >>> ((11 : Int32) &&& 31).toUInt32).toInt32) &&& (255 : Int32)).toUInt32.toUInt16.toUInt32.toInt32)] [(.int 40), (.int (Int32.ofNat cs.length)), (.ref a1)])) rfl rfl (hb hby d1_72)
    have V17 : Arv Z h17 a1 kC .char (14 : Int32) ((cs ++ [(40 : Int32)]).map Value.int) (.int 0) := by
     have q := arvSnoc Ar17 q17 S17 M17 H17 G17 (fits_nar_char _) W17 (by rw [oj_n (by omega)]; simp)
     rw [(by decide : nar .char (40 : Int32) = (40 : Int32))] at q; have e : (cs.map Value.int) ++ [Value.int (40 : Int32)] = ((cs ++ [(40 : Int32)]).map Value.int) := (by simp); rw [e] at q; exact q
    have K18 : Keep h0 h17 [a1] := K0.wr W17 (Or.inl (List.mem_of_getElem? (i := 0) rfl))
    have N19 := Fr.snoc X17 N4 hp1
    refine go (S' := T17.setTop (mkF m 79 #[sr a1, si (Int32.ofNat cs.length), si p3, si (p3 &&& (7 : Int32)), si (own_ct (((p3.toUInt32 >>> ((3 : Int32) &&& 31).toUInt32).toInt32) &&& (255 : Int32))), si ((((p3.toUInt32 >>> ((11 : Int32) &&& 31).toUInt32).toInt32) &&& (255 : Int32)).toUInt32.toUInt16.toUInt32.toInt32)] [(.int (own_ct (((p3.toUInt32 >>> ((3 : Int32) &&& 31).toUInt32).toInt32) &&& (255 : Int32)))), (.int (Int32.ofNat (cs.length + 1))), (.ref a1)])) (fun t k => st17 _ (XS.aloadN X17.here hx rfl (hb hby d1_73) rfl rfl (XS.iloadN X17.here hx rfl (hb hby d1_74) rfl (XS.iconst X17.here hx rfl (hb hby d1_75) (XS.iadd X17.here hx rfl (hb hby d1_76) rfl (by show Steps p.tables e below (T17.setTop (mkF m 77 #[sr a1, si (Int32.ofNat cs.length), si p3, si (p3 &&& (7 : Int32)), si (own_ct (((p3.toUInt32 >>> ((3 : Int32) &&& 31).toUInt32).toInt32) &&& (255 : Int32))), si ((((p3.toUInt32 >>> ((11 : Int32) &&& 31).toUInt32).toInt32) &&& (255 : Int32)).toUInt32.toUInt16.toUInt32.toInt32)] [(.int ((Int32.ofNat cs.length) + (1 : Int32))), (.ref a1)])) t; rw [show Int32.ofNat cs.length + (1 : Int32) = Int32.ofNat (cs.length + 1) from oj_add cs.length 1]; exact (XS.iload X17.here hx rfl (hb hby d1_77) rfl k))))))) ?_
    obtain ⟨cl20, Ar20, q20, S20, M20, H20, G20⟩ := id V17
    have hin20 : ¬ ((Int32.ofNat (cs.length + 1)) < 0 ∨ cl20.slots.size ≤ ((Int32.ofNat (cs.length + 1))).toNatClampNeg) := oj_in (n := 14) S20 rfl (by omega) (by omega)
    obtain ⟨T20, h20, X20, e20, W20, st20⟩ := stC X17 hx hZ e17 Ar20 (j := (Int32.ofNat (cs.length + 1))) hin20 (g := (mkF m 79 #[sr a1, si (Int32.ofNat cs.length), si p3, si (p3 &&& (7 : Int32)), si (own_ct (((p3.toUInt32 >>> ((3 : Int32) &&& 31).toUInt32).toInt32) &&& (255 : Int32))), si ((((p3.toUInt32 >>> ((11 : Int32) &&& 31).toUInt32).toInt32) &&& (255 : Int32)).toUInt32.toUInt16.toUInt32.toInt32)] [(.int (own_ct (((p3.toUInt32 >>> ((3 : Int32) &&& 31).toUInt32).toInt32) &&& (255 : Int32)))), (.int (Int32.ofNat (cs.length + 1))), (.ref a1)])) rfl rfl (hb hby d1_79)
    have V20 : Arv Z h20 a1 kC .char (14 : Int32) ((cs ++ [(40 : Int32), (own_ct (((p3.toUInt32 >>> ((3 : Int32) &&& 31).toUInt32).toInt32) &&& (255 : Int32)))]).map Value.int) (.int 0) := by
     have q := arvSnoc Ar20 q20 S20 M20 H20 G20 (fits_nar_char _) W20 (by rw [oj_n (by omega)]; simp)
     rw [(own_lat16 (own_ct_lat _ (by first | exact (own_m255 _).1 | exact (own_m255c _).1) (by first | exact (own_m255 _).2 | exact (own_m255c _).2)) : nar .char (own_ct (((p3.toUInt32 >>> ((3 : Int32) &&& 31).toUInt32).toInt32) &&& (255 : Int32))) = (own_ct (((p3.toUInt32 >>> ((3 : Int32) &&& 31).toUInt32).toInt32) &&& (255 : Int32))))] at q; have e : ((cs ++ [(40 : Int32)]).map Value.int) ++ [Value.int (own_ct (((p3.toUInt32 >>> ((3 : Int32) &&& 31).toUInt32).toInt32) &&& (255 : Int32)))] = ((cs ++ [(40 : Int32), (own_ct (((p3.toUInt32 >>> ((3 : Int32) &&& 31).toUInt32).toInt32) &&& (255 : Int32)))]).map Value.int) := (by simp); rw [e] at q; exact q
    have K21 : Keep h0 h20 [a1] := K18.wr W20 (Or.inl (List.mem_of_getElem? (i := 0) rfl))
    have N22 := Fr.snoc X20 N19 hp1
    refine go (S' := T20.setTop (mkF m 86 #[sr a1, si (Int32.ofNat cs.length), si p3, si (p3 &&& (7 : Int32)), si (own_ct (((p3.toUInt32 >>> ((3 : Int32) &&& 31).toUInt32).toInt32) &&& (255 : Int32))), si ((((p3.toUInt32 >>> ((11 : Int32) &&& 31).toUInt32).toInt32) &&& (255 : Int32)).toUInt32.toUInt16.toUInt32.toInt32)] [(.int 41), (.int (Int32.ofNat (cs.length + 2))), (.ref a1)])) (fun t k => st20 _ (XS.aloadN X20.here hx rfl (hb hby d1_80) rfl rfl (XS.iloadN X20.here hx rfl (hb hby d1_81) rfl (XS.iconst X20.here hx rfl (hb hby d1_82) (XS.iadd X20.here hx rfl (hb hby d1_83) rfl (by show Steps p.tables e below (T20.setTop (mkF m 84 #[sr a1, si (Int32.ofNat cs.length), si p3, si (p3 &&& (7 : Int32)), si (own_ct (((p3.toUInt32 >>> ((3 : Int32) &&& 31).toUInt32).toInt32) &&& (255 : Int32))), si ((((p3.toUInt32 >>> ((11 : Int32) &&& 31).toUInt32).toInt32) &&& (255 : Int32)).toUInt32.toUInt16.toUInt32.toInt32)] [(.int ((Int32.ofNat cs.length) + (2 : Int32))), (.ref a1)])) t; rw [show Int32.ofNat cs.length + (2 : Int32) = Int32.ofNat (cs.length + 2) from oj_add cs.length 2]; exact (XS.bipush X20.here hx rfl (hb hby d1_84) k))))))) ?_
    obtain ⟨cl23, Ar23, q23, S23, M23, H23, G23⟩ := id V20
    have hin23 : ¬ ((Int32.ofNat (cs.length + 2)) < 0 ∨ cl23.slots.size ≤ ((Int32.ofNat (cs.length + 2))).toNatClampNeg) := oj_in (n := 14) S23 rfl (by omega) (by omega)
    obtain ⟨T23, h23, X23, e23, W23, st23⟩ := stC X20 hx hZ e20 Ar23 (j := (Int32.ofNat (cs.length + 2))) hin23 (g := (mkF m 86 #[sr a1, si (Int32.ofNat cs.length), si p3, si (p3 &&& (7 : Int32)), si (own_ct (((p3.toUInt32 >>> ((3 : Int32) &&& 31).toUInt32).toInt32) &&& (255 : Int32))), si ((((p3.toUInt32 >>> ((11 : Int32) &&& 31).toUInt32).toInt32) &&& (255 : Int32)).toUInt32.toUInt16.toUInt32.toInt32)] [(.int 41), (.int (Int32.ofNat (cs.length + 2))), (.ref a1)])) rfl rfl (hb hby d1_86)
    have V23 : Arv Z h23 a1 kC .char (14 : Int32) ((cs ++ [(40 : Int32), (own_ct (((p3.toUInt32 >>> ((3 : Int32) &&& 31).toUInt32).toInt32) &&& (255 : Int32))), (41 : Int32)]).map Value.int) (.int 0) := by
     have q := arvSnoc Ar23 q23 S23 M23 H23 G23 (fits_nar_char _) W23 (by rw [oj_n (by omega)]; simp)
     rw [(by decide : nar .char (41 : Int32) = (41 : Int32))] at q; have e : ((cs ++ [(40 : Int32), (own_ct (((p3.toUInt32 >>> ((3 : Int32) &&& 31).toUInt32).toInt32) &&& (255 : Int32)))]).map Value.int) ++ [Value.int (41 : Int32)] = ((cs ++ [(40 : Int32), (own_ct (((p3.toUInt32 >>> ((3 : Int32) &&& 31).toUInt32).toInt32) &&& (255 : Int32))), (41 : Int32)]).map Value.int) := (by simp); rw [e] at q; exact q
    have K24 : Keep h0 h23 [a1] := K21.wr W23 (Or.inl (List.mem_of_getElem? (i := 0) rfl))
    have N25 := Fr.snoc X23 N22 hp1
    refine go (S' := T23.setTop (mkF m 90 #[sr a1, si (Int32.ofNat cs.length), si p3, si (p3 &&& (7 : Int32)), si (own_ct (((p3.toUInt32 >>> ((3 : Int32) &&& 31).toUInt32).toInt32) &&& (255 : Int32))), si ((((p3.toUInt32 >>> ((11 : Int32) &&& 31).toUInt32).toInt32) &&& (255 : Int32)).toUInt32.toUInt16.toUInt32.toInt32)] [(.int (Int32.ofNat (cs.length + 3)))])) (fun t k => st23 _ (XS.iloadN X23.here hx rfl (hb hby d1_87) rfl (XS.iconst X23.here hx rfl (hb hby d1_88) (XS.iadd X23.here hx rfl (hb hby d1_89) rfl (by show Steps p.tables e below (T23.setTop (mkF m 90 #[sr a1, si (Int32.ofNat cs.length), si p3, si (p3 &&& (7 : Int32)), si (own_ct (((p3.toUInt32 >>> ((3 : Int32) &&& 31).toUInt32).toInt32) &&& (255 : Int32))), si ((((p3.toUInt32 >>> ((11 : Int32) &&& 31).toUInt32).toInt32) &&& (255 : Int32)).toUInt32.toUInt16.toUInt32.toInt32)] [(.int ((Int32.ofNat cs.length) + (3 : Int32)))])) t; rw [show Int32.ofNat cs.length + (3 : Int32) = Int32.ofNat (cs.length + 3) from oj_add cs.length 3]; exact k))))) ?_
    refine finI X23 hx hk hret (hb hby d1_90) (by decide) (by decide) ?_
    have hb_ : own_blk p3 = [(40 : Int32), (own_ct (((p3.toUInt32 >>> ((3 : Int32) &&& 31).toUInt32).toInt32) &&& (255 : Int32))), (41 : Int32)] := by rw [own_blk, if_neg hc5, if_neg hc9, if_pos hc16]
    rw [e23]
    refine ⟨?_, N25, K24, ?_⟩
    · rw [hb_, List.length_append]; rfl
    · rw [hb_]; exact V23
   ·
    refine go (S' := T4.setTop (mkF m 93 #[sr a1, si (Int32.ofNat cs.length), si p3, si (p3 &&& (7 : Int32)), si (own_ct (((p3.toUInt32 >>> ((3 : Int32) &&& 31).toUInt32).toInt32) &&& (255 : Int32))), si ((((p3.toUInt32 >>> ((11 : Int32) &&& 31).toUInt32).toInt32) &&& (255 : Int32)).toUInt32.toUInt16.toUInt32.toInt32)] [(.int 4), (.int (p3 &&& (7 : Int32)))])) (fun t k => XS.icmpYes X4.here hx rfl (pc0 := 65) (pc' := 91) rfl (hb hby d1_65) rfl (feq hc16).2 (by decide) (by decide) (XS.iloadN X4.here hx rfl (hb hby d1_91) rfl (XS.iconst X4.here hx rfl (hb hby d1_92) k))) ?_
    by_cases hc26 : (p3 &&& (7 : Int32)) = (4 : Int32)
    ·
     refine go (S' := T4.setTop (mkF m 100 #[sr a1, si (Int32.ofNat cs.length), si p3, si (p3 &&& (7 : Int32)), si (own_ct (((p3.toUInt32 >>> ((3 : Int32) &&& 31).toUInt32).toInt32) &&& (255 : Int32))), si ((((p3.toUInt32 >>> ((11 : Int32) &&& 31).toUInt32).toInt32) &&& (255 : Int32)).toUInt32.toUInt16.toUInt32.toInt32)] [(.int 40), (.int (Int32.ofNat cs.length)), (.ref a1)])) (fun t k => XS.icmpNo X4.here hx rfl (hb hby d1_93) rfl (teq hc26).2 (XS.aloadN X4.here hx rfl (hb hby d1_96) rfl rfl (XS.iloadN X4.here hx rfl (hb hby d1_97) rfl (XS.bipush X4.here hx rfl (hb hby d1_98) k)))) ?_
     obtain ⟨cl27, Ar27, q27, S27, M27, H27, G27⟩ := id hp0
     have hin27 : ¬ ((Int32.ofNat cs.length) < 0 ∨ cl27.slots.size ≤ ((Int32.ofNat cs.length)).toNatClampNeg) := oj_in (n := 14) S27 rfl (by omega) (by omega)
     obtain ⟨T27, h27, X27, e27, W27, st27⟩ := stC X4 hx hZ e4 Ar27 (j := (Int32.ofNat cs.length)) hin27 (g := (mkF m 100 #[sr a1, si (Int32.ofNat cs.length), si p3, si (p3 &&& (7 : Int32)), si (own_ct (((p3.toUInt32 >>> ((3 : Int32) &&& 31).toUInt32).toInt32) &&& (255 : Int32))), si ((((p3.toUInt32 >>> ((11 : Int32) &&& 31).toUInt32).toInt32) &&& (255 : Int32)).toUInt32.toUInt16.toUInt32.toInt32)] [(.int 40), (.int (Int32.ofNat cs.length)), (.ref a1)])) rfl rfl (hb hby d1_100)
     have V27 : Arv Z h27 a1 kC .char (14 : Int32) ((cs ++ [(40 : Int32)]).map Value.int) (.int 0) := by
      have q := arvSnoc Ar27 q27 S27 M27 H27 G27 (fits_nar_char _) W27 (by rw [oj_n (by omega)]; simp)
      rw [(by decide : nar .char (40 : Int32) = (40 : Int32))] at q; have e : (cs.map Value.int) ++ [Value.int (40 : Int32)] = ((cs ++ [(40 : Int32)]).map Value.int) := (by simp); rw [e] at q; exact q
     have K28 : Keep h0 h27 [a1] := K0.wr W27 (Or.inl (List.mem_of_getElem? (i := 0) rfl))
     have N29 := Fr.snoc X27 N4 hp1
     refine go (S' := T27.setTop (mkF m 107 #[sr a1, si (Int32.ofNat cs.length), si p3, si (p3 &&& (7 : Int32)), si (own_ct (((p3.toUInt32 >>> ((3 : Int32) &&& 31).toUInt32).toInt32) &&& (255 : Int32))), si ((((p3.toUInt32 >>> ((11 : Int32) &&& 31).toUInt32).toInt32) &&& (255 : Int32)).toUInt32.toUInt16.toUInt32.toInt32)] [(.int 92), (.int (Int32.ofNat (cs.length + 1))), (.ref a1)])) (fun t k => st27 _ (XS.aloadN X27.here hx rfl (hb hby d1_101) rfl rfl (XS.iloadN X27.here hx rfl (hb hby d1_102) rfl (XS.iconst X27.here hx rfl (hb hby d1_103) (XS.iadd X27.here hx rfl (hb hby d1_104) rfl (by show Steps p.tables e below (T27.setTop (mkF m 105 #[sr a1, si (Int32.ofNat cs.length), si p3, si (p3 &&& (7 : Int32)), si (own_ct (((p3.toUInt32 >>> ((3 : Int32) &&& 31).toUInt32).toInt32) &&& (255 : Int32))), si ((((p3.toUInt32 >>> ((11 : Int32) &&& 31).toUInt32).toInt32) &&& (255 : Int32)).toUInt32.toUInt16.toUInt32.toInt32)] [(.int ((Int32.ofNat cs.length) + (1 : Int32))), (.ref a1)])) t; rw [show Int32.ofNat cs.length + (1 : Int32) = Int32.ofNat (cs.length + 1) from oj_add cs.length 1]; exact (XS.bipush X27.here hx rfl (hb hby d1_105) k))))))) ?_
     obtain ⟨cl30, Ar30, q30, S30, M30, H30, G30⟩ := id V27
     have hin30 : ¬ ((Int32.ofNat (cs.length + 1)) < 0 ∨ cl30.slots.size ≤ ((Int32.ofNat (cs.length + 1))).toNatClampNeg) := oj_in (n := 14) S30 rfl (by omega) (by omega)
     obtain ⟨T30, h30, X30, e30, W30, st30⟩ := stC X27 hx hZ e27 Ar30 (j := (Int32.ofNat (cs.length + 1))) hin30 (g := (mkF m 107 #[sr a1, si (Int32.ofNat cs.length), si p3, si (p3 &&& (7 : Int32)), si (own_ct (((p3.toUInt32 >>> ((3 : Int32) &&& 31).toUInt32).toInt32) &&& (255 : Int32))), si ((((p3.toUInt32 >>> ((11 : Int32) &&& 31).toUInt32).toInt32) &&& (255 : Int32)).toUInt32.toUInt16.toUInt32.toInt32)] [(.int 92), (.int (Int32.ofNat (cs.length + 1))), (.ref a1)])) rfl rfl (hb hby d1_107)
     have V30 : Arv Z h30 a1 kC .char (14 : Int32) ((cs ++ [(40 : Int32), (92 : Int32)]).map Value.int) (.int 0) := by
      have q := arvSnoc Ar30 q30 S30 M30 H30 G30 (fits_nar_char _) W30 (by rw [oj_n (by omega)]; simp)
      rw [(by decide : nar .char (92 : Int32) = (92 : Int32))] at q; have e : ((cs ++ [(40 : Int32)]).map Value.int) ++ [Value.int (92 : Int32)] = ((cs ++ [(40 : Int32), (92 : Int32)]).map Value.int) := (by simp); rw [e] at q; exact q
     have K31 : Keep h0 h30 [a1] := K28.wr W30 (Or.inl (List.mem_of_getElem? (i := 0) rfl))
     have N32 := Fr.snoc X30 N29 hp1
     refine go (S' := T30.setTop (mkF m 114 #[sr a1, si (Int32.ofNat cs.length), si p3, si (p3 &&& (7 : Int32)), si (own_ct (((p3.toUInt32 >>> ((3 : Int32) &&& 31).toUInt32).toInt32) &&& (255 : Int32))), si ((((p3.toUInt32 >>> ((11 : Int32) &&& 31).toUInt32).toInt32) &&& (255 : Int32)).toUInt32.toUInt16.toUInt32.toInt32)] [(.int ((((p3.toUInt32 >>> ((11 : Int32) &&& 31).toUInt32).toInt32) &&& (255 : Int32)).toUInt32.toUInt16.toUInt32.toInt32)), (.int (Int32.ofNat (cs.length + 2))), (.ref a1)])) (fun t k => st30 _ (XS.aloadN X30.here hx rfl (hb hby d1_108) rfl rfl (XS.iloadN X30.here hx rfl (hb hby d1_109) rfl (XS.iconst X30.here hx rfl (hb hby d1_110) (XS.iadd X30.here hx rfl (hb hby d1_111) rfl (by show Steps p.tables e below (T30.setTop (mkF m 112 #[sr a1, si (Int32.ofNat cs.length), si p3, si (p3 &&& (7 : Int32)), si (own_ct (((p3.toUInt32 >>> ((3 : Int32) &&& 31).toUInt32).toInt32) &&& (255 : Int32))), si ((((p3.toUInt32 >>> ((11 : Int32) &&& 31).toUInt32).toInt32) &&& (255 : Int32)).toUInt32.toUInt16.toUInt32.toInt32)] [(.int ((Int32.ofNat cs.length) + (2 : Int32))), (.ref a1)])) t; rw [show Int32.ofNat cs.length + (2 : Int32) = Int32.ofNat (cs.length + 2) from oj_add cs.length 2]; exact (XS.iload X30.here hx rfl (hb hby d1_112) rfl k))))))) ?_
     obtain ⟨cl33, Ar33, q33, S33, M33, H33, G33⟩ := id V30
     have hin33 : ¬ ((Int32.ofNat (cs.length + 2)) < 0 ∨ cl33.slots.size ≤ ((Int32.ofNat (cs.length + 2))).toNatClampNeg) := oj_in (n := 14) S33 rfl (by omega) (by omega)
     obtain ⟨T33, h33, X33, e33, W33, st33⟩ := stC X30 hx hZ e30 Ar33 (j := (Int32.ofNat (cs.length + 2))) hin33 (g := (mkF m 114 #[sr a1, si (Int32.ofNat cs.length), si p3, si (p3 &&& (7 : Int32)), si (own_ct (((p3.toUInt32 >>> ((3 : Int32) &&& 31).toUInt32).toInt32) &&& (255 : Int32))), si ((((p3.toUInt32 >>> ((11 : Int32) &&& 31).toUInt32).toInt32) &&& (255 : Int32)).toUInt32.toUInt16.toUInt32.toInt32)] [(.int ((((p3.toUInt32 >>> ((11 : Int32) &&& 31).toUInt32).toInt32) &&& (255 : Int32)).toUInt32.toUInt16.toUInt32.toInt32)), (.int (Int32.ofNat (cs.length + 2))), (.ref a1)])) rfl rfl (hb hby d1_114)
     have V33 : Arv Z h33 a1 kC .char (14 : Int32) ((cs ++ [(40 : Int32), (92 : Int32), ((((p3.toUInt32 >>> ((11 : Int32) &&& 31).toUInt32).toInt32) &&& (255 : Int32)).toUInt32.toUInt16.toUInt32.toInt32)]).map Value.int) (.int 0) := by
      have q := arvSnoc Ar33 q33 S33 M33 H33 G33 (fits_nar_char _) W33 (by rw [oj_n (by omega)]; simp)
      rw [(narc _ : nar .char ((((p3.toUInt32 >>> ((11 : Int32) &&& 31).toUInt32).toInt32) &&& (255 : Int32)).toUInt32.toUInt16.toUInt32.toInt32) = ((((p3.toUInt32 >>> ((11 : Int32) &&& 31).toUInt32).toInt32) &&& (255 : Int32)).toUInt32.toUInt16.toUInt32.toInt32))] at q; have e : ((cs ++ [(40 : Int32), (92 : Int32)]).map Value.int) ++ [Value.int ((((p3.toUInt32 >>> ((11 : Int32) &&& 31).toUInt32).toInt32) &&& (255 : Int32)).toUInt32.toUInt16.toUInt32.toInt32)] = ((cs ++ [(40 : Int32), (92 : Int32), ((((p3.toUInt32 >>> ((11 : Int32) &&& 31).toUInt32).toInt32) &&& (255 : Int32)).toUInt32.toUInt16.toUInt32.toInt32)]).map Value.int) := (by simp); rw [e] at q; exact q
     have K34 : Keep h0 h33 [a1] := K31.wr W33 (Or.inl (List.mem_of_getElem? (i := 0) rfl))
     have N35 := Fr.snoc X33 N32 hp1
     refine go (S' := T33.setTop (mkF m 121 #[sr a1, si (Int32.ofNat cs.length), si p3, si (p3 &&& (7 : Int32)), si (own_ct (((p3.toUInt32 >>> ((3 : Int32) &&& 31).toUInt32).toInt32) &&& (255 : Int32))), si ((((p3.toUInt32 >>> ((11 : Int32) &&& 31).toUInt32).toInt32) &&& (255 : Int32)).toUInt32.toUInt16.toUInt32.toInt32)] [(.int 41), (.int (Int32.ofNat (cs.length + 3))), (.ref a1)])) (fun t k => st33 _ (XS.aloadN X33.here hx rfl (hb hby d1_115) rfl rfl (XS.iloadN X33.here hx rfl (hb hby d1_116) rfl (XS.iconst X33.here hx rfl (hb hby d1_117) (XS.iadd X33.here hx rfl (hb hby d1_118) rfl (by show Steps p.tables e below (T33.setTop (mkF m 119 #[sr a1, si (Int32.ofNat cs.length), si p3, si (p3 &&& (7 : Int32)), si (own_ct (((p3.toUInt32 >>> ((3 : Int32) &&& 31).toUInt32).toInt32) &&& (255 : Int32))), si ((((p3.toUInt32 >>> ((11 : Int32) &&& 31).toUInt32).toInt32) &&& (255 : Int32)).toUInt32.toUInt16.toUInt32.toInt32)] [(.int ((Int32.ofNat cs.length) + (3 : Int32))), (.ref a1)])) t; rw [show Int32.ofNat cs.length + (3 : Int32) = Int32.ofNat (cs.length + 3) from oj_add cs.length 3]; exact (XS.bipush X33.here hx rfl (hb hby d1_119) k))))))) ?_
     obtain ⟨cl36, Ar36, q36, S36, M36, H36, G36⟩ := id V33
     have hin36 : ¬ ((Int32.ofNat (cs.length + 3)) < 0 ∨ cl36.slots.size ≤ ((Int32.ofNat (cs.length + 3))).toNatClampNeg) := oj_in (n := 14) S36 rfl (by omega) (by omega)
     obtain ⟨T36, h36, X36, e36, W36, st36⟩ := stC X33 hx hZ e33 Ar36 (j := (Int32.ofNat (cs.length + 3))) hin36 (g := (mkF m 121 #[sr a1, si (Int32.ofNat cs.length), si p3, si (p3 &&& (7 : Int32)), si (own_ct (((p3.toUInt32 >>> ((3 : Int32) &&& 31).toUInt32).toInt32) &&& (255 : Int32))), si ((((p3.toUInt32 >>> ((11 : Int32) &&& 31).toUInt32).toInt32) &&& (255 : Int32)).toUInt32.toUInt16.toUInt32.toInt32)] [(.int 41), (.int (Int32.ofNat (cs.length + 3))), (.ref a1)])) rfl rfl (hb hby d1_121)
     have V36 : Arv Z h36 a1 kC .char (14 : Int32) ((cs ++ [(40 : Int32), (92 : Int32), ((((p3.toUInt32 >>> ((11 : Int32) &&& 31).toUInt32).toInt32) &&& (255 : Int32)).toUInt32.toUInt16.toUInt32.toInt32), (41 : Int32)]).map Value.int) (.int 0) := by
      have q := arvSnoc Ar36 q36 S36 M36 H36 G36 (fits_nar_char _) W36 (by rw [oj_n (by omega)]; simp)
      rw [(by decide : nar .char (41 : Int32) = (41 : Int32))] at q; have e : ((cs ++ [(40 : Int32), (92 : Int32), ((((p3.toUInt32 >>> ((11 : Int32) &&& 31).toUInt32).toInt32) &&& (255 : Int32)).toUInt32.toUInt16.toUInt32.toInt32)]).map Value.int) ++ [Value.int (41 : Int32)] = ((cs ++ [(40 : Int32), (92 : Int32), ((((p3.toUInt32 >>> ((11 : Int32) &&& 31).toUInt32).toInt32) &&& (255 : Int32)).toUInt32.toUInt16.toUInt32.toInt32), (41 : Int32)]).map Value.int) := (by simp); rw [e] at q; exact q
     have K37 : Keep h0 h36 [a1] := K34.wr W36 (Or.inl (List.mem_of_getElem? (i := 0) rfl))
     have N38 := Fr.snoc X36 N35 hp1
     refine go (S' := T36.setTop (mkF m 125 #[sr a1, si (Int32.ofNat cs.length), si p3, si (p3 &&& (7 : Int32)), si (own_ct (((p3.toUInt32 >>> ((3 : Int32) &&& 31).toUInt32).toInt32) &&& (255 : Int32))), si ((((p3.toUInt32 >>> ((11 : Int32) &&& 31).toUInt32).toInt32) &&& (255 : Int32)).toUInt32.toUInt16.toUInt32.toInt32)] [(.int (Int32.ofNat (cs.length + 4)))])) (fun t k => st36 _ (XS.iloadN X36.here hx rfl (hb hby d1_122) rfl (XS.iconst X36.here hx rfl (hb hby d1_123) (XS.iadd X36.here hx rfl (hb hby d1_124) rfl (by show Steps p.tables e below (T36.setTop (mkF m 125 #[sr a1, si (Int32.ofNat cs.length), si p3, si (p3 &&& (7 : Int32)), si (own_ct (((p3.toUInt32 >>> ((3 : Int32) &&& 31).toUInt32).toInt32) &&& (255 : Int32))), si ((((p3.toUInt32 >>> ((11 : Int32) &&& 31).toUInt32).toInt32) &&& (255 : Int32)).toUInt32.toUInt16.toUInt32.toInt32)] [(.int ((Int32.ofNat cs.length) + (4 : Int32)))])) t; rw [show Int32.ofNat cs.length + (4 : Int32) = Int32.ofNat (cs.length + 4) from oj_add cs.length 4]; exact k))))) ?_
     refine finI X36 hx hk hret (hb hby d1_125) (by decide) (by decide) ?_
     have hb_ : own_blk p3 = [(40 : Int32), (92 : Int32), ((((p3.toUInt32 >>> ((11 : Int32) &&& 31).toUInt32).toInt32) &&& (255 : Int32)).toUInt32.toUInt16.toUInt32.toInt32), (41 : Int32)] := by rw [own_blk, if_neg hc5, if_neg hc9, if_neg hc16, if_pos hc26]
     rw [e36]
     refine ⟨?_, N38, K37, ?_⟩
     · rw [hb_, List.length_append]; rfl
     · rw [hb_]; exact V36
    ·
     refine go (S' := T4.setTop (mkF m 128 #[sr a1, si (Int32.ofNat cs.length), si p3, si (p3 &&& (7 : Int32)), si (own_ct (((p3.toUInt32 >>> ((3 : Int32) &&& 31).toUInt32).toInt32) &&& (255 : Int32))), si ((((p3.toUInt32 >>> ((11 : Int32) &&& 31).toUInt32).toInt32) &&& (255 : Int32)).toUInt32.toUInt16.toUInt32.toInt32)] [(.int 5), (.int (p3 &&& (7 : Int32)))])) (fun t k => XS.icmpYes X4.here hx rfl (pc0 := 93) (pc' := 126) rfl (hb hby d1_93) rfl (feq hc26).2 (by decide) (by decide) (XS.iloadN X4.here hx rfl (hb hby d1_126) rfl (XS.iconst X4.here hx rfl (hb hby d1_127) k))) ?_
     by_cases hc39 : (p3 &&& (7 : Int32)) = (5 : Int32)
     ·
      refine go (S' := T4.setTop (mkF m 135 #[sr a1, si (Int32.ofNat cs.length), si p3, si (p3 &&& (7 : Int32)), si (own_ct (((p3.toUInt32 >>> ((3 : Int32) &&& 31).toUInt32).toInt32) &&& (255 : Int32))), si ((((p3.toUInt32 >>> ((11 : Int32) &&& 31).toUInt32).toInt32) &&& (255 : Int32)).toUInt32.toUInt16.toUInt32.toInt32)] [(.int 40), (.int (Int32.ofNat cs.length)), (.ref a1)])) (fun t k => XS.icmpNo X4.here hx rfl (hb hby d1_128) rfl (teq hc39).2 (XS.aloadN X4.here hx rfl (hb hby d1_131) rfl rfl (XS.iloadN X4.here hx rfl (hb hby d1_132) rfl (XS.bipush X4.here hx rfl (hb hby d1_133) k)))) ?_
      obtain ⟨cl40, Ar40, q40, S40, M40, H40, G40⟩ := id hp0
      have hin40 : ¬ ((Int32.ofNat cs.length) < 0 ∨ cl40.slots.size ≤ ((Int32.ofNat cs.length)).toNatClampNeg) := oj_in (n := 14) S40 rfl (by omega) (by omega)
      obtain ⟨T40, h40, X40, e40, W40, st40⟩ := stC X4 hx hZ e4 Ar40 (j := (Int32.ofNat cs.length)) hin40 (g := (mkF m 135 #[sr a1, si (Int32.ofNat cs.length), si p3, si (p3 &&& (7 : Int32)), si (own_ct (((p3.toUInt32 >>> ((3 : Int32) &&& 31).toUInt32).toInt32) &&& (255 : Int32))), si ((((p3.toUInt32 >>> ((11 : Int32) &&& 31).toUInt32).toInt32) &&& (255 : Int32)).toUInt32.toUInt16.toUInt32.toInt32)] [(.int 40), (.int (Int32.ofNat cs.length)), (.ref a1)])) rfl rfl (hb hby d1_135)
      have V40 : Arv Z h40 a1 kC .char (14 : Int32) ((cs ++ [(40 : Int32)]).map Value.int) (.int 0) := by
       have q := arvSnoc Ar40 q40 S40 M40 H40 G40 (fits_nar_char _) W40 (by rw [oj_n (by omega)]; simp)
       rw [(by decide : nar .char (40 : Int32) = (40 : Int32))] at q; have e : (cs.map Value.int) ++ [Value.int (40 : Int32)] = ((cs ++ [(40 : Int32)]).map Value.int) := (by simp); rw [e] at q; exact q
      have K41 : Keep h0 h40 [a1] := K0.wr W40 (Or.inl (List.mem_of_getElem? (i := 0) rfl))
      have N42 := Fr.snoc X40 N4 hp1
      refine go (S' := T40.setTop (mkF m 142 #[sr a1, si (Int32.ofNat cs.length), si p3, si (p3 &&& (7 : Int32)), si (own_ct (((p3.toUInt32 >>> ((3 : Int32) &&& 31).toUInt32).toInt32) &&& (255 : Int32))), si ((((p3.toUInt32 >>> ((11 : Int32) &&& 31).toUInt32).toInt32) &&& (255 : Int32)).toUInt32.toUInt16.toUInt32.toInt32)] [(.int 41), (.int (Int32.ofNat (cs.length + 1))), (.ref a1)])) (fun t k => st40 _ (XS.aloadN X40.here hx rfl (hb hby d1_136) rfl rfl (XS.iloadN X40.here hx rfl (hb hby d1_137) rfl (XS.iconst X40.here hx rfl (hb hby d1_138) (XS.iadd X40.here hx rfl (hb hby d1_139) rfl (by show Steps p.tables e below (T40.setTop (mkF m 140 #[sr a1, si (Int32.ofNat cs.length), si p3, si (p3 &&& (7 : Int32)), si (own_ct (((p3.toUInt32 >>> ((3 : Int32) &&& 31).toUInt32).toInt32) &&& (255 : Int32))), si ((((p3.toUInt32 >>> ((11 : Int32) &&& 31).toUInt32).toInt32) &&& (255 : Int32)).toUInt32.toUInt16.toUInt32.toInt32)] [(.int ((Int32.ofNat cs.length) + (1 : Int32))), (.ref a1)])) t; rw [show Int32.ofNat cs.length + (1 : Int32) = Int32.ofNat (cs.length + 1) from oj_add cs.length 1]; exact (XS.bipush X40.here hx rfl (hb hby d1_140) k))))))) ?_
      obtain ⟨cl43, Ar43, q43, S43, M43, H43, G43⟩ := id V40
      have hin43 : ¬ ((Int32.ofNat (cs.length + 1)) < 0 ∨ cl43.slots.size ≤ ((Int32.ofNat (cs.length + 1))).toNatClampNeg) := oj_in (n := 14) S43 rfl (by omega) (by omega)
      obtain ⟨T43, h43, X43, e43, W43, st43⟩ := stC X40 hx hZ e40 Ar43 (j := (Int32.ofNat (cs.length + 1))) hin43 (g := (mkF m 142 #[sr a1, si (Int32.ofNat cs.length), si p3, si (p3 &&& (7 : Int32)), si (own_ct (((p3.toUInt32 >>> ((3 : Int32) &&& 31).toUInt32).toInt32) &&& (255 : Int32))), si ((((p3.toUInt32 >>> ((11 : Int32) &&& 31).toUInt32).toInt32) &&& (255 : Int32)).toUInt32.toUInt16.toUInt32.toInt32)] [(.int 41), (.int (Int32.ofNat (cs.length + 1))), (.ref a1)])) rfl rfl (hb hby d1_142)
      have V43 : Arv Z h43 a1 kC .char (14 : Int32) ((cs ++ [(40 : Int32), (41 : Int32)]).map Value.int) (.int 0) := by
       have q := arvSnoc Ar43 q43 S43 M43 H43 G43 (fits_nar_char _) W43 (by rw [oj_n (by omega)]; simp)
       rw [(by decide : nar .char (41 : Int32) = (41 : Int32))] at q; have e : ((cs ++ [(40 : Int32)]).map Value.int) ++ [Value.int (41 : Int32)] = ((cs ++ [(40 : Int32), (41 : Int32)]).map Value.int) := (by simp); rw [e] at q; exact q
      have K44 : Keep h0 h43 [a1] := K41.wr W43 (Or.inl (List.mem_of_getElem? (i := 0) rfl))
      have N45 := Fr.snoc X43 N42 hp1
      refine go (S' := T43.setTop (mkF m 146 #[sr a1, si (Int32.ofNat cs.length), si p3, si (p3 &&& (7 : Int32)), si (own_ct (((p3.toUInt32 >>> ((3 : Int32) &&& 31).toUInt32).toInt32) &&& (255 : Int32))), si ((((p3.toUInt32 >>> ((11 : Int32) &&& 31).toUInt32).toInt32) &&& (255 : Int32)).toUInt32.toUInt16.toUInt32.toInt32)] [(.int (Int32.ofNat (cs.length + 2)))])) (fun t k => st43 _ (XS.iloadN X43.here hx rfl (hb hby d1_143) rfl (XS.iconst X43.here hx rfl (hb hby d1_144) (XS.iadd X43.here hx rfl (hb hby d1_145) rfl (by show Steps p.tables e below (T43.setTop (mkF m 146 #[sr a1, si (Int32.ofNat cs.length), si p3, si (p3 &&& (7 : Int32)), si (own_ct (((p3.toUInt32 >>> ((3 : Int32) &&& 31).toUInt32).toInt32) &&& (255 : Int32))), si ((((p3.toUInt32 >>> ((11 : Int32) &&& 31).toUInt32).toInt32) &&& (255 : Int32)).toUInt32.toUInt16.toUInt32.toInt32)] [(.int ((Int32.ofNat cs.length) + (2 : Int32)))])) t; rw [show Int32.ofNat cs.length + (2 : Int32) = Int32.ofNat (cs.length + 2) from oj_add cs.length 2]; exact k))))) ?_
      refine finI X43 hx hk hret (hb hby d1_146) (by decide) (by decide) ?_
      have hb_ : own_blk p3 = [(40 : Int32), (41 : Int32)] := by rw [own_blk, if_neg hc5, if_neg hc9, if_neg hc16, if_neg hc26, if_pos hc39]
      rw [e43]
      refine ⟨?_, N45, K44, ?_⟩
      · rw [hb_, List.length_append]; rfl
      · rw [hb_]; exact V43
     ·
      refine go (S' := T4.setTop (mkF m 150 #[sr a1, si (Int32.ofNat cs.length), si p3, si (p3 &&& (7 : Int32)), si (own_ct (((p3.toUInt32 >>> ((3 : Int32) &&& 31).toUInt32).toInt32) &&& (255 : Int32))), si ((((p3.toUInt32 >>> ((11 : Int32) &&& 31).toUInt32).toInt32) &&& (255 : Int32)).toUInt32.toUInt16.toUInt32.toInt32)] [(.int 6), (.int (p3 &&& (7 : Int32)))])) (fun t k => XS.icmpYes X4.here hx rfl (pc0 := 128) (pc' := 147) rfl (hb hby d1_128) rfl (feq hc39).2 (by decide) (by decide) (XS.iloadN X4.here hx rfl (hb hby d1_147) rfl (XS.bipush X4.here hx rfl (hb hby d1_148) k))) ?_
      by_cases hc46 : (p3 &&& (7 : Int32)) = (6 : Int32)
      ·
       refine go (S' := T4.setTop (mkF m 157 #[sr a1, si (Int32.ofNat cs.length), si p3, si (p3 &&& (7 : Int32)), si (own_ct (((p3.toUInt32 >>> ((3 : Int32) &&& 31).toUInt32).toInt32) &&& (255 : Int32))), si ((((p3.toUInt32 >>> ((11 : Int32) &&& 31).toUInt32).toInt32) &&& (255 : Int32)).toUInt32.toUInt16.toUInt32.toInt32)] [(.int 40), (.int (Int32.ofNat cs.length)), (.ref a1)])) (fun t k => XS.icmpNo X4.here hx rfl (hb hby d1_150) rfl (teq hc46).2 (XS.aloadN X4.here hx rfl (hb hby d1_153) rfl rfl (XS.iloadN X4.here hx rfl (hb hby d1_154) rfl (XS.bipush X4.here hx rfl (hb hby d1_155) k)))) ?_
       obtain ⟨cl47, Ar47, q47, S47, M47, H47, G47⟩ := id hp0
       have hin47 : ¬ ((Int32.ofNat cs.length) < 0 ∨ cl47.slots.size ≤ ((Int32.ofNat cs.length)).toNatClampNeg) := oj_in (n := 14) S47 rfl (by omega) (by omega)
       obtain ⟨T47, h47, X47, e47, W47, st47⟩ := stC X4 hx hZ e4 Ar47 (j := (Int32.ofNat cs.length)) hin47 (g := (mkF m 157 #[sr a1, si (Int32.ofNat cs.length), si p3, si (p3 &&& (7 : Int32)), si (own_ct (((p3.toUInt32 >>> ((3 : Int32) &&& 31).toUInt32).toInt32) &&& (255 : Int32))), si ((((p3.toUInt32 >>> ((11 : Int32) &&& 31).toUInt32).toInt32) &&& (255 : Int32)).toUInt32.toUInt16.toUInt32.toInt32)] [(.int 40), (.int (Int32.ofNat cs.length)), (.ref a1)])) rfl rfl (hb hby d1_157)
       have V47 : Arv Z h47 a1 kC .char (14 : Int32) ((cs ++ [(40 : Int32)]).map Value.int) (.int 0) := by
        have q := arvSnoc Ar47 q47 S47 M47 H47 G47 (fits_nar_char _) W47 (by rw [oj_n (by omega)]; simp)
        rw [(by decide : nar .char (40 : Int32) = (40 : Int32))] at q; have e : (cs.map Value.int) ++ [Value.int (40 : Int32)] = ((cs ++ [(40 : Int32)]).map Value.int) := (by simp); rw [e] at q; exact q
       have K48 : Keep h0 h47 [a1] := K0.wr W47 (Or.inl (List.mem_of_getElem? (i := 0) rfl))
       have N49 := Fr.snoc X47 N4 hp1
       refine go (S' := T47.setTop (mkF m 164 #[sr a1, si (Int32.ofNat cs.length), si p3, si (p3 &&& (7 : Int32)), si (own_ct (((p3.toUInt32 >>> ((3 : Int32) &&& 31).toUInt32).toInt32) &&& (255 : Int32))), si ((((p3.toUInt32 >>> ((11 : Int32) &&& 31).toUInt32).toInt32) &&& (255 : Int32)).toUInt32.toUInt16.toUInt32.toInt32)] [(.int 40), (.int (Int32.ofNat (cs.length + 1))), (.ref a1)])) (fun t k => st47 _ (XS.aloadN X47.here hx rfl (hb hby d1_158) rfl rfl (XS.iloadN X47.here hx rfl (hb hby d1_159) rfl (XS.iconst X47.here hx rfl (hb hby d1_160) (XS.iadd X47.here hx rfl (hb hby d1_161) rfl (by show Steps p.tables e below (T47.setTop (mkF m 162 #[sr a1, si (Int32.ofNat cs.length), si p3, si (p3 &&& (7 : Int32)), si (own_ct (((p3.toUInt32 >>> ((3 : Int32) &&& 31).toUInt32).toInt32) &&& (255 : Int32))), si ((((p3.toUInt32 >>> ((11 : Int32) &&& 31).toUInt32).toInt32) &&& (255 : Int32)).toUInt32.toUInt16.toUInt32.toInt32)] [(.int ((Int32.ofNat cs.length) + (1 : Int32))), (.ref a1)])) t; rw [show Int32.ofNat cs.length + (1 : Int32) = Int32.ofNat (cs.length + 1) from oj_add cs.length 1]; exact (XS.bipush X47.here hx rfl (hb hby d1_162) k))))))) ?_
       obtain ⟨cl50, Ar50, q50, S50, M50, H50, G50⟩ := id V47
       have hin50 : ¬ ((Int32.ofNat (cs.length + 1)) < 0 ∨ cl50.slots.size ≤ ((Int32.ofNat (cs.length + 1))).toNatClampNeg) := oj_in (n := 14) S50 rfl (by omega) (by omega)
       obtain ⟨T50, h50, X50, e50, W50, st50⟩ := stC X47 hx hZ e47 Ar50 (j := (Int32.ofNat (cs.length + 1))) hin50 (g := (mkF m 164 #[sr a1, si (Int32.ofNat cs.length), si p3, si (p3 &&& (7 : Int32)), si (own_ct (((p3.toUInt32 >>> ((3 : Int32) &&& 31).toUInt32).toInt32) &&& (255 : Int32))), si ((((p3.toUInt32 >>> ((11 : Int32) &&& 31).toUInt32).toInt32) &&& (255 : Int32)).toUInt32.toUInt16.toUInt32.toInt32)] [(.int 40), (.int (Int32.ofNat (cs.length + 1))), (.ref a1)])) rfl rfl (hb hby d1_164)
       have V50 : Arv Z h50 a1 kC .char (14 : Int32) ((cs ++ [(40 : Int32), (40 : Int32)]).map Value.int) (.int 0) := by
        have q := arvSnoc Ar50 q50 S50 M50 H50 G50 (fits_nar_char _) W50 (by rw [oj_n (by omega)]; simp)
        rw [(by decide : nar .char (40 : Int32) = (40 : Int32))] at q; have e : ((cs ++ [(40 : Int32)]).map Value.int) ++ [Value.int (40 : Int32)] = ((cs ++ [(40 : Int32), (40 : Int32)]).map Value.int) := (by simp); rw [e] at q; exact q
       have K51 : Keep h0 h50 [a1] := K48.wr W50 (Or.inl (List.mem_of_getElem? (i := 0) rfl))
       have N52 := Fr.snoc X50 N49 hp1
       refine go (S' := T50.setTop (mkF m 171 #[sr a1, si (Int32.ofNat cs.length), si p3, si (p3 &&& (7 : Int32)), si (own_ct (((p3.toUInt32 >>> ((3 : Int32) &&& 31).toUInt32).toInt32) &&& (255 : Int32))), si ((((p3.toUInt32 >>> ((11 : Int32) &&& 31).toUInt32).toInt32) &&& (255 : Int32)).toUInt32.toUInt16.toUInt32.toInt32)] [(.int 41), (.int (Int32.ofNat (cs.length + 2))), (.ref a1)])) (fun t k => st50 _ (XS.aloadN X50.here hx rfl (hb hby d1_165) rfl rfl (XS.iloadN X50.here hx rfl (hb hby d1_166) rfl (XS.iconst X50.here hx rfl (hb hby d1_167) (XS.iadd X50.here hx rfl (hb hby d1_168) rfl (by show Steps p.tables e below (T50.setTop (mkF m 169 #[sr a1, si (Int32.ofNat cs.length), si p3, si (p3 &&& (7 : Int32)), si (own_ct (((p3.toUInt32 >>> ((3 : Int32) &&& 31).toUInt32).toInt32) &&& (255 : Int32))), si ((((p3.toUInt32 >>> ((11 : Int32) &&& 31).toUInt32).toInt32) &&& (255 : Int32)).toUInt32.toUInt16.toUInt32.toInt32)] [(.int ((Int32.ofNat cs.length) + (2 : Int32))), (.ref a1)])) t; rw [show Int32.ofNat cs.length + (2 : Int32) = Int32.ofNat (cs.length + 2) from oj_add cs.length 2]; exact (XS.bipush X50.here hx rfl (hb hby d1_169) k))))))) ?_
       obtain ⟨cl53, Ar53, q53, S53, M53, H53, G53⟩ := id V50
       have hin53 : ¬ ((Int32.ofNat (cs.length + 2)) < 0 ∨ cl53.slots.size ≤ ((Int32.ofNat (cs.length + 2))).toNatClampNeg) := oj_in (n := 14) S53 rfl (by omega) (by omega)
       obtain ⟨T53, h53, X53, e53, W53, st53⟩ := stC X50 hx hZ e50 Ar53 (j := (Int32.ofNat (cs.length + 2))) hin53 (g := (mkF m 171 #[sr a1, si (Int32.ofNat cs.length), si p3, si (p3 &&& (7 : Int32)), si (own_ct (((p3.toUInt32 >>> ((3 : Int32) &&& 31).toUInt32).toInt32) &&& (255 : Int32))), si ((((p3.toUInt32 >>> ((11 : Int32) &&& 31).toUInt32).toInt32) &&& (255 : Int32)).toUInt32.toUInt16.toUInt32.toInt32)] [(.int 41), (.int (Int32.ofNat (cs.length + 2))), (.ref a1)])) rfl rfl (hb hby d1_171)
       have V53 : Arv Z h53 a1 kC .char (14 : Int32) ((cs ++ [(40 : Int32), (40 : Int32), (41 : Int32)]).map Value.int) (.int 0) := by
        have q := arvSnoc Ar53 q53 S53 M53 H53 G53 (fits_nar_char _) W53 (by rw [oj_n (by omega)]; simp)
        rw [(by decide : nar .char (41 : Int32) = (41 : Int32))] at q; have e : ((cs ++ [(40 : Int32), (40 : Int32)]).map Value.int) ++ [Value.int (41 : Int32)] = ((cs ++ [(40 : Int32), (40 : Int32), (41 : Int32)]).map Value.int) := (by simp); rw [e] at q; exact q
       have K54 : Keep h0 h53 [a1] := K51.wr W53 (Or.inl (List.mem_of_getElem? (i := 0) rfl))
       have N55 := Fr.snoc X53 N52 hp1
       refine go (S' := T53.setTop (mkF m 178 #[sr a1, si (Int32.ofNat cs.length), si p3, si (p3 &&& (7 : Int32)), si (own_ct (((p3.toUInt32 >>> ((3 : Int32) &&& 31).toUInt32).toInt32) &&& (255 : Int32))), si ((((p3.toUInt32 >>> ((11 : Int32) &&& 31).toUInt32).toInt32) &&& (255 : Int32)).toUInt32.toUInt16.toUInt32.toInt32)] [(.int 41), (.int (Int32.ofNat (cs.length + 3))), (.ref a1)])) (fun t k => st53 _ (XS.aloadN X53.here hx rfl (hb hby d1_172) rfl rfl (XS.iloadN X53.here hx rfl (hb hby d1_173) rfl (XS.iconst X53.here hx rfl (hb hby d1_174) (XS.iadd X53.here hx rfl (hb hby d1_175) rfl (by show Steps p.tables e below (T53.setTop (mkF m 176 #[sr a1, si (Int32.ofNat cs.length), si p3, si (p3 &&& (7 : Int32)), si (own_ct (((p3.toUInt32 >>> ((3 : Int32) &&& 31).toUInt32).toInt32) &&& (255 : Int32))), si ((((p3.toUInt32 >>> ((11 : Int32) &&& 31).toUInt32).toInt32) &&& (255 : Int32)).toUInt32.toUInt16.toUInt32.toInt32)] [(.int ((Int32.ofNat cs.length) + (3 : Int32))), (.ref a1)])) t; rw [show Int32.ofNat cs.length + (3 : Int32) = Int32.ofNat (cs.length + 3) from oj_add cs.length 3]; exact (XS.bipush X53.here hx rfl (hb hby d1_176) k))))))) ?_
       obtain ⟨cl56, Ar56, q56, S56, M56, H56, G56⟩ := id V53
       have hin56 : ¬ ((Int32.ofNat (cs.length + 3)) < 0 ∨ cl56.slots.size ≤ ((Int32.ofNat (cs.length + 3))).toNatClampNeg) := oj_in (n := 14) S56 rfl (by omega) (by omega)
       obtain ⟨T56, h56, X56, e56, W56, st56⟩ := stC X53 hx hZ e53 Ar56 (j := (Int32.ofNat (cs.length + 3))) hin56 (g := (mkF m 178 #[sr a1, si (Int32.ofNat cs.length), si p3, si (p3 &&& (7 : Int32)), si (own_ct (((p3.toUInt32 >>> ((3 : Int32) &&& 31).toUInt32).toInt32) &&& (255 : Int32))), si ((((p3.toUInt32 >>> ((11 : Int32) &&& 31).toUInt32).toInt32) &&& (255 : Int32)).toUInt32.toUInt16.toUInt32.toInt32)] [(.int 41), (.int (Int32.ofNat (cs.length + 3))), (.ref a1)])) rfl rfl (hb hby d1_178)
       have V56 : Arv Z h56 a1 kC .char (14 : Int32) ((cs ++ [(40 : Int32), (40 : Int32), (41 : Int32), (41 : Int32)]).map Value.int) (.int 0) := by
        have q := arvSnoc Ar56 q56 S56 M56 H56 G56 (fits_nar_char _) W56 (by rw [oj_n (by omega)]; simp)
        rw [(by decide : nar .char (41 : Int32) = (41 : Int32))] at q; have e : ((cs ++ [(40 : Int32), (40 : Int32), (41 : Int32)]).map Value.int) ++ [Value.int (41 : Int32)] = ((cs ++ [(40 : Int32), (40 : Int32), (41 : Int32), (41 : Int32)]).map Value.int) := (by simp); rw [e] at q; exact q
       have K57 : Keep h0 h56 [a1] := K54.wr W56 (Or.inl (List.mem_of_getElem? (i := 0) rfl))
       have N58 := Fr.snoc X56 N55 hp1
       refine go (S' := T56.setTop (mkF m 182 #[sr a1, si (Int32.ofNat cs.length), si p3, si (p3 &&& (7 : Int32)), si (own_ct (((p3.toUInt32 >>> ((3 : Int32) &&& 31).toUInt32).toInt32) &&& (255 : Int32))), si ((((p3.toUInt32 >>> ((11 : Int32) &&& 31).toUInt32).toInt32) &&& (255 : Int32)).toUInt32.toUInt16.toUInt32.toInt32)] [(.int (Int32.ofNat (cs.length + 4)))])) (fun t k => st56 _ (XS.iloadN X56.here hx rfl (hb hby d1_179) rfl (XS.iconst X56.here hx rfl (hb hby d1_180) (XS.iadd X56.here hx rfl (hb hby d1_181) rfl (by show Steps p.tables e below (T56.setTop (mkF m 182 #[sr a1, si (Int32.ofNat cs.length), si p3, si (p3 &&& (7 : Int32)), si (own_ct (((p3.toUInt32 >>> ((3 : Int32) &&& 31).toUInt32).toInt32) &&& (255 : Int32))), si ((((p3.toUInt32 >>> ((11 : Int32) &&& 31).toUInt32).toInt32) &&& (255 : Int32)).toUInt32.toUInt16.toUInt32.toInt32)] [(.int ((Int32.ofNat cs.length) + (4 : Int32)))])) t; rw [show Int32.ofNat cs.length + (4 : Int32) = Int32.ofNat (cs.length + 4) from oj_add cs.length 4]; exact k))))) ?_
       refine finI X56 hx hk hret (hb hby d1_182) (by decide) (by decide) ?_
       have hb_ : own_blk p3 = [(40 : Int32), (40 : Int32), (41 : Int32), (41 : Int32)] := by rw [own_blk, if_neg hc5, if_neg hc9, if_neg hc16, if_neg hc26, if_neg hc39, if_pos hc46]
       rw [e56]
       refine ⟨?_, N58, K57, ?_⟩
       · rw [hb_, List.length_append]; rfl
       · rw [hb_]; exact V56
      ·
       refine go (S' := T4.setTop (mkF m 186 #[sr a1, si (Int32.ofNat cs.length), si p3, si (p3 &&& (7 : Int32)), si (own_ct (((p3.toUInt32 >>> ((3 : Int32) &&& 31).toUInt32).toInt32) &&& (255 : Int32))), si ((((p3.toUInt32 >>> ((11 : Int32) &&& 31).toUInt32).toInt32) &&& (255 : Int32)).toUInt32.toUInt16.toUInt32.toInt32)] [(.int 7), (.int (p3 &&& (7 : Int32)))])) (fun t k => XS.icmpYes X4.here hx rfl (pc0 := 150) (pc' := 183) rfl (hb hby d1_150) rfl (feq hc46).2 (by decide) (by decide) (XS.iloadN X4.here hx rfl (hb hby d1_183) rfl (XS.bipush X4.here hx rfl (hb hby d1_184) k))) ?_
       by_cases hc59 : (p3 &&& (7 : Int32)) = (7 : Int32)
       ·
        refine go (S' := T4.setTop (mkF m 193 #[sr a1, si (Int32.ofNat cs.length), si p3, si (p3 &&& (7 : Int32)), si (own_ct (((p3.toUInt32 >>> ((3 : Int32) &&& 31).toUInt32).toInt32) &&& (255 : Int32))), si ((((p3.toUInt32 >>> ((11 : Int32) &&& 31).toUInt32).toInt32) &&& (255 : Int32)).toUInt32.toUInt16.toUInt32.toInt32)] [(.int (own_ct (((p3.toUInt32 >>> ((3 : Int32) &&& 31).toUInt32).toInt32) &&& (255 : Int32)))), (.int (Int32.ofNat cs.length)), (.ref a1)])) (fun t k => XS.icmpNo X4.here hx rfl (hb hby d1_186) rfl (teq hc59).2 (XS.aloadN X4.here hx rfl (hb hby d1_189) rfl rfl (XS.iloadN X4.here hx rfl (hb hby d1_190) rfl (XS.iload X4.here hx rfl (hb hby d1_191) rfl k)))) ?_
        obtain ⟨cl60, Ar60, q60, S60, M60, H60, G60⟩ := id hp0
        have hin60 : ¬ ((Int32.ofNat cs.length) < 0 ∨ cl60.slots.size ≤ ((Int32.ofNat cs.length)).toNatClampNeg) := oj_in (n := 14) S60 rfl (by omega) (by omega)
        obtain ⟨T60, h60, X60, e60, W60, st60⟩ := stC X4 hx hZ e4 Ar60 (j := (Int32.ofNat cs.length)) hin60 (g := (mkF m 193 #[sr a1, si (Int32.ofNat cs.length), si p3, si (p3 &&& (7 : Int32)), si (own_ct (((p3.toUInt32 >>> ((3 : Int32) &&& 31).toUInt32).toInt32) &&& (255 : Int32))), si ((((p3.toUInt32 >>> ((11 : Int32) &&& 31).toUInt32).toInt32) &&& (255 : Int32)).toUInt32.toUInt16.toUInt32.toInt32)] [(.int (own_ct (((p3.toUInt32 >>> ((3 : Int32) &&& 31).toUInt32).toInt32) &&& (255 : Int32)))), (.int (Int32.ofNat cs.length)), (.ref a1)])) rfl rfl (hb hby d1_193)
        have V60 : Arv Z h60 a1 kC .char (14 : Int32) ((cs ++ [(own_ct (((p3.toUInt32 >>> ((3 : Int32) &&& 31).toUInt32).toInt32) &&& (255 : Int32)))]).map Value.int) (.int 0) := by
         have q := arvSnoc Ar60 q60 S60 M60 H60 G60 (fits_nar_char _) W60 (by rw [oj_n (by omega)]; simp)
         rw [(own_lat16 (own_ct_lat _ (by first | exact (own_m255 _).1 | exact (own_m255c _).1) (by first | exact (own_m255 _).2 | exact (own_m255c _).2)) : nar .char (own_ct (((p3.toUInt32 >>> ((3 : Int32) &&& 31).toUInt32).toInt32) &&& (255 : Int32))) = (own_ct (((p3.toUInt32 >>> ((3 : Int32) &&& 31).toUInt32).toInt32) &&& (255 : Int32))))] at q; have e : (cs.map Value.int) ++ [Value.int (own_ct (((p3.toUInt32 >>> ((3 : Int32) &&& 31).toUInt32).toInt32) &&& (255 : Int32)))] = ((cs ++ [(own_ct (((p3.toUInt32 >>> ((3 : Int32) &&& 31).toUInt32).toInt32) &&& (255 : Int32)))]).map Value.int) := (by simp); rw [e] at q; exact q
        have K61 : Keep h0 h60 [a1] := K0.wr W60 (Or.inl (List.mem_of_getElem? (i := 0) rfl))
        have N62 := Fr.snoc X60 N4 hp1
        refine go (S' := T60.setTop (mkF m 200 #[sr a1, si (Int32.ofNat cs.length), si p3, si (p3 &&& (7 : Int32)), si (own_ct (((p3.toUInt32 >>> ((3 : Int32) &&& 31).toUInt32).toInt32) &&& (255 : Int32))), si ((((p3.toUInt32 >>> ((11 : Int32) &&& 31).toUInt32).toInt32) &&& (255 : Int32)).toUInt32.toUInt16.toUInt32.toInt32)] [(.int ((((p3.toUInt32 >>> ((11 : Int32) &&& 31).toUInt32).toInt32) &&& (255 : Int32)).toUInt32.toUInt16.toUInt32.toInt32)), (.int (Int32.ofNat (cs.length + 1))), (.ref a1)])) (fun t k => st60 _ (XS.aloadN X60.here hx rfl (hb hby d1_194) rfl rfl (XS.iloadN X60.here hx rfl (hb hby d1_195) rfl (XS.iconst X60.here hx rfl (hb hby d1_196) (XS.iadd X60.here hx rfl (hb hby d1_197) rfl (by show Steps p.tables e below (T60.setTop (mkF m 198 #[sr a1, si (Int32.ofNat cs.length), si p3, si (p3 &&& (7 : Int32)), si (own_ct (((p3.toUInt32 >>> ((3 : Int32) &&& 31).toUInt32).toInt32) &&& (255 : Int32))), si ((((p3.toUInt32 >>> ((11 : Int32) &&& 31).toUInt32).toInt32) &&& (255 : Int32)).toUInt32.toUInt16.toUInt32.toInt32)] [(.int ((Int32.ofNat cs.length) + (1 : Int32))), (.ref a1)])) t; rw [show Int32.ofNat cs.length + (1 : Int32) = Int32.ofNat (cs.length + 1) from oj_add cs.length 1]; exact (XS.iload X60.here hx rfl (hb hby d1_198) rfl k))))))) ?_
        obtain ⟨v63, T63, L63, X63, hQ63, st63⟩ := callSt X60 hx hZ (y := y_0) hown (ww hw 5 rfl) (ww hw 6 rfl) (ww hw 3 rfl) (ww hw 7 rfl) (by decide) (backOf (W := 2) (rmCt l Z a0 hw [] ((((p3.toUInt32 >>> ((11 : Int32) &&& 31).toUInt32).toInt32) &&& (255 : Int32)).toUInt32.toUInt16.toUInt32.toInt32) h60 n0 (Nat.le_trans Z0 K61.1) ) hZ (ww hw 7 rfl) (ww hw 3 rfl) (by decide) (by decide)) (g := (mkF m 200 #[sr a1, si (Int32.ofNat cs.length), si p3, si (p3 &&& (7 : Int32)), si (own_ct (((p3.toUInt32 >>> ((3 : Int32) &&& 31).toUInt32).toInt32) &&& (255 : Int32))), si ((((p3.toUInt32 >>> ((11 : Int32) &&& 31).toUInt32).toInt32) &&& (255 : Int32)).toUInt32.toUInt16.toUInt32.toInt32)] [(.int ((((p3.toUInt32 >>> ((11 : Int32) &&& 31).toUInt32).toInt32) &&& (255 : Int32)).toUInt32.toUInt16.toUInt32.toInt32)), (.int (Int32.ofNat (cs.length + 1))), (.ref a1)])) rfl (by rw [hml]; rfl) (kc := 0) (ks := 0) (argsL := [(.int ((((p3.toUInt32 >>> ((11 : Int32) &&& 31).toUInt32).toInt32) &&& (255 : Int32)).toUInt32.toUInt16.toUInt32.toInt32))]) (rest := [(.int (Int32.ofNat (cs.length + 1))), (.ref a1)]) (lenOf pd_0 rfl) rfl (mr0 rfl) (hb hby d1_200) e60 (by decide) (by decide)
        obtain ⟨rfl, N63q, e63⟩ := hQ63
        have N63 := Fr.app N62 N63q
        refine go (S' := T63.setTop (mkF m 203 #[sr a1, si (Int32.ofNat cs.length), si p3, si (p3 &&& (7 : Int32)), si (own_ct (((p3.toUInt32 >>> ((3 : Int32) &&& 31).toUInt32).toInt32) &&& (255 : Int32))), si ((((p3.toUInt32 >>> ((11 : Int32) &&& 31).toUInt32).toInt32) &&& (255 : Int32)).toUInt32.toUInt16.toUInt32.toInt32)] [(.int (own_ct ((((p3.toUInt32 >>> ((11 : Int32) &&& 31).toUInt32).toInt32) &&& (255 : Int32)).toUInt32.toUInt16.toUInt32.toInt32))), (.int (Int32.ofNat (cs.length + 1))), (.ref a1)])) st63 ?_
        obtain ⟨cl64, Ar64, q64, S64, M64, H64, G64⟩ := id V60
        have hin64 : ¬ ((Int32.ofNat (cs.length + 1)) < 0 ∨ cl64.slots.size ≤ ((Int32.ofNat (cs.length + 1))).toNatClampNeg) := oj_in (n := 14) S64 rfl (by omega) (by omega)
        obtain ⟨T64, h64, X64, e64, W64, st64⟩ := stC X63 hx hZ e63 Ar64 (j := (Int32.ofNat (cs.length + 1))) hin64 (g := (mkF m 203 #[sr a1, si (Int32.ofNat cs.length), si p3, si (p3 &&& (7 : Int32)), si (own_ct (((p3.toUInt32 >>> ((3 : Int32) &&& 31).toUInt32).toInt32) &&& (255 : Int32))), si ((((p3.toUInt32 >>> ((11 : Int32) &&& 31).toUInt32).toInt32) &&& (255 : Int32)).toUInt32.toUInt16.toUInt32.toInt32)] [(.int (own_ct ((((p3.toUInt32 >>> ((11 : Int32) &&& 31).toUInt32).toInt32) &&& (255 : Int32)).toUInt32.toUInt16.toUInt32.toInt32))), (.int (Int32.ofNat (cs.length + 1))), (.ref a1)])) rfl rfl (hb hby d1_203)
        have V64 : Arv Z h64 a1 kC .char (14 : Int32) ((cs ++ [(own_ct (((p3.toUInt32 >>> ((3 : Int32) &&& 31).toUInt32).toInt32) &&& (255 : Int32))), (own_ct ((((p3.toUInt32 >>> ((11 : Int32) &&& 31).toUInt32).toInt32) &&& (255 : Int32)).toUInt32.toUInt16.toUInt32.toInt32))]).map Value.int) (.int 0) := by
         have q := arvSnoc Ar64 q64 S64 M64 H64 G64 (fits_nar_char _) W64 (by rw [oj_n (by omega)]; simp)
         rw [(own_lat16 (own_ct_lat _ (by first | exact (own_m255 _).1 | exact (own_m255c _).1) (by first | exact (own_m255 _).2 | exact (own_m255c _).2)) : nar .char (own_ct ((((p3.toUInt32 >>> ((11 : Int32) &&& 31).toUInt32).toInt32) &&& (255 : Int32)).toUInt32.toUInt16.toUInt32.toInt32)) = (own_ct ((((p3.toUInt32 >>> ((11 : Int32) &&& 31).toUInt32).toInt32) &&& (255 : Int32)).toUInt32.toUInt16.toUInt32.toInt32)))] at q; have e : ((cs ++ [(own_ct (((p3.toUInt32 >>> ((3 : Int32) &&& 31).toUInt32).toInt32) &&& (255 : Int32)))]).map Value.int) ++ [Value.int (own_ct ((((p3.toUInt32 >>> ((11 : Int32) &&& 31).toUInt32).toInt32) &&& (255 : Int32)).toUInt32.toUInt16.toUInt32.toInt32))] = ((cs ++ [(own_ct (((p3.toUInt32 >>> ((3 : Int32) &&& 31).toUInt32).toInt32) &&& (255 : Int32))), (own_ct ((((p3.toUInt32 >>> ((11 : Int32) &&& 31).toUInt32).toInt32) &&& (255 : Int32)).toUInt32.toUInt16.toUInt32.toInt32))]).map Value.int) := (by simp); rw [e] at q; exact q
        have K65 : Keep h0 h64 [a1] := K61.wr W64 (Or.inl (List.mem_of_getElem? (i := 0) rfl))
        have N66 := Fr.snoc X64 N63 hp1
        refine go (S' := T64.setTop (mkF m 207 #[sr a1, si (Int32.ofNat cs.length), si p3, si (p3 &&& (7 : Int32)), si (own_ct (((p3.toUInt32 >>> ((3 : Int32) &&& 31).toUInt32).toInt32) &&& (255 : Int32))), si ((((p3.toUInt32 >>> ((11 : Int32) &&& 31).toUInt32).toInt32) &&& (255 : Int32)).toUInt32.toUInt16.toUInt32.toInt32)] [(.int (Int32.ofNat (cs.length + 2)))])) (fun t k => st64 _ (XS.iloadN X64.here hx rfl (hb hby d1_204) rfl (XS.iconst X64.here hx rfl (hb hby d1_205) (XS.iadd X64.here hx rfl (hb hby d1_206) rfl (by show Steps p.tables e below (T64.setTop (mkF m 207 #[sr a1, si (Int32.ofNat cs.length), si p3, si (p3 &&& (7 : Int32)), si (own_ct (((p3.toUInt32 >>> ((3 : Int32) &&& 31).toUInt32).toInt32) &&& (255 : Int32))), si ((((p3.toUInt32 >>> ((11 : Int32) &&& 31).toUInt32).toInt32) &&& (255 : Int32)).toUInt32.toUInt16.toUInt32.toInt32)] [(.int ((Int32.ofNat cs.length) + (2 : Int32)))])) t; rw [show Int32.ofNat cs.length + (2 : Int32) = Int32.ofNat (cs.length + 2) from oj_add cs.length 2]; exact k))))) ?_
        refine finI X64 hx hk hret (hb hby d1_207) (by decide) (by decide) ?_
        have hb_ : own_blk p3 = [(own_ct (((p3.toUInt32 >>> ((3 : Int32) &&& 31).toUInt32).toInt32) &&& (255 : Int32))), (own_ct ((((p3.toUInt32 >>> ((11 : Int32) &&& 31).toUInt32).toInt32) &&& (255 : Int32)).toUInt32.toUInt16.toUInt32.toInt32))] := by rw [own_blk, if_neg hc5, if_neg hc9, if_neg hc16, if_neg hc26, if_neg hc39, if_neg hc46, if_pos hc59]
        rw [e64]
        refine ⟨?_, N66, K65, ?_⟩
        · rw [hb_, List.length_append]; rfl
        · rw [hb_]; exact V64
       ·
        refine go (S' := T4.setTop (mkF m 209 #[sr a1, si (Int32.ofNat cs.length), si p3, si (p3 &&& (7 : Int32)), si (own_ct (((p3.toUInt32 >>> ((3 : Int32) &&& 31).toUInt32).toInt32) &&& (255 : Int32))), si ((((p3.toUInt32 >>> ((11 : Int32) &&& 31).toUInt32).toInt32) &&& (255 : Int32)).toUInt32.toUInt16.toUInt32.toInt32)] [(.int (Int32.ofNat cs.length))])) (fun t k => XS.icmpYes X4.here hx rfl (pc0 := 186) (pc' := 208) rfl (hb hby d1_186) rfl (feq hc59).2 (by decide) (by decide) (XS.iloadN X4.here hx rfl (hb hby d1_208) rfl k)) ?_
        refine finI X4 hx hk hret (hb hby d1_209) (by decide) (by decide) ?_
        have hb_ : own_blk p3 = [] := by rw [own_blk, if_neg hc5, if_neg hc9, if_neg hc16, if_neg hc26, if_neg hc39, if_neg hc46, if_neg hc59]
        rw [e4]
        refine ⟨?_, N4, K0, ?_⟩
        · rw [hb_, List.length_append]; rfl
        · rw [hb_]; rw [List.append_nil]; exact hp0
theorem oj_sub {a b : Nat} (h : ¬ a < b) (ha : a ≤ 8000) : Int32.ofNat a - Int32.ofNat b = Int32.ofNat (a - b) := by
  have q := c_isub (Int32.ofNat a) (Int32.ofNat b)
  have r := rng32 (Int32.ofNat a - Int32.ofNat b)
  rw [Int32.toInt_ofNat_of_lt (by omega), Int32.toInt_ofNat_of_lt (by omega)] at q
  apply Int32.toInt_inj.mp
  rw [Int32.toInt_ofNat_of_lt (by omega)]
  omega
theorem d3_0 : decode method_3_code 0 = .ok (.iload_n 0, 1) := by decide +kernel
theorem d3_1 : decode method_3_code 1 = .ok (.iload_n 1, 1) := by decide +kernel
theorem d3_2 : decode method_3_code 2 = .ok (.if_icmp .ge 15, 3) := by decide +kernel
theorem d3_5 : decode method_3_code 5 = .ok (.iload_n 2, 1) := by decide +kernel
theorem d3_6 : decode method_3_code 6 = .ok (.bipush 8, 2) := by decide +kernel
theorem d3_8 : decode method_3_code 8 = .ok (.iload_n 0, 1) := by decide +kernel
theorem d3_9 : decode method_3_code 9 = .ok (.imul, 1) := by decide +kernel
theorem d3_10 : decode method_3_code 10 = .ok (.iushr, 1) := by decide +kernel
theorem d3_11 : decode method_3_code 11 = .ok (.sipush 255, 3) := by decide +kernel
theorem d3_14 : decode method_3_code 14 = .ok (.iand, 1) := by decide +kernel
theorem d3_15 : decode method_3_code 15 = .ok (.i2c, 1) := by decide +kernel
theorem d3_16 : decode method_3_code 16 = .ok (.ireturn, 1) := by decide +kernel
theorem d3_17 : decode method_3_code 17 = .ok (.iload_n 0, 1) := by decide +kernel
theorem d3_18 : decode method_3_code 18 = .ok (.iload_n 1, 1) := by decide +kernel
theorem d3_19 : decode method_3_code 19 = .ok (.isub, 1) := by decide +kernel
theorem d3_20 : decode method_3_code 20 = .ok (.istore 8, 2) := by decide +kernel
theorem d3_22 : decode method_3_code 22 = .ok (.iload 8, 2) := by decide +kernel
theorem d3_24 : decode method_3_code 24 = .ok (.iload 4, 2) := by decide +kernel
theorem d3_26 : decode method_3_code 26 = .ok (.if_icmp .ge 8, 3) := by decide +kernel
theorem d3_29 : decode method_3_code 29 = .ok (.aload_n 3, 1) := by decide +kernel
theorem d3_30 : decode method_3_code 30 = .ok (.iload 8, 2) := by decide +kernel
theorem d3_32 : decode method_3_code 32 = .ok (.caload, 1) := by decide +kernel
theorem d3_33 : decode method_3_code 33 = .ok (.ireturn, 1) := by decide +kernel
theorem d3_34 : decode method_3_code 34 = .ok (.iload 5, 2) := by decide +kernel
theorem d3_36 : decode method_3_code 36 = .ok (.bipush 8, 2) := by decide +kernel
theorem d3_38 : decode method_3_code 38 = .ok (.iload_n 0, 1) := by decide +kernel
theorem d3_39 : decode method_3_code 39 = .ok (.iconst 3, 1) := by decide +kernel
theorem d3_40 : decode method_3_code 40 = .ok (.iand, 1) := by decide +kernel
theorem d3_41 : decode method_3_code 41 = .ok (.imul, 1) := by decide +kernel
theorem d3_42 : decode method_3_code 42 = .ok (.iushr, 1) := by decide +kernel
theorem d3_43 : decode method_3_code 43 = .ok (.sipush 255, 3) := by decide +kernel
theorem d3_46 : decode method_3_code 46 = .ok (.iand, 1) := by decide +kernel
theorem d3_47 : decode method_3_code 47 = .ok (.i2c, 1) := by decide +kernel
theorem d3_48 : decode method_3_code 48 = .ok (.istore 9, 2) := by decide +kernel
theorem d3_50 : decode method_3_code 50 = .ok (.iload 6, 2) := by decide +kernel
theorem d3_52 : decode method_3_code 52 = .ok (.ifCond .eq 6, 3) := by decide +kernel
theorem d3_58 : decode method_3_code 58 = .ok (.iload_n 0, 1) := by decide +kernel
theorem d3_59 : decode method_3_code 59 = .ok (.bipush 15, 2) := by decide +kernel
theorem d3_61 : decode method_3_code 61 = .ok (.if_icmp .ne 11, 3) := by decide +kernel
theorem d3_64 : decode method_3_code 64 = .ok (.iload 7, 2) := by decide +kernel
theorem d3_66 : decode method_3_code 66 = .ok (.ifCond .eq 6, 3) := by decide +kernel
theorem d3_72 : decode method_3_code 72 = .ok (.iload 9, 2) := by decide +kernel
theorem d3_74 : decode method_3_code 74 = .ok (.invokestatic 28, 3) := by decide +kernel
theorem d3_77 : decode method_3_code 77 = .ok (.ireturn, 1) := by decide +kernel
theorem d3_69 : decode method_3_code 69 = .ok (.bipush 92, 2) := by decide +kernel
theorem d3_71 : decode method_3_code 71 = .ok (.ireturn, 1) := by decide +kernel
theorem d3_55 : decode method_3_code 55 = .ok (.iload 9, 2) := by decide +kernel
theorem d3_57 : decode method_3_code 57 = .ok (.ireturn, 1) := by decide +kernel
abbrev y_2 : MethodName := ⟨"com/example/kuvert/kuvert/mime/HeadingCommentEndPinLaw", "cell", "(III[CIIZZ)C"⟩
theorem pn_2 : plainFor y_2 = true := by first | exact plainFor_of_name (by first | (simp [plainName, overriddenIn]; done) | decide +kernel) | decide +kernel
theorem ef_rmCell (m : MethodId) (p3 : Int32) (a4 : Addr) (p6 : Int32) (p7 : Int32) (p8 : Int32) (j : Nat) (pl : Nat) (lim : Nat) : entryFrame m #[(.int (Int32.ofNat j)), (.int (Int32.ofNat pl)), (.int p3), (.ref a4), (.int (Int32.ofNat lim)), (.int p6), (.int p7), (.int p8)] 10 = mkF m 0 #[si (Int32.ofNat j), si (Int32.ofNat pl), si p3, sr a4, si (Int32.ofNat lim), si p6, si p7, si p8, .unset, .unset] [] := by first | (simp [entryFrame, mkF, argsToLocals, Value.category]; done) | rfl
def Q_rmCell (Z : State) (p3 : Int32) (a4 : Addr) (p6 : Int32) (p7 : Int32) (p8 : Int32) (j : Nat) (pl : Nat) (lim : Nat) (kC : ClassId) (com : List Int32) (h0 : Heap) (n0 : Nat) (v : Option Value) (h : Heap) (L : List Loc) : Prop := ∃ (r : Int32), v = some (.int r) ∧ Fr n0 L ∧ h = h0 ∧ (own_cellP com pl lim p7 j r)
set_option maxRecDepth 65536 in
set_option maxHeartbeats 40000000 in
theorem rmCell (l : Launch) (Z : State) (a0 : Array Value) (hw : ∀ d ∈ tables_1, d.before a0 Z = true) (ws : List Jvm.Cond) (p3 : Int32) (a4 : Addr) (p6 : Int32) (p7 : Int32) (p8 : Int32) (j : Nat) (pl : Nat) (lim : Nat) (kC : ClassId) (com : List Int32) (h0 : Heap) (n0 : Nat) (Z0 : n0 ≤ h0.size) (hj : j ≤ 15) (hpl : pl ≤ 2) (hlim : lim ≤ com.length) (hcl : com.length ≤ 14) (hlat : ∀ c ∈ com, ¬ c < 0 ∧ ¬ (255 : Int32) < c) (hp5 : Arv Z h0 a4 kC .char (14 : Int32) (com.map Value.int) (.int 0)) :
    MetFree l y_2 (head1 (Jvm.Cond.code y_2 method_3_code 10 (some .char) :: ws) ({ frames := 1, cells := 0, slots := 0, locals := 13 } : Room)) (fun a U => a = #[(.int (Int32.ofNat j)), (.int (Int32.ofNat pl)), (.int p3), (.ref a4), (.int (Int32.ofNat lim)), (.int p6), (.int p7), (.int p8)] ∧ Z.Warmed39 U.vm ∧ U.heap = h0) (fun _ _ _ _ _ => True) (fun _ U o U' => ∃ v L, o = .returned v ∧ Q_rmCell Z p3 a4 p6 p7 p8 j pl lim kC com h0 n0 v U'.heap L ∧ FrameEnd U o U' L ({ frames := 1, cells := 0, slots := 0, locals := 13 } : Room).cells ({ frames := 1, cells := 0, slots := 0, locals := 13 } : Room).slots) := by
 refine bodyOf pn_2 (fun m => ef_rmCell m p3 a4 p6 p7 p8 j pl lim) ?_
 intro p e s m below meth c T0 X0 hx hby hml hown hnm hret hk hZ e0
 have N0 := Fr.nil n0
 have K0 : Keep h0 h0 [] := Keep.refl _ _
 refine go (S' := T0.setTop (mkF m 2 #[si (Int32.ofNat j), si (Int32.ofNat pl), si p3, sr a4, si (Int32.ofNat lim), si p6, si p7, si p8, .unset, .unset] [(.int (Int32.ofNat pl)), (.int (Int32.ofNat j))])) (fun t k => XS.iloadN X0.here hx rfl (hb hby d3_0) rfl (XS.iloadN X0.here hx rfl (hb hby d3_1) rfl k)) ?_
 by_cases hq1 : j < pl
 ·
  have hq1q : (Int32.ofNat j) < (Int32.ofNat pl) := oj_lt hq1 (by omega)
  refine go (S' := T0.setTop (mkF m 15 #[si (Int32.ofNat j), si (Int32.ofNat pl), si p3, sr a4, si (Int32.ofNat lim), si p6, si p7, si p8, .unset, .unset] [(.int (((p3.toUInt32 >>> (((8 : Int32) * (Int32.ofNat j)) &&& 31).toUInt32).toInt32) &&& (255 : Int32)))])) (fun t k => XS.icmpNo X0.here hx rfl (hb hby d3_2) rfl (tlt hq1q).2.1 (XS.iloadN X0.here hx rfl (hb hby d3_5) rfl (XS.bipush X0.here hx rfl (hb hby d3_6) (XS.iloadN X0.here hx rfl (hb hby d3_8) rfl (XS.imul X0.here hx rfl (hb hby d3_9) rfl (XS.iushr X0.here hx rfl (hb hby d3_10) rfl (XS.sipush X0.here hx rfl (hb hby d3_11) (XS.iand X0.here hx rfl (hb hby d3_14) rfl k)))))))) ?_
  refine go (S' := T0.setTop (mkF m 16 #[si (Int32.ofNat j), si (Int32.ofNat pl), si p3, sr a4, si (Int32.ofNat lim), si p6, si p7, si p8, .unset, .unset] [(.int ((((p3.toUInt32 >>> (((8 : Int32) * (Int32.ofNat j)) &&& 31).toUInt32).toInt32) &&& (255 : Int32)).toUInt32.toUInt16.toUInt32.toInt32))])) (fun t k => XS.i2c X0.here hx rfl (hb hby d3_15) rfl k) ?_
  refine finN X0 hx hk (t := .char) hret (by simp) (hb hby d3_16) (by decide) (by decide) ?_
  rw [e0]
  refine ⟨_, rfl, N0, rfl, ?_⟩
  rw [own_lat16 (own_c_lat _)]; exact ⟨own_c_lat _, fun q => absurd hq1 (by omega), fun q => absurd hq1 (by omega)⟩
 ·
  have hq1q : ¬ ((Int32.ofNat j) < (Int32.ofNat pl)) := oj_nlt hq1 (by omega) (by omega)
  refine go (S' := T0.setTop (mkF m 20 #[si (Int32.ofNat j), si (Int32.ofNat pl), si p3, sr a4, si (Int32.ofNat lim), si p6, si p7, si p8, .unset, .unset] [(.int ((Int32.ofNat j) - (Int32.ofNat pl)))])) (fun t k => XS.icmpYes X0.here hx rfl (pc0 := 2) (pc' := 17) rfl (hb hby d3_2) rfl (flt hq1q).2.1 (by decide) (by decide) (XS.iloadN X0.here hx rfl (hb hby d3_17) rfl (XS.iloadN X0.here hx rfl (hb hby d3_18) rfl (XS.isub X0.here hx rfl (hb hby d3_19) rfl k)))) ?_
  rw [oj_sub hq1 (by omega)]
  refine go (S' := T0.setTop (mkF m 26 #[si (Int32.ofNat j), si (Int32.ofNat pl), si p3, sr a4, si (Int32.ofNat lim), si p6, si p7, si p8, si (Int32.ofNat (j - pl)), .unset] [(.int (Int32.ofNat lim)), (.int (Int32.ofNat (j - pl)))])) (fun t k => XS.istore X0.here hx rfl (hb hby d3_20) rfl (l' := #[si (Int32.ofNat j), si (Int32.ofNat pl), si p3, sr a4, si (Int32.ofNat lim), si p6, si p7, si p8, si (Int32.ofNat (j - pl)), .unset]) rfl (XS.iload X0.here hx rfl (hb hby d3_22) rfl (XS.iload X0.here hx rfl (hb hby d3_24) rfl k))) ?_
  by_cases hq2 : j - pl < lim
  ·
   have hq2q : (Int32.ofNat (j - pl)) < (Int32.ofNat lim) := oj_lt hq2 (by omega)
   refine go (S' := T0.setTop (mkF m 32 #[si (Int32.ofNat j), si (Int32.ofNat pl), si p3, sr a4, si (Int32.ofNat lim), si p6, si p7, si p8, si (Int32.ofNat (j - pl)), .unset] [(.int (Int32.ofNat (j - pl))), (.ref a4)])) (fun t k => XS.icmpNo X0.here hx rfl (hb hby d3_26) rfl (tlt hq2q).2.1 (XS.aloadN X0.here hx rfl (hb hby d3_29) rfl rfl (XS.iload X0.here hx rfl (hb hby d3_30) rfl k))) ?_
   obtain ⟨cl67, Ar67, q67, S67, M67, H67, G67⟩ := id hp5
   have hin67 : ¬ ((Int32.ofNat (j - pl)) < 0 ∨ cl67.slots.size ≤ ((Int32.ofNat (j - pl))).toNatClampNeg) := oj_in (n := 14) S67 rfl (by omega) (by omega)
   have hat67 : cl67.slots[((Int32.ofNat (j - pl))).toNatClampNeg]? = some (.int (com.getD (j - pl) 0)) := Has.at H67 hin67 (by rw [oj_n (by omega)]; exact oj_get com (by omega) _)
   refine go (S' := T0.setTop (mkF m 33 #[si (Int32.ofNat j), si (Int32.ofNat pl), si p3, sr a4, si (Int32.ofNat lim), si p6, si p7, si p8, si (Int32.ofNat (j - pl)), .unset] [(.int (com.getD (j - pl) 0))])) (fun t k => X0.caload hx (j := (Int32.ofNat (j - pl))) (v := (.int (com.getD (j - pl) 0))) (by rw [e0]; exact Ar67.1) (State.isArrayOf_alike hZ.alike Ar67.2.1) Ar67.2.2 hin67 hat67 (g := (mkF m 32 #[si (Int32.ofNat j), si (Int32.ofNat pl), si p3, sr a4, si (Int32.ofNat lim), si p6, si p7, si p8, si (Int32.ofNat (j - pl)), .unset] [(.int (Int32.ofNat (j - pl))), (.ref a4)])) rfl rfl (hb hby d3_32) _ k) ?_
   refine finN X0 hx hk (t := .char) hret (by simp) (hb hby d3_33) (by decide) (by decide) ?_
   rw [e0]
   refine ⟨_, rfl, N0, rfl, ?_⟩
   rw [own_lat16 (hlat _ (oj_mem (by omega)))]; exact ⟨hlat _ (oj_mem (by omega)), fun _ _ => rfl, fun _ q => absurd hq2 (by omega)⟩
  ·
   have hq2q : ¬ ((Int32.ofNat (j - pl)) < (Int32.ofNat lim)) := oj_nlt hq2 (by omega) (by omega)
   refine go (S' := T0.setTop (mkF m 43 #[si (Int32.ofNat j), si (Int32.ofNat pl), si p3, sr a4, si (Int32.ofNat lim), si p6, si p7, si p8, si (Int32.ofNat (j - pl)), .unset] [(.int ((p6.toUInt32 >>> (((8 : Int32) * ((Int32.ofNat j) &&& (3 : Int32))) &&& 31).toUInt32).toInt32))])) (fun t k => XS.icmpYes X0.here hx rfl (pc0 := 26) (pc' := 34) rfl (hb hby d3_26) rfl (flt hq2q).2.1 (by decide) (by decide) (XS.iload X0.here hx rfl (hb hby d3_34) rfl (XS.bipush X0.here hx rfl (hb hby d3_36) (XS.iloadN X0.here hx rfl (hb hby d3_38) rfl (XS.iconst X0.here hx rfl (hb hby d3_39) (XS.iand X0.here hx rfl (hb hby d3_40) rfl (XS.imul X0.here hx rfl (hb hby d3_41) rfl (XS.iushr X0.here hx rfl (hb hby d3_42) rfl k)))))))) ?_
   refine go (S' := T0.setTop (mkF m 52 #[si (Int32.ofNat j), si (Int32.ofNat pl), si p3, sr a4, si (Int32.ofNat lim), si p6, si p7, si p8, si (Int32.ofNat (j - pl)), si ((((p6.toUInt32 >>> (((8 : Int32) * ((Int32.ofNat j) &&& (3 : Int32))) &&& 31).toUInt32).toInt32) &&& (255 : Int32)).toUInt32.toUInt16.toUInt32.toInt32)] [(.int p7)])) (fun t k => XS.sipush X0.here hx rfl (hb hby d3_43) (XS.iand X0.here hx rfl (hb hby d3_46) rfl (XS.i2c X0.here hx rfl (hb hby d3_47) rfl (XS.istore X0.here hx rfl (hb hby d3_48) rfl (l' := #[si (Int32.ofNat j), si (Int32.ofNat pl), si p3, sr a4, si (Int32.ofNat lim), si p6, si p7, si p8, si (Int32.ofNat (j - pl)), si ((((p6.toUInt32 >>> (((8 : Int32) * ((Int32.ofNat j) &&& (3 : Int32))) &&& 31).toUInt32).toInt32) &&& (255 : Int32)).toUInt32.toUInt16.toUInt32.toInt32)]) rfl (XS.iload X0.here hx rfl (hb hby d3_50) rfl k))))) ?_
   by_cases hc68 : p7 = (0 : Int32)
   ·
    refine go (S' := T0.setTop (mkF m 61 #[si (Int32.ofNat j), si (Int32.ofNat pl), si p3, sr a4, si (Int32.ofNat lim), si p6, si p7, si p8, si (Int32.ofNat (j - pl)), si ((((p6.toUInt32 >>> (((8 : Int32) * ((Int32.ofNat j) &&& (3 : Int32))) &&& 31).toUInt32).toInt32) &&& (255 : Int32)).toUInt32.toUInt16.toUInt32.toInt32)] [(.int 15), (.int (Int32.ofNat j))])) (fun t k => XS.ifYes X0.here hx rfl (pc0 := 52) (pc' := 58) rfl (hb hby d3_52) rfl ((if0 _ _).trans (teq hc68).1) (by decide) (by decide) (XS.iloadN X0.here hx rfl (hb hby d3_58) rfl (XS.bipush X0.here hx rfl (hb hby d3_59) k))) ?_
    by_cases hq3 : j = 15
    ·
     have hq3q : (Int32.ofNat j) = (15 : Int32) := by rw [hq3]; rfl
     refine go (S' := T0.setTop (mkF m 66 #[si (Int32.ofNat j), si (Int32.ofNat pl), si p3, sr a4, si (Int32.ofNat lim), si p6, si p7, si p8, si (Int32.ofNat (j - pl)), si ((((p6.toUInt32 >>> (((8 : Int32) * ((Int32.ofNat j) &&& (3 : Int32))) &&& 31).toUInt32).toInt32) &&& (255 : Int32)).toUInt32.toUInt16.toUInt32.toInt32)] [(.int p8)])) (fun t k => XS.icmpNo X0.here hx rfl (hb hby d3_61) rfl (teq hq3q).2 (XS.iload X0.here hx rfl (hb hby d3_64) rfl k)) ?_
     by_cases hc69 : p8 = (0 : Int32)
     ·
      refine go (S' := T0.setTop (mkF m 74 #[si (Int32.ofNat j), si (Int32.ofNat pl), si p3, sr a4, si (Int32.ofNat lim), si p6, si p7, si p8, si (Int32.ofNat (j - pl)), si ((((p6.toUInt32 >>> (((8 : Int32) * ((Int32.ofNat j) &&& (3 : Int32))) &&& 31).toUInt32).toInt32) &&& (255 : Int32)).toUInt32.toUInt16.toUInt32.toInt32)] [(.int ((((p6.toUInt32 >>> (((8 : Int32) * ((Int32.ofNat j) &&& (3 : Int32))) &&& 31).toUInt32).toInt32) &&& (255 : Int32)).toUInt32.toUInt16.toUInt32.toInt32))])) (fun t k => XS.ifYes X0.here hx rfl (pc0 := 66) (pc' := 72) rfl (hb hby d3_66) rfl ((if0 _ _).trans (teq hc69).1) (by decide) (by decide) (XS.iload X0.here hx rfl (hb hby d3_72) rfl k)) ?_
      obtain ⟨v70, T70, L70, X70, hQ70, st70⟩ := callSt X0 hx hZ (y := y_0) hown (ww hw 5 rfl) (ww hw 6 rfl) (ww hw 3 rfl) (ww hw 7 rfl) (by decide) (backOf (W := 0) (rmCt l Z a0 hw [] ((((p6.toUInt32 >>> (((8 : Int32) * ((Int32.ofNat j) &&& (3 : Int32))) &&& 31).toUInt32).toInt32) &&& (255 : Int32)).toUInt32.toUInt16.toUInt32.toInt32) h0 n0 (Nat.le_trans Z0 K0.1) ) hZ (ww hw 7 rfl) (ww hw 3 rfl) (by decide) (by decide)) (g := (mkF m 74 #[si (Int32.ofNat j), si (Int32.ofNat pl), si p3, sr a4, si (Int32.ofNat lim), si p6, si p7, si p8, si (Int32.ofNat (j - pl)), si ((((p6.toUInt32 >>> (((8 : Int32) * ((Int32.ofNat j) &&& (3 : Int32))) &&& 31).toUInt32).toInt32) &&& (255 : Int32)).toUInt32.toUInt16.toUInt32.toInt32)] [(.int ((((p6.toUInt32 >>> (((8 : Int32) * ((Int32.ofNat j) &&& (3 : Int32))) &&& 31).toUInt32).toInt32) &&& (255 : Int32)).toUInt32.toUInt16.toUInt32.toInt32))])) rfl (by rw [hml]; rfl) (kc := 0) (ks := 0) (argsL := [(.int ((((p6.toUInt32 >>> (((8 : Int32) * ((Int32.ofNat j) &&& (3 : Int32))) &&& 31).toUInt32).toInt32) &&& (255 : Int32)).toUInt32.toUInt16.toUInt32.toInt32))]) (rest := []) (lenOf pd_0 rfl) rfl (mr0 rfl) (hb hby d3_74) e0 (by decide) (by decide)
      obtain ⟨rfl, N70q, e70⟩ := hQ70
      have N70 := Fr.app N0 N70q
      refine go (S' := T70.setTop (mkF m 77 #[si (Int32.ofNat j), si (Int32.ofNat pl), si p3, sr a4, si (Int32.ofNat lim), si p6, si p7, si p8, si (Int32.ofNat (j - pl)), si ((((p6.toUInt32 >>> (((8 : Int32) * ((Int32.ofNat j) &&& (3 : Int32))) &&& 31).toUInt32).toInt32) &&& (255 : Int32)).toUInt32.toUInt16.toUInt32.toInt32)] [(.int (own_ct ((((p6.toUInt32 >>> (((8 : Int32) * ((Int32.ofNat j) &&& (3 : Int32))) &&& 31).toUInt32).toInt32) &&& (255 : Int32)).toUInt32.toUInt16.toUInt32.toInt32)))])) st70 ?_
      refine finN X70 hx hk (t := .char) hret (by simp) (hb hby d3_77) (by decide) (by decide) ?_
      rw [e70]
      refine ⟨_, rfl, N70, rfl, ?_⟩
      have c0 := own_ct_no (own_c (own_ush p6 ((8 : Int32) * ((Int32.ofNat j) &&& 3)) &&& 255)) (by rw [own_c255]; exact (own_m255 _).1) (by rw [own_c255]; exact (own_m255 _).2)
      have c1 := own_ct_lat (own_c (own_ush p6 ((8 : Int32) * ((Int32.ofNat j) &&& 3)) &&& 255)) (by rw [own_c255]; exact (own_m255 _).1) (by rw [own_c255]; exact (own_m255 _).2)
      rw [own_lat16 c1]; exact ⟨c1, fun _ q => absurd q hq2, fun _ _ _ => ⟨c0.1, c0.2.1, fun q => absurd q c0.2.2⟩⟩
     ·
      refine go (S' := T0.setTop (mkF m 71 #[si (Int32.ofNat j), si (Int32.ofNat pl), si p3, sr a4, si (Int32.ofNat lim), si p6, si p7, si p8, si (Int32.ofNat (j - pl)), si ((((p6.toUInt32 >>> (((8 : Int32) * ((Int32.ofNat j) &&& (3 : Int32))) &&& 31).toUInt32).toInt32) &&& (255 : Int32)).toUInt32.toUInt16.toUInt32.toInt32)] [(.int 92)])) (fun t k => XS.ifNo X0.here hx rfl (hb hby d3_66) rfl ((if0 _ _).trans (feq hc69).1) (XS.bipush X0.here hx rfl (hb hby d3_69) k)) ?_
      refine finN X0 hx hk (t := .char) hret (by simp) (hb hby d3_71) (by decide) (by decide) ?_
      rw [e0]
      refine ⟨_, rfl, N0, rfl, ?_⟩
      exact ⟨by decide, fun _ q => absurd q hq2, fun _ _ _ => ⟨by decide, by decide, fun _ => hq3⟩⟩
    ·
     have hq3q : ¬ ((Int32.ofNat j) = (15 : Int32)) := fun q => hq3 (oj_inj (i := j) (n := 15) (by omega) (by omega) (q.trans (rfl : (15 : Int32) = Int32.ofNat 15)))
     refine go (S' := T0.setTop (mkF m 74 #[si (Int32.ofNat j), si (Int32.ofNat pl), si p3, sr a4, si (Int32.ofNat lim), si p6, si p7, si p8, si (Int32.ofNat (j - pl)), si ((((p6.toUInt32 >>> (((8 : Int32) * ((Int32.ofNat j) &&& (3 : Int32))) &&& 31).toUInt32).toInt32) &&& (255 : Int32)).toUInt32.toUInt16.toUInt32.toInt32)] [(.int ((((p6.toUInt32 >>> (((8 : Int32) * ((Int32.ofNat j) &&& (3 : Int32))) &&& 31).toUInt32).toInt32) &&& (255 : Int32)).toUInt32.toUInt16.toUInt32.toInt32))])) (fun t k => XS.icmpYes X0.here hx rfl (pc0 := 61) (pc' := 72) rfl (hb hby d3_61) rfl (feq hq3q).2 (by decide) (by decide) (XS.iload X0.here hx rfl (hb hby d3_72) rfl k)) ?_
     obtain ⟨v71, T71, L71, X71, hQ71, st71⟩ := callSt X0 hx hZ (y := y_0) hown (ww hw 5 rfl) (ww hw 6 rfl) (ww hw 3 rfl) (ww hw 7 rfl) (by decide) (backOf (W := 0) (rmCt l Z a0 hw [] ((((p6.toUInt32 >>> (((8 : Int32) * ((Int32.ofNat j) &&& (3 : Int32))) &&& 31).toUInt32).toInt32) &&& (255 : Int32)).toUInt32.toUInt16.toUInt32.toInt32) h0 n0 (Nat.le_trans Z0 K0.1) ) hZ (ww hw 7 rfl) (ww hw 3 rfl) (by decide) (by decide)) (g := (mkF m 74 #[si (Int32.ofNat j), si (Int32.ofNat pl), si p3, sr a4, si (Int32.ofNat lim), si p6, si p7, si p8, si (Int32.ofNat (j - pl)), si ((((p6.toUInt32 >>> (((8 : Int32) * ((Int32.ofNat j) &&& (3 : Int32))) &&& 31).toUInt32).toInt32) &&& (255 : Int32)).toUInt32.toUInt16.toUInt32.toInt32)] [(.int ((((p6.toUInt32 >>> (((8 : Int32) * ((Int32.ofNat j) &&& (3 : Int32))) &&& 31).toUInt32).toInt32) &&& (255 : Int32)).toUInt32.toUInt16.toUInt32.toInt32))])) rfl (by rw [hml]; rfl) (kc := 0) (ks := 0) (argsL := [(.int ((((p6.toUInt32 >>> (((8 : Int32) * ((Int32.ofNat j) &&& (3 : Int32))) &&& 31).toUInt32).toInt32) &&& (255 : Int32)).toUInt32.toUInt16.toUInt32.toInt32))]) (rest := []) (lenOf pd_0 rfl) rfl (mr0 rfl) (hb hby d3_74) e0 (by decide) (by decide)
     obtain ⟨rfl, N71q, e71⟩ := hQ71
     have N71 := Fr.app N0 N71q
     refine go (S' := T71.setTop (mkF m 77 #[si (Int32.ofNat j), si (Int32.ofNat pl), si p3, sr a4, si (Int32.ofNat lim), si p6, si p7, si p8, si (Int32.ofNat (j - pl)), si ((((p6.toUInt32 >>> (((8 : Int32) * ((Int32.ofNat j) &&& (3 : Int32))) &&& 31).toUInt32).toInt32) &&& (255 : Int32)).toUInt32.toUInt16.toUInt32.toInt32)] [(.int (own_ct ((((p6.toUInt32 >>> (((8 : Int32) * ((Int32.ofNat j) &&& (3 : Int32))) &&& 31).toUInt32).toInt32) &&& (255 : Int32)).toUInt32.toUInt16.toUInt32.toInt32)))])) st71 ?_
     refine finN X71 hx hk (t := .char) hret (by simp) (hb hby d3_77) (by decide) (by decide) ?_
     rw [e71]
     refine ⟨_, rfl, N71, rfl, ?_⟩
     have c0 := own_ct_no (own_c (own_ush p6 ((8 : Int32) * ((Int32.ofNat j) &&& 3)) &&& 255)) (by rw [own_c255]; exact (own_m255 _).1) (by rw [own_c255]; exact (own_m255 _).2)
     have c1 := own_ct_lat (own_c (own_ush p6 ((8 : Int32) * ((Int32.ofNat j) &&& 3)) &&& 255)) (by rw [own_c255]; exact (own_m255 _).1) (by rw [own_c255]; exact (own_m255 _).2)
     rw [own_lat16 c1]; exact ⟨c1, fun _ q => absurd q hq2, fun _ _ _ => ⟨c0.1, c0.2.1, fun q => absurd q c0.2.2⟩⟩
   ·
    refine go (S' := T0.setTop (mkF m 57 #[si (Int32.ofNat j), si (Int32.ofNat pl), si p3, sr a4, si (Int32.ofNat lim), si p6, si p7, si p8, si (Int32.ofNat (j - pl)), si ((((p6.toUInt32 >>> (((8 : Int32) * ((Int32.ofNat j) &&& (3 : Int32))) &&& 31).toUInt32).toInt32) &&& (255 : Int32)).toUInt32.toUInt16.toUInt32.toInt32)] [(.int ((((p6.toUInt32 >>> (((8 : Int32) * ((Int32.ofNat j) &&& (3 : Int32))) &&& 31).toUInt32).toInt32) &&& (255 : Int32)).toUInt32.toUInt16.toUInt32.toInt32))])) (fun t k => XS.ifNo X0.here hx rfl (hb hby d3_52) rfl ((if0 _ _).trans (feq hc68).1) (XS.iload X0.here hx rfl (hb hby d3_55) rfl k)) ?_
    refine finN X0 hx hk (t := .char) hret (by simp) (hb hby d3_57) (by decide) (by decide) ?_
    rw [e0]
    refine ⟨_, rfl, N0, rfl, ?_⟩
    rw [own_lat16 (own_c_lat _)]; exact ⟨own_c_lat _, fun _ q => absurd q hq2, fun _ _ q => absurd q hc68⟩
theorem d10_0 : decode prog_27_method_7_code 0 = .ok (.iconst 0, 1) := by decide +kernel
theorem d10_1 : decode prog_27_method_7_code 1 = .ok (.istore_n 2, 1) := by decide +kernel
theorem d10_2 : decode prog_27_method_7_code 2 = .ok (.iload_n 1, 1) := by decide +kernel
theorem d10_3 : decode prog_27_method_7_code 3 = .ok (.istore_n 3, 1) := by decide +kernel
theorem d10_4 : decode prog_27_method_7_code 4 = .ok (.iload_n 3, 1) := by decide +kernel
theorem d10_5 : decode prog_27_method_7_code 5 = .ok (.aload_n 0, 1) := by decide +kernel
theorem d10_6 : decode prog_27_method_7_code 6 = .ok (.invokevirtual 59, 3) := by decide +kernel
theorem pd_1 : parseMethodDescriptor "()I" = some ⟨[], some .int⟩ := by decide +kernel
abbrev y_3 : MethodName := ⟨"java/lang/String", "length", "()I"⟩
theorem d10_9 : decode prog_27_method_7_code 9 = .ok (.if_icmp .ge 58, 3) := by decide +kernel
theorem d10_67 : decode prog_27_method_7_code 67 = .ok (.iconst (-1), 1) := by decide +kernel
theorem d10_68 : decode prog_27_method_7_code 68 = .ok (.ireturn, 1) := by decide +kernel
theorem d10_12 : decode prog_27_method_7_code 12 = .ok (.aload_n 0, 1) := by decide +kernel
theorem d10_13 : decode prog_27_method_7_code 13 = .ok (.iload_n 3, 1) := by decide +kernel
theorem d10_14 : decode prog_27_method_7_code 14 = .ok (.iinc 3 1, 3) := by decide +kernel
theorem d10_17 : decode prog_27_method_7_code 17 = .ok (.invokevirtual 62, 3) := by decide +kernel
abbrev y_4 : MethodName := ⟨"java/lang/String", "charAt", "(I)C"⟩
theorem d10_20 : decode prog_27_method_7_code 20 = .ok (.istore 4, 2) := by decide +kernel
theorem d10_22 : decode prog_27_method_7_code 22 = .ok (.iload 4, 2) := by decide +kernel
theorem d10_24 : decode prog_27_method_7_code 24 = .ok (.bipush 92, 2) := by decide +kernel
theorem d10_26 : decode prog_27_method_7_code 26 = .ok (.if_icmp .ne 9, 3) := by decide +kernel
theorem d10_29 : decode prog_27_method_7_code 29 = .ok (.iinc 3 1, 3) := by decide +kernel
theorem d10_32 : decode prog_27_method_7_code 32 = .ok (.goto 32, 3) := by decide +kernel
theorem d10_64 : decode prog_27_method_7_code 64 = .ok (.goto (-60), 3) := by decide +kernel
theorem d10_35 : decode prog_27_method_7_code 35 = .ok (.iload 4, 2) := by decide +kernel
theorem d10_37 : decode prog_27_method_7_code 37 = .ok (.bipush 40, 2) := by decide +kernel
theorem d10_39 : decode prog_27_method_7_code 39 = .ok (.if_icmp .ne 9, 3) := by decide +kernel
theorem d10_42 : decode prog_27_method_7_code 42 = .ok (.iinc 2 1, 3) := by decide +kernel
theorem d10_45 : decode prog_27_method_7_code 45 = .ok (.goto 19, 3) := by decide +kernel
theorem d10_48 : decode prog_27_method_7_code 48 = .ok (.iload 4, 2) := by decide +kernel
theorem d10_50 : decode prog_27_method_7_code 50 = .ok (.bipush 41, 2) := by decide +kernel
theorem d10_52 : decode prog_27_method_7_code 52 = .ok (.if_icmp .ne 12, 3) := by decide +kernel
theorem d10_55 : decode prog_27_method_7_code 55 = .ok (.iinc 2 (-1), 3) := by decide +kernel
theorem d10_58 : decode prog_27_method_7_code 58 = .ok (.iload_n 2, 1) := by decide +kernel
theorem d10_59 : decode prog_27_method_7_code 59 = .ok (.ifCond .ne 5, 3) := by decide +kernel
theorem d10_62 : decode prog_27_method_7_code 62 = .ok (.iload_n 3, 1) := by decide +kernel
theorem d10_63 : decode prog_27_method_7_code 63 = .ok (.ireturn, 1) := by decide +kernel
abbrev y_5 : MethodName := ⟨"com/example/kuvert/kuvert/mime/Heading", "commentEnd", "(Ljava/lang/String;I)I"⟩
theorem pn_3 : plainFor y_5 = true := by first | exact plainFor_of_name (by first | (simp [plainName, overriddenIn]; done) | decide +kernel) | decide +kernel
theorem ef_rmCE (m : MethodId) (x1 : Addr) (st : Nat) : entryFrame m #[(.ref x1), (.int (Int32.ofNat st))] 5 = mkF m 0 #[sr x1, si (Int32.ofNat st), .unset, .unset, .unset] [] := by first | (simp [entryFrame, mkF, argsToLocals, Value.category]; done) | rfl
def Q_rmCE (Z : State) (x1 : Addr) (t1 : Addr) (cs : List Int32) (st : Nat) (G1 : Int32) (fm : Value) (h0 : Heap) (n0 : Nat) (v : Option Value) (h : Heap) (L : List Loc) : Prop := v = some (.int (own_scan (cs.drop st) st (0 : Int32))) ∧ Fr n0 L ∧ h = h0
set_option maxRecDepth 65536 in
set_option maxHeartbeats 40000000 in
theorem rmCE (l : Launch) (Z : State) (a0 : Array Value) (hw : ∀ d ∈ tables_1, d.before a0 Z = true) (ws : List Jvm.Cond) (x1 : Addr) (t1 : Addr) (cs : List Int32) (st : Nat) (G1 : Int32) (fm : Value) (h0 : Heap) (n0 : Nat) (Z0 : n0 ≤ h0.size) (hp0 : Str Z h0 x1 t1 (0 : Int32) cs) (hst : st ≤ cs.length) (hlc : cs.length ≤ 4000) (hfm : fm.isRef = true) (hp4 : Sta Z Z.heap "java/lang/String" "COMPACT_STRINGS" "Z" (.int G1)) (hG1 : ¬ (G1 = (0 : Int32))) (hp6 : Sta Z Z.heap "jdk/internal/util/Preconditions" "SIOOBE_FORMATTER" "Ljava/util/function/BiFunction;" fm) (hp7 : Old Z n0 h0) :
    MetFree l y_5 (head1 (Jvm.Cond.code y_5 prog_27_method_7_code 5 (some .int) :: ws) ({ frames := 4, cells := 0, slots := 0, locals := 53 } : Room)) (fun a U => a = #[(.ref x1), (.int (Int32.ofNat st))] ∧ Z.Warmed39 U.vm ∧ U.heap = h0) (fun _ _ _ _ _ => True) (fun _ U o U' => ∃ v L, o = .returned v ∧ Q_rmCE Z x1 t1 cs st G1 fm h0 n0 v U'.heap L ∧ FrameEnd U o U' L ({ frames := 4, cells := 0, slots := 0, locals := 53 } : Room).cells ({ frames := 4, cells := 0, slots := 0, locals := 53 } : Room).slots) := by
 refine bodyOf pn_3 (fun m => ef_rmCE m x1 st) ?_
 intro p e s m below meth c T0 X0 hx hby hml hown hnm hret hk hZ e0
 have N0 := Fr.nil n0
 have K0 : Keep h0 h0 [] := Keep.refl _ _
 have O0 := hp7
 refine go (S' := T0.setTop (mkF m 4 #[sr x1, si (Int32.ofNat st), si 0, si (Int32.ofNat st), .unset] [])) (fun t k => XS.iconst X0.here hx rfl (hb hby d10_0) (XS.istoreN X0.here hx rfl (hb hby d10_1) rfl (l' := #[sr x1, si (Int32.ofNat st), si 0, .unset, .unset]) rfl (XS.iloadN X0.here hx rfl (hb hby d10_2) rfl (XS.istoreN X0.here hx rfl (hb hby d10_3) rfl (l' := #[sr x1, si (Int32.ofNat st), si 0, si (Int32.ofNat st), .unset]) rfl k)))) ?_
 have loopE : ∀ (r : Nat) (i : Nat) (d : Int32) (s4 : Slot) (T : State) (locs : List Loc), (cs.length ≤ i + r) → (i ≤ cs.length + 1) → (own_scan (cs.drop i) i d = own_scan (cs.drop st) st (0 : Int32)) → (One s4) → Stand p l e ({ frames := 4, cells := 0, slots := 0, locals := 53 } : Room) s m #[(.ref x1), (.int (Int32.ofNat st))] below meth c T locs 0 0 → T.heap = h0 → Fr n0 locs → Goes p.tables e below (EndP s below (Q_rmCE Z x1 t1 cs st G1 fm h0 n0) ({ frames := 4, cells := 0, slots := 0, locals := 53 } : Room).cells ({ frames := 4, cells := 0, slots := 0, locals := 53 } : Room).slots) (T.setTop (mkF m 4 #[sr x1, si (Int32.ofNat st), si d, si (Int32.ofNat i), s4] [])) := by
  intro r
  induction r with
  | zero =>
   intro i d s4 T locs hr hi1 hinv hs4 X eT N
   have hlt : ¬ ((Int32.ofNat i) < (Int32.ofNat cs.length)) := oj_nlt (by omega) (by omega) (by omega)
   refine go (S' := T.setTop (mkF m 6 #[sr x1, si (Int32.ofNat st), si d, si (Int32.ofNat i), s4] [(.ref x1), (.int (Int32.ofNat i))])) (fun t k => XS.iloadN X.here hx rfl (hb hby d10_4) rfl (XS.aloadN X.here hx rfl (hb hby d10_5) rfl rfl k)) ?_
   have O73 : Old Z n0 h0 := O0.keep K0 all0
   obtain ⟨kb74, N274, vs74, qE74, qV74, qC74, qA74, qcd74, qbd74, ql74⟩ := id hp0
   obtain ⟨v75, T75, L75, X75, hQ75, st75⟩ := callV X hx hZ (y := y_3) (z := y_3) hown (ww hw 44 rfl) (ww hw 45 rfl) (notFace_of_selects (args := #[]) (mvT hZ (ww hw 47 rfl))) (ww hw 47 rfl) (ww hw 46 rfl) (by decide) (StrChars.Road.lenW (W := 1) hZ (own_sub StrChars_wordsLen hw) (kI := 4) (ww hw 12 rfl) qE74 qV74 qC74 qA74 qcd74 qbd74 (hp4.ext O73.2) hG1 ql74 (by decide) (by decide)) hp0.exa (g := (mkF m 6 #[sr x1, si (Int32.ofNat st), si d, si (Int32.ofNat i), s4] [(.ref x1), (.int (Int32.ofNat i))])) rfl (by rw [hml]; rfl) (Q := (fun v h' L => v = some (.int (Int32.ofNat cs.length)) ∧ L = [] ∧ h' = h0)) (kc := 0) (ks := 0) (argsL := []) (rest := [(.int (Int32.ofNat i))]) (lenOf pd_1 rfl) rfl (mr0 rfl) (hb hby d10_6) eT (by decide) (by decide)
   obtain ⟨rfl, rfl, e75⟩ := hQ75
   have N75 := Fr.app N (Fr.nil n0)
   refine go (S' := T75.setTop (mkF m 68 #[sr x1, si (Int32.ofNat st), si d, si (Int32.ofNat i), s4] [(.int (-1 : Int32))])) (fun t k => st75 _ (XS.icmpYes X75.here hx rfl (pc0 := 9) (pc' := 67) rfl (hb hby d10_9) rfl (flt hlt).2.1 (by decide) (by decide) (XS.iconst X75.here hx rfl (hb hby d10_67) k))) ?_
   refine finI X75 hx hk hret (hb hby d10_68) (by decide) (by decide) ?_
   rw [e75]
   refine ⟨?_, N75, rfl⟩
   rw [← hinv, List.drop_of_length_le (by omega)]; rfl
  | succ r ih =>
   intro i d s4 T locs hr hi1 hinv hs4 X eT N
   by_cases hil : i < cs.length
   ·
    have hlt : (Int32.ofNat i) < (Int32.ofNat cs.length) := oj_lt hil (by omega)
    rw [own_drop hil] at hinv
    refine go (S' := T.setTop (mkF m 6 #[sr x1, si (Int32.ofNat st), si d, si (Int32.ofNat i), s4] [(.ref x1), (.int (Int32.ofNat i))])) (fun t k => XS.iloadN X.here hx rfl (hb hby d10_4) rfl (XS.aloadN X.here hx rfl (hb hby d10_5) rfl rfl k)) ?_
    have O76 : Old Z n0 h0 := O0.keep K0 all0
    obtain ⟨kb77, N277, vs77, qE77, qV77, qC77, qA77, qcd77, qbd77, ql77⟩ := id hp0
    obtain ⟨v78, T78, L78, X78, hQ78, st78⟩ := callV X hx hZ (y := y_3) (z := y_3) hown (ww hw 44 rfl) (ww hw 45 rfl) (notFace_of_selects (args := #[]) (mvT hZ (ww hw 47 rfl))) (ww hw 47 rfl) (ww hw 46 rfl) (by decide) (StrChars.Road.lenW (W := 1) hZ (own_sub StrChars_wordsLen hw) (kI := 4) (ww hw 12 rfl) qE77 qV77 qC77 qA77 qcd77 qbd77 (hp4.ext O76.2) hG1 ql77 (by decide) (by decide)) hp0.exa (g := (mkF m 6 #[sr x1, si (Int32.ofNat st), si d, si (Int32.ofNat i), s4] [(.ref x1), (.int (Int32.ofNat i))])) rfl (by rw [hml]; rfl) (Q := (fun v h' L => v = some (.int (Int32.ofNat cs.length)) ∧ L = [] ∧ h' = h0)) (kc := 0) (ks := 0) (argsL := []) (rest := [(.int (Int32.ofNat i))]) (lenOf pd_1 rfl) rfl (mr0 rfl) (hb hby d10_6) eT (by decide) (by decide)
    obtain ⟨rfl, rfl, e78⟩ := hQ78
    have N78 := Fr.app N (Fr.nil n0)
    refine go (S' := T78.setTop (mkF m 17 #[sr x1, si (Int32.ofNat st), si d, si (Int32.ofNat (i + 1)), s4] [(.int (Int32.ofNat i)), (.ref x1)])) (fun t k => st78 _ (XS.icmpNo X78.here hx rfl (hb hby d10_9) rfl (tlt hlt).2.1 (XS.aloadN X78.here hx rfl (hb hby d10_12) rfl rfl (XS.iloadN X78.here hx rfl (hb hby d10_13) rfl (XS.iinc X78.here hx rfl (hb hby d10_14) rfl (l' := #[sr x1, si (Int32.ofNat st), si d, si ((Int32.ofNat i) + (1 : Int32)), s4]) rfl (by show Steps p.tables e below (T78.setTop (mkF m 17 #[sr x1, si (Int32.ofNat st), si d, si ((Int32.ofNat i) + (1 : Int32)), s4] [(.int (Int32.ofNat i)), (.ref x1)])) t; rw [show Int32.ofNat i + (1 : Int32) = Int32.ofNat (i + 1) from oj_add i 1]; exact k)))))) ?_
    obtain ⟨kb79, N279, vs79, qE79, qV79, qC79, qA79, qcd79, qbd79, ql79⟩ := id hp0
    obtain ⟨v80, T80, L80, X80, hQ80, st80⟩ := callV X78 hx hZ (y := y_4) (z := y_4) hown (ww hw 54 rfl) (ww hw 55 rfl) (notFace_of_selects (args := #[]) (mvT hZ (ww hw 57 rfl))) (ww hw 57 rfl) (ww hw 56 rfl) (by decide) (StrChars.Road.chN (W := 0) hZ (own_sub StrChars_wordsChN hw) (kI := 4) (ww hw 12 rfl) qE79 qV79 qC79 qA79 qcd79 qbd79 (hp4.ext O76.2) hG1 (hp6.ext O76.2) hfm ql79 (i := i) hil (j := (Int32.ofNat i)) rfl (by decide) (by decide)) hp0.exa (g := (mkF m 17 #[sr x1, si (Int32.ofNat st), si d, si (Int32.ofNat (i + 1)), s4] [(.int (Int32.ofNat i)), (.ref x1)])) rfl (by rw [hml]; rfl) (Q := (fun v h' L => v = some (.int (cs.getD i 0)) ∧ L = [] ∧ h' = h0)) (kc := 0) (ks := 0) (argsL := [(.int (Int32.ofNat i))]) (rest := []) (lenOf pd_0 rfl) rfl (mr0 rfl) (hb hby d10_17) e78 (by decide) (by decide)
    obtain ⟨rfl, rfl, e80⟩ := hQ80
    have N80 := Fr.app N78 (Fr.nil n0)
    refine go (S' := T80.setTop (mkF m 26 #[sr x1, si (Int32.ofNat st), si d, si (Int32.ofNat (i + 1)), si (cs.getD i 0)] [(.int 92), (.int (cs.getD i 0))])) (fun t k => st80 _ (XS.istore X80.here hx rfl (hb hby d10_20) rfl (l' := #[sr x1, si (Int32.ofNat st), si d, si (Int32.ofNat (i + 1)), si (cs.getD i 0)]) (XS.store1 rfl hs4 rfl) (XS.iload X80.here hx rfl (hb hby d10_22) rfl (XS.bipush X80.here hx rfl (hb hby d10_24) k)))) ?_
    by_cases hc81 : (cs.getD i 0) = (92 : Int32)
    ·
     refine go (S' := T80.setTop (mkF m 4 #[sr x1, si (Int32.ofNat st), si d, si (Int32.ofNat ((i + 1) + 1)), si (cs.getD i 0)] [])) (fun t k => XS.icmpNo X80.here hx rfl (hb hby d10_26) rfl (teq hc81).2 (XS.iinc X80.here hx rfl (hb hby d10_29) rfl (l' := #[sr x1, si (Int32.ofNat st), si d, si ((Int32.ofNat (i + 1)) + (1 : Int32)), si (cs.getD i 0)]) rfl (by show Steps p.tables e below (T80.setTop (mkF m 32 #[sr x1, si (Int32.ofNat st), si d, si ((Int32.ofNat (i + 1)) + (1 : Int32)), si (cs.getD i 0)] [])) t; rw [show Int32.ofNat (i + 1) + (1 : Int32) = Int32.ofNat ((i + 1) + 1) from oj_add (i + 1) 1]; exact (XS.goto X80.here hx rfl (pc0 := 32) (pc' := 64) rfl (hb hby d10_32) (by decide) (by decide) (XS.goto X80.here hx rfl (pc0 := 64) (pc' := 4) rfl (hb hby d10_64) (by decide) (by decide) k))))) ?_
     exact ih ((i + 1) + 1) d _ _ _ (by omega) (by omega) (by rw [← hinv, hc81, own_scan_bs, List.tail_drop]) (One.val rfl) X80 e80 N80
    ·
     refine go (S' := T80.setTop (mkF m 39 #[sr x1, si (Int32.ofNat st), si d, si (Int32.ofNat (i + 1)), si (cs.getD i 0)] [(.int 40), (.int (cs.getD i 0))])) (fun t k => XS.icmpYes X80.here hx rfl (pc0 := 26) (pc' := 35) rfl (hb hby d10_26) rfl (feq hc81).2 (by decide) (by decide) (XS.iload X80.here hx rfl (hb hby d10_35) rfl (XS.bipush X80.here hx rfl (hb hby d10_37) k))) ?_
     by_cases hc82 : (cs.getD i 0) = (40 : Int32)
     ·
      refine go (S' := T80.setTop (mkF m 4 #[sr x1, si (Int32.ofNat st), si (d + (1 : Int32)), si (Int32.ofNat (i + 1)), si (cs.getD i 0)] [])) (fun t k => XS.icmpNo X80.here hx rfl (hb hby d10_39) rfl (teq hc82).2 (XS.iinc X80.here hx rfl (hb hby d10_42) rfl (l' := #[sr x1, si (Int32.ofNat st), si (d + (1 : Int32)), si (Int32.ofNat (i + 1)), si (cs.getD i 0)]) rfl (XS.goto X80.here hx rfl (pc0 := 45) (pc' := 64) rfl (hb hby d10_45) (by decide) (by decide) (XS.goto X80.here hx rfl (pc0 := 64) (pc' := 4) rfl (hb hby d10_64) (by decide) (by decide) k)))) ?_
      exact ih (i + 1) (d + (1 : Int32)) _ _ _ (by omega) (by omega) (by rw [← hinv, hc82, own_scan_op]) (One.val rfl) X80 e80 N80
     ·
      refine go (S' := T80.setTop (mkF m 52 #[sr x1, si (Int32.ofNat st), si d, si (Int32.ofNat (i + 1)), si (cs.getD i 0)] [(.int 41), (.int (cs.getD i 0))])) (fun t k => XS.icmpYes X80.here hx rfl (pc0 := 39) (pc' := 48) rfl (hb hby d10_39) rfl (feq hc82).2 (by decide) (by decide) (XS.iload X80.here hx rfl (hb hby d10_48) rfl (XS.bipush X80.here hx rfl (hb hby d10_50) k))) ?_
      by_cases hc83 : (cs.getD i 0) = (41 : Int32)
      ·
       refine go (S' := T80.setTop (mkF m 59 #[sr x1, si (Int32.ofNat st), si (d + (-1 : Int32)), si (Int32.ofNat (i + 1)), si (cs.getD i 0)] [(.int (d + (-1 : Int32)))])) (fun t k => XS.icmpNo X80.here hx rfl (hb hby d10_52) rfl (teq hc83).2 (XS.iinc X80.here hx rfl (hb hby d10_55) rfl (l' := #[sr x1, si (Int32.ofNat st), si (d + (-1 : Int32)), si (Int32.ofNat (i + 1)), si (cs.getD i 0)]) rfl (XS.iloadN X80.here hx rfl (hb hby d10_58) rfl k))) ?_
       by_cases hc84 : (d + (-1 : Int32)) = (0 : Int32)
       ·
        refine go (S' := T80.setTop (mkF m 63 #[sr x1, si (Int32.ofNat st), si (d + (-1 : Int32)), si (Int32.ofNat (i + 1)), si (cs.getD i 0)] [(.int (Int32.ofNat (i + 1)))])) (fun t k => XS.ifNo X80.here hx rfl (hb hby d10_59) rfl ((if0 _ _).trans (teq hc84).2) (XS.iloadN X80.here hx rfl (hb hby d10_62) rfl k)) ?_
        refine finI X80 hx hk hret (hb hby d10_63) (by decide) (by decide) ?_
        rw [e80]
        refine ⟨?_, N80, rfl⟩
        rw [← hinv, hc83, own_scan_cl, show d - (1 : Int32) = d + (-1 : Int32) from Int32.sub_eq_add_neg d 1, if_pos hc84]
       ·
        refine go (S' := T80.setTop (mkF m 4 #[sr x1, si (Int32.ofNat st), si (d + (-1 : Int32)), si (Int32.ofNat (i + 1)), si (cs.getD i 0)] [])) (fun t k => XS.ifYes X80.here hx rfl (pc0 := 59) (pc' := 64) rfl (hb hby d10_59) rfl ((if0 _ _).trans (feq hc84).2) (by decide) (by decide) (XS.goto X80.here hx rfl (pc0 := 64) (pc' := 4) rfl (hb hby d10_64) (by decide) (by decide) k)) ?_
        exact ih (i + 1) (d + (-1 : Int32)) _ _ _ (by omega) (by omega) (by rw [← hinv, hc83, own_scan_cl, show d - (1 : Int32) = d + (-1 : Int32) from Int32.sub_eq_add_neg d 1, if_neg hc84]) (One.val rfl) X80 e80 N80
      ·
       refine go (S' := T80.setTop (mkF m 4 #[sr x1, si (Int32.ofNat st), si d, si (Int32.ofNat (i + 1)), si (cs.getD i 0)] [])) (fun t k => XS.icmpYes X80.here hx rfl (pc0 := 52) (pc' := 64) rfl (hb hby d10_52) rfl (feq hc83).2 (by decide) (by decide) (XS.goto X80.here hx rfl (pc0 := 64) (pc' := 4) rfl (hb hby d10_64) (by decide) (by decide) k)) ?_
       exact ih (i + 1) d _ _ _ (by omega) (by omega) (by rw [← hinv, own_scan_no ⟨hc82, hc83, hc81⟩]) (One.val rfl) X80 e80 N80
   ·
    have hlt : ¬ ((Int32.ofNat i) < (Int32.ofNat cs.length)) := oj_nlt hil (by omega) (by omega)
    refine go (S' := T.setTop (mkF m 6 #[sr x1, si (Int32.ofNat st), si d, si (Int32.ofNat i), s4] [(.ref x1), (.int (Int32.ofNat i))])) (fun t k => XS.iloadN X.here hx rfl (hb hby d10_4) rfl (XS.aloadN X.here hx rfl (hb hby d10_5) rfl rfl k)) ?_
    have O85 : Old Z n0 h0 := O0.keep K0 all0
    obtain ⟨kb86, N286, vs86, qE86, qV86, qC86, qA86, qcd86, qbd86, ql86⟩ := id hp0
    obtain ⟨v87, T87, L87, X87, hQ87, st87⟩ := callV X hx hZ (y := y_3) (z := y_3) hown (ww hw 44 rfl) (ww hw 45 rfl) (notFace_of_selects (args := #[]) (mvT hZ (ww hw 47 rfl))) (ww hw 47 rfl) (ww hw 46 rfl) (by decide) (StrChars.Road.lenW (W := 1) hZ (own_sub StrChars_wordsLen hw) (kI := 4) (ww hw 12 rfl) qE86 qV86 qC86 qA86 qcd86 qbd86 (hp4.ext O85.2) hG1 ql86 (by decide) (by decide)) hp0.exa (g := (mkF m 6 #[sr x1, si (Int32.ofNat st), si d, si (Int32.ofNat i), s4] [(.ref x1), (.int (Int32.ofNat i))])) rfl (by rw [hml]; rfl) (Q := (fun v h' L => v = some (.int (Int32.ofNat cs.length)) ∧ L = [] ∧ h' = h0)) (kc := 0) (ks := 0) (argsL := []) (rest := [(.int (Int32.ofNat i))]) (lenOf pd_1 rfl) rfl (mr0 rfl) (hb hby d10_6) eT (by decide) (by decide)
    obtain ⟨rfl, rfl, e87⟩ := hQ87
    have N87 := Fr.app N (Fr.nil n0)
    refine go (S' := T87.setTop (mkF m 68 #[sr x1, si (Int32.ofNat st), si d, si (Int32.ofNat i), s4] [(.int (-1 : Int32))])) (fun t k => st87 _ (XS.icmpYes X87.here hx rfl (pc0 := 9) (pc' := 67) rfl (hb hby d10_9) rfl (flt hlt).2.1 (by decide) (by decide) (XS.iconst X87.here hx rfl (hb hby d10_67) k))) ?_
    refine finI X87 hx hk hret (hb hby d10_68) (by decide) (by decide) ?_
    rw [e87]
    refine ⟨?_, N87, rfl⟩
    rw [← hinv, List.drop_of_length_le (by omega)]; rfl
 exact loopE cs.length st (0 : Int32) _ _ _ (by omega) (by omega) rfl One.u X0 e0 N0
theorem own_pl (x : Int32) : ∃ n : Nat, n ≤ 2 ∧ (x &&& (3 : Int32)) % (3 : Int32) = Int32.ofNat n := by
  have h := c_mask x 3 2 (by decide) (by decide)
  have r := (c_irem (x &&& 3) 3 3 rfl).1 (by omega)
  refine ⟨((x &&& (3 : Int32)) % (3 : Int32)).toInt.toNat, by omega, ?_⟩
  apply Int32.toInt_inj.mp
  rw [Int32.toInt_ofNat_of_lt (by omega)]
  omega
theorem own_rem (x : Int32) (n : Nat) (h0 : 0 < n) (hn : n ≤ 8000) : ∃ k : Nat, k < n ∧ (own_ush x 4) % (Int32.ofNat n) = Int32.ofNat k := by
  have e := Int32.toInt_ofNat_of_lt (n := n) (by omega)
  have s : (own_ush x 4).toInt = _ := c_iushr x 4 4 (by decide) (by decide)
  have r := (c_iremV (own_ush x 4) (Int32.ofNat n)).1 (by omega) (by omega)
  refine ⟨((own_ush x 4) % (Int32.ofNat n)).toInt.toNat, by omega, ?_⟩
  apply Int32.toInt_inj.mp
  rw [Int32.toInt_ofNat_of_lt (by omega)]
  omega
theorem own_nz (n : Nat) (h0 : 0 < n) (hn : n ≤ 8000) : Int32.ofNat n ≠ 0 := fun q => absurd (oj_inj (n := 0) hn (by omega) q) (by omega)
theorem own_ite (c : Int32) (a b : Nat) : (if c = (0 : Int32) then Int32.ofNat a else Int32.ofNat b) = Int32.ofNat (if c = (0 : Int32) then a else b) := by split <;> rfl
theorem own_com_eq (x1 x2 x3 : Int32) : ((([(40 : Int32)] ++ own_blk x1) ++ own_blk x2) ++ own_blk x3) ++ [41] = own_com x1 x2 x3 := by simp [own_com]
theorem own_com_len (x1 x2 x3 : Int32) : 2 ≤ (own_com x1 x2 x3).length ∧ (own_com x1 x2 x3).length ≤ 14 := by
  have a := own_blk_len x1
  have b := own_blk_len x2
  have c := own_blk_len x3
  simp only [own_com, List.length_append, List.length_cons, List.length_nil]
  omega
theorem own_com_lat (x1 x2 x3 : Int32) : ∀ c ∈ own_com x1 x2 x3, ¬ c < 0 ∧ ¬ (255 : Int32) < c := by
  intro c hc
  simp only [own_com, List.cons_append, List.append_assoc, List.mem_cons, List.mem_append, List.not_mem_nil, or_false] at hc
  rcases hc with rfl | hc | hc | hc | rfl
  · decide
  · exact own_blk_lat _ c hc
  · exact own_blk_lat _ c hc
  · exact own_blk_lat _ c hc
  · decide
theorem own_final (x1 x2 x3 : Int32) (com rs : List Int32) (hcom : com = own_com x1 x2 x3) (pl ck lim : Nat) (cl : Int32) (hpl : pl ≤ 2) (hck : ck < com.length - 1) (hlim : lim = if cl = (0 : Int32) then 1 + ck else com.length) (hr : rs.length = 16) (h : ∀ j, j < 16 → own_cellP com pl lim cl j (rs.getD j 0)) :
    own_scan (rs.drop pl) pl (0 : Int32) = (if cl = (0 : Int32) then (-1 : Int32) else (Int32.ofNat pl + Int32.ofNat com.length)) := by
  have hl := own_com_len x1 x2 x3
  rw [← hcom] at hl
  have hle : lim ≤ com.length := by rw [hlim]; split <;> omega
  obtain ⟨D, hD, hd⟩ := own_split com rs pl lim cl hr (by omega) hle h
  rw [hD]
  by_cases q : cl = (0 : Int32)
  · rw [if_pos q] at hlim ⊢
    subst hcom
    exact own_open x1 x2 x3 D (hd q) lim pl (by omega) (by omega)
  · rw [if_neg q] at hlim ⊢
    rw [hlim, List.take_length, hcom, own_closed, oj_add]
theorem pd_2 : parseMethodDescriptor "([CII)I" = some ⟨[(.array .char), .int, .int], some .int⟩ := by decide +kernel
theorem pd_3 : parseMethodDescriptor "(III[CIIZZ)C" = some ⟨[.int, .int, .int, (.array .char), .int, .int, .boolean, .boolean], some .char⟩ := by decide +kernel
theorem pd_4 : parseMethodDescriptor "([C)V" = some ⟨[(.array .char)], none⟩ := by decide +kernel
abbrev y_6 : MethodName := ⟨"java/lang/String", "<init>", "([C)V"⟩
theorem pd_5 : parseMethodDescriptor "(Ljava/lang/String;I)I" = some ⟨[(.object "java/lang/String"), .int], some .int⟩ := by decide +kernel
abbrev y_7 : MethodName := ⟨"com/example/kuvert/kuvert/mime/HeadingCommentEndPinLaw", "law", "(IIIIII)Z"⟩
theorem pn_4 : plainFor y_7 = true := by first | exact plainFor_of_name (by first | (simp [plainName, overriddenIn]; done) | decide +kernel) | decide +kernel
theorem ef_rmLaw (m : MethodId) (p1 : Int32) (p2 : Int32) (p3 : Int32) (p4 : Int32) (p5 : Int32) (p6 : Int32) : entryFrame m #[(.int p1), (.int p2), (.int p3), (.int p4), (.int p5), (.int p6)] maxLocals = mkF m 0 #[si p1, si p2, si p3, si p4, si p5, si p6, .unset, .unset, .unset, .unset, .unset, .unset, .unset, .unset, .unset, .unset, .unset] [] := by first | (simp [entryFrame, mkF, argsToLocals, Value.category, maxLocals]; done) | rfl
def Q_rmLaw (Z : State) (p1 : Int32) (p2 : Int32) (p3 : Int32) (p4 : Int32) (p5 : Int32) (p6 : Int32) (G1 : Int32) (fm : Value) (h0 : Heap) (n0 : Nat) (v : Option Value) (h : Heap) (L : List Loc) : Prop := v = some (.int 1) ∧ Fr n0 L ∧ Keep h0 h []
set_option maxRecDepth 65536 in
set_option maxHeartbeats 40000000 in
theorem rmLaw (l : Launch) (Z : State) (a0 : Array Value) (hw : ∀ d ∈ tables_1, d.before a0 Z = true) (ws : List Jvm.Cond) (p1 : Int32) (p2 : Int32) (p3 : Int32) (p4 : Int32) (p5 : Int32) (p6 : Int32) (G1 : Int32) (fm : Value) (h0 : Heap) (n0 : Nat) (Z0 : n0 ≤ h0.size) (hp0 : Sta Z Z.heap "java/lang/String" "COMPACT_STRINGS" "Z" (.int G1)) (hG1 : ¬ (G1 = (0 : Int32))) (hp2 : Sta Z Z.heap "jdk/internal/util/Preconditions" "SIOOBE_FORMATTER" "Ljava/util/function/BiFunction;" fm) (hfm : fm.isRef = true) (hp4 : Old Z n0 h0) :
    MetFree l x (head1 (Jvm.Cond.code x code maxLocals ret :: ws) room_1) (fun a U => a = #[(.int p1), (.int p2), (.int p3), (.int p4), (.int p5), (.int p6)] ∧ Z.Warmed39 U.vm ∧ U.heap = h0) (fun _ _ _ _ _ => True) (fun _ U o U' => ∃ v L, o = .returned v ∧ Q_rmLaw Z p1 p2 p3 p4 p5 p6 G1 fm h0 n0 v U'.heap L ∧ FrameEnd U o U' L room_1.cells room_1.slots) := by
 refine bodyOf pn_4 (fun m => ef_rmLaw m p1 p2 p3 p4 p5 p6) ?_
 intro p e s m below meth c T0 X0 hx hby hml hown hnm hret hk hZ e0
 have N0 := Fr.nil n0
 have K0 : Keep h0 h0 [] := Keep.refl _ _
 have O0 := hp4
 refine go (S' := T0.setTop (mkF m 2 #[si p1, si p2, si p3, si p4, si p5, si p6, .unset, .unset, .unset, .unset, .unset, .unset, .unset, .unset, .unset, .unset, .unset] [(.int 14)])) (fun t k => XS.bipush X0.here hx rfl (hb hby at_0) k) ?_
 obtain ⟨T88, h88, k88, X88, e88, E88, A88, st88⟩ := newP X0 hx hZ (ww hw 0 rfl) e0 (g := (mkF m 2 #[si p1, si p2, si p3, si p4, si p5, si p6, .unset, .unset, .unset, .unset, .unset, .unset, .unset, .unset, .unset, .unset, .unset] [(.int 14)])) rfl (hb hby at_2) rfl (by decide) (cap := 14) (by decide) (by decide) (by decide) (by decide)
 obtain ⟨b88, g88⟩ : ∃ z, z = h0.size := ⟨_, rfl⟩
 rw [← g88] at A88 st88
 have ge_b88 : n0 ≤ b88 := by rw [g88]; exact (Nat.le_trans Z0 K0.1)
 have sz_b88 : h0.size ≤ b88 := by rw [g88]; exact K0.1
 have K89 : Keep h0 h88 [] := K0.ext E88
 have V88 : Arv Z h88 b88 k88 .char (14 : Int32) [] (.int 0) := Arv.new A88 (by decide)
 refine go (S' := T88.setTop (mkF m 11 #[si p1, si p2, si p3, si p4, si p5, si p6, sr b88, .unset, .unset, .unset, .unset, .unset, .unset, .unset, .unset, .unset, .unset] [(.int 40), (.int 0), (.ref b88)])) (fun t k => st88 _ (XS.astore X88.here hx rfl (hb hby at_4) rfl rfl (l' := #[si p1, si p2, si p3, si p4, si p5, si p6, sr b88, .unset, .unset, .unset, .unset, .unset, .unset, .unset, .unset, .unset, .unset]) rfl (XS.aload X88.here hx rfl (hb hby at_6) rfl rfl (XS.iconst X88.here hx rfl (hb hby at_8) (XS.bipush X88.here hx rfl (hb hby at_9) k))))) ?_
 obtain ⟨cl90, Ar90, q90, S90, M90, H90, G90⟩ := id V88
 have hin90 : ¬ ((0 : Int32) < 0 ∨ cl90.slots.size ≤ ((0 : Int32)).toNatClampNeg) := oj_in (i := 0) (n := 14) S90 rfl (by omega) (by omega)
 obtain ⟨T90, h90, X90, e90, W90, st90⟩ := stC X88 hx hZ e88 Ar90 (j := (0 : Int32)) hin90 (g := (mkF m 11 #[si p1, si p2, si p3, si p4, si p5, si p6, sr b88, .unset, .unset, .unset, .unset, .unset, .unset, .unset, .unset, .unset, .unset] [(.int 40), (.int 0), (.ref b88)])) rfl rfl (hb hby at_11)
 have V90 : Arv Z h90 b88 k88 .char (14 : Int32) (([40] : List Int32).map Value.int) (.int 0) := by
  have q := arvSnoc Ar90 q90 S90 M90 H90 G90 (fits_nar_char _) W90 rfl
  rw [(by decide : nar .char (40 : Int32) = (40 : Int32))] at q; exact q
 have K91 : Keep h0 h90 [] := K89.wr W90 (Or.inr sz_b88)
 have N92 := Fr.snoc X90 N0 ge_b88
 refine go (S' := T90.setTop (mkF m 16 #[si p1, si p2, si p3, si p4, si p5, si p6, sr b88, .unset, .unset, .unset, .unset, .unset, .unset, .unset, .unset, .unset, .unset] [(.int p2), (.int 1), (.ref b88)])) (fun t k => st90 _ (XS.aload X90.here hx rfl (hb hby at_12) rfl rfl (XS.iconst X90.here hx rfl (hb hby at_14) (XS.iloadN X90.here hx rfl (hb hby at_15) rfl k)))) ?_
 obtain ⟨v93, T93, L93, X93, hQ93, st93⟩ := callSt X90 hx hZ (y := y_1) hown (ww hw 1 rfl) (ww hw 2 rfl) (ww hw 3 rfl) (ww hw 4 rfl) (by decide) (backOf (W := 0) (rmPt l Z a0 hw [] b88 p2 k88 ([40] : List Int32) h90 n0 (Nat.le_trans Z0 K91.1) V90 ge_b88 (by have b1 := own_blk_len p2; have b2 := own_blk_len p3; simp only [List.length_append, List.length_cons, List.length_nil]; omega)) hZ (ww hw 4 rfl) (ww hw 3 rfl) (by decide) (by decide)) (g := (mkF m 16 #[si p1, si p2, si p3, si p4, si p5, si p6, sr b88, .unset, .unset, .unset, .unset, .unset, .unset, .unset, .unset, .unset, .unset] [(.int p2), (.int 1), (.ref b88)])) rfl (by rw [hml]; rfl) (kc := 0) (ks := 0) (argsL := [(.ref b88), (.int 1), (.int p2)]) (rest := []) (lenOf pd_2 rfl) rfl (mr0 rfl) (hb hby at_16) e90 (by decide) (by decide)
 obtain ⟨rfl, N93q, Kq93, q93_0⟩ := hQ93
 have N93 := Fr.app N92 N93q
 have K94 : Keep h0 T93.heap [] := K91.trans Kq93 (allS (P := fun x => x ∈ [] ∨ h0.size ≤ x) (Or.inr sz_b88) all0)
 refine go (S' := T93.setTop (mkF m 26 #[si p1, si p2, si p3, si p4, si p5, si p6, sr b88, si (Int32.ofNat (([40] : List Int32) ++ own_blk p2).length), .unset, .unset, .unset, .unset, .unset, .unset, .unset, .unset, .unset] [(.int p3), (.int (Int32.ofNat (([40] : List Int32) ++ own_blk p2).length)), (.ref b88)])) (fun t k => st93 _ (XS.istore X93.here hx rfl (hb hby at_19) rfl (l' := #[si p1, si p2, si p3, si p4, si p5, si p6, sr b88, si (Int32.ofNat (([40] : List Int32) ++ own_blk p2).length), .unset, .unset, .unset, .unset, .unset, .unset, .unset, .unset, .unset]) rfl (XS.aload X93.here hx rfl (hb hby at_21) rfl rfl (XS.iload X93.here hx rfl (hb hby at_23) rfl (XS.iloadN X93.here hx rfl (hb hby at_25) rfl k))))) ?_
 obtain ⟨v95, T95, L95, X95, hQ95, st95⟩ := callSt X93 hx hZ (y := y_1) hown (ww hw 1 rfl) (ww hw 2 rfl) (ww hw 3 rfl) (ww hw 4 rfl) (by decide) (backOf (W := 0) (rmPt l Z a0 hw [] b88 p3 k88 (([40] : List Int32) ++ own_blk p2) T93.heap n0 (Nat.le_trans Z0 K94.1) q93_0 ge_b88 (by have b1 := own_blk_len p2; have b2 := own_blk_len p3; simp only [List.length_append, List.length_cons, List.length_nil]; omega)) hZ (ww hw 4 rfl) (ww hw 3 rfl) (by decide) (by decide)) (g := (mkF m 26 #[si p1, si p2, si p3, si p4, si p5, si p6, sr b88, si (Int32.ofNat (([40] : List Int32) ++ own_blk p2).length), .unset, .unset, .unset, .unset, .unset, .unset, .unset, .unset, .unset] [(.int p3), (.int (Int32.ofNat (([40] : List Int32) ++ own_blk p2).length)), (.ref b88)])) rfl (by rw [hml]; rfl) (kc := 0) (ks := 0) (argsL := [(.ref b88), (.int (Int32.ofNat (([40] : List Int32) ++ own_blk p2).length)), (.int p3)]) (rest := []) (lenOf pd_2 rfl) rfl (mr0 rfl) (hb hby at_26) rfl (by decide) (by decide)
 obtain ⟨rfl, N95q, Kq95, q95_0⟩ := hQ95
 have N95 := Fr.app N93 N95q
 have K96 : Keep h0 T95.heap [] := K94.trans Kq95 (allS (P := fun x => x ∈ [] ∨ h0.size ≤ x) (Or.inr sz_b88) all0)
 refine go (S' := T95.setTop (mkF m 36 #[si p1, si p2, si p3, si p4, si p5, si p6, sr b88, si (Int32.ofNat ((([40] : List Int32) ++ own_blk p2) ++ own_blk p3).length), .unset, .unset, .unset, .unset, .unset, .unset, .unset, .unset, .unset] [(.int p4), (.int (Int32.ofNat ((([40] : List Int32) ++ own_blk p2) ++ own_blk p3).length)), (.ref b88)])) (fun t k => st95 _ (XS.istore X95.here hx rfl (hb hby at_29) rfl (l' := #[si p1, si p2, si p3, si p4, si p5, si p6, sr b88, si (Int32.ofNat ((([40] : List Int32) ++ own_blk p2) ++ own_blk p3).length), .unset, .unset, .unset, .unset, .unset, .unset, .unset, .unset, .unset]) rfl (XS.aload X95.here hx rfl (hb hby at_31) rfl rfl (XS.iload X95.here hx rfl (hb hby at_33) rfl (XS.iloadN X95.here hx rfl (hb hby at_35) rfl k))))) ?_
 obtain ⟨v97, T97, L97, X97, hQ97, st97⟩ := callSt X95 hx hZ (y := y_1) hown (ww hw 1 rfl) (ww hw 2 rfl) (ww hw 3 rfl) (ww hw 4 rfl) (by decide) (backOf (W := 0) (rmPt l Z a0 hw [] b88 p4 k88 ((([40] : List Int32) ++ own_blk p2) ++ own_blk p3) T95.heap n0 (Nat.le_trans Z0 K96.1) q95_0 ge_b88 (by have b1 := own_blk_len p2; have b2 := own_blk_len p3; simp only [List.length_append, List.length_cons, List.length_nil]; omega)) hZ (ww hw 4 rfl) (ww hw 3 rfl) (by decide) (by decide)) (g := (mkF m 36 #[si p1, si p2, si p3, si p4, si p5, si p6, sr b88, si (Int32.ofNat ((([40] : List Int32) ++ own_blk p2) ++ own_blk p3).length), .unset, .unset, .unset, .unset, .unset, .unset, .unset, .unset, .unset] [(.int p4), (.int (Int32.ofNat ((([40] : List Int32) ++ own_blk p2) ++ own_blk p3).length)), (.ref b88)])) rfl (by rw [hml]; rfl) (kc := 0) (ks := 0) (argsL := [(.ref b88), (.int (Int32.ofNat ((([40] : List Int32) ++ own_blk p2) ++ own_blk p3).length)), (.int p4)]) (rest := []) (lenOf pd_2 rfl) rfl (mr0 rfl) (hb hby at_36) rfl (by decide) (by decide)
 obtain ⟨rfl, N97q, Kq97, q97_0⟩ := hQ97
 have N97 := Fr.app N95 N97q
 have K98 : Keep h0 T97.heap [] := K96.trans Kq97 (allS (P := fun x => x ∈ [] ∨ h0.size ≤ x) (Or.inr sz_b88) all0)
 refine go (S' := T97.setTop (mkF m 47 #[si p1, si p2, si p3, si p4, si p5, si p6, sr b88, si (Int32.ofNat (((([40] : List Int32) ++ own_blk p2) ++ own_blk p3) ++ own_blk p4).length), .unset, .unset, .unset, .unset, .unset, .unset, .unset, .unset, .unset] [(.int 41), (.int (Int32.ofNat (((([40] : List Int32) ++ own_blk p2) ++ own_blk p3) ++ own_blk p4).length)), (.ref b88)])) (fun t k => st97 _ (XS.istore X97.here hx rfl (hb hby at_39) rfl (l' := #[si p1, si p2, si p3, si p4, si p5, si p6, sr b88, si (Int32.ofNat (((([40] : List Int32) ++ own_blk p2) ++ own_blk p3) ++ own_blk p4).length), .unset, .unset, .unset, .unset, .unset, .unset, .unset, .unset, .unset]) rfl (XS.aload X97.here hx rfl (hb hby at_41) rfl rfl (XS.iload X97.here hx rfl (hb hby at_43) rfl (XS.bipush X97.here hx rfl (hb hby at_45) k))))) ?_
 obtain ⟨com, hcom⟩ : ∃ L, L = own_com p2 p3 p4 := ⟨_, rfl⟩
 have hcoml := own_com_len p2 p3 p4
 have hclat := own_com_lat p2 p3 p4
 rw [← hcom] at hcoml hclat
 have hce : (((([40] : List Int32) ++ own_blk p2) ++ own_blk p3) ++ own_blk p4) ++ [(41 : Int32)] = com := by rw [hcom]; exact own_com_eq p2 p3 p4
 have hcn : (((([40] : List Int32) ++ own_blk p2) ++ own_blk p3) ++ own_blk p4).length + 1 = com.length := by have q := congrArg List.length hce; rw [List.length_append] at q; exact q
 obtain ⟨cl99, Ar99, q99, S99, M99, H99, G99⟩ := id q97_0
 have hin99 : ¬ ((Int32.ofNat (((([40] : List Int32) ++ own_blk p2) ++ own_blk p3) ++ own_blk p4).length) < 0 ∨ cl99.slots.size ≤ ((Int32.ofNat (((([40] : List Int32) ++ own_blk p2) ++ own_blk p3) ++ own_blk p4).length)).toNatClampNeg) := oj_in (n := 14) S99 rfl (by omega) (by omega)
 obtain ⟨T99, h99, X99, e99, W99, st99⟩ := stC X97 hx hZ rfl Ar99 (j := (Int32.ofNat (((([40] : List Int32) ++ own_blk p2) ++ own_blk p3) ++ own_blk p4).length)) hin99 (g := (mkF m 47 #[si p1, si p2, si p3, si p4, si p5, si p6, sr b88, si (Int32.ofNat (((([40] : List Int32) ++ own_blk p2) ++ own_blk p3) ++ own_blk p4).length), .unset, .unset, .unset, .unset, .unset, .unset, .unset, .unset, .unset] [(.int 41), (.int (Int32.ofNat (((([40] : List Int32) ++ own_blk p2) ++ own_blk p3) ++ own_blk p4).length)), (.ref b88)])) rfl rfl (hb hby at_47)
 have V99 : Arv Z h99 b88 k88 .char (14 : Int32) (com.map Value.int) (.int 0) := by
  have q := arvSnoc Ar99 q99 S99 M99 H99 G99 (fits_nar_char _) W99 (by rw [oj_n (by omega), List.length_map])
  rw [(by decide : nar .char (41 : Int32) = (41 : Int32))] at q; have e : ((((([40] : List Int32) ++ own_blk p2) ++ own_blk p3) ++ own_blk p4).map Value.int) ++ [Value.int (41 : Int32)] = com.map Value.int := (by have q := congrArg (List.map Value.int) hce; rw [List.map_append] at q; exact q)
  rw [e] at q; exact q
 have K100 : Keep h0 h99 [] := K98.wr W99 (Or.inr sz_b88)
 have N101 := Fr.snoc X99 N97 ge_b88
 refine go (S' := T99.setTop (mkF m 54 #[si p1, si p2, si p3, si p4, si p5, si p6, sr b88, si (Int32.ofNat (((([40] : List Int32) ++ own_blk p2) ++ own_blk p3) ++ own_blk p4).length), si (Int32.ofNat ((((([40] : List Int32) ++ own_blk p2) ++ own_blk p3) ++ own_blk p4).length + 1)), .unset, .unset, .unset, .unset, .unset, .unset, .unset, .unset] [])) (fun t k => st99 _ (XS.iload X99.here hx rfl (hb hby at_48) rfl (XS.iconst X99.here hx rfl (hb hby at_50) (XS.iadd X99.here hx rfl (hb hby at_51) rfl (by show Steps p.tables e below (T99.setTop (mkF m 52 #[si p1, si p2, si p3, si p4, si p5, si p6, sr b88, si (Int32.ofNat (((([40] : List Int32) ++ own_blk p2) ++ own_blk p3) ++ own_blk p4).length), .unset, .unset, .unset, .unset, .unset, .unset, .unset, .unset, .unset] [(.int ((Int32.ofNat (((([40] : List Int32) ++ own_blk p2) ++ own_blk p3) ++ own_blk p4).length) + (1 : Int32)))])) t; rw [show Int32.ofNat (((([40] : List Int32) ++ own_blk p2) ++ own_blk p3) ++ own_blk p4).length + (1 : Int32) = Int32.ofNat ((((([40] : List Int32) ++ own_blk p2) ++ own_blk p3) ++ own_blk p4).length + 1) from oj_add (((([40] : List Int32) ++ own_blk p2) ++ own_blk p3) ++ own_blk p4).length 1]; exact (XS.istore X99.here hx rfl (hb hby at_52) rfl (l' := #[si p1, si p2, si p3, si p4, si p5, si p6, sr b88, si (Int32.ofNat (((([40] : List Int32) ++ own_blk p2) ++ own_blk p3) ++ own_blk p4).length), si (Int32.ofNat ((((([40] : List Int32) ++ own_blk p2) ++ own_blk p3) ++ own_blk p4).length + 1)), .unset, .unset, .unset, .unset, .unset, .unset, .unset, .unset]) rfl k)))))) ?_
 rw [hcn]
 refine go (S' := T99.setTop (mkF m 59 #[si p1, si p2, si p3, si p4, si p5, si p6, sr b88, si (Int32.ofNat (((([40] : List Int32) ++ own_blk p2) ++ own_blk p3) ++ own_blk p4).length), si (Int32.ofNat com.length), .unset, .unset, .unset, .unset, .unset, .unset, .unset, .unset] [(.int ((p1 &&& (3 : Int32)) % (3 : Int32)))])) (fun t k => XS.iloadN X99.here hx rfl (hb hby at_54) rfl (XS.iconst X99.here hx rfl (hb hby at_55) (XS.iand X99.here hx rfl (hb hby at_56) rfl (XS.iconst X99.here hx rfl (hb hby at_57) (iremM X99 hx rfl (hb hby at_58) rfl (by decide) k))))) ?_
 obtain ⟨pl, hpl, epl⟩ := own_pl p1
 rw [epl]
 refine go (S' := T99.setTop (mkF m 66 #[si p1, si p2, si p3, si p4, si p5, si p6, sr b88, si (Int32.ofNat (((([40] : List Int32) ++ own_blk p2) ++ own_blk p3) ++ own_blk p4).length), si (Int32.ofNat com.length), si (Int32.ofNat pl), .unset, .unset, .unset, .unset, .unset, .unset, .unset] [(.int (((p1.toUInt32 >>> ((2 : Int32) &&& 31).toUInt32).toInt32) &&& (1 : Int32)))])) (fun t k => XS.istore X99.here hx rfl (hb hby at_59) rfl (l' := #[si p1, si p2, si p3, si p4, si p5, si p6, sr b88, si (Int32.ofNat (((([40] : List Int32) ++ own_blk p2) ++ own_blk p3) ++ own_blk p4).length), si (Int32.ofNat com.length), si (Int32.ofNat pl), .unset, .unset, .unset, .unset, .unset, .unset, .unset]) rfl (XS.iloadN X99.here hx rfl (hb hby at_61) rfl (XS.iconst X99.here hx rfl (hb hby at_62) (XS.iushr X99.here hx rfl (hb hby at_63) rfl (XS.iconst X99.here hx rfl (hb hby at_64) (XS.iand X99.here hx rfl (hb hby at_65) rfl k)))))) ?_
 obtain ⟨T102, ⟨ls102, X102, N102, e102⟩, st102⟩ : Reach p.tables e below (mkF m 74 #[si p1, si p2, si p3, si p4, si p5, si p6, sr b88, si (Int32.ofNat (((([40] : List Int32) ++ own_blk p2) ++ own_blk p3) ++ own_blk p4).length), si (Int32.ofNat com.length), si (Int32.ofNat pl), .unset, .unset, .unset, .unset, .unset, .unset, .unset] [(.int (if (((p1.toUInt32 >>> ((2 : Int32) &&& 31).toUInt32).toInt32) &&& (1 : Int32)) = (0 : Int32) then (1 : Int32) else (0 : Int32)))]) (Same X99 n0 h99) (T99.setTop (mkF m 66 #[si p1, si p2, si p3, si p4, si p5, si p6, sr b88, si (Int32.ofNat (((([40] : List Int32) ++ own_blk p2) ++ own_blk p3) ++ own_blk p4).length), si (Int32.ofNat com.length), si (Int32.ofNat pl), .unset, .unset, .unset, .unset, .unset, .unset, .unset] [(.int (((p1.toUInt32 >>> ((2 : Int32) &&& 31).toUInt32).toInt32) &&& (1 : Int32)))])) := by
  by_cases hc103 : (((p1.toUInt32 >>> ((2 : Int32) &&& 31).toUInt32).toInt32) &&& (1 : Int32)) = (0 : Int32)
  ·
   simp only [if_pos hc103]
   refine goR (S' := T99.setTop (mkF m 74 #[si p1, si p2, si p3, si p4, si p5, si p6, sr b88, si (Int32.ofNat (((([40] : List Int32) ++ own_blk p2) ++ own_blk p3) ++ own_blk p4).length), si (Int32.ofNat com.length), si (Int32.ofNat pl), .unset, .unset, .unset, .unset, .unset, .unset, .unset] [(.int 1)])) (fun t k => XS.ifNo X99.here hx rfl (hb hby at_66) rfl ((if0 _ _).trans (teq hc103).2) (XS.iconst X99.here hx rfl (hb hby at_69) (XS.goto X99.here hx rfl (pc0 := 70) (pc' := 74) rfl (hb hby at_70) (by decide) (by decide) k))) ?_
   exact ⟨T99, ⟨_, X99, N101, e99⟩, fun t k => k⟩
  ·
   simp only [if_neg hc103]
   refine goR (S' := T99.setTop (mkF m 74 #[si p1, si p2, si p3, si p4, si p5, si p6, sr b88, si (Int32.ofNat (((([40] : List Int32) ++ own_blk p2) ++ own_blk p3) ++ own_blk p4).length), si (Int32.ofNat com.length), si (Int32.ofNat pl), .unset, .unset, .unset, .unset, .unset, .unset, .unset] [(.int 0)])) (fun t k => XS.ifYes X99.here hx rfl (pc0 := 66) (pc' := 73) rfl (hb hby at_66) rfl ((if0 _ _).trans (feq hc103).2) (by decide) (by decide) (XS.iconst X99.here hx rfl (hb hby at_73) k)) ?_
   exact ⟨T99, ⟨_, X99, N101, e99⟩, fun t k => k⟩
 refine go (S' := T102.setTop (mkF m 76 #[si p1, si p2, si p3, si p4, si p5, si p6, sr b88, si (Int32.ofNat (((([40] : List Int32) ++ own_blk p2) ++ own_blk p3) ++ own_blk p4).length), si (Int32.ofNat com.length), si (Int32.ofNat pl), si (if (((p1.toUInt32 >>> ((2 : Int32) &&& 31).toUInt32).toInt32) &&& (1 : Int32)) = (0 : Int32) then (1 : Int32) else (0 : Int32)), .unset, .unset, .unset, .unset, .unset, .unset] [])) (fun t k => st102 _ (XS.istore X102.here hx rfl (hb hby at_74) rfl (l' := #[si p1, si p2, si p3, si p4, si p5, si p6, sr b88, si (Int32.ofNat (((([40] : List Int32) ++ own_blk p2) ++ own_blk p3) ++ own_blk p4).length), si (Int32.ofNat com.length), si (Int32.ofNat pl), si (if (((p1.toUInt32 >>> ((2 : Int32) &&& 31).toUInt32).toInt32) &&& (1 : Int32)) = (0 : Int32) then (1 : Int32) else (0 : Int32)), .unset, .unset, .unset, .unset, .unset, .unset]) rfl k)) ?_
 obtain ⟨cl, hcl⟩ : ∃ z : Int32, z = (if (((p1.toUInt32 >>> ((2 : Int32) &&& 31).toUInt32).toInt32) &&& (1 : Int32)) = (0 : Int32) then (1 : Int32) else (0 : Int32)) := ⟨_, rfl⟩
 rw [← hcl]
 refine go (S' := T102.setTop (mkF m 81 #[si p1, si p2, si p3, si p4, si p5, si p6, sr b88, si (Int32.ofNat (((([40] : List Int32) ++ own_blk p2) ++ own_blk p3) ++ own_blk p4).length), si (Int32.ofNat com.length), si (Int32.ofNat pl), si cl, .unset, .unset, .unset, .unset, .unset, .unset] [(.int (((p1.toUInt32 >>> ((3 : Int32) &&& 31).toUInt32).toInt32) &&& (1 : Int32)))])) (fun t k => XS.iloadN X102.here hx rfl (hb hby at_76) rfl (XS.iconst X102.here hx rfl (hb hby at_77) (XS.iushr X102.here hx rfl (hb hby at_78) rfl (XS.iconst X102.here hx rfl (hb hby at_79) (XS.iand X102.here hx rfl (hb hby at_80) rfl k))))) ?_
 obtain ⟨T104, ⟨ls104, X104, N104, e104⟩, st104⟩ : Reach p.tables e below (mkF m 89 #[si p1, si p2, si p3, si p4, si p5, si p6, sr b88, si (Int32.ofNat (((([40] : List Int32) ++ own_blk p2) ++ own_blk p3) ++ own_blk p4).length), si (Int32.ofNat com.length), si (Int32.ofNat pl), si cl, .unset, .unset, .unset, .unset, .unset, .unset] [(.int (if (((p1.toUInt32 >>> ((3 : Int32) &&& 31).toUInt32).toInt32) &&& (1 : Int32)) = (0 : Int32) then (0 : Int32) else (1 : Int32)))]) (Same X102 n0 h99) (T102.setTop (mkF m 81 #[si p1, si p2, si p3, si p4, si p5, si p6, sr b88, si (Int32.ofNat (((([40] : List Int32) ++ own_blk p2) ++ own_blk p3) ++ own_blk p4).length), si (Int32.ofNat com.length), si (Int32.ofNat pl), si cl, .unset, .unset, .unset, .unset, .unset, .unset] [(.int (((p1.toUInt32 >>> ((3 : Int32) &&& 31).toUInt32).toInt32) &&& (1 : Int32)))])) := by
  by_cases hc105 : (((p1.toUInt32 >>> ((3 : Int32) &&& 31).toUInt32).toInt32) &&& (1 : Int32)) = (0 : Int32)
  ·
   simp only [if_pos hc105]
   refine goR (S' := T102.setTop (mkF m 89 #[si p1, si p2, si p3, si p4, si p5, si p6, sr b88, si (Int32.ofNat (((([40] : List Int32) ++ own_blk p2) ++ own_blk p3) ++ own_blk p4).length), si (Int32.ofNat com.length), si (Int32.ofNat pl), si cl, .unset, .unset, .unset, .unset, .unset, .unset] [(.int 0)])) (fun t k => XS.ifYes X102.here hx rfl (pc0 := 81) (pc' := 88) rfl (hb hby at_81) rfl ((if0 _ _).trans (teq hc105).1) (by decide) (by decide) (XS.iconst X102.here hx rfl (hb hby at_88) k)) ?_
   exact ⟨T102, ⟨_, X102, N102, e102⟩, fun t k => k⟩
  ·
   simp only [if_neg hc105]
   refine goR (S' := T102.setTop (mkF m 89 #[si p1, si p2, si p3, si p4, si p5, si p6, sr b88, si (Int32.ofNat (((([40] : List Int32) ++ own_blk p2) ++ own_blk p3) ++ own_blk p4).length), si (Int32.ofNat com.length), si (Int32.ofNat pl), si cl, .unset, .unset, .unset, .unset, .unset, .unset] [(.int 1)])) (fun t k => XS.ifNo X102.here hx rfl (hb hby at_81) rfl ((if0 _ _).trans (feq hc105).1) (XS.iconst X102.here hx rfl (hb hby at_84) (XS.goto X102.here hx rfl (pc0 := 85) (pc' := 89) rfl (hb hby at_85) (by decide) (by decide) k))) ?_
   exact ⟨T102, ⟨_, X102, N102, e102⟩, fun t k => k⟩
 refine go (S' := T104.setTop (mkF m 91 #[si p1, si p2, si p3, si p4, si p5, si p6, sr b88, si (Int32.ofNat (((([40] : List Int32) ++ own_blk p2) ++ own_blk p3) ++ own_blk p4).length), si (Int32.ofNat com.length), si (Int32.ofNat pl), si cl, si (if (((p1.toUInt32 >>> ((3 : Int32) &&& 31).toUInt32).toInt32) &&& (1 : Int32)) = (0 : Int32) then (0 : Int32) else (1 : Int32)), .unset, .unset, .unset, .unset, .unset] [])) (fun t k => st104 _ (XS.istore X104.here hx rfl (hb hby at_89) rfl (l' := #[si p1, si p2, si p3, si p4, si p5, si p6, sr b88, si (Int32.ofNat (((([40] : List Int32) ++ own_blk p2) ++ own_blk p3) ++ own_blk p4).length), si (Int32.ofNat com.length), si (Int32.ofNat pl), si cl, si (if (((p1.toUInt32 >>> ((3 : Int32) &&& 31).toUInt32).toInt32) &&& (1 : Int32)) = (0 : Int32) then (0 : Int32) else (1 : Int32)), .unset, .unset, .unset, .unset, .unset]) rfl k)) ?_
 obtain ⟨lb, hlb⟩ : ∃ z : Int32, z = (if (((p1.toUInt32 >>> ((3 : Int32) &&& 31).toUInt32).toInt32) &&& (1 : Int32)) = (0 : Int32) then (0 : Int32) else (1 : Int32)) := ⟨_, rfl⟩
 rw [← hlb]
 refine go (S' := T104.setTop (mkF m 99 #[si p1, si p2, si p3, si p4, si p5, si p6, sr b88, si (Int32.ofNat (((([40] : List Int32) ++ own_blk p2) ++ own_blk p3) ++ own_blk p4).length), si (Int32.ofNat com.length), si (Int32.ofNat pl), si cl, si lb, .unset, .unset, .unset, .unset, .unset] [(.int ((Int32.ofNat com.length) - (1 : Int32))), (.int ((p1.toUInt32 >>> ((4 : Int32) &&& 31).toUInt32).toInt32)), (.int 1)])) (fun t k => XS.iconst X104.here hx rfl (hb hby at_91) (XS.iloadN X104.here hx rfl (hb hby at_92) rfl (XS.iconst X104.here hx rfl (hb hby at_93) (XS.iushr X104.here hx rfl (hb hby at_94) rfl (XS.iload X104.here hx rfl (hb hby at_95) rfl (XS.iconst X104.here hx rfl (hb hby at_97) (XS.isub X104.here hx rfl (hb hby at_98) rfl k))))))) ?_
 rw [show Int32.ofNat com.length - (1 : Int32) = Int32.ofNat (com.length - 1) from oj_sub (b := 1) (by omega) (by omega)]
 refine go (S' := T104.setTop (mkF m 100 #[si p1, si p2, si p3, si p4, si p5, si p6, sr b88, si (Int32.ofNat (((([40] : List Int32) ++ own_blk p2) ++ own_blk p3) ++ own_blk p4).length), si (Int32.ofNat com.length), si (Int32.ofNat pl), si cl, si lb, .unset, .unset, .unset, .unset, .unset] [(.int (((p1.toUInt32 >>> ((4 : Int32) &&& 31).toUInt32).toInt32) % (Int32.ofNat (com.length - 1)))), (.int 1)])) (fun t k => iremM X104 hx rfl (hb hby at_99) rfl (own_nz _ (by omega) (by omega)) k) ?_
 obtain ⟨ck, hck, eck⟩ := own_rem p1 (com.length - 1) (by omega) (by omega)
 rw [eck]
 refine go (S' := T104.setTop (mkF m 101 #[si p1, si p2, si p3, si p4, si p5, si p6, sr b88, si (Int32.ofNat (((([40] : List Int32) ++ own_blk p2) ++ own_blk p3) ++ own_blk p4).length), si (Int32.ofNat com.length), si (Int32.ofNat pl), si cl, si lb, .unset, .unset, .unset, .unset, .unset] [(.int ((1 : Int32) + (Int32.ofNat ck)))])) (fun t k => XS.iadd X104.here hx rfl (hb hby at_100) rfl k) ?_
 rw [show (1 : Int32) + Int32.ofNat ck = Int32.ofNat (1 + ck) from oj_add 1 ck]
 refine go (S' := T104.setTop (mkF m 105 #[si p1, si p2, si p3, si p4, si p5, si p6, sr b88, si (Int32.ofNat (((([40] : List Int32) ++ own_blk p2) ++ own_blk p3) ++ own_blk p4).length), si (Int32.ofNat com.length), si (Int32.ofNat pl), si cl, si lb, si (Int32.ofNat (1 + ck)), .unset, .unset, .unset, .unset] [(.int cl)])) (fun t k => XS.istore X104.here hx rfl (hb hby at_101) rfl (l' := #[si p1, si p2, si p3, si p4, si p5, si p6, sr b88, si (Int32.ofNat (((([40] : List Int32) ++ own_blk p2) ++ own_blk p3) ++ own_blk p4).length), si (Int32.ofNat com.length), si (Int32.ofNat pl), si cl, si lb, si (Int32.ofNat (1 + ck)), .unset, .unset, .unset, .unset]) rfl (XS.iload X104.here hx rfl (hb hby at_103) rfl k)) ?_
 obtain ⟨T106, ⟨ls106, X106, N106, e106⟩, st106⟩ : Reach p.tables e below (mkF m 115 #[si p1, si p2, si p3, si p4, si p5, si p6, sr b88, si (Int32.ofNat (((([40] : List Int32) ++ own_blk p2) ++ own_blk p3) ++ own_blk p4).length), si (Int32.ofNat com.length), si (Int32.ofNat pl), si cl, si lb, si (Int32.ofNat (1 + ck)), .unset, .unset, .unset, .unset] [(.int (if cl = (0 : Int32) then (Int32.ofNat (1 + ck)) else (Int32.ofNat com.length)))]) (Same X104 n0 h99) (T104.setTop (mkF m 105 #[si p1, si p2, si p3, si p4, si p5, si p6, sr b88, si (Int32.ofNat (((([40] : List Int32) ++ own_blk p2) ++ own_blk p3) ++ own_blk p4).length), si (Int32.ofNat com.length), si (Int32.ofNat pl), si cl, si lb, si (Int32.ofNat (1 + ck)), .unset, .unset, .unset, .unset] [(.int cl)])) := by
  by_cases hc107 : cl = (0 : Int32)
  ·
   simp only [if_pos hc107]
   refine goR (S' := T104.setTop (mkF m 115 #[si p1, si p2, si p3, si p4, si p5, si p6, sr b88, si (Int32.ofNat (((([40] : List Int32) ++ own_blk p2) ++ own_blk p3) ++ own_blk p4).length), si (Int32.ofNat com.length), si (Int32.ofNat pl), si cl, si lb, si (Int32.ofNat (1 + ck)), .unset, .unset, .unset, .unset] [(.int (Int32.ofNat (1 + ck)))])) (fun t k => XS.ifYes X104.here hx rfl (pc0 := 105) (pc' := 113) rfl (hb hby at_105) rfl ((if0 _ _).trans (teq hc107).1) (by decide) (by decide) (XS.iload X104.here hx rfl (hb hby at_113) rfl k)) ?_
   exact ⟨T104, ⟨_, X104, N104, e104⟩, fun t k => k⟩
  ·
   simp only [if_neg hc107]
   refine goR (S' := T104.setTop (mkF m 115 #[si p1, si p2, si p3, si p4, si p5, si p6, sr b88, si (Int32.ofNat (((([40] : List Int32) ++ own_blk p2) ++ own_blk p3) ++ own_blk p4).length), si (Int32.ofNat com.length), si (Int32.ofNat pl), si cl, si lb, si (Int32.ofNat (1 + ck)), .unset, .unset, .unset, .unset] [(.int (Int32.ofNat com.length))])) (fun t k => XS.ifNo X104.here hx rfl (hb hby at_105) rfl ((if0 _ _).trans (feq hc107).1) (XS.iload X104.here hx rfl (hb hby at_108) rfl (XS.goto X104.here hx rfl (pc0 := 110) (pc' := 115) rfl (hb hby at_110) (by decide) (by decide) k))) ?_
   exact ⟨T104, ⟨_, X104, N104, e104⟩, fun t k => k⟩
 refine go (S' := T106.setTop (mkF m 115 #[si p1, si p2, si p3, si p4, si p5, si p6, sr b88, si (Int32.ofNat (((([40] : List Int32) ++ own_blk p2) ++ own_blk p3) ++ own_blk p4).length), si (Int32.ofNat com.length), si (Int32.ofNat pl), si cl, si lb, si (Int32.ofNat (1 + ck)), .unset, .unset, .unset, .unset] [(.int (if cl = (0 : Int32) then (Int32.ofNat (1 + ck)) else (Int32.ofNat com.length)))])) st106 ?_
 rw [own_ite]
 obtain ⟨lim, hlim⟩ : ∃ n, n = (if cl = (0 : Int32) then 1 + ck else com.length) := ⟨_, rfl⟩
 rw [← hlim]
 have hlm : lim ≤ com.length := by rw [hlim]; split <;> omega
 refine go (S' := T106.setTop (mkF m 119 #[si p1, si p2, si p3, si p4, si p5, si p6, sr b88, si (Int32.ofNat (((([40] : List Int32) ++ own_blk p2) ++ own_blk p3) ++ own_blk p4).length), si (Int32.ofNat com.length), si (Int32.ofNat pl), si cl, si lb, si (Int32.ofNat (1 + ck)), si (Int32.ofNat lim), .unset, .unset, .unset] [(.int 16)])) (fun t k => XS.istore X106.here hx rfl (hb hby at_115) rfl (l' := #[si p1, si p2, si p3, si p4, si p5, si p6, sr b88, si (Int32.ofNat (((([40] : List Int32) ++ own_blk p2) ++ own_blk p3) ++ own_blk p4).length), si (Int32.ofNat com.length), si (Int32.ofNat pl), si cl, si lb, si (Int32.ofNat (1 + ck)), si (Int32.ofNat lim), .unset, .unset, .unset]) rfl (XS.bipush X106.here hx rfl (hb hby at_117) k)) ?_
 obtain ⟨T108, h108, k108, X108, e108, E108, A108, st108⟩ := newP X106 hx hZ (ww hw 0 rfl) e106 (g := (mkF m 119 #[si p1, si p2, si p3, si p4, si p5, si p6, sr b88, si (Int32.ofNat (((([40] : List Int32) ++ own_blk p2) ++ own_blk p3) ++ own_blk p4).length), si (Int32.ofNat com.length), si (Int32.ofNat pl), si cl, si lb, si (Int32.ofNat (1 + ck)), si (Int32.ofNat lim), .unset, .unset, .unset] [(.int 16)])) rfl (hb hby at_119) rfl (by decide) (cap := 16) (by decide) (by decide) (by decide) (by decide)
 obtain ⟨b108, g108⟩ : ∃ z, z = h99.size := ⟨_, rfl⟩
 rw [← g108] at A108 st108
 have lt_b88_b108 : b88 < b108 := by rw [g108]; exact V99.lt
 have ge_b108 : n0 ≤ b108 := by rw [g108]; exact (Nat.le_trans Z0 K100.1)
 have sz_b108 : h0.size ≤ b108 := by rw [g108]; exact K100.1
 have K109 : Keep h0 h108 [] := K100.ext E108
 have V108 : Arv Z h108 b108 k108 .char (16 : Int32) [(.int 0), (.int 0), (.int 0), (.int 0), (.int 0), (.int 0), (.int 0), (.int 0), (.int 0), (.int 0), (.int 0), (.int 0), (.int 0), (.int 0), (.int 0), (.int 0)] (.int 0) := (Arv.new A108 (by decide)).pad (pad_rep [] (.int 0) 16)
 refine go (S' := T108.setTop (mkF m 133 #[si p1, si p2, si p3, si p4, si p5, si p6, sr b88, si (Int32.ofNat (((([40] : List Int32) ++ own_blk p2) ++ own_blk p3) ++ own_blk p4).length), si (Int32.ofNat com.length), si (Int32.ofNat pl), si cl, si lb, si (Int32.ofNat (1 + ck)), si (Int32.ofNat lim), sr b108, .unset, .unset] [(.ref b88), (.int p5), (.int (Int32.ofNat pl)), (.int 0), (.int 0), (.ref b108)])) (fun t k => st108 _ (XS.astore X108.here hx rfl (hb hby at_121) rfl rfl (l' := #[si p1, si p2, si p3, si p4, si p5, si p6, sr b88, si (Int32.ofNat (((([40] : List Int32) ++ own_blk p2) ++ own_blk p3) ++ own_blk p4).length), si (Int32.ofNat com.length), si (Int32.ofNat pl), si cl, si lb, si (Int32.ofNat (1 + ck)), si (Int32.ofNat lim), sr b108, .unset, .unset]) rfl (XS.aload X108.here hx rfl (hb hby at_123) rfl rfl (XS.iconst X108.here hx rfl (hb hby at_125) (XS.iconst X108.here hx rfl (hb hby at_126) (XS.iload X108.here hx rfl (hb hby at_127) rfl (XS.iload X108.here hx rfl (hb hby at_129) rfl (XS.aload X108.here hx rfl (hb hby at_131) rfl rfl k)))))))) ?_
 refine go (S' := T108.setTop (mkF m 141 #[si p1, si p2, si p3, si p4, si p5, si p6, sr b88, si (Int32.ofNat (((([40] : List Int32) ++ own_blk p2) ++ own_blk p3) ++ own_blk p4).length), si (Int32.ofNat com.length), si (Int32.ofNat pl), si cl, si lb, si (Int32.ofNat (1 + ck)), si (Int32.ofNat lim), sr b108, .unset, .unset] [(.int lb), (.int cl), (.int p6), (.int (Int32.ofNat lim)), (.ref b88), (.int p5), (.int (Int32.ofNat pl)), (.int 0), (.int 0), (.ref b108)])) (fun t k => XS.iload X108.here hx rfl (hb hby at_133) rfl (XS.iload X108.here hx rfl (hb hby at_135) rfl (XS.iload X108.here hx rfl (hb hby at_137) rfl (XS.iload X108.here hx rfl (hb hby at_139) rfl k)))) ?_
 have f110 : Arv Z h108 b88 k88 .char (14 : Int32) (com.map Value.int) (.int 0) := (V99.ext E108)
 obtain ⟨v111, T111, L111, X111, hQ111, st111⟩ := callSt X108 hx hZ (y := y_2) hown (ww hw 8 rfl) (ww hw 9 rfl) (ww hw 3 rfl) (ww hw 10 rfl) (by decide) (backOf (W := 2) (rmCell l Z a0 hw [] p5 b88 p6 cl lb 0 pl lim k88 com h108 n0 (Nat.le_trans Z0 K109.1) (by decide) hpl hlm hcoml.2 hclat f110) hZ (ww hw 10 rfl) (ww hw 3 rfl) (by decide) (by decide)) (g := (mkF m 141 #[si p1, si p2, si p3, si p4, si p5, si p6, sr b88, si (Int32.ofNat (((([40] : List Int32) ++ own_blk p2) ++ own_blk p3) ++ own_blk p4).length), si (Int32.ofNat com.length), si (Int32.ofNat pl), si cl, si lb, si (Int32.ofNat (1 + ck)), si (Int32.ofNat lim), sr b108, .unset, .unset] [(.int lb), (.int cl), (.int p6), (.int (Int32.ofNat lim)), (.ref b88), (.int p5), (.int (Int32.ofNat pl)), (.int 0), (.int 0), (.ref b108)])) rfl (by rw [hml]; rfl) (kc := 0) (ks := 0) (argsL := [(.int 0), (.int (Int32.ofNat pl)), (.int p5), (.ref b88), (.int (Int32.ofNat lim)), (.int p6), (.int cl), (.int lb)]) (rest := [(.int 0), (.ref b108)]) (lenOf pd_3 rfl) rfl (mr0 rfl) (hb hby at_141) e108 (by decide) (by decide)
 obtain ⟨r_111, rfl, N111q, e111, q111_0⟩ := hQ111
 have N111 := Fr.app N106 N111q
 refine go (S' := T111.setTop (mkF m 144 #[si p1, si p2, si p3, si p4, si p5, si p6, sr b88, si (Int32.ofNat (((([40] : List Int32) ++ own_blk p2) ++ own_blk p3) ++ own_blk p4).length), si (Int32.ofNat com.length), si (Int32.ofNat pl), si cl, si lb, si (Int32.ofNat (1 + ck)), si (Int32.ofNat lim), sr b108, .unset, .unset] [(.int r_111), (.int 0), (.ref b108)])) st111 ?_
 obtain ⟨T112, h112, X112, e112, W112, V112, st112⟩ := putC X111 hx hZ e111 V108 (j := (0 : Int32)) (x := r_111) (own_lat16 q111_0.1) ⟨by decide, by decide⟩ (i := 0) rfl (Nat.le_of_ble_eq_true rfl) (g := (mkF m 144 #[si p1, si p2, si p3, si p4, si p5, si p6, sr b88, si (Int32.ofNat (((([40] : List Int32) ++ own_blk p2) ++ own_blk p3) ++ own_blk p4).length), si (Int32.ofNat com.length), si (Int32.ofNat pl), si cl, si lb, si (Int32.ofNat (1 + ck)), si (Int32.ofNat lim), sr b108, .unset, .unset] [(.int r_111), (.int 0), (.ref b108)])) rfl rfl (hb hby at_144)
 have K113 : Keep h0 h112 [] := K109.wr W112 (Or.inr sz_b108)
 have N114 := Fr.snoc X112 N111 ge_b108
 refine go (S' := T112.setTop (mkF m 157 #[si p1, si p2, si p3, si p4, si p5, si p6, sr b88, si (Int32.ofNat (((([40] : List Int32) ++ own_blk p2) ++ own_blk p3) ++ own_blk p4).length), si (Int32.ofNat com.length), si (Int32.ofNat pl), si cl, si lb, si (Int32.ofNat (1 + ck)), si (Int32.ofNat lim), sr b108, .unset, .unset] [(.int (Int32.ofNat lim)), (.ref b88), (.int p5), (.int (Int32.ofNat pl)), (.int 1), (.int 1), (.ref b108)])) (fun t k => st112 _ (XS.aload X112.here hx rfl (hb hby at_145) rfl rfl (XS.iconst X112.here hx rfl (hb hby at_147) (XS.iconst X112.here hx rfl (hb hby at_148) (XS.iload X112.here hx rfl (hb hby at_149) rfl (XS.iload X112.here hx rfl (hb hby at_151) rfl (XS.aload X112.here hx rfl (hb hby at_153) rfl rfl (XS.iload X112.here hx rfl (hb hby at_155) rfl k)))))))) ?_
 refine go (S' := T112.setTop (mkF m 163 #[si p1, si p2, si p3, si p4, si p5, si p6, sr b88, si (Int32.ofNat (((([40] : List Int32) ++ own_blk p2) ++ own_blk p3) ++ own_blk p4).length), si (Int32.ofNat com.length), si (Int32.ofNat pl), si cl, si lb, si (Int32.ofNat (1 + ck)), si (Int32.ofNat lim), sr b108, .unset, .unset] [(.int lb), (.int cl), (.int p6), (.int (Int32.ofNat lim)), (.ref b88), (.int p5), (.int (Int32.ofNat pl)), (.int 1), (.int 1), (.ref b108)])) (fun t k => XS.iload X112.here hx rfl (hb hby at_157) rfl (XS.iload X112.here hx rfl (hb hby at_159) rfl (XS.iload X112.here hx rfl (hb hby at_161) rfl k))) ?_
 have f115 : Arv Z h112 b88 k88 .char (14 : Int32) (com.map Value.int) (.int 0) := (f110.other W112 (Nat.ne_of_lt lt_b88_b108))
 obtain ⟨v116, T116, L116, X116, hQ116, st116⟩ := callSt X112 hx hZ (y := y_2) hown (ww hw 8 rfl) (ww hw 9 rfl) (ww hw 3 rfl) (ww hw 10 rfl) (by decide) (backOf (W := 2) (rmCell l Z a0 hw [] p5 b88 p6 cl lb 1 pl lim k88 com h112 n0 (Nat.le_trans Z0 K113.1) (by decide) hpl hlm hcoml.2 hclat f115) hZ (ww hw 10 rfl) (ww hw 3 rfl) (by decide) (by decide)) (g := (mkF m 163 #[si p1, si p2, si p3, si p4, si p5, si p6, sr b88, si (Int32.ofNat (((([40] : List Int32) ++ own_blk p2) ++ own_blk p3) ++ own_blk p4).length), si (Int32.ofNat com.length), si (Int32.ofNat pl), si cl, si lb, si (Int32.ofNat (1 + ck)), si (Int32.ofNat lim), sr b108, .unset, .unset] [(.int lb), (.int cl), (.int p6), (.int (Int32.ofNat lim)), (.ref b88), (.int p5), (.int (Int32.ofNat pl)), (.int 1), (.int 1), (.ref b108)])) rfl (by rw [hml]; rfl) (kc := 0) (ks := 0) (argsL := [(.int 1), (.int (Int32.ofNat pl)), (.int p5), (.ref b88), (.int (Int32.ofNat lim)), (.int p6), (.int cl), (.int lb)]) (rest := [(.int 1), (.ref b108)]) (lenOf pd_3 rfl) rfl (mr0 rfl) (hb hby at_163) e112 (by decide) (by decide)
 obtain ⟨r_116, rfl, N116q, e116, q116_0⟩ := hQ116
 have N116 := Fr.app N114 N116q
 refine go (S' := T116.setTop (mkF m 166 #[si p1, si p2, si p3, si p4, si p5, si p6, sr b88, si (Int32.ofNat (((([40] : List Int32) ++ own_blk p2) ++ own_blk p3) ++ own_blk p4).length), si (Int32.ofNat com.length), si (Int32.ofNat pl), si cl, si lb, si (Int32.ofNat (1 + ck)), si (Int32.ofNat lim), sr b108, .unset, .unset] [(.int r_116), (.int 1), (.ref b108)])) st116 ?_
 obtain ⟨T117, h117, X117, e117, W117, V117, st117⟩ := putC X116 hx hZ e116 V112 (j := (1 : Int32)) (x := r_116) (own_lat16 q116_0.1) ⟨by decide, by decide⟩ (i := 1) rfl (Nat.le_of_ble_eq_true rfl) (g := (mkF m 166 #[si p1, si p2, si p3, si p4, si p5, si p6, sr b88, si (Int32.ofNat (((([40] : List Int32) ++ own_blk p2) ++ own_blk p3) ++ own_blk p4).length), si (Int32.ofNat com.length), si (Int32.ofNat pl), si cl, si lb, si (Int32.ofNat (1 + ck)), si (Int32.ofNat lim), sr b108, .unset, .unset] [(.int r_116), (.int 1), (.ref b108)])) rfl rfl (hb hby at_166)
 have K118 : Keep h0 h117 [] := K113.wr W117 (Or.inr sz_b108)
 have N119 := Fr.snoc X117 N116 ge_b108
 refine go (S' := T117.setTop (mkF m 179 #[si p1, si p2, si p3, si p4, si p5, si p6, sr b88, si (Int32.ofNat (((([40] : List Int32) ++ own_blk p2) ++ own_blk p3) ++ own_blk p4).length), si (Int32.ofNat com.length), si (Int32.ofNat pl), si cl, si lb, si (Int32.ofNat (1 + ck)), si (Int32.ofNat lim), sr b108, .unset, .unset] [(.int (Int32.ofNat lim)), (.ref b88), (.int p5), (.int (Int32.ofNat pl)), (.int 2), (.int 2), (.ref b108)])) (fun t k => st117 _ (XS.aload X117.here hx rfl (hb hby at_167) rfl rfl (XS.iconst X117.here hx rfl (hb hby at_169) (XS.iconst X117.here hx rfl (hb hby at_170) (XS.iload X117.here hx rfl (hb hby at_171) rfl (XS.iload X117.here hx rfl (hb hby at_173) rfl (XS.aload X117.here hx rfl (hb hby at_175) rfl rfl (XS.iload X117.here hx rfl (hb hby at_177) rfl k)))))))) ?_
 refine go (S' := T117.setTop (mkF m 185 #[si p1, si p2, si p3, si p4, si p5, si p6, sr b88, si (Int32.ofNat (((([40] : List Int32) ++ own_blk p2) ++ own_blk p3) ++ own_blk p4).length), si (Int32.ofNat com.length), si (Int32.ofNat pl), si cl, si lb, si (Int32.ofNat (1 + ck)), si (Int32.ofNat lim), sr b108, .unset, .unset] [(.int lb), (.int cl), (.int p6), (.int (Int32.ofNat lim)), (.ref b88), (.int p5), (.int (Int32.ofNat pl)), (.int 2), (.int 2), (.ref b108)])) (fun t k => XS.iload X117.here hx rfl (hb hby at_179) rfl (XS.iload X117.here hx rfl (hb hby at_181) rfl (XS.iload X117.here hx rfl (hb hby at_183) rfl k))) ?_
 have f120 : Arv Z h117 b88 k88 .char (14 : Int32) (com.map Value.int) (.int 0) := (f115.other W117 (Nat.ne_of_lt lt_b88_b108))
 obtain ⟨v121, T121, L121, X121, hQ121, st121⟩ := callSt X117 hx hZ (y := y_2) hown (ww hw 8 rfl) (ww hw 9 rfl) (ww hw 3 rfl) (ww hw 10 rfl) (by decide) (backOf (W := 2) (rmCell l Z a0 hw [] p5 b88 p6 cl lb 2 pl lim k88 com h117 n0 (Nat.le_trans Z0 K118.1) (by decide) hpl hlm hcoml.2 hclat f120) hZ (ww hw 10 rfl) (ww hw 3 rfl) (by decide) (by decide)) (g := (mkF m 185 #[si p1, si p2, si p3, si p4, si p5, si p6, sr b88, si (Int32.ofNat (((([40] : List Int32) ++ own_blk p2) ++ own_blk p3) ++ own_blk p4).length), si (Int32.ofNat com.length), si (Int32.ofNat pl), si cl, si lb, si (Int32.ofNat (1 + ck)), si (Int32.ofNat lim), sr b108, .unset, .unset] [(.int lb), (.int cl), (.int p6), (.int (Int32.ofNat lim)), (.ref b88), (.int p5), (.int (Int32.ofNat pl)), (.int 2), (.int 2), (.ref b108)])) rfl (by rw [hml]; rfl) (kc := 0) (ks := 0) (argsL := [(.int 2), (.int (Int32.ofNat pl)), (.int p5), (.ref b88), (.int (Int32.ofNat lim)), (.int p6), (.int cl), (.int lb)]) (rest := [(.int 2), (.ref b108)]) (lenOf pd_3 rfl) rfl (mr0 rfl) (hb hby at_185) e117 (by decide) (by decide)
 obtain ⟨r_121, rfl, N121q, e121, q121_0⟩ := hQ121
 have N121 := Fr.app N119 N121q
 refine go (S' := T121.setTop (mkF m 188 #[si p1, si p2, si p3, si p4, si p5, si p6, sr b88, si (Int32.ofNat (((([40] : List Int32) ++ own_blk p2) ++ own_blk p3) ++ own_blk p4).length), si (Int32.ofNat com.length), si (Int32.ofNat pl), si cl, si lb, si (Int32.ofNat (1 + ck)), si (Int32.ofNat lim), sr b108, .unset, .unset] [(.int r_121), (.int 2), (.ref b108)])) st121 ?_
 obtain ⟨T122, h122, X122, e122, W122, V122, st122⟩ := putC X121 hx hZ e121 V117 (j := (2 : Int32)) (x := r_121) (own_lat16 q121_0.1) ⟨by decide, by decide⟩ (i := 2) rfl (Nat.le_of_ble_eq_true rfl) (g := (mkF m 188 #[si p1, si p2, si p3, si p4, si p5, si p6, sr b88, si (Int32.ofNat (((([40] : List Int32) ++ own_blk p2) ++ own_blk p3) ++ own_blk p4).length), si (Int32.ofNat com.length), si (Int32.ofNat pl), si cl, si lb, si (Int32.ofNat (1 + ck)), si (Int32.ofNat lim), sr b108, .unset, .unset] [(.int r_121), (.int 2), (.ref b108)])) rfl rfl (hb hby at_188)
 have K123 : Keep h0 h122 [] := K118.wr W122 (Or.inr sz_b108)
 have N124 := Fr.snoc X122 N121 ge_b108
 refine go (S' := T122.setTop (mkF m 201 #[si p1, si p2, si p3, si p4, si p5, si p6, sr b88, si (Int32.ofNat (((([40] : List Int32) ++ own_blk p2) ++ own_blk p3) ++ own_blk p4).length), si (Int32.ofNat com.length), si (Int32.ofNat pl), si cl, si lb, si (Int32.ofNat (1 + ck)), si (Int32.ofNat lim), sr b108, .unset, .unset] [(.int (Int32.ofNat lim)), (.ref b88), (.int p5), (.int (Int32.ofNat pl)), (.int 3), (.int 3), (.ref b108)])) (fun t k => st122 _ (XS.aload X122.here hx rfl (hb hby at_189) rfl rfl (XS.iconst X122.here hx rfl (hb hby at_191) (XS.iconst X122.here hx rfl (hb hby at_192) (XS.iload X122.here hx rfl (hb hby at_193) rfl (XS.iload X122.here hx rfl (hb hby at_195) rfl (XS.aload X122.here hx rfl (hb hby at_197) rfl rfl (XS.iload X122.here hx rfl (hb hby at_199) rfl k)))))))) ?_
 refine go (S' := T122.setTop (mkF m 207 #[si p1, si p2, si p3, si p4, si p5, si p6, sr b88, si (Int32.ofNat (((([40] : List Int32) ++ own_blk p2) ++ own_blk p3) ++ own_blk p4).length), si (Int32.ofNat com.length), si (Int32.ofNat pl), si cl, si lb, si (Int32.ofNat (1 + ck)), si (Int32.ofNat lim), sr b108, .unset, .unset] [(.int lb), (.int cl), (.int p6), (.int (Int32.ofNat lim)), (.ref b88), (.int p5), (.int (Int32.ofNat pl)), (.int 3), (.int 3), (.ref b108)])) (fun t k => XS.iload X122.here hx rfl (hb hby at_201) rfl (XS.iload X122.here hx rfl (hb hby at_203) rfl (XS.iload X122.here hx rfl (hb hby at_205) rfl k))) ?_
 have f125 : Arv Z h122 b88 k88 .char (14 : Int32) (com.map Value.int) (.int 0) := (f120.other W122 (Nat.ne_of_lt lt_b88_b108))
 obtain ⟨v126, T126, L126, X126, hQ126, st126⟩ := callSt X122 hx hZ (y := y_2) hown (ww hw 8 rfl) (ww hw 9 rfl) (ww hw 3 rfl) (ww hw 10 rfl) (by decide) (backOf (W := 2) (rmCell l Z a0 hw [] p5 b88 p6 cl lb 3 pl lim k88 com h122 n0 (Nat.le_trans Z0 K123.1) (by decide) hpl hlm hcoml.2 hclat f125) hZ (ww hw 10 rfl) (ww hw 3 rfl) (by decide) (by decide)) (g := (mkF m 207 #[si p1, si p2, si p3, si p4, si p5, si p6, sr b88, si (Int32.ofNat (((([40] : List Int32) ++ own_blk p2) ++ own_blk p3) ++ own_blk p4).length), si (Int32.ofNat com.length), si (Int32.ofNat pl), si cl, si lb, si (Int32.ofNat (1 + ck)), si (Int32.ofNat lim), sr b108, .unset, .unset] [(.int lb), (.int cl), (.int p6), (.int (Int32.ofNat lim)), (.ref b88), (.int p5), (.int (Int32.ofNat pl)), (.int 3), (.int 3), (.ref b108)])) rfl (by rw [hml]; rfl) (kc := 0) (ks := 0) (argsL := [(.int 3), (.int (Int32.ofNat pl)), (.int p5), (.ref b88), (.int (Int32.ofNat lim)), (.int p6), (.int cl), (.int lb)]) (rest := [(.int 3), (.ref b108)]) (lenOf pd_3 rfl) rfl (mr0 rfl) (hb hby at_207) e122 (by decide) (by decide)
 obtain ⟨r_126, rfl, N126q, e126, q126_0⟩ := hQ126
 have N126 := Fr.app N124 N126q
 refine go (S' := T126.setTop (mkF m 210 #[si p1, si p2, si p3, si p4, si p5, si p6, sr b88, si (Int32.ofNat (((([40] : List Int32) ++ own_blk p2) ++ own_blk p3) ++ own_blk p4).length), si (Int32.ofNat com.length), si (Int32.ofNat pl), si cl, si lb, si (Int32.ofNat (1 + ck)), si (Int32.ofNat lim), sr b108, .unset, .unset] [(.int r_126), (.int 3), (.ref b108)])) st126 ?_
 obtain ⟨T127, h127, X127, e127, W127, V127, st127⟩ := putC X126 hx hZ e126 V122 (j := (3 : Int32)) (x := r_126) (own_lat16 q126_0.1) ⟨by decide, by decide⟩ (i := 3) rfl (Nat.le_of_ble_eq_true rfl) (g := (mkF m 210 #[si p1, si p2, si p3, si p4, si p5, si p6, sr b88, si (Int32.ofNat (((([40] : List Int32) ++ own_blk p2) ++ own_blk p3) ++ own_blk p4).length), si (Int32.ofNat com.length), si (Int32.ofNat pl), si cl, si lb, si (Int32.ofNat (1 + ck)), si (Int32.ofNat lim), sr b108, .unset, .unset] [(.int r_126), (.int 3), (.ref b108)])) rfl rfl (hb hby at_210)
 have K128 : Keep h0 h127 [] := K123.wr W127 (Or.inr sz_b108)
 have N129 := Fr.snoc X127 N126 ge_b108
 refine go (S' := T127.setTop (mkF m 223 #[si p1, si p2, si p3, si p4, si p5, si p6, sr b88, si (Int32.ofNat (((([40] : List Int32) ++ own_blk p2) ++ own_blk p3) ++ own_blk p4).length), si (Int32.ofNat com.length), si (Int32.ofNat pl), si cl, si lb, si (Int32.ofNat (1 + ck)), si (Int32.ofNat lim), sr b108, .unset, .unset] [(.int (Int32.ofNat lim)), (.ref b88), (.int p5), (.int (Int32.ofNat pl)), (.int 4), (.int 4), (.ref b108)])) (fun t k => st127 _ (XS.aload X127.here hx rfl (hb hby at_211) rfl rfl (XS.iconst X127.here hx rfl (hb hby at_213) (XS.iconst X127.here hx rfl (hb hby at_214) (XS.iload X127.here hx rfl (hb hby at_215) rfl (XS.iload X127.here hx rfl (hb hby at_217) rfl (XS.aload X127.here hx rfl (hb hby at_219) rfl rfl (XS.iload X127.here hx rfl (hb hby at_221) rfl k)))))))) ?_
 refine go (S' := T127.setTop (mkF m 229 #[si p1, si p2, si p3, si p4, si p5, si p6, sr b88, si (Int32.ofNat (((([40] : List Int32) ++ own_blk p2) ++ own_blk p3) ++ own_blk p4).length), si (Int32.ofNat com.length), si (Int32.ofNat pl), si cl, si lb, si (Int32.ofNat (1 + ck)), si (Int32.ofNat lim), sr b108, .unset, .unset] [(.int lb), (.int cl), (.int p6), (.int (Int32.ofNat lim)), (.ref b88), (.int p5), (.int (Int32.ofNat pl)), (.int 4), (.int 4), (.ref b108)])) (fun t k => XS.iload X127.here hx rfl (hb hby at_223) rfl (XS.iload X127.here hx rfl (hb hby at_225) rfl (XS.iload X127.here hx rfl (hb hby at_227) rfl k))) ?_
 have f130 : Arv Z h127 b88 k88 .char (14 : Int32) (com.map Value.int) (.int 0) := (f125.other W127 (Nat.ne_of_lt lt_b88_b108))
 obtain ⟨v131, T131, L131, X131, hQ131, st131⟩ := callSt X127 hx hZ (y := y_2) hown (ww hw 8 rfl) (ww hw 9 rfl) (ww hw 3 rfl) (ww hw 10 rfl) (by decide) (backOf (W := 2) (rmCell l Z a0 hw [] p5 b88 p6 cl lb 4 pl lim k88 com h127 n0 (Nat.le_trans Z0 K128.1) (by decide) hpl hlm hcoml.2 hclat f130) hZ (ww hw 10 rfl) (ww hw 3 rfl) (by decide) (by decide)) (g := (mkF m 229 #[si p1, si p2, si p3, si p4, si p5, si p6, sr b88, si (Int32.ofNat (((([40] : List Int32) ++ own_blk p2) ++ own_blk p3) ++ own_blk p4).length), si (Int32.ofNat com.length), si (Int32.ofNat pl), si cl, si lb, si (Int32.ofNat (1 + ck)), si (Int32.ofNat lim), sr b108, .unset, .unset] [(.int lb), (.int cl), (.int p6), (.int (Int32.ofNat lim)), (.ref b88), (.int p5), (.int (Int32.ofNat pl)), (.int 4), (.int 4), (.ref b108)])) rfl (by rw [hml]; rfl) (kc := 0) (ks := 0) (argsL := [(.int 4), (.int (Int32.ofNat pl)), (.int p5), (.ref b88), (.int (Int32.ofNat lim)), (.int p6), (.int cl), (.int lb)]) (rest := [(.int 4), (.ref b108)]) (lenOf pd_3 rfl) rfl (mr0 rfl) (hb hby at_229) e127 (by decide) (by decide)
 obtain ⟨r_131, rfl, N131q, e131, q131_0⟩ := hQ131
 have N131 := Fr.app N129 N131q
 refine go (S' := T131.setTop (mkF m 232 #[si p1, si p2, si p3, si p4, si p5, si p6, sr b88, si (Int32.ofNat (((([40] : List Int32) ++ own_blk p2) ++ own_blk p3) ++ own_blk p4).length), si (Int32.ofNat com.length), si (Int32.ofNat pl), si cl, si lb, si (Int32.ofNat (1 + ck)), si (Int32.ofNat lim), sr b108, .unset, .unset] [(.int r_131), (.int 4), (.ref b108)])) st131 ?_
 obtain ⟨T132, h132, X132, e132, W132, V132, st132⟩ := putC X131 hx hZ e131 V127 (j := (4 : Int32)) (x := r_131) (own_lat16 q131_0.1) ⟨by decide, by decide⟩ (i := 4) rfl (Nat.le_of_ble_eq_true rfl) (g := (mkF m 232 #[si p1, si p2, si p3, si p4, si p5, si p6, sr b88, si (Int32.ofNat (((([40] : List Int32) ++ own_blk p2) ++ own_blk p3) ++ own_blk p4).length), si (Int32.ofNat com.length), si (Int32.ofNat pl), si cl, si lb, si (Int32.ofNat (1 + ck)), si (Int32.ofNat lim), sr b108, .unset, .unset] [(.int r_131), (.int 4), (.ref b108)])) rfl rfl (hb hby at_232)
 have K133 : Keep h0 h132 [] := K128.wr W132 (Or.inr sz_b108)
 have N134 := Fr.snoc X132 N131 ge_b108
 refine go (S' := T132.setTop (mkF m 245 #[si p1, si p2, si p3, si p4, si p5, si p6, sr b88, si (Int32.ofNat (((([40] : List Int32) ++ own_blk p2) ++ own_blk p3) ++ own_blk p4).length), si (Int32.ofNat com.length), si (Int32.ofNat pl), si cl, si lb, si (Int32.ofNat (1 + ck)), si (Int32.ofNat lim), sr b108, .unset, .unset] [(.int (Int32.ofNat lim)), (.ref b88), (.int p5), (.int (Int32.ofNat pl)), (.int 5), (.int 5), (.ref b108)])) (fun t k => st132 _ (XS.aload X132.here hx rfl (hb hby at_233) rfl rfl (XS.iconst X132.here hx rfl (hb hby at_235) (XS.iconst X132.here hx rfl (hb hby at_236) (XS.iload X132.here hx rfl (hb hby at_237) rfl (XS.iload X132.here hx rfl (hb hby at_239) rfl (XS.aload X132.here hx rfl (hb hby at_241) rfl rfl (XS.iload X132.here hx rfl (hb hby at_243) rfl k)))))))) ?_
 refine go (S' := T132.setTop (mkF m 251 #[si p1, si p2, si p3, si p4, si p5, si p6, sr b88, si (Int32.ofNat (((([40] : List Int32) ++ own_blk p2) ++ own_blk p3) ++ own_blk p4).length), si (Int32.ofNat com.length), si (Int32.ofNat pl), si cl, si lb, si (Int32.ofNat (1 + ck)), si (Int32.ofNat lim), sr b108, .unset, .unset] [(.int lb), (.int cl), (.int p6), (.int (Int32.ofNat lim)), (.ref b88), (.int p5), (.int (Int32.ofNat pl)), (.int 5), (.int 5), (.ref b108)])) (fun t k => XS.iload X132.here hx rfl (hb hby at_245) rfl (XS.iload X132.here hx rfl (hb hby at_247) rfl (XS.iload X132.here hx rfl (hb hby at_249) rfl k))) ?_
 have f135 : Arv Z h132 b88 k88 .char (14 : Int32) (com.map Value.int) (.int 0) := (f130.other W132 (Nat.ne_of_lt lt_b88_b108))
 obtain ⟨v136, T136, L136, X136, hQ136, st136⟩ := callSt X132 hx hZ (y := y_2) hown (ww hw 8 rfl) (ww hw 9 rfl) (ww hw 3 rfl) (ww hw 10 rfl) (by decide) (backOf (W := 2) (rmCell l Z a0 hw [] p5 b88 p6 cl lb 5 pl lim k88 com h132 n0 (Nat.le_trans Z0 K133.1) (by decide) hpl hlm hcoml.2 hclat f135) hZ (ww hw 10 rfl) (ww hw 3 rfl) (by decide) (by decide)) (g := (mkF m 251 #[si p1, si p2, si p3, si p4, si p5, si p6, sr b88, si (Int32.ofNat (((([40] : List Int32) ++ own_blk p2) ++ own_blk p3) ++ own_blk p4).length), si (Int32.ofNat com.length), si (Int32.ofNat pl), si cl, si lb, si (Int32.ofNat (1 + ck)), si (Int32.ofNat lim), sr b108, .unset, .unset] [(.int lb), (.int cl), (.int p6), (.int (Int32.ofNat lim)), (.ref b88), (.int p5), (.int (Int32.ofNat pl)), (.int 5), (.int 5), (.ref b108)])) rfl (by rw [hml]; rfl) (kc := 0) (ks := 0) (argsL := [(.int 5), (.int (Int32.ofNat pl)), (.int p5), (.ref b88), (.int (Int32.ofNat lim)), (.int p6), (.int cl), (.int lb)]) (rest := [(.int 5), (.ref b108)]) (lenOf pd_3 rfl) rfl (mr0 rfl) (hb hby at_251) e132 (by decide) (by decide)
 obtain ⟨r_136, rfl, N136q, e136, q136_0⟩ := hQ136
 have N136 := Fr.app N134 N136q
 refine go (S' := T136.setTop (mkF m 254 #[si p1, si p2, si p3, si p4, si p5, si p6, sr b88, si (Int32.ofNat (((([40] : List Int32) ++ own_blk p2) ++ own_blk p3) ++ own_blk p4).length), si (Int32.ofNat com.length), si (Int32.ofNat pl), si cl, si lb, si (Int32.ofNat (1 + ck)), si (Int32.ofNat lim), sr b108, .unset, .unset] [(.int r_136), (.int 5), (.ref b108)])) st136 ?_
 obtain ⟨T137, h137, X137, e137, W137, V137, st137⟩ := putC X136 hx hZ e136 V132 (j := (5 : Int32)) (x := r_136) (own_lat16 q136_0.1) ⟨by decide, by decide⟩ (i := 5) rfl (Nat.le_of_ble_eq_true rfl) (g := (mkF m 254 #[si p1, si p2, si p3, si p4, si p5, si p6, sr b88, si (Int32.ofNat (((([40] : List Int32) ++ own_blk p2) ++ own_blk p3) ++ own_blk p4).length), si (Int32.ofNat com.length), si (Int32.ofNat pl), si cl, si lb, si (Int32.ofNat (1 + ck)), si (Int32.ofNat lim), sr b108, .unset, .unset] [(.int r_136), (.int 5), (.ref b108)])) rfl rfl (hb hby at_254)
 have K138 : Keep h0 h137 [] := K133.wr W137 (Or.inr sz_b108)
 have N139 := Fr.snoc X137 N136 ge_b108
 refine go (S' := T137.setTop (mkF m 269 #[si p1, si p2, si p3, si p4, si p5, si p6, sr b88, si (Int32.ofNat (((([40] : List Int32) ++ own_blk p2) ++ own_blk p3) ++ own_blk p4).length), si (Int32.ofNat com.length), si (Int32.ofNat pl), si cl, si lb, si (Int32.ofNat (1 + ck)), si (Int32.ofNat lim), sr b108, .unset, .unset] [(.int (Int32.ofNat lim)), (.ref b88), (.int p5), (.int (Int32.ofNat pl)), (.int 6), (.int 6), (.ref b108)])) (fun t k => st137 _ (XS.aload X137.here hx rfl (hb hby at_255) rfl rfl (XS.bipush X137.here hx rfl (hb hby at_257) (XS.bipush X137.here hx rfl (hb hby at_259) (XS.iload X137.here hx rfl (hb hby at_261) rfl (XS.iload X137.here hx rfl (hb hby at_263) rfl (XS.aload X137.here hx rfl (hb hby at_265) rfl rfl (XS.iload X137.here hx rfl (hb hby at_267) rfl k)))))))) ?_
 refine go (S' := T137.setTop (mkF m 275 #[si p1, si p2, si p3, si p4, si p5, si p6, sr b88, si (Int32.ofNat (((([40] : List Int32) ++ own_blk p2) ++ own_blk p3) ++ own_blk p4).length), si (Int32.ofNat com.length), si (Int32.ofNat pl), si cl, si lb, si (Int32.ofNat (1 + ck)), si (Int32.ofNat lim), sr b108, .unset, .unset] [(.int lb), (.int cl), (.int p6), (.int (Int32.ofNat lim)), (.ref b88), (.int p5), (.int (Int32.ofNat pl)), (.int 6), (.int 6), (.ref b108)])) (fun t k => XS.iload X137.here hx rfl (hb hby at_269) rfl (XS.iload X137.here hx rfl (hb hby at_271) rfl (XS.iload X137.here hx rfl (hb hby at_273) rfl k))) ?_
 have f140 : Arv Z h137 b88 k88 .char (14 : Int32) (com.map Value.int) (.int 0) := (f135.other W137 (Nat.ne_of_lt lt_b88_b108))
 obtain ⟨v141, T141, L141, X141, hQ141, st141⟩ := callSt X137 hx hZ (y := y_2) hown (ww hw 8 rfl) (ww hw 9 rfl) (ww hw 3 rfl) (ww hw 10 rfl) (by decide) (backOf (W := 2) (rmCell l Z a0 hw [] p5 b88 p6 cl lb 6 pl lim k88 com h137 n0 (Nat.le_trans Z0 K138.1) (by decide) hpl hlm hcoml.2 hclat f140) hZ (ww hw 10 rfl) (ww hw 3 rfl) (by decide) (by decide)) (g := (mkF m 275 #[si p1, si p2, si p3, si p4, si p5, si p6, sr b88, si (Int32.ofNat (((([40] : List Int32) ++ own_blk p2) ++ own_blk p3) ++ own_blk p4).length), si (Int32.ofNat com.length), si (Int32.ofNat pl), si cl, si lb, si (Int32.ofNat (1 + ck)), si (Int32.ofNat lim), sr b108, .unset, .unset] [(.int lb), (.int cl), (.int p6), (.int (Int32.ofNat lim)), (.ref b88), (.int p5), (.int (Int32.ofNat pl)), (.int 6), (.int 6), (.ref b108)])) rfl (by rw [hml]; rfl) (kc := 0) (ks := 0) (argsL := [(.int 6), (.int (Int32.ofNat pl)), (.int p5), (.ref b88), (.int (Int32.ofNat lim)), (.int p6), (.int cl), (.int lb)]) (rest := [(.int 6), (.ref b108)]) (lenOf pd_3 rfl) rfl (mr0 rfl) (hb hby at_275) e137 (by decide) (by decide)
 obtain ⟨r_141, rfl, N141q, e141, q141_0⟩ := hQ141
 have N141 := Fr.app N139 N141q
 refine go (S' := T141.setTop (mkF m 278 #[si p1, si p2, si p3, si p4, si p5, si p6, sr b88, si (Int32.ofNat (((([40] : List Int32) ++ own_blk p2) ++ own_blk p3) ++ own_blk p4).length), si (Int32.ofNat com.length), si (Int32.ofNat pl), si cl, si lb, si (Int32.ofNat (1 + ck)), si (Int32.ofNat lim), sr b108, .unset, .unset] [(.int r_141), (.int 6), (.ref b108)])) st141 ?_
 obtain ⟨T142, h142, X142, e142, W142, V142, st142⟩ := putC X141 hx hZ e141 V137 (j := (6 : Int32)) (x := r_141) (own_lat16 q141_0.1) ⟨by decide, by decide⟩ (i := 6) rfl (Nat.le_of_ble_eq_true rfl) (g := (mkF m 278 #[si p1, si p2, si p3, si p4, si p5, si p6, sr b88, si (Int32.ofNat (((([40] : List Int32) ++ own_blk p2) ++ own_blk p3) ++ own_blk p4).length), si (Int32.ofNat com.length), si (Int32.ofNat pl), si cl, si lb, si (Int32.ofNat (1 + ck)), si (Int32.ofNat lim), sr b108, .unset, .unset] [(.int r_141), (.int 6), (.ref b108)])) rfl rfl (hb hby at_278)
 have K143 : Keep h0 h142 [] := K138.wr W142 (Or.inr sz_b108)
 have N144 := Fr.snoc X142 N141 ge_b108
 refine go (S' := T142.setTop (mkF m 293 #[si p1, si p2, si p3, si p4, si p5, si p6, sr b88, si (Int32.ofNat (((([40] : List Int32) ++ own_blk p2) ++ own_blk p3) ++ own_blk p4).length), si (Int32.ofNat com.length), si (Int32.ofNat pl), si cl, si lb, si (Int32.ofNat (1 + ck)), si (Int32.ofNat lim), sr b108, .unset, .unset] [(.int (Int32.ofNat lim)), (.ref b88), (.int p5), (.int (Int32.ofNat pl)), (.int 7), (.int 7), (.ref b108)])) (fun t k => st142 _ (XS.aload X142.here hx rfl (hb hby at_279) rfl rfl (XS.bipush X142.here hx rfl (hb hby at_281) (XS.bipush X142.here hx rfl (hb hby at_283) (XS.iload X142.here hx rfl (hb hby at_285) rfl (XS.iload X142.here hx rfl (hb hby at_287) rfl (XS.aload X142.here hx rfl (hb hby at_289) rfl rfl (XS.iload X142.here hx rfl (hb hby at_291) rfl k)))))))) ?_
 refine go (S' := T142.setTop (mkF m 299 #[si p1, si p2, si p3, si p4, si p5, si p6, sr b88, si (Int32.ofNat (((([40] : List Int32) ++ own_blk p2) ++ own_blk p3) ++ own_blk p4).length), si (Int32.ofNat com.length), si (Int32.ofNat pl), si cl, si lb, si (Int32.ofNat (1 + ck)), si (Int32.ofNat lim), sr b108, .unset, .unset] [(.int lb), (.int cl), (.int p6), (.int (Int32.ofNat lim)), (.ref b88), (.int p5), (.int (Int32.ofNat pl)), (.int 7), (.int 7), (.ref b108)])) (fun t k => XS.iload X142.here hx rfl (hb hby at_293) rfl (XS.iload X142.here hx rfl (hb hby at_295) rfl (XS.iload X142.here hx rfl (hb hby at_297) rfl k))) ?_
 have f145 : Arv Z h142 b88 k88 .char (14 : Int32) (com.map Value.int) (.int 0) := (f140.other W142 (Nat.ne_of_lt lt_b88_b108))
 obtain ⟨v146, T146, L146, X146, hQ146, st146⟩ := callSt X142 hx hZ (y := y_2) hown (ww hw 8 rfl) (ww hw 9 rfl) (ww hw 3 rfl) (ww hw 10 rfl) (by decide) (backOf (W := 2) (rmCell l Z a0 hw [] p5 b88 p6 cl lb 7 pl lim k88 com h142 n0 (Nat.le_trans Z0 K143.1) (by decide) hpl hlm hcoml.2 hclat f145) hZ (ww hw 10 rfl) (ww hw 3 rfl) (by decide) (by decide)) (g := (mkF m 299 #[si p1, si p2, si p3, si p4, si p5, si p6, sr b88, si (Int32.ofNat (((([40] : List Int32) ++ own_blk p2) ++ own_blk p3) ++ own_blk p4).length), si (Int32.ofNat com.length), si (Int32.ofNat pl), si cl, si lb, si (Int32.ofNat (1 + ck)), si (Int32.ofNat lim), sr b108, .unset, .unset] [(.int lb), (.int cl), (.int p6), (.int (Int32.ofNat lim)), (.ref b88), (.int p5), (.int (Int32.ofNat pl)), (.int 7), (.int 7), (.ref b108)])) rfl (by rw [hml]; rfl) (kc := 0) (ks := 0) (argsL := [(.int 7), (.int (Int32.ofNat pl)), (.int p5), (.ref b88), (.int (Int32.ofNat lim)), (.int p6), (.int cl), (.int lb)]) (rest := [(.int 7), (.ref b108)]) (lenOf pd_3 rfl) rfl (mr0 rfl) (hb hby at_299) e142 (by decide) (by decide)
 obtain ⟨r_146, rfl, N146q, e146, q146_0⟩ := hQ146
 have N146 := Fr.app N144 N146q
 refine go (S' := T146.setTop (mkF m 302 #[si p1, si p2, si p3, si p4, si p5, si p6, sr b88, si (Int32.ofNat (((([40] : List Int32) ++ own_blk p2) ++ own_blk p3) ++ own_blk p4).length), si (Int32.ofNat com.length), si (Int32.ofNat pl), si cl, si lb, si (Int32.ofNat (1 + ck)), si (Int32.ofNat lim), sr b108, .unset, .unset] [(.int r_146), (.int 7), (.ref b108)])) st146 ?_
 obtain ⟨T147, h147, X147, e147, W147, V147, st147⟩ := putC X146 hx hZ e146 V142 (j := (7 : Int32)) (x := r_146) (own_lat16 q146_0.1) ⟨by decide, by decide⟩ (i := 7) rfl (Nat.le_of_ble_eq_true rfl) (g := (mkF m 302 #[si p1, si p2, si p3, si p4, si p5, si p6, sr b88, si (Int32.ofNat (((([40] : List Int32) ++ own_blk p2) ++ own_blk p3) ++ own_blk p4).length), si (Int32.ofNat com.length), si (Int32.ofNat pl), si cl, si lb, si (Int32.ofNat (1 + ck)), si (Int32.ofNat lim), sr b108, .unset, .unset] [(.int r_146), (.int 7), (.ref b108)])) rfl rfl (hb hby at_302)
 have K148 : Keep h0 h147 [] := K143.wr W147 (Or.inr sz_b108)
 have N149 := Fr.snoc X147 N146 ge_b108
 refine go (S' := T147.setTop (mkF m 317 #[si p1, si p2, si p3, si p4, si p5, si p6, sr b88, si (Int32.ofNat (((([40] : List Int32) ++ own_blk p2) ++ own_blk p3) ++ own_blk p4).length), si (Int32.ofNat com.length), si (Int32.ofNat pl), si cl, si lb, si (Int32.ofNat (1 + ck)), si (Int32.ofNat lim), sr b108, .unset, .unset] [(.int (Int32.ofNat lim)), (.ref b88), (.int p5), (.int (Int32.ofNat pl)), (.int 8), (.int 8), (.ref b108)])) (fun t k => st147 _ (XS.aload X147.here hx rfl (hb hby at_303) rfl rfl (XS.bipush X147.here hx rfl (hb hby at_305) (XS.bipush X147.here hx rfl (hb hby at_307) (XS.iload X147.here hx rfl (hb hby at_309) rfl (XS.iload X147.here hx rfl (hb hby at_311) rfl (XS.aload X147.here hx rfl (hb hby at_313) rfl rfl (XS.iload X147.here hx rfl (hb hby at_315) rfl k)))))))) ?_
 refine go (S' := T147.setTop (mkF m 323 #[si p1, si p2, si p3, si p4, si p5, si p6, sr b88, si (Int32.ofNat (((([40] : List Int32) ++ own_blk p2) ++ own_blk p3) ++ own_blk p4).length), si (Int32.ofNat com.length), si (Int32.ofNat pl), si cl, si lb, si (Int32.ofNat (1 + ck)), si (Int32.ofNat lim), sr b108, .unset, .unset] [(.int lb), (.int cl), (.int p6), (.int (Int32.ofNat lim)), (.ref b88), (.int p5), (.int (Int32.ofNat pl)), (.int 8), (.int 8), (.ref b108)])) (fun t k => XS.iload X147.here hx rfl (hb hby at_317) rfl (XS.iload X147.here hx rfl (hb hby at_319) rfl (XS.iload X147.here hx rfl (hb hby at_321) rfl k))) ?_
 have f150 : Arv Z h147 b88 k88 .char (14 : Int32) (com.map Value.int) (.int 0) := (f145.other W147 (Nat.ne_of_lt lt_b88_b108))
 obtain ⟨v151, T151, L151, X151, hQ151, st151⟩ := callSt X147 hx hZ (y := y_2) hown (ww hw 8 rfl) (ww hw 9 rfl) (ww hw 3 rfl) (ww hw 10 rfl) (by decide) (backOf (W := 2) (rmCell l Z a0 hw [] p5 b88 p6 cl lb 8 pl lim k88 com h147 n0 (Nat.le_trans Z0 K148.1) (by decide) hpl hlm hcoml.2 hclat f150) hZ (ww hw 10 rfl) (ww hw 3 rfl) (by decide) (by decide)) (g := (mkF m 323 #[si p1, si p2, si p3, si p4, si p5, si p6, sr b88, si (Int32.ofNat (((([40] : List Int32) ++ own_blk p2) ++ own_blk p3) ++ own_blk p4).length), si (Int32.ofNat com.length), si (Int32.ofNat pl), si cl, si lb, si (Int32.ofNat (1 + ck)), si (Int32.ofNat lim), sr b108, .unset, .unset] [(.int lb), (.int cl), (.int p6), (.int (Int32.ofNat lim)), (.ref b88), (.int p5), (.int (Int32.ofNat pl)), (.int 8), (.int 8), (.ref b108)])) rfl (by rw [hml]; rfl) (kc := 0) (ks := 0) (argsL := [(.int 8), (.int (Int32.ofNat pl)), (.int p5), (.ref b88), (.int (Int32.ofNat lim)), (.int p6), (.int cl), (.int lb)]) (rest := [(.int 8), (.ref b108)]) (lenOf pd_3 rfl) rfl (mr0 rfl) (hb hby at_323) e147 (by decide) (by decide)
 obtain ⟨r_151, rfl, N151q, e151, q151_0⟩ := hQ151
 have N151 := Fr.app N149 N151q
 refine go (S' := T151.setTop (mkF m 326 #[si p1, si p2, si p3, si p4, si p5, si p6, sr b88, si (Int32.ofNat (((([40] : List Int32) ++ own_blk p2) ++ own_blk p3) ++ own_blk p4).length), si (Int32.ofNat com.length), si (Int32.ofNat pl), si cl, si lb, si (Int32.ofNat (1 + ck)), si (Int32.ofNat lim), sr b108, .unset, .unset] [(.int r_151), (.int 8), (.ref b108)])) st151 ?_
 obtain ⟨T152, h152, X152, e152, W152, V152, st152⟩ := putC X151 hx hZ e151 V147 (j := (8 : Int32)) (x := r_151) (own_lat16 q151_0.1) ⟨by decide, by decide⟩ (i := 8) rfl (Nat.le_of_ble_eq_true rfl) (g := (mkF m 326 #[si p1, si p2, si p3, si p4, si p5, si p6, sr b88, si (Int32.ofNat (((([40] : List Int32) ++ own_blk p2) ++ own_blk p3) ++ own_blk p4).length), si (Int32.ofNat com.length), si (Int32.ofNat pl), si cl, si lb, si (Int32.ofNat (1 + ck)), si (Int32.ofNat lim), sr b108, .unset, .unset] [(.int r_151), (.int 8), (.ref b108)])) rfl rfl (hb hby at_326)
 have K153 : Keep h0 h152 [] := K148.wr W152 (Or.inr sz_b108)
 have N154 := Fr.snoc X152 N151 ge_b108
 refine go (S' := T152.setTop (mkF m 341 #[si p1, si p2, si p3, si p4, si p5, si p6, sr b88, si (Int32.ofNat (((([40] : List Int32) ++ own_blk p2) ++ own_blk p3) ++ own_blk p4).length), si (Int32.ofNat com.length), si (Int32.ofNat pl), si cl, si lb, si (Int32.ofNat (1 + ck)), si (Int32.ofNat lim), sr b108, .unset, .unset] [(.int (Int32.ofNat lim)), (.ref b88), (.int p5), (.int (Int32.ofNat pl)), (.int 9), (.int 9), (.ref b108)])) (fun t k => st152 _ (XS.aload X152.here hx rfl (hb hby at_327) rfl rfl (XS.bipush X152.here hx rfl (hb hby at_329) (XS.bipush X152.here hx rfl (hb hby at_331) (XS.iload X152.here hx rfl (hb hby at_333) rfl (XS.iload X152.here hx rfl (hb hby at_335) rfl (XS.aload X152.here hx rfl (hb hby at_337) rfl rfl (XS.iload X152.here hx rfl (hb hby at_339) rfl k)))))))) ?_
 refine go (S' := T152.setTop (mkF m 347 #[si p1, si p2, si p3, si p4, si p5, si p6, sr b88, si (Int32.ofNat (((([40] : List Int32) ++ own_blk p2) ++ own_blk p3) ++ own_blk p4).length), si (Int32.ofNat com.length), si (Int32.ofNat pl), si cl, si lb, si (Int32.ofNat (1 + ck)), si (Int32.ofNat lim), sr b108, .unset, .unset] [(.int lb), (.int cl), (.int p6), (.int (Int32.ofNat lim)), (.ref b88), (.int p5), (.int (Int32.ofNat pl)), (.int 9), (.int 9), (.ref b108)])) (fun t k => XS.iload X152.here hx rfl (hb hby at_341) rfl (XS.iload X152.here hx rfl (hb hby at_343) rfl (XS.iload X152.here hx rfl (hb hby at_345) rfl k))) ?_
 have f155 : Arv Z h152 b88 k88 .char (14 : Int32) (com.map Value.int) (.int 0) := (f150.other W152 (Nat.ne_of_lt lt_b88_b108))
 obtain ⟨v156, T156, L156, X156, hQ156, st156⟩ := callSt X152 hx hZ (y := y_2) hown (ww hw 8 rfl) (ww hw 9 rfl) (ww hw 3 rfl) (ww hw 10 rfl) (by decide) (backOf (W := 2) (rmCell l Z a0 hw [] p5 b88 p6 cl lb 9 pl lim k88 com h152 n0 (Nat.le_trans Z0 K153.1) (by decide) hpl hlm hcoml.2 hclat f155) hZ (ww hw 10 rfl) (ww hw 3 rfl) (by decide) (by decide)) (g := (mkF m 347 #[si p1, si p2, si p3, si p4, si p5, si p6, sr b88, si (Int32.ofNat (((([40] : List Int32) ++ own_blk p2) ++ own_blk p3) ++ own_blk p4).length), si (Int32.ofNat com.length), si (Int32.ofNat pl), si cl, si lb, si (Int32.ofNat (1 + ck)), si (Int32.ofNat lim), sr b108, .unset, .unset] [(.int lb), (.int cl), (.int p6), (.int (Int32.ofNat lim)), (.ref b88), (.int p5), (.int (Int32.ofNat pl)), (.int 9), (.int 9), (.ref b108)])) rfl (by rw [hml]; rfl) (kc := 0) (ks := 0) (argsL := [(.int 9), (.int (Int32.ofNat pl)), (.int p5), (.ref b88), (.int (Int32.ofNat lim)), (.int p6), (.int cl), (.int lb)]) (rest := [(.int 9), (.ref b108)]) (lenOf pd_3 rfl) rfl (mr0 rfl) (hb hby at_347) e152 (by decide) (by decide)
 obtain ⟨r_156, rfl, N156q, e156, q156_0⟩ := hQ156
 have N156 := Fr.app N154 N156q
 refine go (S' := T156.setTop (mkF m 350 #[si p1, si p2, si p3, si p4, si p5, si p6, sr b88, si (Int32.ofNat (((([40] : List Int32) ++ own_blk p2) ++ own_blk p3) ++ own_blk p4).length), si (Int32.ofNat com.length), si (Int32.ofNat pl), si cl, si lb, si (Int32.ofNat (1 + ck)), si (Int32.ofNat lim), sr b108, .unset, .unset] [(.int r_156), (.int 9), (.ref b108)])) st156 ?_
 obtain ⟨T157, h157, X157, e157, W157, V157, st157⟩ := putC X156 hx hZ e156 V152 (j := (9 : Int32)) (x := r_156) (own_lat16 q156_0.1) ⟨by decide, by decide⟩ (i := 9) rfl (Nat.le_of_ble_eq_true rfl) (g := (mkF m 350 #[si p1, si p2, si p3, si p4, si p5, si p6, sr b88, si (Int32.ofNat (((([40] : List Int32) ++ own_blk p2) ++ own_blk p3) ++ own_blk p4).length), si (Int32.ofNat com.length), si (Int32.ofNat pl), si cl, si lb, si (Int32.ofNat (1 + ck)), si (Int32.ofNat lim), sr b108, .unset, .unset] [(.int r_156), (.int 9), (.ref b108)])) rfl rfl (hb hby at_350)
 have K158 : Keep h0 h157 [] := K153.wr W157 (Or.inr sz_b108)
 have N159 := Fr.snoc X157 N156 ge_b108
 refine go (S' := T157.setTop (mkF m 365 #[si p1, si p2, si p3, si p4, si p5, si p6, sr b88, si (Int32.ofNat (((([40] : List Int32) ++ own_blk p2) ++ own_blk p3) ++ own_blk p4).length), si (Int32.ofNat com.length), si (Int32.ofNat pl), si cl, si lb, si (Int32.ofNat (1 + ck)), si (Int32.ofNat lim), sr b108, .unset, .unset] [(.int (Int32.ofNat lim)), (.ref b88), (.int p5), (.int (Int32.ofNat pl)), (.int 10), (.int 10), (.ref b108)])) (fun t k => st157 _ (XS.aload X157.here hx rfl (hb hby at_351) rfl rfl (XS.bipush X157.here hx rfl (hb hby at_353) (XS.bipush X157.here hx rfl (hb hby at_355) (XS.iload X157.here hx rfl (hb hby at_357) rfl (XS.iload X157.here hx rfl (hb hby at_359) rfl (XS.aload X157.here hx rfl (hb hby at_361) rfl rfl (XS.iload X157.here hx rfl (hb hby at_363) rfl k)))))))) ?_
 refine go (S' := T157.setTop (mkF m 371 #[si p1, si p2, si p3, si p4, si p5, si p6, sr b88, si (Int32.ofNat (((([40] : List Int32) ++ own_blk p2) ++ own_blk p3) ++ own_blk p4).length), si (Int32.ofNat com.length), si (Int32.ofNat pl), si cl, si lb, si (Int32.ofNat (1 + ck)), si (Int32.ofNat lim), sr b108, .unset, .unset] [(.int lb), (.int cl), (.int p6), (.int (Int32.ofNat lim)), (.ref b88), (.int p5), (.int (Int32.ofNat pl)), (.int 10), (.int 10), (.ref b108)])) (fun t k => XS.iload X157.here hx rfl (hb hby at_365) rfl (XS.iload X157.here hx rfl (hb hby at_367) rfl (XS.iload X157.here hx rfl (hb hby at_369) rfl k))) ?_
 have f160 : Arv Z h157 b88 k88 .char (14 : Int32) (com.map Value.int) (.int 0) := (f155.other W157 (Nat.ne_of_lt lt_b88_b108))
 obtain ⟨v161, T161, L161, X161, hQ161, st161⟩ := callSt X157 hx hZ (y := y_2) hown (ww hw 8 rfl) (ww hw 9 rfl) (ww hw 3 rfl) (ww hw 10 rfl) (by decide) (backOf (W := 2) (rmCell l Z a0 hw [] p5 b88 p6 cl lb 10 pl lim k88 com h157 n0 (Nat.le_trans Z0 K158.1) (by decide) hpl hlm hcoml.2 hclat f160) hZ (ww hw 10 rfl) (ww hw 3 rfl) (by decide) (by decide)) (g := (mkF m 371 #[si p1, si p2, si p3, si p4, si p5, si p6, sr b88, si (Int32.ofNat (((([40] : List Int32) ++ own_blk p2) ++ own_blk p3) ++ own_blk p4).length), si (Int32.ofNat com.length), si (Int32.ofNat pl), si cl, si lb, si (Int32.ofNat (1 + ck)), si (Int32.ofNat lim), sr b108, .unset, .unset] [(.int lb), (.int cl), (.int p6), (.int (Int32.ofNat lim)), (.ref b88), (.int p5), (.int (Int32.ofNat pl)), (.int 10), (.int 10), (.ref b108)])) rfl (by rw [hml]; rfl) (kc := 0) (ks := 0) (argsL := [(.int 10), (.int (Int32.ofNat pl)), (.int p5), (.ref b88), (.int (Int32.ofNat lim)), (.int p6), (.int cl), (.int lb)]) (rest := [(.int 10), (.ref b108)]) (lenOf pd_3 rfl) rfl (mr0 rfl) (hb hby at_371) e157 (by decide) (by decide)
 obtain ⟨r_161, rfl, N161q, e161, q161_0⟩ := hQ161
 have N161 := Fr.app N159 N161q
 refine go (S' := T161.setTop (mkF m 374 #[si p1, si p2, si p3, si p4, si p5, si p6, sr b88, si (Int32.ofNat (((([40] : List Int32) ++ own_blk p2) ++ own_blk p3) ++ own_blk p4).length), si (Int32.ofNat com.length), si (Int32.ofNat pl), si cl, si lb, si (Int32.ofNat (1 + ck)), si (Int32.ofNat lim), sr b108, .unset, .unset] [(.int r_161), (.int 10), (.ref b108)])) st161 ?_
 obtain ⟨T162, h162, X162, e162, W162, V162, st162⟩ := putC X161 hx hZ e161 V157 (j := (10 : Int32)) (x := r_161) (own_lat16 q161_0.1) ⟨by decide, by decide⟩ (i := 10) rfl (Nat.le_of_ble_eq_true rfl) (g := (mkF m 374 #[si p1, si p2, si p3, si p4, si p5, si p6, sr b88, si (Int32.ofNat (((([40] : List Int32) ++ own_blk p2) ++ own_blk p3) ++ own_blk p4).length), si (Int32.ofNat com.length), si (Int32.ofNat pl), si cl, si lb, si (Int32.ofNat (1 + ck)), si (Int32.ofNat lim), sr b108, .unset, .unset] [(.int r_161), (.int 10), (.ref b108)])) rfl rfl (hb hby at_374)
 have K163 : Keep h0 h162 [] := K158.wr W162 (Or.inr sz_b108)
 have N164 := Fr.snoc X162 N161 ge_b108
 refine go (S' := T162.setTop (mkF m 389 #[si p1, si p2, si p3, si p4, si p5, si p6, sr b88, si (Int32.ofNat (((([40] : List Int32) ++ own_blk p2) ++ own_blk p3) ++ own_blk p4).length), si (Int32.ofNat com.length), si (Int32.ofNat pl), si cl, si lb, si (Int32.ofNat (1 + ck)), si (Int32.ofNat lim), sr b108, .unset, .unset] [(.int (Int32.ofNat lim)), (.ref b88), (.int p5), (.int (Int32.ofNat pl)), (.int 11), (.int 11), (.ref b108)])) (fun t k => st162 _ (XS.aload X162.here hx rfl (hb hby at_375) rfl rfl (XS.bipush X162.here hx rfl (hb hby at_377) (XS.bipush X162.here hx rfl (hb hby at_379) (XS.iload X162.here hx rfl (hb hby at_381) rfl (XS.iload X162.here hx rfl (hb hby at_383) rfl (XS.aload X162.here hx rfl (hb hby at_385) rfl rfl (XS.iload X162.here hx rfl (hb hby at_387) rfl k)))))))) ?_
 refine go (S' := T162.setTop (mkF m 395 #[si p1, si p2, si p3, si p4, si p5, si p6, sr b88, si (Int32.ofNat (((([40] : List Int32) ++ own_blk p2) ++ own_blk p3) ++ own_blk p4).length), si (Int32.ofNat com.length), si (Int32.ofNat pl), si cl, si lb, si (Int32.ofNat (1 + ck)), si (Int32.ofNat lim), sr b108, .unset, .unset] [(.int lb), (.int cl), (.int p6), (.int (Int32.ofNat lim)), (.ref b88), (.int p5), (.int (Int32.ofNat pl)), (.int 11), (.int 11), (.ref b108)])) (fun t k => XS.iload X162.here hx rfl (hb hby at_389) rfl (XS.iload X162.here hx rfl (hb hby at_391) rfl (XS.iload X162.here hx rfl (hb hby at_393) rfl k))) ?_
 have f165 : Arv Z h162 b88 k88 .char (14 : Int32) (com.map Value.int) (.int 0) := (f160.other W162 (Nat.ne_of_lt lt_b88_b108))
 obtain ⟨v166, T166, L166, X166, hQ166, st166⟩ := callSt X162 hx hZ (y := y_2) hown (ww hw 8 rfl) (ww hw 9 rfl) (ww hw 3 rfl) (ww hw 10 rfl) (by decide) (backOf (W := 2) (rmCell l Z a0 hw [] p5 b88 p6 cl lb 11 pl lim k88 com h162 n0 (Nat.le_trans Z0 K163.1) (by decide) hpl hlm hcoml.2 hclat f165) hZ (ww hw 10 rfl) (ww hw 3 rfl) (by decide) (by decide)) (g := (mkF m 395 #[si p1, si p2, si p3, si p4, si p5, si p6, sr b88, si (Int32.ofNat (((([40] : List Int32) ++ own_blk p2) ++ own_blk p3) ++ own_blk p4).length), si (Int32.ofNat com.length), si (Int32.ofNat pl), si cl, si lb, si (Int32.ofNat (1 + ck)), si (Int32.ofNat lim), sr b108, .unset, .unset] [(.int lb), (.int cl), (.int p6), (.int (Int32.ofNat lim)), (.ref b88), (.int p5), (.int (Int32.ofNat pl)), (.int 11), (.int 11), (.ref b108)])) rfl (by rw [hml]; rfl) (kc := 0) (ks := 0) (argsL := [(.int 11), (.int (Int32.ofNat pl)), (.int p5), (.ref b88), (.int (Int32.ofNat lim)), (.int p6), (.int cl), (.int lb)]) (rest := [(.int 11), (.ref b108)]) (lenOf pd_3 rfl) rfl (mr0 rfl) (hb hby at_395) e162 (by decide) (by decide)
 obtain ⟨r_166, rfl, N166q, e166, q166_0⟩ := hQ166
 have N166 := Fr.app N164 N166q
 refine go (S' := T166.setTop (mkF m 398 #[si p1, si p2, si p3, si p4, si p5, si p6, sr b88, si (Int32.ofNat (((([40] : List Int32) ++ own_blk p2) ++ own_blk p3) ++ own_blk p4).length), si (Int32.ofNat com.length), si (Int32.ofNat pl), si cl, si lb, si (Int32.ofNat (1 + ck)), si (Int32.ofNat lim), sr b108, .unset, .unset] [(.int r_166), (.int 11), (.ref b108)])) st166 ?_
 obtain ⟨T167, h167, X167, e167, W167, V167, st167⟩ := putC X166 hx hZ e166 V162 (j := (11 : Int32)) (x := r_166) (own_lat16 q166_0.1) ⟨by decide, by decide⟩ (i := 11) rfl (Nat.le_of_ble_eq_true rfl) (g := (mkF m 398 #[si p1, si p2, si p3, si p4, si p5, si p6, sr b88, si (Int32.ofNat (((([40] : List Int32) ++ own_blk p2) ++ own_blk p3) ++ own_blk p4).length), si (Int32.ofNat com.length), si (Int32.ofNat pl), si cl, si lb, si (Int32.ofNat (1 + ck)), si (Int32.ofNat lim), sr b108, .unset, .unset] [(.int r_166), (.int 11), (.ref b108)])) rfl rfl (hb hby at_398)
 have K168 : Keep h0 h167 [] := K163.wr W167 (Or.inr sz_b108)
 have N169 := Fr.snoc X167 N166 ge_b108
 refine go (S' := T167.setTop (mkF m 413 #[si p1, si p2, si p3, si p4, si p5, si p6, sr b88, si (Int32.ofNat (((([40] : List Int32) ++ own_blk p2) ++ own_blk p3) ++ own_blk p4).length), si (Int32.ofNat com.length), si (Int32.ofNat pl), si cl, si lb, si (Int32.ofNat (1 + ck)), si (Int32.ofNat lim), sr b108, .unset, .unset] [(.int (Int32.ofNat lim)), (.ref b88), (.int p5), (.int (Int32.ofNat pl)), (.int 12), (.int 12), (.ref b108)])) (fun t k => st167 _ (XS.aload X167.here hx rfl (hb hby at_399) rfl rfl (XS.bipush X167.here hx rfl (hb hby at_401) (XS.bipush X167.here hx rfl (hb hby at_403) (XS.iload X167.here hx rfl (hb hby at_405) rfl (XS.iload X167.here hx rfl (hb hby at_407) rfl (XS.aload X167.here hx rfl (hb hby at_409) rfl rfl (XS.iload X167.here hx rfl (hb hby at_411) rfl k)))))))) ?_
 refine go (S' := T167.setTop (mkF m 419 #[si p1, si p2, si p3, si p4, si p5, si p6, sr b88, si (Int32.ofNat (((([40] : List Int32) ++ own_blk p2) ++ own_blk p3) ++ own_blk p4).length), si (Int32.ofNat com.length), si (Int32.ofNat pl), si cl, si lb, si (Int32.ofNat (1 + ck)), si (Int32.ofNat lim), sr b108, .unset, .unset] [(.int lb), (.int cl), (.int p6), (.int (Int32.ofNat lim)), (.ref b88), (.int p5), (.int (Int32.ofNat pl)), (.int 12), (.int 12), (.ref b108)])) (fun t k => XS.iload X167.here hx rfl (hb hby at_413) rfl (XS.iload X167.here hx rfl (hb hby at_415) rfl (XS.iload X167.here hx rfl (hb hby at_417) rfl k))) ?_
 have f170 : Arv Z h167 b88 k88 .char (14 : Int32) (com.map Value.int) (.int 0) := (f165.other W167 (Nat.ne_of_lt lt_b88_b108))
 obtain ⟨v171, T171, L171, X171, hQ171, st171⟩ := callSt X167 hx hZ (y := y_2) hown (ww hw 8 rfl) (ww hw 9 rfl) (ww hw 3 rfl) (ww hw 10 rfl) (by decide) (backOf (W := 2) (rmCell l Z a0 hw [] p5 b88 p6 cl lb 12 pl lim k88 com h167 n0 (Nat.le_trans Z0 K168.1) (by decide) hpl hlm hcoml.2 hclat f170) hZ (ww hw 10 rfl) (ww hw 3 rfl) (by decide) (by decide)) (g := (mkF m 419 #[si p1, si p2, si p3, si p4, si p5, si p6, sr b88, si (Int32.ofNat (((([40] : List Int32) ++ own_blk p2) ++ own_blk p3) ++ own_blk p4).length), si (Int32.ofNat com.length), si (Int32.ofNat pl), si cl, si lb, si (Int32.ofNat (1 + ck)), si (Int32.ofNat lim), sr b108, .unset, .unset] [(.int lb), (.int cl), (.int p6), (.int (Int32.ofNat lim)), (.ref b88), (.int p5), (.int (Int32.ofNat pl)), (.int 12), (.int 12), (.ref b108)])) rfl (by rw [hml]; rfl) (kc := 0) (ks := 0) (argsL := [(.int 12), (.int (Int32.ofNat pl)), (.int p5), (.ref b88), (.int (Int32.ofNat lim)), (.int p6), (.int cl), (.int lb)]) (rest := [(.int 12), (.ref b108)]) (lenOf pd_3 rfl) rfl (mr0 rfl) (hb hby at_419) e167 (by decide) (by decide)
 obtain ⟨r_171, rfl, N171q, e171, q171_0⟩ := hQ171
 have N171 := Fr.app N169 N171q
 refine go (S' := T171.setTop (mkF m 422 #[si p1, si p2, si p3, si p4, si p5, si p6, sr b88, si (Int32.ofNat (((([40] : List Int32) ++ own_blk p2) ++ own_blk p3) ++ own_blk p4).length), si (Int32.ofNat com.length), si (Int32.ofNat pl), si cl, si lb, si (Int32.ofNat (1 + ck)), si (Int32.ofNat lim), sr b108, .unset, .unset] [(.int r_171), (.int 12), (.ref b108)])) st171 ?_
 obtain ⟨T172, h172, X172, e172, W172, V172, st172⟩ := putC X171 hx hZ e171 V167 (j := (12 : Int32)) (x := r_171) (own_lat16 q171_0.1) ⟨by decide, by decide⟩ (i := 12) rfl (Nat.le_of_ble_eq_true rfl) (g := (mkF m 422 #[si p1, si p2, si p3, si p4, si p5, si p6, sr b88, si (Int32.ofNat (((([40] : List Int32) ++ own_blk p2) ++ own_blk p3) ++ own_blk p4).length), si (Int32.ofNat com.length), si (Int32.ofNat pl), si cl, si lb, si (Int32.ofNat (1 + ck)), si (Int32.ofNat lim), sr b108, .unset, .unset] [(.int r_171), (.int 12), (.ref b108)])) rfl rfl (hb hby at_422)
 have K173 : Keep h0 h172 [] := K168.wr W172 (Or.inr sz_b108)
 have N174 := Fr.snoc X172 N171 ge_b108
 refine go (S' := T172.setTop (mkF m 437 #[si p1, si p2, si p3, si p4, si p5, si p6, sr b88, si (Int32.ofNat (((([40] : List Int32) ++ own_blk p2) ++ own_blk p3) ++ own_blk p4).length), si (Int32.ofNat com.length), si (Int32.ofNat pl), si cl, si lb, si (Int32.ofNat (1 + ck)), si (Int32.ofNat lim), sr b108, .unset, .unset] [(.int (Int32.ofNat lim)), (.ref b88), (.int p5), (.int (Int32.ofNat pl)), (.int 13), (.int 13), (.ref b108)])) (fun t k => st172 _ (XS.aload X172.here hx rfl (hb hby at_423) rfl rfl (XS.bipush X172.here hx rfl (hb hby at_425) (XS.bipush X172.here hx rfl (hb hby at_427) (XS.iload X172.here hx rfl (hb hby at_429) rfl (XS.iload X172.here hx rfl (hb hby at_431) rfl (XS.aload X172.here hx rfl (hb hby at_433) rfl rfl (XS.iload X172.here hx rfl (hb hby at_435) rfl k)))))))) ?_
 refine go (S' := T172.setTop (mkF m 443 #[si p1, si p2, si p3, si p4, si p5, si p6, sr b88, si (Int32.ofNat (((([40] : List Int32) ++ own_blk p2) ++ own_blk p3) ++ own_blk p4).length), si (Int32.ofNat com.length), si (Int32.ofNat pl), si cl, si lb, si (Int32.ofNat (1 + ck)), si (Int32.ofNat lim), sr b108, .unset, .unset] [(.int lb), (.int cl), (.int p6), (.int (Int32.ofNat lim)), (.ref b88), (.int p5), (.int (Int32.ofNat pl)), (.int 13), (.int 13), (.ref b108)])) (fun t k => XS.iload X172.here hx rfl (hb hby at_437) rfl (XS.iload X172.here hx rfl (hb hby at_439) rfl (XS.iload X172.here hx rfl (hb hby at_441) rfl k))) ?_
 have f175 : Arv Z h172 b88 k88 .char (14 : Int32) (com.map Value.int) (.int 0) := (f170.other W172 (Nat.ne_of_lt lt_b88_b108))
 obtain ⟨v176, T176, L176, X176, hQ176, st176⟩ := callSt X172 hx hZ (y := y_2) hown (ww hw 8 rfl) (ww hw 9 rfl) (ww hw 3 rfl) (ww hw 10 rfl) (by decide) (backOf (W := 2) (rmCell l Z a0 hw [] p5 b88 p6 cl lb 13 pl lim k88 com h172 n0 (Nat.le_trans Z0 K173.1) (by decide) hpl hlm hcoml.2 hclat f175) hZ (ww hw 10 rfl) (ww hw 3 rfl) (by decide) (by decide)) (g := (mkF m 443 #[si p1, si p2, si p3, si p4, si p5, si p6, sr b88, si (Int32.ofNat (((([40] : List Int32) ++ own_blk p2) ++ own_blk p3) ++ own_blk p4).length), si (Int32.ofNat com.length), si (Int32.ofNat pl), si cl, si lb, si (Int32.ofNat (1 + ck)), si (Int32.ofNat lim), sr b108, .unset, .unset] [(.int lb), (.int cl), (.int p6), (.int (Int32.ofNat lim)), (.ref b88), (.int p5), (.int (Int32.ofNat pl)), (.int 13), (.int 13), (.ref b108)])) rfl (by rw [hml]; rfl) (kc := 0) (ks := 0) (argsL := [(.int 13), (.int (Int32.ofNat pl)), (.int p5), (.ref b88), (.int (Int32.ofNat lim)), (.int p6), (.int cl), (.int lb)]) (rest := [(.int 13), (.ref b108)]) (lenOf pd_3 rfl) rfl (mr0 rfl) (hb hby at_443) e172 (by decide) (by decide)
 obtain ⟨r_176, rfl, N176q, e176, q176_0⟩ := hQ176
 have N176 := Fr.app N174 N176q
 refine go (S' := T176.setTop (mkF m 446 #[si p1, si p2, si p3, si p4, si p5, si p6, sr b88, si (Int32.ofNat (((([40] : List Int32) ++ own_blk p2) ++ own_blk p3) ++ own_blk p4).length), si (Int32.ofNat com.length), si (Int32.ofNat pl), si cl, si lb, si (Int32.ofNat (1 + ck)), si (Int32.ofNat lim), sr b108, .unset, .unset] [(.int r_176), (.int 13), (.ref b108)])) st176 ?_
 obtain ⟨T177, h177, X177, e177, W177, V177, st177⟩ := putC X176 hx hZ e176 V172 (j := (13 : Int32)) (x := r_176) (own_lat16 q176_0.1) ⟨by decide, by decide⟩ (i := 13) rfl (Nat.le_of_ble_eq_true rfl) (g := (mkF m 446 #[si p1, si p2, si p3, si p4, si p5, si p6, sr b88, si (Int32.ofNat (((([40] : List Int32) ++ own_blk p2) ++ own_blk p3) ++ own_blk p4).length), si (Int32.ofNat com.length), si (Int32.ofNat pl), si cl, si lb, si (Int32.ofNat (1 + ck)), si (Int32.ofNat lim), sr b108, .unset, .unset] [(.int r_176), (.int 13), (.ref b108)])) rfl rfl (hb hby at_446)
 have K178 : Keep h0 h177 [] := K173.wr W177 (Or.inr sz_b108)
 have N179 := Fr.snoc X177 N176 ge_b108
 refine go (S' := T177.setTop (mkF m 461 #[si p1, si p2, si p3, si p4, si p5, si p6, sr b88, si (Int32.ofNat (((([40] : List Int32) ++ own_blk p2) ++ own_blk p3) ++ own_blk p4).length), si (Int32.ofNat com.length), si (Int32.ofNat pl), si cl, si lb, si (Int32.ofNat (1 + ck)), si (Int32.ofNat lim), sr b108, .unset, .unset] [(.int (Int32.ofNat lim)), (.ref b88), (.int p5), (.int (Int32.ofNat pl)), (.int 14), (.int 14), (.ref b108)])) (fun t k => st177 _ (XS.aload X177.here hx rfl (hb hby at_447) rfl rfl (XS.bipush X177.here hx rfl (hb hby at_449) (XS.bipush X177.here hx rfl (hb hby at_451) (XS.iload X177.here hx rfl (hb hby at_453) rfl (XS.iload X177.here hx rfl (hb hby at_455) rfl (XS.aload X177.here hx rfl (hb hby at_457) rfl rfl (XS.iload X177.here hx rfl (hb hby at_459) rfl k)))))))) ?_
 refine go (S' := T177.setTop (mkF m 467 #[si p1, si p2, si p3, si p4, si p5, si p6, sr b88, si (Int32.ofNat (((([40] : List Int32) ++ own_blk p2) ++ own_blk p3) ++ own_blk p4).length), si (Int32.ofNat com.length), si (Int32.ofNat pl), si cl, si lb, si (Int32.ofNat (1 + ck)), si (Int32.ofNat lim), sr b108, .unset, .unset] [(.int lb), (.int cl), (.int p6), (.int (Int32.ofNat lim)), (.ref b88), (.int p5), (.int (Int32.ofNat pl)), (.int 14), (.int 14), (.ref b108)])) (fun t k => XS.iload X177.here hx rfl (hb hby at_461) rfl (XS.iload X177.here hx rfl (hb hby at_463) rfl (XS.iload X177.here hx rfl (hb hby at_465) rfl k))) ?_
 have f180 : Arv Z h177 b88 k88 .char (14 : Int32) (com.map Value.int) (.int 0) := (f175.other W177 (Nat.ne_of_lt lt_b88_b108))
 obtain ⟨v181, T181, L181, X181, hQ181, st181⟩ := callSt X177 hx hZ (y := y_2) hown (ww hw 8 rfl) (ww hw 9 rfl) (ww hw 3 rfl) (ww hw 10 rfl) (by decide) (backOf (W := 2) (rmCell l Z a0 hw [] p5 b88 p6 cl lb 14 pl lim k88 com h177 n0 (Nat.le_trans Z0 K178.1) (by decide) hpl hlm hcoml.2 hclat f180) hZ (ww hw 10 rfl) (ww hw 3 rfl) (by decide) (by decide)) (g := (mkF m 467 #[si p1, si p2, si p3, si p4, si p5, si p6, sr b88, si (Int32.ofNat (((([40] : List Int32) ++ own_blk p2) ++ own_blk p3) ++ own_blk p4).length), si (Int32.ofNat com.length), si (Int32.ofNat pl), si cl, si lb, si (Int32.ofNat (1 + ck)), si (Int32.ofNat lim), sr b108, .unset, .unset] [(.int lb), (.int cl), (.int p6), (.int (Int32.ofNat lim)), (.ref b88), (.int p5), (.int (Int32.ofNat pl)), (.int 14), (.int 14), (.ref b108)])) rfl (by rw [hml]; rfl) (kc := 0) (ks := 0) (argsL := [(.int 14), (.int (Int32.ofNat pl)), (.int p5), (.ref b88), (.int (Int32.ofNat lim)), (.int p6), (.int cl), (.int lb)]) (rest := [(.int 14), (.ref b108)]) (lenOf pd_3 rfl) rfl (mr0 rfl) (hb hby at_467) e177 (by decide) (by decide)
 obtain ⟨r_181, rfl, N181q, e181, q181_0⟩ := hQ181
 have N181 := Fr.app N179 N181q
 refine go (S' := T181.setTop (mkF m 470 #[si p1, si p2, si p3, si p4, si p5, si p6, sr b88, si (Int32.ofNat (((([40] : List Int32) ++ own_blk p2) ++ own_blk p3) ++ own_blk p4).length), si (Int32.ofNat com.length), si (Int32.ofNat pl), si cl, si lb, si (Int32.ofNat (1 + ck)), si (Int32.ofNat lim), sr b108, .unset, .unset] [(.int r_181), (.int 14), (.ref b108)])) st181 ?_
 obtain ⟨T182, h182, X182, e182, W182, V182, st182⟩ := putC X181 hx hZ e181 V177 (j := (14 : Int32)) (x := r_181) (own_lat16 q181_0.1) ⟨by decide, by decide⟩ (i := 14) rfl (Nat.le_of_ble_eq_true rfl) (g := (mkF m 470 #[si p1, si p2, si p3, si p4, si p5, si p6, sr b88, si (Int32.ofNat (((([40] : List Int32) ++ own_blk p2) ++ own_blk p3) ++ own_blk p4).length), si (Int32.ofNat com.length), si (Int32.ofNat pl), si cl, si lb, si (Int32.ofNat (1 + ck)), si (Int32.ofNat lim), sr b108, .unset, .unset] [(.int r_181), (.int 14), (.ref b108)])) rfl rfl (hb hby at_470)
 have K183 : Keep h0 h182 [] := K178.wr W182 (Or.inr sz_b108)
 have N184 := Fr.snoc X182 N181 ge_b108
 refine go (S' := T182.setTop (mkF m 485 #[si p1, si p2, si p3, si p4, si p5, si p6, sr b88, si (Int32.ofNat (((([40] : List Int32) ++ own_blk p2) ++ own_blk p3) ++ own_blk p4).length), si (Int32.ofNat com.length), si (Int32.ofNat pl), si cl, si lb, si (Int32.ofNat (1 + ck)), si (Int32.ofNat lim), sr b108, .unset, .unset] [(.int (Int32.ofNat lim)), (.ref b88), (.int p5), (.int (Int32.ofNat pl)), (.int 15), (.int 15), (.ref b108)])) (fun t k => st182 _ (XS.aload X182.here hx rfl (hb hby at_471) rfl rfl (XS.bipush X182.here hx rfl (hb hby at_473) (XS.bipush X182.here hx rfl (hb hby at_475) (XS.iload X182.here hx rfl (hb hby at_477) rfl (XS.iload X182.here hx rfl (hb hby at_479) rfl (XS.aload X182.here hx rfl (hb hby at_481) rfl rfl (XS.iload X182.here hx rfl (hb hby at_483) rfl k)))))))) ?_
 refine go (S' := T182.setTop (mkF m 491 #[si p1, si p2, si p3, si p4, si p5, si p6, sr b88, si (Int32.ofNat (((([40] : List Int32) ++ own_blk p2) ++ own_blk p3) ++ own_blk p4).length), si (Int32.ofNat com.length), si (Int32.ofNat pl), si cl, si lb, si (Int32.ofNat (1 + ck)), si (Int32.ofNat lim), sr b108, .unset, .unset] [(.int lb), (.int cl), (.int p6), (.int (Int32.ofNat lim)), (.ref b88), (.int p5), (.int (Int32.ofNat pl)), (.int 15), (.int 15), (.ref b108)])) (fun t k => XS.iload X182.here hx rfl (hb hby at_485) rfl (XS.iload X182.here hx rfl (hb hby at_487) rfl (XS.iload X182.here hx rfl (hb hby at_489) rfl k))) ?_
 have f185 : Arv Z h182 b88 k88 .char (14 : Int32) (com.map Value.int) (.int 0) := (f180.other W182 (Nat.ne_of_lt lt_b88_b108))
 obtain ⟨v186, T186, L186, X186, hQ186, st186⟩ := callSt X182 hx hZ (y := y_2) hown (ww hw 8 rfl) (ww hw 9 rfl) (ww hw 3 rfl) (ww hw 10 rfl) (by decide) (backOf (W := 2) (rmCell l Z a0 hw [] p5 b88 p6 cl lb 15 pl lim k88 com h182 n0 (Nat.le_trans Z0 K183.1) (by decide) hpl hlm hcoml.2 hclat f185) hZ (ww hw 10 rfl) (ww hw 3 rfl) (by decide) (by decide)) (g := (mkF m 491 #[si p1, si p2, si p3, si p4, si p5, si p6, sr b88, si (Int32.ofNat (((([40] : List Int32) ++ own_blk p2) ++ own_blk p3) ++ own_blk p4).length), si (Int32.ofNat com.length), si (Int32.ofNat pl), si cl, si lb, si (Int32.ofNat (1 + ck)), si (Int32.ofNat lim), sr b108, .unset, .unset] [(.int lb), (.int cl), (.int p6), (.int (Int32.ofNat lim)), (.ref b88), (.int p5), (.int (Int32.ofNat pl)), (.int 15), (.int 15), (.ref b108)])) rfl (by rw [hml]; rfl) (kc := 0) (ks := 0) (argsL := [(.int 15), (.int (Int32.ofNat pl)), (.int p5), (.ref b88), (.int (Int32.ofNat lim)), (.int p6), (.int cl), (.int lb)]) (rest := [(.int 15), (.ref b108)]) (lenOf pd_3 rfl) rfl (mr0 rfl) (hb hby at_491) e182 (by decide) (by decide)
 obtain ⟨r_186, rfl, N186q, e186, q186_0⟩ := hQ186
 have N186 := Fr.app N184 N186q
 refine go (S' := T186.setTop (mkF m 494 #[si p1, si p2, si p3, si p4, si p5, si p6, sr b88, si (Int32.ofNat (((([40] : List Int32) ++ own_blk p2) ++ own_blk p3) ++ own_blk p4).length), si (Int32.ofNat com.length), si (Int32.ofNat pl), si cl, si lb, si (Int32.ofNat (1 + ck)), si (Int32.ofNat lim), sr b108, .unset, .unset] [(.int r_186), (.int 15), (.ref b108)])) st186 ?_
 obtain ⟨T187, h187, X187, e187, W187, V187, st187⟩ := putC X186 hx hZ e186 V182 (j := (15 : Int32)) (x := r_186) (own_lat16 q186_0.1) ⟨by decide, by decide⟩ (i := 15) rfl (Nat.le_of_ble_eq_true rfl) (g := (mkF m 494 #[si p1, si p2, si p3, si p4, si p5, si p6, sr b88, si (Int32.ofNat (((([40] : List Int32) ++ own_blk p2) ++ own_blk p3) ++ own_blk p4).length), si (Int32.ofNat com.length), si (Int32.ofNat pl), si cl, si lb, si (Int32.ofNat (1 + ck)), si (Int32.ofNat lim), sr b108, .unset, .unset] [(.int r_186), (.int 15), (.ref b108)])) rfl rfl (hb hby at_494)
 have K188 : Keep h0 h187 [] := K183.wr W187 (Or.inr sz_b108)
 have N189 := Fr.snoc X187 N186 ge_b108
 refine go (S' := T187.setTop (mkF m 495 #[si p1, si p2, si p3, si p4, si p5, si p6, sr b88, si (Int32.ofNat (((([40] : List Int32) ++ own_blk p2) ++ own_blk p3) ++ own_blk p4).length), si (Int32.ofNat com.length), si (Int32.ofNat pl), si cl, si lb, si (Int32.ofNat (1 + ck)), si (Int32.ofNat lim), sr b108, .unset, .unset] [])) st187 ?_
 obtain ⟨T190, h190, X190, e190, E190, A190, D190, -, st190⟩ := newO X187 hx hZ hown (ww hw 11 rfl) (ww hw 12 rfl) (ww hw 13 rfl) e187 (g := (mkF m 495 #[si p1, si p2, si p3, si p4, si p5, si p6, sr b88, si (Int32.ofNat (((([40] : List Int32) ++ own_blk p2) ++ own_blk p3) ++ own_blk p4).length), si (Int32.ofNat com.length), si (Int32.ofNat pl), si cl, si lb, si (Int32.ofNat (1 + ck)), si (Int32.ofNat lim), sr b108, .unset, .unset] [])) rfl (hb hby at_495) (by decide) (by decide)
 obtain ⟨b190, g190⟩ : ∃ z, z = h187.size := ⟨_, rfl⟩
 rw [← g190] at A190 D190 st190
 have f191 : Arv Z h187 b88 k88 .char (14 : Int32) (com.map Value.int) (.int 0) := (f185.other W187 (Nat.ne_of_lt lt_b88_b108))
 have lt_b88_b190 : b88 < b190 := by rw [g190]; exact f191.lt
 have lt_b108_b190 : b108 < b190 := by rw [g190]; exact V187.lt
 have ge_b190 : n0 ≤ b190 := by rw [g190]; exact (Nat.le_trans Z0 K188.1)
 have sz_b190 : h0.size ≤ b190 := by rw [g190]; exact K188.1
 have K192 : Keep h0 h190 [] := K188.ext E190
 refine go (S' := T190.setTop (mkF m 501 #[si p1, si p2, si p3, si p4, si p5, si p6, sr b88, si (Int32.ofNat (((([40] : List Int32) ++ own_blk p2) ++ own_blk p3) ++ own_blk p4).length), si (Int32.ofNat com.length), si (Int32.ofNat pl), si cl, si lb, si (Int32.ofNat (1 + ck)), si (Int32.ofNat lim), sr b108, .unset, .unset] [(.ref b108), (.ref b190), (.ref b190)])) (fun t k => st190 _ (XS.dup X190.here hx rfl (hb hby at_498) rfl rfl (XS.aload X190.here hx rfl (hb hby at_499) rfl rfl k))) ?_
 have f193 : Arv Z h190 b108 k108 .char (16 : Int32) [(.int r_111), (.int r_116), (.int r_121), (.int r_126), (.int r_131), (.int r_136), (.int r_141), (.int r_146), (.int r_151), (.int r_156), (.int r_161), (.int r_166), (.int r_171), (.int r_176), (.int r_181), (.int r_186)] (.int 0) := (V187.ext E190)
 have hp194 : ∀ c ∈ ([r_111, r_116, r_121, r_126, r_131, r_136, r_141, r_146, r_151, r_156, r_161, r_166, r_171, r_176, r_181, r_186] : List Int32), ¬ c < 0 ∧ ¬ (255 : Int32) < c := (allI q111_0.1 (allI q116_0.1 (allI q121_0.1 (allI q126_0.1 (allI q131_0.1 (allI q136_0.1 (allI q141_0.1 (allI q146_0.1 (allI q151_0.1 (allI q156_0.1 (allI q161_0.1 (allI q166_0.1 (allI q171_0.1 (allI q176_0.1 (allI q181_0.1 (allI q186_0.1 (fun _ q => nomatch q)))))))))))))))))
 have O195 : Old Z n0 h190 := O0.keep K192 all0
 have f196 : Arv Z h190 b88 k88 .char (14 : Int32) (com.map Value.int) (.int 0) := (f191.ext E190)
 obtain ⟨v197, T197, L197, X197, hQ197, st197⟩ := callSp X190 hx hZ (y := y_6) rfl hown (ww hw 14 rfl) (ww hw 15 rfl) (ww hw 16 rfl) (by decide) (StrChars.Road.backV (W := 1) hZ (own_sub StrChars_words hw) (kI := 4) (ww hw 12 rfl) (cs := ([r_111, r_116, r_121, r_126, r_131, r_136, r_141, r_146, r_151, r_156, r_161, r_166, r_171, r_176, r_181, r_186] : List Int32)) (bs := ([r_111, r_116, r_121, r_126, r_131, r_136, r_141, r_146, r_151, r_156, r_161, r_166, r_171, r_176, r_181, r_186] : List Int32).map (fun c => c.toInt8.toInt32)) (n := 16) ge_b190 (Nat.le_trans Z0 K192.1) A190 (D190 (Or.inr (ww hw 39 rfl)) (ty := (.array .byte)) (by decide)) (D190 (Or.inr (ww hw 37 rfl)) (ty := .byte) (by decide)) f193 (hp0.ext O195.2) hG1 rfl rfl (by decide) (by decide) hp194 rfl (by decide) (by decide)) (g := (mkF m 501 #[si p1, si p2, si p3, si p4, si p5, si p6, sr b88, si (Int32.ofNat (((([40] : List Int32) ++ own_blk p2) ++ own_blk p3) ++ own_blk p4).length), si (Int32.ofNat com.length), si (Int32.ofNat pl), si cl, si lb, si (Int32.ofNat (1 + ck)), si (Int32.ofNat lim), sr b108, .unset, .unset] [(.ref b108), (.ref b190), (.ref b190)])) rfl (by rw [hml]; rfl) (a := b190) (kc := 1) (ks := 16) (argsL := [(.ref b108)]) (rest := [(.ref b190)]) (lenOf pd_4 rfl) rfl (mr0 rfl) (hb hby at_501) e190 (by decide) (by decide)
 obtain ⟨rfl, N197q, Kq197, q197_e, q197_c, t197, kb197, ge_t197, new_t197, ne_t197_b190, q197_v, q197_a⟩ := hQ197
 have N197 := Fr.app N189 N197q
 have K198 : Keep h0 T197.heap [] := K192.trans Kq197 (allS (P := fun x => x ∈ [] ∨ h0.size ≤ x) (Or.inr sz_b190) all0)
 have lt_b88_t197 : b88 < t197 := Nat.lt_of_lt_of_le f196.lt new_t197
 have lt_b108_t197 : b108 < t197 := Nat.lt_of_lt_of_le f193.lt new_t197
 have lt_b190_t197 : b190 < t197 := Nat.lt_of_lt_of_le A190.lt new_t197
 have sz_t197 : h0.size ≤ t197 := Nat.le_trans K192.1 new_t197
 refine go (S' := T197.setTop (mkF m 504 #[si p1, si p2, si p3, si p4, si p5, si p6, sr b88, si (Int32.ofNat (((([40] : List Int32) ++ own_blk p2) ++ own_blk p3) ++ own_blk p4).length), si (Int32.ofNat com.length), si (Int32.ofNat pl), si cl, si lb, si (Int32.ofNat (1 + ck)), si (Int32.ofNat lim), sr b108, .unset, .unset] [(.ref b190)])) st197 ?_
 have f200 : Exa Z T197.heap b190 "java/lang/String" := (A190.keep Kq197)
 have str199 : Str Z T197.heap b190 t197 (0 : Int32) ([r_111, r_116, r_121, r_126, r_131, r_136, r_141, r_146, r_151, r_156, r_161, r_166, r_171, r_176, r_181, r_186] : List Int32) := ⟨_, _, _, f200, q197_v, q197_c, q197_a, own_codOf rfl (fun c hc => (hp194 c hc).2), up16 _ hp194, Nat.le_of_ble_eq_true rfl⟩
 refine go (S' := T197.setTop (mkF m 508 #[si p1, si p2, si p3, si p4, si p5, si p6, sr b88, si (Int32.ofNat (((([40] : List Int32) ++ own_blk p2) ++ own_blk p3) ++ own_blk p4).length), si (Int32.ofNat com.length), si (Int32.ofNat pl), si cl, si lb, si (Int32.ofNat (1 + ck)), si (Int32.ofNat lim), sr b108, sr b190, .unset] [(.int cl)])) (fun t k => XS.astore X197.here hx rfl (hb hby at_504) rfl rfl (l' := #[si p1, si p2, si p3, si p4, si p5, si p6, sr b88, si (Int32.ofNat (((([40] : List Int32) ++ own_blk p2) ++ own_blk p3) ++ own_blk p4).length), si (Int32.ofNat com.length), si (Int32.ofNat pl), si cl, si lb, si (Int32.ofNat (1 + ck)), si (Int32.ofNat lim), sr b108, sr b190, .unset]) rfl (XS.iload X197.here hx rfl (hb hby at_506) rfl k)) ?_
 obtain ⟨T201, ⟨ls201, X201, N201, e201⟩, st201⟩ : Reach p.tables e below (mkF m 520 #[si p1, si p2, si p3, si p4, si p5, si p6, sr b88, si (Int32.ofNat (((([40] : List Int32) ++ own_blk p2) ++ own_blk p3) ++ own_blk p4).length), si (Int32.ofNat com.length), si (Int32.ofNat pl), si cl, si lb, si (Int32.ofNat (1 + ck)), si (Int32.ofNat lim), sr b108, sr b190, .unset] [(.int (if cl = (0 : Int32) then (-1 : Int32) else ((Int32.ofNat pl) + (Int32.ofNat com.length))))]) (Same X197 n0 T197.heap) (T197.setTop (mkF m 508 #[si p1, si p2, si p3, si p4, si p5, si p6, sr b88, si (Int32.ofNat (((([40] : List Int32) ++ own_blk p2) ++ own_blk p3) ++ own_blk p4).length), si (Int32.ofNat com.length), si (Int32.ofNat pl), si cl, si lb, si (Int32.ofNat (1 + ck)), si (Int32.ofNat lim), sr b108, sr b190, .unset] [(.int cl)])) := by
  by_cases hc202 : cl = (0 : Int32)
  ·
   simp only [if_pos hc202]
   refine goR (S' := T197.setTop (mkF m 520 #[si p1, si p2, si p3, si p4, si p5, si p6, sr b88, si (Int32.ofNat (((([40] : List Int32) ++ own_blk p2) ++ own_blk p3) ++ own_blk p4).length), si (Int32.ofNat com.length), si (Int32.ofNat pl), si cl, si lb, si (Int32.ofNat (1 + ck)), si (Int32.ofNat lim), sr b108, sr b190, .unset] [(.int (-1 : Int32))])) (fun t k => XS.ifYes X197.here hx rfl (pc0 := 508) (pc' := 519) rfl (hb hby at_508) rfl ((if0 _ _).trans (teq hc202).1) (by decide) (by decide) (XS.iconst X197.here hx rfl (hb hby at_519) k)) ?_
   exact ⟨T197, ⟨_, X197, N197, rfl⟩, fun t k => k⟩
  ·
   simp only [if_neg hc202]
   refine goR (S' := T197.setTop (mkF m 520 #[si p1, si p2, si p3, si p4, si p5, si p6, sr b88, si (Int32.ofNat (((([40] : List Int32) ++ own_blk p2) ++ own_blk p3) ++ own_blk p4).length), si (Int32.ofNat com.length), si (Int32.ofNat pl), si cl, si lb, si (Int32.ofNat (1 + ck)), si (Int32.ofNat lim), sr b108, sr b190, .unset] [(.int ((Int32.ofNat pl) + (Int32.ofNat com.length)))])) (fun t k => XS.ifNo X197.here hx rfl (hb hby at_508) rfl ((if0 _ _).trans (feq hc202).1) (XS.iload X197.here hx rfl (hb hby at_511) rfl (XS.iload X197.here hx rfl (hb hby at_513) rfl (XS.iadd X197.here hx rfl (hb hby at_515) rfl (XS.goto X197.here hx rfl (pc0 := 516) (pc' := 520) rfl (hb hby at_516) (by decide) (by decide) k))))) ?_
   exact ⟨T197, ⟨_, X197, N197, rfl⟩, fun t k => k⟩
 refine go (S' := T201.setTop (mkF m 526 #[si p1, si p2, si p3, si p4, si p5, si p6, sr b88, si (Int32.ofNat (((([40] : List Int32) ++ own_blk p2) ++ own_blk p3) ++ own_blk p4).length), si (Int32.ofNat com.length), si (Int32.ofNat pl), si cl, si lb, si (Int32.ofNat (1 + ck)), si (Int32.ofNat lim), sr b108, sr b190, si (if cl = (0 : Int32) then (-1 : Int32) else ((Int32.ofNat pl) + (Int32.ofNat com.length)))] [(.int (Int32.ofNat pl)), (.ref b190)])) (fun t k => st201 _ (XS.istore X201.here hx rfl (hb hby at_520) rfl (l' := #[si p1, si p2, si p3, si p4, si p5, si p6, sr b88, si (Int32.ofNat (((([40] : List Int32) ++ own_blk p2) ++ own_blk p3) ++ own_blk p4).length), si (Int32.ofNat com.length), si (Int32.ofNat pl), si cl, si lb, si (Int32.ofNat (1 + ck)), si (Int32.ofNat lim), sr b108, sr b190, si (if cl = (0 : Int32) then (-1 : Int32) else ((Int32.ofNat pl) + (Int32.ofNat com.length)))]) rfl (XS.aload X201.here hx rfl (hb hby at_522) rfl rfl (XS.iload X201.here hx rfl (hb hby at_524) rfl k)))) ?_
 have O203 : Old Z n0 T197.heap := O0.keep K198 all0
 obtain ⟨v204, T204, L204, X204, hQ204, st204⟩ := callSt X201 hx hZ (y := y_5) hown (ww hw 40 rfl) (ww hw 41 rfl) (ww hw 42 rfl) (ww hw 43 rfl) (by decide) (backOf (W := 0) (rmCE l Z a0 hw [] b190 t197 ([r_111, r_116, r_121, r_126, r_131, r_136, r_141, r_146, r_151, r_156, r_161, r_166, r_171, r_176, r_181, r_186] : List Int32) pl G1 fm T197.heap n0 (Nat.le_trans Z0 K198.1) str199 (by show pl ≤ 16; omega) (Nat.le_of_ble_eq_true rfl) hfm hp0 hG1 hp2 O203) hZ (ww hw 43 rfl) (ww hw 42 rfl) (by decide) (by decide)) (g := (mkF m 526 #[si p1, si p2, si p3, si p4, si p5, si p6, sr b88, si (Int32.ofNat (((([40] : List Int32) ++ own_blk p2) ++ own_blk p3) ++ own_blk p4).length), si (Int32.ofNat com.length), si (Int32.ofNat pl), si cl, si lb, si (Int32.ofNat (1 + ck)), si (Int32.ofNat lim), sr b108, sr b190, si (if cl = (0 : Int32) then (-1 : Int32) else ((Int32.ofNat pl) + (Int32.ofNat com.length)))] [(.int (Int32.ofNat pl)), (.ref b190)])) rfl (by rw [hml]; rfl) (kc := 0) (ks := 0) (argsL := [(.ref b190), (.int (Int32.ofNat pl))]) (rest := []) (lenOf pd_5 rfl) rfl (mr0 rfl) (hb hby at_526) e201 (by decide) (by decide)
 obtain ⟨rfl, N204q, e204⟩ := hQ204
 have N204 := Fr.app N201 N204q
 refine go (S' := T204.setTop (mkF m 531 #[si p1, si p2, si p3, si p4, si p5, si p6, sr b88, si (Int32.ofNat (((([40] : List Int32) ++ own_blk p2) ++ own_blk p3) ++ own_blk p4).length), si (Int32.ofNat com.length), si (Int32.ofNat pl), si cl, si lb, si (Int32.ofNat (1 + ck)), si (Int32.ofNat lim), sr b108, sr b190, si (if cl = (0 : Int32) then (-1 : Int32) else ((Int32.ofNat pl) + (Int32.ofNat com.length)))] [(.int (if cl = (0 : Int32) then (-1 : Int32) else ((Int32.ofNat pl) + (Int32.ofNat com.length)))), (.int (own_scan (([r_111, r_116, r_121, r_126, r_131, r_136, r_141, r_146, r_151, r_156, r_161, r_166, r_171, r_176, r_181, r_186] : List Int32).drop pl) pl (0 : Int32)))])) (fun t k => st204 _ (XS.iload X204.here hx rfl (hb hby at_529) rfl k)) ?_
 have hc205 : (own_scan (([r_111, r_116, r_121, r_126, r_131, r_136, r_141, r_146, r_151, r_156, r_161, r_166, r_171, r_176, r_181, r_186] : List Int32).drop pl) pl (0 : Int32)) = (if cl = (0 : Int32) then (-1 : Int32) else ((Int32.ofNat pl) + (Int32.ofNat com.length))) := own_final p2 p3 p4 com _ hcom pl ck lim cl hpl hck hlim rfl (fun j hj => by
  match j, hj with
  | 0, _ => exact q111_0
  | 1, _ => exact q116_0
  | 2, _ => exact q121_0
  | 3, _ => exact q126_0
  | 4, _ => exact q131_0
  | 5, _ => exact q136_0
  | 6, _ => exact q141_0
  | 7, _ => exact q146_0
  | 8, _ => exact q151_0
  | 9, _ => exact q156_0
  | 10, _ => exact q161_0
  | 11, _ => exact q166_0
  | 12, _ => exact q171_0
  | 13, _ => exact q176_0
  | 14, _ => exact q181_0
  | 15, _ => exact q186_0
  | n + 16, h => exact absurd (show n + 16 < 16 from h) (by omega))
 refine go (S' := T204.setTop (mkF m 539 #[si p1, si p2, si p3, si p4, si p5, si p6, sr b88, si (Int32.ofNat (((([40] : List Int32) ++ own_blk p2) ++ own_blk p3) ++ own_blk p4).length), si (Int32.ofNat com.length), si (Int32.ofNat pl), si cl, si lb, si (Int32.ofNat (1 + ck)), si (Int32.ofNat lim), sr b108, sr b190, si (if cl = (0 : Int32) then (-1 : Int32) else ((Int32.ofNat pl) + (Int32.ofNat com.length)))] [(.int 1)])) (fun t k => XS.icmpNo X204.here hx rfl (hb hby at_531) rfl (teq hc205).2 (XS.iconst X204.here hx rfl (hb hby at_534) (XS.goto X204.here hx rfl (pc0 := 535) (pc' := 539) rfl (hb hby at_535) (by decide) (by decide) k))) ?_
 refine finN X204 hx hk (t := .boolean) hret (by simp) (hb hby at_539) (by decide) (by decide) ?_
 rw [e204]
 exact ⟨rfl, N204, K198⟩
set_option maxRecDepth 65536 in
set_option maxHeartbeats 40000000 in
theorem comes_1 {Post : Tables → Env → Array Value → State → Outcome → State → Prop} (hpost : ∀ tb e args s v u, (limb_1_1.after args s (.returned v) u = true ∧ limb_1_2.after args s (.returned v) u = true ∧ True) → FrameEnd s (.returned v) u (Jvm.fieldLocs frame_1_writes args s ++ Jvm.arrayLocs frame_1_arrays args s ++ Jvm.staticLocs frame_1_statics s) 16 192 → Post tb e args s (.returned v) u) :
    ArmFor flags0 classFile x code maxLocals ret World_1 tables_1 room_1 Calls_1 rest_1 Pre_1 Post := by
  intro l hfl _ _ p e ha hc hk s m args below hf hA hF happ hP
  obtain ⟨hcalls, hrest, hpre⟩ := hP
  obtain ⟨-, -, -, hnamed, -, -, -, hat⟩ := (Spec.applies_iff hf).mp happ
  obtain ⟨hg, hn⟩ := and_e (Cond.before_iff.mp (show (Jvm.Cond.and given_1 narrow_1).before args s = true from hpre))
  obtain ⟨hcount, hg0⟩ := and_e hg
  obtain ⟨ha0, hg1⟩ := and_e hg0
  obtain ⟨ha1, hg2⟩ := and_e hg1
  obtain ⟨ha2, hg3⟩ := and_e hg2
  obtain ⟨ha3, hg4⟩ := and_e hg3
  obtain ⟨ha4, hg5⟩ := and_e hg4
  have ha5 := hg5
  obtain ⟨w0, w1, w2, w3, w4, w5, rfl⟩ : ∃ w0 w1 w2 w3 w4 w5 : Value, args = #[w0, w1, w2, w3, w4, w5] := by
    have hs : args.size = 6 := by simpa [Cond.value, given_1] using hcount
    obtain ⟨L⟩ := args
    match L, hs with
    | [w0, w1, w2, w3, w4, w5], _ => exact ⟨w0, w1, w2, w3, w4, w5, rfl⟩
  have hw := fun d (hd : d ∈ tables_1) => atoms_spec (ws := Jvm.Cond.code x code maxLocals ret :: tables_1) hat d (List.mem_cons_of_mem _ hd)
  obtain ⟨hsets, hown0⟩ := atoms_of _ (rest_1_c_eq ▸ (show rest_1_c.before _ s = true from hrest))
  obtain ⟨i0, ei0⟩ := is_v ha0
  obtain rfl : w0 = (.int i0) := Option.some.inj ei0
  obtain ⟨i1, ei1⟩ := is_v ha1
  obtain rfl : w1 = (.int i1) := Option.some.inj ei1
  obtain ⟨i2, ei2⟩ := is_v ha2
  obtain rfl : w2 = (.int i2) := Option.some.inj ei2
  obtain ⟨i3, ei3⟩ := is_v ha3
  obtain rfl : w3 = (.int i3) := Option.some.inj ei3
  obtain ⟨i4, ei4⟩ := is_v ha4
  obtain rfl : w4 = (.int i4) := Option.some.inj ei4
  obtain ⟨i5, ei5⟩ := is_v ha5
  obtain rfl : w5 = (.int i5) := Option.some.inj ei5
  have hn_0 := hn
  obtain ⟨g206, eg206⟩ := is_v (Cond.before_iff.mp (hsets _ (List.mem_of_getElem? (i := 1) rfl)))
  have sg206 : Sta s s.heap "java/lang/String" "COMPACT_STRINGS" "Z" (.int g206) := Sta.start eg206 (Or.inl (hsets _ (List.mem_of_getElem? (i := 0) rfl)))
  obtain ⟨g207, eg207, rg207⟩ := isR_v (Cond.before_iff.mp (hsets _ (List.mem_of_getElem? (i := 8) rfl)))
  have sg207 : Sta s s.heap "jdk/internal/util/Preconditions" "SIOOBE_FORMATTER" "Ljava/util/function/BiFunction;" g207 := Sta.start eg207 (Or.inl (hsets _ (List.mem_of_getElem? (i := 7) rfl)))
  have c208 : ¬ (g206 = (0 : Int32)) := gotF (Cond.eq_ints eg206 (Term.int_eval (0))) (not_v (Cond.before_iff.mp (hsets _ (List.mem_of_getElem? (i := 2) rfl))))
  obtain ⟨n, o, h1, h2, h3, _, L, rfl, ⟨rfl, N, -⟩, hq⟩ := rmLaw l s _ hw tables_1 i0 i1 i2 i3 i4 i5 g206 g207 s.heap s.heap.size (Nat.le_refl _) sg206 c208 sg207 rg207 (Old.start s) p e ha hc hk s m _ below hf ((Spec.applies_iff_loose hf).mp happ).1 ⟨rfl, State.Warmed39.refl s, rfl⟩ trivial
  refine ⟨n, _, h1, h2, h3, hpost _ _ _ _ _ _ ⟨Cond.after_iff.mpr rfl, Cond.after_iff.mpr (eq_i res_at (Term.int_eval (1)) rfl), trivial⟩ ⟨hq.1, hq.2.1, (hq.2.2.sift fun y hy => Or.inr (N y hy)).mono (by decide) (by decide)⟩⟩
theorem main_1_1 : Claimed_1_1 := comes_1 fun _ _ _ _ _ _ h hF => ⟨h.1, hF⟩
theorem main_1_2 : Claimed_1_2 := comes_1 fun _ _ _ _ _ _ h hF => ⟨h.2.1, hF⟩
end Jvm.Pilot.@@N@@
namespace Jvm.Pilot.@@N@@
open Jvm Jvm.ClassFile Sem Op Lib Jvm.Free Jvm.Stand Jvm.Pilot.@@N@@.Jvm.D
/-! MADE BY PROGRAM (witnessworld.py) out of the Statement's table words and the real class files: 20 classes; the members and pool entries that the words name. The judged class is class 1, her method 1. -/
namespace start1
open Jvm.ClassFile
def u (s : String) : CpInfo := .utf8 (stringToUtf16 s)
/-- a pool by its gaps: so many unusable entries, then the entry; so many at the end -/
def gap : Nat → List CpInfo → List CpInfo
  | 0, r => r
  | n + 1, r => .unusable :: gap n r
def poolList (es : List (Nat × CpInfo)) (last : Nat) : List CpInfo := es.foldr (fun e r => gap e.1 (e.2 :: r)) (gap last [])
def pool (es : List (Nat × CpInfo)) (last : Nat) : Array CpInfo := ⟨poolList es last⟩
def fileOf (pool : Array CpInfo) (this : Nat) (attrs : Array Attribute := #[]) (ms : Array MethodInfo := #[]) (fl : Nat := 33) (sup : Nat := 0) (ifs : Array Nat := #[]) (fds : Array FieldInfo := #[]) : ClassFile where
  minorVersion := 0
  majorVersion := 65
  constantPool := pool
  accessFlags := fl
  thisClass := this
  superClass := sup
  interfaces := ifs
  fields := fds
  methods := ms
  attributes := attrs
def plain (name : String) (sup : Option ClassId) : Class where
  name := name
  kind := .ordinary
  loader := none
  accessFlags := 33
  super := sup
  interfaces := #[]
  cf := none
  fields := #[]
  methods := #[]
  instanceTypes := #[]
  staticTypes := #[]
  resolved := #[]
  callSites := []
  init := .initialized
  statics := none
  mirror := none

def pool0 : Array CpInfo := pool [(5, u "<init>"), (0, u "()V"), (1, .class_ 10), (1, u "java/lang/Object")] 113

def k0c0 : Code := { maxStack := 0, maxLocals := 1, code := object_method_1_code, exceptionTable := #[], attributes := #[] }
def k0m0 : Method := { name := "<init>", desc := "()V", sig := { parameters := [], returnType := none }, accessFlags := 1, code := some k0c0 }
/-- java/lang/Object -/
def k0 : Class := { plain "java/lang/Object" none with
  accessFlags := 33
  interfaces := #[]
  cf := some (fileOf pool0 8 #[] #[{ accessFlags := 1, nameIndex := 5, descriptorIndex := 6, attributes := #[] }] 33 0 #[] #[])
  fields := #[]
  methods := #[k0m0]
  instanceTypes := #[]
  staticTypes := #[]
  resolved := Array.replicate 124 none
  statics := none }

def pool1 : Array CpInfo := pool [(2, .class_ 4), (1, u "java/lang/Object"), (0, u "<init>"), (0, u "()V"), (0, .methodref 8 9), (0, .class_ 10), (0, .nameAndType 11 12), (0, u "com/example/kuvert/kuvert/mime/HeadingCommentEndPinLaw"), (0, u "put"), (0, u "([CII)I"), (0, .methodref 8 14), (0, .nameAndType 15 16), (0, u "cell"), (0, u "(III[CIIZZ)C"), (0, .class_ 18), (0, u "java/lang/String"), (0, .methodref 17 20), (0, .nameAndType 5 21), (0, u "([C)V"), (0, .methodref 23 24), (0, .class_ 25), (0, .nameAndType 26 27), (0, u "com/example/kuvert/kuvert/mime/Heading"), (0, u "commentEnd"), (0, u "(Ljava/lang/String;I)I"), (0, .methodref 8 29), (0, .nameAndType 30 31), (0, u "ctext"), (0, u "(I)C"), (2, u "law"), (0, u "(IIIIII)Z")] 5

def k1m0 : Method := { name := "<init>", desc := "()V", sig := { parameters := [], returnType := none }, accessFlags := 2, code := none }
def k1c1 : Code := { maxStack := 10, maxLocals := 17, code := code, exceptionTable := #[], attributes := #[] }
def k1m1 : Method := { name := "law", desc := "(IIIIII)Z", sig := { parameters := [.int, .int, .int, .int, .int, .int], returnType := some .boolean }, accessFlags := 9, code := some k1c1 }
def k1c2 : Code := { maxStack := 4, maxLocals := 10, code := method_3_code, exceptionTable := #[], attributes := #[] }
def k1m2 : Method := { name := "cell", desc := "(III[CIIZZ)C", sig := { parameters := [.int, .int, .int, (.array .char), .int, .int, .boolean, .boolean], returnType := some .char }, accessFlags := 10, code := some k1c2 }
def k1c3 : Code := { maxStack := 2, maxLocals := 2, code := method_4_code, exceptionTable := #[], attributes := #[] }
def k1m3 : Method := { name := "ctext", desc := "(I)C", sig := { parameters := [.int], returnType := some .char }, accessFlags := 10, code := some k1c3 }
def k1c4 : Code := { maxStack := 3, maxLocals := 6, code := method_5_code, exceptionTable := #[], attributes := #[] }
def k1m4 : Method := { name := "put", desc := "([CII)I", sig := { parameters := [(.array .char), .int, .int], returnType := some .int }, accessFlags := 10, code := some k1c4 }
/-- com/example/kuvert/kuvert/mime/HeadingCommentEndPinLaw -/
def k1 : Class := { plain "com/example/kuvert/kuvert/mime/HeadingCommentEndPinLaw" (some 0) with
  accessFlags := 49
  interfaces := #[]
  cf := some (fileOf pool1 8 #[] #[{ accessFlags := 2, nameIndex := 5, descriptorIndex := 6, attributes := #[] }, { accessFlags := 9, nameIndex := 34, descriptorIndex := 35, attributes := #[] }, { accessFlags := 10, nameIndex := 15, descriptorIndex := 16, attributes := #[] }, { accessFlags := 10, nameIndex := 30, descriptorIndex := 31, attributes := #[] }, { accessFlags := 10, nameIndex := 11, descriptorIndex := 12, attributes := #[] }] 49 2 #[] #[])
  fields := #[]
  methods := #[k1m0, k1m1, k1m2, k1m3, k1m4]
  instanceTypes := #[]
  staticTypes := #[]
  resolved := Array.replicate 41 none
  statics := none }

def pool2 : Array CpInfo := pool [(1, .class_ 2), (0, u "java/io/Serializable"), (0, .class_ 4), (0, u "java/lang/Object")] 2

/-- java/io/Serializable -/
def k2 : Class := { plain "java/io/Serializable" (some 0) with
  accessFlags := 1537
  interfaces := #[]
  cf := some (fileOf pool2 1 #[] #[] 1537 3 #[] #[])
  fields := #[]
  methods := #[]
  instanceTypes := #[]
  staticTypes := #[]
  resolved := Array.replicate 7 none
  statics := none }

def pool3 : Array CpInfo := pool [(1, .class_ 2), (0, u "java/lang/Comparable"), (0, .class_ 4), (0, u "java/lang/Object")] 7

/-- java/lang/Comparable -/
def k3 : Class := { plain "java/lang/Comparable" (some 0) with
  accessFlags := 1537
  interfaces := #[]
  cf := some (fileOf pool3 1 #[] #[] 1537 3 #[] #[])
  fields := #[]
  methods := #[]
  instanceTypes := #[]
  staticTypes := #[]
  resolved := Array.replicate 12 none
  statics := none }

def pool4 : Array CpInfo := pool [(2, .class_ 4), (1, u "java/lang/CharSequence"), (42, .class_ 48), (0, u "java/lang/CharSequence$1CodePointIterator"), (10, .class_ 60), (0, u "java/lang/CharSequence$1CharIterator"), (5, .class_ 67), (0, u "java/lang/Object")] 63

/-- java/lang/CharSequence -/
def k4 : Class := { plain "java/lang/CharSequence" (some 0) with
  accessFlags := 1537
  interfaces := #[]
  cf := some (fileOf pool4 2 #[.nestMembers #[47, 59]] #[] 1537 66 #[] #[])
  fields := #[]
  methods := #[]
  instanceTypes := #[]
  staticTypes := #[]
  resolved := Array.replicate 131 none
  statics := none }

def pool5 : Array CpInfo := pool [(1, .class_ 2), (0, u "java/lang/constant/Constable"), (0, .class_ 4), (0, u "java/lang/Object")] 6

/-- java/lang/constant/Constable -/
def k5 : Class := { plain "java/lang/constant/Constable" (some 0) with
  accessFlags := 1537
  interfaces := #[]
  cf := some (fileOf pool5 1 #[] #[] 1537 3 #[] #[])
  fields := #[]
  methods := #[]
  instanceTypes := #[]
  staticTypes := #[]
  resolved := Array.replicate 11 none
  statics := none }

def pool6 : Array CpInfo := pool [(1, .class_ 2), (0, u "java/lang/constant/ConstantDesc"), (0, .class_ 4), (0, u "java/lang/Object")] 32

/-- java/lang/constant/ConstantDesc -/
def k6 : Class := { plain "java/lang/constant/ConstantDesc" (some 0) with
  accessFlags := 1537
  interfaces := #[]
  cf := some (fileOf pool6 1 #[] #[] 1537 3 #[] #[])
  fields := #[]
  methods := #[]
  instanceTypes := #[]
  staticTypes := #[]
  resolved := Array.replicate 37 none
  statics := none }

def pool7 : Array CpInfo := pool [(1, .methodref 2 3), (0, .class_ 4), (0, .nameAndType 5 6), (0, u "java/lang/Object"), (0, u "<init>"), (0, u "()V"), (2, .fieldref 10 11), (0, .class_ 12), (0, .nameAndType 13 14), (0, u "java/lang/String"), (0, u "value"), (0, u "[B"), (0, .fieldref 10 16), (0, .nameAndType 17 18), (0, u "coder"), (0, u "B"), (2, u "hash"), (0, u "I"), (2, u "hashIsZero"), (0, u "Z"), (0, .methodref 10 28), (0, .nameAndType 5 29), (0, u "([CIILjava/lang/Void;)V"), (8, .fieldref 10 39), (0, .nameAndType 40 26), (0, u "COMPACT_STRINGS"), (1, .class_ 44), (1, u "java/lang/StringUTF16"), (0, u "compress"), (1, .methodref 42 48), (0, .nameAndType 49 50), (0, u "coderFromArrayLen"), (0, u "([BI)B"), (56, .class_ 109), (1, u "java/lang/StringLatin1"), (32, u "()Z"), (34, .methodref 42 178), (0, .nameAndType 45 179), (0, u "([CII)[B"), (154, u "()I"), (0, .methodref 10 336), (0, .nameAndType 17 337), (0, u "()B"), (25, u "([BI)C"), (27, u "(II)V"), (35, u "(I)C"), (64, .methodref 10 493), (0, .nameAndType 494 142), (0, u "isLatin1"), (0, .methodref 107 496), (0, .nameAndType 497 363), (0, u "charAt"), (3, u "checkIndex"), (5, u "length"), (67, .class_ 576), (0, u "java/lang/CharSequence"), (22, u "CASE_INSENSITIVE_ORDER"), (0, u "Ljava/util/Comparator;"), (409, u "([C)V"), (42, .fieldref 1054 1055), (0, .class_ 1056), (0, .nameAndType 1057 1058), (0, u "jdk/internal/util/Preconditions"), (0, u "SIOOBE_FORMATTER"), (0, u "Ljava/util/function/BiFunction;"), (0, .methodref 1054 1060), (0, .nameAndType 501 1061), (0, u "(IILjava/util/function/BiFunction;)I"), (39, u "serialPersistentFields"), (0, u "[Ljava/io/ObjectStreamField;"), (0, .class_ 1104), (0, u "java/lang/String$CaseInsensitiveComparator"), (1, .class_ 1107), (0, u "java/io/Serializable"), (0, .class_ 1109), (0, u "java/lang/Comparable"), (0, .class_ 1111), (0, u "java/lang/constant/Constable"), (0, .class_ 1113), (0, u "java/lang/constant/ConstantDesc"), (2, u "serialVersionUID"), (0, u "J"), (3, u "REPL"), (0, u "C"), (2, u "LATIN1"), (1, u "UTF16")] 323

def k7m0 : Method := { name := "<init>", desc := "()V", sig := { parameters := [], returnType := none }, accessFlags := 1, code := none }
def k7c1 : Code := { maxStack := 5, maxLocals := 2, code := jdk_42_method_3_code, exceptionTable := #[], attributes := #[] }
def k7m1 : Method := { name := "<init>", desc := "([C)V", sig := { parameters := [(.array .char)], returnType := none }, accessFlags := 1, code := some k7c1 }
def k7c2 : Code := { maxStack := 2, maxLocals := 1, code := jdk_42_method_54_code, exceptionTable := #[], attributes := #[] }
def k7m2 : Method := { name := "length", desc := "()I", sig := { parameters := [], returnType := some .int }, accessFlags := 1, code := some k7c2 }
def k7c3 : Code := { maxStack := 2, maxLocals := 2, code := jdk_42_method_56_code, exceptionTable := #[], attributes := #[] }
def k7m3 : Method := { name := "charAt", desc := "(I)C", sig := { parameters := [.int], returnType := some .char }, accessFlags := 1, code := some k7c3 }
def k7c4 : Code := { maxStack := 4, maxLocals := 6, code := jdk_42_method_149_code, exceptionTable := #[], attributes := #[] }
def k7m4 : Method := { name := "<init>", desc := "([CIILjava/lang/Void;)V", sig := { parameters := [(.array .char), .int, .int, (.object "java/lang/Void")], returnType := none }, accessFlags := 2, code := some k7c4 }
def k7c5 : Code := { maxStack := 1, maxLocals := 1, code := jdk_42_method_152_code, exceptionTable := #[], attributes := #[] }
def k7m5 : Method := { name := "coder", desc := "()B", sig := { parameters := [], returnType := some .byte }, accessFlags := 0, code := some k7c5 }
def k7c6 : Code := { maxStack := 1, maxLocals := 1, code := jdk_42_method_154_code, exceptionTable := #[], attributes := #[] }
def k7m6 : Method := { name := "isLatin1", desc := "()Z", sig := { parameters := [], returnType := some .boolean }, accessFlags := 0, code := some k7c6 }
def k7c7 : Code := { maxStack := 3, maxLocals := 2, code := jdk_42_method_155_code, exceptionTable := #[], attributes := #[] }
def k7m7 : Method := { name := "checkIndex", desc := "(II)V", sig := { parameters := [.int, .int], returnType := none }, accessFlags := 8, code := some k7c7 }
/-- java/lang/String -/
def k7 : Class := { plain "java/lang/String" (some 0) with
  accessFlags := 49
  interfaces := #[2, 3, 4, 5, 6]
  cf := some (fileOf pool7 10 #[.nestMembers #[1103]] #[{ accessFlags := 1, nameIndex := 5, descriptorIndex := 6, attributes := #[] }, { accessFlags := 1, nameIndex := 5, descriptorIndex := 1010, attributes := #[] }, { accessFlags := 1, nameIndex := 507, descriptorIndex := 334, attributes := #[] }, { accessFlags := 1, nameIndex := 497, descriptorIndex := 427, attributes := #[] }, { accessFlags := 2, nameIndex := 5, descriptorIndex := 29, attributes := #[] }, { accessFlags := 0, nameIndex := 17, descriptorIndex := 337, attributes := #[] }, { accessFlags := 0, nameIndex := 494, descriptorIndex := 142, attributes := #[] }, { accessFlags := 8, nameIndex := 501, descriptorIndex := 391, attributes := #[] }] 49 2 #[1106, 1108, 575, 1110, 1112] #[{ accessFlags := 18, nameIndex := 13, descriptorIndex := 14, attributes := #[] }, { accessFlags := 18, nameIndex := 17, descriptorIndex := 18, attributes := #[] }, { accessFlags := 2, nameIndex := 21, descriptorIndex := 22, attributes := #[] }, { accessFlags := 2, nameIndex := 25, descriptorIndex := 26, attributes := #[] }, { accessFlags := 26, nameIndex := 1116, descriptorIndex := 1117, attributes := #[] }, { accessFlags := 24, nameIndex := 40, descriptorIndex := 26, attributes := #[] }, { accessFlags := 26, nameIndex := 1101, descriptorIndex := 1102, attributes := #[] }, { accessFlags := 26, nameIndex := 1121, descriptorIndex := 1122, attributes := #[] }, { accessFlags := 25, nameIndex := 599, descriptorIndex := 600, attributes := #[] }, { accessFlags := 24, nameIndex := 1125, descriptorIndex := 18, attributes := #[] }, { accessFlags := 24, nameIndex := 1127, descriptorIndex := 18, attributes := #[] }])
  fields := #[{ name := "value", type := (.array .byte), accessFlags := 18, slot := 0, constantValue := 0 }, { name := "coder", type := .byte, accessFlags := 18, slot := 1, constantValue := 0 }, { name := "hash", type := .int, accessFlags := 2, slot := 2, constantValue := 0 }, { name := "hashIsZero", type := .boolean, accessFlags := 2, slot := 3, constantValue := 0 }, { name := "serialVersionUID", type := .long, accessFlags := 26, slot := 0, constantValue := 0 }, { name := "COMPACT_STRINGS", type := .boolean, accessFlags := 24, slot := 1, constantValue := 0 }, { name := "serialPersistentFields", type := (.array (.object "java/io/ObjectStreamField")), accessFlags := 26, slot := 2, constantValue := 0 }, { name := "REPL", type := .char, accessFlags := 26, slot := 3, constantValue := 0 }, { name := "CASE_INSENSITIVE_ORDER", type := (.object "java/util/Comparator"), accessFlags := 25, slot := 4, constantValue := 0 }, { name := "LATIN1", type := .byte, accessFlags := 24, slot := 5, constantValue := 0 }, { name := "UTF16", type := .byte, accessFlags := 24, slot := 6, constantValue := 0 }]
  methods := #[k7m0, k7m1, k7m2, k7m3, k7m4, k7m5, k7m6, k7m7]
  instanceTypes := #[(.array .byte), .byte, .int, .boolean]
  staticTypes := #[.long, .boolean, (.array (.object "java/io/ObjectStreamField")), .char, (.object "java/util/Comparator"), .byte, .byte]
  resolved := Array.replicate 1451 none
  statics := some 0 }

def pool8 : Array CpInfo := pool [(6, .class_ 8), (1, u "java/lang/Object"), (0, u "<init>"), (0, u "()V"), (1, .class_ 14), (1, u "java/lang/StringUTF16"), (31, u "$assertionsDisabled"), (0, u "Z"), (13, u "HI_BYTE_SHIFT"), (0, u "I"), (2, u "LO_BYTE_SHIFT"), (49, .methodref 12 116), (0, .nameAndType 117 118), (0, u "compress"), (0, u "([CI[BII)I"), (3, u "([CII)[B"), (138, u "coderFromArrayLen"), (0, u "([BI)B"), (106, .class_ 371), (1, u "java/lang/StringUTF16$LinesSpliterator"), (58, u "MAX_LENGTH"), (196, .class_ 628), (0, u "java/lang/StringUTF16$CodePointsSpliterator"), (0, .class_ 630), (0, u "java/lang/StringUTF16$CharsSpliterator")] 4

def k8m0 : Method := { name := "<init>", desc := "()V", sig := { parameters := [], returnType := none }, accessFlags := 0, code := none }
def k8c1 : Code := { maxStack := 2, maxLocals := 2, code := jdk_52_method_15_code, exceptionTable := #[], attributes := #[] }
def k8m1 : Method := { name := "coderFromArrayLen", desc := "([BI)B", sig := { parameters := [(.array .byte), .int], returnType := some .byte }, accessFlags := 8, code := some k8c1 }
def k8c2 : Code := { maxStack := 5, maxLocals := 6, code := jdk_52_method_16_code, exceptionTable := #[], attributes := #[] }
def k8m2 : Method := { name := "compress", desc := "([CII)[B", sig := { parameters := [(.array .char), .int, .int], returnType := some (.array .byte) }, accessFlags := 9, code := some k8c2 }
def k8c3 : Code := { maxStack := 3, maxLocals := 7, code := jdk_52_method_21_code, exceptionTable := #[], attributes := #[] }
def k8m3 : Method := { name := "compress", desc := "([CI[BII)I", sig := { parameters := [(.array .char), .int, (.array .byte), .int, .int], returnType := some .int }, accessFlags := 9, code := some k8c3 }
/-- java/lang/StringUTF16 -/
def k8 : Class := { plain "java/lang/StringUTF16" (some 0) with
  accessFlags := 48
  interfaces := #[]
  cf := some (fileOf pool8 12 #[.nestMembers #[627, 629, 369]] #[{ accessFlags := 0, nameIndex := 9, descriptorIndex := 10, attributes := #[] }, { accessFlags := 8, nameIndex := 261, descriptorIndex := 262, attributes := #[] }, { accessFlags := 9, nameIndex := 117, descriptorIndex := 122, attributes := #[] }, { accessFlags := 9, nameIndex := 117, descriptorIndex := 118, attributes := #[] }] 48 6 #[] #[{ accessFlags := 26, nameIndex := 61, descriptorIndex := 62, attributes := #[] }, { accessFlags := 26, nameIndex := 65, descriptorIndex := 62, attributes := #[] }, { accessFlags := 24, nameIndex := 430, descriptorIndex := 62, attributes := #[] }, { accessFlags := 4120, nameIndex := 46, descriptorIndex := 47, attributes := #[] }])
  fields := #[{ name := "HI_BYTE_SHIFT", type := .int, accessFlags := 26, slot := 0, constantValue := 0 }, { name := "LO_BYTE_SHIFT", type := .int, accessFlags := 26, slot := 1, constantValue := 0 }, { name := "MAX_LENGTH", type := .int, accessFlags := 24, slot := 2, constantValue := 0 }, { name := "$assertionsDisabled", type := .boolean, accessFlags := 4120, slot := 3, constantValue := 0 }]
  methods := #[k8m0, k8m1, k8m2, k8m3]
  instanceTypes := #[]
  staticTypes := #[.int, .int, .int, .boolean]
  resolved := Array.replicate 635 none
  statics := none }

def pool9 : Array CpInfo := pool [(2, .class_ 4), (1, u "java/lang/Object"), (9, .class_ 16), (1, u "com/example/kuvert/kuvert/mime/Heading"), (0, u "names"), (0, u "Ljava/util/List;"), (2, u "values"), (3, u "()I"), (4, .class_ 31), (0, u "java/lang/String"), (27, .methodref 30 60), (0, .nameAndType 61 25), (0, u "length"), (0, .methodref 30 63), (0, .nameAndType 64 65), (0, u "charAt"), (0, u "(I)C"), (19, u "(Ljava/lang/String;I)I"), (24, u "commentEnd")] 40

def k9c0 : Code := { maxStack := 2, maxLocals := 5, code := prog_27_method_7_code, exceptionTable := #[], attributes := #[] }
def k9m0 : Method := { name := "commentEnd", desc := "(Ljava/lang/String;I)I", sig := { parameters := [(.object "java/lang/String"), .int], returnType := some .int }, accessFlags := 8, code := some k9c0 }
/-- com/example/kuvert/kuvert/mime/Heading -/
def k9 : Class := { plain "com/example/kuvert/kuvert/mime/Heading" (some 0) with
  accessFlags := 48
  interfaces := #[]
  cf := some (fileOf pool9 14 #[] #[{ accessFlags := 8, nameIndex := 110, descriptorIndex := 85, attributes := #[] }] 48 2 #[] #[{ accessFlags := 18, nameIndex := 17, descriptorIndex := 18, attributes := #[] }, { accessFlags := 18, nameIndex := 21, descriptorIndex := 18, attributes := #[] }])
  fields := #[{ name := "names", type := (.object "java/util/List"), accessFlags := 18, slot := 0, constantValue := 0 }, { name := "values", type := (.object "java/util/List"), accessFlags := 18, slot := 1, constantValue := 0 }]
  methods := #[k9m0]
  instanceTypes := #[(.object "java/util/List"), (.object "java/util/List")]
  staticTypes := #[]
  resolved := Array.replicate 151 none
  statics := none }

def pool10 : Array CpInfo := pool [(1, .class_ 2), (0, u "java/lang/String"), (1, .class_ 6), (1, u "java/lang/Object"), (0, u "<init>"), (0, u "()V"), (0, .methodref 1 10), (0, .nameAndType 11 12), (0, u "checkIndex"), (0, u "(II)V"), (1, .class_ 16), (1, u "java/lang/StringLatin1"), (36, u "([BI)C"), (67, u "$assertionsDisabled"), (0, u "Z"), (98, .class_ 223), (1, u "java/lang/StringLatin1$LinesSpliterator"), (28, u "charAt"), (137, .class_ 391), (0, u "java/lang/StringLatin1$CharsSpliterator")] 3

def k10m0 : Method := { name := "<init>", desc := "()V", sig := { parameters := [], returnType := none }, accessFlags := 0, code := none }
def k10c1 : Code := { maxStack := 2, maxLocals := 2, code := jdk_43_method_2_code, exceptionTable := #[], attributes := #[] }
def k10m1 : Method := { name := "charAt", desc := "([BI)C", sig := { parameters := [(.array .byte), .int], returnType := some .char }, accessFlags := 9, code := some k10c1 }
/-- java/lang/StringLatin1 -/
def k10 : Class := { plain "java/lang/StringLatin1" (some 0) with
  accessFlags := 48
  interfaces := #[]
  cf := some (fileOf pool10 14 #[.nestMembers #[390, 221]] #[{ accessFlags := 0, nameIndex := 7, descriptorIndex := 8, attributes := #[] }, { accessFlags := 9, nameIndex := 252, descriptorIndex := 53, attributes := #[] }] 48 4 #[] #[{ accessFlags := 4120, nameIndex := 121, descriptorIndex := 122, attributes := #[] }])
  fields := #[{ name := "$assertionsDisabled", type := .boolean, accessFlags := 4120, slot := 0, constantValue := 0 }]
  methods := #[k10m0, k10m1]
  instanceTypes := #[]
  staticTypes := #[.boolean]
  resolved := Array.replicate 395 none
  statics := none }

def pool11 : Array CpInfo := pool [(2, .class_ 4), (1, u "java/lang/Object"), (0, u "<init>"), (0, u "()V"), (17, .class_ 26), (1, u "jdk/internal/util/Preconditions"), (6, u "checkIndex"), (21, .class_ 56), (0, u "jdk/internal/util/Preconditions$4"), (57, .class_ 115), (0, u "jdk/internal/util/Preconditions$1"), (7, u "SIOOBE_FORMATTER"), (0, u "Ljava/util/function/BiFunction;"), (0, .class_ 126), (0, u "jdk/internal/util/Preconditions$2"), (3, u "AIOOBE_FORMATTER"), (0, .class_ 132), (0, u "jdk/internal/util/Preconditions$3"), (3, u "IOOBE_FORMATTER"), (41, u "(IILjava/util/function/BiFunction;)I")] 15

def k11m0 : Method := { name := "<init>", desc := "()V", sig := { parameters := [], returnType := none }, accessFlags := 1, code := none }
def k11c1 : Code := { maxStack := 3, maxLocals := 3, code := jdk_41_method_11_code, exceptionTable := #[], attributes := #[] }
def k11m1 : Method := { name := "checkIndex", desc := "(IILjava/util/function/BiFunction;)I", sig := { parameters := [.int, .int, (.object "java/util/function/BiFunction")], returnType := some .int }, accessFlags := 9, code := some k11c1 }
/-- jdk/internal/util/Preconditions -/
def k11 : Class := { plain "jdk/internal/util/Preconditions" (some 0) with
  accessFlags := 33
  interfaces := #[]
  cf := some (fileOf pool11 24 #[.nestMembers #[55, 131, 125, 114]] #[{ accessFlags := 1, nameIndex := 5, descriptorIndex := 6, attributes := #[] }, { accessFlags := 9, nameIndex := 33, descriptorIndex := 178, attributes := #[] }] 33 2 #[] #[{ accessFlags := 25, nameIndex := 123, descriptorIndex := 124, attributes := #[] }, { accessFlags := 25, nameIndex := 130, descriptorIndex := 124, attributes := #[] }, { accessFlags := 25, nameIndex := 136, descriptorIndex := 124, attributes := #[] }])
  fields := #[{ name := "SIOOBE_FORMATTER", type := (.object "java/util/function/BiFunction"), accessFlags := 25, slot := 0, constantValue := 0 }, { name := "AIOOBE_FORMATTER", type := (.object "java/util/function/BiFunction"), accessFlags := 25, slot := 1, constantValue := 0 }, { name := "IOOBE_FORMATTER", type := (.object "java/util/function/BiFunction"), accessFlags := 25, slot := 2, constantValue := 0 }]
  methods := #[k11m0, k11m1]
  instanceTypes := #[]
  staticTypes := #[(.object "java/util/function/BiFunction"), (.object "java/util/function/BiFunction"), (.object "java/util/function/BiFunction")]
  resolved := Array.replicate 194 none
  statics := some 1 }

def pool12 : Array CpInfo := pool [(9, u "<init>"), (6, .class_ 18), (1, u "java/lang/Object"), (0, u "()V"), (1, .class_ 23), (1, u "jdk/internal/util/ArraysSupport"), (0, u "LOG2_ARRAY_LONG_INDEX_SCALE"), (0, u "I"), (2, u "U"), (0, u "Ljdk/internal/misc/Unsafe;"), (8, u "BIG_ENDIAN"), (0, u "Z"), (8, u "LOG2_BYTE_BIT_SIZE"), (4, u "LOG2_ARRAY_INT_INDEX_SCALE"), (54, u "JLA"), (0, u "Ljdk/internal/access/JavaLangAccess;"), (11, u "LOG2_ARRAY_BOOLEAN_INDEX_SCALE"), (9, u "LOG2_ARRAY_BYTE_INDEX_SCALE"), (5, u "LOG2_ARRAY_CHAR_INDEX_SCALE"), (5, u "LOG2_ARRAY_SHORT_INDEX_SCALE"), (18, u "LOG2_ARRAY_FLOAT_INDEX_SCALE"), (24, u "LOG2_ARRAY_DOUBLE_INDEX_SCALE"), (89, u "T_BOOLEAN"), (2, u "T_CHAR"), (1, u "T_FLOAT"), (1, u "T_DOUBLE"), (1, u "T_BYTE"), (1, u "T_SHORT"), (1, u "T_INT"), (1, u "T_LONG"), (1, u "SOFT_MAX_ARRAY_LENGTH")] 83

def k12m0 : Method := { name := "<init>", desc := "()V", sig := { parameters := [], returnType := none }, accessFlags := 2, code := none }
/-- jdk/internal/util/ArraysSupport -/
def k12 : Class := { plain "jdk/internal/util/ArraysSupport" (some 0) with
  accessFlags := 33
  interfaces := #[]
  cf := some (fileOf pool12 21 #[] #[{ accessFlags := 2, nameIndex := 9, descriptorIndex := 19, attributes := #[] }] 33 16 #[] #[{ accessFlags := 24, nameIndex := 28, descriptorIndex := 29, attributes := #[] }, { accessFlags := 26, nameIndex := 38, descriptorIndex := 39, attributes := #[] }, { accessFlags := 25, nameIndex := 121, descriptorIndex := 25, attributes := #[] }, { accessFlags := 25, nameIndex := 131, descriptorIndex := 25, attributes := #[] }, { accessFlags := 25, nameIndex := 137, descriptorIndex := 25, attributes := #[] }, { accessFlags := 25, nameIndex := 143, descriptorIndex := 25, attributes := #[] }, { accessFlags := 25, nameIndex := 53, descriptorIndex := 25, attributes := #[] }, { accessFlags := 25, nameIndex := 24, descriptorIndex := 25, attributes := #[] }, { accessFlags := 25, nameIndex := 162, descriptorIndex := 25, attributes := #[] }, { accessFlags := 25, nameIndex := 187, descriptorIndex := 25, attributes := #[] }, { accessFlags := 26, nameIndex := 48, descriptorIndex := 25, attributes := #[] }, { accessFlags := 25, nameIndex := 277, descriptorIndex := 25, attributes := #[] }, { accessFlags := 25, nameIndex := 280, descriptorIndex := 25, attributes := #[] }, { accessFlags := 25, nameIndex := 282, descriptorIndex := 25, attributes := #[] }, { accessFlags := 25, nameIndex := 284, descriptorIndex := 25, attributes := #[] }, { accessFlags := 25, nameIndex := 286, descriptorIndex := 25, attributes := #[] }, { accessFlags := 25, nameIndex := 288, descriptorIndex := 25, attributes := #[] }, { accessFlags := 25, nameIndex := 290, descriptorIndex := 25, attributes := #[] }, { accessFlags := 25, nameIndex := 292, descriptorIndex := 25, attributes := #[] }, { accessFlags := 26, nameIndex := 108, descriptorIndex := 109, attributes := #[] }, { accessFlags := 25, nameIndex := 294, descriptorIndex := 25, attributes := #[] }])
  fields := #[{ name := "U", type := (.object "jdk/internal/misc/Unsafe"), accessFlags := 24, slot := 0, constantValue := 0 }, { name := "BIG_ENDIAN", type := .boolean, accessFlags := 26, slot := 1, constantValue := 0 }, { name := "LOG2_ARRAY_BOOLEAN_INDEX_SCALE", type := .int, accessFlags := 25, slot := 2, constantValue := 0 }, { name := "LOG2_ARRAY_BYTE_INDEX_SCALE", type := .int, accessFlags := 25, slot := 3, constantValue := 0 }, { name := "LOG2_ARRAY_CHAR_INDEX_SCALE", type := .int, accessFlags := 25, slot := 4, constantValue := 0 }, { name := "LOG2_ARRAY_SHORT_INDEX_SCALE", type := .int, accessFlags := 25, slot := 5, constantValue := 0 }, { name := "LOG2_ARRAY_INT_INDEX_SCALE", type := .int, accessFlags := 25, slot := 6, constantValue := 0 }, { name := "LOG2_ARRAY_LONG_INDEX_SCALE", type := .int, accessFlags := 25, slot := 7, constantValue := 0 }, { name := "LOG2_ARRAY_FLOAT_INDEX_SCALE", type := .int, accessFlags := 25, slot := 8, constantValue := 0 }, { name := "LOG2_ARRAY_DOUBLE_INDEX_SCALE", type := .int, accessFlags := 25, slot := 9, constantValue := 0 }, { name := "LOG2_BYTE_BIT_SIZE", type := .int, accessFlags := 26, slot := 10, constantValue := 0 }, { name := "T_BOOLEAN", type := .int, accessFlags := 25, slot := 11, constantValue := 0 }, { name := "T_CHAR", type := .int, accessFlags := 25, slot := 12, constantValue := 0 }, { name := "T_FLOAT", type := .int, accessFlags := 25, slot := 13, constantValue := 0 }, { name := "T_DOUBLE", type := .int, accessFlags := 25, slot := 14, constantValue := 0 }, { name := "T_BYTE", type := .int, accessFlags := 25, slot := 15, constantValue := 0 }, { name := "T_SHORT", type := .int, accessFlags := 25, slot := 16, constantValue := 0 }, { name := "T_INT", type := .int, accessFlags := 25, slot := 17, constantValue := 0 }, { name := "T_LONG", type := .int, accessFlags := 25, slot := 18, constantValue := 0 }, { name := "JLA", type := (.object "jdk/internal/access/JavaLangAccess"), accessFlags := 26, slot := 19, constantValue := 0 }, { name := "SOFT_MAX_ARRAY_LENGTH", type := .int, accessFlags := 25, slot := 20, constantValue := 0 }]
  methods := #[k12m0]
  instanceTypes := #[]
  staticTypes := #[(.object "jdk/internal/misc/Unsafe"), .boolean, .int, .int, .int, .int, .int, .int, .int, .int, .int, .int, .int, .int, .int, .int, .int, .int, .int, (.object "jdk/internal/access/JavaLangAccess"), .int]
  resolved := Array.replicate 378 none
  statics := none }

def pool13 : Array CpInfo := pool [(1, u "java/lang/Cloneable"), (0, .class_ 1), (0, u "java/lang/Object"), (0, .class_ 3)] 3

/-- java/lang/Cloneable -/
def k13 : Class := { plain "java/lang/Cloneable" (some 0) with
  accessFlags := 1537
  interfaces := #[]
  cf := some (fileOf pool13 2 #[] #[] 1537 4 #[] #[])
  fields := #[]
  methods := #[]
  instanceTypes := #[]
  staticTypes := #[]
  resolved := Array.replicate 8 none
  statics := none }

/-- the primitive byte -/
def k14 : Class := { plain "byte" none with kind := .primitive 'B', accessFlags := 0x411 }
/-- [B -/
def k15 : Class := { plain "[B" (some 0) with kind := .array 14 .byte, interfaces := #[13, 2], accessFlags := 1041 }

/-- the primitive char -/
def k16 : Class := { plain "char" none with kind := .primitive 'C', accessFlags := 0x411 }
/-- [C -/
def k17 : Class := { plain "[C" (some 0) with kind := .array 16 .char, interfaces := #[13, 2], accessFlags := 1041 }

/-- the primitive int -/
def k18 : Class := { plain "int" none with kind := .primitive 'I', accessFlags := 0x411 }
/-- [I -/
def k19 : Class := { plain "[I" (some 0) with kind := .array 18 .int, interfaces := #[13, 2], accessFlags := 1041 }

def heap : Heap := #[{ cls := 7, slots := #[.long 0, .int 1, .null, .int 0, .null, .int 0, .int 0], vm := .statics 7 },
  { cls := 11, slots := #[.null, .null, .null], vm := .statics 11 }]
def classes : Array Class := #[k0, k1, k2, k3, k4, k5, k6, k7, k8, k9, k10, k11, k12, k13, k14, k15, k16, k17, k18, k19]
def interned : List (Array UInt16 × Addr) := []
def slotsUsed : Nat := 10
def theMethod : MethodId := ⟨1, 1⟩
def args0 : Array Value := #[.int 5, .int 7, .int 5, .int 1, .int 2, .int 3]
def aboutOver (below : List Frame) : State where
  vm := { classes := classes, interned := interned.toArray }
  heap := heap
  slotsUsed := slotsUsed
  threads := #[{ frames := .invoking theMethod args0 :: below }]
def below0 : List Frame := [.native { method := ⟨0, 0⟩, args := #[] }]
def about1 : State := aboutOver below0
def p0 : Program := .bare "" "" ""
def e0 : Env := launch0.env 0 0 0
theorem w_frames : about1.frames = Frame.invoking theMethod args0 :: below0 := rfl
set_option maxRecDepth 65536 in
theorem w_args : argsFit about1.vm theMethod args0 = true := by decide +kernel
set_option maxRecDepth 65536 in
theorem w_heap : heapFits about1 = true := by decide +kernel
set_option maxRecDepth 65536 in
theorem w_runnable : about1.curStatus? = some .runnable := by decide +kernel
set_option maxRecDepth 65536 in
theorem w_alone : about1.alone = true := by decide +kernel
set_option maxRecDepth 65536 in
theorem w_named : about1.methodNamed? x = some theMethod := by decide +kernel
set_option maxRecDepth 65536 in
theorem w_hears : about1.hears theMethod below0 = true := by decide +kernel
set_option maxRecDepth 65536 in
theorem w_ripe : about1.ripe theMethod args0 below0 = true := by decide +kernel
theorem w_running : about1.status = .running := rfl
set_option maxRecDepth 65536 in
theorem w_room : about1.hasRoom e0.platform room_1 = true :=
  launch0.hasRoom_least _ room_1 (by decide +kernel) (by decide +kernel) (by decide +kernel) (by decide +kernel) (by decide +kernel) (by decide +kernel)
theorem allAtoms_all (ts : List Jvm.Cond) (a : Array Jvm.Value) (st : Jvm.State) : (allAtoms ts).before a st = ts.all (fun c => c.before a st) := by
  induction ts with
  | nil => rfl
  | cons c t ih =>
    show (Jvm.Cond.and c (allAtoms t)).before a st = _
    rw [Jvm.Cond.before_and, ih, List.all_cons]
def words1 : List Jvm.Cond := Jvm.Cond.code x code maxLocals ret :: tables_1
/-- a 'code' word, met by the world's own term for the bytes: nothing is compared byte by byte -/
theorem code_word {y : MethodName} {bytes : ByteArray} {mx : Nat} {rt : Option FieldType} {a : Array Value} {s : State} {m : MethodId} {meth : Method} {c : Code} (h1 : s.methodNamed? y = some m) (h2 : s.vm.method? m = some meth) (h3 : meth.code = some c) (h4 : c.code = bytes)
    (h5 : (c.maxLocals == mx && c.exceptionTable.isEmpty && decide (c.maxStack ≤ mostOperands) && decide (meth.sig.returnType = rt) && !meth.locks && decide (parseMethodDescriptor y.desc = some meth.sig)) = true) : (Jvm.Cond.code y bytes mx rt).before a s = true := by
  simp only [Bool.and_eq_true, beq_iff_eq, Bool.not_eq_true', decide_eq_true_eq] at h5
  obtain ⟨⟨⟨⟨⟨g1, g2⟩, g3⟩, g4⟩, g5⟩, g6⟩ := h5
  simp [Cond.before, Cond.holds, Cond.value, h1, h2, h3, h4, g1, g2, g3, g4, g5, g6]
def isCode : Jvm.Cond → Bool
  | .code _ _ _ _ => true
  | _ => false
theorem all_split {L : List Jvm.Cond} {P : Jvm.Cond → Bool} (h1 : L.all (fun c => isCode c || P c) = true) (h2 : ∀ c ∈ L.filter isCode, P c = true) : L.all P = true := by
  refine List.all_eq_true.mpr fun c hc => ?_
  have h := List.all_eq_true.mp h1 c hc
  rcases Bool.eq_false_or_eq_true (isCode c) with hi | hi
  · exact h2 c (List.mem_filter.mpr ⟨hc, hi⟩)
  · simpa [hi] using h
set_option maxRecDepth 65536 in
theorem w_c0 : (Jvm.Cond.code x code maxLocals ret).before args0 about1 = true := code_word (m := ⟨1, 1⟩) (meth := k1m1) (c := k1c1) (by decide +kernel) rfl rfl rfl (by decide +kernel)
set_option maxRecDepth 65536 in
theorem w_c1 : (Jvm.Cond.code ({ cls := "com/example/kuvert/kuvert/mime/HeadingCommentEndPinLaw", name := "put", desc := "([CII)I" } : Jvm.MethodName) method_5_code (6 : Nat) (Option.some Jvm.ClassFile.FieldType.int)).before args0 about1 = true := code_word (m := ⟨1, 4⟩) (meth := k1m4) (c := k1c4) (by decide +kernel) rfl rfl rfl (by decide +kernel)
set_option maxRecDepth 65536 in
theorem w_c2 : (Jvm.Cond.code ({ cls := "com/example/kuvert/kuvert/mime/HeadingCommentEndPinLaw", name := "ctext", desc := "(I)C" } : Jvm.MethodName) method_4_code (2 : Nat) (Option.some Jvm.ClassFile.FieldType.char)).before args0 about1 = true := code_word (m := ⟨1, 3⟩) (meth := k1m3) (c := k1c3) (by decide +kernel) rfl rfl rfl (by decide +kernel)
set_option maxRecDepth 65536 in
theorem w_c3 : (Jvm.Cond.code ({ cls := "com/example/kuvert/kuvert/mime/HeadingCommentEndPinLaw", name := "cell", desc := "(III[CIIZZ)C" } : Jvm.MethodName) method_3_code (10 : Nat) (Option.some Jvm.ClassFile.FieldType.char)).before args0 about1 = true := code_word (m := ⟨1, 2⟩) (meth := k1m2) (c := k1c2) (by decide +kernel) rfl rfl rfl (by decide +kernel)
set_option maxRecDepth 65536 in
theorem w_c4 : (Jvm.Cond.code ({ cls := "java/lang/String", name := "<init>", desc := "([C)V" } : Jvm.MethodName) jdk_42_method_3_code (2 : Nat) (Option.none : Option Jvm.ClassFile.FieldType)).before args0 about1 = true := code_word (m := ⟨7, 1⟩) (meth := k7m1) (c := k7c1) (by decide +kernel) rfl rfl rfl (by decide +kernel)
set_option maxRecDepth 65536 in
theorem w_c5 : (Jvm.Cond.code ({ cls := "java/lang/String", name := "<init>", desc := "([CIILjava/lang/Void;)V" } : Jvm.MethodName) jdk_42_method_149_code (6 : Nat) (Option.none : Option Jvm.ClassFile.FieldType)).before args0 about1 = true := code_word (m := ⟨7, 4⟩) (meth := k7m4) (c := k7c4) (by decide +kernel) rfl rfl rfl (by decide +kernel)
set_option maxRecDepth 65536 in
theorem w_c6 : (Jvm.Cond.code ({ cls := "java/lang/Object", name := "<init>", desc := "()V" } : Jvm.MethodName) object_method_1_code (1 : Nat) (Option.none : Option Jvm.ClassFile.FieldType)).before args0 about1 = true := code_word (m := ⟨0, 0⟩) (meth := k0m0) (c := k0c0) (by decide +kernel) rfl rfl rfl (by decide +kernel)
set_option maxRecDepth 65536 in
theorem w_c7 : (Jvm.Cond.code ({ cls := "java/lang/StringUTF16", name := "compress", desc := "([CII)[B" } : Jvm.MethodName) jdk_52_method_16_code (6 : Nat) (Option.some (Jvm.ClassFile.FieldType.array Jvm.ClassFile.FieldType.byte))).before args0 about1 = true := code_word (m := ⟨8, 2⟩) (meth := k8m2) (c := k8c2) (by decide +kernel) rfl rfl rfl (by decide +kernel)
set_option maxRecDepth 65536 in
theorem w_c8 : (Jvm.Cond.code ({ cls := "java/lang/StringUTF16", name := "compress", desc := "([CI[BII)I" } : Jvm.MethodName) jdk_52_method_21_code (7 : Nat) (Option.some Jvm.ClassFile.FieldType.int)).before args0 about1 = true := code_word (m := ⟨8, 3⟩) (meth := k8m3) (c := k8c3) (by decide +kernel) rfl rfl rfl (by decide +kernel)
set_option maxRecDepth 65536 in
theorem w_c9 : (Jvm.Cond.code ({ cls := "java/lang/StringUTF16", name := "coderFromArrayLen", desc := "([BI)B" } : Jvm.MethodName) jdk_52_method_15_code (2 : Nat) (Option.some Jvm.ClassFile.FieldType.byte)).before args0 about1 = true := code_word (m := ⟨8, 1⟩) (meth := k8m1) (c := k8c1) (by decide +kernel) rfl rfl rfl (by decide +kernel)
set_option maxRecDepth 65536 in
theorem w_c10 : (Jvm.Cond.code ({ cls := "com/example/kuvert/kuvert/mime/Heading", name := "commentEnd", desc := "(Ljava/lang/String;I)I" } : Jvm.MethodName) prog_27_method_7_code (5 : Nat) (Option.some Jvm.ClassFile.FieldType.int)).before args0 about1 = true := code_word (m := ⟨9, 0⟩) (meth := k9m0) (c := k9c0) (by decide +kernel) rfl rfl rfl (by decide +kernel)
set_option maxRecDepth 65536 in
theorem w_c11 : (Jvm.Cond.code ({ cls := "java/lang/String", name := "length", desc := "()I" } : Jvm.MethodName) jdk_42_method_54_code (1 : Nat) (Option.some Jvm.ClassFile.FieldType.int)).before args0 about1 = true := code_word (m := ⟨7, 2⟩) (meth := k7m2) (c := k7c2) (by decide +kernel) rfl rfl rfl (by decide +kernel)
set_option maxRecDepth 65536 in
theorem w_c12 : (Jvm.Cond.code ({ cls := "java/lang/String", name := "coder", desc := "()B" } : Jvm.MethodName) jdk_42_method_152_code (1 : Nat) (Option.some Jvm.ClassFile.FieldType.byte)).before args0 about1 = true := code_word (m := ⟨7, 5⟩) (meth := k7m5) (c := k7c5) (by decide +kernel) rfl rfl rfl (by decide +kernel)
set_option maxRecDepth 65536 in
theorem w_c13 : (Jvm.Cond.code ({ cls := "java/lang/String", name := "charAt", desc := "(I)C" } : Jvm.MethodName) jdk_42_method_56_code (2 : Nat) (Option.some Jvm.ClassFile.FieldType.char)).before args0 about1 = true := code_word (m := ⟨7, 3⟩) (meth := k7m3) (c := k7c3) (by decide +kernel) rfl rfl rfl (by decide +kernel)
set_option maxRecDepth 65536 in
theorem w_c14 : (Jvm.Cond.code ({ cls := "java/lang/String", name := "isLatin1", desc := "()Z" } : Jvm.MethodName) jdk_42_method_154_code (1 : Nat) (Option.some Jvm.ClassFile.FieldType.boolean)).before args0 about1 = true := code_word (m := ⟨7, 6⟩) (meth := k7m6) (c := k7c6) (by decide +kernel) rfl rfl rfl (by decide +kernel)
set_option maxRecDepth 65536 in
theorem w_c15 : (Jvm.Cond.code ({ cls := "java/lang/StringLatin1", name := "charAt", desc := "([BI)C" } : Jvm.MethodName) jdk_43_method_2_code (2 : Nat) (Option.some Jvm.ClassFile.FieldType.char)).before args0 about1 = true := code_word (m := ⟨10, 1⟩) (meth := k10m1) (c := k10c1) (by decide +kernel) rfl rfl rfl (by decide +kernel)
set_option maxRecDepth 65536 in
theorem w_c16 : (Jvm.Cond.code ({ cls := "java/lang/String", name := "checkIndex", desc := "(II)V" } : Jvm.MethodName) jdk_42_method_155_code (2 : Nat) (Option.none : Option Jvm.ClassFile.FieldType)).before args0 about1 = true := code_word (m := ⟨7, 7⟩) (meth := k7m7) (c := k7c7) (by decide +kernel) rfl rfl rfl (by decide +kernel)
set_option maxRecDepth 65536 in
theorem w_c17 : (Jvm.Cond.code ({ cls := "jdk/internal/util/Preconditions", name := "checkIndex", desc := "(IILjava/util/function/BiFunction;)I" } : Jvm.MethodName) jdk_41_method_11_code (3 : Nat) (Option.some Jvm.ClassFile.FieldType.int)).before args0 about1 = true := code_word (m := ⟨11, 1⟩) (meth := k11m1) (c := k11c1) (by decide +kernel) rfl rfl rfl (by decide +kernel)
def codes1 : List Jvm.Cond := [Jvm.Cond.code x code maxLocals ret, Jvm.Cond.code ({ cls := "com/example/kuvert/kuvert/mime/HeadingCommentEndPinLaw", name := "put", desc := "([CII)I" } : Jvm.MethodName) method_5_code (6 : Nat) (Option.some Jvm.ClassFile.FieldType.int), Jvm.Cond.code ({ cls := "com/example/kuvert/kuvert/mime/HeadingCommentEndPinLaw", name := "ctext", desc := "(I)C" } : Jvm.MethodName) method_4_code (2 : Nat) (Option.some Jvm.ClassFile.FieldType.char), Jvm.Cond.code ({ cls := "com/example/kuvert/kuvert/mime/HeadingCommentEndPinLaw", name := "cell", desc := "(III[CIIZZ)C" } : Jvm.MethodName) method_3_code (10 : Nat) (Option.some Jvm.ClassFile.FieldType.char), Jvm.Cond.code ({ cls := "java/lang/String", name := "<init>", desc := "([C)V" } : Jvm.MethodName) jdk_42_method_3_code (2 : Nat) (Option.none : Option Jvm.ClassFile.FieldType), Jvm.Cond.code ({ cls := "java/lang/String", name := "<init>", desc := "([CIILjava/lang/Void;)V" } : Jvm.MethodName) jdk_42_method_149_code (6 : Nat) (Option.none : Option Jvm.ClassFile.FieldType), Jvm.Cond.code ({ cls := "java/lang/Object", name := "<init>", desc := "()V" } : Jvm.MethodName) object_method_1_code (1 : Nat) (Option.none : Option Jvm.ClassFile.FieldType), Jvm.Cond.code ({ cls := "java/lang/StringUTF16", name := "compress", desc := "([CII)[B" } : Jvm.MethodName) jdk_52_method_16_code (6 : Nat) (Option.some (Jvm.ClassFile.FieldType.array Jvm.ClassFile.FieldType.byte)), Jvm.Cond.code ({ cls := "java/lang/StringUTF16", name := "compress", desc := "([CI[BII)I" } : Jvm.MethodName) jdk_52_method_21_code (7 : Nat) (Option.some Jvm.ClassFile.FieldType.int), Jvm.Cond.code ({ cls := "java/lang/StringUTF16", name := "coderFromArrayLen", desc := "([BI)B" } : Jvm.MethodName) jdk_52_method_15_code (2 : Nat) (Option.some Jvm.ClassFile.FieldType.byte), Jvm.Cond.code ({ cls := "com/example/kuvert/kuvert/mime/Heading", name := "commentEnd", desc := "(Ljava/lang/String;I)I" } : Jvm.MethodName) prog_27_method_7_code (5 : Nat) (Option.some Jvm.ClassFile.FieldType.int), Jvm.Cond.code ({ cls := "java/lang/String", name := "length", desc := "()I" } : Jvm.MethodName) jdk_42_method_54_code (1 : Nat) (Option.some Jvm.ClassFile.FieldType.int), Jvm.Cond.code ({ cls := "java/lang/String", name := "coder", desc := "()B" } : Jvm.MethodName) jdk_42_method_152_code (1 : Nat) (Option.some Jvm.ClassFile.FieldType.byte), Jvm.Cond.code ({ cls := "java/lang/String", name := "charAt", desc := "(I)C" } : Jvm.MethodName) jdk_42_method_56_code (2 : Nat) (Option.some Jvm.ClassFile.FieldType.char), Jvm.Cond.code ({ cls := "java/lang/String", name := "isLatin1", desc := "()Z" } : Jvm.MethodName) jdk_42_method_154_code (1 : Nat) (Option.some Jvm.ClassFile.FieldType.boolean), Jvm.Cond.code ({ cls := "java/lang/StringLatin1", name := "charAt", desc := "([BI)C" } : Jvm.MethodName) jdk_43_method_2_code (2 : Nat) (Option.some Jvm.ClassFile.FieldType.char), Jvm.Cond.code ({ cls := "java/lang/String", name := "checkIndex", desc := "(II)V" } : Jvm.MethodName) jdk_42_method_155_code (2 : Nat) (Option.none : Option Jvm.ClassFile.FieldType), Jvm.Cond.code ({ cls := "jdk/internal/util/Preconditions", name := "checkIndex", desc := "(IILjava/util/function/BiFunction;)I" } : Jvm.MethodName) jdk_41_method_11_code (3 : Nat) (Option.some Jvm.ClassFile.FieldType.int)]
set_option maxRecDepth 65536 in
theorem codes_eq : words1.filter isCode = codes1 := rfl
theorem w_codes : ∀ c ∈ words1.filter isCode, c.before args0 about1 = true := by
  rw [codes_eq]
  intro c hc
  simp only [codes1, List.mem_cons, List.not_mem_nil, or_false] at hc
  rcases hc with rfl | rfl | rfl | rfl | rfl | rfl | rfl | rfl | rfl | rfl | rfl | rfl | rfl | rfl | rfl | rfl | rfl | rfl
  · exact w_c0
  · exact w_c1
  · exact w_c2
  · exact w_c3
  · exact w_c4
  · exact w_c5
  · exact w_c6
  · exact w_c7
  · exact w_c8
  · exact w_c9
  · exact w_c10
  · exact w_c11
  · exact w_c12
  · exact w_c13
  · exact w_c14
  · exact w_c15
  · exact w_c16
  · exact w_c17
set_option maxRecDepth 65536 in
theorem w_t1 : (words1.take 24).all (fun c => isCode c || c.before args0 about1) = true := by decide +kernel
set_option maxRecDepth 65536 in
theorem w_t2 : ((words1.drop 24).take 24).all (fun c => isCode c || c.before args0 about1) = true := by decide +kernel
set_option maxRecDepth 65536 in
theorem w_t3 : (((words1.drop 24).drop 24).take 24).all (fun c => isCode c || c.before args0 about1) = true := by decide +kernel
set_option maxRecDepth 65536 in
theorem w_t4 : (((words1.drop 24).drop 24).drop 24).all (fun c => isCode c || c.before args0 about1) = true := by decide +kernel
theorem w_tables : (allAtoms (Jvm.Cond.code x code maxLocals ret :: tables_1)).before args0 about1 = true := by
  rw [allAtoms_all]
  show words1.all (fun c => c.before args0 about1) = true
  refine all_split ?_ w_codes
  rw [← List.take_append_drop 24 words1, List.all_append, w_t1, ← List.take_append_drop 24 (words1.drop 24), List.all_append, w_t2, ← List.take_append_drop 24 ((words1.drop 24).drop 24), List.all_append, w_t3, w_t4]
  rfl
set_option maxRecDepth 65536 in
theorem w_rest : rest_1_c.before args0 about1 = true := by decide +kernel
set_option maxRecDepth 65536 in
theorem w_case : (Jvm.Cond.and given_1 narrow_1).before args0 about1 = true := by decide +kernel
theorem w_applies : (headSpec (Jvm.Cond.code x code maxLocals ret :: tables_1) room_1).applies x e0.platform about1 = true :=
  (Spec.applies_iff w_frames).mpr ⟨w_running, w_runnable, w_alone, w_named, w_hears, w_ripe, w_room, w_tables⟩
theorem atStart : AtStart classFile x code maxLocals ret World_1 tables_1 room_1 Calls_1 rest_1 Pre_1 launch0 p0 e0 about1 theMethod args0 below0 :=
  ⟨lists_1, trivial, launch0.admits_env _ _ _, launch0.least_env, fairChoices_fair.cas, fairChoices_fair.clock, w_frames, w_args, w_heap, w_applies, trivial, w_rest, w_case⟩
end start1
theorem witness_1 : WitnessClaimed_1 := ⟨start1.p0, start1.e0, start1.about1, start1.theMethod, start1.args0, start1.below0, start1.atStart⟩
end Jvm.Pilot.@@N@@
