import JvmDerived
import JvmDerived.Pilot.@@N@@Statement
import JvmDerived.Pilot.@@N@@Code
set_option linter.unusedVariables false
set_option linter.unusedSimpArgs false
namespace Jvm.RoadKit
open Sem ClassFile Op Lib Jvm.Stand Jvm.Free Jvm.LawKit
section New
variable {p : Program} {l : Launch} {e : Env} {R : Room} {s : State} {m : MethodId} {args : Array Value} {below : List Frame} {meth : Method} {c : Code} {T : State} {locs : List Loc} {cells slots : Nat}
theorem retI (X : Stand p l e R s m args below meth c T locs cells slots) (hx : p.tables.exec = Jvm.exec) {pc : Nat} {Ls : Array Slot} {z : Int32} {rest : List Value} (hret : meth.sig.returnType = some .int) (hd : decode c.code pc = .ok (.ireturn, 1)) {fs : List Frame}
    (hl : ∀ (f : JFrame) (acts : List Action), f.method = m → f.locked = none → f.entered = [] → (doReturn e (T.setTop f) acts (some (.int z))).1 = T.setFrames fs) : Steps p.tables e below (T.setTop (mkF m pc Ls (.int z :: rest))) (T.setFrames fs) := by
  have hm' : T.vm.method? m = some meth := X.method'
  have hn : narrow .int (.int z) = .int z := rfl
  show Steps p.tables e below (T.setTop { method := m, pc := pc, locals := Ls, stack := _ :: rest, locked := none }) _
  jvm_step X.here [X.here.top, hx, hd, hm', hret, hn]
  first | (intro acts; rw [hl _ acts rfl rfl rfl]) | rw [hl _ _ rfl rfl rfl]
  exact Steps.refl _
end New
end Jvm.RoadKit
/- laws to paste: Road.backV (cut by pick.py; bodies as the Statement names them) -/
namespace Jvm.Pilot.@@N@@
namespace StrChars
open Jvm Sem ClassFile Op Lib Jvm.Stand Jvm.Free.XT Jvm.Free.ALB Jvm.Free.JM Jvm.Free
open Jvm.Lib.Cold (StaticIs)
/-- a char array whose places are chars -/
def Ch (a : Addr) (A : Cell) (U : State) : Prop := Arr .char a A U ∧ Typed .char A
theorem Ch.mv {a : Addr} {A : Cell} {U U' : State} (h : Ch a A U) (hal : U.vm.Alike U'.vm) (hh : U'.heap = U.heap) : Ch a A U' := ⟨h.1.mv hal hh, h.2⟩
theorem Ch.keep {a : Addr} {A : Cell} {U U' : State} (h : Ch a A U) (hal : U.vm.Alike U'.vm) (hk : U'.heap[a]? = some A) : Ch a A U' := ⟨h.1.keep hal hk, h.2⟩
/-- what place i of a char[]'s cell holds -/
def cv (A : Cell) (i : Nat) : Int32 := match A.slots[i]? with | some (.int x) => x | _ => 0
theorem Ch.get {a : Addr} {A : Cell} {U : State} (h : Ch a A U) {i : Nat} (hi : i < A.slots.size) : A.slots[i]? = some (.int (cv A i)) := by
  have e := Array.getElem?_eq_getElem hi
  have f := h.2 i _ e
  unfold cv; rw [e]
  generalize A.slots[i] = v at f
  cases v <;> simp [fits] at f ⊢
/-- the byte that i2b leaves of a char -/
def lo8 (x : Int32) : Int32 := x.toInt8.toInt32
theorem fits_lo8 (y : Int32) : fits .byte (.int (lo8 y)) = true := by
  have h1 := y.toInt8.le_toInt
  have h2 := y.toInt8.toInt_lt
  simp only [lo8, fits, Bool.and_eq_true, decide_eq_true_eq, Int32.le_iff_toInt_le, Int8.toInt_toInt32, show (-128 : Int32).toInt = -128 from by decide, show (127 : Int32).toInt = 127 from by decide]
  omega
/-- A' is A but that each place j of lo .. hi - 1 holds f j -/
def Laid (A A' : Cell) (lo hi : Nat) (f : Nat → Value) : Prop := A'.cls = A.cls ∧ A'.vm = A.vm ∧ A'.slots.size = A.slots.size ∧ ∀ i, A'.slots[i]? = if lo ≤ i ∧ i < hi then some (f i) else A.slots[i]?
theorem Laid.zero (A : Cell) (lo : Nat) (f : Nat → Value) : Laid A A lo (lo + 0) f := ⟨rfl, rfl, rfl, fun i => by rw [if_neg (by omega)]⟩
theorem Laid.step {A Ak : Cell} {lo k : Nat} {f : Nat → Value} {v : Value} (h : Laid A Ak lo k f) (hlo : lo ≤ k) (hk : k < Ak.slots.size) (hv : v = f k) : Laid A (Ak.setSlot k v) lo (k + 1) f := by
  refine ⟨h.1, h.2.1, by simpa [Cell.setSlot] using h.2.2.1, fun i => ?_⟩
  by_cases e : k = i
  · subst e; rw [Cell.slots_setSlot_self v hk, if_pos (by omega), hv]
  · rw [Cell.slots_setSlot_ne v e, h.2.2.2 i]
    by_cases q : lo ≤ i ∧ i < k
    · rw [if_pos q, if_pos (by omega)]
    · rw [if_neg q, if_neg (by omega)]
def U16 : String := "java/lang/StringUTF16"
namespace Cmp5
def yN : MethodName := ⟨"java/lang/StringUTF16", "compress", "([CI[BII)I"⟩
abbrev yB : ByteArray := jdk_52_method_21_code
theorem d0 : decode yB 0 = .ok (.iconst 0, 1) := by decide +kernel
theorem d1 : decode yB 1 = .ok (.istore 5, 2) := by decide +kernel
theorem d3 : decode yB 3 = .ok (.iload 5, 2) := by decide +kernel
theorem d5 : decode yB 5 = .ok (.iload 4, 2) := by decide +kernel
theorem d7 : decode yB 7 = .ok (.if_icmp (.ge) 37, 3) := by decide +kernel
theorem d10 : decode yB 10 = .ok (.aload_n 0, 1) := by decide +kernel
theorem d11 : decode yB 11 = .ok (.iload_n 1, 1) := by decide +kernel
theorem d12 : decode yB 12 = .ok (.caload, 1) := by decide +kernel
theorem d13 : decode yB 13 = .ok (.istore 6, 2) := by decide +kernel
theorem d15 : decode yB 15 = .ok (.iload 6, 2) := by decide +kernel
theorem d17 : decode yB 17 = .ok (.sipush 255, 3) := by decide +kernel
theorem d20 : decode yB 20 = .ok (.if_icmp (.le) 6, 3) := by decide +kernel
theorem d26 : decode yB 26 = .ok (.aload_n 2, 1) := by decide +kernel
theorem d27 : decode yB 27 = .ok (.iload_n 3, 1) := by decide +kernel
theorem d28 : decode yB 28 = .ok (.iload 6, 2) := by decide +kernel
theorem d30 : decode yB 30 = .ok (.i2b, 1) := by decide +kernel
theorem d31 : decode yB 31 = .ok (.bastore, 1) := by decide +kernel
theorem d32 : decode yB 32 = .ok (.iinc 1 1, 3) := by decide +kernel
theorem d35 : decode yB 35 = .ok (.iinc 3 1, 3) := by decide +kernel
theorem d38 : decode yB 38 = .ok (.iinc 5 1, 3) := by decide +kernel
theorem d41 : decode yB 41 = .ok (.goto (-38), 3) := by decide +kernel
theorem d44 : decode yB 44 = .ok (.iload 4, 2) := by decide +kernel
theorem d46 : decode yB 46 = .ok (.ireturn, 1) := by decide +kernel
def site : List Cond := []
def tab : Cond := tabOf yN yB 7 (some .int) site
def P (b : Addr) (A : Cell) (d : Addr) (B : Cell) (o q len : Nat) (args : Array Value) (s : State) : Prop := args = #[.ref b, .int (Int32.ofNat o), .ref d, .int (Int32.ofNat q), .int (Int32.ofNat len)] ∧ Ch b A s ∧ Arr .byte d B s ∧ b ≠ d ∧ o + len ≤ A.slots.size ∧ q + len ≤ B.slots.size ∧ ∀ i, i < len → ¬ 255 < cv A (o + i)
def E (b : Addr) (A : Cell) (d : Addr) (B : Cell) (o q len : Nat) (r : Option Value) (s u : State) : Prop := r = some (.int (Int32.ofNat len)) ∧ ∃ B', Put d B' s u ∧ Laid B B' q (q + len) (fun j => Value.int (lo8 (cv A (o + (j - q)))))
/-- no char of the range above 255: len; the places written hold each char's low byte -/
theorem law (l : Launch) (b : Addr) (A : Cell) (d : Addr) (B : Cell) (o q len : Nat) : Law l yN 5 5 0 0 yB 7 (some .int) site (P b A d B o q len) (E b A d B o q len) (copyLocs d q len) 0 0 := by
  refine Law.of_walk (plainFor_of_name (by decide +kernel)) (by decide +kernel) (by decide +kernel) (by decide) (fun _ _ h => by rw [h.1]; rfl) (fun _ U U' hal hh h => ⟨h.1, h.2.1.mv hal hh, h.2.2.1.mv hal hh, h.2.2.2⟩) (fun r U U' V V' h1 hal h2 h => ⟨h.1, h.2.elim fun B' q => ⟨B', q.1.mv h1 h2, q.2⟩⟩) ?_
  intro p e s m args below meth c s₁ X0 hexec hbytes hml hret hlk hnm hown hh0 W hP
  obtain ⟨rfl, hA, hB, hne, l1, l2, hp⟩ := hP
  have c1 : Steps p.tables e below (s₁.setTop (entryFrame m #[.ref b, .int (Int32.ofNat o), .ref d, .int (Int32.ofNat q), .int (Int32.ofNat len)] 7)) (s₁.setTop (mkF m 0 #[.val (.ref b), .val (.int (Int32.ofNat o)), .val (.ref d), .val (.int (Int32.ofNat q)), .val (.int (Int32.ofNat len)), .unset, .unset] [])) := entry rfl
  have hA0 := hA.1.mv X0.warmed.alike hh0
  have hB0 := hB.mv X0.warmed.alike hh0
  have a31 := hA.1.2.2.2
  have c2 : Steps p.tables e below (s₁.setTop (entryFrame m #[.ref b, .int (Int32.ofNat o), .ref d, .int (Int32.ofNat q), .int (Int32.ofNat len)] 7)) (s₁.setTop (mkF m 3 #[.val (.ref b), .val (.int (Int32.ofNat o)), .val (.ref d), .val (.int (Int32.ofNat q)), .val (.int (Int32.ofNat len)), .val (.int 0), .unset] [])) := c1.trans (by
    refine iconstV X0.here hexec rfl 0 (hb hbytes d0) (by decide) ?_
    refine XS.istore X0.here hexec rfl (hb hbytes d1) rfl rfl ?_
    exact Steps.refl _)
  have loop : ∀ (r i : Nat), i + r = len → ∀ (z : Slot), (z = .unset ∨ ∃ w, z = .val w ∧ w.category = 1) → ∀ (Tl : State) (Bk : Cell), Stand p l e { frames := 0, locals := 0, cells := 0, slots := 0 } s m #[.ref b, .int (Int32.ofNat o), .ref d, .int (Int32.ofNat q), .int (Int32.ofNat len)] below meth c Tl ([] ++ copyLocs d q i) 0 0 → Put d Bk s₁ Tl → Laid B Bk q (q + i) (fun j => Value.int (lo8 (cv A (o + (j - q))))) →
      Steps p.tables e below (s₁.setTop (entryFrame m #[.ref b, .int (Int32.ofNat o), .ref d, .int (Int32.ofNat q), .int (Int32.ofNat len)] 7)) (Tl.setTop (mkF m 3 #[.val (.ref b), .val (.int (Int32.ofNat (o + i))), .val (.ref d), .val (.int (Int32.ofNat (q + i))), .val (.int (Int32.ofNat len)), .val (.int (Int32.ofNat i)), z] [])) → ∃ (T' : State) (B' : Cell) (z' : Slot), Stand p l e { frames := 0, locals := 0, cells := 0, slots := 0 } s m #[.ref b, .int (Int32.ofNat o), .ref d, .int (Int32.ofNat q), .int (Int32.ofNat len)] below meth c T' ([] ++ copyLocs d q len) 0 0 ∧ Put d B' s₁ T' ∧ Laid B B' q (q + len) (fun j => Value.int (lo8 (cv A (o + (j - q))))) ∧
      Steps p.tables e below (s₁.setTop (entryFrame m #[.ref b, .int (Int32.ofNat o), .ref d, .int (Int32.ofNat q), .int (Int32.ofNat len)] 7)) (T'.setTop (mkF m 3 #[.val (.ref b), .val (.int (Int32.ofNat (o + len))), .val (.ref d), .val (.int (Int32.ofNat (q + len))), .val (.int (Int32.ofNat len)), .val (.int (Int32.ofNat len)), z'] [])) := by
    intro r
    induction r with
    | zero =>
      intro i hi z hz Tl Bk Xl pl fl cl
      have hil : i = len := by omega
      rw [hil] at Xl fl cl
      exact ⟨Tl, Bk, z, Xl, pl, fl, cl⟩
    | succ r ih =>
      intro i hi z hz Tl Bk Xl pl fl cl
      have all := X0.warmed.alike.symm.trans Xl.warmed.alike
      have hAl := hA0.keep all (pl.other hne hA0.1)
      have hBk := hB0.like all pl.1 fl.1 fl.2.1 fl.2.2.1
      have hlt : q + i < Bk.slots.size := by rw [fl.2.2.1]; omega
      have c3 : Steps p.tables e below (s₁.setTop (entryFrame m #[.ref b, .int (Int32.ofNat o), .ref d, .int (Int32.ofNat q), .int (Int32.ofNat len)] 7)) (Tl.setTop (mkF m 12 #[.val (.ref b), .val (.int (Int32.ofNat (o + i))), .val (.ref d), .val (.int (Int32.ofNat (q + i))), .val (.int (Int32.ofNat len)), .val (.int (Int32.ofNat i)), z] [.int (Int32.ofNat (o + i)), .ref b])) := cl.trans (by
        refine XS.iload Xl.here hexec rfl (hb hbytes d3) rfl ?_
        refine XS.iload Xl.here hexec rfl (hb hbytes d5) rfl ?_
        refine XS.icmpNo Xl.here hexec rfl (hb hbytes d7) rfl (ii_ge_f (lt32 (by omega) (by omega))) ?_
        refine XS.aloadN Xl.here hexec rfl (hb hbytes d10) rfl rfl ?_
        refine XS.iloadN Xl.here hexec rfl (hb hbytes d11) rfl ?_
        exact Steps.refl _)
      have c4 : Steps p.tables e below (s₁.setTop (entryFrame m #[.ref b, .int (Int32.ofNat o), .ref d, .int (Int32.ofNat q), .int (Int32.ofNat len)] 7)) (Tl.setTop (mkF m 13 #[.val (.ref b), .val (.int (Int32.ofNat (o + i))), .val (.ref d), .val (.int (Int32.ofNat (q + i))), .val (.int (Int32.ofNat len)), .val (.int (Int32.ofNat i)), z] [.int (cv A (o + i))])) := c3.trans (by
        refine Xl.aget hexec hAl rfl (hA.get (i := o + i) (by omega)) rfl rfl (hb hbytes d12) ?_
        exact Steps.refl _)
      have c5 : Steps p.tables e below (s₁.setTop (entryFrame m #[.ref b, .int (Int32.ofNat o), .ref d, .int (Int32.ofNat q), .int (Int32.ofNat len)] 7)) (Tl.setTop (mkF m 15 #[.val (.ref b), .val (.int (Int32.ofNat (o + i))), .val (.ref d), .val (.int (Int32.ofNat (q + i))), .val (.int (Int32.ofNat len)), .val (.int (Int32.ofNat i)), .val (.int (cv A (o + i)))] [])) := c4.trans (by
        refine XS.istoreS Xl.here hexec rfl (hb hbytes d13) rfl rfl hz ?_
        exact Steps.refl _)
      have c6 : Steps p.tables e below (s₁.setTop (entryFrame m #[.ref b, .int (Int32.ofNat o), .ref d, .int (Int32.ofNat q), .int (Int32.ofNat len)] 7)) (Tl.setTop (mkF m 31 #[.val (.ref b), .val (.int (Int32.ofNat (o + i))), .val (.ref d), .val (.int (Int32.ofNat (q + i))), .val (.int (Int32.ofNat len)), .val (.int (Int32.ofNat i)), .val (.int (cv A (o + i)))] [.int (lo8 (cv A (o + i))), .int (Int32.ofNat (q + i)), .ref d])) := c5.trans (by
        refine XS.iload Xl.here hexec rfl (hb hbytes d15) rfl ?_
        refine sipushV Xl.here hexec rfl 255 (hb hbytes d17) (by decide) ?_
        refine XS.icmpYes Xl.here hexec rfl (pc0 := 20) rfl (hb hbytes d20) rfl (ii_le_t (hp i (by omega))) (by decide) rfl ?_
        refine XS.aloadN Xl.here hexec rfl (hb hbytes d26) rfl rfl ?_
        refine XS.iloadN Xl.here hexec rfl (hb hbytes d27) rfl ?_
        refine XS.iload Xl.here hexec rfl (hb hbytes d28) rfl ?_
        refine i2b Xl.here hexec rfl (hb hbytes d30) rfl ?_
        exact Steps.refl _)
      obtain ⟨T7, X7, p7, st7⟩ := Xl.aput hexec hBk rfl hlt rfl (fits_lo8 (cv A (o + i))) (g := (mkF m 31 #[.val (.ref b), .val (.int (Int32.ofNat (o + i))), .val (.ref d), .val (.int (Int32.ofNat (q + i))), .val (.int (Int32.ofNat len)), .val (.int (Int32.ofNat i)), .val (.int (cv A (o + i)))] [.int (lo8 (cv A (o + i))), .int (Int32.ofNat (q + i)), .ref d])) rfl (rest := []) rfl (hb hbytes d31)
      have c8 : Steps p.tables e below (s₁.setTop (entryFrame m #[.ref b, .int (Int32.ofNat o), .ref d, .int (Int32.ofNat q), .int (Int32.ofNat len)] 7)) (T7.setTop (mkF m 32 #[.val (.ref b), .val (.int (Int32.ofNat (o + i))), .val (.ref d), .val (.int (Int32.ofNat (q + i))), .val (.int (Int32.ofNat len)), .val (.int (Int32.ofNat i)), .val (.int (cv A (o + i)))] [])) := c6.trans (st7 _ (Steps.refl _))
      have c9 : Steps p.tables e below (s₁.setTop (entryFrame m #[.ref b, .int (Int32.ofNat o), .ref d, .int (Int32.ofNat q), .int (Int32.ofNat len)] 7)) (T7.setTop (mkF m 3 #[.val (.ref b), .val (.int (Int32.ofNat (o + i) + 1)), .val (.ref d), .val (.int (Int32.ofNat (q + i) + 1)), .val (.int (Int32.ofNat len)), .val (.int (Int32.ofNat i + 1)), .val (.int (cv A (o + i)))] [])) := c8.trans (by
        refine iincV X7.here hexec rfl 1 (hb hbytes d32) (by decide) rfl rfl ?_
        refine iincV X7.here hexec rfl 1 (hb hbytes d35) (by decide) rfl rfl ?_
        refine iincV X7.here hexec rfl 1 (hb hbytes d38) (by decide) rfl rfl ?_
        refine XS.goto X7.here hexec rfl (pc0 := 41) rfl (hb hbytes d41) (by decide) rfl ?_
        exact Steps.refl _)
      have c10 : Steps p.tables e below (s₁.setTop (entryFrame m #[.ref b, .int (Int32.ofNat o), .ref d, .int (Int32.ofNat q), .int (Int32.ofNat len)] 7)) (T7.setTop (mkF m 3 #[.val (.ref b), .val (.int (Int32.ofNat (o + (i + 1)))), .val (.ref d), .val (.int (Int32.ofNat (q + (i + 1)))), .val (.int (Int32.ofNat len)), .val (.int (Int32.ofNat (i + 1))), .val (.int (cv A (o + i)))] [])) := by
        have := c9
        rw [succ32, succ32, succ32] at this
        exact this
      exact ih (i + 1) (by omega) _ (Or.inr ⟨_, rfl, rfl⟩) T7 _ (by rw [copyLocs_step, ← List.append_assoc]; exact X7) (pl.trans p7) (fl.step (by omega) hlt (by simp)) c10
  obtain ⟨T9, B9, z9, X9, p9, f9, g9⟩ := loop len 0 (by omega) .unset (Or.inl rfl) s₁ B (by simpa [copyLocs] using X0) ⟨hB0.1, fun _ _ => rfl, rfl⟩ (Laid.zero _ _ _) c2
  have c11 : Steps p.tables e below (s₁.setTop (entryFrame m #[.ref b, .int (Int32.ofNat o), .ref d, .int (Int32.ofNat q), .int (Int32.ofNat len)] 7)) (T9.setTop (mkF m 46 #[.val (.ref b), .val (.int (Int32.ofNat (o + len))), .val (.ref d), .val (.int (Int32.ofNat (q + len))), .val (.int (Int32.ofNat len)), .val (.int (Int32.ofNat len)), z9] [.int (Int32.ofNat len)])) := g9.trans (by
    refine XS.iload X9.here hexec rfl (hb hbytes d3) rfl ?_
    refine XS.iload X9.here hexec rfl (hb hbytes d5) rfl ?_
    refine XS.icmpYes X9.here hexec rfl (pc0 := 7) rfl (hb hbytes d7) rfl (ii_ge_t (nlt32 (by omega) (Nat.le_refl _))) (by decide) rfl ?_
    refine XS.iload X9.here hexec rfl (hb hbytes d44) rfl ?_
    exact Steps.refl _)
  exact ⟨T9, some (.int (Int32.ofNat len)), _, _, _, X9, by simp, rfl, rfl, (fun h => by cases h), ⟨rfl, B9, p9.from hh0, f9⟩, fun fs hl => c11.trans (X9.ireturnOut hexec hret rfl (Or.inl rfl) (hb hbytes d46) hl)⟩
end Cmp5
namespace Cmp3
def yN : MethodName := ⟨"java/lang/StringUTF16", "compress", "([CII)[B"⟩
abbrev yB : ByteArray := jdk_52_method_16_code
theorem d0 : decode yB 0 = .ok (.iload_n 2, 1) := by decide +kernel
theorem d1 : decode yB 1 = .ok (.newarray .byte, 2) := by decide +kernel
theorem d3 : decode yB 3 = .ok (.astore_n 3, 1) := by decide +kernel
theorem d4 : decode yB 4 = .ok (.aload_n 0, 1) := by decide +kernel
theorem d5 : decode yB 5 = .ok (.iload_n 1, 1) := by decide +kernel
theorem d6 : decode yB 6 = .ok (.aload_n 3, 1) := by decide +kernel
theorem d7 : decode yB 7 = .ok (.iconst 0, 1) := by decide +kernel
theorem d8 : decode yB 8 = .ok (.iload_n 2, 1) := by decide +kernel
theorem d9 : decode yB 9 = .ok (.invokestatic 115, 3) := by decide +kernel
theorem d12 : decode yB 12 = .ok (.istore 4, 2) := by decide +kernel
theorem d14 : decode yB 14 = .ok (.iload 4, 2) := by decide +kernel
theorem d16 : decode yB 16 = .ok (.iload_n 2, 1) := by decide +kernel
theorem d17 : decode yB 17 = .ok (.if_icmp (.eq) 40, 3) := by decide +kernel
theorem d57 : decode yB 57 = .ok (.aload_n 3, 1) := by decide +kernel
theorem d58 : decode yB 58 = .ok (.areturn, 1) := by decide +kernel
def site : List Cond := [.arrayClass .byte, Cmp5.tab] ++ staticW U16 115 Cmp5.yN
def tab : Cond := tabOf yN yB 6 (some (.array .byte)) site
def P (b : Addr) (A : Cell) (o len : Nat) (args : Array Value) (s : State) : Prop := args = #[.ref b, .int (Int32.ofNat o), .int (Int32.ofNat len)] ∧ Ch b A s ∧ o + len ≤ A.slots.size ∧ len ≤ 536870912 ∧ ∀ i, i < len → ¬ 255 < cv A (o + i)
def E (b : Addr) (A : Cell) (o len : Nat) (r : Option Value) (s u : State) : Prop := NewArr .byte "[B" len (fun j => .int (lo8 (cv A (o + j)))) r s u ∧ u.heap.size = s.heap.size + 1
/-- no char of the range above 255: a new byte[] of their low bytes -/
theorem law (l : Launch) (b : Addr) (A : Cell) (o len : Nat) : Law l yN 3 3 1 18 yB 6 (some (.array .byte)) site (P b A o len) (E b A o len) [] 1 len := by
  refine Law.of_walk (plainFor_of_name (by decide +kernel)) (by decide +kernel) (by decide +kernel) (by decide) (fun _ _ h => by rw [h.1]; rfl) (fun _ U U' hal hh h => ⟨h.1, h.2.1.mv hal hh, h.2.2⟩) (fun r U U' V V' h1 hal h2 h => ⟨NewArr.mv r U U' V V' h1 hal h2 h.1, by rw [h1, h2]; exact h.2⟩) ?_
  intro p e s m args below meth c s₁ X0 hexec hbytes hml hret hlk hnm hown hh0 W hP
  obtain ⟨rfl, hA, l1, l2, hp⟩ := hP
  have a31 := hA.1.2.2.2
  have c1 : Steps p.tables e below (s₁.setTop (entryFrame m #[.ref b, .int (Int32.ofNat o), .int (Int32.ofNat len)] 6)) (s₁.setTop (mkF m 0 #[.val (.ref b), .val (.int (Int32.ofNat o)), .val (.int (Int32.ofNat len)), .unset, .unset, .unset] [])) := entry rfl
  have c2 : Steps p.tables e below (s₁.setTop (entryFrame m #[.ref b, .int (Int32.ofNat o), .int (Int32.ofNat len)] 6)) (s₁.setTop (mkF m 1 #[.val (.ref b), .val (.int (Int32.ofNat o)), .val (.int (Int32.ofNat len)), .unset, .unset, .unset] [.int (Int32.ofNat len)])) := c1.trans (by
    refine XS.iloadN X0.here hexec rfl (hb hbytes d0) rfl ?_
    exact Steps.refl _)
  obtain ⟨T3, B3, X3, ba3, bs3, bv3, bh3, bf3, st3⟩ := X0.anew hexec (atype := .byte) (wk W (.arrayClass .byte)) rfl (by show len * 1 ≤ _; omega) (by omega) (g := (mkF m 1 #[.val (.ref b), .val (.int (Int32.ofNat o)), .val (.int (Int32.ofNat len)), .unset, .unset, .unset] [.int (Int32.ofNat len)])) rfl (hb hbytes d1) (rest := []) rfl (Nat.le_refl _) (by show 0 + len ≤ len; omega)
  rw [hh0] at ba3 st3
  have kp3 : XT.Kept s T3 := (XT.Kept.of_eq hh0).push bh3
  have hA3 := hA.keep X3.warmed.alike (kp3 _ _ hA.1.1)
  have hne : b ≠ s.heap.size := hA.1.ne
  have c4 : Steps p.tables e below (s₁.setTop (entryFrame m #[.ref b, .int (Int32.ofNat o), .int (Int32.ofNat len)] 6)) (T3.setTop (mkF m 3 #[.val (.ref b), .val (.int (Int32.ofNat o)), .val (.int (Int32.ofNat len)), .unset, .unset, .unset] [.ref s.heap.size])) := c2.trans (st3 _ (Steps.refl _))
  have c5 : Steps p.tables e below (s₁.setTop (entryFrame m #[.ref b, .int (Int32.ofNat o), .int (Int32.ofNat len)] 6)) (T3.setTop (mkF m 9 #[.val (.ref b), .val (.int (Int32.ofNat o)), .val (.int (Int32.ofNat len)), .val (.ref s.heap.size), .unset, .unset] [.int (Int32.ofNat len), .int 0, .ref s.heap.size, .int (Int32.ofNat o), .ref b])) := c4.trans (by
    refine XS.astoreN X3.here hexec rfl (hb hbytes d3) rfl rfl rfl ?_
    refine XS.aloadN X3.here hexec rfl (hb hbytes d4) rfl rfl ?_
    refine XS.iloadN X3.here hexec rfl (hb hbytes d5) rfl ?_
    refine XS.aloadN X3.here hexec rfl (hb hbytes d6) rfl rfl ?_
    refine iconstV X3.here hexec rfl 0 (hb hbytes d7) (by decide) ?_
    refine XS.iloadN X3.here hexec rfl (hb hbytes d8) rfl ?_
    exact Steps.refl _)
  obtain ⟨v6, T6, X6, E6, g6⟩ := X3.callS hexec (Cmp5.law l b A s.heap.size B3 o 0 len) hown (wks W (staticW U16 115 Cmp5.yN)) (wk W Cmp5.tab) (W := 0) (Nat.le_of_ble_eq_true rfl) (Nat.le_of_ble_eq_true rfl) (Nat.le_refl _) (by show 0 + len + 0 ≤ len; omega) (g := (mkF m 9 #[.val (.ref b), .val (.int (Int32.ofNat o)), .val (.int (Int32.ofNat len)), .val (.ref s.heap.size), .unset, .unset] [.int (Int32.ofNat len), .int (Int32.ofNat 0), .ref s.heap.size, .int (Int32.ofNat o), .ref b])) rfl (by rw [hml]; rfl) c5 (argsL := [.ref b, .int (Int32.ofNat o), .ref s.heap.size, .int (Int32.ofNat 0), .int (Int32.ofNat len)]) (rest := []) rfl rfl (by show 2 * 0 + 0 ≤ _; decide) (hb hbytes d9) (⟨rfl, hA3, ba3, hne, l1, by rw [bs3]; simp, hp⟩)
  obtain ⟨rfl, B6, p6, f6⟩ := E6
  have c7 : Steps p.tables e below (s₁.setTop (entryFrame m #[.ref b, .int (Int32.ofNat o), .int (Int32.ofNat len)] 6)) (T6.setTop (mkF m 12 #[.val (.ref b), .val (.int (Int32.ofNat o)), .val (.int (Int32.ofNat len)), .val (.ref s.heap.size), .unset, .unset] [.int (Int32.ofNat len)])) := g6
  have c8 : Steps p.tables e below (s₁.setTop (entryFrame m #[.ref b, .int (Int32.ofNat o), .int (Int32.ofNat len)] 6)) (T6.setTop (mkF m 58 #[.val (.ref b), .val (.int (Int32.ofNat o)), .val (.int (Int32.ofNat len)), .val (.ref s.heap.size), .val (.int (Int32.ofNat len)), .unset] [.ref s.heap.size])) := c7.trans (by
    refine XS.istore X6.here hexec rfl (hb hbytes d12) rfl rfl ?_
    refine XS.iload X6.here hexec rfl (hb hbytes d14) rfl ?_
    refine XS.iloadN X6.here hexec rfl (hb hbytes d16) rfl ?_
    refine XS.icmpYes X6.here hexec rfl (pc0 := 17) rfl (hb hbytes d17) rfl (ii_eq_t rfl) (by decide) rfl ?_
    refine XS.aloadN X6.here hexec rfl (hb hbytes d57) rfl rfl ?_
    exact Steps.refl _)
  have X8 := X6.wide (L' := []) (cells' := 1) (slots' := len) (fun x hx hlt => by
    simp only [List.nil_append, copyLocs, List.mem_map, List.mem_range] at hx
    obtain ⟨i, -, rfl⟩ := hx
    exact absurd hlt (Nat.lt_irrefl _)) (Nat.le_refl _) (by omega)
  exact ⟨T6, some (.ref s.heap.size), _, _, _, X8, rfl, rfl, rfl, (fun h => by cases h), ⟨⟨rfl, B6, ba3.like (X3.warmed.alike.symm.trans X6.warmed.alike) p6.1 f6.1 f6.2.1 f6.2.2.1, f6.2.1.trans bv3, by rw [X6.warmed.alike.findClass, f6.1]; exact bf3, by rw [f6.2.2.1, bs3]; simp, fun j hj => by rw [f6.2.2.2 j, if_pos (by omega)]; rfl, kp3.put p6 (Nat.le_refl _)⟩, by rw [p6.2.2, bh3, hh0]; simp⟩, fun fs hl => c8.trans (X8.areturnOut hexec rfl hret rfl (hb hbytes d58) hl)⟩
end Cmp3
namespace CodL
def yN : MethodName := ⟨"java/lang/StringUTF16", "coderFromArrayLen", "([BI)B"⟩
abbrev yB : ByteArray := jdk_52_method_15_code
theorem d0 : decode yB 0 = .ok (.iload_n 1, 1) := by decide +kernel
theorem d1 : decode yB 1 = .ok (.aload_n 0, 1) := by decide +kernel
theorem d2 : decode yB 2 = .ok (.arraylength, 1) := by decide +kernel
theorem d3 : decode yB 3 = .ok (.isub, 1) := by decide +kernel
theorem d4 : decode yB 4 = .ok (.bipush 31, 2) := by decide +kernel
theorem d6 : decode yB 6 = .ok (.iushr, 1) := by decide +kernel
theorem d7 : decode yB 7 = .ok (.i2b, 1) := by decide +kernel
theorem d8 : decode yB 8 = .ok (.ireturn, 1) := by decide +kernel
def site : List Cond := []
def tab : Cond := tabOf yN yB 2 (some .byte) site
def P (d : Addr) (B : Cell) (args : Array Value) (s : State) : Prop := args = #[.ref d, .int (Int32.ofNat B.slots.size)] ∧ Arr .byte d B s
def E (r : Option Value) (s u : State) : Prop := XT.PureE (some (.int 0)) r s u
/-- an array as long as the number of chars: LATIN1 -/
theorem law (l : Launch) (d : Addr) (B : Cell) : Law l yN 2 2 0 0 yB 2 (some .byte) site (P d B) E [] 0 0 := by
  refine Law.of_walk (plainFor_of_name (by decide +kernel)) (by decide +kernel) (by decide +kernel) (by decide) (fun _ _ h => by rw [h.1]; rfl) (fun _ U U' hal hh h => ⟨h.1, h.2.mv hal hh⟩) (fun r U U' V V' h1 hal h2 h => XT.PureE.mv r U U' V V' h1 hal h2 h) ?_
  intro p e s m args below meth c s₁ X0 hexec hbytes hml hret hlk hnm hown hh0 W hP
  obtain ⟨rfl, hB⟩ := hP
  have hB0 := hB.mv X0.warmed.alike hh0
  have c1 : Steps p.tables e below (s₁.setTop (entryFrame m #[.ref d, .int (Int32.ofNat B.slots.size)] 2)) (s₁.setTop (mkF m 0 #[.val (.ref d), .val (.int (Int32.ofNat B.slots.size))] [])) := entry rfl
  have c2 : Steps p.tables e below (s₁.setTop (entryFrame m #[.ref d, .int (Int32.ofNat B.slots.size)] 2)) (s₁.setTop (mkF m 2 #[.val (.ref d), .val (.int (Int32.ofNat B.slots.size))] [.ref d, .int (Int32.ofNat B.slots.size)])) := c1.trans (by
    refine XS.iloadN X0.here hexec rfl (hb hbytes d0) rfl ?_
    refine XS.aloadN X0.here hexec rfl (hb hbytes d1) rfl rfl ?_
    exact Steps.refl _)
  have c3 : Steps p.tables e below (s₁.setTop (entryFrame m #[.ref d, .int (Int32.ofNat B.slots.size)] 2)) (s₁.setTop (mkF m 8 #[.val (.ref d), .val (.int (Int32.ofNat B.slots.size))] [.int (lo8 (ushr (Int32.ofNat B.slots.size - Int32.ofNat B.slots.size) 31))])) := c2.trans (by
    refine X0.alen hexec hB0 rfl rfl (hb hbytes d2) ?_
    refine XS.isub X0.here hexec rfl (hb hbytes d3) rfl ?_
    refine bipushV X0.here hexec rfl 31 (hb hbytes d4) (by decide) ?_
    refine iushr X0.here hexec rfl (hb hbytes d6) rfl ?_
    refine i2b X0.here hexec rfl (hb hbytes d7) rfl ?_
    exact Steps.refl _)
  have e0 : lo8 (ushr (Int32.ofNat B.slots.size - Int32.ofNat B.slots.size) 31) = 0 := by rw [Int32.sub_self]; decide
  rw [e0] at c3
  exact ⟨s₁, some (.int 0), _, _, _, X0, rfl, rfl, rfl, (fun h => by cases h), ⟨rfl, hh0⟩, fun fs hl => c3.trans (X0.ireturnOut hexec hret rfl (Or.inr (Or.inr (Or.inl rfl))) (hb hbytes d8) hl)⟩
end CodL
/-- the String at a is Latin-1 over a new byte[] (the heap's one new cell): the low bytes of the len chars of A from o on; every cell but a is kept -/
def Got (a : Addr) (D : Cell) (fV fC : Field) (A : Cell) (o len : Nat) (r : Option Value) (s u : State) : Prop := r = none ∧ ∃ D' V : Cell, Blank "java/lang/String" a D' u ∧ Same D D' [fV.slot, fC.slot] ∧ D'.slots[fV.slot]? = some (.ref s.heap.size) ∧ D'.slots[fC.slot]? = some (.int 0) ∧ Arr .byte s.heap.size V u ∧ V.vm = .none ∧ u.vm.findClass "[B" = some V.cls ∧ V.slots.size = len ∧ (∀ j, j < len → V.slots[j]? = some (.int (lo8 (cv A (o + j))))) ∧ (∀ (y : Addr) (c : Cell), y ≠ a → s.heap[y]? = some c → u.heap[y]? = some c) ∧ u.heap.size = s.heap.size + 1
theorem Got.mv {a : Addr} {D A : Cell} {fV fC : Field} {o len : Nat} : ∀ r (U U' V V' : State), U'.heap = U.heap → V.vm.Alike V'.vm → V'.heap = V.heap → Got a D fV fC A o len r U V → Got a D fV fC A o len r U' V' :=
  fun r U U' V V' h1 hal h2 ⟨e0, D', X, a1, a2, a3, a4, a5, a6, a7, a8, a9, a10, a11⟩ => ⟨e0, D', X, a1.mv hal h2, a2, by rw [h1]; exact a3, a4, by rw [h1]; exact a5.mv hal h2, a6, by rw [hal.findClass]; exact a7, a8, a9, by rw [h1, h2]; exact a10, by rw [h1, h2]; exact a11⟩
namespace New4
def yN : MethodName := ⟨"java/lang/String", "<init>", "([CIILjava/lang/Void;)V"⟩
abbrev yB : ByteArray := jdk_42_method_149_code
theorem d0 : decode yB 0 = .ok (.aload_n 0, 1) := by decide +kernel
theorem d1 : decode yB 1 = .ok (.invokespecial 1, 3) := by decide +kernel
theorem d4 : decode yB 4 = .ok (.iload_n 3, 1) := by decide +kernel
theorem d5 : decode yB 5 = .ok (.ifCond (.ne) 22, 3) := by decide +kernel
theorem d27 : decode yB 27 = .ok (.getstatic 38, 3) := by decide +kernel
theorem d30 : decode yB 30 = .ok (.ifCond (.eq) 28, 3) := by decide +kernel
theorem d33 : decode yB 33 = .ok (.aload_n 1, 1) := by decide +kernel
theorem d34 : decode yB 34 = .ok (.iload_n 2, 1) := by decide +kernel
theorem d35 : decode yB 35 = .ok (.iload_n 3, 1) := by decide +kernel
theorem d36 : decode yB 36 = .ok (.invokestatic 177, 3) := by decide +kernel
theorem d39 : decode yB 39 = .ok (.astore 5, 2) := by decide +kernel
theorem d41 : decode yB 41 = .ok (.aload_n 0, 1) := by decide +kernel
theorem d42 : decode yB 42 = .ok (.aload 5, 2) := by decide +kernel
theorem d44 : decode yB 44 = .ok (.iload_n 3, 1) := by decide +kernel
theorem d45 : decode yB 45 = .ok (.invokestatic 47, 3) := by decide +kernel
theorem d48 : decode yB 48 = .ok (.putfield 15, 3) := by decide +kernel
theorem d51 : decode yB 51 = .ok (.aload_n 0, 1) := by decide +kernel
theorem d52 : decode yB 52 = .ok (.aload 5, 2) := by decide +kernel
theorem d54 : decode yB 54 = .ok (.putfield 9, 3) := by decide +kernel
theorem d57 : decode yB 57 = .ok (.return_, 1) := by decide +kernel
def site : List Cond := [.fieldLink "java/lang/String" 38 "java/lang/String" "COMPACT_STRINGS" "Z", Cmp3.tab, CodL.tab, .laysFinal "java/lang/String" "java/lang/String" "value" "[B", .fieldLink "java/lang/String" 9 "java/lang/String" "value" "[B", .laysFinal "java/lang/String" "java/lang/String" "coder" "B", .fieldLink "java/lang/String" 15 "java/lang/String" "coder" "B"] ++ objW "java/lang/String" 1 ++ staticW "java/lang/String" 177 Cmp3.yN ++ staticW "java/lang/String" 47 CodL.yN
def tab : Cond := tabOf yN yB 6 none site
def P (a : Addr) (D : Cell) (fV fC : Field) (b : Addr) (A : Cell) (z : Int32) (o len : Nat) (args : Array Value) (s : State) : Prop := args = #[.ref a, .ref b, .int (Int32.ofNat o), .int (Int32.ofNat len), .null] ∧ Blank "java/lang/String" a D s ∧ Found "java/lang/String" "value" "[B" fV s ∧ Found "java/lang/String" "coder" "B" fC s ∧ Ch b A s ∧ StaticIs s "java/lang/String" "COMPACT_STRINGS" "Z" (.int z) ∧ ¬ z = 0 ∧ 0 < len ∧ o + len ≤ A.slots.size ∧ len ≤ 536870912 ∧ ∀ i, i < len → ¬ 255 < cv A (o + i)
def E (a : Addr) (D : Cell) (fV fC : Field) (A : Cell) (o len : Nat) (r : Option Value) (s u : State) : Prop := Got a D fV fC A o len r s u
/-- len > 0, no char of the range above 255: a Latin-1 String of their low bytes -/
theorem law (l : Launch) (a : Addr) (D : Cell) (fV fC : Field) (b : Addr) (A : Cell) (z : Int32) (o len : Nat) : Law l yN 5 4 2 35 yB 6 none site (P a D fV fC b A z o len) (E a D fV fC A o len) [⟨a, fC.slot⟩, ⟨a, fV.slot⟩] 1 len := by
  refine Law.of_walk (plainFor_of_name (by decide +kernel)) (by decide +kernel) (by decide +kernel) (by decide) (fun _ _ h => by rw [h.1]; rfl) (fun _ U U' hal hh h => ⟨h.1, h.2.1.mv hal hh, h.2.2.1.al hal, h.2.2.2.1.al hal, h.2.2.2.2.1.mv hal hh, h.2.2.2.2.2.1.there hal hh, h.2.2.2.2.2.2⟩) (fun r U U' V V' h1 hal h2 h => Got.mv r U U' V V' h1 hal h2 h) ?_
  intro p e s m args below meth c s₁ X0 hexec hbytes hml hret hlk hnm hown hh0 W hP
  obtain ⟨rfl, hB, f1, f2, hA, s1, hz, l0, l1, l2, hp⟩ := hP
  have a31 := hA.1.2.2.2
  have c1 : Steps p.tables e below (s₁.setTop (entryFrame m #[.ref a, .ref b, .int (Int32.ofNat o), .int (Int32.ofNat len), .null] 6)) (s₁.setTop (mkF m 0 #[.val (.ref a), .val (.ref b), .val (.int (Int32.ofNat o)), .val (.int (Int32.ofNat len)), .val .null, .unset] [])) := entry rfl
  have c2 : Steps p.tables e below (s₁.setTop (entryFrame m #[.ref a, .ref b, .int (Int32.ofNat o), .int (Int32.ofNat len), .null] 6)) (s₁.setTop (mkF m 1 #[.val (.ref a), .val (.ref b), .val (.int (Int32.ofNat o)), .val (.int (Int32.ofNat len)), .val .null, .unset] [.ref a])) := c1.trans (by
    refine XS.aloadN X0.here hexec rfl (hb hbytes d0) rfl rfl ?_
    exact Steps.refl _)
  obtain ⟨T3, X3, q3, st3⟩ := X0.oinit hexec hown (wks W (objW "java/lang/String" 1)) (g := (mkF m 1 #[.val (.ref a), .val (.ref b), .val (.int (Int32.ofNat o)), .val (.int (Int32.ofNat len)), .val .null, .unset] [.ref a])) rfl (by rw [hml]; rfl) (rest := []) rfl (hb hbytes d1) (W := 0) (by show 2 * 0 + 0 ≤ _; decide) (Nat.le_of_ble_eq_true rfl) (Nat.le_of_ble_eq_true rfl)
  have hh3 := q3.trans hh0
  have c4 : Steps p.tables e below (s₁.setTop (entryFrame m #[.ref a, .ref b, .int (Int32.ofNat o), .int (Int32.ofNat len), .null] 6)) (T3.setTop (mkF m 27 #[.val (.ref a), .val (.ref b), .val (.int (Int32.ofNat o)), .val (.int (Int32.ofNat len)), .val .null, .unset] [])) := (c2.trans (st3 _ (Steps.refl _))).trans (by
    refine XS.iloadN X3.here hexec rfl (hb hbytes d4) rfl ?_
    refine XS.ifYes X3.here hexec rfl (pc0 := 5) rfl (hb hbytes d5) rfl (i0_ne_t (nz32 (by omega) l0)) (by decide) rfl ?_
    exact Steps.refl _)
  obtain ⟨T5, X5, q5, st5⟩ := X3.sget hexec hown (wk W (.fieldLink "java/lang/String" 38 "java/lang/String" "COMPACT_STRINGS" "Z")) s1 (fun _ _ h => by rw [hh3]; exact h) (g := (mkF m 27 #[.val (.ref a), .val (.ref b), .val (.int (Int32.ofNat o)), .val (.int (Int32.ofNat len)), .val .null, .unset] [])) rfl (hb hbytes d27)
  have hh5 := q5.trans hh3
  have c6 : Steps p.tables e below (s₁.setTop (entryFrame m #[.ref a, .ref b, .int (Int32.ofNat o), .int (Int32.ofNat len), .null] 6)) (T5.setTop (mkF m 30 #[.val (.ref a), .val (.ref b), .val (.int (Int32.ofNat o)), .val (.int (Int32.ofNat len)), .val .null, .unset] [.int z])) := c4.trans (st5 _ (Steps.refl _))
  have c7 : Steps p.tables e below (s₁.setTop (entryFrame m #[.ref a, .ref b, .int (Int32.ofNat o), .int (Int32.ofNat len), .null] 6)) (T5.setTop (mkF m 36 #[.val (.ref a), .val (.ref b), .val (.int (Int32.ofNat o)), .val (.int (Int32.ofNat len)), .val .null, .unset] [.int (Int32.ofNat len), .int (Int32.ofNat o), .ref b])) := c6.trans (by
    refine XS.ifNo X5.here hexec rfl (hb hbytes d30) rfl (i0_eq_f hz) ?_
    refine XS.aloadN X5.here hexec rfl (hb hbytes d33) rfl rfl ?_
    refine XS.iloadN X5.here hexec rfl (hb hbytes d34) rfl ?_
    refine XS.iloadN X5.here hexec rfl (hb hbytes d35) rfl ?_
    exact Steps.refl _)
  obtain ⟨v8, T8, X8, E8, g8⟩ := X5.callS hexec (Cmp3.law l b A o len) hown (wks W (staticW "java/lang/String" 177 Cmp3.yN)) (wk W Cmp3.tab) (W := 0) (Nat.le_of_ble_eq_true rfl) (Nat.le_of_ble_eq_true rfl) (Nat.le_refl _) (by show 0 + len ≤ len; omega) (g := (mkF m 36 #[.val (.ref a), .val (.ref b), .val (.int (Int32.ofNat o)), .val (.int (Int32.ofNat len)), .val .null, .unset] [.int (Int32.ofNat len), .int (Int32.ofNat o), .ref b])) rfl (by rw [hml]; rfl) c7 (argsL := [.ref b, .int (Int32.ofNat o), .int (Int32.ofNat len)]) (rest := []) rfl rfl (by show 2 * 0 + 0 ≤ _; decide) (hb hbytes d36) (⟨rfl, hA.mv X5.warmed.alike hh5, l1, l2, hp⟩)
  obtain ⟨e8, z8⟩ := E8
  obtain ⟨rfl, N, n1, n2, n3, n4, n5, n6⟩ := NewArr.mv _ T5 s _ _ hh5.symm (Vm.Alike.refl _) rfl e8
  rw [hh5] at z8
  have hB1 := hB.keep X8.warmed.alike (n6 _ _ hB.1)
  have hne : s.heap.size ≠ a := (Nat.ne_of_lt (Array.getElem?_eq_some_iff.mp hB.1).1).symm
  have c9 : Steps p.tables e below (s₁.setTop (entryFrame m #[.ref a, .ref b, .int (Int32.ofNat o), .int (Int32.ofNat len), .null] 6)) (T8.setTop (mkF m 39 #[.val (.ref a), .val (.ref b), .val (.int (Int32.ofNat o)), .val (.int (Int32.ofNat len)), .val .null, .unset] [.ref s.heap.size])) := g8
  have c10 : Steps p.tables e below (s₁.setTop (entryFrame m #[.ref a, .ref b, .int (Int32.ofNat o), .int (Int32.ofNat len), .null] 6)) (T8.setTop (mkF m 45 #[.val (.ref a), .val (.ref b), .val (.int (Int32.ofNat o)), .val (.int (Int32.ofNat len)), .val .null, .val (.ref s.heap.size)] [.int (Int32.ofNat N.slots.size), .ref s.heap.size, .ref a])) := by
    have hc : Steps p.tables e below (s₁.setTop (entryFrame m #[.ref a, .ref b, .int (Int32.ofNat o), .int (Int32.ofNat len), .null] 6)) (T8.setTop (mkF m 45 #[.val (.ref a), .val (.ref b), .val (.int (Int32.ofNat o)), .val (.int (Int32.ofNat len)), .val .null, .val (.ref s.heap.size)] [.int (Int32.ofNat len), .ref s.heap.size, .ref a])) := c9.trans (by
      refine XS.astore X8.here hexec rfl (hb hbytes d39) rfl rfl rfl ?_
      refine XS.aloadN X8.here hexec rfl (hb hbytes d41) rfl rfl ?_
      refine XS.aload X8.here hexec rfl (hb hbytes d42) rfl rfl ?_
      refine XS.iloadN X8.here hexec rfl (hb hbytes d44) rfl ?_
      exact Steps.refl _)
    rw [n4]; exact hc
  obtain ⟨v11, T11, X11, E11, g11⟩ := X8.callS hexec (CodL.law l s.heap.size N) hown (wks W (staticW "java/lang/String" 47 CodL.yN)) (wk W CodL.tab) (W := 1) (Nat.le_of_ble_eq_true rfl) (Nat.le_of_ble_eq_true rfl) (Nat.le_refl _) (by show 0 + len + 0 ≤ len; omega) (g := (mkF m 45 #[.val (.ref a), .val (.ref b), .val (.int (Int32.ofNat o)), .val (.int (Int32.ofNat len)), .val .null, .val (.ref s.heap.size)] [.int (Int32.ofNat N.slots.size), .ref s.heap.size, .ref a])) rfl (by rw [hml]; rfl) c10 (argsL := [.ref s.heap.size, .int (Int32.ofNat N.slots.size)]) (rest := [.ref a]) rfl rfl (by show 2 * 0 + (1 + 0) ≤ _; decide) (hb hbytes d45) (⟨rfl, n1⟩)
  obtain ⟨rfl, q11⟩ := E11
  have hB11 := hB1.mv (X8.warmed.alike.symm.trans X11.warmed.alike) q11
  have c12 : Steps p.tables e below (s₁.setTop (entryFrame m #[.ref a, .ref b, .int (Int32.ofNat o), .int (Int32.ofNat len), .null] 6)) (T11.setTop (mkF m 48 #[.val (.ref a), .val (.ref b), .val (.int (Int32.ofNat o)), .val (.int (Int32.ofNat len)), .val .null, .val (.ref s.heap.size)] [.int 0, .ref a])) := g11
  obtain ⟨T13, X13, p13, bl13, sl13, st13⟩ := X11.finit hexec hown (wk W (.fieldLink "java/lang/String" 15 "java/lang/String" "coder" "B")) (Or.inr ⟨_, (wk W (.laysFinal "java/lang/String" "java/lang/String" "coder" "B"))⟩) (Or.inl ⟨rfl, hnm⟩) f2 (Or.inl rfl) hB11 (t := .byte) (by decide +kernel) rfl (g := (mkF m 48 #[.val (.ref a), .val (.ref b), .val (.int (Int32.ofNat o)), .val (.int (Int32.ofNat len)), .val .null, .val (.ref s.heap.size)] [.int 0, .ref a])) rfl (rest := []) rfl (hb hbytes d48)
  have c14 : Steps p.tables e below (s₁.setTop (entryFrame m #[.ref a, .ref b, .int (Int32.ofNat o), .int (Int32.ofNat len), .null] 6)) (T13.setTop (mkF m 54 #[.val (.ref a), .val (.ref b), .val (.int (Int32.ofNat o)), .val (.int (Int32.ofNat len)), .val .null, .val (.ref s.heap.size)] [.ref s.heap.size, .ref a])) := (c12.trans (st13 _ (Steps.refl _))).trans (by
    refine XS.aloadN X13.here hexec rfl (hb hbytes d51) rfl rfl ?_
    refine XS.aload X13.here hexec rfl (hb hbytes d52) rfl rfl ?_
    exact Steps.refl _)
  obtain ⟨T15, X15, p15, bl15, sl15, st15⟩ := X13.finit hexec hown (wk W (.fieldLink "java/lang/String" 9 "java/lang/String" "value" "[B")) (Or.inr ⟨_, (wk W (.laysFinal "java/lang/String" "java/lang/String" "value" "[B"))⟩) (Or.inl ⟨rfl, hnm⟩) f1 (Or.inl rfl) bl13 (t := (.array .byte)) (by decide +kernel) rfl (g := (mkF m 54 #[.val (.ref a), .val (.ref b), .val (.int (Int32.ofNat o)), .val (.int (Int32.ofNat len)), .val .null, .val (.ref s.heap.size)] [.ref s.heap.size, .ref a])) rfl (rest := []) rfl (hb hbytes d54)
  have c16 : Steps p.tables e below (s₁.setTop (entryFrame m #[.ref a, .ref b, .int (Int32.ofNat o), .int (Int32.ofNat len), .null] 6)) (T15.setTop (mkF m 57 #[.val (.ref a), .val (.ref b), .val (.int (Int32.ofNat o)), .val (.int (Int32.ofNat len)), .val .null, .val (.ref s.heap.size)] [])) := c14.trans (st15 _ (Steps.refl _))
  have ap := apart (Or.inr ⟨_, (wk W (.laysFinal "java/lang/String" "java/lang/String" "value" "[B"))⟩) (Or.inr ⟨_, (wk W (.laysFinal "java/lang/String" "java/lang/String" "coder" "B"))⟩) f1 f2 (t₁ := .array .byte) (t₂ := .byte) (by decide +kernel) (by decide +kernel) (by decide)
  have al := X8.warmed.alike.symm.trans X15.warmed.alike
  have n7 : T11.heap[s.heap.size]? = some N := by rw [q11]; exact n1.1
  exact ⟨T15, none, _, _, _, X15, by simp, rfl, by omega, (fun _ => rfl), ⟨rfl, _, N, bl15, ((Same.refl D _).set _ (by simp)).set _ (by simp), sl15, (Cell.slots_setSlot_ne _ ap).trans sl13, n1.keep al (p15.other hne (p13.other hne n7)), n2, by rw [al.findClass]; exact n3, n4, n5, fun y c h1 h2 => p15.other h1 (p13.other h1 (by rw [q11]; exact n6 y c h2)), by rw [p15.2.2, p13.2.2, q11]; exact z8⟩, fun fs hl => c16.trans (X15.returnOut hexec hret (hb hbytes d57) hl)⟩
end New4
namespace New1
def yN : MethodName := ⟨"java/lang/String", "<init>", "([C)V"⟩
abbrev yB : ByteArray := jdk_42_method_3_code
theorem d0 : decode yB 0 = .ok (.aload_n 0, 1) := by decide +kernel
theorem d1 : decode yB 1 = .ok (.aload_n 1, 1) := by decide +kernel
theorem d2 : decode yB 2 = .ok (.iconst 0, 1) := by decide +kernel
theorem d3 : decode yB 3 = .ok (.aload_n 1, 1) := by decide +kernel
theorem d4 : decode yB 4 = .ok (.arraylength, 1) := by decide +kernel
theorem d5 : decode yB 5 = .ok (.aconst_null, 1) := by decide +kernel
theorem d6 : decode yB 6 = .ok (.invokespecial 27, 3) := by decide +kernel
theorem d9 : decode yB 9 = .ok (.return_, 1) := by decide +kernel
def site : List Cond := [New4.tab] ++ initW "java/lang/String" 27 New4.yN
def tab : Cond := tabOf yN yB 2 none site
def P (a : Addr) (D : Cell) (fV fC : Field) (b : Addr) (A : Cell) (z : Int32) (args : Array Value) (s : State) : Prop := args = #[.ref a, .ref b] ∧ Blank "java/lang/String" a D s ∧ Found "java/lang/String" "value" "[B" fV s ∧ Found "java/lang/String" "coder" "B" fC s ∧ Ch b A s ∧ StaticIs s "java/lang/String" "COMPACT_STRINGS" "Z" (.int z) ∧ ¬ z = 0 ∧ 0 < A.slots.size ∧ A.slots.size ≤ 536870912 ∧ ∀ i, i < A.slots.size → ¬ 255 < cv A i
def E (a : Addr) (D : Cell) (fV fC : Field) (A : Cell) (r : Option Value) (s u : State) : Prop := Got a D fV fC A 0 A.slots.size r s u
/-- new String(chars), not empty, no char above 255: a Latin-1 String of their low bytes -/
theorem law (l : Launch) (a : Addr) (D : Cell) (fV fC : Field) (b : Addr) (A : Cell) (z : Int32) : Law l yN 2 1 3 52 yB 2 none site (P a D fV fC b A z) (E a D fV fC A) [⟨a, fC.slot⟩, ⟨a, fV.slot⟩] 1 A.slots.size := by
  refine Law.of_walk (plainFor_of_name (by decide +kernel)) (by decide +kernel) (by decide +kernel) (by decide) (fun _ _ h => by rw [h.1]; rfl) (fun _ U U' hal hh h => ⟨h.1, h.2.1.mv hal hh, h.2.2.1.al hal, h.2.2.2.1.al hal, h.2.2.2.2.1.mv hal hh, h.2.2.2.2.2.1.there hal hh, h.2.2.2.2.2.2⟩) (fun r U U' V V' h1 hal h2 h => Got.mv r U U' V V' h1 hal h2 h) ?_
  intro p e s m args below meth c s₁ X0 hexec hbytes hml hret hlk hnm hown hh0 W hP
  obtain ⟨rfl, hB, f1, f2, hA, s1, hz, l0, l2, hp⟩ := hP
  have c1 : Steps p.tables e below (s₁.setTop (entryFrame m #[.ref a, .ref b] 2)) (s₁.setTop (mkF m 0 #[.val (.ref a), .val (.ref b)] [])) := entry rfl
  have c2 : Steps p.tables e below (s₁.setTop (entryFrame m #[.ref a, .ref b] 2)) (s₁.setTop (mkF m 6 #[.val (.ref a), .val (.ref b)] [.null, .int (Int32.ofNat A.slots.size), .int 0, .ref b, .ref a])) := c1.trans (by
    refine XS.aloadN X0.here hexec rfl (hb hbytes d0) rfl rfl ?_
    refine XS.aloadN X0.here hexec rfl (hb hbytes d1) rfl rfl ?_
    refine iconstV X0.here hexec rfl 0 (hb hbytes d2) (by decide) ?_
    refine XS.aloadN X0.here hexec rfl (hb hbytes d3) rfl rfl ?_
    refine X0.alen hexec (hA.1.mv X0.warmed.alike hh0) rfl rfl (hb hbytes d4) ?_
    refine XS.aconstNull X0.here hexec rfl (hb hbytes d5) ?_
    exact Steps.refl _)
  obtain ⟨v3, T3, X3, E3, g3⟩ := X0.callN hexec (New4.law l a D fV fC b A z 0 A.slots.size) rfl hown (wks W (initW "java/lang/String" 27 New4.yN)) (W New4.tab (by simp only [site, List.mem_cons, List.mem_append, true_or, or_true])) (W := 0) (Nat.le_of_ble_eq_true rfl) (Nat.le_of_ble_eq_true rfl) (Nat.le_refl _) (by show 0 + A.slots.size ≤ A.slots.size; omega) (g := (mkF m 6 #[.val (.ref a), .val (.ref b)] [.null, .int (Int32.ofNat A.slots.size), .int (Int32.ofNat 0), .ref b, .ref a])) rfl (by rw [hml]; rfl) c2 (argsL := [.ref b, .int (Int32.ofNat 0), .int (Int32.ofNat A.slots.size), .null]) (rest := []) rfl rfl (by show 2 * 0 + 0 ≤ _; decide) (hb hbytes d6) (⟨rfl, hB.mv X0.warmed.alike hh0, f1.al X0.warmed.alike, f2.al X0.warmed.alike, hA.mv X0.warmed.alike hh0, s1.there X0.warmed.alike hh0, hz, l0, by omega, l2, fun i hi => by rw [Nat.zero_add]; exact hp i hi⟩)
  have e0 := Got.mv _ s₁ s _ _ hh0.symm (Vm.Alike.refl _) rfl E3
  obtain rfl := e0.1
  have c4 : Steps p.tables e below (s₁.setTop (entryFrame m #[.ref a, .ref b] 2)) (T3.setTop (mkF m 9 #[.val (.ref a), .val (.ref b)] [])) := g3
  exact ⟨T3, none, _, _, _, X3, by simp, rfl, by omega, (fun _ => rfl), e0, fun fs hl => c4.trans (X3.returnOut hexec hret (hb hbytes d9) hl)⟩
theorem pays {l : Launch} {R : Room} {p : Program} {e : Env} {below : List Frame} {s : State} {sargs : Array Value} {len W : Nat} (a : Addr) (D : Cell) (fV fC : Field) (b : Addr) (A : Cell) (z : Int32) (htab : tab.before sargs s = true) (hfr : 4 ≤ R.frames) (hlo : W + 65 ≤ R.locals) :
    Back l R p e below s sargs yN len W (fun A₁ a₁ => A₁.cells + 1 ≤ R.cells ∧ A₁.slots + A.slots.size ≤ R.slots ∧ P a D fV fC b A z a₁ A₁.U) (fun A₁ _ v₁ B₁ => E a D fV fC A v₁ A₁.U B₁.U ∧ B₁.locs = A₁.locs ++ [⟨a, fC.slot⟩, ⟨a, fV.slot⟩] ∧ B₁.cells = A₁.cells + 1 ∧ B₁.slots = A₁.slots + A.slots.size) :=
  (law l a D fV fC b A z).pays htab hfr (by omega)
end New1
end StrChars
namespace StrChars.Road
open Jvm Sem ClassFile Op Lib Jvm.Stand Jvm.Free Jvm.Free.XT
open Jvm.Lib.Cold (StaticIs)
abbrev ST : String := "java/lang/String"
/-- every table word that New1's law asks, flat -/
abbrev words : List Jvm.Cond := [.code New1.yN New1.yB 2 none, .initialized ST, .methodLink ST 27 New4.yN, .instanceMethod New4.yN,
  .code New4.yN New4.yB 6 none, .fieldLink ST 38 ST "COMPACT_STRINGS" "Z", .laysFinal ST ST "value" "[B", .fieldLink ST 9 ST "value" "[B", .laysFinal ST ST "coder" "B", .fieldLink ST 15 ST "coder" "B",
  .methodLink ST 1 Lib.objectInit, .instanceMethod Lib.objectInit, .code Lib.objectInit ⟨#[0xb1]⟩ 1 none, .methodLink ST 177 Cmp3.yN, .static Cmp3.yN, .methodLink ST 47 CodL.yN, .static CodL.yN,
  .code Cmp3.yN Cmp3.yB 6 (some (.array .byte)), .initialized U16, .arrayClass .byte, .methodLink U16 115 Cmp5.yN, .static Cmp5.yN, .code Cmp5.yN Cmp5.yB 7 (some .int), .code CodL.yN CodL.yB 2 (some .byte)]
theorem tab_of {a : Array Value} {s : State} (h : ∀ w ∈ words, w.before a s = true) : New1.tab.before a s = true := by
  have h5 : Cmp5.tab.before a s = true := unparts (wk h (.code Cmp5.yN Cmp5.yB 7 (some .int))) (wks h (.initialized Cmp5.yN.cls :: Cmp5.site))
  have hc : CodL.tab.before a s = true := unparts (wk h (.code CodL.yN CodL.yB 2 (some .byte))) (wks h (.initialized CodL.yN.cls :: CodL.site))
  have q5 : ∀ w ∈ Cmp5.tab :: words, w.before a s = true := fun w hw => (List.mem_cons.mp hw).elim (fun e => e ▸ h5) (h w)
  have h3 : Cmp3.tab.before a s = true := unparts (wk q5 (.code Cmp3.yN Cmp3.yB 6 (some (.array .byte)))) (wks q5 (.initialized Cmp3.yN.cls :: Cmp3.site))
  have q3 : ∀ w ∈ Cmp3.tab :: CodL.tab :: words, w.before a s = true := fun w hw => (List.mem_cons.mp hw).elim (fun e => e ▸ h3) fun hw => (List.mem_cons.mp hw).elim (fun e => e ▸ hc) (h w)
  have h4 : New4.tab.before a s = true := unparts (wk q3 (.code New4.yN New4.yB 6 none)) (wks q3 (.initialized New4.yN.cls :: New4.site))
  have q4 : ∀ w ∈ New4.tab :: words, w.before a s = true := fun w hw => (List.mem_cons.mp hw).elim (fun e => e ▸ h4) (h w)
  exact unparts (wk q4 (.code New1.yN New1.yB 2 none)) (wks q4 (.initialized New1.yN.cls :: New1.site))
/-- the words ride from the start Z to the walk's own state -/
theorem moved {Z s : State} {a0 args : Array Value} (hZ : Z.Warmed39 s.vm) (hw : ∀ d ∈ words, d.before a0 Z = true) : ∀ d ∈ words, d.before args s = true := fun d hd => by
  have q := hw d hd
  have t : ∀ d ∈ words, d = .arrayClass .byte ∨ (d.onTables && d.keepsFace) = true := by decide +kernel
  rcases t d hd with rfl | t
  · exact RoadKit.mvA hZ q
  · exact RoadKit.mv hZ q t
/-- WHAT COMES BACK, over the tables of the start Z: h the heap at the call, h' behind it -/
def Q (Z : State) (x : Addr) (A : Cell) (h : Heap) (v : Option Value) (h' : Heap) (L : List Loc) : Prop := v = none ∧ (∀ y ∈ L, y.base = x) ∧ RoadKit.Keep h h' [x] ∧ h'.size = h.size + 1 ∧ RoadKit.Exa Z h' x ST ∧ RoadKit.Fld Z h' x ST "value" "[B" (.ref h.size) ∧ RoadKit.Fld Z h' x ST "coder" "B" (.int 0) ∧
  (∃ V : Cell, RoadKit.Arr Z h' h.size V .byte ∧ V.vm = .none ∧ Z.vm.findClass "[B" = some V.cls ∧ V.slots.size = A.slots.size ∧ ∀ j, j < A.slots.size → V.slots[j]? = some (.int (lo8 (cv A j)))) ∧
  ∀ (O n d : String) (w : Value), RoadKit.Fld Z h x O n d w → RoadKit.slotOf Z O n d ≠ RoadKit.slotOf Z ST "value" "[B" → RoadKit.slotOf Z O n d ≠ RoadKit.slotOf Z ST "coder" "B" → RoadKit.Fld Z h' x O n d w
/-- **new String(chars) AT A CALL, IN THE ROAD'S FORM**: for specialBack behind newO: x the fresh String, b the char[] with the cell A -/
theorem back {p : Program} {l : Launch} {e : Env} {R : Room} {s : State} {args : Array Value} {below : List Frame} {len W : Nat} {Z : State} {a0 : Array Value} {h : Heap} (hZ : Z.Warmed39 s.vm) (hw : ∀ d ∈ words, d.before a0 Z = true) {kI : Nat} (wi : (Jvm.Cond.instantiable ST kI).before a0 Z = true)
    {x b : Addr} {A : Cell} {z : Int32} {v0 c0 : Value} (E : RoadKit.Exa Z h x ST) (V : RoadKit.Fld Z h x ST "value" "[B" v0) (C : RoadKit.Fld Z h x ST "coder" "B" c0) (K : RoadKit.Arr Z h b A .char) (hty : Typed .char A) (S : RoadKit.Sta Z h ST "COMPACT_STRINGS" "Z" (.int z)) (hz : ¬ z = 0)
    (l0 : 0 < A.slots.size) (l2 : A.slots.size ≤ 536870912) (hp : ∀ i, i < A.slots.size → ¬ 255 < cv A i) (hfr : 4 ≤ R.frames) (hlo : W + 65 ≤ R.locals) :
    Back l R p e below s args New1.yN len W (fun P a => a = #[.ref x, .ref b] ∧ P.U.heap = h ∧ P.cells + 1 ≤ R.cells ∧ P.slots + A.slots.size ≤ R.slots)
      (fun P _ v B => ∃ L, Q Z x A h v B.U.heap L ∧ B.locs = P.locs ++ L ∧ B.cells = P.cells + 1 ∧ B.slots = P.slots + A.slots.size) := by
  intro m meth c P g ig mk a X hg hsize hdg hW hn hp'
  obtain ⟨rfl, rfl, r1, r2⟩ := hp'
  have al : Z.vm.Alike P.U.vm := hZ.alike.trans X.warmed.alike
  obtain ⟨D, cfV, kV, iV, fV, hD, gV, stV, knV, obV, asV, slV⟩ := id V
  obtain ⟨D', cfC, kC, iC, fC, hD', gC, stC, -, -, asC, slC⟩ := id C
  cases hD.symm.trans hD'
  obtain ⟨D2, kD, e1, e2, e3, e4, e5⟩ := id E
  cases hD.symm.trans e1
  obtain ⟨c2, k2, i1, i2, i3, -⟩ := Cond.instantiable_spec wi
  cases e2.symm.trans i1
  cases e3.symm.trans i2
  obtain ⟨kU, u1, u2⟩ := al.2.2 _ _ e3
  have hB : Blank ST x D P.U := ⟨hD, ⟨knV, fun q hq => by rw [hq] at obV; cases obV⟩, by rw [al.findClass]; exact e2, kU, u1, by rw [u2]; exact i3, by rw [u2]; exact e5 i3⟩
  have F1 : Found ST "value" "[B" fV P.U := ⟨SBG.found_only al ⟨cfV, kV, iV, gV⟩, stV⟩
  have F2 : Found ST "coder" "B" fC P.U := ⟨SBG.found_only al ⟨cfC, kC, iC, gC⟩, stC⟩
  have hA : Ch b A P.U := ⟨⟨K.1, State.isArrayOf_alike al K.2.1, K.2.2, by omega⟩, hty⟩
  have hS : StaticIs P.U ST "COMPACT_STRINGS" "Z" (.int z) := by
    obtain ⟨cfS, iS, kS, fS, st, cS, t1, t2, t3, t4, t5, t6, t7⟩ := S
    exact StaticIs.there (s := { Z with heap := P.U.heap }) ⟨cfS, iS, kS, fS, st, cS, t1, t2, t3, t4, t5, (fun q => by rw [q] at t6; cases t6), t7⟩ al rfl
  obtain ⟨v, B, X', ⟨⟨hv, E', V', q1, q2, q3, q4, q5, q6, q7, q8, q9, q10, q11⟩, hl, hc, hs⟩, st⟩ := New1.pays x D fV fC b A z (tab_of (moved hZ hw)) hfr hlo m meth c P g ig mk _ X hg hsize hdg hW hn ⟨r1, r2, rfl, hB, F1, F2, hA, hS, hz, l0, l2, hp⟩
  have al' : Z.vm.Alike B.U.vm := hZ.alike.trans X'.warmed.alike
  have hsz : E'.slots.size = D.slots.size := by
    obtain ⟨-, -, -, kB, w1, w2, w3⟩ := q1
    obtain ⟨kB', y1, y2⟩ := al'.2.2 _ _ e3
    rw [q2.2.1] at w1
    cases w1.symm.trans y1
    rw [w3, e5 i3, y2]
  refine ⟨v, B, X', ⟨_, ⟨hv, ?_, ⟨by omega, fun y cy hy hn' => q10 y cy (by simpa using hn') hy, fun y cy hy => ?_⟩, q11, ⟨E', _, q1.1, by rw [q2.2.1]; exact e2, by rw [q2.2.1]; exact e3, by rw [q2.1]; exact obV, fun _ => by rw [hsz]; exact e5 i3⟩,
    ⟨E', cfV, kV, iV, fV, q1.1, gV, stV, by rw [q2.1]; exact knV, by rw [q2.1]; exact obV, by rw [q2.2.1]; exact asV, q3⟩, ⟨E', cfC, kC, iC, fC, q1.1, gC, stC, by rw [q2.1]; exact knV, by rw [q2.1]; exact obV, by rw [q2.2.1]; exact asC, q4⟩,
    ⟨V', ⟨q5.1, State.isArrayOf_alike al'.symm q5.2.1, q5.2.2.1⟩, q6, by rw [← al'.findClass]; exact q7, q8, fun j hj => by have := q9 j hj; rwa [Nat.zero_add] at this⟩, fun O n d w F n1 n2 => ?_⟩, hl, hc, hs⟩, st⟩
  · intro y hy
    simp only [List.mem_cons, List.not_mem_nil, or_false] at hy
    rcases hy with rfl | rfl <;> rfl
  · by_cases q : y = x
    · subst q
      cases hD.symm.trans hy
      exact ⟨E', q1.1, q2.2.1, q2.1, hsz⟩
    · exact ⟨cy, q10 y cy q hy, rfl, rfl, rfl⟩
  · obtain ⟨D3, cf, k, i, f, g1, g2, g3, g4, g5, g6, g7⟩ := F
    cases hD.symm.trans g1
    simp only [RoadKit.slotOf, g2, gV, gC, Option.map_some, Option.getD_some] at n1 n2
    exact ⟨E', cf, k, i, f, q1.1, g2, g3, by rw [q2.1]; exact g4, by rw [q2.1]; exact g5, by rw [q2.2.1]; exact g6, by rw [q2.2.2 f.slot (by simp [n1, n2])]; exact g7⟩
end StrChars.Road
namespace StrChars.Road
open Jvm Sem ClassFile Op Lib Jvm.Stand Jvm.Free Jvm.Free.XT
/-- WHAT COMES BACK, the byte[] as a list of values -/
def QA (Z : State) (x : Addr) (zn : Int32) (cs : List Int32) (h : Heap) (v : Option Value) (h' : Heap) (L : List Loc) : Prop := v = none ∧ (∀ y ∈ L, y.base = x) ∧ RoadKit.Keep h h' [x] ∧ h'.size = h.size + 1 ∧ RoadKit.Exa Z h' x ST ∧ RoadKit.Fld Z h' x ST "value" "[B" (.ref h.size) ∧ RoadKit.Fld Z h' x ST "coder" "B" (.int 0) ∧
  (∃ kb, Z.vm.findClass "[B" = some kb ∧ RoadKit.Arv Z h' h.size kb .byte zn (cs.map fun c => .int (lo8 c)) (.int 0)) ∧
  ∀ (O n d : String) (w : Value), RoadKit.Fld Z h x O n d w → RoadKit.slotOf Z O n d ≠ RoadKit.slotOf Z ST "value" "[B" → RoadKit.slotOf Z O n d ≠ RoadKit.slotOf Z ST "coder" "B" → RoadKit.Fld Z h' x O n d w
/-- **new String(chars) AT A CALL, THE ARRAYS AS LISTS**: the char[] at b holds cs, not empty, no char above 255 -/
theorem backArv {p : Program} {l : Launch} {e : Env} {R : Room} {s : State} {args : Array Value} {below : List Frame} {len W : Nat} {Z : State} {a0 : Array Value} {h : Heap} (hZ : Z.Warmed39 s.vm) (hw : ∀ d ∈ words, d.before a0 Z = true) {kI : Nat} (wi : (Jvm.Cond.instantiable ST kI).before a0 Z = true)
    {x b : Addr} {k : ClassId} {zn z : Int32} {cs : List Int32} {dv v0 c0 : Value} (E : RoadKit.Exa Z h x ST) (V : RoadKit.Fld Z h x ST "value" "[B" v0) (C : RoadKit.Fld Z h x ST "coder" "B" c0) (K : RoadKit.Arv Z h b k .char zn (cs.map Value.int) dv) (S : RoadKit.Sta Z h ST "COMPACT_STRINGS" "Z" (.int z)) (hz : ¬ z = 0)
    (hlen : zn.toNatClampNeg = cs.length) (h0 : 0 < cs.length) (hbig : cs.length ≤ 536870912) (hall : ∀ c ∈ cs, ¬ 255 < c) (hfr : 4 ≤ R.frames) (hlo : W + 65 ≤ R.locals) :
    Back l R p e below s args New1.yN len W (fun P a => a = #[.ref x, .ref b] ∧ P.U.heap = h ∧ P.cells + 1 ≤ R.cells ∧ P.slots + cs.length ≤ R.slots)
      (fun P _ v B => ∃ L, QA Z x zn cs h v B.U.heap L ∧ B.locs = P.locs ++ L ∧ B.cells = P.cells + 1 ∧ B.slots = P.slots + cs.length) := by
  obtain ⟨A, K1, K2, K3, K4, K5, K6⟩ := K
  have e : A.slots.size = cs.length := K3.trans hlen
  have hat : ∀ (i : Nat) (hi : i < cs.length), A.slots[i]? = some (.int cs[i]) := fun i hi => by rw [K5 i (by omega)]; simp [List.getD_eq_getElem?_getD, hi]
  have hcv : ∀ (i : Nat) (hi : i < cs.length), cv A i = cs[i] := fun i hi => by unfold cv; rw [hat i hi]
  have hty : Typed .char A := fun i v hv => by
    have hi : i < A.slots.size := (Array.getElem?_eq_some_iff.mp hv).1
    have q := K5 i hi
    rw [hv] at q
    rw [Option.some.inj q]
    exact K6 i hi
  refine Back.mono (back hZ hw wi E V C K1 hty S hz (by omega) (by omega) (fun i hi => by rw [hcv i (by omega)]; exact hall _ (List.getElem_mem _)) hfr hlo) (fun P a hp => ⟨hp.1, hp.2.1, hp.2.2.1, by rw [e]; exact hp.2.2.2⟩) (fun P a v B hp hq => ?_)
  obtain ⟨L, ⟨q1, q2, q3, q4, q5, q6, q7, ⟨V', v1, v2, v3, v4, v5⟩, q9⟩, hl, hc, hs⟩ := hq
  refine ⟨L, ⟨q1, q2, q3, q4, q5, q6, q7, ⟨V'.cls, v3, V', v1, rfl, by rw [v4, e, hlen], K4, fun i hi => ?_, fun i hi => ?_⟩, q9⟩, hl, hc, by rw [hs, e]⟩
  · have hi' : i < cs.length := by omega
    rw [v5 i (by omega), hcv i hi']; simp [List.getD_eq_getElem?_getD, hi']
  · have hi' : i < cs.length := by omega
    simp only [List.getD_eq_getElem?_getD, List.getElem?_map, List.getElem?_eq_getElem hi', Option.map_some, Option.getD_some]
    exact fits_lo8 _
end StrChars.Road
namespace StrChars.Road
open Jvm Sem ClassFile Op Lib Jvm.Stand Jvm.Free Jvm.Free.XT
/-- WHAT COMES BACK, in the writer's own shape -/
def QV (Z : State) (x : Addr) (N : Int32) (bs : List Int32) (h : Heap) (n0 : Nat) (v : Option Value) (h' : Heap) (L : List Loc) : Prop := v = none ∧ RoadKit.Fr n0 L ∧ RoadKit.Keep h h' [x] ∧ RoadKit.Exa Z h' x ST ∧ RoadKit.Fld Z h' x ST "coder" "B" (.int 0) ∧
  ∃ (t : Addr) (kb : ClassId), n0 ≤ t ∧ h.size ≤ t ∧ ¬ t = x ∧ RoadKit.Fld Z h' x ST "value" "[B" (.ref t) ∧ RoadKit.Arv Z h' t kb .byte N (bs.map Value.int) (.int 0)
/-- **new String(chars) AT A CALL, FOR THE WRITER**: a char[] of n known ints, each 0 to 255 -/
theorem backV {p : Program} {l : Launch} {e : Env} {R : Room} {s : State} {args : Array Value} {below : List Frame} {len W : Nat} {Z : State} {a0 : Array Value} {h : Heap} (hZ : Z.Warmed39 s.vm) (hw : ∀ d ∈ words, d.before a0 Z = true) {kI : Nat} (wi : (Jvm.Cond.instantiable ST kI).before a0 Z = true)
    {x b : Addr} {kC : ClassId} {cs bs : List Int32} {d v0 c0 : Value} {z N : Int32} {n n0 : Nat} (hx0 : n0 ≤ x) (hh0 : n0 ≤ h.size) (E : RoadKit.Exa Z h x ST) (V : RoadKit.Fld Z h x ST "value" "[B" v0) (C : RoadKit.Fld Z h x ST "coder" "B" c0) (K : RoadKit.Arv Z h b kC .char N (cs.map Value.int) d) (S : RoadKit.Sta Z h ST "COMPACT_STRINGS" "Z" (.int z)) (hz : ¬ z = 0)
    (hn : cs.length = n) (hN : N = Int32.ofNat n) (l0 : 0 < n) (l2 : n ≤ 4000) (hp : ∀ c ∈ cs, ¬ c < 0 ∧ ¬ (255 : Int32) < c) (hb : bs = cs.map (fun c => c.toInt8.toInt32)) (hfr : 4 ≤ R.frames) (hlo : W + 65 ≤ R.locals) :
    Back l R p e below s args (⟨"java/lang/String", "<init>", "([C)V"⟩ : MethodName) len W (fun P a => a = #[.ref x, .ref b] ∧ P.U.heap = h ∧ P.cells + 1 ≤ R.cells ∧ P.slots + n ≤ R.slots)
      (fun P _ v B => ∃ L, QV Z x N bs h n0 v B.U.heap L ∧ B.locs = P.locs ++ L ∧ B.cells = P.cells + 1 ∧ B.slots = P.slots + n) := by
  subst hn hN hb
  refine Back.mono (backArv hZ hw wi E V C K S hz (n32 (by omega)) l0 (by omega) (fun c hc => (hp c hc).2) hfr hlo) (fun P a hp => hp) (fun P a v B hp hq => ?_)
  obtain ⟨L, ⟨q1, q2, q3, q4, q5, q6, q7, ⟨kb, v1, v2⟩, q9⟩, hl, hc, hs⟩ := hq
  exact ⟨L, ⟨q1, fun y hy => by rw [q2 y hy]; exact hx0, q3, q5, q7, h.size, kb, hh0, Nat.le_refl _, Nat.ne_of_gt E.lt, q6, by rw [List.map_map]; exact v2⟩, hl, hc, hs⟩
end StrChars.Road
end Jvm.Pilot.@@N@@
namespace Jvm.Pilot.@@N@@
open Jvm Jvm.ClassFile Sem Op Lib Jvm.Free Jvm.Stand Jvm.LawKit Jvm.RoadKit Bundle Jvm.Pilot.@@N@@.Jvm.D
abbrev si (x : Int32) : Slot := .val (.int x)
abbrev sr (x : Addr) : Slot := .val (.ref x)
theorem ww {a0 : Array Value} {Z : State} {d : Jvm.Cond} (hw : ∀ d ∈ tables_1, d.before a0 Z = true) (i : Nat) (h : tables_1[i]? = some d) : d.before a0 Z = true := hw _ (List.mem_of_getElem? h)
theorem mr0 {a b : Nat} (h : a = b) : a ≤ b := Nat.le_of_eq h
section Own
variable {p : Program} {l : Launch} {e : Env} {R : Room} {s : State} {m : MethodId} {args : Array Value} {below : List Frame} {meth : Method} {c : Code} {T : State} {locs : List Loc} {cells slots : Nat} {Z : State} {a0 : Array Value} {h : Heap}
/-- from S the run comes to an end that P speaks of -/
def Goes (tb : Tables) (e : Env) (below : List Frame) (P : State → Outcome → Prop) (S : State) : Prop := ∃ s₂ o, Steps tb e below S s₂ ∧ P s₂ o
theorem go {tb : Tables} {P : State → Outcome → Prop} {S S' : State} (st : ∀ t, Steps tb e below S' t → Steps tb e below S t) (h : Goes tb e below P S') : Goes tb e below P S := by
  obtain ⟨s₂, o, h1, h2⟩ := h
  exact ⟨s₂, o, st _ h1, h2⟩
/-- from S the run comes to the frame F, in a state that P speaks of -/
def Reach (tb : Tables) (e : Env) (below : List Frame) (F : JFrame) (P : State → Prop) (S : State) : Prop := ∃ T', P T' ∧ ∀ t, Steps tb e below (T'.setTop F) t → Steps tb e below S t
theorem goR {tb : Tables} {F : JFrame} {P : State → Prop} {S S' : State} (st : ∀ t, Steps tb e below S' t → Steps tb e below S t) (h : Reach tb e below F P S') : Reach tb e below F P S := by
  obtain ⟨T', h1, h2⟩ := h
  exact ⟨T', h1, fun t k => st t (h2 t k)⟩
def Same (X : Stand p l e R s m args below meth c T locs cells slots) (n0 : Nat) (h : Heap) : State → Prop := fun T' => ∃ locs', Stand p l e R s m args below meth c T' locs' cells slots ∧ Fr n0 locs' ∧ T'.heap = h
/-- the end of a body: it returned, and Q holds of the value, the heap, the written places -/
def EndP (s : State) (below : List Frame) (Q : Option Value → Heap → List Loc → Prop) (kc ks : Nat) (s₂ : State) (o : Outcome) : Prop :=
  s₂.status = .running ∧ Ended s₂ below o ∧ ∃ v L, o = .returned v ∧ Q v s₂.heap L ∧ FrameEnd s o s₂ L kc ks
variable {Q : Option Value → Heap → List Loc → Prop} {kc ks : Nat}
theorem finG {g : JFrame} (X : Stand p l e R s m args below meth c T locs cells slots) (hk : meth.locks = false) (v : Option Value) (hv : meth.sig.returnType = none → v = none)
    (st : ∀ fs, (∀ (f : JFrame) (acts : List Action), f.method = m → f.locked = none → f.entered = [] → (doReturn e (T.setTop f) acts v).1 = T.setFrames fs) → Steps p.tables e below (T.setTop g) (T.setFrames fs))
    (hc : cells ≤ kc) (hs : slots ≤ ks) (hQ : Q v T.heap locs) : Goes p.tables e below (EndP s below Q kc ks) (T.setTop g) := by
  obtain ⟨fs, hr, hrun, hended, hW, hsame⟩ := X.leave (v := v) hv hk
  exact ⟨_, _, st fs hr, hrun, hended, v, locs, rfl, hQ, ⟨_, rfl⟩, hW, hsame.mono hc hs⟩
theorem finV (X : Stand p l e R s m args below meth c T locs cells slots) (hx : p.tables.exec = Jvm.exec) (hk : meth.locks = false) (hret : meth.sig.returnType = none) {pc : Nat} {Ls : Array Slot} (hd : decode c.code pc = .ok (.return_, 1)) (hc : cells ≤ kc) (hs : slots ≤ ks) (hQ : Q none T.heap locs) :
    Goes p.tables e below (EndP s below Q kc ks) (T.setTop (mkF m pc Ls [])) := finG X hk none (fun _ => rfl) (fun _ hr => X.returnOut hx hret hd hr) hc hs hQ
theorem finI (X : Stand p l e R s m args below meth c T locs cells slots) (hx : p.tables.exec = Jvm.exec) (hk : meth.locks = false) (hret : meth.sig.returnType = some .int) {pc : Nat} {Ls : Array Slot} {z : Int32} {rest : List Value} (hd : decode c.code pc = .ok (.ireturn, 1)) (hc : cells ≤ kc) (hs : slots ≤ ks) (hQ : Q (some (.int z)) T.heap locs) :
    Goes p.tables e below (EndP s below Q kc ks) (T.setTop (mkF m pc Ls (.int z :: rest))) := finG X hk _ (fun q => by rw [hret] at q; cases q) (fun _ hr => retI X hx hret hd hr) hc hs hQ
theorem finN (X : Stand p l e R s m args below meth c T locs cells slots) (hx : p.tables.exec = Jvm.exec) (hk : meth.locks = false) {t : FieldType} (hret : meth.sig.returnType = some t) (ht : t = .boolean ∨ t = .byte ∨ t = .char ∨ t = .short) {pc : Nat} {Ls : Array Slot} {z : Int32} {rest : List Value} (hd : decode c.code pc = .ok (.ireturn, 1)) (hc : cells ≤ kc) (hs : slots ≤ ks) (hQ : Q (some (.int (nar t z))) T.heap locs) :
    Goes p.tables e below (EndP s below Q kc ks) (T.setTop (mkF m pc Ls (.int z :: rest))) := finG X hk _ (fun q => by rw [hret] at q; cases q) (fun _ hr => retN X hx hret ht hd hr) hc hs hQ
theorem finR (X : Stand p l e R s m args below meth c T locs cells slots) (hx : p.tables.exec = Jvm.exec) (hk : meth.locks = false) {t : FieldType} (hret : meth.sig.returnType = some t) (ht : t.isReference = true) {w : Value} (hw : w.isRef = true) {pc : Nat} {Ls : Array Slot} (hd : decode c.code pc = .ok (.areturn, 1)) (hc : cells ≤ kc) (hs : slots ≤ ks) (hQ : Q (some w) T.heap locs) :
    Goes p.tables e below (EndP s below Q kc ks) (T.setTop (mkF m pc Ls [w])) := finG X hk _ (fun q => by rw [hret] at q; cases q) (fun _ hr => X.areturnOut hx hw hret ht hd hr) hc hs hQ
theorem finJ (X : Stand p l e R s m args below meth c T locs cells slots) (hx : p.tables.exec = Jvm.exec) (hk : meth.locks = false) (hret : meth.sig.returnType = some .long) {pc : Nat} {Ls : Array Slot} {z : Int64} (hd : decode c.code pc = .ok (.lreturn, 1)) (hc : cells ≤ kc) (hs : slots ≤ ks) (hQ : Q (some (.long z)) T.heap locs) :
    Goes p.tables e below (EndP s below Q kc ks) (T.setTop (mkF m pc Ls [.long z])) := finG X hk _ (fun q => by rw [hret] at q; cases q) (fun _ hr => X.lreturnOut hx hret hd hr) hc hs hQ
theorem bodyOf {y : MethodName} {bytes : ByteArray} {maxL : Nat} {ret : Option FieldType} {ws : List Jvm.Cond} {rm : Room} {as' : Array Value} {Ls : Array Slot} {h0 : Heap}
    (pn : plainFor y = true) (ef : ∀ m, entryFrame m as' maxL = mkF m 0 Ls [])
    (body : ∀ (p : Program) (e : Env) (s : State) (m : MethodId) (below : List Frame) (meth : Method) (c : Code) (T : State), Stand p l e rm s m as' below meth c T [] 0 0 → p.tables.exec = Jvm.exec → c.code = bytes → c.maxLocals = maxL →
      s.vm.findClass y.cls = some m.cls → meth.name = y.name → meth.sig.returnType = ret → meth.locks = false → Z.Warmed39 s.vm → T.heap = h0 → Goes p.tables e below (EndP s below Q rm.cells rm.slots) (T.setTop (mkF m 0 Ls []))) :
    MetFree l y (head1 (Jvm.Cond.code y bytes maxL ret :: ws) rm) (fun a U => a = as' ∧ Z.Warmed39 U.vm ∧ U.heap = h0) (fun _ _ _ _ _ => True) (fun _ U o U' => ∃ v L, o = .returned v ∧ Q v U'.heap L ∧ FrameEnd U o U' L rm.cells rm.slots) := by
  refine MetFree.of_bodySF pn hisR ?_
  intro p e s m args below meth c s₁ Bd hml0 hP hK
  obtain ⟨rfl, hZ, hh⟩ := hP
  have e0 : s₁.heap = h0 := by rw [← hh, Bd.state]; rfl
  obtain ⟨s₂, o, st, hrun, hend, hq⟩ := body p e s m below meth c s₁ (Stand.of_body Bd) Bd.exec Bd.bytes hml0 (findClass_of_methodNamed Bd.named) (name_of_methodNamed Bd.named Bd.method).1 Bd.returns Bd.notSynchronized hZ e0
  exact ⟨s₂, o, castTop (ef m) st, hrun, hend, hq⟩
variable {y z : MethodName} {own C : String} {index W len : Nat} {bytes : ByteArray} {maxL : Nat} {ret : Option FieldType} {as' : Array Value} {argsL rest : List Value} {g : JFrame}
theorem callSt (X : Stand p l e R s m args below meth c T locs cells slots) (hx : p.tables.exec = Jvm.exec) (hZ : Z.Warmed39 s.vm) (hown : s.vm.findClass own = some m.cls)
    (w1 : (Jvm.Cond.methodLink own index y).before a0 Z = true) (w2 : (Jvm.Cond.static y).before a0 Z = true) (w3 : (Jvm.Cond.initialized y.cls).before a0 Z = true) (w4 : (Jvm.Cond.code y bytes maxL ret).before a0 Z = true)
    (hy : y.cls ≠ "java/lang/invoke/MethodHandle" ∧ y.cls ≠ "java/lang/invoke/VarHandle")
    (hB : Back l R p e below s args y 3 W (fun A a => a = argsL.toArray ∧ A.U.heap = h ∧ A.cells + kc ≤ R.cells ∧ A.slots + ks ≤ R.slots) (fun A _ v B => ∃ L, Q v B.U.heap L ∧ B.locs = A.locs ++ L ∧ B.cells = A.cells + kc ∧ B.slots = A.slots + ks))
    (hg : g.method = m) (hsize : g.locals.size = c.maxLocals) (hlen : ∀ sig, parseMethodDescriptor y.desc = some sig → argsL.length = sig.parameters.length) (hstack : g.stack = argsL.reverse ++ rest) (hW : 2 * g.monitorRoom + (rest.map fun v => v.category).sum ≤ W)
    (hd : decode c.code g.pc = .ok (.invokestatic index, 3)) (eT : T.heap = h) (hc : cells + kc ≤ R.cells) (hs : slots + ks ≤ R.slots) :
    ∃ v T' L, Stand p l e R s m args below meth c T' (locs ++ L) (cells + kc) (slots + ks) ∧ Q v T'.heap L ∧ ∀ t, Steps p.tables e below (T'.setTop { g with pc := g.pc + 3, stack := v.toList ++ rest }) t → Steps p.tables e below (T.setTop g) t := by
  obtain ⟨v, _, ⟨T1, L1, k1, n1⟩, -, X1, ⟨L, hQ, hl, hk, hn⟩, st⟩ := Jvm.LawKit.callS X hx hown (mvT hZ w1) (mvT hZ w2) (mvT hZ w3) (mvT hZ w4) hy hB hg hsize hlen hstack hW hd (fun _ _ => ⟨rfl, eT, hc, hs⟩)
  dsimp only [Pt.U, Pt.locs, Pt.cells, Pt.slots] at X1 hl hk hn st hQ
  subst hl hk hn
  exact ⟨v, T1, L, X1, hQ, st⟩
theorem callSp {a : Addr} (X : Stand p l e R s m args below meth c T locs cells slots) (hx : p.tables.exec = Jvm.exec) (hZ : Z.Warmed39 s.vm) (hy1 : y.name = "<init>") (hown : s.vm.findClass own = some m.cls)
    (w1 : (Jvm.Cond.methodLink own index y).before a0 Z = true) (w2 : (Jvm.Cond.instanceMethod y).before a0 Z = true) (w4 : (Jvm.Cond.code y bytes maxL none).before a0 Z = true)
    (hy : y.cls ≠ "java/lang/invoke/MethodHandle" ∧ y.cls ≠ "java/lang/invoke/VarHandle")
    (hB : Back l R p e below s args y 3 W (fun A b => b = (Value.ref a :: argsL).toArray ∧ A.U.heap = h ∧ A.cells + kc ≤ R.cells ∧ A.slots + ks ≤ R.slots) (fun A _ v B => ∃ L, Q v B.U.heap L ∧ B.locs = A.locs ++ L ∧ B.cells = A.cells + kc ∧ B.slots = A.slots + ks))
    (hg : g.method = m) (hsize : g.locals.size = c.maxLocals) (hlen : ∀ sig, parseMethodDescriptor y.desc = some sig → argsL.length = sig.parameters.length) (hstack : g.stack = argsL.reverse ++ .ref a :: rest) (hW : 2 * g.monitorRoom + (rest.map fun v => v.category).sum ≤ W)
    (hd : decode c.code g.pc = .ok (.invokespecial index, 3)) (eT : T.heap = h) (hc : cells + kc ≤ R.cells) (hs : slots + ks ≤ R.slots) :
    ∃ v T' L, Stand p l e R s m args below meth c T' (locs ++ L) (cells + kc) (slots + ks) ∧ Q v T'.heap L ∧ ∀ t, Steps p.tables e below (T'.setTop { g with pc := g.pc + 3, stack := v.toList ++ rest }) t → Steps p.tables e below (T.setTop g) t := by
  obtain ⟨v, _, ⟨T1, L1, k1, n1⟩, -, X1, ⟨L, hQ, hl, hk, hn⟩, st⟩ := X.specialBack hx hy1 hown (mvT hZ w1) (mvT hZ w2) (mvT hZ w4) hy hB hg hsize (Steps.refl _) hlen hstack hW hd (fun _ _ => ⟨rfl, eT, hc, hs⟩)
  dsimp only [Pt.U, Pt.locs, Pt.cells, Pt.slots] at X1 hl hk hn st hQ
  subst hl hk hn
  exact ⟨v, T1, L, X1, hQ, fun t k => st.trans k⟩
theorem callV {a : Addr} (X : Stand p l e R s m args below meth c T locs cells slots) (hx : p.tables.exec = Jvm.exec) (hZ : Z.Warmed39 s.vm) (hown : s.vm.findClass own = some m.cls)
    (w1 : (Jvm.Cond.methodLink own index y).before a0 Z = true) (w2 : (Jvm.Cond.declares y).before a0 Z = true) (nf : NotFace s y) (w3 : (Jvm.Cond.selects C y z).before a0 Z = true) (w4 : (Jvm.Cond.instanceMethod z).before a0 Z = true)
    (hy : y.cls ≠ "java/lang/invoke/MethodHandle" ∧ y.cls ≠ "java/lang/invoke/VarHandle")
    (hB : Back l R p e below s args z 3 W (fun A b => b = (Value.ref a :: argsL).toArray ∧ A.U.heap = h ∧ A.cells + kc ≤ R.cells ∧ A.slots + ks ≤ R.slots) (fun A _ v B => ∃ L, Q v B.U.heap L ∧ B.locs = A.locs ++ L ∧ B.cells = A.cells + kc ∧ B.slots = A.slots + ks))
    (E : Exa Z h a C) (hg : g.method = m) (hsize : g.locals.size = c.maxLocals) (hlen : ∀ sig, parseMethodDescriptor y.desc = some sig → argsL.length = sig.parameters.length) (hstack : g.stack = argsL.reverse ++ .ref a :: rest) (hW : 2 * g.monitorRoom + (rest.map fun v => v.category).sum ≤ W)
    (hd : decode c.code g.pc = .ok (.invokevirtual index, 3)) (eT : T.heap = h) (hc : cells + kc ≤ R.cells) (hs : slots + ks ≤ R.slots) :
    ∃ v T' L, Stand p l e R s m args below meth c T' (locs ++ L) (cells + kc) (slots + ks) ∧ Q v T'.heap L ∧ ∀ t, Steps p.tables e below (T'.setTop { g with pc := g.pc + 3, stack := v.toList ++ rest }) t → Steps p.tables e below (T.setTop g) t := by
  obtain ⟨cq, kq, qa, qb, qc⟩ := isOf hZ eT E
  obtain ⟨v, _, ⟨T1, L1, k1, n1⟩, -, X1, ⟨L, hQ, hl, hk, hn⟩, st⟩ := X.virtualBack hx hown (mvT hZ w1) (mvT hZ w2) nf (mvT hZ w3) (mvT hZ w4) hy hB qa qc hg hsize (Steps.refl _) hlen hstack hW hd (fun _ _ => ⟨rfl, eT, hc, hs⟩)
  dsimp only [Pt.U, Pt.locs, Pt.cells, Pt.slots] at X1 hl hk hn st hQ
  subst hl hk hn
  exact ⟨v, T1, L, X1, hQ, fun t k => st.trans k⟩
theorem nsRoot {O K : String} {n : Nat} (w : (Jvm.Cond.noSuperclass O).before a0 Z = true) (wk : (Jvm.Cond.instantiable K n).before a0 Z = true) (hn : O ≠ K) : NS Z O K := by
  obtain ⟨c, k, h1, h2, h3, -, -⟩ := Cond.noSuperclass_spec w
  obtain ⟨t, kt, g1, -⟩ := Cond.instantiable_spec wk
  have ne := ids_ne h1 g1 hn
  refine ⟨c, t, h1, g1, fun fuel => ?_⟩
  cases fuel with
  | zero => rfl
  | succ f => simp [Vm.isSubclassAux, ne, h2, h3]
theorem nsNo {C S K : String} {n : Nat} (w : (Jvm.Cond.superclass C S).before a0 Z = true) (wk : (Jvm.Cond.instantiable K n).before a0 Z = true) (n : NS Z C K) (hn : C ≠ K) : ∃ c t, Z.vm.findClass C = some c ∧ Z.vm.findClass K = some t ∧ Z.vm.assignable c t = false := by
  obtain ⟨c, t, h0, g0, n3⟩ := n
  obtain ⟨p, k, kp, h1, h2, h3, h4, h5, -, h7⟩ := Cond.superclass_spec h0 w
  obtain ⟨t', kt, g1, g2, g3, g4, -⟩ := Cond.instantiable_spec wk
  cases g0.symm.trans g1
  have g7 : kt.isInterface = false := (Bool.or_eq_false_iff.mp g4).1
  have ne := ids_ne h0 g0 hn
  refine ⟨c, t, h0, g0, ?_⟩
  show Z.vm.assignableAux (255 + 1) c t = false
  simp [Vm.assignableAux, ne, h2, g2, h5, g3, g7, Vm.isSubclass, n3]
theorem lsw {tb : Tables} [Ours tb] {target : State} {g : JFrame} (h : At T m c below) (hx : tb.exec = Jvm.exec) (hg : g.method = m) {dflt : Int} {pairs : Array (Int × Int)} {len : Nat} {pc0 pc' : Nat} (hpc : g.pc = pc0) (hd : decode c.code g.pc = .ok (.lookupswitch dflt pairs, len)) {i : Int32} {rest : List Value} (hs : g.stack = .int i :: rest)
    (hsrt : (pairs.toList.zip pairs.toList.tail).all (fun z => decide (z.1.1 < z.2.1)) = true) (ho : 0 ≤ (pc0 : Int) + lookupswitch.offset pairs.toList dflt i.toInt) (hp : ((pc0 : Int) + lookupswitch.offset pairs.toList dflt i.toInt).toNat = pc') (hr : Steps tb e below (T.setTop { g with pc := pc', stack := rest }) target) : Steps tb e below (T.setTop g) target := by
  subst hg hpc hp
  jvm_step h [h.top, hx, hd, hs, ho, lookupswitch.wp_chain]
  exact ⟨fun a b a1 b1 q => of_decide_eq_true (List.all_eq_true.mp hsrt _ q), hr⟩
theorem eqInt_v {t : Term} {n : Int32} (h : (Jvm.Cond.eq t (.int n)).value args s none s [] = some true) : t.eval args s none [] s = some (.int n) := by
  obtain ⟨x, y, hx, hy, k1, -⟩ := cmp_v (Or.inl h)
  have hy' : (Term.int n).eval args s none [] s = some (.int n) := Term.int_eval n
  have e : y = .int n := Option.some.inj (hy.symm.trans hy')
  subst e
  cases x <;> simp [Kin, Value.isRef] at k1
  rw [gotT (Cond.eq_ints hx hy') h] at hx
  exact hx
theorem putC (X : Stand p l e R s m args below meth c T locs cells slots) (hx : p.tables.exec = Jvm.exec) (hZ : Z.Warmed39 s.vm) (eT : T.heap = h) {b : Addr} {kB : ClassId} {nB : Int32} {vB : List Value} {dB : Value} (B : Arv Z h b kB .char nB vB dB) {j x : Int32} {i : Nat} (hn : nar .char x = x) (hj : ¬ j < 0 ∧ j < nB) (hi : j.toNatClampNeg = i) (hl : i < vB.length) (hg : g.method = m) (hs : g.stack = .int x :: .int j :: .ref b :: rest) (hd : decode c.code g.pc = .ok (.castore, 1)) :
    ∃ T' h', Stand p l e R s m args below meth c T' (locs ++ [⟨b, j.toNatClampNeg⟩]) cells slots ∧ T'.heap = h' ∧ Wr h h' b j.toNatClampNeg (.int x) ∧ Arv Z h' b kB .char nB (vB.set i (.int x)) dB ∧ ∀ t, Steps p.tables e below (T'.setTop { g with pc := g.pc + 1, stack := rest }) t → Steps p.tables e below (T.setTop g) t := by
  obtain ⟨cl, A, q1, S1, M1, H1, G1⟩ := B
  obtain ⟨T', h', X', e', W, st⟩ := stC X hx hZ eT A (inb_of S1 hj) hg hs hd
  rw [hn] at W
  exact ⟨T', h', X', e', W, Arv.set A q1 S1 M1 H1 G1 (by rw [← hn]; exact fits_nar_char _) W i hi hl, st⟩
theorem getC (X : Stand p l e R s m args below meth c T locs cells slots) (hx : p.tables.exec = Jvm.exec) (hZ : Z.Warmed39 s.vm) (eT : T.heap = h) {b : Addr} {kB : ClassId} {nB : Int32} {vB : List Value} {dB v : Value} (B : Arv Z h b kB .char nB vB dB) {j : Int32} (hj : ¬ j < 0 ∧ j < nB) (hv : vB.getD j.toNatClampNeg dB = v) (hg : g.method = m) (hs : g.stack = .int j :: .ref b :: rest) (hd : decode c.code g.pc = .ok (.caload, 1)) {t : State} (hr : Steps p.tables e below (T.setTop { g with pc := g.pc + 1, stack := v :: rest }) t) : Steps p.tables e below (T.setTop g) t := by
  obtain ⟨cl, A, q1, S1, M1, H1, G1⟩ := B
  have hin := inb_of S1 hj
  exact X.caload hx (j := j) (v := v) (by rw [eT]; exact A.1) (State.isArrayOf_alike hZ.alike A.2.1) A.2.2 hin (Has.at H1 hin hv) hg hs hd _ hr
theorem narc (x : Int32) : nar .char x.toUInt32.toUInt16.toUInt32.toInt32 = x.toUInt32.toUInt16.toUInt32.toInt32 := by
  have h1 := c_i2c x
  have h2 := c_i2c x.toUInt32.toUInt16.toUInt32.toInt32
  apply Int32.toInt_inj.mp
  show (x.toUInt32.toUInt16.toUInt32.toInt32).toUInt32.toUInt16.toUInt32.toInt32.toInt = _
  omega
end Own
end Jvm.Pilot.@@N@@
namespace Jvm.Pilot.@@N@@
open Jvm Jvm.ClassFile Sem Op Lib Jvm.Free Jvm.Stand Jvm.LawKit Jvm.RoadKit Bundle Jvm.Pilot.@@N@@.Jvm.D
theorem allI {P : Int32 → Prop} {y : Int32} {L : List Int32} (q : P y) (r : ∀ x ∈ L, P x) : ∀ x ∈ y :: L, P x := fun x z => (List.mem_cons.mp z).elim (fun u => u ▸ q) (r x)
theorem own_sub {L : List Jvm.Cond} {a0 : Array Value} {Z : State} (hs : ∀ d ∈ L, d ∈ tables_1) (hw : ∀ d ∈ tables_1, d.before a0 Z = true) : ∀ d ∈ L, d.before a0 Z = true := fun d hd => hw d (hs d hd)
set_option maxRecDepth 65536 in
theorem StrChars_words : ∀ d ∈ StrChars.Road.words, d ∈ tables_1 := by decide +kernel
end Jvm.Pilot.@@N@@
namespace Jvm.Pilot.@@N@@
open Jvm Jvm.ClassFile Sem Op Lib Jvm.Free Jvm.Stand Jvm.LawKit Jvm.RoadKit Bundle Jvm.Pilot.@@N@@.Jvm.D
theorem and255_chars (x : Int32) : ¬ ((x &&& (255 : Int32)).toUInt32.toUInt16.toUInt32.toInt32) < 0 ∧ ¬ (255 : Int32) < ((x &&& (255 : Int32)).toUInt32.toUInt16.toUInt32.toInt32) := by
 have e := i2c_mask x
 have h := c_mask x 255 8 (by decide) (by decide)
 rw [e]
 simp only [Int32.lt_iff_toInt_lt]
 have e0 : (0 : Int32).toInt = 0 := rfl
 have e1 : (255 : Int32).toInt = 255 := rfl
 omega
theorem own_e1 (a b : Int64) : (if b = a then (1 : Int32) else (0 : Int32)) = (if (lcmpW a b) = (0 : Int32) then (1 : Int32) else (0 : Int32)) := by
 by_cases q : b = a
 · rw [if_pos q, if_pos ((lw_eq a b).mpr q.symm)]
 · rw [if_neg q, if_neg fun r => q ((lw_eq a b).mp r).symm]
theorem own_e2 (a b : Int64) : (if a = b then (1 : Int32) else (0 : Int32)) = (if (lcmpW a b) = (0 : Int32) then (1 : Int32) else (0 : Int32)) := by
 by_cases q : a = b
 · rw [if_pos q, if_pos ((lw_eq a b).mpr q)]
 · rw [if_neg q, if_neg fun r => q ((lw_eq a b).mp r)]
theorem d1_0 : decode prog_74_method_1_code 0 = .ok (.aload_n 0, 1) := by decide +kernel
theorem d1_1 : decode prog_74_method_1_code 1 = .ok (.invokespecial 1, 3) := by decide +kernel
theorem d1_4 : decode prog_74_method_1_code 4 = .ok (.aload_n 0, 1) := by decide +kernel
theorem d1_5 : decode prog_74_method_1_code 5 = .ok (.lload_n 1, 1) := by decide +kernel
theorem d1_6 : decode prog_74_method_1_code 6 = .ok (.putfield 7, 3) := by decide +kernel
theorem d1_9 : decode prog_74_method_1_code 9 = .ok (.return_, 1) := by decide +kernel
abbrev y_0 : MethodName := ⟨"com/example/reaction_runtime/reactionruntime/model/IntegerMolecule", "<init>", "(J)V"⟩
theorem pn_0 : plainFor y_0 = true := by first | exact plainFor_of_name (by first | (simp [plainName, overriddenIn]; done) | decide +kernel) | decide +kernel
theorem ef_rmI (m : MethodId) (a1 : Addr) (q1 : Int64) : entryFrame m #[(.ref a1), (.long q1)] 3 = mkF m 0 #[sr a1, .val (.long q1), .second] [] := by first | (simp [entryFrame, mkF, argsToLocals, Value.category]; done) | rfl
def Q_rmI (Z : State) (a1 : Addr) (q1 : Int64) (h0 : Heap) (n0 : Nat) (v : Option Value) (h : Heap) (L : List Loc) : Prop := v = none ∧ Fr n0 L ∧ Keep h0 h [a1] ∧ (Fld Z h a1 "com/example/reaction_runtime/reactionruntime/model/IntegerMolecule" "value" "J" (.long q1))
set_option maxRecDepth 65536 in
set_option maxHeartbeats 40000000 in
theorem rmI (l : Launch) (Z : State) (a0 : Array Value) (hw : ∀ d ∈ tables_1, d.before a0 Z = true) (ws : List Jvm.Cond) (a1 : Addr) (q1 : Int64) (h0 : Heap) (n0 : Nat) (Z0 : n0 ≤ h0.size) (hp0 : Exa Z h0 a1 "com/example/reaction_runtime/reactionruntime/model/IntegerMolecule") (hp1 : Fld Z h0 a1 "com/example/reaction_runtime/reactionruntime/model/IntegerMolecule" "value" "J" (.long (0 : Int64))) (hp2 : n0 ≤ a1) :
  MetFree l y_0 (head1 (Jvm.Cond.code y_0 prog_74_method_1_code 3 none :: ws) ({ frames := 1, cells := 0, slots := 0, locals := 12 } : Room)) (fun a U => a = #[(.ref a1), (.long q1)] ∧ Z.Warmed39 U.vm ∧ U.heap = h0) (fun _ _ _ _ _ => True) (fun _ U o U' => ∃ v L, o = .returned v ∧ Q_rmI Z a1 q1 h0 n0 v U'.heap L ∧ FrameEnd U o U' L ({ frames := 1, cells := 0, slots := 0, locals := 12 } : Room).cells ({ frames := 1, cells := 0, slots := 0, locals := 12 } : Room).slots) := by
 refine bodyOf pn_0 (fun m => ef_rmI m a1 q1) ?_
 intro p e s m below meth c T0 X0 hx hby hml hown hnm hret hk hZ e0
 have N0 := Fr.nil n0
 have K0 : Keep h0 h0 [a1] := Keep.refl _ _
 refine go (S' := T0.setTop (mkF m 1 #[sr a1, .val (.long q1), .second] [(.ref a1)])) (fun t k => XS.aloadN X0.here hx rfl (hb hby d1_0) rfl rfl k) ?_
 obtain ⟨T1, X1, e1, st1⟩ := initO X0 hx hZ hown (ww hw 6 rfl) (ww hw 7 rfl) (ww hw 8 rfl) e0 (g := (mkF m 1 #[sr a1, .val (.long q1), .second] [(.ref a1)])) rfl (by rw [hml]; rfl) rfl (hb hby d1_1) (by decide) (W := 0) (mr0 rfl) (by decide)
 refine go (S' := T1.setTop (mkF m 6 #[sr a1, .val (.long q1), .second] [(.long q1), (.ref a1)])) (fun t k => st1 _ (XS.aloadN X1.here hx rfl (hb hby d1_4) rfl rfl (XS.lloadN X1.here hx rfl (hb hby d1_5) rfl k))) ?_
 obtain ⟨T2, h2, X2, e2, W2, st2⟩ := putF X1 hx hZ hown (host := "") (Or.inl (ww hw 9 rfl)) Via.refl e1 hp1 hp0 (Or.inr ⟨(ww hw 10 rfl), rfl, hnm⟩) (ww hw 1 rfl) (ty := .long) (by decide) rfl rfl (g := (mkF m 6 #[sr a1, .val (.long q1), .second] [(.long q1), (.ref a1)])) rfl rfl (hb hby d1_6)
 have K3 : Keep h0 h2 [a1] := K0.wr W2 (Or.inl (List.mem_of_getElem? (i := 0) rfl))
 have N4 := Fr.snoc X2 N0 hp2
 have f5 : Fld Z h2 a1 "com/example/reaction_runtime/reactionruntime/model/IntegerMolecule" "value" "J" (.long q1) := (Fld.same W2 hp1)
 refine go (S' := T2.setTop (mkF m 9 #[sr a1, .val (.long q1), .second] [])) st2 ?_
 refine finV X2 hx hk hret (hb hby d1_9) (by decide) (by decide) ?_
 rw [e2]
 exact ⟨rfl, N4, K3, f5⟩
theorem d9_0 : decode prog_94_method_1_code 0 = .ok (.aload_n 0, 1) := by decide +kernel
theorem d9_1 : decode prog_94_method_1_code 1 = .ok (.invokespecial 1, 3) := by decide +kernel
theorem d9_4 : decode prog_94_method_1_code 4 = .ok (.aload_n 0, 1) := by decide +kernel
theorem d9_5 : decode prog_94_method_1_code 5 = .ok (.aload_n 1, 1) := by decide +kernel
theorem d9_6 : decode prog_94_method_1_code 6 = .ok (.putfield 7, 3) := by decide +kernel
theorem d9_9 : decode prog_94_method_1_code 9 = .ok (.return_, 1) := by decide +kernel
abbrev y_1 : MethodName := ⟨"com/example/reaction_runtime/reactionruntime/model/StringMolecule", "<init>", "(Ljava/lang/String;)V"⟩
theorem pn_1 : plainFor y_1 = true := by first | exact plainFor_of_name (by first | (simp [plainName, overriddenIn]; done) | decide +kernel) | decide +kernel
theorem ef_rmS (m : MethodId) (a1 : Addr) (a2 : Addr) : entryFrame m #[(.ref a1), (.ref a2)] 2 = mkF m 0 #[sr a1, sr a2] [] := by first | (simp [entryFrame, mkF, argsToLocals, Value.category]; done) | rfl
def Q_rmS (Z : State) (a1 : Addr) (a2 : Addr) (h0 : Heap) (n0 : Nat) (v : Option Value) (h : Heap) (L : List Loc) : Prop := v = none ∧ Fr n0 L ∧ Keep h0 h [a1]
set_option maxRecDepth 65536 in
set_option maxHeartbeats 40000000 in
theorem rmS (l : Launch) (Z : State) (a0 : Array Value) (hw : ∀ d ∈ tables_1, d.before a0 Z = true) (ws : List Jvm.Cond) (a1 : Addr) (a2 : Addr) (h0 : Heap) (n0 : Nat) (Z0 : n0 ≤ h0.size) (hp0 : Exa Z h0 a1 "com/example/reaction_runtime/reactionruntime/model/StringMolecule") (hp1 : Fld Z h0 a1 "com/example/reaction_runtime/reactionruntime/model/StringMolecule" "value" "Ljava/lang/String;" .null) (hp2 : n0 ≤ a1) :
  MetFree l y_1 (head1 (Jvm.Cond.code y_1 prog_94_method_1_code 2 none :: ws) ({ frames := 1, cells := 0, slots := 0, locals := 12 } : Room)) (fun a U => a = #[(.ref a1), (.ref a2)] ∧ Z.Warmed39 U.vm ∧ U.heap = h0) (fun _ _ _ _ _ => True) (fun _ U o U' => ∃ v L, o = .returned v ∧ Q_rmS Z a1 a2 h0 n0 v U'.heap L ∧ FrameEnd U o U' L ({ frames := 1, cells := 0, slots := 0, locals := 12 } : Room).cells ({ frames := 1, cells := 0, slots := 0, locals := 12 } : Room).slots) := by
 refine bodyOf pn_1 (fun m => ef_rmS m a1 a2) ?_
 intro p e s m below meth c T0 X0 hx hby hml hown hnm hret hk hZ e0
 have N0 := Fr.nil n0
 have K0 : Keep h0 h0 [a1] := Keep.refl _ _
 refine go (S' := T0.setTop (mkF m 1 #[sr a1, sr a2] [(.ref a1)])) (fun t k => XS.aloadN X0.here hx rfl (hb hby d9_0) rfl rfl k) ?_
 obtain ⟨T6, X6, e6, st6⟩ := initO X0 hx hZ hown (ww hw 52 rfl) (ww hw 7 rfl) (ww hw 8 rfl) e0 (g := (mkF m 1 #[sr a1, sr a2] [(.ref a1)])) rfl (by rw [hml]; rfl) rfl (hb hby d9_1) (by decide) (W := 0) (mr0 rfl) (by decide)
 refine go (S' := T6.setTop (mkF m 6 #[sr a1, sr a2] [(.ref a2), (.ref a1)])) (fun t k => st6 _ (XS.aloadN X6.here hx rfl (hb hby d9_4) rfl rfl (XS.aloadN X6.here hx rfl (hb hby d9_5) rfl rfl k))) ?_
 obtain ⟨T7, h7, X7, e7, W7, st7⟩ := putF X6 hx hZ hown (host := "") (Or.inl (ww hw 53 rfl)) Via.refl e6 hp1 hp0 (Or.inr ⟨(ww hw 54 rfl), rfl, hnm⟩) (ww hw 20 rfl) (ty := (.object "java/lang/String")) (by decide) rfl rfl (g := (mkF m 6 #[sr a1, sr a2] [(.ref a2), (.ref a1)])) rfl rfl (hb hby d9_6)
 have K8 : Keep h0 h7 [a1] := K0.wr W7 (Or.inl (List.mem_of_getElem? (i := 0) rfl))
 have N9 := Fr.snoc X7 N0 hp2
 have f10 : Fld Z h7 a1 "com/example/reaction_runtime/reactionruntime/model/StringMolecule" "value" "Ljava/lang/String;" (.ref a2) := (Fld.same W7 hp1)
 refine go (S' := T7.setTop (mkF m 9 #[sr a1, sr a2] [])) st7 ?_
 refine finV X7 hx hk hret (hb hby d9_9) (by decide) (by decide) ?_
 rw [e7]
 exact ⟨rfl, N9, K8⟩
theorem d3_0 : decode prog_74_method_3_code 0 = .ok (.aload_n 1, 1) := by decide +kernel
theorem d3_1 : decode prog_74_method_3_code 1 = .ok (.instanceof 8, 3) := by decide +kernel
theorem d3_4 : decode prog_74_method_3_code 4 = .ok (.ifCond .eq 22, 3) := by decide +kernel
theorem d3_7 : decode prog_74_method_3_code 7 = .ok (.aload_n 1, 1) := by decide +kernel
theorem d3_8 : decode prog_74_method_3_code 8 = .ok (.checkcast 8, 3) := by decide +kernel
theorem d3_11 : decode prog_74_method_3_code 11 = .ok (.getfield 7, 3) := by decide +kernel
theorem d3_14 : decode prog_74_method_3_code 14 = .ok (.aload_n 0, 1) := by decide +kernel
theorem d3_15 : decode prog_74_method_3_code 15 = .ok (.getfield 7, 3) := by decide +kernel
theorem d3_18 : decode prog_74_method_3_code 18 = .ok (.lcmp, 1) := by decide +kernel
theorem d3_19 : decode prog_74_method_3_code 19 = .ok (.ifCond .ne 7, 3) := by decide +kernel
theorem d3_22 : decode prog_74_method_3_code 22 = .ok (.iconst 1, 1) := by decide +kernel
theorem d3_23 : decode prog_74_method_3_code 23 = .ok (.goto 4, 3) := by decide +kernel
theorem d3_27 : decode prog_74_method_3_code 27 = .ok (.ireturn, 1) := by decide +kernel
theorem d3_26 : decode prog_74_method_3_code 26 = .ok (.iconst 0, 1) := by decide +kernel
abbrev y_2 : MethodName := ⟨"com/example/reaction_runtime/reactionruntime/model/IntegerMolecule", "equals", "(Ljava/lang/Object;)Z"⟩
theorem pn_2 : plainFor y_2 = true := by first | exact plainFor_of_name (by first | (simp [plainName, overriddenIn]; done) | decide +kernel) | decide +kernel
theorem ef_rmE (m : MethodId) (a1 : Addr) (a2 : Addr) : entryFrame m #[(.ref a1), (.ref a2)] 2 = mkF m 0 #[sr a1, sr a2] [] := by first | (simp [entryFrame, mkF, argsToLocals, Value.category]; done) | rfl
def Q_rmE (Z : State) (a1 : Addr) (a2 : Addr) (w1 : Int64) (w2 : Int64) (h0 : Heap) (n0 : Nat) (v : Option Value) (h : Heap) (L : List Loc) : Prop := v = some (.int (if w2 = w1 then (1 : Int32) else (0 : Int32))) ∧ Fr n0 L ∧ h = h0
set_option maxRecDepth 65536 in
set_option maxHeartbeats 40000000 in
theorem rmE (l : Launch) (Z : State) (a0 : Array Value) (hw : ∀ d ∈ tables_1, d.before a0 Z = true) (ws : List Jvm.Cond) (a1 : Addr) (a2 : Addr) (w1 : Int64) (w2 : Int64) (h0 : Heap) (n0 : Nat) (Z0 : n0 ≤ h0.size) (hp0 : Fld Z h0 a1 "com/example/reaction_runtime/reactionruntime/model/IntegerMolecule" "value" "J" (.long w1)) (hp1 : Fld Z h0 a2 "com/example/reaction_runtime/reactionruntime/model/IntegerMolecule" "value" "J" (.long w2)) (hp2 : Exa Z h0 a2 "com/example/reaction_runtime/reactionruntime/model/IntegerMolecule") :
  MetFree l y_2 (head1 (Jvm.Cond.code y_2 prog_74_method_3_code 2 (some .boolean) :: ws) ({ frames := 0, cells := 0, slots := 0, locals := 0 } : Room)) (fun a U => a = #[(.ref a1), (.ref a2)] ∧ Z.Warmed39 U.vm ∧ U.heap = h0) (fun _ _ _ _ _ => True) (fun _ U o U' => ∃ v L, o = .returned v ∧ Q_rmE Z a1 a2 w1 w2 h0 n0 v U'.heap L ∧ FrameEnd U o U' L ({ frames := 0, cells := 0, slots := 0, locals := 0 } : Room).cells ({ frames := 0, cells := 0, slots := 0, locals := 0 } : Room).slots) := by
 refine bodyOf pn_2 (fun m => ef_rmE m a1 a2) ?_
 intro p e s m below meth c T0 X0 hx hby hml hown hnm hret hk hZ e0
 have N0 := Fr.nil n0
 have K0 : Keep h0 h0 [] := Keep.refl _ _
 refine go (S' := T0.setTop (mkF m 1 #[sr a1, sr a2] [(.ref a2)])) (fun t k => XS.aloadN X0.here hx rfl (hb hby d3_0) rfl rfl k) ?_
 obtain ⟨T11, X11, e11, st11⟩ := instY X0 hx hZ hown (ww hw 16 rfl) e0 (Ins.self hp2) (g := (mkF m 1 #[sr a1, sr a2] [(.ref a2)])) rfl rfl (hb hby d3_1)
 refine go (S' := T11.setTop (mkF m 4 #[sr a1, sr a2] [(.int 1)])) st11 ?_
 have hc12 : ¬ ((1 : Int32) = (0 : Int32)) := by decide
 refine go (S' := T11.setTop (mkF m 8 #[sr a1, sr a2] [(.ref a2)])) (fun t k => XS.ifNo X11.here hx rfl (hb hby d3_4) rfl ((if0 _ _).trans (feq hc12).1) (XS.aloadN X11.here hx rfl (hb hby d3_7) rfl rfl k)) ?_
 obtain ⟨T13, X13, e13, st13⟩ := castY X11 hx hZ hown (ww hw 16 rfl) e11 (Ins.self hp2) (g := (mkF m 8 #[sr a1, sr a2] [(.ref a2)])) rfl rfl (hb hby d3_8)
 refine go (S' := T13.setTop (mkF m 11 #[sr a1, sr a2] [(.ref a2)])) st13 ?_
 obtain ⟨T14, X14, e14, st14⟩ := getF X13 hx hZ hown (host := "") (Or.inl (ww hw 9 rfl)) Via.refl e13 hp1 (g := (mkF m 11 #[sr a1, sr a2] [(.ref a2)])) rfl rfl (hb hby d3_11)
 refine go (S' := T14.setTop (mkF m 15 #[sr a1, sr a2] [(.ref a1), (.long w2)])) (fun t k => st14 _ (XS.aloadN X14.here hx rfl (hb hby d3_14) rfl rfl k)) ?_
 obtain ⟨T15, X15, e15, st15⟩ := getF X14 hx hZ hown (host := "") (Or.inl (ww hw 9 rfl)) Via.refl e14 hp0 (g := (mkF m 15 #[sr a1, sr a2] [(.ref a1), (.long w2)])) rfl rfl (hb hby d3_15)
 refine go (S' := T15.setTop (mkF m 19 #[sr a1, sr a2] [(.int (lcmpW w2 w1))])) (fun t k => st15 _ (XS.lcmp X15.here hx rfl (hb hby d3_18) rfl k)) ?_
 by_cases hc16 : (lcmpW w2 w1) = (0 : Int32)
 ·
  refine go (S' := T15.setTop (mkF m 27 #[sr a1, sr a2] [(.int 1)])) (fun t k => XS.ifNo X15.here hx rfl (hb hby d3_19) rfl ((if0 _ _).trans (teq hc16).2) (XS.iconst X15.here hx rfl (hb hby d3_22) (XS.goto X15.here hx rfl (pc0 := 23) (pc' := 27) rfl (hb hby d3_23) (by decide) (by decide) k))) ?_
  refine finN X15 hx hk (t := .boolean) hret (by simp) (hb hby d3_27) (by decide) (by decide) ?_
  rw [e15]
  exact ⟨(by rw [if_pos ((lw_eq _ _).mp hc16)]; rfl), N0, rfl⟩
 ·
  refine go (S' := T15.setTop (mkF m 27 #[sr a1, sr a2] [(.int 0)])) (fun t k => XS.ifYes X15.here hx rfl (pc0 := 19) (pc' := 26) rfl (hb hby d3_19) rfl ((if0 _ _).trans (feq hc16).2) (by decide) (by decide) (XS.iconst X15.here hx rfl (hb hby d3_26) k)) ?_
  refine finN X15 hx hk (t := .boolean) hret (by simp) (hb hby d3_27) (by decide) (by decide) ?_
  rw [e15]
  exact ⟨(by rw [if_neg fun r => hc16 ((lw_eq _ _).mpr r)]; rfl), N0, rfl⟩
theorem ef_rmN (m : MethodId) (a1 : Addr) : entryFrame m #[(.ref a1), .null] 2 = mkF m 0 #[sr a1, .val .null] [] := by first | (simp [entryFrame, mkF, argsToLocals, Value.category]; done) | rfl
def Q_rmN (Z : State) (a1 : Addr) (h0 : Heap) (n0 : Nat) (v : Option Value) (h : Heap) (L : List Loc) : Prop := v = some (.int 0) ∧ Fr n0 L ∧ h = h0
set_option maxRecDepth 65536 in
set_option maxHeartbeats 40000000 in
theorem rmN (l : Launch) (Z : State) (a0 : Array Value) (hw : ∀ d ∈ tables_1, d.before a0 Z = true) (ws : List Jvm.Cond) (a1 : Addr) (h0 : Heap) (n0 : Nat) (Z0 : n0 ≤ h0.size)  :
  MetFree l y_2 (head1 (Jvm.Cond.code y_2 prog_74_method_3_code 2 (some .boolean) :: ws) ({ frames := 0, cells := 0, slots := 0, locals := 0 } : Room)) (fun a U => a = #[(.ref a1), .null] ∧ Z.Warmed39 U.vm ∧ U.heap = h0) (fun _ _ _ _ _ => True) (fun _ U o U' => ∃ v L, o = .returned v ∧ Q_rmN Z a1 h0 n0 v U'.heap L ∧ FrameEnd U o U' L ({ frames := 0, cells := 0, slots := 0, locals := 0 } : Room).cells ({ frames := 0, cells := 0, slots := 0, locals := 0 } : Room).slots) := by
 refine bodyOf pn_2 (fun m => ef_rmN m a1) ?_
 intro p e s m below meth c T0 X0 hx hby hml hown hnm hret hk hZ e0
 have N0 := Fr.nil n0
 have K0 : Keep h0 h0 [] := Keep.refl _ _
 refine go (S' := T0.setTop (mkF m 4 #[sr a1, .val .null] [(.int 0)])) (fun t k => XS.aloadN X0.here hx rfl (hb hby d3_0) rfl rfl (X0.instanceofNull hx (g := (mkF m 1 #[sr a1, .val .null] [.null])) rfl rfl (hb hby d3_1) _ k)) ?_
 have hc17 : (0 : Int32) = (0 : Int32) := by decide
 refine go (S' := T0.setTop (mkF m 27 #[sr a1, .val .null] [(.int 0)])) (fun t k => XS.ifYes X0.here hx rfl (pc0 := 4) (pc' := 26) rfl (hb hby d3_4) rfl ((if0 _ _).trans (teq hc17).1) (by decide) (by decide) (XS.iconst X0.here hx rfl (hb hby d3_26) k)) ?_
 refine finN X0 hx hk (t := .boolean) hret (by simp) (hb hby d3_27) (by decide) (by decide) ?_
 rw [e0]
 exact ⟨rfl, N0, rfl⟩
theorem ef_rmO (m : MethodId) (a1 : Addr) (a2 : Addr) : entryFrame m #[(.ref a1), (.ref a2)] 2 = mkF m 0 #[sr a1, sr a2] [] := by first | (simp [entryFrame, mkF, argsToLocals, Value.category]; done) | rfl
def Q_rmO (Z : State) (a1 : Addr) (a2 : Addr) (h0 : Heap) (n0 : Nat) (v : Option Value) (h : Heap) (L : List Loc) : Prop := v = some (.int 0) ∧ Fr n0 L ∧ h = h0
set_option maxRecDepth 65536 in
set_option maxHeartbeats 40000000 in
theorem rmO (l : Launch) (Z : State) (a0 : Array Value) (hw : ∀ d ∈ tables_1, d.before a0 Z = true) (ws : List Jvm.Cond) (a1 : Addr) (a2 : Addr) (h0 : Heap) (n0 : Nat) (Z0 : n0 ≤ h0.size) (hp0 : Exa Z h0 a2 "com/example/reaction_runtime/reactionruntime/model/StringMolecule") :
  MetFree l y_2 (head1 (Jvm.Cond.code y_2 prog_74_method_3_code 2 (some .boolean) :: ws) ({ frames := 0, cells := 0, slots := 0, locals := 0 } : Room)) (fun a U => a = #[(.ref a1), (.ref a2)] ∧ Z.Warmed39 U.vm ∧ U.heap = h0) (fun _ _ _ _ _ => True) (fun _ U o U' => ∃ v L, o = .returned v ∧ Q_rmO Z a1 a2 h0 n0 v U'.heap L ∧ FrameEnd U o U' L ({ frames := 0, cells := 0, slots := 0, locals := 0 } : Room).cells ({ frames := 0, cells := 0, slots := 0, locals := 0 } : Room).slots) := by
 refine bodyOf pn_2 (fun m => ef_rmO m a1 a2) ?_
 intro p e s m below meth c T0 X0 hx hby hml hown hnm hret hk hZ e0
 have N0 := Fr.nil n0
 have K0 : Keep h0 h0 [] := Keep.refl _ _
 refine go (S' := T0.setTop (mkF m 1 #[sr a1, sr a2] [(.ref a2)])) (fun t k => XS.aloadN X0.here hx rfl (hb hby d3_0) rfl rfl k) ?_
 obtain ⟨T18, X18, e18, st18⟩ := instNo X0 hx hZ hown (ww hw 16 rfl) e0 hp0 (nsNo (ww hw 55 rfl) (ww hw 1 rfl) (NS.step (ww hw 55 rfl) (nsRoot (ww hw 56 rfl) (ww hw 1 rfl) (by decide)) (by decide)) (by decide)) (g := (mkF m 1 #[sr a1, sr a2] [(.ref a2)])) rfl rfl (hb hby d3_1)
 refine go (S' := T18.setTop (mkF m 4 #[sr a1, sr a2] [(.int 0)])) st18 ?_
 have hc19 : (0 : Int32) = (0 : Int32) := by decide
 refine go (S' := T18.setTop (mkF m 27 #[sr a1, sr a2] [(.int 0)])) (fun t k => XS.ifYes X18.here hx rfl (pc0 := 4) (pc' := 26) rfl (hb hby d3_4) rfl ((if0 _ _).trans (teq hc19).1) (by decide) (by decide) (XS.iconst X18.here hx rfl (hb hby d3_26) k)) ?_
 refine finN X18 hx hk (t := .boolean) hret (by simp) (hb hby d3_27) (by decide) (by decide) ?_
 rw [e18]
 exact ⟨rfl, N0, rfl⟩
theorem ef_rmB (m : MethodId) (a1 : Addr) (a2 : Addr) : entryFrame m #[(.ref a1), (.ref a2)] 2 = mkF m 0 #[sr a1, sr a2] [] := by first | (simp [entryFrame, mkF, argsToLocals, Value.category]; done) | rfl
def Q_rmB (Z : State) (a1 : Addr) (a2 : Addr) (h0 : Heap) (n0 : Nat) (v : Option Value) (h : Heap) (L : List Loc) : Prop := v = some (.int 0) ∧ Fr n0 L ∧ h = h0
set_option maxRecDepth 65536 in
set_option maxHeartbeats 40000000 in
theorem rmB (l : Launch) (Z : State) (a0 : Array Value) (hw : ∀ d ∈ tables_1, d.before a0 Z = true) (ws : List Jvm.Cond) (a1 : Addr) (a2 : Addr) (h0 : Heap) (n0 : Nat) (Z0 : n0 ≤ h0.size) (hp0 : Exa Z h0 a2 "com/example/reaction_runtime/reactionruntime/model/BooleanMolecule") :
  MetFree l y_2 (head1 (Jvm.Cond.code y_2 prog_74_method_3_code 2 (some .boolean) :: ws) ({ frames := 0, cells := 0, slots := 0, locals := 0 } : Room)) (fun a U => a = #[(.ref a1), (.ref a2)] ∧ Z.Warmed39 U.vm ∧ U.heap = h0) (fun _ _ _ _ _ => True) (fun _ U o U' => ∃ v L, o = .returned v ∧ Q_rmB Z a1 a2 h0 n0 v U'.heap L ∧ FrameEnd U o U' L ({ frames := 0, cells := 0, slots := 0, locals := 0 } : Room).cells ({ frames := 0, cells := 0, slots := 0, locals := 0 } : Room).slots) := by
 refine bodyOf pn_2 (fun m => ef_rmB m a1 a2) ?_
 intro p e s m below meth c T0 X0 hx hby hml hown hnm hret hk hZ e0
 have N0 := Fr.nil n0
 have K0 : Keep h0 h0 [] := Keep.refl _ _
 refine go (S' := T0.setTop (mkF m 1 #[sr a1, sr a2] [(.ref a2)])) (fun t k => XS.aloadN X0.here hx rfl (hb hby d3_0) rfl rfl k) ?_
 obtain ⟨T20, X20, e20, st20⟩ := instNo X0 hx hZ hown (ww hw 16 rfl) e0 hp0 (nsNo (ww hw 63 rfl) (ww hw 1 rfl) (NS.step (ww hw 63 rfl) (nsRoot (ww hw 56 rfl) (ww hw 1 rfl) (by decide)) (by decide)) (by decide)) (g := (mkF m 1 #[sr a1, sr a2] [(.ref a2)])) rfl rfl (hb hby d3_1)
 refine go (S' := T20.setTop (mkF m 4 #[sr a1, sr a2] [(.int 0)])) st20 ?_
 have hc21 : (0 : Int32) = (0 : Int32) := by decide
 refine go (S' := T20.setTop (mkF m 27 #[sr a1, sr a2] [(.int 0)])) (fun t k => XS.ifYes X20.here hx rfl (pc0 := 4) (pc' := 26) rfl (hb hby d3_4) rfl ((if0 _ _).trans (teq hc21).1) (by decide) (by decide) (XS.iconst X20.here hx rfl (hb hby d3_26) k)) ?_
 refine finN X20 hx hk (t := .boolean) hret (by simp) (hb hby d3_27) (by decide) (by decide) ?_
 rw [e20]
 exact ⟨rfl, N0, rfl⟩
theorem d10_0 : decode prog_66_method_2_code 0 = .ok (.iload_n 0, 1) := by decide +kernel
theorem d10_1 : decode prog_66_method_2_code 1 = .ok (.ifCond .eq 9, 3) := by decide +kernel
theorem d10_4 : decode prog_66_method_2_code 4 = .ok (.getstatic 13, 3) := by decide +kernel
theorem d10_7 : decode prog_66_method_2_code 7 = .ok (.goto 6, 3) := by decide +kernel
theorem d10_13 : decode prog_66_method_2_code 13 = .ok (.areturn, 1) := by decide +kernel
abbrev y_3 : MethodName := ⟨"com/example/reaction_runtime/reactionruntime/model/BooleanMolecule", "of", "(Z)Lcom/example/reaction_runtime/reactionruntime/model/BooleanMolecule;"⟩
theorem pn_3 : plainFor y_3 = true := by first | exact plainFor_of_name (by first | (simp [plainName, overriddenIn]; done) | decide +kernel) | decide +kernel
theorem ef_rmT (m : MethodId)  : entryFrame m #[(.int 1)] 1 = mkF m 0 #[si 1] [] := by first | (simp [entryFrame, mkF, argsToLocals, Value.category]; done) | rfl
def Q_rmT (Z : State) (bt : Addr) (h0 : Heap) (n0 : Nat) (v : Option Value) (h : Heap) (L : List Loc) : Prop := v = some (.ref bt) ∧ Fr n0 L ∧ h = h0
set_option maxRecDepth 65536 in
set_option maxHeartbeats 40000000 in
theorem rmT (l : Launch) (Z : State) (a0 : Array Value) (hw : ∀ d ∈ tables_1, d.before a0 Z = true) (ws : List Jvm.Cond) (bt : Addr) (h0 : Heap) (n0 : Nat) (Z0 : n0 ≤ h0.size) (hp0 : Sta Z Z.heap "com/example/reaction_runtime/reactionruntime/model/BooleanMolecule" "TRUE" "Lcom/example/reaction_runtime/reactionruntime/model/BooleanMolecule;" (.ref bt)) (hp1 : Old Z n0 h0) :
  MetFree l y_3 (head1 (Jvm.Cond.code y_3 prog_66_method_2_code 1 (some (.object "com/example/reaction_runtime/reactionruntime/model/BooleanMolecule")) :: ws) ({ frames := 0, cells := 0, slots := 0, locals := 0 } : Room)) (fun a U => a = #[(.int 1)] ∧ Z.Warmed39 U.vm ∧ U.heap = h0) (fun _ _ _ _ _ => True) (fun _ U o U' => ∃ v L, o = .returned v ∧ Q_rmT Z bt h0 n0 v U'.heap L ∧ FrameEnd U o U' L ({ frames := 0, cells := 0, slots := 0, locals := 0 } : Room).cells ({ frames := 0, cells := 0, slots := 0, locals := 0 } : Room).slots) := by
 refine bodyOf pn_3 (fun m => ef_rmT m ) ?_
 intro p e s m below meth c T0 X0 hx hby hml hown hnm hret hk hZ e0
 have N0 := Fr.nil n0
 have K0 : Keep h0 h0 [] := Keep.refl _ _
 have O0 := hp1
 refine go (S' := T0.setTop (mkF m 1 #[si 1] [(.int 1)])) (fun t k => XS.iloadN X0.here hx rfl (hb hby d10_0) rfl k) ?_
 have hc22 : ¬ ((1 : Int32) = (0 : Int32)) := by decide
 refine go (S' := T0.setTop (mkF m 4 #[si 1] [])) (fun t k => XS.ifNo X0.here hx rfl (hb hby d10_1) rfl ((if0 _ _).trans (feq hc22).1) k) ?_
 have O24 : Old Z n0 h0 := O0.keep K0 all0
 obtain ⟨T23, X23, e23, st23⟩ := getS2 X0 hx hZ hown (host := "") (Or.inl (ww hw 64 rfl)) Via.refl e0 (hp0.ext O24.2) (g := (mkF m 4 #[si 1] [])) rfl (hb hby d10_4)
 refine go (S' := T23.setTop (mkF m 13 #[si 1] [(.ref bt)])) (fun t k => st23 _ (XS.goto X23.here hx rfl (pc0 := 7) (pc' := 13) rfl (hb hby d10_7) (by decide) (by decide) k)) ?_
 refine finR X23 hx hk hret rfl rfl (hb hby d10_13) (by decide) (by decide) ?_
 rw [e23]
 exact ⟨rfl, N0, rfl⟩
theorem d10_10 : decode prog_66_method_2_code 10 = .ok (.getstatic 17, 3) := by decide +kernel
theorem ef_rmF (m : MethodId)  : entryFrame m #[(.int 0)] 1 = mkF m 0 #[si 0] [] := by first | (simp [entryFrame, mkF, argsToLocals, Value.category]; done) | rfl
def Q_rmF (Z : State) (bf : Addr) (h0 : Heap) (n0 : Nat) (v : Option Value) (h : Heap) (L : List Loc) : Prop := v = some (.ref bf) ∧ Fr n0 L ∧ h = h0
set_option maxRecDepth 65536 in
set_option maxHeartbeats 40000000 in
theorem rmF (l : Launch) (Z : State) (a0 : Array Value) (hw : ∀ d ∈ tables_1, d.before a0 Z = true) (ws : List Jvm.Cond) (bf : Addr) (h0 : Heap) (n0 : Nat) (Z0 : n0 ≤ h0.size) (hp0 : Sta Z Z.heap "com/example/reaction_runtime/reactionruntime/model/BooleanMolecule" "FALSE" "Lcom/example/reaction_runtime/reactionruntime/model/BooleanMolecule;" (.ref bf)) (hp1 : Old Z n0 h0) :
  MetFree l y_3 (head1 (Jvm.Cond.code y_3 prog_66_method_2_code 1 (some (.object "com/example/reaction_runtime/reactionruntime/model/BooleanMolecule")) :: ws) ({ frames := 0, cells := 0, slots := 0, locals := 0 } : Room)) (fun a U => a = #[(.int 0)] ∧ Z.Warmed39 U.vm ∧ U.heap = h0) (fun _ _ _ _ _ => True) (fun _ U o U' => ∃ v L, o = .returned v ∧ Q_rmF Z bf h0 n0 v U'.heap L ∧ FrameEnd U o U' L ({ frames := 0, cells := 0, slots := 0, locals := 0 } : Room).cells ({ frames := 0, cells := 0, slots := 0, locals := 0 } : Room).slots) := by
 refine bodyOf pn_3 (fun m => ef_rmF m ) ?_
 intro p e s m below meth c T0 X0 hx hby hml hown hnm hret hk hZ e0
 have N0 := Fr.nil n0
 have K0 : Keep h0 h0 [] := Keep.refl _ _
 have O0 := hp1
 refine go (S' := T0.setTop (mkF m 1 #[si 0] [(.int 0)])) (fun t k => XS.iloadN X0.here hx rfl (hb hby d10_0) rfl k) ?_
 have hc25 : (0 : Int32) = (0 : Int32) := by decide
 refine go (S' := T0.setTop (mkF m 10 #[si 0] [])) (fun t k => XS.ifYes X0.here hx rfl (pc0 := 1) (pc' := 10) rfl (hb hby d10_1) rfl ((if0 _ _).trans (teq hc25).1) (by decide) (by decide) k) ?_
 have O27 : Old Z n0 h0 := O0.keep K0 all0
 obtain ⟨T26, X26, e26, st26⟩ := getS2 X0 hx hZ hown (host := "") (Or.inl (ww hw 61 rfl)) Via.refl e0 (hp0.ext O27.2) (g := (mkF m 10 #[si 0] [])) rfl (hb hby d10_10)
 refine go (S' := T26.setTop (mkF m 13 #[si 0] [(.ref bf)])) st26 ?_
 refine finR X26 hx hk hret rfl rfl (hb hby d10_13) (by decide) (by decide) ?_
 rw [e26]
 exact ⟨rfl, N0, rfl⟩
theorem pd_0 : parseMethodDescriptor "(J)V" = some ⟨[.long], none⟩ := by decide +kernel
theorem pd_1 : parseMethodDescriptor "(Ljava/lang/Object;)Z" = some ⟨[(.object "java/lang/Object")], some .boolean⟩ := by decide +kernel
theorem pd_2 : parseMethodDescriptor "([C)V" = some ⟨[(.array .char)], none⟩ := by decide +kernel
abbrev y_4 : MethodName := ⟨"java/lang/String", "<init>", "([C)V"⟩
theorem pd_3 : parseMethodDescriptor "(Ljava/lang/String;)V" = some ⟨[(.object "java/lang/String")], none⟩ := by decide +kernel
theorem pd_4 : parseMethodDescriptor "(Z)Lcom/example/reaction_runtime/reactionruntime/model/BooleanMolecule;" = some ⟨[.boolean], some (.object "com/example/reaction_runtime/reactionruntime/model/BooleanMolecule")⟩ := by decide +kernel
abbrev y_5 : MethodName := ⟨"com/example/reaction_runtime/reactionruntime/model/IntegerMoleculeEqualsPinLaw", "law", "(JJI)Z"⟩
theorem pn_4 : plainFor y_5 = true := by first | exact plainFor_of_name (by first | (simp [plainName, overriddenIn]; done) | decide +kernel) | decide +kernel
theorem ef_rmLaw (m : MethodId) (q1 : Int64) (q2 : Int64) (p3 : Int32) : entryFrame m #[(.long q1), (.long q2), (.int p3)] maxLocals = mkF m 0 #[.val (.long q1), .second, .val (.long q2), .second, si p3, .unset, .unset, .unset, .unset, .unset, .unset, .unset] [] := by first | (simp [entryFrame, mkF, argsToLocals, Value.category, maxLocals]; done) | rfl
def Q_rmLaw (Z : State) (q1 : Int64) (q2 : Int64) (p3 : Int32) (G1 : Int32) (bt : Addr) (bf : Addr) (h0 : Heap) (n0 : Nat) (v : Option Value) (h : Heap) (L : List Loc) : Prop := v = some (.int 1) ∧ Fr n0 L ∧ Keep h0 h []
set_option maxRecDepth 65536 in
set_option maxHeartbeats 40000000 in
theorem rmLaw (l : Launch) (Z : State) (a0 : Array Value) (hw : ∀ d ∈ tables_1, d.before a0 Z = true) (ws : List Jvm.Cond) (q1 : Int64) (q2 : Int64) (p3 : Int32) (G1 : Int32) (bt : Addr) (bf : Addr) (h0 : Heap) (n0 : Nat) (Z0 : n0 ≤ h0.size) (hp0 : Sta Z Z.heap "java/lang/String" "COMPACT_STRINGS" "Z" (.int G1)) (hG1 : ¬ (G1 = (0 : Int32))) (hp2 : Sta Z Z.heap "com/example/reaction_runtime/reactionruntime/model/BooleanMolecule" "TRUE" "Lcom/example/reaction_runtime/reactionruntime/model/BooleanMolecule;" (.ref bt)) (hp3 : Sta Z Z.heap "com/example/reaction_runtime/reactionruntime/model/BooleanMolecule" "FALSE" "Lcom/example/reaction_runtime/reactionruntime/model/BooleanMolecule;" (.ref bf)) (hp4 : Exa Z Z.heap bt "com/example/reaction_runtime/reactionruntime/model/BooleanMolecule") (hp5 : Exa Z Z.heap bf "com/example/reaction_runtime/reactionruntime/model/BooleanMolecule") (hp6 : Old Z n0 h0) :
  MetFree l x (head1 (Jvm.Cond.code x code maxLocals ret :: ws) room_1) (fun a U => a = #[(.long q1), (.long q2), (.int p3)] ∧ Z.Warmed39 U.vm ∧ U.heap = h0) (fun _ _ _ _ _ => True) (fun _ U o U' => ∃ v L, o = .returned v ∧ Q_rmLaw Z q1 q2 p3 G1 bt bf h0 n0 v U'.heap L ∧ FrameEnd U o U' L room_1.cells room_1.slots) := by
 refine bodyOf pn_4 (fun m => ef_rmLaw m q1 q2 p3) ?_
 intro p e s m below meth c T0 X0 hx hby hml hown hnm hret hk hZ e0
 have N0 := Fr.nil n0
 have K0 : Keep h0 h0 [] := Keep.refl _ _
 have O0 := hp6
 refine go (S' := T0.setTop (mkF m 4 #[.val (.long q1), .second, .val (.long q2), .second, si p3, .unset, .unset, .unset, .unset, .unset, .unset, .unset] [(.int (p3 &&& (1 : Int32)))])) (fun t k => XS.iload X0.here hx rfl (hb hby at_0) rfl (XS.iconst X0.here hx rfl (hb hby at_2) (XS.iand X0.here hx rfl (hb hby at_3) rfl k))) ?_
 obtain ⟨T28, ⟨ls28, X28, N28, e28⟩, st28⟩ : Reach p.tables e below (mkF m 12 #[.val (.long q1), .second, .val (.long q2), .second, si p3, .unset, .unset, .unset, .unset, .unset, .unset, .unset] [(.long (if (p3 &&& (1 : Int32)) = (0 : Int32) then q2 else q1))]) (Same X0 n0 h0) (T0.setTop (mkF m 4 #[.val (.long q1), .second, .val (.long q2), .second, si p3, .unset, .unset, .unset, .unset, .unset, .unset, .unset] [(.int (p3 &&& (1 : Int32)))])) := by
  by_cases hc29 : (p3 &&& (1 : Int32)) = (0 : Int32)
  ·
   simp only [if_pos hc29]
   refine goR (S' := T0.setTop (mkF m 12 #[.val (.long q1), .second, .val (.long q2), .second, si p3, .unset, .unset, .unset, .unset, .unset, .unset, .unset] [(.long q2)])) (fun t k => XS.ifYes X0.here hx rfl (pc0 := 4) (pc' := 11) rfl (hb hby at_4) rfl ((if0 _ _).trans (teq hc29).1) (by decide) (by decide) (XS.lloadN X0.here hx rfl (hb hby at_11) rfl k)) ?_
   exact ⟨T0, ⟨_, X0, N0, e0⟩, fun t k => k⟩
  ·
   simp only [if_neg hc29]
   refine goR (S' := T0.setTop (mkF m 12 #[.val (.long q1), .second, .val (.long q2), .second, si p3, .unset, .unset, .unset, .unset, .unset, .unset, .unset] [(.long q1)])) (fun t k => XS.ifNo X0.here hx rfl (hb hby at_4) rfl ((if0 _ _).trans (feq hc29).1) (XS.lloadN X0.here hx rfl (hb hby at_7) rfl (XS.goto X0.here hx rfl (pc0 := 8) (pc' := 12) rfl (hb hby at_8) (by decide) (by decide) k))) ?_
   exact ⟨T0, ⟨_, X0, N0, e0⟩, fun t k => k⟩
 refine go (S' := T28.setTop (mkF m 14 #[.val (.long q1), .second, .val (.long q2), .second, si p3, .val (.long (if (p3 &&& (1 : Int32)) = (0 : Int32) then q2 else q1)), .second, .unset, .unset, .unset, .unset, .unset] [])) (fun t k => st28 _ (XS.lstore X28.here hx rfl (hb hby at_12) rfl (l' := #[.val (.long q1), .second, .val (.long q2), .second, si p3, .val (.long (if (p3 &&& (1 : Int32)) = (0 : Int32) then q2 else q1)), .second, .unset, .unset, .unset, .unset, .unset]) rfl k)) ?_
 obtain ⟨b2, hb2⟩ : ∃ z : Int64, z = (if (p3 &&& (1 : Int32)) = (0 : Int32) then q2 else q1) := ⟨_, rfl⟩
 rw [← hb2]
 refine go (S' := T28.setTop (mkF m 23 #[.val (.long q1), .second, .val (.long q2), .second, si p3, .val (.long b2), .second, si (((p3.toUInt32 >>> ((1 : Int32) &&& 31).toUInt32).toInt32) &&& (7 : Int32)), .unset, .unset, .unset, .unset] [])) (fun t k => XS.iload X28.here hx rfl (hb hby at_14) rfl (XS.iconst X28.here hx rfl (hb hby at_16) (XS.iushr X28.here hx rfl (hb hby at_17) rfl (XS.bipush X28.here hx rfl (hb hby at_18) (XS.iand X28.here hx rfl (hb hby at_20) rfl (XS.istore X28.here hx rfl (hb hby at_21) rfl (l' := #[.val (.long q1), .second, .val (.long q2), .second, si p3, .val (.long b2), .second, si (((p3.toUInt32 >>> ((1 : Int32) &&& 31).toUInt32).toInt32) &&& (7 : Int32)), .unset, .unset, .unset, .unset]) rfl k)))))) ?_
 obtain ⟨kd, hkd⟩ : ∃ z : Int32, z = (((p3.toUInt32 >>> ((1 : Int32) &&& 31).toUInt32).toInt32) &&& (7 : Int32)) := ⟨_, rfl⟩
 rw [← hkd]
 obtain ⟨T30, h30, X30, e30, E30, A30, D30, -, st30⟩ := newO X28 hx hZ hown (ww hw 0 rfl) (ww hw 1 rfl) (ww hw 2 rfl) e28 (g := (mkF m 23 #[.val (.long q1), .second, .val (.long q2), .second, si p3, .val (.long b2), .second, si kd, .unset, .unset, .unset, .unset] [])) rfl (hb hby at_23) (by decide) (by decide)
 obtain ⟨b30, g30⟩ : ∃ z, z = h0.size := ⟨_, rfl⟩
 rw [← g30] at A30 D30 st30
 have ge_b30 : n0 ≤ b30 := by rw [g30]; exact (Nat.le_trans Z0 K0.1)
 have sz_b30 : h0.size ≤ b30 := by rw [g30]; exact K0.1
 have K31 : Keep h0 h30 [] := K0.ext E30
 refine go (S' := T30.setTop (mkF m 28 #[.val (.long q1), .second, .val (.long q2), .second, si p3, .val (.long b2), .second, si kd, .unset, .unset, .unset, .unset] [(.long q1), (.ref b30), (.ref b30)])) (fun t k => st30 _ (XS.dup X30.here hx rfl (hb hby at_26) rfl rfl (XS.lloadN X30.here hx rfl (hb hby at_27) rfl k))) ?_
 obtain ⟨v32, T32, L32, X32, hQ32, st32⟩ := callSp X30 hx hZ (y := y_0) rfl hown (ww hw 3 rfl) (ww hw 4 rfl) (ww hw 5 rfl) (by decide) (backOf (W := 1) (rmI l Z a0 hw [] b30 q1 h30 n0 (Nat.le_trans Z0 K31.1) A30 (D30 (Or.inr (ww hw 10 rfl)) (ty := .long) (by decide)) ge_b30) hZ (ww hw 5 rfl) (ww hw 2 rfl) (by decide) (by decide)) (g := (mkF m 28 #[.val (.long q1), .second, .val (.long q2), .second, si p3, .val (.long b2), .second, si kd, .unset, .unset, .unset, .unset] [(.long q1), (.ref b30), (.ref b30)])) rfl (by rw [hml]; rfl) (a := b30) (argsL := [(.long q1)]) (rest := [(.ref b30)]) (lenOf pd_0 rfl) rfl (mr0 rfl) (hb hby at_28) e30 (by decide) (by decide)
 obtain ⟨rfl, N32q, Kq32, q32_0⟩ := hQ32
 have N32 := Fr.app N28 N32q
 have K33 : Keep h0 T32.heap [] := K31.trans Kq32 (allS (P := fun x => x ∈ [] ∨ h0.size ≤ x) (Or.inr sz_b30) all0)
 refine go (S' := T32.setTop (mkF m 36 #[.val (.long q1), .second, .val (.long q2), .second, si p3, .val (.long b2), .second, si kd, sr b30, .unset, .unset, .unset] [(.int 4), (.int kd)])) (fun t k => st32 _ (XS.astore X32.here hx rfl (hb hby at_31) rfl rfl (l' := #[.val (.long q1), .second, .val (.long q2), .second, si p3, .val (.long b2), .second, si kd, sr b30, .unset, .unset, .unset]) rfl (XS.iload X32.here hx rfl (hb hby at_33) rfl (XS.iconst X32.here hx rfl (hb hby at_35) k)))) ?_
 by_cases hc34 : kd < (4 : Int32)
 ·
  refine go (S' := T32.setTop (mkF m 39 #[.val (.long q1), .second, .val (.long q2), .second, si p3, .val (.long b2), .second, si kd, sr b30, .unset, .unset, .unset] [])) (fun t k => XS.icmpNo X32.here hx rfl (hb hby at_36) rfl (tlt hc34).2.1 k) ?_
  obtain ⟨T35, h35, X35, e35, E35, A35, D35, -, st35⟩ := newO X32 hx hZ hown (ww hw 0 rfl) (ww hw 1 rfl) (ww hw 2 rfl) rfl (g := (mkF m 39 #[.val (.long q1), .second, .val (.long q2), .second, si p3, .val (.long b2), .second, si kd, sr b30, .unset, .unset, .unset] [])) rfl (hb hby at_39) (by decide) (by decide)
  obtain ⟨b35, g35⟩ : ∃ z, z = T32.heap.size := ⟨_, rfl⟩
  rw [← g35] at A35 D35 st35
  have f36 : Exa Z T32.heap b30 "com/example/reaction_runtime/reactionruntime/model/IntegerMolecule" := (A30.keep Kq32)
  have lt_b30_b35 : b30 < b35 := by rw [g35]; exact f36.lt
  have ge_b35 : n0 ≤ b35 := by rw [g35]; exact (Nat.le_trans Z0 K33.1)
  have sz_b35 : h0.size ≤ b35 := by rw [g35]; exact K33.1
  have K37 : Keep h0 h35 [] := K33.ext E35
  refine go (S' := T35.setTop (mkF m 45 #[.val (.long q1), .second, .val (.long q2), .second, si p3, .val (.long b2), .second, si kd, sr b30, .unset, .unset, .unset] [(.long b2), (.ref b35), (.ref b35)])) (fun t k => st35 _ (XS.dup X35.here hx rfl (hb hby at_42) rfl rfl (XS.lload X35.here hx rfl (hb hby at_43) rfl k))) ?_
  obtain ⟨v38, T38, L38, X38, hQ38, st38⟩ := callSp X35 hx hZ (y := y_0) rfl hown (ww hw 3 rfl) (ww hw 4 rfl) (ww hw 5 rfl) (by decide) (backOf (W := 1) (rmI l Z a0 hw [] b35 b2 h35 n0 (Nat.le_trans Z0 K37.1) A35 (D35 (Or.inr (ww hw 10 rfl)) (ty := .long) (by decide)) ge_b35) hZ (ww hw 5 rfl) (ww hw 2 rfl) (by decide) (by decide)) (g := (mkF m 45 #[.val (.long q1), .second, .val (.long q2), .second, si p3, .val (.long b2), .second, si kd, sr b30, .unset, .unset, .unset] [(.long b2), (.ref b35), (.ref b35)])) rfl (by rw [hml]; rfl) (a := b35) (argsL := [(.long b2)]) (rest := [(.ref b35)]) (lenOf pd_0 rfl) rfl (mr0 rfl) (hb hby at_45) e35 (by decide) (by decide)
  obtain ⟨rfl, N38q, Kq38, q38_0⟩ := hQ38
  have N38 := Fr.app N32 N38q
  have K39 : Keep h0 T38.heap [] := K37.trans Kq38 (allS (P := fun x => x ∈ [] ∨ h0.size ≤ x) (Or.inr sz_b35) all0)
  refine go (S' := T38.setTop (mkF m 54 #[.val (.long q1), .second, .val (.long q2), .second, si p3, .val (.long b2), .second, si kd, sr b30, sr b35, .unset, .unset] [(.int (lcmpW q1 b2))])) (fun t k => st38 _ (XS.astore X38.here hx rfl (hb hby at_48) rfl rfl (l' := #[.val (.long q1), .second, .val (.long q2), .second, si p3, .val (.long b2), .second, si kd, sr b30, sr b35, .unset, .unset]) rfl (XS.lloadN X38.here hx rfl (hb hby at_50) rfl (XS.lload X38.here hx rfl (hb hby at_51) rfl (XS.lcmp X38.here hx rfl (hb hby at_53) rfl k))))) ?_
  obtain ⟨T40, ⟨ls40, X40, N40, e40⟩, st40⟩ : Reach p.tables e below (mkF m 62 #[.val (.long q1), .second, .val (.long q2), .second, si p3, .val (.long b2), .second, si kd, sr b30, sr b35, .unset, .unset] [(.int (if (lcmpW q1 b2) = (0 : Int32) then (1 : Int32) else (0 : Int32)))]) (Same X38 n0 T38.heap) (T38.setTop (mkF m 54 #[.val (.long q1), .second, .val (.long q2), .second, si p3, .val (.long b2), .second, si kd, sr b30, sr b35, .unset, .unset] [(.int (lcmpW q1 b2))])) := by
   by_cases hc41 : (lcmpW q1 b2) = (0 : Int32)
   ·
    simp only [if_pos hc41]
    refine goR (S' := T38.setTop (mkF m 62 #[.val (.long q1), .second, .val (.long q2), .second, si p3, .val (.long b2), .second, si kd, sr b30, sr b35, .unset, .unset] [(.int 1)])) (fun t k => XS.ifNo X38.here hx rfl (hb hby at_54) rfl ((if0 _ _).trans (teq hc41).2) (XS.iconst X38.here hx rfl (hb hby at_57) (XS.goto X38.here hx rfl (pc0 := 58) (pc' := 62) rfl (hb hby at_58) (by decide) (by decide) k))) ?_
    exact ⟨T38, ⟨_, X38, N38, rfl⟩, fun t k => k⟩
   ·
    simp only [if_neg hc41]
    refine goR (S' := T38.setTop (mkF m 62 #[.val (.long q1), .second, .val (.long q2), .second, si p3, .val (.long b2), .second, si kd, sr b30, sr b35, .unset, .unset] [(.int 0)])) (fun t k => XS.ifYes X38.here hx rfl (pc0 := 54) (pc' := 61) rfl (hb hby at_54) rfl ((if0 _ _).trans (feq hc41).2) (by decide) (by decide) (XS.iconst X38.here hx rfl (hb hby at_61) k)) ?_
    exact ⟨T38, ⟨_, X38, N38, rfl⟩, fun t k => k⟩
  refine go (S' := T40.setTop (mkF m 173 #[.val (.long q1), .second, .val (.long q2), .second, si p3, .val (.long b2), .second, si kd, sr b30, sr b35, si (if (lcmpW q1 b2) = (0 : Int32) then (1 : Int32) else (0 : Int32)), .unset] [(.ref b35), (.ref b30)])) (fun t k => st40 _ (XS.istore X40.here hx rfl (hb hby at_62) rfl (l' := #[.val (.long q1), .second, .val (.long q2), .second, si p3, .val (.long b2), .second, si kd, sr b30, sr b35, si (if (lcmpW q1 b2) = (0 : Int32) then (1 : Int32) else (0 : Int32)), .unset]) rfl (XS.goto X40.here hx rfl (pc0 := 64) (pc' := 169) rfl (hb hby at_64) (by decide) (by decide) (XS.aload X40.here hx rfl (hb hby at_169) rfl rfl (XS.aload X40.here hx rfl (hb hby at_171) rfl rfl k))))) ?_
  have f42 : Fld Z T38.heap b30 "com/example/reaction_runtime/reactionruntime/model/IntegerMolecule" "value" "J" (.long q1) := ((q32_0.ext E35).keep Kq38 (ninS (Nat.ne_of_lt lt_b30_b35) nin0))
  have f43 : Exa Z T38.heap b35 "com/example/reaction_runtime/reactionruntime/model/IntegerMolecule" := (A35.keep Kq38)
  have f45 : Exa Z T38.heap b30 "com/example/reaction_runtime/reactionruntime/model/IntegerMolecule" := ((f36.ext E35).keep Kq38)
  obtain ⟨v44, T44, L44, X44, hQ44, st44⟩ := callV X40 hx hZ (y := y_2) (z := y_2) hown (ww hw 11 rfl) (ww hw 12 rfl) (notFace_of_selects (args := #[]) (mvT hZ (ww hw 14 rfl))) (ww hw 14 rfl) (ww hw 13 rfl) (by decide) (backOf (W := 0) (rmE l Z a0 hw [] b30 b35 q1 b2 T38.heap n0 (Nat.le_trans Z0 K39.1) f42 q38_0 f43) hZ (ww hw 15 rfl) (ww hw 2 rfl) (by decide) (by decide)) f45 (g := (mkF m 173 #[.val (.long q1), .second, .val (.long q2), .second, si p3, .val (.long b2), .second, si kd, sr b30, sr b35, si (if (lcmpW q1 b2) = (0 : Int32) then (1 : Int32) else (0 : Int32)), .unset] [(.ref b35), (.ref b30)])) rfl (by rw [hml]; rfl) (argsL := [(.ref b35)]) (rest := []) (lenOf pd_1 rfl) rfl (mr0 rfl) (hb hby at_173) e40 (by decide) (by decide)
  obtain ⟨rfl, N44q, e44⟩ := hQ44
  have N44 := Fr.app N40 N44q
  refine go (S' := T44.setTop (mkF m 182 #[.val (.long q1), .second, .val (.long q2), .second, si p3, .val (.long b2), .second, si kd, sr b30, sr b35, si (if (lcmpW q1 b2) = (0 : Int32) then (1 : Int32) else (0 : Int32)), si (if b2 = q1 then (1 : Int32) else (0 : Int32))] [(.int (if (lcmpW q1 b2) = (0 : Int32) then (1 : Int32) else (0 : Int32))), (.int (if b2 = q1 then (1 : Int32) else (0 : Int32)))])) (fun t k => st44 _ (XS.istore X44.here hx rfl (hb hby at_176) rfl (l' := #[.val (.long q1), .second, .val (.long q2), .second, si p3, .val (.long b2), .second, si kd, sr b30, sr b35, si (if (lcmpW q1 b2) = (0 : Int32) then (1 : Int32) else (0 : Int32)), si (if b2 = q1 then (1 : Int32) else (0 : Int32))]) rfl (XS.iload X44.here hx rfl (hb hby at_178) rfl (XS.iload X44.here hx rfl (hb hby at_180) rfl k)))) ?_
  have hc46 : (if b2 = q1 then (1 : Int32) else (0 : Int32)) = (if (lcmpW q1 b2) = (0 : Int32) then (1 : Int32) else (0 : Int32)) := own_e1 _ _
  refine go (S' := T44.setTop (mkF m 195 #[.val (.long q1), .second, .val (.long q2), .second, si p3, .val (.long b2), .second, si kd, sr b30, sr b35, si (if (lcmpW q1 b2) = (0 : Int32) then (1 : Int32) else (0 : Int32)), si (if b2 = q1 then (1 : Int32) else (0 : Int32))] [(.ref b35)])) (fun t k => XS.icmpYes X44.here hx rfl (pc0 := 182) (pc' := 187) rfl (hb hby at_182) rfl (teq hc46).1 (by decide) (by decide) (XS.iload X44.here hx rfl (hb hby at_187) rfl (XS.iconst X44.here hx rfl (hb hby at_189) (XS.icmpNo X44.here hx rfl (hb hby at_190) rfl (tlt hc34).2.1 (XS.aload X44.here hx rfl (hb hby at_193) rfl rfl k))))) ?_
  obtain ⟨T47, X47, e47, st47⟩ := castY X44 hx hZ hown (ww hw 0 rfl) e44 (Ins.self f43) (g := (mkF m 195 #[.val (.long q1), .second, .val (.long q2), .second, si p3, .val (.long b2), .second, si kd, sr b30, sr b35, si (if (lcmpW q1 b2) = (0 : Int32) then (1 : Int32) else (0 : Int32)), si (if b2 = q1 then (1 : Int32) else (0 : Int32))] [(.ref b35)])) rfl rfl (hb hby at_195)
  refine go (S' := T47.setTop (mkF m 200 #[.val (.long q1), .second, .val (.long q2), .second, si p3, .val (.long b2), .second, si kd, sr b30, sr b35, si (if (lcmpW q1 b2) = (0 : Int32) then (1 : Int32) else (0 : Int32)), si (if b2 = q1 then (1 : Int32) else (0 : Int32))] [(.ref b30), (.ref b35)])) (fun t k => st47 _ (XS.aload X47.here hx rfl (hb hby at_198) rfl rfl k)) ?_
  obtain ⟨v48, T48, L48, X48, hQ48, st48⟩ := callV X47 hx hZ (y := y_2) (z := y_2) hown (ww hw 11 rfl) (ww hw 12 rfl) (notFace_of_selects (args := #[]) (mvT hZ (ww hw 14 rfl))) (ww hw 14 rfl) (ww hw 13 rfl) (by decide) (backOf (W := 0) (rmE l Z a0 hw [] b35 b30 b2 q1 T38.heap n0 (Nat.le_trans Z0 K39.1) q38_0 f42 f45) hZ (ww hw 15 rfl) (ww hw 2 rfl) (by decide) (by decide)) f43 (g := (mkF m 200 #[.val (.long q1), .second, .val (.long q2), .second, si p3, .val (.long b2), .second, si kd, sr b30, sr b35, si (if (lcmpW q1 b2) = (0 : Int32) then (1 : Int32) else (0 : Int32)), si (if b2 = q1 then (1 : Int32) else (0 : Int32))] [(.ref b30), (.ref b35)])) rfl (by rw [hml]; rfl) (argsL := [(.ref b30)]) (rest := []) (lenOf pd_1 rfl) rfl (mr0 rfl) (hb hby at_200) e47 (by decide) (by decide)
  obtain ⟨rfl, N48q, e48⟩ := hQ48
  have N48 := Fr.app N44 N48q
  refine go (S' := T48.setTop (mkF m 205 #[.val (.long q1), .second, .val (.long q2), .second, si p3, .val (.long b2), .second, si kd, sr b30, sr b35, si (if (lcmpW q1 b2) = (0 : Int32) then (1 : Int32) else (0 : Int32)), si (if b2 = q1 then (1 : Int32) else (0 : Int32))] [(.int (if (lcmpW q1 b2) = (0 : Int32) then (1 : Int32) else (0 : Int32))), (.int (if q1 = b2 then (1 : Int32) else (0 : Int32)))])) (fun t k => st48 _ (XS.iload X48.here hx rfl (hb hby at_203) rfl k)) ?_
  have hc49 : (if q1 = b2 then (1 : Int32) else (0 : Int32)) = (if (lcmpW q1 b2) = (0 : Int32) then (1 : Int32) else (0 : Int32)) := own_e2 _ _
  refine go (S' := T48.setTop (mkF m 213 #[.val (.long q1), .second, .val (.long q2), .second, si p3, .val (.long b2), .second, si kd, sr b30, sr b35, si (if (lcmpW q1 b2) = (0 : Int32) then (1 : Int32) else (0 : Int32)), si (if b2 = q1 then (1 : Int32) else (0 : Int32))] [(.int 1)])) (fun t k => XS.icmpNo X48.here hx rfl (hb hby at_205) rfl (teq hc49).2 (XS.iconst X48.here hx rfl (hb hby at_208) (XS.goto X48.here hx rfl (pc0 := 209) (pc' := 213) rfl (hb hby at_209) (by decide) (by decide) k))) ?_
  refine finN X48 hx hk (t := .boolean) hret (by simp) (hb hby at_213) (by decide) (by decide) ?_
  rw [e48]
  exact ⟨rfl, N48, K39⟩
 ·
  refine go (S' := T32.setTop (mkF m 70 #[.val (.long q1), .second, .val (.long q2), .second, si p3, .val (.long b2), .second, si kd, sr b30, .unset, .unset, .unset] [(.int 4), (.int kd)])) (fun t k => XS.icmpYes X32.here hx rfl (pc0 := 36) (pc' := 67) rfl (hb hby at_36) rfl (flt hc34).2.1 (by decide) (by decide) (XS.iload X32.here hx rfl (hb hby at_67) rfl (XS.iconst X32.here hx rfl (hb hby at_69) k))) ?_
  by_cases hc50 : kd = (4 : Int32)
  ·
   refine go (S' := T32.setTop (mkF m 173 #[.val (.long q1), .second, .val (.long q2), .second, si p3, .val (.long b2), .second, si kd, sr b30, sr b30, si 1, .unset] [(.ref b30), (.ref b30)])) (fun t k => XS.icmpNo X32.here hx rfl (hb hby at_70) rfl (teq hc50).2 (XS.aload X32.here hx rfl (hb hby at_73) rfl rfl (XS.astore X32.here hx rfl (hb hby at_75) rfl rfl (l' := #[.val (.long q1), .second, .val (.long q2), .second, si p3, .val (.long b2), .second, si kd, sr b30, sr b30, .unset, .unset]) rfl (XS.iconst X32.here hx rfl (hb hby at_77) (XS.istore X32.here hx rfl (hb hby at_78) rfl (l' := #[.val (.long q1), .second, .val (.long q2), .second, si p3, .val (.long b2), .second, si kd, sr b30, sr b30, si 1, .unset]) rfl (XS.goto X32.here hx rfl (pc0 := 80) (pc' := 169) rfl (hb hby at_80) (by decide) (by decide) (XS.aload X32.here hx rfl (hb hby at_169) rfl rfl (XS.aload X32.here hx rfl (hb hby at_171) rfl rfl k)))))))) ?_
   have f51 : Exa Z T32.heap b30 "com/example/reaction_runtime/reactionruntime/model/IntegerMolecule" := (A30.keep Kq32)
   obtain ⟨v52, T52, L52, X52, hQ52, st52⟩ := callV X32 hx hZ (y := y_2) (z := y_2) hown (ww hw 11 rfl) (ww hw 12 rfl) (notFace_of_selects (args := #[]) (mvT hZ (ww hw 14 rfl))) (ww hw 14 rfl) (ww hw 13 rfl) (by decide) (backOf (W := 0) (rmE l Z a0 hw [] b30 b30 q1 q1 T32.heap n0 (Nat.le_trans Z0 K33.1) q32_0 q32_0 f51) hZ (ww hw 15 rfl) (ww hw 2 rfl) (by decide) (by decide)) f51 (g := (mkF m 173 #[.val (.long q1), .second, .val (.long q2), .second, si p3, .val (.long b2), .second, si kd, sr b30, sr b30, si 1, .unset] [(.ref b30), (.ref b30)])) rfl (by rw [hml]; rfl) (argsL := [(.ref b30)]) (rest := []) (lenOf pd_1 rfl) rfl (mr0 rfl) (hb hby at_173) rfl (by decide) (by decide)
   obtain ⟨rfl, N52q, e52⟩ := hQ52
   have N52 := Fr.app N32 N52q
   refine go (S' := T52.setTop (mkF m 182 #[.val (.long q1), .second, .val (.long q2), .second, si p3, .val (.long b2), .second, si kd, sr b30, sr b30, si 1, si (if q1 = q1 then (1 : Int32) else (0 : Int32))] [(.int 1), (.int (if q1 = q1 then (1 : Int32) else (0 : Int32)))])) (fun t k => st52 _ (XS.istore X52.here hx rfl (hb hby at_176) rfl (l' := #[.val (.long q1), .second, .val (.long q2), .second, si p3, .val (.long b2), .second, si kd, sr b30, sr b30, si 1, si (if q1 = q1 then (1 : Int32) else (0 : Int32))]) rfl (XS.iload X52.here hx rfl (hb hby at_178) rfl (XS.iload X52.here hx rfl (hb hby at_180) rfl k)))) ?_
   have hc53 : (if q1 = q1 then (1 : Int32) else (0 : Int32)) = (1 : Int32) := if_pos rfl
   refine go (S' := T52.setTop (mkF m 215 #[.val (.long q1), .second, .val (.long q2), .second, si p3, .val (.long b2), .second, si kd, sr b30, sr b30, si 1, si (if q1 = q1 then (1 : Int32) else (0 : Int32))] [(.int 1)])) (fun t k => XS.icmpYes X52.here hx rfl (pc0 := 182) (pc' := 187) rfl (hb hby at_182) rfl (teq hc53).1 (by decide) (by decide) (XS.iload X52.here hx rfl (hb hby at_187) rfl (XS.iconst X52.here hx rfl (hb hby at_189) (XS.icmpYes X52.here hx rfl (pc0 := 190) (pc' := 214) rfl (hb hby at_190) rfl (flt hc34).2.1 (by decide) (by decide) (XS.iconst X52.here hx rfl (hb hby at_214) k))))) ?_
   refine finN X52 hx hk (t := .boolean) hret (by simp) (hb hby at_215) (by decide) (by decide) ?_
   rw [e52]
   exact ⟨rfl, N52, K33⟩
  ·
   refine go (S' := T32.setTop (mkF m 86 #[.val (.long q1), .second, .val (.long q2), .second, si p3, .val (.long b2), .second, si kd, sr b30, .unset, .unset, .unset] [(.int 5), (.int kd)])) (fun t k => XS.icmpYes X32.here hx rfl (pc0 := 70) (pc' := 83) rfl (hb hby at_70) rfl (feq hc50).2 (by decide) (by decide) (XS.iload X32.here hx rfl (hb hby at_83) rfl (XS.iconst X32.here hx rfl (hb hby at_85) k))) ?_
   by_cases hc54 : kd = (5 : Int32)
   ·
    refine go (S' := T32.setTop (mkF m 173 #[.val (.long q1), .second, .val (.long q2), .second, si p3, .val (.long b2), .second, si kd, sr b30, .val .null, si 0, .unset] [.null, (.ref b30)])) (fun t k => XS.icmpNo X32.here hx rfl (hb hby at_86) rfl (teq hc54).2 (XS.aconstNull X32.here hx rfl (hb hby at_89) (XS.astore X32.here hx rfl (hb hby at_90) rfl rfl (l' := #[.val (.long q1), .second, .val (.long q2), .second, si p3, .val (.long b2), .second, si kd, sr b30, .val .null, .unset, .unset]) rfl (XS.iconst X32.here hx rfl (hb hby at_92) (XS.istore X32.here hx rfl (hb hby at_93) rfl (l' := #[.val (.long q1), .second, .val (.long q2), .second, si p3, .val (.long b2), .second, si kd, sr b30, .val .null, si 0, .unset]) rfl (XS.goto X32.here hx rfl (pc0 := 95) (pc' := 169) rfl (hb hby at_95) (by decide) (by decide) (XS.aload X32.here hx rfl (hb hby at_169) rfl rfl (XS.aload X32.here hx rfl (hb hby at_171) rfl rfl k)))))))) ?_
    have f56 : Exa Z T32.heap b30 "com/example/reaction_runtime/reactionruntime/model/IntegerMolecule" := (A30.keep Kq32)
    obtain ⟨v55, T55, L55, X55, hQ55, st55⟩ := callV X32 hx hZ (y := y_2) (z := y_2) hown (ww hw 11 rfl) (ww hw 12 rfl) (notFace_of_selects (args := #[]) (mvT hZ (ww hw 14 rfl))) (ww hw 14 rfl) (ww hw 13 rfl) (by decide) (backOf (W := 0) (rmN l Z a0 hw [] b30 T32.heap n0 (Nat.le_trans Z0 K33.1) ) hZ (ww hw 15 rfl) (ww hw 2 rfl) (by decide) (by decide)) f56 (g := (mkF m 173 #[.val (.long q1), .second, .val (.long q2), .second, si p3, .val (.long b2), .second, si kd, sr b30, .val .null, si 0, .unset] [.null, (.ref b30)])) rfl (by rw [hml]; rfl) (argsL := [.null]) (rest := []) (lenOf pd_1 rfl) rfl (mr0 rfl) (hb hby at_173) rfl (by decide) (by decide)
    obtain ⟨rfl, N55q, e55⟩ := hQ55
    have N55 := Fr.app N32 N55q
    refine go (S' := T55.setTop (mkF m 182 #[.val (.long q1), .second, .val (.long q2), .second, si p3, .val (.long b2), .second, si kd, sr b30, .val .null, si 0, si 0] [(.int 0), (.int 0)])) (fun t k => st55 _ (XS.istore X55.here hx rfl (hb hby at_176) rfl (l' := #[.val (.long q1), .second, .val (.long q2), .second, si p3, .val (.long b2), .second, si kd, sr b30, .val .null, si 0, si 0]) rfl (XS.iload X55.here hx rfl (hb hby at_178) rfl (XS.iload X55.here hx rfl (hb hby at_180) rfl k)))) ?_
    have hc57 : (0 : Int32) = (0 : Int32) := by decide
    refine go (S' := T55.setTop (mkF m 215 #[.val (.long q1), .second, .val (.long q2), .second, si p3, .val (.long b2), .second, si kd, sr b30, .val .null, si 0, si 0] [(.int 1)])) (fun t k => XS.icmpYes X55.here hx rfl (pc0 := 182) (pc' := 187) rfl (hb hby at_182) rfl (teq hc57).1 (by decide) (by decide) (XS.iload X55.here hx rfl (hb hby at_187) rfl (XS.iconst X55.here hx rfl (hb hby at_189) (XS.icmpYes X55.here hx rfl (pc0 := 190) (pc' := 214) rfl (hb hby at_190) rfl (flt hc34).2.1 (by decide) (by decide) (XS.iconst X55.here hx rfl (hb hby at_214) k))))) ?_
    refine finN X55 hx hk (t := .boolean) hret (by simp) (hb hby at_215) (by decide) (by decide) ?_
    rw [e55]
    exact ⟨rfl, N55, K33⟩
   ·
    refine go (S' := T32.setTop (mkF m 102 #[.val (.long q1), .second, .val (.long q2), .second, si p3, .val (.long b2), .second, si kd, sr b30, .unset, .unset, .unset] [(.int 6), (.int kd)])) (fun t k => XS.icmpYes X32.here hx rfl (pc0 := 86) (pc' := 98) rfl (hb hby at_86) rfl (feq hc54).2 (by decide) (by decide) (XS.iload X32.here hx rfl (hb hby at_98) rfl (XS.bipush X32.here hx rfl (hb hby at_100) k))) ?_
    by_cases hc58 : kd = (6 : Int32)
    ·
     refine go (S' := T32.setTop (mkF m 106 #[.val (.long q1), .second, .val (.long q2), .second, si p3, .val (.long b2), .second, si kd, sr b30, .unset, .unset, .unset] [(.int 1)])) (fun t k => XS.icmpNo X32.here hx rfl (hb hby at_102) rfl (teq hc58).2 (XS.iconst X32.here hx rfl (hb hby at_105) k)) ?_
     obtain ⟨T59, h59, k59, X59, e59, E59, A59, st59⟩ := newP X32 hx hZ (ww hw 18 rfl) rfl (g := (mkF m 106 #[.val (.long q1), .second, .val (.long q2), .second, si p3, .val (.long b2), .second, si kd, sr b30, .unset, .unset, .unset] [(.int 1)])) rfl (hb hby at_106) rfl (by decide) (cap := 1) (by decide) (by decide) (by decide) (by decide)
     obtain ⟨b59, g59⟩ : ∃ z, z = T32.heap.size := ⟨_, rfl⟩
     rw [← g59] at A59 st59
     have f60 : Exa Z T32.heap b30 "com/example/reaction_runtime/reactionruntime/model/IntegerMolecule" := (A30.keep Kq32)
     have lt_b30_b59 : b30 < b59 := by rw [g59]; exact f60.lt
     have ge_b59 : n0 ≤ b59 := by rw [g59]; exact (Nat.le_trans Z0 K33.1)
     have sz_b59 : h0.size ≤ b59 := by rw [g59]; exact K33.1
     have K61 : Keep h0 h59 [] := K33.ext E59
     have V59 : Arv Z h59 b59 k59 .char (1 : Int32) [(.int 0)] (.int 0) := (Arv.new A59 (by decide)).pad (pad_rep [] (.int 0) 1)
     refine go (S' := T59.setTop (mkF m 121 #[.val (.long q1), .second, .val (.long q2), .second, si p3, .val (.long b2), .second, si kd, sr b30, .unset, .unset, sr b59] [(.int 255), (.int ((p3.toUInt32 >>> ((8 : Int32) &&& 31).toUInt32).toInt32)), (.int 0), (.ref b59)])) (fun t k => st59 _ (XS.astore X59.here hx rfl (hb hby at_108) rfl rfl (l' := #[.val (.long q1), .second, .val (.long q2), .second, si p3, .val (.long b2), .second, si kd, sr b30, .unset, .unset, sr b59]) rfl (XS.aload X59.here hx rfl (hb hby at_110) rfl rfl (XS.iconst X59.here hx rfl (hb hby at_112) (XS.iload X59.here hx rfl (hb hby at_113) rfl (XS.bipush X59.here hx rfl (hb hby at_115) (XS.iushr X59.here hx rfl (hb hby at_117) rfl (XS.sipush X59.here hx rfl (hb hby at_118) k)))))))) ?_
     refine go (S' := T59.setTop (mkF m 123 #[.val (.long q1), .second, .val (.long q2), .second, si p3, .val (.long b2), .second, si kd, sr b30, .unset, .unset, sr b59] [(.int ((((p3.toUInt32 >>> ((8 : Int32) &&& 31).toUInt32).toInt32) &&& (255 : Int32)).toUInt32.toUInt16.toUInt32.toInt32)), (.int 0), (.ref b59)])) (fun t k => XS.iand X59.here hx rfl (hb hby at_121) rfl (XS.i2c X59.here hx rfl (hb hby at_122) rfl k)) ?_
     obtain ⟨T62, h62, X62, e62, W62, V62, st62⟩ := putC X59 hx hZ e59 V59 (j := (0 : Int32)) (x := ((((p3.toUInt32 >>> ((8 : Int32) &&& 31).toUInt32).toInt32) &&& (255 : Int32)).toUInt32.toUInt16.toUInt32.toInt32)) (narc _) ⟨by decide, by decide⟩ (i := 0) rfl (Nat.le_of_ble_eq_true rfl) (g := (mkF m 123 #[.val (.long q1), .second, .val (.long q2), .second, si p3, .val (.long b2), .second, si kd, sr b30, .unset, .unset, sr b59] [(.int ((((p3.toUInt32 >>> ((8 : Int32) &&& 31).toUInt32).toInt32) &&& (255 : Int32)).toUInt32.toUInt16.toUInt32.toInt32)), (.int 0), (.ref b59)])) rfl rfl (hb hby at_123)
     have K63 : Keep h0 h62 [] := K61.wr W62 (Or.inr sz_b59)
     have N64 := Fr.snoc X62 N32 ge_b59
     refine go (S' := T62.setTop (mkF m 124 #[.val (.long q1), .second, .val (.long q2), .second, si p3, .val (.long b2), .second, si kd, sr b30, .unset, .unset, sr b59] [])) st62 ?_
     obtain ⟨T65, h65, X65, e65, E65, A65, D65, -, st65⟩ := newO X62 hx hZ hown (ww hw 19 rfl) (ww hw 20 rfl) (ww hw 21 rfl) e62 (g := (mkF m 124 #[.val (.long q1), .second, .val (.long q2), .second, si p3, .val (.long b2), .second, si kd, sr b30, .unset, .unset, sr b59] [])) rfl (hb hby at_124) (by decide) (by decide)
     obtain ⟨b65, g65⟩ : ∃ z, z = h62.size := ⟨_, rfl⟩
     rw [← g65] at A65 D65 st65
     have f66 : Exa Z h62 b30 "com/example/reaction_runtime/reactionruntime/model/IntegerMolecule" := ((f60.ext E59).wr W62)
     have lt_b30_b65 : b30 < b65 := by rw [g65]; exact f66.lt
     have lt_b59_b65 : b59 < b65 := by rw [g65]; exact V62.lt
     have ge_b65 : n0 ≤ b65 := by rw [g65]; exact (Nat.le_trans Z0 K63.1)
     have sz_b65 : h0.size ≤ b65 := by rw [g65]; exact K63.1
     have K67 : Keep h0 h65 [] := K63.ext E65
     refine go (S' := T65.setTop (mkF m 128 #[.val (.long q1), .second, .val (.long q2), .second, si p3, .val (.long b2), .second, si kd, sr b30, .unset, .unset, sr b59] [(.ref b65), (.ref b65)])) (fun t k => st65 _ (XS.dup X65.here hx rfl (hb hby at_127) rfl rfl k)) ?_
     obtain ⟨T68, h68, X68, e68, E68, A68, D68, -, st68⟩ := newO X65 hx hZ hown (ww hw 22 rfl) (ww hw 23 rfl) (ww hw 24 rfl) e65 (g := (mkF m 128 #[.val (.long q1), .second, .val (.long q2), .second, si p3, .val (.long b2), .second, si kd, sr b30, .unset, .unset, sr b59] [(.ref b65), (.ref b65)])) rfl (hb hby at_128) (by decide) (by decide)
     obtain ⟨b68, g68⟩ : ∃ z, z = h65.size := ⟨_, rfl⟩
     rw [← g68] at A68 D68 st68
     have f69 : Exa Z h65 b30 "com/example/reaction_runtime/reactionruntime/model/IntegerMolecule" := (f66.ext E65)
     have lt_b30_b68 : b30 < b68 := by rw [g68]; exact f69.lt
     have f70 : Arv Z h65 b59 k59 .char (1 : Int32) [(.int ((((p3.toUInt32 >>> ((8 : Int32) &&& 31).toUInt32).toInt32) &&& (255 : Int32)).toUInt32.toUInt16.toUInt32.toInt32))] (.int 0) := (V62.ext E65)
     have lt_b59_b68 : b59 < b68 := by rw [g68]; exact f70.lt
     have lt_b65_b68 : b65 < b68 := by rw [g68]; exact A65.lt
     have ge_b68 : n0 ≤ b68 := by rw [g68]; exact (Nat.le_trans Z0 K67.1)
     have sz_b68 : h0.size ≤ b68 := by rw [g68]; exact K67.1
     have K71 : Keep h0 h68 [] := K67.ext E68
     refine go (S' := T68.setTop (mkF m 134 #[.val (.long q1), .second, .val (.long q2), .second, si p3, .val (.long b2), .second, si kd, sr b30, .unset, .unset, sr b59] [(.ref b59), (.ref b68), (.ref b68), (.ref b65), (.ref b65)])) (fun t k => st68 _ (XS.dup X68.here hx rfl (hb hby at_131) rfl rfl (XS.aload X68.here hx rfl (hb hby at_132) rfl rfl k))) ?_
     have f72 : Arv Z h68 b59 k59 .char (1 : Int32) [(.int ((((p3.toUInt32 >>> ((8 : Int32) &&& 31).toUInt32).toInt32) &&& (255 : Int32)).toUInt32.toUInt16.toUInt32.toInt32))] (.int 0) := (f70.ext E68)
     have hp73 : ∀ c ∈ ([((((p3.toUInt32 >>> ((8 : Int32) &&& 31).toUInt32).toInt32) &&& (255 : Int32)).toUInt32.toUInt16.toUInt32.toInt32)] : List Int32), ¬ c < 0 ∧ ¬ (255 : Int32) < c := (allI (and255_chars _) (fun _ q => nomatch q))
     have O74 : Old Z n0 h68 := O0.keep K71 all0
     have f75 : Exa Z h68 b30 "com/example/reaction_runtime/reactionruntime/model/IntegerMolecule" := (f69.ext E68)
     have f76 : Exa Z h68 b65 "com/example/reaction_runtime/reactionruntime/model/StringMolecule" := (A65.ext E68)
     obtain ⟨v77, T77, L77, X77, hQ77, st77⟩ := callSp X68 hx hZ (y := y_4) rfl hown (ww hw 25 rfl) (ww hw 26 rfl) (ww hw 27 rfl) (by decide) (StrChars.Road.backV (W := 3) hZ (own_sub StrChars_words hw) (kI := 4) (ww hw 23 rfl) (cs := ([((((p3.toUInt32 >>> ((8 : Int32) &&& 31).toUInt32).toInt32) &&& (255 : Int32)).toUInt32.toUInt16.toUInt32.toInt32)] : List Int32)) (bs := ([((((p3.toUInt32 >>> ((8 : Int32) &&& 31).toUInt32).toInt32) &&& (255 : Int32)).toUInt32.toUInt16.toUInt32.toInt32)] : List Int32).map (fun c => c.toInt8.toInt32)) (n := 1) ge_b68 (Nat.le_trans Z0 K71.1) A68 (D68 (Or.inr (ww hw 48 rfl)) (ty := (.array .byte)) (by decide)) (D68 (Or.inr (ww hw 46 rfl)) (ty := .byte) (by decide)) f72 (hp0.ext O74.2) hG1 rfl rfl (by decide) (by decide) hp73 rfl (by decide) (by decide)) (g := (mkF m 134 #[.val (.long q1), .second, .val (.long q2), .second, si p3, .val (.long b2), .second, si kd, sr b30, .unset, .unset, sr b59] [(.ref b59), (.ref b68), (.ref b68), (.ref b65), (.ref b65)])) rfl (by rw [hml]; rfl) (a := b68) (argsL := [(.ref b59)]) (rest := [(.ref b68), (.ref b65), (.ref b65)]) (lenOf pd_2 rfl) rfl (mr0 rfl) (hb hby at_134) e68 (by decide) (by decide)
     obtain ⟨rfl, N77q, Kq77, q77_e, q77_c, t77, kb77, ge_t77, new_t77, ne_t77_b68, q77_v, q77_a⟩ := hQ77
     have N77 := Fr.app N64 N77q
     have K78 : Keep h0 T77.heap [] := K71.trans Kq77 (allS (P := fun x => x ∈ [] ∨ h0.size ≤ x) (Or.inr sz_b68) all0)
     have lt_b30_t77 : b30 < t77 := Nat.lt_of_lt_of_le f75.lt new_t77
     have lt_b59_t77 : b59 < t77 := Nat.lt_of_lt_of_le f72.lt new_t77
     have lt_b65_t77 : b65 < t77 := Nat.lt_of_lt_of_le f76.lt new_t77
     have lt_b68_t77 : b68 < t77 := Nat.lt_of_lt_of_le A68.lt new_t77
     have sz_t77 : h0.size ≤ t77 := Nat.le_trans K71.1 new_t77
     refine go (S' := T77.setTop (mkF m 137 #[.val (.long q1), .second, .val (.long q2), .second, si p3, .val (.long b2), .second, si kd, sr b30, .unset, .unset, sr b59] [(.ref b68), (.ref b65), (.ref b65)])) st77 ?_
     have f79 : Exa Z T77.heap b65 "com/example/reaction_runtime/reactionruntime/model/StringMolecule" := (f76.keep Kq77)
     have f80 : Fld Z T77.heap b65 "com/example/reaction_runtime/reactionruntime/model/StringMolecule" "value" "Ljava/lang/String;" .null := (((D65 (Or.inr (ww hw 54 rfl)) (ty := (.object "java/lang/String")) (by decide)).ext E68).keep Kq77 (ninS (Nat.ne_of_lt lt_b65_b68) nin0))
     obtain ⟨v81, T81, L81, X81, hQ81, st81⟩ := callSp X77 hx hZ (y := y_1) rfl hown (ww hw 49 rfl) (ww hw 50 rfl) (ww hw 51 rfl) (by decide) (backOf (W := 1) (rmS l Z a0 hw [] b65 b68 T77.heap n0 (Nat.le_trans Z0 K78.1) f79 f80 ge_b65) hZ (ww hw 51 rfl) (ww hw 21 rfl) (by decide) (by decide)) (g := (mkF m 137 #[.val (.long q1), .second, .val (.long q2), .second, si p3, .val (.long b2), .second, si kd, sr b30, .unset, .unset, sr b59] [(.ref b68), (.ref b65), (.ref b65)])) rfl (by rw [hml]; rfl) (a := b65) (argsL := [(.ref b68)]) (rest := [(.ref b65)]) (lenOf pd_3 rfl) rfl (mr0 rfl) (hb hby at_137) rfl (by decide) (by decide)
     obtain ⟨rfl, N81q, Kq81⟩ := hQ81
     have N81 := Fr.app N77 N81q
     have K82 : Keep h0 T81.heap [] := K78.trans Kq81 (allS (P := fun x => x ∈ [] ∨ h0.size ≤ x) (Or.inr sz_b65) all0)
     refine go (S' := T81.setTop (mkF m 173 #[.val (.long q1), .second, .val (.long q2), .second, si p3, .val (.long b2), .second, si kd, sr b30, sr b65, si 0, sr b59] [(.ref b65), (.ref b30)])) (fun t k => st81 _ (XS.astore X81.here hx rfl (hb hby at_140) rfl rfl (l' := #[.val (.long q1), .second, .val (.long q2), .second, si p3, .val (.long b2), .second, si kd, sr b30, sr b65, .unset, sr b59]) rfl (XS.iconst X81.here hx rfl (hb hby at_142) (XS.istore X81.here hx rfl (hb hby at_143) rfl (l' := #[.val (.long q1), .second, .val (.long q2), .second, si p3, .val (.long b2), .second, si kd, sr b30, sr b65, si 0, sr b59]) rfl (XS.goto X81.here hx rfl (pc0 := 145) (pc' := 169) rfl (hb hby at_145) (by decide) (by decide) (XS.aload X81.here hx rfl (hb hby at_169) rfl rfl (XS.aload X81.here hx rfl (hb hby at_171) rfl rfl k))))))) ?_
     have f83 : Exa Z T81.heap b65 "com/example/reaction_runtime/reactionruntime/model/StringMolecule" := (f79.keep Kq81)
     have f85 : Exa Z T81.heap b30 "com/example/reaction_runtime/reactionruntime/model/IntegerMolecule" := ((f75.keep Kq77).keep Kq81)
     obtain ⟨v84, T84, L84, X84, hQ84, st84⟩ := callV X81 hx hZ (y := y_2) (z := y_2) hown (ww hw 11 rfl) (ww hw 12 rfl) (notFace_of_selects (args := #[]) (mvT hZ (ww hw 14 rfl))) (ww hw 14 rfl) (ww hw 13 rfl) (by decide) (backOf (W := 0) (rmO l Z a0 hw [] b30 b65 T81.heap n0 (Nat.le_trans Z0 K82.1) f83) hZ (ww hw 15 rfl) (ww hw 2 rfl) (by decide) (by decide)) f85 (g := (mkF m 173 #[.val (.long q1), .second, .val (.long q2), .second, si p3, .val (.long b2), .second, si kd, sr b30, sr b65, si 0, sr b59] [(.ref b65), (.ref b30)])) rfl (by rw [hml]; rfl) (argsL := [(.ref b65)]) (rest := []) (lenOf pd_1 rfl) rfl (mr0 rfl) (hb hby at_173) rfl (by decide) (by decide)
     obtain ⟨rfl, N84q, e84⟩ := hQ84
     have N84 := Fr.app N81 N84q
     refine go (S' := T84.setTop (mkF m 182 #[.val (.long q1), .second, .val (.long q2), .second, si p3, .val (.long b2), .second, si kd, sr b30, sr b65, si 0, si 0] [(.int 0), (.int 0)])) (fun t k => st84 _ (XS.istore X84.here hx rfl (hb hby at_176) rfl (l' := #[.val (.long q1), .second, .val (.long q2), .second, si p3, .val (.long b2), .second, si kd, sr b30, sr b65, si 0, si 0]) rfl (XS.iload X84.here hx rfl (hb hby at_178) rfl (XS.iload X84.here hx rfl (hb hby at_180) rfl k)))) ?_
     have hc86 : (0 : Int32) = (0 : Int32) := by decide
     refine go (S' := T84.setTop (mkF m 215 #[.val (.long q1), .second, .val (.long q2), .second, si p3, .val (.long b2), .second, si kd, sr b30, sr b65, si 0, si 0] [(.int 1)])) (fun t k => XS.icmpYes X84.here hx rfl (pc0 := 182) (pc' := 187) rfl (hb hby at_182) rfl (teq hc86).1 (by decide) (by decide) (XS.iload X84.here hx rfl (hb hby at_187) rfl (XS.iconst X84.here hx rfl (hb hby at_189) (XS.icmpYes X84.here hx rfl (pc0 := 190) (pc' := 214) rfl (hb hby at_190) rfl (flt hc34).2.1 (by decide) (by decide) (XS.iconst X84.here hx rfl (hb hby at_214) k))))) ?_
     refine finN X84 hx hk (t := .boolean) hret (by simp) (hb hby at_215) (by decide) (by decide) ?_
     rw [e84]
     exact ⟨rfl, N84, K82⟩
    ·
     refine go (S' := T32.setTop (mkF m 153 #[.val (.long q1), .second, .val (.long q2), .second, si p3, .val (.long b2), .second, si kd, sr b30, .unset, .unset, .unset] [(.int (p3 &&& (16 : Int32)))])) (fun t k => XS.icmpYes X32.here hx rfl (pc0 := 102) (pc' := 148) rfl (hb hby at_102) rfl (feq hc58).2 (by decide) (by decide) (XS.iload X32.here hx rfl (hb hby at_148) rfl (XS.bipush X32.here hx rfl (hb hby at_150) (XS.iand X32.here hx rfl (hb hby at_152) rfl k)))) ?_
     by_cases hc87 : (p3 &&& (16 : Int32)) = (0 : Int32)
     ·
      refine go (S' := T32.setTop (mkF m 161 #[.val (.long q1), .second, .val (.long q2), .second, si p3, .val (.long b2), .second, si kd, sr b30, .unset, .unset, .unset] [(.int 0)])) (fun t k => XS.ifYes X32.here hx rfl (pc0 := 153) (pc' := 160) rfl (hb hby at_153) rfl ((if0 _ _).trans (teq hc87).1) (by decide) (by decide) (XS.iconst X32.here hx rfl (hb hby at_160) k)) ?_
      have O88 : Old Z n0 T32.heap := O0.keep K33 all0
      obtain ⟨v89, T89, L89, X89, hQ89, st89⟩ := callSt X32 hx hZ (y := y_3) hown (ww hw 57 rfl) (ww hw 58 rfl) (ww hw 59 rfl) (ww hw 60 rfl) (by decide) (backOf (W := 0) (rmF l Z a0 hw [] bf T32.heap n0 (Nat.le_trans Z0 K33.1) hp3 O88) hZ (ww hw 60 rfl) (ww hw 59 rfl) (by decide) (by decide)) (g := (mkF m 161 #[.val (.long q1), .second, .val (.long q2), .second, si p3, .val (.long b2), .second, si kd, sr b30, .unset, .unset, .unset] [(.int 0)])) rfl (by rw [hml]; rfl) (argsL := [(.int 0)]) (rest := []) (lenOf pd_4 rfl) rfl (mr0 rfl) (hb hby at_161) rfl (by decide) (by decide)
      obtain ⟨rfl, N89q, e89⟩ := hQ89
      have N89 := Fr.app N32 N89q
      refine go (S' := T89.setTop (mkF m 173 #[.val (.long q1), .second, .val (.long q2), .second, si p3, .val (.long b2), .second, si kd, sr b30, sr bf, si 0, .unset] [(.ref bf), (.ref b30)])) (fun t k => st89 _ (XS.astore X89.here hx rfl (hb hby at_164) rfl rfl (l' := #[.val (.long q1), .second, .val (.long q2), .second, si p3, .val (.long b2), .second, si kd, sr b30, sr bf, .unset, .unset]) rfl (XS.iconst X89.here hx rfl (hb hby at_166) (XS.istore X89.here hx rfl (hb hby at_167) rfl (l' := #[.val (.long q1), .second, .val (.long q2), .second, si p3, .val (.long b2), .second, si kd, sr b30, sr bf, si 0, .unset]) rfl (XS.aload X89.here hx rfl (hb hby at_169) rfl rfl (XS.aload X89.here hx rfl (hb hby at_171) rfl rfl k)))))) ?_
      have f91 : Exa Z T32.heap b30 "com/example/reaction_runtime/reactionruntime/model/IntegerMolecule" := (A30.keep Kq32)
      obtain ⟨v90, T90, L90, X90, hQ90, st90⟩ := callV X89 hx hZ (y := y_2) (z := y_2) hown (ww hw 11 rfl) (ww hw 12 rfl) (notFace_of_selects (args := #[]) (mvT hZ (ww hw 14 rfl))) (ww hw 14 rfl) (ww hw 13 rfl) (by decide) (backOf (W := 0) (rmB l Z a0 hw [] b30 bf T32.heap n0 (Nat.le_trans Z0 K33.1) (hp5.ext O88.2)) hZ (ww hw 15 rfl) (ww hw 2 rfl) (by decide) (by decide)) f91 (g := (mkF m 173 #[.val (.long q1), .second, .val (.long q2), .second, si p3, .val (.long b2), .second, si kd, sr b30, sr bf, si 0, .unset] [(.ref bf), (.ref b30)])) rfl (by rw [hml]; rfl) (argsL := [(.ref bf)]) (rest := []) (lenOf pd_1 rfl) rfl (mr0 rfl) (hb hby at_173) e89 (by decide) (by decide)
      obtain ⟨rfl, N90q, e90⟩ := hQ90
      have N90 := Fr.app N89 N90q
      refine go (S' := T90.setTop (mkF m 182 #[.val (.long q1), .second, .val (.long q2), .second, si p3, .val (.long b2), .second, si kd, sr b30, sr bf, si 0, si 0] [(.int 0), (.int 0)])) (fun t k => st90 _ (XS.istore X90.here hx rfl (hb hby at_176) rfl (l' := #[.val (.long q1), .second, .val (.long q2), .second, si p3, .val (.long b2), .second, si kd, sr b30, sr bf, si 0, si 0]) rfl (XS.iload X90.here hx rfl (hb hby at_178) rfl (XS.iload X90.here hx rfl (hb hby at_180) rfl k)))) ?_
      have hc92 : (0 : Int32) = (0 : Int32) := by decide
      refine go (S' := T90.setTop (mkF m 215 #[.val (.long q1), .second, .val (.long q2), .second, si p3, .val (.long b2), .second, si kd, sr b30, sr bf, si 0, si 0] [(.int 1)])) (fun t k => XS.icmpYes X90.here hx rfl (pc0 := 182) (pc' := 187) rfl (hb hby at_182) rfl (teq hc92).1 (by decide) (by decide) (XS.iload X90.here hx rfl (hb hby at_187) rfl (XS.iconst X90.here hx rfl (hb hby at_189) (XS.icmpYes X90.here hx rfl (pc0 := 190) (pc' := 214) rfl (hb hby at_190) rfl (flt hc34).2.1 (by decide) (by decide) (XS.iconst X90.here hx rfl (hb hby at_214) k))))) ?_
      refine finN X90 hx hk (t := .boolean) hret (by simp) (hb hby at_215) (by decide) (by decide) ?_
      rw [e90]
      exact ⟨rfl, N90, K33⟩
     ·
      refine go (S' := T32.setTop (mkF m 161 #[.val (.long q1), .second, .val (.long q2), .second, si p3, .val (.long b2), .second, si kd, sr b30, .unset, .unset, .unset] [(.int 1)])) (fun t k => XS.ifNo X32.here hx rfl (hb hby at_153) rfl ((if0 _ _).trans (feq hc87).1) (XS.iconst X32.here hx rfl (hb hby at_156) (XS.goto X32.here hx rfl (pc0 := 157) (pc' := 161) rfl (hb hby at_157) (by decide) (by decide) k))) ?_
      have O93 : Old Z n0 T32.heap := O0.keep K33 all0
      obtain ⟨v94, T94, L94, X94, hQ94, st94⟩ := callSt X32 hx hZ (y := y_3) hown (ww hw 57 rfl) (ww hw 58 rfl) (ww hw 59 rfl) (ww hw 60 rfl) (by decide) (backOf (W := 0) (rmT l Z a0 hw [] bt T32.heap n0 (Nat.le_trans Z0 K33.1) hp2 O93) hZ (ww hw 60 rfl) (ww hw 59 rfl) (by decide) (by decide)) (g := (mkF m 161 #[.val (.long q1), .second, .val (.long q2), .second, si p3, .val (.long b2), .second, si kd, sr b30, .unset, .unset, .unset] [(.int 1)])) rfl (by rw [hml]; rfl) (argsL := [(.int 1)]) (rest := []) (lenOf pd_4 rfl) rfl (mr0 rfl) (hb hby at_161) rfl (by decide) (by decide)
      obtain ⟨rfl, N94q, e94⟩ := hQ94
      have N94 := Fr.app N32 N94q
      refine go (S' := T94.setTop (mkF m 173 #[.val (.long q1), .second, .val (.long q2), .second, si p3, .val (.long b2), .second, si kd, sr b30, sr bt, si 0, .unset] [(.ref bt), (.ref b30)])) (fun t k => st94 _ (XS.astore X94.here hx rfl (hb hby at_164) rfl rfl (l' := #[.val (.long q1), .second, .val (.long q2), .second, si p3, .val (.long b2), .second, si kd, sr b30, sr bt, .unset, .unset]) rfl (XS.iconst X94.here hx rfl (hb hby at_166) (XS.istore X94.here hx rfl (hb hby at_167) rfl (l' := #[.val (.long q1), .second, .val (.long q2), .second, si p3, .val (.long b2), .second, si kd, sr b30, sr bt, si 0, .unset]) rfl (XS.aload X94.here hx rfl (hb hby at_169) rfl rfl (XS.aload X94.here hx rfl (hb hby at_171) rfl rfl k)))))) ?_
      have f96 : Exa Z T32.heap b30 "com/example/reaction_runtime/reactionruntime/model/IntegerMolecule" := (A30.keep Kq32)
      obtain ⟨v95, T95, L95, X95, hQ95, st95⟩ := callV X94 hx hZ (y := y_2) (z := y_2) hown (ww hw 11 rfl) (ww hw 12 rfl) (notFace_of_selects (args := #[]) (mvT hZ (ww hw 14 rfl))) (ww hw 14 rfl) (ww hw 13 rfl) (by decide) (backOf (W := 0) (rmB l Z a0 hw [] b30 bt T32.heap n0 (Nat.le_trans Z0 K33.1) (hp4.ext O93.2)) hZ (ww hw 15 rfl) (ww hw 2 rfl) (by decide) (by decide)) f96 (g := (mkF m 173 #[.val (.long q1), .second, .val (.long q2), .second, si p3, .val (.long b2), .second, si kd, sr b30, sr bt, si 0, .unset] [(.ref bt), (.ref b30)])) rfl (by rw [hml]; rfl) (argsL := [(.ref bt)]) (rest := []) (lenOf pd_1 rfl) rfl (mr0 rfl) (hb hby at_173) e94 (by decide) (by decide)
      obtain ⟨rfl, N95q, e95⟩ := hQ95
      have N95 := Fr.app N94 N95q
      refine go (S' := T95.setTop (mkF m 182 #[.val (.long q1), .second, .val (.long q2), .second, si p3, .val (.long b2), .second, si kd, sr b30, sr bt, si 0, si 0] [(.int 0), (.int 0)])) (fun t k => st95 _ (XS.istore X95.here hx rfl (hb hby at_176) rfl (l' := #[.val (.long q1), .second, .val (.long q2), .second, si p3, .val (.long b2), .second, si kd, sr b30, sr bt, si 0, si 0]) rfl (XS.iload X95.here hx rfl (hb hby at_178) rfl (XS.iload X95.here hx rfl (hb hby at_180) rfl k)))) ?_
      have hc97 : (0 : Int32) = (0 : Int32) := by decide
      refine go (S' := T95.setTop (mkF m 215 #[.val (.long q1), .second, .val (.long q2), .second, si p3, .val (.long b2), .second, si kd, sr b30, sr bt, si 0, si 0] [(.int 1)])) (fun t k => XS.icmpYes X95.here hx rfl (pc0 := 182) (pc' := 187) rfl (hb hby at_182) rfl (teq hc97).1 (by decide) (by decide) (XS.iload X95.here hx rfl (hb hby at_187) rfl (XS.iconst X95.here hx rfl (hb hby at_189) (XS.icmpYes X95.here hx rfl (pc0 := 190) (pc' := 214) rfl (hb hby at_190) rfl (flt hc34).2.1 (by decide) (by decide) (XS.iconst X95.here hx rfl (hb hby at_214) k))))) ?_
      refine finN X95 hx hk (t := .boolean) hret (by simp) (hb hby at_215) (by decide) (by decide) ?_
      rw [e95]
      exact ⟨rfl, N95, K33⟩
set_option maxRecDepth 65536 in
set_option maxHeartbeats 40000000 in
theorem comes_1 {Post : Tables → Env → Array Value → State → Outcome → State → Prop} (hpost : ∀ tb e args s v u, (limb_1_1.after args s (.returned v) u = true ∧ limb_1_2.after args s (.returned v) u = true ∧ True) → FrameEnd s (.returned v) u (Jvm.fieldLocs frame_1_writes args s ++ Jvm.arrayLocs frame_1_arrays args s ++ Jvm.staticLocs frame_1_statics s) 24 128 → Post tb e args s (.returned v) u) :
  ArmFor flags0 classFile x code maxLocals ret World_1 tables_1 room_1 Calls_1 rest_1 Pre_1 Post := by
 intro l hfl _ _ p e ha hc hk s m args below hf hA hF happ hP
 obtain ⟨hcalls, hrest, hpre⟩ := hP
 obtain ⟨-, -, -, hnamed, -, -, -, hat⟩ := (Spec.applies_iff hf).mp happ
 obtain ⟨hg, hn⟩ := and_e (Cond.before_iff.mp (show (Jvm.Cond.and given_1 narrow_1).before args s = true from hpre))
 obtain ⟨hcount, hg0⟩ := and_e hg
 obtain ⟨ha0, hg1⟩ := and_e hg0
 obtain ⟨ha1, hg2⟩ := and_e hg1
 have ha2 := hg2
 obtain ⟨w0, w1, w2, rfl⟩ : ∃ w0 w1 w2 : Value, args = #[w0, w1, w2] := by
  have hs : args.size = 3 := by simpa [Cond.value, given_1] using hcount
  obtain ⟨L⟩ := args
  match L, hs with
  | [w0, w1, w2], _ => exact ⟨w0, w1, w2, rfl⟩
 have hw := fun d (hd : d ∈ tables_1) => atoms_spec (ws := Jvm.Cond.code x code maxLocals ret :: tables_1) hat d (List.mem_cons_of_mem _ hd)
 obtain ⟨hsets, hown0⟩ := atoms_of _ (rest_1_c_eq ▸ (show rest_1_c.before _ s = true from hrest))
 obtain ⟨i0, ei0⟩ := isL_v ha0
 obtain rfl : w0 = (.long i0) := Option.some.inj ei0
 obtain ⟨i1, ei1⟩ := isL_v ha1
 obtain rfl : w1 = (.long i1) := Option.some.inj ei1
 obtain ⟨i2, ei2⟩ := is_v ha2
 obtain rfl : w2 = (.int i2) := Option.some.inj ei2
 obtain ⟨hn_0, hr_0⟩ := and_e hn
 have hn_1 := hr_0
 obtain ⟨g98, eg98⟩ := is_v (Cond.before_iff.mp (hsets _ (List.mem_of_getElem? (i := 1) rfl)))
 have sg98 : Sta s s.heap "java/lang/String" "COMPACT_STRINGS" "Z" (.int g98) := Sta.start eg98 (Or.inl (hsets _ (List.mem_of_getElem? (i := 0) rfl)))
 obtain ⟨g99, eg99⟩ := exa_v hn_1
 have xg99 := Exa.start eg99 hn_1
 have sg99 : Sta s s.heap "com/example/reaction_runtime/reactionruntime/model/BooleanMolecule" "TRUE" "Lcom/example/reaction_runtime/reactionruntime/model/BooleanMolecule;" (.ref g99) := Sta.start eg99 (Or.inr ⟨(ww hw 59 rfl), (ww hw 65 rfl)⟩)
 obtain ⟨g100, eg100⟩ := exa_v hn_0
 have xg100 := Exa.start eg100 hn_0
 have sg100 : Sta s s.heap "com/example/reaction_runtime/reactionruntime/model/BooleanMolecule" "FALSE" "Lcom/example/reaction_runtime/reactionruntime/model/BooleanMolecule;" (.ref g100) := Sta.start eg100 (Or.inr ⟨(ww hw 59 rfl), (ww hw 62 rfl)⟩)
 have c101 : ¬ (g98 = (0 : Int32)) := gotF (Cond.eq_ints eg98 (Term.int_eval (0))) (not_v (Cond.before_iff.mp (hsets _ (List.mem_of_getElem? (i := 2) rfl))))
 obtain ⟨n, o, h1, h2, h3, _, L, rfl, ⟨rfl, N, -⟩, hq⟩ := rmLaw l s _ hw tables_1 i0 i1 i2 g98 g99 g100 s.heap s.heap.size (Nat.le_refl _) sg98 c101 sg99 sg100 xg99 xg100 (Old.start s) p e ha hc hk s m _ below hf ((Spec.applies_iff_loose hf).mp happ).1 ⟨rfl, State.Warmed39.refl s, rfl⟩ trivial
 refine ⟨n, _, h1, h2, h3, hpost _ _ _ _ _ _ ⟨Cond.after_iff.mpr rfl, Cond.after_iff.mpr (eq_i res_at (Term.int_eval (1)) rfl), trivial⟩ ⟨hq.1, hq.2.1, (hq.2.2.sift fun y hy => Or.inr (N y hy)).mono (by decide) (by decide)⟩⟩
theorem main_1_1 : Claimed_1_1 := comes_1 fun _ _ _ _ _ _ h hF => ⟨h.1, hF⟩
theorem main_1_2 : Claimed_1_2 := comes_1 fun _ _ _ _ _ _ h hF => ⟨h.2.1, hF⟩
end Jvm.Pilot.@@N@@
namespace Jvm.Pilot.@@N@@
open Jvm Jvm.ClassFile Sem Op Lib Jvm.Free Jvm.Stand Jvm.Pilot.@@N@@.Jvm.D
/-! MADE BY PROGRAM (witnessworld.py) out of the Statement's table words and the real class files: 23 classes; the members and pool entries that the words name. The judged class is class 1, her method 1. -/
namespace start1
open Jvm.ClassFile
def u (s : String) : CpInfo := .utf8 (stringToUtf16 s)
/-- a pool by its gaps: so many unusable entries, then the entry; so many at the end -/
def gap : Nat → List CpInfo → List CpInfo
  | 0, r => r
  | n + 1, r => .unusable :: gap n r
def poolList (es : List (Nat × CpInfo)) (last : Nat) : List CpInfo := es.foldr (fun e r => gap e.1 (e.2 :: r)) (gap last [])
def pool (es : List (Nat × CpInfo)) (last : Nat) : Array CpInfo := ⟨poolList es last⟩
def fileOf (pool : Array CpInfo) (this : Nat) (attrs : Array Attribute := #[]) (ms : Array MethodInfo := #[]) (fl : Nat := 33) (sup : Nat := 0) (ifs : Array Nat := #[]) (fds : Array FieldInfo := #[]) : ClassFile where
  minorVersion := 0
  majorVersion := 65
  constantPool := pool
  accessFlags := fl
  thisClass := this
  superClass := sup
  interfaces := ifs
  fields := fds
  methods := ms
  attributes := attrs
def plain (name : String) (sup : Option ClassId) : Class where
  name := name
  kind := .ordinary
  loader := none
  accessFlags := 33
  super := sup
  interfaces := #[]
  cf := none
  fields := #[]
  methods := #[]
  instanceTypes := #[]
  staticTypes := #[]
  resolved := #[]
  callSites := []
  init := .initialized
  statics := none
  mirror := none

def pool0 : Array CpInfo := pool [(5, u "<init>"), (0, u "()V"), (1, .class_ 10), (1, u "java/lang/Object")] 113

def k0c0 : Code := { maxStack := 0, maxLocals := 1, code := object_method_1_code, exceptionTable := #[], attributes := #[] }
def k0m0 : Method := { name := "<init>", desc := "()V", sig := { parameters := [], returnType := none }, accessFlags := 1, code := some k0c0 }
/-- java/lang/Object -/
def k0 : Class := { plain "java/lang/Object" none with
  accessFlags := 33
  interfaces := #[]
  cf := some (fileOf pool0 8 #[] #[{ accessFlags := 1, nameIndex := 5, descriptorIndex := 6, attributes := #[] }] 33 0 #[] #[])
  fields := #[]
  methods := #[k0m0]
  instanceTypes := #[]
  staticTypes := #[]
  resolved := Array.replicate 124 none
  statics := none }

def pool1 : Array CpInfo := pool [(2, .class_ 4), (1, u "java/lang/Object"), (0, u "<init>"), (0, u "()V"), (0, .class_ 8), (0, u "com/example/reaction_runtime/reactionruntime/model/IntegerMolecule"), (0, .methodref 7 10), (0, .nameAndType 5 11), (0, u "(J)V"), (0, .class_ 13), (0, u "com/example/reaction_runtime/reactionruntime/model/StringMolecule"), (0, .class_ 15), (0, u "java/lang/String"), (0, .methodref 14 17), (0, .nameAndType 5 18), (0, u "([C)V"), (0, .methodref 12 20), (0, .nameAndType 5 21), (0, u "(Ljava/lang/String;)V"), (0, .methodref 23 24), (0, .class_ 25), (0, .nameAndType 26 27), (0, u "com/example/reaction_runtime/reactionruntime/model/BooleanMolecule"), (0, u "of"), (0, u "(Z)Lcom/example/reaction_runtime/reactionruntime/model/BooleanMolecule;"), (0, .methodref 7 29), (0, .nameAndType 30 31), (0, u "equals"), (0, u "(Ljava/lang/Object;)Z"), (0, .class_ 33), (0, u "com/example/reaction_runtime/reactionruntime/model/IntegerMoleculeEqualsPinLaw"), (2, u "law"), (0, u "(JJI)Z")] 3

def k1m0 : Method := { name := "<init>", desc := "()V", sig := { parameters := [], returnType := none }, accessFlags := 1, code := none }
def k1c1 : Code := { maxStack := 5, maxLocals := 12, code := code, exceptionTable := #[], attributes := #[] }
def k1m1 : Method := { name := "law", desc := "(JJI)Z", sig := { parameters := [.long, .long, .int], returnType := some .boolean }, accessFlags := 9, code := some k1c1 }
/-- com/example/reaction_runtime/reactionruntime/model/IntegerMoleculeEqualsPinLaw -/
def k1 : Class := { plain "com/example/reaction_runtime/reactionruntime/model/IntegerMoleculeEqualsPinLaw" (some 0) with
  accessFlags := 49
  interfaces := #[]
  cf := some (fileOf pool1 32 #[] #[{ accessFlags := 1, nameIndex := 5, descriptorIndex := 6, attributes := #[] }, { accessFlags := 9, nameIndex := 36, descriptorIndex := 37, attributes := #[] }] 49 2 #[] #[])
  fields := #[]
  methods := #[k1m0, k1m1]
  instanceTypes := #[]
  staticTypes := #[]
  resolved := Array.replicate 41 none
  statics := none }

def pool2 : Array CpInfo := pool [(1, .class_ 2), (0, u "com/example/reaction_runtime/reactionruntime/model/Molecule"), (0, .class_ 4), (0, u "java/lang/Object")] 17

/-- com/example/reaction_runtime/reactionruntime/model/Molecule -/
def k2 : Class := { plain "com/example/reaction_runtime/reactionruntime/model/Molecule" (some 0) with
  accessFlags := 1537
  interfaces := #[]
  cf := some (fileOf pool2 1 #[] #[] 1537 3 #[] #[])
  fields := #[]
  methods := #[]
  instanceTypes := #[]
  staticTypes := #[]
  resolved := Array.replicate 22 none
  statics := none }

def pool3 : Array CpInfo := pool [(1, .methodref 2 3), (0, .class_ 4), (0, .nameAndType 5 6), (0, u "java/lang/Object"), (0, u "<init>"), (0, u "()V"), (0, .fieldref 8 9), (0, .class_ 10), (0, .nameAndType 11 12), (0, u "com/example/reaction_runtime/reactionruntime/model/IntegerMolecule"), (0, u "value"), (0, u "J"), (10, .class_ 24), (0, u "com/example/reaction_runtime/reactionruntime/model/Molecule"), (0, u "(J)V"), (4, u "equals"), (0, u "(Ljava/lang/Object;)Z")] 5

def k3c0 : Code := { maxStack := 3, maxLocals := 3, code := prog_74_method_1_code, exceptionTable := #[], attributes := #[] }
def k3m0 : Method := { name := "<init>", desc := "(J)V", sig := { parameters := [.long], returnType := none }, accessFlags := 1, code := some k3c0 }
def k3c1 : Code := { maxStack := 4, maxLocals := 2, code := prog_74_method_3_code, exceptionTable := #[], attributes := #[] }
def k3m1 : Method := { name := "equals", desc := "(Ljava/lang/Object;)Z", sig := { parameters := [(.object "java/lang/Object")], returnType := some .boolean }, accessFlags := 1, code := some k3c1 }
/-- com/example/reaction_runtime/reactionruntime/model/IntegerMolecule -/
def k3 : Class := { plain "com/example/reaction_runtime/reactionruntime/model/IntegerMolecule" (some 0) with
  accessFlags := 49
  interfaces := #[2]
  cf := some (fileOf pool3 8 #[] #[{ accessFlags := 1, nameIndex := 5, descriptorIndex := 25, attributes := #[] }, { accessFlags := 1, nameIndex := 30, descriptorIndex := 31, attributes := #[] }] 49 2 #[23] #[{ accessFlags := 18, nameIndex := 11, descriptorIndex := 12, attributes := #[] }])
  fields := #[{ name := "value", type := .long, accessFlags := 18, slot := 0, constantValue := 0 }]
  methods := #[k3m0, k3m1]
  instanceTypes := #[.long]
  staticTypes := #[]
  resolved := Array.replicate 37 none
  statics := none }

def pool4 : Array CpInfo := pool [(1, .methodref 2 3), (0, .class_ 4), (0, .nameAndType 5 6), (0, u "java/lang/Object"), (0, u "<init>"), (0, u "()V"), (0, .fieldref 8 9), (0, .class_ 10), (0, .nameAndType 11 12), (0, u "com/example/reaction_runtime/reactionruntime/model/StringMolecule"), (0, u "value"), (0, u "Ljava/lang/String;"), (14, .class_ 28), (0, u "com/example/reaction_runtime/reactionruntime/model/Molecule"), (0, u "(Ljava/lang/String;)V")] 23

def k4c0 : Code := { maxStack := 2, maxLocals := 2, code := prog_94_method_1_code, exceptionTable := #[], attributes := #[] }
def k4m0 : Method := { name := "<init>", desc := "(Ljava/lang/String;)V", sig := { parameters := [(.object "java/lang/String")], returnType := none }, accessFlags := 1, code := some k4c0 }
/-- com/example/reaction_runtime/reactionruntime/model/StringMolecule -/
def k4 : Class := { plain "com/example/reaction_runtime/reactionruntime/model/StringMolecule" (some 0) with
  accessFlags := 49
  interfaces := #[2]
  cf := some (fileOf pool4 8 #[] #[{ accessFlags := 1, nameIndex := 5, descriptorIndex := 29, attributes := #[] }] 49 2 #[27] #[{ accessFlags := 18, nameIndex := 11, descriptorIndex := 12, attributes := #[] }])
  fields := #[{ name := "value", type := (.object "java/lang/String"), accessFlags := 18, slot := 0, constantValue := 0 }]
  methods := #[k4m0]
  instanceTypes := #[(.object "java/lang/String")]
  staticTypes := #[]
  resolved := Array.replicate 53 none
  statics := none }

def pool5 : Array CpInfo := pool [(1, .class_ 2), (0, u "java/io/Serializable"), (0, .class_ 4), (0, u "java/lang/Object")] 2

/-- java/io/Serializable -/
def k5 : Class := { plain "java/io/Serializable" (some 0) with
  accessFlags := 1537
  interfaces := #[]
  cf := some (fileOf pool5 1 #[] #[] 1537 3 #[] #[])
  fields := #[]
  methods := #[]
  instanceTypes := #[]
  staticTypes := #[]
  resolved := Array.replicate 7 none
  statics := none }

def pool6 : Array CpInfo := pool [(1, .class_ 2), (0, u "java/lang/Comparable"), (0, .class_ 4), (0, u "java/lang/Object")] 7

/-- java/lang/Comparable -/
def k6 : Class := { plain "java/lang/Comparable" (some 0) with
  accessFlags := 1537
  interfaces := #[]
  cf := some (fileOf pool6 1 #[] #[] 1537 3 #[] #[])
  fields := #[]
  methods := #[]
  instanceTypes := #[]
  staticTypes := #[]
  resolved := Array.replicate 12 none
  statics := none }

def pool7 : Array CpInfo := pool [(2, .class_ 4), (1, u "java/lang/CharSequence"), (42, .class_ 48), (0, u "java/lang/CharSequence$1CodePointIterator"), (10, .class_ 60), (0, u "java/lang/CharSequence$1CharIterator"), (5, .class_ 67), (0, u "java/lang/Object")] 63

/-- java/lang/CharSequence -/
def k7 : Class := { plain "java/lang/CharSequence" (some 0) with
  accessFlags := 1537
  interfaces := #[]
  cf := some (fileOf pool7 2 #[.nestMembers #[47, 59]] #[] 1537 66 #[] #[])
  fields := #[]
  methods := #[]
  instanceTypes := #[]
  staticTypes := #[]
  resolved := Array.replicate 131 none
  statics := none }

def pool8 : Array CpInfo := pool [(1, .class_ 2), (0, u "java/lang/constant/Constable"), (0, .class_ 4), (0, u "java/lang/Object")] 6

/-- java/lang/constant/Constable -/
def k8 : Class := { plain "java/lang/constant/Constable" (some 0) with
  accessFlags := 1537
  interfaces := #[]
  cf := some (fileOf pool8 1 #[] #[] 1537 3 #[] #[])
  fields := #[]
  methods := #[]
  instanceTypes := #[]
  staticTypes := #[]
  resolved := Array.replicate 11 none
  statics := none }

def pool9 : Array CpInfo := pool [(1, .class_ 2), (0, u "java/lang/constant/ConstantDesc"), (0, .class_ 4), (0, u "java/lang/Object")] 32

/-- java/lang/constant/ConstantDesc -/
def k9 : Class := { plain "java/lang/constant/ConstantDesc" (some 0) with
  accessFlags := 1537
  interfaces := #[]
  cf := some (fileOf pool9 1 #[] #[] 1537 3 #[] #[])
  fields := #[]
  methods := #[]
  instanceTypes := #[]
  staticTypes := #[]
  resolved := Array.replicate 37 none
  statics := none }

def pool10 : Array CpInfo := pool [(1, .methodref 2 3), (0, .class_ 4), (0, .nameAndType 5 6), (0, u "java/lang/Object"), (0, u "<init>"), (0, u "()V"), (2, .fieldref 10 11), (0, .class_ 12), (0, .nameAndType 13 14), (0, u "java/lang/String"), (0, u "value"), (0, u "[B"), (0, .fieldref 10 16), (0, .nameAndType 17 18), (0, u "coder"), (0, u "B"), (2, u "hash"), (0, u "I"), (2, u "hashIsZero"), (0, u "Z"), (0, .methodref 10 28), (0, .nameAndType 5 29), (0, u "([CIILjava/lang/Void;)V"), (8, .fieldref 10 39), (0, .nameAndType 40 26), (0, u "COMPACT_STRINGS"), (1, .class_ 44), (1, u "java/lang/StringUTF16"), (0, u "compress"), (1, .methodref 42 48), (0, .nameAndType 49 50), (0, u "coderFromArrayLen"), (0, u "([BI)B"), (126, .methodref 42 178), (0, .nameAndType 45 179), (0, u "([CII)[B"), (395, .class_ 576), (0, u "java/lang/CharSequence"), (22, u "CASE_INSENSITIVE_ORDER"), (0, u "Ljava/util/Comparator;"), (409, u "([C)V"), (90, u "serialPersistentFields"), (0, u "[Ljava/io/ObjectStreamField;"), (0, .class_ 1104), (0, u "java/lang/String$CaseInsensitiveComparator"), (1, .class_ 1107), (0, u "java/io/Serializable"), (0, .class_ 1109), (0, u "java/lang/Comparable"), (0, .class_ 1111), (0, u "java/lang/constant/Constable"), (0, .class_ 1113), (0, u "java/lang/constant/ConstantDesc"), (2, u "serialVersionUID"), (0, u "J"), (3, u "REPL"), (0, u "C"), (2, u "LATIN1"), (1, u "UTF16")] 323

def k10m0 : Method := { name := "<init>", desc := "()V", sig := { parameters := [], returnType := none }, accessFlags := 1, code := none }
def k10c1 : Code := { maxStack := 5, maxLocals := 2, code := jdk_42_method_3_code, exceptionTable := #[], attributes := #[] }
def k10m1 : Method := { name := "<init>", desc := "([C)V", sig := { parameters := [(.array .char)], returnType := none }, accessFlags := 1, code := some k10c1 }
def k10c2 : Code := { maxStack := 4, maxLocals := 6, code := jdk_42_method_149_code, exceptionTable := #[], attributes := #[] }
def k10m2 : Method := { name := "<init>", desc := "([CIILjava/lang/Void;)V", sig := { parameters := [(.array .char), .int, .int, (.object "java/lang/Void")], returnType := none }, accessFlags := 2, code := some k10c2 }
/-- java/lang/String -/
def k10 : Class := { plain "java/lang/String" (some 0) with
  accessFlags := 49
  interfaces := #[5, 6, 7, 8, 9]
  cf := some (fileOf pool10 10 #[.nestMembers #[1103]] #[{ accessFlags := 1, nameIndex := 5, descriptorIndex := 6, attributes := #[] }, { accessFlags := 1, nameIndex := 5, descriptorIndex := 1010, attributes := #[] }, { accessFlags := 2, nameIndex := 5, descriptorIndex := 29, attributes := #[] }] 49 2 #[1106, 1108, 575, 1110, 1112] #[{ accessFlags := 18, nameIndex := 13, descriptorIndex := 14, attributes := #[] }, { accessFlags := 18, nameIndex := 17, descriptorIndex := 18, attributes := #[] }, { accessFlags := 2, nameIndex := 21, descriptorIndex := 22, attributes := #[] }, { accessFlags := 2, nameIndex := 25, descriptorIndex := 26, attributes := #[] }, { accessFlags := 26, nameIndex := 1116, descriptorIndex := 1117, attributes := #[] }, { accessFlags := 24, nameIndex := 40, descriptorIndex := 26, attributes := #[] }, { accessFlags := 26, nameIndex := 1101, descriptorIndex := 1102, attributes := #[] }, { accessFlags := 26, nameIndex := 1121, descriptorIndex := 1122, attributes := #[] }, { accessFlags := 25, nameIndex := 599, descriptorIndex := 600, attributes := #[] }, { accessFlags := 24, nameIndex := 1125, descriptorIndex := 18, attributes := #[] }, { accessFlags := 24, nameIndex := 1127, descriptorIndex := 18, attributes := #[] }])
  fields := #[{ name := "value", type := (.array .byte), accessFlags := 18, slot := 0, constantValue := 0 }, { name := "coder", type := .byte, accessFlags := 18, slot := 1, constantValue := 0 }, { name := "hash", type := .int, accessFlags := 2, slot := 2, constantValue := 0 }, { name := "hashIsZero", type := .boolean, accessFlags := 2, slot := 3, constantValue := 0 }, { name := "serialVersionUID", type := .long, accessFlags := 26, slot := 0, constantValue := 0 }, { name := "COMPACT_STRINGS", type := .boolean, accessFlags := 24, slot := 1, constantValue := 0 }, { name := "serialPersistentFields", type := (.array (.object "java/io/ObjectStreamField")), accessFlags := 26, slot := 2, constantValue := 0 }, { name := "REPL", type := .char, accessFlags := 26, slot := 3, constantValue := 0 }, { name := "CASE_INSENSITIVE_ORDER", type := (.object "java/util/Comparator"), accessFlags := 25, slot := 4, constantValue := 0 }, { name := "LATIN1", type := .byte, accessFlags := 24, slot := 5, constantValue := 0 }, { name := "UTF16", type := .byte, accessFlags := 24, slot := 6, constantValue := 0 }]
  methods := #[k10m0, k10m1, k10m2]
  instanceTypes := #[(.array .byte), .byte, .int, .boolean]
  staticTypes := #[.long, .boolean, (.array (.object "java/io/ObjectStreamField")), .char, (.object "java/util/Comparator"), .byte, .byte]
  resolved := Array.replicate 1451 none
  statics := some 0 }

def pool11 : Array CpInfo := pool [(6, .class_ 8), (1, u "java/lang/Object"), (0, u "<init>"), (0, u "()V"), (1, .class_ 14), (1, u "java/lang/StringUTF16"), (31, u "$assertionsDisabled"), (0, u "Z"), (13, u "HI_BYTE_SHIFT"), (0, u "I"), (2, u "LO_BYTE_SHIFT"), (49, .methodref 12 116), (0, .nameAndType 117 118), (0, u "compress"), (0, u "([CI[BII)I"), (3, u "([CII)[B"), (138, u "coderFromArrayLen"), (0, u "([BI)B"), (106, .class_ 371), (1, u "java/lang/StringUTF16$LinesSpliterator"), (58, u "MAX_LENGTH"), (196, .class_ 628), (0, u "java/lang/StringUTF16$CodePointsSpliterator"), (0, .class_ 630), (0, u "java/lang/StringUTF16$CharsSpliterator")] 4

def k11m0 : Method := { name := "<init>", desc := "()V", sig := { parameters := [], returnType := none }, accessFlags := 0, code := none }
def k11c1 : Code := { maxStack := 2, maxLocals := 2, code := jdk_52_method_15_code, exceptionTable := #[], attributes := #[] }
def k11m1 : Method := { name := "coderFromArrayLen", desc := "([BI)B", sig := { parameters := [(.array .byte), .int], returnType := some .byte }, accessFlags := 8, code := some k11c1 }
def k11c2 : Code := { maxStack := 5, maxLocals := 6, code := jdk_52_method_16_code, exceptionTable := #[], attributes := #[] }
def k11m2 : Method := { name := "compress", desc := "([CII)[B", sig := { parameters := [(.array .char), .int, .int], returnType := some (.array .byte) }, accessFlags := 9, code := some k11c2 }
def k11c3 : Code := { maxStack := 3, maxLocals := 7, code := jdk_52_method_21_code, exceptionTable := #[], attributes := #[] }
def k11m3 : Method := { name := "compress", desc := "([CI[BII)I", sig := { parameters := [(.array .char), .int, (.array .byte), .int, .int], returnType := some .int }, accessFlags := 9, code := some k11c3 }
/-- java/lang/StringUTF16 -/
def k11 : Class := { plain "java/lang/StringUTF16" (some 0) with
  accessFlags := 48
  interfaces := #[]
  cf := some (fileOf pool11 12 #[.nestMembers #[627, 629, 369]] #[{ accessFlags := 0, nameIndex := 9, descriptorIndex := 10, attributes := #[] }, { accessFlags := 8, nameIndex := 261, descriptorIndex := 262, attributes := #[] }, { accessFlags := 9, nameIndex := 117, descriptorIndex := 122, attributes := #[] }, { accessFlags := 9, nameIndex := 117, descriptorIndex := 118, attributes := #[] }] 48 6 #[] #[{ accessFlags := 26, nameIndex := 61, descriptorIndex := 62, attributes := #[] }, { accessFlags := 26, nameIndex := 65, descriptorIndex := 62, attributes := #[] }, { accessFlags := 24, nameIndex := 430, descriptorIndex := 62, attributes := #[] }, { accessFlags := 4120, nameIndex := 46, descriptorIndex := 47, attributes := #[] }])
  fields := #[{ name := "HI_BYTE_SHIFT", type := .int, accessFlags := 26, slot := 0, constantValue := 0 }, { name := "LO_BYTE_SHIFT", type := .int, accessFlags := 26, slot := 1, constantValue := 0 }, { name := "MAX_LENGTH", type := .int, accessFlags := 24, slot := 2, constantValue := 0 }, { name := "$assertionsDisabled", type := .boolean, accessFlags := 4120, slot := 3, constantValue := 0 }]
  methods := #[k11m0, k11m1, k11m2, k11m3]
  instanceTypes := #[]
  staticTypes := #[.int, .int, .int, .boolean]
  resolved := Array.replicate 635 none
  statics := none }

def pool12 : Array CpInfo := pool [(2, .class_ 4), (1, u "java/lang/Object"), (3, .class_ 10), (1, u "com/example/reaction_runtime/reactionruntime/model/BooleanMolecule"), (0, u "value"), (0, u "Z"), (0, .fieldref 8 14), (0, .nameAndType 15 16), (0, u "TRUE"), (0, u "Lcom/example/reaction_runtime/reactionruntime/model/BooleanMolecule;"), (0, .fieldref 8 18), (0, .nameAndType 19 16), (0, u "FALSE"), (9, .class_ 30), (0, u "com/example/reaction_runtime/reactionruntime/model/Molecule"), (2, u "of"), (0, u "(Z)Lcom/example/reaction_runtime/reactionruntime/model/BooleanMolecule;")] 7

def k12c0 : Code := { maxStack := 1, maxLocals := 1, code := prog_66_method_2_code, exceptionTable := #[], attributes := #[] }
def k12m0 : Method := { name := "of", desc := "(Z)Lcom/example/reaction_runtime/reactionruntime/model/BooleanMolecule;", sig := { parameters := [.boolean], returnType := some (.object "com/example/reaction_runtime/reactionruntime/model/BooleanMolecule") }, accessFlags := 9, code := some k12c0 }
/-- com/example/reaction_runtime/reactionruntime/model/BooleanMolecule -/
def k12 : Class := { plain "com/example/reaction_runtime/reactionruntime/model/BooleanMolecule" (some 0) with
  accessFlags := 49
  interfaces := #[2]
  cf := some (fileOf pool12 8 #[] #[{ accessFlags := 9, nameIndex := 33, descriptorIndex := 34, attributes := #[] }] 49 2 #[29] #[{ accessFlags := 25, nameIndex := 15, descriptorIndex := 16, attributes := #[] }, { accessFlags := 25, nameIndex := 19, descriptorIndex := 16, attributes := #[] }, { accessFlags := 18, nameIndex := 11, descriptorIndex := 12, attributes := #[] }])
  fields := #[{ name := "TRUE", type := (.object "com/example/reaction_runtime/reactionruntime/model/BooleanMolecule"), accessFlags := 25, slot := 0, constantValue := 0 }, { name := "FALSE", type := (.object "com/example/reaction_runtime/reactionruntime/model/BooleanMolecule"), accessFlags := 25, slot := 1, constantValue := 0 }, { name := "value", type := .boolean, accessFlags := 18, slot := 0, constantValue := 0 }]
  methods := #[k12m0]
  instanceTypes := #[.boolean]
  staticTypes := #[(.object "com/example/reaction_runtime/reactionruntime/model/BooleanMolecule"), (.object "com/example/reaction_runtime/reactionruntime/model/BooleanMolecule")]
  resolved := Array.replicate 42 none
  statics := some 1 }

def pool13 : Array CpInfo := pool [(4, .class_ 6), (1, u "java/lang/Object"), (0, u "<init>"), (0, u "()V"), (5, .class_ 16), (1, u "java/lang/StringLatin1"), (104, u "$assertionsDisabled"), (0, u "Z"), (98, .class_ 223), (1, u "java/lang/StringLatin1$LinesSpliterator"), (166, .class_ 391), (0, u "java/lang/StringLatin1$CharsSpliterator")] 3

def k13m0 : Method := { name := "<init>", desc := "()V", sig := { parameters := [], returnType := none }, accessFlags := 0, code := none }
/-- java/lang/StringLatin1 -/
def k13 : Class := { plain "java/lang/StringLatin1" (some 0) with
  accessFlags := 48
  interfaces := #[]
  cf := some (fileOf pool13 14 #[.nestMembers #[390, 221]] #[{ accessFlags := 0, nameIndex := 7, descriptorIndex := 8, attributes := #[] }] 48 4 #[] #[{ accessFlags := 4120, nameIndex := 121, descriptorIndex := 122, attributes := #[] }])
  fields := #[{ name := "$assertionsDisabled", type := .boolean, accessFlags := 4120, slot := 0, constantValue := 0 }]
  methods := #[k13m0]
  instanceTypes := #[]
  staticTypes := #[.boolean]
  resolved := Array.replicate 395 none
  statics := none }

def pool14 : Array CpInfo := pool [(2, .class_ 4), (1, u "java/lang/Object"), (0, u "<init>"), (0, u "()V"), (17, .class_ 26), (1, u "jdk/internal/util/Preconditions"), (28, .class_ 56), (0, u "jdk/internal/util/Preconditions$4"), (57, .class_ 115), (0, u "jdk/internal/util/Preconditions$1"), (7, u "SIOOBE_FORMATTER"), (0, u "Ljava/util/function/BiFunction;"), (0, .class_ 126), (0, u "jdk/internal/util/Preconditions$2"), (3, u "AIOOBE_FORMATTER"), (0, .class_ 132), (0, u "jdk/internal/util/Preconditions$3"), (3, u "IOOBE_FORMATTER")] 57

def k14m0 : Method := { name := "<init>", desc := "()V", sig := { parameters := [], returnType := none }, accessFlags := 1, code := none }
/-- jdk/internal/util/Preconditions -/
def k14 : Class := { plain "jdk/internal/util/Preconditions" (some 0) with
  accessFlags := 33
  interfaces := #[]
  cf := some (fileOf pool14 24 #[.nestMembers #[55, 131, 125, 114]] #[{ accessFlags := 1, nameIndex := 5, descriptorIndex := 6, attributes := #[] }] 33 2 #[] #[{ accessFlags := 25, nameIndex := 123, descriptorIndex := 124, attributes := #[] }, { accessFlags := 25, nameIndex := 130, descriptorIndex := 124, attributes := #[] }, { accessFlags := 25, nameIndex := 136, descriptorIndex := 124, attributes := #[] }])
  fields := #[{ name := "SIOOBE_FORMATTER", type := (.object "java/util/function/BiFunction"), accessFlags := 25, slot := 0, constantValue := 0 }, { name := "AIOOBE_FORMATTER", type := (.object "java/util/function/BiFunction"), accessFlags := 25, slot := 1, constantValue := 0 }, { name := "IOOBE_FORMATTER", type := (.object "java/util/function/BiFunction"), accessFlags := 25, slot := 2, constantValue := 0 }]
  methods := #[k14m0]
  instanceTypes := #[]
  staticTypes := #[(.object "java/util/function/BiFunction"), (.object "java/util/function/BiFunction"), (.object "java/util/function/BiFunction")]
  resolved := Array.replicate 194 none
  statics := some 2 }

def pool15 : Array CpInfo := pool [(9, u "<init>"), (6, .class_ 18), (1, u "java/lang/Object"), (0, u "()V"), (1, .class_ 23), (1, u "jdk/internal/util/ArraysSupport"), (0, u "LOG2_ARRAY_LONG_INDEX_SCALE"), (0, u "I"), (2, u "U"), (0, u "Ljdk/internal/misc/Unsafe;"), (8, u "BIG_ENDIAN"), (0, u "Z"), (8, u "LOG2_BYTE_BIT_SIZE"), (4, u "LOG2_ARRAY_INT_INDEX_SCALE"), (54, u "JLA"), (0, u "Ljdk/internal/access/JavaLangAccess;"), (11, u "LOG2_ARRAY_BOOLEAN_INDEX_SCALE"), (9, u "LOG2_ARRAY_BYTE_INDEX_SCALE"), (5, u "LOG2_ARRAY_CHAR_INDEX_SCALE"), (5, u "LOG2_ARRAY_SHORT_INDEX_SCALE"), (18, u "LOG2_ARRAY_FLOAT_INDEX_SCALE"), (24, u "LOG2_ARRAY_DOUBLE_INDEX_SCALE"), (89, u "T_BOOLEAN"), (2, u "T_CHAR"), (1, u "T_FLOAT"), (1, u "T_DOUBLE"), (1, u "T_BYTE"), (1, u "T_SHORT"), (1, u "T_INT"), (1, u "T_LONG"), (1, u "SOFT_MAX_ARRAY_LENGTH")] 83

def k15m0 : Method := { name := "<init>", desc := "()V", sig := { parameters := [], returnType := none }, accessFlags := 2, code := none }
/-- jdk/internal/util/ArraysSupport -/
def k15 : Class := { plain "jdk/internal/util/ArraysSupport" (some 0) with
  accessFlags := 33
  interfaces := #[]
  cf := some (fileOf pool15 21 #[] #[{ accessFlags := 2, nameIndex := 9, descriptorIndex := 19, attributes := #[] }] 33 16 #[] #[{ accessFlags := 24, nameIndex := 28, descriptorIndex := 29, attributes := #[] }, { accessFlags := 26, nameIndex := 38, descriptorIndex := 39, attributes := #[] }, { accessFlags := 25, nameIndex := 121, descriptorIndex := 25, attributes := #[] }, { accessFlags := 25, nameIndex := 131, descriptorIndex := 25, attributes := #[] }, { accessFlags := 25, nameIndex := 137, descriptorIndex := 25, attributes := #[] }, { accessFlags := 25, nameIndex := 143, descriptorIndex := 25, attributes := #[] }, { accessFlags := 25, nameIndex := 53, descriptorIndex := 25, attributes := #[] }, { accessFlags := 25, nameIndex := 24, descriptorIndex := 25, attributes := #[] }, { accessFlags := 25, nameIndex := 162, descriptorIndex := 25, attributes := #[] }, { accessFlags := 25, nameIndex := 187, descriptorIndex := 25, attributes := #[] }, { accessFlags := 26, nameIndex := 48, descriptorIndex := 25, attributes := #[] }, { accessFlags := 25, nameIndex := 277, descriptorIndex := 25, attributes := #[] }, { accessFlags := 25, nameIndex := 280, descriptorIndex := 25, attributes := #[] }, { accessFlags := 25, nameIndex := 282, descriptorIndex := 25, attributes := #[] }, { accessFlags := 25, nameIndex := 284, descriptorIndex := 25, attributes := #[] }, { accessFlags := 25, nameIndex := 286, descriptorIndex := 25, attributes := #[] }, { accessFlags := 25, nameIndex := 288, descriptorIndex := 25, attributes := #[] }, { accessFlags := 25, nameIndex := 290, descriptorIndex := 25, attributes := #[] }, { accessFlags := 25, nameIndex := 292, descriptorIndex := 25, attributes := #[] }, { accessFlags := 26, nameIndex := 108, descriptorIndex := 109, attributes := #[] }, { accessFlags := 25, nameIndex := 294, descriptorIndex := 25, attributes := #[] }])
  fields := #[{ name := "U", type := (.object "jdk/internal/misc/Unsafe"), accessFlags := 24, slot := 0, constantValue := 0 }, { name := "BIG_ENDIAN", type := .boolean, accessFlags := 26, slot := 1, constantValue := 0 }, { name := "LOG2_ARRAY_BOOLEAN_INDEX_SCALE", type := .int, accessFlags := 25, slot := 2, constantValue := 0 }, { name := "LOG2_ARRAY_BYTE_INDEX_SCALE", type := .int, accessFlags := 25, slot := 3, constantValue := 0 }, { name := "LOG2_ARRAY_CHAR_INDEX_SCALE", type := .int, accessFlags := 25, slot := 4, constantValue := 0 }, { name := "LOG2_ARRAY_SHORT_INDEX_SCALE", type := .int, accessFlags := 25, slot := 5, constantValue := 0 }, { name := "LOG2_ARRAY_INT_INDEX_SCALE", type := .int, accessFlags := 25, slot := 6, constantValue := 0 }, { name := "LOG2_ARRAY_LONG_INDEX_SCALE", type := .int, accessFlags := 25, slot := 7, constantValue := 0 }, { name := "LOG2_ARRAY_FLOAT_INDEX_SCALE", type := .int, accessFlags := 25, slot := 8, constantValue := 0 }, { name := "LOG2_ARRAY_DOUBLE_INDEX_SCALE", type := .int, accessFlags := 25, slot := 9, constantValue := 0 }, { name := "LOG2_BYTE_BIT_SIZE", type := .int, accessFlags := 26, slot := 10, constantValue := 0 }, { name := "T_BOOLEAN", type := .int, accessFlags := 25, slot := 11, constantValue := 0 }, { name := "T_CHAR", type := .int, accessFlags := 25, slot := 12, constantValue := 0 }, { name := "T_FLOAT", type := .int, accessFlags := 25, slot := 13, constantValue := 0 }, { name := "T_DOUBLE", type := .int, accessFlags := 25, slot := 14, constantValue := 0 }, { name := "T_BYTE", type := .int, accessFlags := 25, slot := 15, constantValue := 0 }, { name := "T_SHORT", type := .int, accessFlags := 25, slot := 16, constantValue := 0 }, { name := "T_INT", type := .int, accessFlags := 25, slot := 17, constantValue := 0 }, { name := "T_LONG", type := .int, accessFlags := 25, slot := 18, constantValue := 0 }, { name := "JLA", type := (.object "jdk/internal/access/JavaLangAccess"), accessFlags := 26, slot := 19, constantValue := 0 }, { name := "SOFT_MAX_ARRAY_LENGTH", type := .int, accessFlags := 25, slot := 20, constantValue := 0 }]
  methods := #[k15m0]
  instanceTypes := #[]
  staticTypes := #[(.object "jdk/internal/misc/Unsafe"), .boolean, .int, .int, .int, .int, .int, .int, .int, .int, .int, .int, .int, .int, .int, .int, .int, .int, .int, (.object "jdk/internal/access/JavaLangAccess"), .int]
  resolved := Array.replicate 378 none
  statics := none }

def pool16 : Array CpInfo := pool [(1, u "java/lang/Cloneable"), (0, .class_ 1), (0, u "java/lang/Object"), (0, .class_ 3)] 3

/-- java/lang/Cloneable -/
def k16 : Class := { plain "java/lang/Cloneable" (some 0) with
  accessFlags := 1537
  interfaces := #[]
  cf := some (fileOf pool16 2 #[] #[] 1537 4 #[] #[])
  fields := #[]
  methods := #[]
  instanceTypes := #[]
  staticTypes := #[]
  resolved := Array.replicate 8 none
  statics := none }

/-- the primitive byte -/
def k17 : Class := { plain "byte" none with kind := .primitive 'B', accessFlags := 0x411 }
/-- [B -/
def k18 : Class := { plain "[B" (some 0) with kind := .array 17 .byte, interfaces := #[16, 5], accessFlags := 1041 }

/-- the primitive char -/
def k19 : Class := { plain "char" none with kind := .primitive 'C', accessFlags := 0x411 }
/-- [C -/
def k20 : Class := { plain "[C" (some 0) with kind := .array 19 .char, interfaces := #[16, 5], accessFlags := 1041 }

/-- the primitive int -/
def k21 : Class := { plain "int" none with kind := .primitive 'I', accessFlags := 0x411 }
/-- [I -/
def k22 : Class := { plain "[I" (some 0) with kind := .array 21 .int, interfaces := #[16, 5], accessFlags := 1041 }

def heap : Heap := #[{ cls := 10, slots := #[.long 0, .int 1, .null, .int 0, .null, .int 0, .int 0], vm := .statics 10 },
  { cls := 12, slots := #[.ref 3, .ref 4], vm := .statics 12 },
  { cls := 14, slots := #[.null, .null, .null], vm := .statics 14 },
  { cls := 12, slots := #[.int 1], vm := .none },
  { cls := 12, slots := #[.int 0], vm := .none }]
def classes : Array Class := #[k0, k1, k2, k3, k4, k5, k6, k7, k8, k9, k10, k11, k12, k13, k14, k15, k16, k17, k18, k19, k20, k21, k22]
def interned : List (Array UInt16 × Addr) := []
def slotsUsed : Nat := 14
def theMethod : MethodId := ⟨1, 1⟩
def args0 : Array Value := #[.long 5, .long 7, .int 5]
def aboutOver (below : List Frame) : State where
  vm := { classes := classes, interned := interned.toArray }
  heap := heap
  slotsUsed := slotsUsed
  threads := #[{ frames := .invoking theMethod args0 :: below }]
def below0 : List Frame := [.native { method := ⟨0, 0⟩, args := #[] }]
def about1 : State := aboutOver below0
def p0 : Program := .bare "" "" ""
def e0 : Env := launch0.env 0 0 0
theorem w_frames : about1.frames = Frame.invoking theMethod args0 :: below0 := rfl
set_option maxRecDepth 65536 in
theorem w_args : argsFit about1.vm theMethod args0 = true := by decide +kernel
set_option maxRecDepth 65536 in
theorem w_heap : heapFits about1 = true := by decide +kernel
set_option maxRecDepth 65536 in
theorem w_runnable : about1.curStatus? = some .runnable := by decide +kernel
set_option maxRecDepth 65536 in
theorem w_alone : about1.alone = true := by decide +kernel
set_option maxRecDepth 65536 in
theorem w_named : about1.methodNamed? x = some theMethod := by decide +kernel
set_option maxRecDepth 65536 in
theorem w_hears : about1.hears theMethod below0 = true := by decide +kernel
set_option maxRecDepth 65536 in
theorem w_ripe : about1.ripe theMethod args0 below0 = true := by decide +kernel
theorem w_running : about1.status = .running := rfl
set_option maxRecDepth 65536 in
theorem w_room : about1.hasRoom e0.platform room_1 = true :=
  launch0.hasRoom_least _ room_1 (by decide +kernel) (by decide +kernel) (by decide +kernel) (by decide +kernel) (by decide +kernel) (by decide +kernel)
theorem allAtoms_all (ts : List Jvm.Cond) (a : Array Jvm.Value) (st : Jvm.State) : (allAtoms ts).before a st = ts.all (fun c => c.before a st) := by
  induction ts with
  | nil => rfl
  | cons c t ih =>
    show (Jvm.Cond.and c (allAtoms t)).before a st = _
    rw [Jvm.Cond.before_and, ih, List.all_cons]
def words1 : List Jvm.Cond := Jvm.Cond.code x code maxLocals ret :: tables_1
/-- a 'code' word, met by the world's own term for the bytes: nothing is compared byte by byte -/
theorem code_word {y : MethodName} {bytes : ByteArray} {mx : Nat} {rt : Option FieldType} {a : Array Value} {s : State} {m : MethodId} {meth : Method} {c : Code} (h1 : s.methodNamed? y = some m) (h2 : s.vm.method? m = some meth) (h3 : meth.code = some c) (h4 : c.code = bytes)
    (h5 : (c.maxLocals == mx && c.exceptionTable.isEmpty && decide (c.maxStack ≤ mostOperands) && decide (meth.sig.returnType = rt) && !meth.locks && decide (parseMethodDescriptor y.desc = some meth.sig)) = true) : (Jvm.Cond.code y bytes mx rt).before a s = true := by
  simp only [Bool.and_eq_true, beq_iff_eq, Bool.not_eq_true', decide_eq_true_eq] at h5
  obtain ⟨⟨⟨⟨⟨g1, g2⟩, g3⟩, g4⟩, g5⟩, g6⟩ := h5
  simp [Cond.before, Cond.holds, Cond.value, h1, h2, h3, h4, g1, g2, g3, g4, g5, g6]
def isCode : Jvm.Cond → Bool
  | .code _ _ _ _ => true
  | _ => false
theorem all_split {L : List Jvm.Cond} {P : Jvm.Cond → Bool} (h1 : L.all (fun c => isCode c || P c) = true) (h2 : ∀ c ∈ L.filter isCode, P c = true) : L.all P = true := by
  refine List.all_eq_true.mpr fun c hc => ?_
  have h := List.all_eq_true.mp h1 c hc
  rcases Bool.eq_false_or_eq_true (isCode c) with hi | hi
  · exact h2 c (List.mem_filter.mpr ⟨hc, hi⟩)
  · simpa [hi] using h
set_option maxRecDepth 65536 in
theorem w_c0 : (Jvm.Cond.code x code maxLocals ret).before args0 about1 = true := code_word (m := ⟨1, 1⟩) (meth := k1m1) (c := k1c1) (by decide +kernel) rfl rfl rfl (by decide +kernel)
set_option maxRecDepth 65536 in
theorem w_c1 : (Jvm.Cond.code ({ cls := "com/example/reaction_runtime/reactionruntime/model/IntegerMolecule", name := "<init>", desc := "(J)V" } : Jvm.MethodName) prog_74_method_1_code (3 : Nat) (Option.none : Option Jvm.ClassFile.FieldType)).before args0 about1 = true := code_word (m := ⟨3, 0⟩) (meth := k3m0) (c := k3c0) (by decide +kernel) rfl rfl rfl (by decide +kernel)
set_option maxRecDepth 65536 in
theorem w_c2 : (Jvm.Cond.code ({ cls := "java/lang/Object", name := "<init>", desc := "()V" } : Jvm.MethodName) object_method_1_code (1 : Nat) (Option.none : Option Jvm.ClassFile.FieldType)).before args0 about1 = true := code_word (m := ⟨0, 0⟩) (meth := k0m0) (c := k0c0) (by decide +kernel) rfl rfl rfl (by decide +kernel)
set_option maxRecDepth 65536 in
theorem w_c3 : (Jvm.Cond.code ({ cls := "com/example/reaction_runtime/reactionruntime/model/IntegerMolecule", name := "equals", desc := "(Ljava/lang/Object;)Z" } : Jvm.MethodName) prog_74_method_3_code (2 : Nat) (Option.some Jvm.ClassFile.FieldType.boolean)).before args0 about1 = true := code_word (m := ⟨3, 1⟩) (meth := k3m1) (c := k3c1) (by decide +kernel) rfl rfl rfl (by decide +kernel)
set_option maxRecDepth 65536 in
theorem w_c4 : (Jvm.Cond.code ({ cls := "java/lang/String", name := "<init>", desc := "([C)V" } : Jvm.MethodName) jdk_42_method_3_code (2 : Nat) (Option.none : Option Jvm.ClassFile.FieldType)).before args0 about1 = true := code_word (m := ⟨10, 1⟩) (meth := k10m1) (c := k10c1) (by decide +kernel) rfl rfl rfl (by decide +kernel)
set_option maxRecDepth 65536 in
theorem w_c5 : (Jvm.Cond.code ({ cls := "java/lang/String", name := "<init>", desc := "([CIILjava/lang/Void;)V" } : Jvm.MethodName) jdk_42_method_149_code (6 : Nat) (Option.none : Option Jvm.ClassFile.FieldType)).before args0 about1 = true := code_word (m := ⟨10, 2⟩) (meth := k10m2) (c := k10c2) (by decide +kernel) rfl rfl rfl (by decide +kernel)
set_option maxRecDepth 65536 in
theorem w_c6 : (Jvm.Cond.code ({ cls := "java/lang/StringUTF16", name := "compress", desc := "([CII)[B" } : Jvm.MethodName) jdk_52_method_16_code (6 : Nat) (Option.some (Jvm.ClassFile.FieldType.array Jvm.ClassFile.FieldType.byte))).before args0 about1 = true := code_word (m := ⟨11, 2⟩) (meth := k11m2) (c := k11c2) (by decide +kernel) rfl rfl rfl (by decide +kernel)
set_option maxRecDepth 65536 in
theorem w_c7 : (Jvm.Cond.code ({ cls := "java/lang/StringUTF16", name := "compress", desc := "([CI[BII)I" } : Jvm.MethodName) jdk_52_method_21_code (7 : Nat) (Option.some Jvm.ClassFile.FieldType.int)).before args0 about1 = true := code_word (m := ⟨11, 3⟩) (meth := k11m3) (c := k11c3) (by decide +kernel) rfl rfl rfl (by decide +kernel)
set_option maxRecDepth 65536 in
theorem w_c8 : (Jvm.Cond.code ({ cls := "java/lang/StringUTF16", name := "coderFromArrayLen", desc := "([BI)B" } : Jvm.MethodName) jdk_52_method_15_code (2 : Nat) (Option.some Jvm.ClassFile.FieldType.byte)).before args0 about1 = true := code_word (m := ⟨11, 1⟩) (meth := k11m1) (c := k11c1) (by decide +kernel) rfl rfl rfl (by decide +kernel)
set_option maxRecDepth 65536 in
theorem w_c9 : (Jvm.Cond.code ({ cls := "com/example/reaction_runtime/reactionruntime/model/StringMolecule", name := "<init>", desc := "(Ljava/lang/String;)V" } : Jvm.MethodName) prog_94_method_1_code (2 : Nat) (Option.none : Option Jvm.ClassFile.FieldType)).before args0 about1 = true := code_word (m := ⟨4, 0⟩) (meth := k4m0) (c := k4c0) (by decide +kernel) rfl rfl rfl (by decide +kernel)
set_option maxRecDepth 65536 in
theorem w_c10 : (Jvm.Cond.code ({ cls := "com/example/reaction_runtime/reactionruntime/model/BooleanMolecule", name := "of", desc := "(Z)Lcom/example/reaction_runtime/reactionruntime/model/BooleanMolecule;" } : Jvm.MethodName) prog_66_method_2_code (1 : Nat) (Option.some (Jvm.ClassFile.FieldType.object "com/example/reaction_runtime/reactionruntime/model/BooleanMolecule"))).before args0 about1 = true := code_word (m := ⟨12, 0⟩) (meth := k12m0) (c := k12c0) (by decide +kernel) rfl rfl rfl (by decide +kernel)
def codes1 : List Jvm.Cond := [Jvm.Cond.code x code maxLocals ret, Jvm.Cond.code ({ cls := "com/example/reaction_runtime/reactionruntime/model/IntegerMolecule", name := "<init>", desc := "(J)V" } : Jvm.MethodName) prog_74_method_1_code (3 : Nat) (Option.none : Option Jvm.ClassFile.FieldType), Jvm.Cond.code ({ cls := "java/lang/Object", name := "<init>", desc := "()V" } : Jvm.MethodName) object_method_1_code (1 : Nat) (Option.none : Option Jvm.ClassFile.FieldType), Jvm.Cond.code ({ cls := "com/example/reaction_runtime/reactionruntime/model/IntegerMolecule", name := "equals", desc := "(Ljava/lang/Object;)Z" } : Jvm.MethodName) prog_74_method_3_code (2 : Nat) (Option.some Jvm.ClassFile.FieldType.boolean), Jvm.Cond.code ({ cls := "java/lang/String", name := "<init>", desc := "([C)V" } : Jvm.MethodName) jdk_42_method_3_code (2 : Nat) (Option.none : Option Jvm.ClassFile.FieldType), Jvm.Cond.code ({ cls := "java/lang/String", name := "<init>", desc := "([CIILjava/lang/Void;)V" } : Jvm.MethodName) jdk_42_method_149_code (6 : Nat) (Option.none : Option Jvm.ClassFile.FieldType), Jvm.Cond.code ({ cls := "java/lang/StringUTF16", name := "compress", desc := "([CII)[B" } : Jvm.MethodName) jdk_52_method_16_code (6 : Nat) (Option.some (Jvm.ClassFile.FieldType.array Jvm.ClassFile.FieldType.byte)), Jvm.Cond.code ({ cls := "java/lang/StringUTF16", name := "compress", desc := "([CI[BII)I" } : Jvm.MethodName) jdk_52_method_21_code (7 : Nat) (Option.some Jvm.ClassFile.FieldType.int), Jvm.Cond.code ({ cls := "java/lang/StringUTF16", name := "coderFromArrayLen", desc := "([BI)B" } : Jvm.MethodName) jdk_52_method_15_code (2 : Nat) (Option.some Jvm.ClassFile.FieldType.byte), Jvm.Cond.code ({ cls := "com/example/reaction_runtime/reactionruntime/model/StringMolecule", name := "<init>", desc := "(Ljava/lang/String;)V" } : Jvm.MethodName) prog_94_method_1_code (2 : Nat) (Option.none : Option Jvm.ClassFile.FieldType), Jvm.Cond.code ({ cls := "com/example/reaction_runtime/reactionruntime/model/BooleanMolecule", name := "of", desc := "(Z)Lcom/example/reaction_runtime/reactionruntime/model/BooleanMolecule;" } : Jvm.MethodName) prog_66_method_2_code (1 : Nat) (Option.some (Jvm.ClassFile.FieldType.object "com/example/reaction_runtime/reactionruntime/model/BooleanMolecule"))]
set_option maxRecDepth 65536 in
theorem codes_eq : words1.filter isCode = codes1 := rfl
theorem w_codes : ∀ c ∈ words1.filter isCode, c.before args0 about1 = true := by
  rw [codes_eq]
  intro c hc
  simp only [codes1, List.mem_cons, List.not_mem_nil, or_false] at hc
  rcases hc with rfl | rfl | rfl | rfl | rfl | rfl | rfl | rfl | rfl | rfl | rfl
  · exact w_c0
  · exact w_c1
  · exact w_c2
  · exact w_c3
  · exact w_c4
  · exact w_c5
  · exact w_c6
  · exact w_c7
  · exact w_c8
  · exact w_c9
  · exact w_c10
set_option maxRecDepth 65536 in
theorem w_t1 : (words1.take 24).all (fun c => isCode c || c.before args0 about1) = true := by decide +kernel
set_option maxRecDepth 65536 in
theorem w_t2 : ((words1.drop 24).take 24).all (fun c => isCode c || c.before args0 about1) = true := by decide +kernel
set_option maxRecDepth 65536 in
theorem w_t3 : ((words1.drop 24).drop 24).all (fun c => isCode c || c.before args0 about1) = true := by decide +kernel
theorem w_tables : (allAtoms (Jvm.Cond.code x code maxLocals ret :: tables_1)).before args0 about1 = true := by
  rw [allAtoms_all]
  show words1.all (fun c => c.before args0 about1) = true
  refine all_split ?_ w_codes
  rw [← List.take_append_drop 24 words1, List.all_append, w_t1, ← List.take_append_drop 24 (words1.drop 24), List.all_append, w_t2, w_t3]
  rfl
set_option maxRecDepth 65536 in
theorem w_rest : rest_1_c.before args0 about1 = true := by decide +kernel
set_option maxRecDepth 65536 in
theorem w_case : (Jvm.Cond.and given_1 narrow_1).before args0 about1 = true := by decide +kernel
theorem w_applies : (headSpec (Jvm.Cond.code x code maxLocals ret :: tables_1) room_1).applies x e0.platform about1 = true :=
  (Spec.applies_iff w_frames).mpr ⟨w_running, w_runnable, w_alone, w_named, w_hears, w_ripe, w_room, w_tables⟩
theorem atStart : AtStart classFile x code maxLocals ret World_1 tables_1 room_1 Calls_1 rest_1 Pre_1 launch0 p0 e0 about1 theMethod args0 below0 :=
  ⟨lists_1, trivial, launch0.admits_env _ _ _, launch0.least_env, fairChoices_fair.cas, fairChoices_fair.clock, w_frames, w_args, w_heap, w_applies, trivial, w_rest, w_case⟩
end start1
theorem witness_1 : WitnessClaimed_1 := ⟨start1.p0, start1.e0, start1.about1, start1.theMethod, start1.args0, start1.below0, start1.atStart⟩
end Jvm.Pilot.@@N@@
