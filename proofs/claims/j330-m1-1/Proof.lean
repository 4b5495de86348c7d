import JvmDerived
import JvmDerived.Pilot.@@N@@Statement
import JvmDerived.Pilot.@@N@@Code
set_option linter.unusedVariables false
set_option linter.unusedSimpArgs false
namespace Jvm.RoadKit
open Sem ClassFile Op Lib Jvm.Stand Jvm.Free Jvm.LawKit
section New
variable {p : Program} {l : Launch} {e : Env} {R : Room} {s : State} {m : MethodId} {args : Array Value} {below : List Frame} {meth : Method} {c : Code} {T : State} {locs : List Loc} {cells slots : Nat}
theorem retI (X : Stand p l e R s m args below meth c T locs cells slots) (hx : p.tables.exec = Jvm.exec) {pc : Nat} {Ls : Array Slot} {z : Int32} {rest : List Value} (hret : meth.sig.returnType = some .int) (hd : decode c.code pc = .ok (.ireturn, 1)) {fs : List Frame}
    (hl : ∀ (f : JFrame) (acts : List Action), f.method = m → f.locked = none → f.entered = [] → (doReturn e (T.setTop f) acts (some (.int z))).1 = T.setFrames fs) : Steps p.tables e below (T.setTop (mkF m pc Ls (.int z :: rest))) (T.setFrames fs) := by
  have hm' : T.vm.method? m = some meth := X.method'
  have hn : narrow .int (.int z) = .int z := rfl
  show Steps p.tables e below (T.setTop { method := m, pc := pc, locals := Ls, stack := _ :: rest, locked := none }) _
  jvm_step X.here [X.here.top, hx, hd, hm', hret, hn]
  first | (intro acts; rw [hl _ acts rfl rfl rfl]) | rw [hl _ _ rfl rfl rfl]
  exact Steps.refl _
end New
end Jvm.RoadKit
/- laws to paste: Road.backV, Road.lenW, Road.chN, Road.empW (cut by pick.py; bodies as the Statement names them) -/
namespace Jvm.Pilot.@@N@@
namespace StrChars
open Jvm Sem ClassFile Op Lib Jvm.Stand Jvm.Free.XT Jvm.Free.ALB Jvm.Free.JM Jvm.Free
open Jvm.Lib.Cold (StaticIs)
/-- a char array whose places are chars -/
def Ch (a : Addr) (A : Cell) (U : State) : Prop := Arr .char a A U ∧ Typed .char A
theorem Ch.mv {a : Addr} {A : Cell} {U U' : State} (h : Ch a A U) (hal : U.vm.Alike U'.vm) (hh : U'.heap = U.heap) : Ch a A U' := ⟨h.1.mv hal hh, h.2⟩
theorem Ch.keep {a : Addr} {A : Cell} {U U' : State} (h : Ch a A U) (hal : U.vm.Alike U'.vm) (hk : U'.heap[a]? = some A) : Ch a A U' := ⟨h.1.keep hal hk, h.2⟩
/-- what place i of a char[]'s cell holds -/
def cv (A : Cell) (i : Nat) : Int32 := match A.slots[i]? with | some (.int x) => x | _ => 0
theorem Ch.get {a : Addr} {A : Cell} {U : State} (h : Ch a A U) {i : Nat} (hi : i < A.slots.size) : A.slots[i]? = some (.int (cv A i)) := by
  have e := Array.getElem?_eq_getElem hi
  have f := h.2 i _ e
  unfold cv; rw [e]
  generalize A.slots[i] = v at f
  cases v <;> simp [fits] at f ⊢
/-- the byte that i2b leaves of a char -/
def lo8 (x : Int32) : Int32 := x.toInt8.toInt32
theorem fits_lo8 (y : Int32) : fits .byte (.int (lo8 y)) = true := by
  have h1 := y.toInt8.le_toInt
  have h2 := y.toInt8.toInt_lt
  simp only [lo8, fits, Bool.and_eq_true, decide_eq_true_eq, Int32.le_iff_toInt_le, Int8.toInt_toInt32, show (-128 : Int32).toInt = -128 from by decide, show (127 : Int32).toInt = 127 from by decide]
  omega
/-- A' is A but that each place j of lo .. hi - 1 holds f j -/
def Laid (A A' : Cell) (lo hi : Nat) (f : Nat → Value) : Prop := A'.cls = A.cls ∧ A'.vm = A.vm ∧ A'.slots.size = A.slots.size ∧ ∀ i, A'.slots[i]? = if lo ≤ i ∧ i < hi then some (f i) else A.slots[i]?
theorem Laid.zero (A : Cell) (lo : Nat) (f : Nat → Value) : Laid A A lo (lo + 0) f := ⟨rfl, rfl, rfl, fun i => by rw [if_neg (by omega)]⟩
theorem Laid.step {A Ak : Cell} {lo k : Nat} {f : Nat → Value} {v : Value} (h : Laid A Ak lo k f) (hlo : lo ≤ k) (hk : k < Ak.slots.size) (hv : v = f k) : Laid A (Ak.setSlot k v) lo (k + 1) f := by
  refine ⟨h.1, h.2.1, by simpa [Cell.setSlot] using h.2.2.1, fun i => ?_⟩
  by_cases e : k = i
  · subst e; rw [Cell.slots_setSlot_self v hk, if_pos (by omega), hv]
  · rw [Cell.slots_setSlot_ne v e, h.2.2.2 i]
    by_cases q : lo ≤ i ∧ i < k
    · rw [if_pos q, if_pos (by omega)]
    · rw [if_neg q, if_neg (by omega)]
def U16 : String := "java/lang/StringUTF16"
namespace Cmp5
def yN : MethodName := ⟨"java/lang/StringUTF16", "compress", "([CI[BII)I"⟩
abbrev yB : ByteArray := jdk_52_method_21_code
theorem d0 : decode yB 0 = .ok (.iconst 0, 1) := by decide +kernel
theorem d1 : decode yB 1 = .ok (.istore 5, 2) := by decide +kernel
theorem d3 : decode yB 3 = .ok (.iload 5, 2) := by decide +kernel
theorem d5 : decode yB 5 = .ok (.iload 4, 2) := by decide +kernel
theorem d7 : decode yB 7 = .ok (.if_icmp (.ge) 37, 3) := by decide +kernel
theorem d10 : decode yB 10 = .ok (.aload_n 0, 1) := by decide +kernel
theorem d11 : decode yB 11 = .ok (.iload_n 1, 1) := by decide +kernel
theorem d12 : decode yB 12 = .ok (.caload, 1) := by decide +kernel
theorem d13 : decode yB 13 = .ok (.istore 6, 2) := by decide +kernel
theorem d15 : decode yB 15 = .ok (.iload 6, 2) := by decide +kernel
theorem d17 : decode yB 17 = .ok (.sipush 255, 3) := by decide +kernel
theorem d20 : decode yB 20 = .ok (.if_icmp (.le) 6, 3) := by decide +kernel
theorem d26 : decode yB 26 = .ok (.aload_n 2, 1) := by decide +kernel
theorem d27 : decode yB 27 = .ok (.iload_n 3, 1) := by decide +kernel
theorem d28 : decode yB 28 = .ok (.iload 6, 2) := by decide +kernel
theorem d30 : decode yB 30 = .ok (.i2b, 1) := by decide +kernel
theorem d31 : decode yB 31 = .ok (.bastore, 1) := by decide +kernel
theorem d32 : decode yB 32 = .ok (.iinc 1 1, 3) := by decide +kernel
theorem d35 : decode yB 35 = .ok (.iinc 3 1, 3) := by decide +kernel
theorem d38 : decode yB 38 = .ok (.iinc 5 1, 3) := by decide +kernel
theorem d41 : decode yB 41 = .ok (.goto (-38), 3) := by decide +kernel
theorem d44 : decode yB 44 = .ok (.iload 4, 2) := by decide +kernel
theorem d46 : decode yB 46 = .ok (.ireturn, 1) := by decide +kernel
def site : List Cond := []
def tab : Cond := tabOf yN yB 7 (some .int) site
def P (b : Addr) (A : Cell) (d : Addr) (B : Cell) (o q len : Nat) (args : Array Value) (s : State) : Prop := args = #[.ref b, .int (Int32.ofNat o), .ref d, .int (Int32.ofNat q), .int (Int32.ofNat len)] ∧ Ch b A s ∧ Arr .byte d B s ∧ b ≠ d ∧ o + len ≤ A.slots.size ∧ q + len ≤ B.slots.size ∧ ∀ i, i < len → ¬ 255 < cv A (o + i)
def E (b : Addr) (A : Cell) (d : Addr) (B : Cell) (o q len : Nat) (r : Option Value) (s u : State) : Prop := r = some (.int (Int32.ofNat len)) ∧ ∃ B', Put d B' s u ∧ Laid B B' q (q + len) (fun j => Value.int (lo8 (cv A (o + (j - q)))))
/-- no char of the range above 255: len; the places written hold each char's low byte -/
theorem law (l : Launch) (b : Addr) (A : Cell) (d : Addr) (B : Cell) (o q len : Nat) : Law l yN 5 5 0 0 yB 7 (some .int) site (P b A d B o q len) (E b A d B o q len) (copyLocs d q len) 0 0 := by
  refine Law.of_walk (plainFor_of_name (by decide +kernel)) (by decide +kernel) (by decide +kernel) (by decide) (fun _ _ h => by rw [h.1]; rfl) (fun _ U U' hal hh h => ⟨h.1, h.2.1.mv hal hh, h.2.2.1.mv hal hh, h.2.2.2⟩) (fun r U U' V V' h1 hal h2 h => ⟨h.1, h.2.elim fun B' q => ⟨B', q.1.mv h1 h2, q.2⟩⟩) ?_
  intro p e s m args below meth c s₁ X0 hexec hbytes hml hret hlk hnm hown hh0 W hP
  obtain ⟨rfl, hA, hB, hne, l1, l2, hp⟩ := hP
  have c1 : Steps p.tables e below (s₁.setTop (entryFrame m #[.ref b, .int (Int32.ofNat o), .ref d, .int (Int32.ofNat q), .int (Int32.ofNat len)] 7)) (s₁.setTop (mkF m 0 #[.val (.ref b), .val (.int (Int32.ofNat o)), .val (.ref d), .val (.int (Int32.ofNat q)), .val (.int (Int32.ofNat len)), .unset, .unset] [])) := entry rfl
  have hA0 := hA.1.mv X0.warmed.alike hh0
  have hB0 := hB.mv X0.warmed.alike hh0
  have a31 := hA.1.2.2.2
  have c2 : Steps p.tables e below (s₁.setTop (entryFrame m #[.ref b, .int (Int32.ofNat o), .ref d, .int (Int32.ofNat q), .int (Int32.ofNat len)] 7)) (s₁.setTop (mkF m 3 #[.val (.ref b), .val (.int (Int32.ofNat o)), .val (.ref d), .val (.int (Int32.ofNat q)), .val (.int (Int32.ofNat len)), .val (.int 0), .unset] [])) := c1.trans (by
    refine iconstV X0.here hexec rfl 0 (hb hbytes d0) (by decide) ?_
    refine XS.istore X0.here hexec rfl (hb hbytes d1) rfl rfl ?_
    exact Steps.refl _)
  have loop : ∀ (r i : Nat), i + r = len → ∀ (z : Slot), (z = .unset ∨ ∃ w, z = .val w ∧ w.category = 1) → ∀ (Tl : State) (Bk : Cell), Stand p l e { frames := 0, locals := 0, cells := 0, slots := 0 } s m #[.ref b, .int (Int32.ofNat o), .ref d, .int (Int32.ofNat q), .int (Int32.ofNat len)] below meth c Tl ([] ++ copyLocs d q i) 0 0 → Put d Bk s₁ Tl → Laid B Bk q (q + i) (fun j => Value.int (lo8 (cv A (o + (j - q))))) →
      Steps p.tables e below (s₁.setTop (entryFrame m #[.ref b, .int (Int32.ofNat o), .ref d, .int (Int32.ofNat q), .int (Int32.ofNat len)] 7)) (Tl.setTop (mkF m 3 #[.val (.ref b), .val (.int (Int32.ofNat (o + i))), .val (.ref d), .val (.int (Int32.ofNat (q + i))), .val (.int (Int32.ofNat len)), .val (.int (Int32.ofNat i)), z] [])) → ∃ (T' : State) (B' : Cell) (z' : Slot), Stand p l e { frames := 0, locals := 0, cells := 0, slots := 0 } s m #[.ref b, .int (Int32.ofNat o), .ref d, .int (Int32.ofNat q), .int (Int32.ofNat len)] below meth c T' ([] ++ copyLocs d q len) 0 0 ∧ Put d B' s₁ T' ∧ Laid B B' q (q + len) (fun j => Value.int (lo8 (cv A (o + (j - q))))) ∧
      Steps p.tables e below (s₁.setTop (entryFrame m #[.ref b, .int (Int32.ofNat o), .ref d, .int (Int32.ofNat q), .int (Int32.ofNat len)] 7)) (T'.setTop (mkF m 3 #[.val (.ref b), .val (.int (Int32.ofNat (o + len))), .val (.ref d), .val (.int (Int32.ofNat (q + len))), .val (.int (Int32.ofNat len)), .val (.int (Int32.ofNat len)), z'] [])) := by
    intro r
    induction r with
    | zero =>
      intro i hi z hz Tl Bk Xl pl fl cl
      have hil : i = len := by omega
      rw [hil] at Xl fl cl
      exact ⟨Tl, Bk, z, Xl, pl, fl, cl⟩
    | succ r ih =>
      intro i hi z hz Tl Bk Xl pl fl cl
      have all := X0.warmed.alike.symm.trans Xl.warmed.alike
      have hAl := hA0.keep all (pl.other hne hA0.1)
      have hBk := hB0.like all pl.1 fl.1 fl.2.1 fl.2.2.1
      have hlt : q + i < Bk.slots.size := by rw [fl.2.2.1]; omega
      have c3 : Steps p.tables e below (s₁.setTop (entryFrame m #[.ref b, .int (Int32.ofNat o), .ref d, .int (Int32.ofNat q), .int (Int32.ofNat len)] 7)) (Tl.setTop (mkF m 12 #[.val (.ref b), .val (.int (Int32.ofNat (o + i))), .val (.ref d), .val (.int (Int32.ofNat (q + i))), .val (.int (Int32.ofNat len)), .val (.int (Int32.ofNat i)), z] [.int (Int32.ofNat (o + i)), .ref b])) := cl.trans (by
        refine XS.iload Xl.here hexec rfl (hb hbytes d3) rfl ?_
        refine XS.iload Xl.here hexec rfl (hb hbytes d5) rfl ?_
        refine XS.icmpNo Xl.here hexec rfl (hb hbytes d7) rfl (ii_ge_f (lt32 (by omega) (by omega))) ?_
        refine XS.aloadN Xl.here hexec rfl (hb hbytes d10) rfl rfl ?_
        refine XS.iloadN Xl.here hexec rfl (hb hbytes d11) rfl ?_
        exact Steps.refl _)
      have c4 : Steps p.tables e below (s₁.setTop (entryFrame m #[.ref b, .int (Int32.ofNat o), .ref d, .int (Int32.ofNat q), .int (Int32.ofNat len)] 7)) (Tl.setTop (mkF m 13 #[.val (.ref b), .val (.int (Int32.ofNat (o + i))), .val (.ref d), .val (.int (Int32.ofNat (q + i))), .val (.int (Int32.ofNat len)), .val (.int (Int32.ofNat i)), z] [.int (cv A (o + i))])) := c3.trans (by
        refine Xl.aget hexec hAl rfl (hA.get (i := o + i) (by omega)) rfl rfl (hb hbytes d12) ?_
        exact Steps.refl _)
      have c5 : Steps p.tables e below (s₁.setTop (entryFrame m #[.ref b, .int (Int32.ofNat o), .ref d, .int (Int32.ofNat q), .int (Int32.ofNat len)] 7)) (Tl.setTop (mkF m 15 #[.val (.ref b), .val (.int (Int32.ofNat (o + i))), .val (.ref d), .val (.int (Int32.ofNat (q + i))), .val (.int (Int32.ofNat len)), .val (.int (Int32.ofNat i)), .val (.int (cv A (o + i)))] [])) := c4.trans (by
        refine XS.istoreS Xl.here hexec rfl (hb hbytes d13) rfl rfl hz ?_
        exact Steps.refl _)
      have c6 : Steps p.tables e below (s₁.setTop (entryFrame m #[.ref b, .int (Int32.ofNat o), .ref d, .int (Int32.ofNat q), .int (Int32.ofNat len)] 7)) (Tl.setTop (mkF m 31 #[.val (.ref b), .val (.int (Int32.ofNat (o + i))), .val (.ref d), .val (.int (Int32.ofNat (q + i))), .val (.int (Int32.ofNat len)), .val (.int (Int32.ofNat i)), .val (.int (cv A (o + i)))] [.int (lo8 (cv A (o + i))), .int (Int32.ofNat (q + i)), .ref d])) := c5.trans (by
        refine XS.iload Xl.here hexec rfl (hb hbytes d15) rfl ?_
        refine sipushV Xl.here hexec rfl 255 (hb hbytes d17) (by decide) ?_
        refine XS.icmpYes Xl.here hexec rfl (pc0 := 20) rfl (hb hbytes d20) rfl (ii_le_t (hp i (by omega))) (by decide) rfl ?_
        refine XS.aloadN Xl.here hexec rfl (hb hbytes d26) rfl rfl ?_
        refine XS.iloadN Xl.here hexec rfl (hb hbytes d27) rfl ?_
        refine XS.iload Xl.here hexec rfl (hb hbytes d28) rfl ?_
        refine i2b Xl.here hexec rfl (hb hbytes d30) rfl ?_
        exact Steps.refl _)
      obtain ⟨T7, X7, p7, st7⟩ := Xl.aput hexec hBk rfl hlt rfl (fits_lo8 (cv A (o + i))) (g := (mkF m 31 #[.val (.ref b), .val (.int (Int32.ofNat (o + i))), .val (.ref d), .val (.int (Int32.ofNat (q + i))), .val (.int (Int32.ofNat len)), .val (.int (Int32.ofNat i)), .val (.int (cv A (o + i)))] [.int (lo8 (cv A (o + i))), .int (Int32.ofNat (q + i)), .ref d])) rfl (rest := []) rfl (hb hbytes d31)
      have c8 : Steps p.tables e below (s₁.setTop (entryFrame m #[.ref b, .int (Int32.ofNat o), .ref d, .int (Int32.ofNat q), .int (Int32.ofNat len)] 7)) (T7.setTop (mkF m 32 #[.val (.ref b), .val (.int (Int32.ofNat (o + i))), .val (.ref d), .val (.int (Int32.ofNat (q + i))), .val (.int (Int32.ofNat len)), .val (.int (Int32.ofNat i)), .val (.int (cv A (o + i)))] [])) := c6.trans (st7 _ (Steps.refl _))
      have c9 : Steps p.tables e below (s₁.setTop (entryFrame m #[.ref b, .int (Int32.ofNat o), .ref d, .int (Int32.ofNat q), .int (Int32.ofNat len)] 7)) (T7.setTop (mkF m 3 #[.val (.ref b), .val (.int (Int32.ofNat (o + i) + 1)), .val (.ref d), .val (.int (Int32.ofNat (q + i) + 1)), .val (.int (Int32.ofNat len)), .val (.int (Int32.ofNat i + 1)), .val (.int (cv A (o + i)))] [])) := c8.trans (by
        refine iincV X7.here hexec rfl 1 (hb hbytes d32) (by decide) rfl rfl ?_
        refine iincV X7.here hexec rfl 1 (hb hbytes d35) (by decide) rfl rfl ?_
        refine iincV X7.here hexec rfl 1 (hb hbytes d38) (by decide) rfl rfl ?_
        refine XS.goto X7.here hexec rfl (pc0 := 41) rfl (hb hbytes d41) (by decide) rfl ?_
        exact Steps.refl _)
      have c10 : Steps p.tables e below (s₁.setTop (entryFrame m #[.ref b, .int (Int32.ofNat o), .ref d, .int (Int32.ofNat q), .int (Int32.ofNat len)] 7)) (T7.setTop (mkF m 3 #[.val (.ref b), .val (.int (Int32.ofNat (o + (i + 1)))), .val (.ref d), .val (.int (Int32.ofNat (q + (i + 1)))), .val (.int (Int32.ofNat len)), .val (.int (Int32.ofNat (i + 1))), .val (.int (cv A (o + i)))] [])) := by
        have := c9
        rw [succ32, succ32, succ32] at this
        exact this
      exact ih (i + 1) (by omega) _ (Or.inr ⟨_, rfl, rfl⟩) T7 _ (by rw [copyLocs_step, ← List.append_assoc]; exact X7) (pl.trans p7) (fl.step (by omega) hlt (by simp)) c10
  obtain ⟨T9, B9, z9, X9, p9, f9, g9⟩ := loop len 0 (by omega) .unset (Or.inl rfl) s₁ B (by simpa [copyLocs] using X0) ⟨hB0.1, fun _ _ => rfl, rfl⟩ (Laid.zero _ _ _) c2
  have c11 : Steps p.tables e below (s₁.setTop (entryFrame m #[.ref b, .int (Int32.ofNat o), .ref d, .int (Int32.ofNat q), .int (Int32.ofNat len)] 7)) (T9.setTop (mkF m 46 #[.val (.ref b), .val (.int (Int32.ofNat (o + len))), .val (.ref d), .val (.int (Int32.ofNat (q + len))), .val (.int (Int32.ofNat len)), .val (.int (Int32.ofNat len)), z9] [.int (Int32.ofNat len)])) := g9.trans (by
    refine XS.iload X9.here hexec rfl (hb hbytes d3) rfl ?_
    refine XS.iload X9.here hexec rfl (hb hbytes d5) rfl ?_
    refine XS.icmpYes X9.here hexec rfl (pc0 := 7) rfl (hb hbytes d7) rfl (ii_ge_t (nlt32 (by omega) (Nat.le_refl _))) (by decide) rfl ?_
    refine XS.iload X9.here hexec rfl (hb hbytes d44) rfl ?_
    exact Steps.refl _)
  exact ⟨T9, some (.int (Int32.ofNat len)), _, _, _, X9, by simp, rfl, rfl, (fun h => by cases h), ⟨rfl, B9, p9.from hh0, f9⟩, fun fs hl => c11.trans (X9.ireturnOut hexec hret rfl (Or.inl rfl) (hb hbytes d46) hl)⟩
end Cmp5
namespace Cmp3
def yN : MethodName := ⟨"java/lang/StringUTF16", "compress", "([CII)[B"⟩
abbrev yB : ByteArray := jdk_52_method_16_code
theorem d0 : decode yB 0 = .ok (.iload_n 2, 1) := by decide +kernel
theorem d1 : decode yB 1 = .ok (.newarray .byte, 2) := by decide +kernel
theorem d3 : decode yB 3 = .ok (.astore_n 3, 1) := by decide +kernel
theorem d4 : decode yB 4 = .ok (.aload_n 0, 1) := by decide +kernel
theorem d5 : decode yB 5 = .ok (.iload_n 1, 1) := by decide +kernel
theorem d6 : decode yB 6 = .ok (.aload_n 3, 1) := by decide +kernel
theorem d7 : decode yB 7 = .ok (.iconst 0, 1) := by decide +kernel
theorem d8 : decode yB 8 = .ok (.iload_n 2, 1) := by decide +kernel
theorem d9 : decode yB 9 = .ok (.invokestatic 115, 3) := by decide +kernel
theorem d12 : decode yB 12 = .ok (.istore 4, 2) := by decide +kernel
theorem d14 : decode yB 14 = .ok (.iload 4, 2) := by decide +kernel
theorem d16 : decode yB 16 = .ok (.iload_n 2, 1) := by decide +kernel
theorem d17 : decode yB 17 = .ok (.if_icmp (.eq) 40, 3) := by decide +kernel
theorem d57 : decode yB 57 = .ok (.aload_n 3, 1) := by decide +kernel
theorem d58 : decode yB 58 = .ok (.areturn, 1) := by decide +kernel
def site : List Cond := [.arrayClass .byte, Cmp5.tab] ++ staticW U16 115 Cmp5.yN
def tab : Cond := tabOf yN yB 6 (some (.array .byte)) site
def P (b : Addr) (A : Cell) (o len : Nat) (args : Array Value) (s : State) : Prop := args = #[.ref b, .int (Int32.ofNat o), .int (Int32.ofNat len)] ∧ Ch b A s ∧ o + len ≤ A.slots.size ∧ len ≤ 536870912 ∧ ∀ i, i < len → ¬ 255 < cv A (o + i)
def E (b : Addr) (A : Cell) (o len : Nat) (r : Option Value) (s u : State) : Prop := NewArr .byte "[B" len (fun j => .int (lo8 (cv A (o + j)))) r s u ∧ u.heap.size = s.heap.size + 1
/-- no char of the range above 255: a new byte[] of their low bytes -/
theorem law (l : Launch) (b : Addr) (A : Cell) (o len : Nat) : Law l yN 3 3 1 18 yB 6 (some (.array .byte)) site (P b A o len) (E b A o len) [] 1 len := by
  refine Law.of_walk (plainFor_of_name (by decide +kernel)) (by decide +kernel) (by decide +kernel) (by decide) (fun _ _ h => by rw [h.1]; rfl) (fun _ U U' hal hh h => ⟨h.1, h.2.1.mv hal hh, h.2.2⟩) (fun r U U' V V' h1 hal h2 h => ⟨NewArr.mv r U U' V V' h1 hal h2 h.1, by rw [h1, h2]; exact h.2⟩) ?_
  intro p e s m args below meth c s₁ X0 hexec hbytes hml hret hlk hnm hown hh0 W hP
  obtain ⟨rfl, hA, l1, l2, hp⟩ := hP
  have a31 := hA.1.2.2.2
  have c1 : Steps p.tables e below (s₁.setTop (entryFrame m #[.ref b, .int (Int32.ofNat o), .int (Int32.ofNat len)] 6)) (s₁.setTop (mkF m 0 #[.val (.ref b), .val (.int (Int32.ofNat o)), .val (.int (Int32.ofNat len)), .unset, .unset, .unset] [])) := entry rfl
  have c2 : Steps p.tables e below (s₁.setTop (entryFrame m #[.ref b, .int (Int32.ofNat o), .int (Int32.ofNat len)] 6)) (s₁.setTop (mkF m 1 #[.val (.ref b), .val (.int (Int32.ofNat o)), .val (.int (Int32.ofNat len)), .unset, .unset, .unset] [.int (Int32.ofNat len)])) := c1.trans (by
    refine XS.iloadN X0.here hexec rfl (hb hbytes d0) rfl ?_
    exact Steps.refl _)
  obtain ⟨T3, B3, X3, ba3, bs3, bv3, bh3, bf3, st3⟩ := X0.anew hexec (atype := .byte) (wk W (.arrayClass .byte)) rfl (by show len * 1 ≤ _; omega) (by omega) (g := (mkF m 1 #[.val (.ref b), .val (.int (Int32.ofNat o)), .val (.int (Int32.ofNat len)), .unset, .unset, .unset] [.int (Int32.ofNat len)])) rfl (hb hbytes d1) (rest := []) rfl (Nat.le_refl _) (by show 0 + len ≤ len; omega)
  rw [hh0] at ba3 st3
  have kp3 : XT.Kept s T3 := (XT.Kept.of_eq hh0).push bh3
  have hA3 := hA.keep X3.warmed.alike (kp3 _ _ hA.1.1)
  have hne : b ≠ s.heap.size := hA.1.ne
  have c4 : Steps p.tables e below (s₁.setTop (entryFrame m #[.ref b, .int (Int32.ofNat o), .int (Int32.ofNat len)] 6)) (T3.setTop (mkF m 3 #[.val (.ref b), .val (.int (Int32.ofNat o)), .val (.int (Int32.ofNat len)), .unset, .unset, .unset] [.ref s.heap.size])) := c2.trans (st3 _ (Steps.refl _))
  have c5 : Steps p.tables e below (s₁.setTop (entryFrame m #[.ref b, .int (Int32.ofNat o), .int (Int32.ofNat len)] 6)) (T3.setTop (mkF m 9 #[.val (.ref b), .val (.int (Int32.ofNat o)), .val (.int (Int32.ofNat len)), .val (.ref s.heap.size), .unset, .unset] [.int (Int32.ofNat len), .int 0, .ref s.heap.size, .int (Int32.ofNat o), .ref b])) := c4.trans (by
    refine XS.astoreN X3.here hexec rfl (hb hbytes d3) rfl rfl rfl ?_
    refine XS.aloadN X3.here hexec rfl (hb hbytes d4) rfl rfl ?_
    refine XS.iloadN X3.here hexec rfl (hb hbytes d5) rfl ?_
    refine XS.aloadN X3.here hexec rfl (hb hbytes d6) rfl rfl ?_
    refine iconstV X3.here hexec rfl 0 (hb hbytes d7) (by decide) ?_
    refine XS.iloadN X3.here hexec rfl (hb hbytes d8) rfl ?_
    exact Steps.refl _)
  obtain ⟨v6, T6, X6, E6, g6⟩ := X3.callS hexec (Cmp5.law l b A s.heap.size B3 o 0 len) hown (wks W (staticW U16 115 Cmp5.yN)) (wk W Cmp5.tab) (W := 0) (Nat.le_of_ble_eq_true rfl) (Nat.le_of_ble_eq_true rfl) (Nat.le_refl _) (by show 0 + len + 0 ≤ len; omega) (g := (mkF m 9 #[.val (.ref b), .val (.int (Int32.ofNat o)), .val (.int (Int32.ofNat len)), .val (.ref s.heap.size), .unset, .unset] [.int (Int32.ofNat len), .int (Int32.ofNat 0), .ref s.heap.size, .int (Int32.ofNat o), .ref b])) rfl (by rw [hml]; rfl) c5 (argsL := [.ref b, .int (Int32.ofNat o), .ref s.heap.size, .int (Int32.ofNat 0), .int (Int32.ofNat len)]) (rest := []) rfl rfl (by show 2 * 0 + 0 ≤ _; decide) (hb hbytes d9) (⟨rfl, hA3, ba3, hne, l1, by rw [bs3]; simp, hp⟩)
  obtain ⟨rfl, B6, p6, f6⟩ := E6
  have c7 : Steps p.tables e below (s₁.setTop (entryFrame m #[.ref b, .int (Int32.ofNat o), .int (Int32.ofNat len)] 6)) (T6.setTop (mkF m 12 #[.val (.ref b), .val (.int (Int32.ofNat o)), .val (.int (Int32.ofNat len)), .val (.ref s.heap.size), .unset, .unset] [.int (Int32.ofNat len)])) := g6
  have c8 : Steps p.tables e below (s₁.setTop (entryFrame m #[.ref b, .int (Int32.ofNat o), .int (Int32.ofNat len)] 6)) (T6.setTop (mkF m 58 #[.val (.ref b), .val (.int (Int32.ofNat o)), .val (.int (Int32.ofNat len)), .val (.ref s.heap.size), .val (.int (Int32.ofNat len)), .unset] [.ref s.heap.size])) := c7.trans (by
    refine XS.istore X6.here hexec rfl (hb hbytes d12) rfl rfl ?_
    refine XS.iload X6.here hexec rfl (hb hbytes d14) rfl ?_
    refine XS.iloadN X6.here hexec rfl (hb hbytes d16) rfl ?_
    refine XS.icmpYes X6.here hexec rfl (pc0 := 17) rfl (hb hbytes d17) rfl (ii_eq_t rfl) (by decide) rfl ?_
    refine XS.aloadN X6.here hexec rfl (hb hbytes d57) rfl rfl ?_
    exact Steps.refl _)
  have X8 := X6.wide (L' := []) (cells' := 1) (slots' := len) (fun x hx hlt => by
    simp only [List.nil_append, copyLocs, List.mem_map, List.mem_range] at hx
    obtain ⟨i, -, rfl⟩ := hx
    exact absurd hlt (Nat.lt_irrefl _)) (Nat.le_refl _) (by omega)
  exact ⟨T6, some (.ref s.heap.size), _, _, _, X8, rfl, rfl, rfl, (fun h => by cases h), ⟨⟨rfl, B6, ba3.like (X3.warmed.alike.symm.trans X6.warmed.alike) p6.1 f6.1 f6.2.1 f6.2.2.1, f6.2.1.trans bv3, by rw [X6.warmed.alike.findClass, f6.1]; exact bf3, by rw [f6.2.2.1, bs3]; simp, fun j hj => by rw [f6.2.2.2 j, if_pos (by omega)]; rfl, kp3.put p6 (Nat.le_refl _)⟩, by rw [p6.2.2, bh3, hh0]; simp⟩, fun fs hl => c8.trans (X8.areturnOut hexec rfl hret rfl (hb hbytes d58) hl)⟩
end Cmp3
namespace CodL
def yN : MethodName := ⟨"java/lang/StringUTF16", "coderFromArrayLen", "([BI)B"⟩
abbrev yB : ByteArray := jdk_52_method_15_code
theorem d0 : decode yB 0 = .ok (.iload_n 1, 1) := by decide +kernel
theorem d1 : decode yB 1 = .ok (.aload_n 0, 1) := by decide +kernel
theorem d2 : decode yB 2 = .ok (.arraylength, 1) := by decide +kernel
theorem d3 : decode yB 3 = .ok (.isub, 1) := by decide +kernel
theorem d4 : decode yB 4 = .ok (.bipush 31, 2) := by decide +kernel
theorem d6 : decode yB 6 = .ok (.iushr, 1) := by decide +kernel
theorem d7 : decode yB 7 = .ok (.i2b, 1) := by decide +kernel
theorem d8 : decode yB 8 = .ok (.ireturn, 1) := by decide +kernel
def site : List Cond := []
def tab : Cond := tabOf yN yB 2 (some .byte) site
def P (d : Addr) (B : Cell) (args : Array Value) (s : State) : Prop := args = #[.ref d, .int (Int32.ofNat B.slots.size)] ∧ Arr .byte d B s
def E (r : Option Value) (s u : State) : Prop := XT.PureE (some (.int 0)) r s u
/-- an array as long as the number of chars: LATIN1 -/
theorem law (l : Launch) (d : Addr) (B : Cell) : Law l yN 2 2 0 0 yB 2 (some .byte) site (P d B) E [] 0 0 := by
  refine Law.of_walk (plainFor_of_name (by decide +kernel)) (by decide +kernel) (by decide +kernel) (by decide) (fun _ _ h => by rw [h.1]; rfl) (fun _ U U' hal hh h => ⟨h.1, h.2.mv hal hh⟩) (fun r U U' V V' h1 hal h2 h => XT.PureE.mv r U U' V V' h1 hal h2 h) ?_
  intro p e s m args below meth c s₁ X0 hexec hbytes hml hret hlk hnm hown hh0 W hP
  obtain ⟨rfl, hB⟩ := hP
  have hB0 := hB.mv X0.warmed.alike hh0
  have c1 : Steps p.tables e below (s₁.setTop (entryFrame m #[.ref d, .int (Int32.ofNat B.slots.size)] 2)) (s₁.setTop (mkF m 0 #[.val (.ref d), .val (.int (Int32.ofNat B.slots.size))] [])) := entry rfl
  have c2 : Steps p.tables e below (s₁.setTop (entryFrame m #[.ref d, .int (Int32.ofNat B.slots.size)] 2)) (s₁.setTop (mkF m 2 #[.val (.ref d), .val (.int (Int32.ofNat B.slots.size))] [.ref d, .int (Int32.ofNat B.slots.size)])) := c1.trans (by
    refine XS.iloadN X0.here hexec rfl (hb hbytes d0) rfl ?_
    refine XS.aloadN X0.here hexec rfl (hb hbytes d1) rfl rfl ?_
    exact Steps.refl _)
  have c3 : Steps p.tables e below (s₁.setTop (entryFrame m #[.ref d, .int (Int32.ofNat B.slots.size)] 2)) (s₁.setTop (mkF m 8 #[.val (.ref d), .val (.int (Int32.ofNat B.slots.size))] [.int (lo8 (ushr (Int32.ofNat B.slots.size - Int32.ofNat B.slots.size) 31))])) := c2.trans (by
    refine X0.alen hexec hB0 rfl rfl (hb hbytes d2) ?_
    refine XS.isub X0.here hexec rfl (hb hbytes d3) rfl ?_
    refine bipushV X0.here hexec rfl 31 (hb hbytes d4) (by decide) ?_
    refine iushr X0.here hexec rfl (hb hbytes d6) rfl ?_
    refine i2b X0.here hexec rfl (hb hbytes d7) rfl ?_
    exact Steps.refl _)
  have e0 : lo8 (ushr (Int32.ofNat B.slots.size - Int32.ofNat B.slots.size) 31) = 0 := by rw [Int32.sub_self]; decide
  rw [e0] at c3
  exact ⟨s₁, some (.int 0), _, _, _, X0, rfl, rfl, rfl, (fun h => by cases h), ⟨rfl, hh0⟩, fun fs hl => c3.trans (X0.ireturnOut hexec hret rfl (Or.inr (Or.inr (Or.inl rfl))) (hb hbytes d8) hl)⟩
end CodL
/-- the String at a is Latin-1 over a new byte[] (the heap's one new cell): the low bytes of the len chars of A from o on; every cell but a is kept -/
def Got (a : Addr) (D : Cell) (fV fC : Field) (A : Cell) (o len : Nat) (r : Option Value) (s u : State) : Prop := r = none ∧ ∃ D' V : Cell, Blank "java/lang/String" a D' u ∧ Same D D' [fV.slot, fC.slot] ∧ D'.slots[fV.slot]? = some (.ref s.heap.size) ∧ D'.slots[fC.slot]? = some (.int 0) ∧ Arr .byte s.heap.size V u ∧ V.vm = .none ∧ u.vm.findClass "[B" = some V.cls ∧ V.slots.size = len ∧ (∀ j, j < len → V.slots[j]? = some (.int (lo8 (cv A (o + j))))) ∧ (∀ (y : Addr) (c : Cell), y ≠ a → s.heap[y]? = some c → u.heap[y]? = some c) ∧ u.heap.size = s.heap.size + 1
theorem Got.mv {a : Addr} {D A : Cell} {fV fC : Field} {o len : Nat} : ∀ r (U U' V V' : State), U'.heap = U.heap → V.vm.Alike V'.vm → V'.heap = V.heap → Got a D fV fC A o len r U V → Got a D fV fC A o len r U' V' :=
  fun r U U' V V' h1 hal h2 ⟨e0, D', X, a1, a2, a3, a4, a5, a6, a7, a8, a9, a10, a11⟩ => ⟨e0, D', X, a1.mv hal h2, a2, by rw [h1]; exact a3, a4, by rw [h1]; exact a5.mv hal h2, a6, by rw [hal.findClass]; exact a7, a8, a9, by rw [h1, h2]; exact a10, by rw [h1, h2]; exact a11⟩
namespace New4
def yN : MethodName := ⟨"java/lang/String", "<init>", "([CIILjava/lang/Void;)V"⟩
abbrev yB : ByteArray := jdk_42_method_149_code
theorem d0 : decode yB 0 = .ok (.aload_n 0, 1) := by decide +kernel
theorem d1 : decode yB 1 = .ok (.invokespecial 1, 3) := by decide +kernel
theorem d4 : decode yB 4 = .ok (.iload_n 3, 1) := by decide +kernel
theorem d5 : decode yB 5 = .ok (.ifCond (.ne) 22, 3) := by decide +kernel
theorem d27 : decode yB 27 = .ok (.getstatic 38, 3) := by decide +kernel
theorem d30 : decode yB 30 = .ok (.ifCond (.eq) 28, 3) := by decide +kernel
theorem d33 : decode yB 33 = .ok (.aload_n 1, 1) := by decide +kernel
theorem d34 : decode yB 34 = .ok (.iload_n 2, 1) := by decide +kernel
theorem d35 : decode yB 35 = .ok (.iload_n 3, 1) := by decide +kernel
theorem d36 : decode yB 36 = .ok (.invokestatic 177, 3) := by decide +kernel
theorem d39 : decode yB 39 = .ok (.astore 5, 2) := by decide +kernel
theorem d41 : decode yB 41 = .ok (.aload_n 0, 1) := by decide +kernel
theorem d42 : decode yB 42 = .ok (.aload 5, 2) := by decide +kernel
theorem d44 : decode yB 44 = .ok (.iload_n 3, 1) := by decide +kernel
theorem d45 : decode yB 45 = .ok (.invokestatic 47, 3) := by decide +kernel
theorem d48 : decode yB 48 = .ok (.putfield 15, 3) := by decide +kernel
theorem d51 : decode yB 51 = .ok (.aload_n 0, 1) := by decide +kernel
theorem d52 : decode yB 52 = .ok (.aload 5, 2) := by decide +kernel
theorem d54 : decode yB 54 = .ok (.putfield 9, 3) := by decide +kernel
theorem d57 : decode yB 57 = .ok (.return_, 1) := by decide +kernel
def site : List Cond := [.fieldLink "java/lang/String" 38 "java/lang/String" "COMPACT_STRINGS" "Z", Cmp3.tab, CodL.tab, .laysFinal "java/lang/String" "java/lang/String" "value" "[B", .fieldLink "java/lang/String" 9 "java/lang/String" "value" "[B", .laysFinal "java/lang/String" "java/lang/String" "coder" "B", .fieldLink "java/lang/String" 15 "java/lang/String" "coder" "B"] ++ objW "java/lang/String" 1 ++ staticW "java/lang/String" 177 Cmp3.yN ++ staticW "java/lang/String" 47 CodL.yN
def tab : Cond := tabOf yN yB 6 none site
def P (a : Addr) (D : Cell) (fV fC : Field) (b : Addr) (A : Cell) (z : Int32) (o len : Nat) (args : Array Value) (s : State) : Prop := args = #[.ref a, .ref b, .int (Int32.ofNat o), .int (Int32.ofNat len), .null] ∧ Blank "java/lang/String" a D s ∧ Found "java/lang/String" "value" "[B" fV s ∧ Found "java/lang/String" "coder" "B" fC s ∧ Ch b A s ∧ StaticIs s "java/lang/String" "COMPACT_STRINGS" "Z" (.int z) ∧ ¬ z = 0 ∧ 0 < len ∧ o + len ≤ A.slots.size ∧ len ≤ 536870912 ∧ ∀ i, i < len → ¬ 255 < cv A (o + i)
def E (a : Addr) (D : Cell) (fV fC : Field) (A : Cell) (o len : Nat) (r : Option Value) (s u : State) : Prop := Got a D fV fC A o len r s u
/-- len > 0, no char of the range above 255: a Latin-1 String of their low bytes -/
theorem law (l : Launch) (a : Addr) (D : Cell) (fV fC : Field) (b : Addr) (A : Cell) (z : Int32) (o len : Nat) : Law l yN 5 4 2 35 yB 6 none site (P a D fV fC b A z o len) (E a D fV fC A o len) [⟨a, fC.slot⟩, ⟨a, fV.slot⟩] 1 len := by
  refine Law.of_walk (plainFor_of_name (by decide +kernel)) (by decide +kernel) (by decide +kernel) (by decide) (fun _ _ h => by rw [h.1]; rfl) (fun _ U U' hal hh h => ⟨h.1, h.2.1.mv hal hh, h.2.2.1.al hal, h.2.2.2.1.al hal, h.2.2.2.2.1.mv hal hh, h.2.2.2.2.2.1.there hal hh, h.2.2.2.2.2.2⟩) (fun r U U' V V' h1 hal h2 h => Got.mv r U U' V V' h1 hal h2 h) ?_
  intro p e s m args below meth c s₁ X0 hexec hbytes hml hret hlk hnm hown hh0 W hP
  obtain ⟨rfl, hB, f1, f2, hA, s1, hz, l0, l1, l2, hp⟩ := hP
  have a31 := hA.1.2.2.2
  have c1 : Steps p.tables e below (s₁.setTop (entryFrame m #[.ref a, .ref b, .int (Int32.ofNat o), .int (Int32.ofNat len), .null] 6)) (s₁.setTop (mkF m 0 #[.val (.ref a), .val (.ref b), .val (.int (Int32.ofNat o)), .val (.int (Int32.ofNat len)), .val .null, .unset] [])) := entry rfl
  have c2 : Steps p.tables e below (s₁.setTop (entryFrame m #[.ref a, .ref b, .int (Int32.ofNat o), .int (Int32.ofNat len), .null] 6)) (s₁.setTop (mkF m 1 #[.val (.ref a), .val (.ref b), .val (.int (Int32.ofNat o)), .val (.int (Int32.ofNat len)), .val .null, .unset] [.ref a])) := c1.trans (by
    refine XS.aloadN X0.here hexec rfl (hb hbytes d0) rfl rfl ?_
    exact Steps.refl _)
  obtain ⟨T3, X3, q3, st3⟩ := X0.oinit hexec hown (wks W (objW "java/lang/String" 1)) (g := (mkF m 1 #[.val (.ref a), .val (.ref b), .val (.int (Int32.ofNat o)), .val (.int (Int32.ofNat len)), .val .null, .unset] [.ref a])) rfl (by rw [hml]; rfl) (rest := []) rfl (hb hbytes d1) (W := 0) (by show 2 * 0 + 0 ≤ _; decide) (Nat.le_of_ble_eq_true rfl) (Nat.le_of_ble_eq_true rfl)
  have hh3 := q3.trans hh0
  have c4 : Steps p.tables e below (s₁.setTop (entryFrame m #[.ref a, .ref b, .int (Int32.ofNat o), .int (Int32.ofNat len), .null] 6)) (T3.setTop (mkF m 27 #[.val (.ref a), .val (.ref b), .val (.int (Int32.ofNat o)), .val (.int (Int32.ofNat len)), .val .null, .unset] [])) := (c2.trans (st3 _ (Steps.refl _))).trans (by
    refine XS.iloadN X3.here hexec rfl (hb hbytes d4) rfl ?_
    refine XS.ifYes X3.here hexec rfl (pc0 := 5) rfl (hb hbytes d5) rfl (i0_ne_t (nz32 (by omega) l0)) (by decide) rfl ?_
    exact Steps.refl _)
  obtain ⟨T5, X5, q5, st5⟩ := X3.sget hexec hown (wk W (.fieldLink "java/lang/String" 38 "java/lang/String" "COMPACT_STRINGS" "Z")) s1 (fun _ _ h => by rw [hh3]; exact h) (g := (mkF m 27 #[.val (.ref a), .val (.ref b), .val (.int (Int32.ofNat o)), .val (.int (Int32.ofNat len)), .val .null, .unset] [])) rfl (hb hbytes d27)
  have hh5 := q5.trans hh3
  have c6 : Steps p.tables e below (s₁.setTop (entryFrame m #[.ref a, .ref b, .int (Int32.ofNat o), .int (Int32.ofNat len), .null] 6)) (T5.setTop (mkF m 30 #[.val (.ref a), .val (.ref b), .val (.int (Int32.ofNat o)), .val (.int (Int32.ofNat len)), .val .null, .unset] [.int z])) := c4.trans (st5 _ (Steps.refl _))
  have c7 : Steps p.tables e below (s₁.setTop (entryFrame m #[.ref a, .ref b, .int (Int32.ofNat o), .int (Int32.ofNat len), .null] 6)) (T5.setTop (mkF m 36 #[.val (.ref a), .val (.ref b), .val (.int (Int32.ofNat o)), .val (.int (Int32.ofNat len)), .val .null, .unset] [.int (Int32.ofNat len), .int (Int32.ofNat o), .ref b])) := c6.trans (by
    refine XS.ifNo X5.here hexec rfl (hb hbytes d30) rfl (i0_eq_f hz) ?_
    refine XS.aloadN X5.here hexec rfl (hb hbytes d33) rfl rfl ?_
    refine XS.iloadN X5.here hexec rfl (hb hbytes d34) rfl ?_
    refine XS.iloadN X5.here hexec rfl (hb hbytes d35) rfl ?_
    exact Steps.refl _)
  obtain ⟨v8, T8, X8, E8, g8⟩ := X5.callS hexec (Cmp3.law l b A o len) hown (wks W (staticW "java/lang/String" 177 Cmp3.yN)) (wk W Cmp3.tab) (W := 0) (Nat.le_of_ble_eq_true rfl) (Nat.le_of_ble_eq_true rfl) (Nat.le_refl _) (by show 0 + len ≤ len; omega) (g := (mkF m 36 #[.val (.ref a), .val (.ref b), .val (.int (Int32.ofNat o)), .val (.int (Int32.ofNat len)), .val .null, .unset] [.int (Int32.ofNat len), .int (Int32.ofNat o), .ref b])) rfl (by rw [hml]; rfl) c7 (argsL := [.ref b, .int (Int32.ofNat o), .int (Int32.ofNat len)]) (rest := []) rfl rfl (by show 2 * 0 + 0 ≤ _; decide) (hb hbytes d36) (⟨rfl, hA.mv X5.warmed.alike hh5, l1, l2, hp⟩)
  obtain ⟨e8, z8⟩ := E8
  obtain ⟨rfl, N, n1, n2, n3, n4, n5, n6⟩ := NewArr.mv _ T5 s _ _ hh5.symm (Vm.Alike.refl _) rfl e8
  rw [hh5] at z8
  have hB1 := hB.keep X8.warmed.alike (n6 _ _ hB.1)
  have hne : s.heap.size ≠ a := (Nat.ne_of_lt (Array.getElem?_eq_some_iff.mp hB.1).1).symm
  have c9 : Steps p.tables e below (s₁.setTop (entryFrame m #[.ref a, .ref b, .int (Int32.ofNat o), .int (Int32.ofNat len), .null] 6)) (T8.setTop (mkF m 39 #[.val (.ref a), .val (.ref b), .val (.int (Int32.ofNat o)), .val (.int (Int32.ofNat len)), .val .null, .unset] [.ref s.heap.size])) := g8
  have c10 : Steps p.tables e below (s₁.setTop (entryFrame m #[.ref a, .ref b, .int (Int32.ofNat o), .int (Int32.ofNat len), .null] 6)) (T8.setTop (mkF m 45 #[.val (.ref a), .val (.ref b), .val (.int (Int32.ofNat o)), .val (.int (Int32.ofNat len)), .val .null, .val (.ref s.heap.size)] [.int (Int32.ofNat N.slots.size), .ref s.heap.size, .ref a])) := by
    have hc : Steps p.tables e below (s₁.setTop (entryFrame m #[.ref a, .ref b, .int (Int32.ofNat o), .int (Int32.ofNat len), .null] 6)) (T8.setTop (mkF m 45 #[.val (.ref a), .val (.ref b), .val (.int (Int32.ofNat o)), .val (.int (Int32.ofNat len)), .val .null, .val (.ref s.heap.size)] [.int (Int32.ofNat len), .ref s.heap.size, .ref a])) := c9.trans (by
      refine XS.astore X8.here hexec rfl (hb hbytes d39) rfl rfl rfl ?_
      refine XS.aloadN X8.here hexec rfl (hb hbytes d41) rfl rfl ?_
      refine XS.aload X8.here hexec rfl (hb hbytes d42) rfl rfl ?_
      refine XS.iloadN X8.here hexec rfl (hb hbytes d44) rfl ?_
      exact Steps.refl _)
    rw [n4]; exact hc
  obtain ⟨v11, T11, X11, E11, g11⟩ := X8.callS hexec (CodL.law l s.heap.size N) hown (wks W (staticW "java/lang/String" 47 CodL.yN)) (wk W CodL.tab) (W := 1) (Nat.le_of_ble_eq_true rfl) (Nat.le_of_ble_eq_true rfl) (Nat.le_refl _) (by show 0 + len + 0 ≤ len; omega) (g := (mkF m 45 #[.val (.ref a), .val (.ref b), .val (.int (Int32.ofNat o)), .val (.int (Int32.ofNat len)), .val .null, .val (.ref s.heap.size)] [.int (Int32.ofNat N.slots.size), .ref s.heap.size, .ref a])) rfl (by rw [hml]; rfl) c10 (argsL := [.ref s.heap.size, .int (Int32.ofNat N.slots.size)]) (rest := [.ref a]) rfl rfl (by show 2 * 0 + (1 + 0) ≤ _; decide) (hb hbytes d45) (⟨rfl, n1⟩)
  obtain ⟨rfl, q11⟩ := E11
  have hB11 := hB1.mv (X8.warmed.alike.symm.trans X11.warmed.alike) q11
  have c12 : Steps p.tables e below (s₁.setTop (entryFrame m #[.ref a, .ref b, .int (Int32.ofNat o), .int (Int32.ofNat len), .null] 6)) (T11.setTop (mkF m 48 #[.val (.ref a), .val (.ref b), .val (.int (Int32.ofNat o)), .val (.int (Int32.ofNat len)), .val .null, .val (.ref s.heap.size)] [.int 0, .ref a])) := g11
  obtain ⟨T13, X13, p13, bl13, sl13, st13⟩ := X11.finit hexec hown (wk W (.fieldLink "java/lang/String" 15 "java/lang/String" "coder" "B")) (Or.inr ⟨_, (wk W (.laysFinal "java/lang/String" "java/lang/String" "coder" "B"))⟩) (Or.inl ⟨rfl, hnm⟩) f2 (Or.inl rfl) hB11 (t := .byte) (by decide +kernel) rfl (g := (mkF m 48 #[.val (.ref a), .val (.ref b), .val (.int (Int32.ofNat o)), .val (.int (Int32.ofNat len)), .val .null, .val (.ref s.heap.size)] [.int 0, .ref a])) rfl (rest := []) rfl (hb hbytes d48)
  have c14 : Steps p.tables e below (s₁.setTop (entryFrame m #[.ref a, .ref b, .int (Int32.ofNat o), .int (Int32.ofNat len), .null] 6)) (T13.setTop (mkF m 54 #[.val (.ref a), .val (.ref b), .val (.int (Int32.ofNat o)), .val (.int (Int32.ofNat len)), .val .null, .val (.ref s.heap.size)] [.ref s.heap.size, .ref a])) := (c12.trans (st13 _ (Steps.refl _))).trans (by
    refine XS.aloadN X13.here hexec rfl (hb hbytes d51) rfl rfl ?_
    refine XS.aload X13.here hexec rfl (hb hbytes d52) rfl rfl ?_
    exact Steps.refl _)
  obtain ⟨T15, X15, p15, bl15, sl15, st15⟩ := X13.finit hexec hown (wk W (.fieldLink "java/lang/String" 9 "java/lang/String" "value" "[B")) (Or.inr ⟨_, (wk W (.laysFinal "java/lang/String" "java/lang/String" "value" "[B"))⟩) (Or.inl ⟨rfl, hnm⟩) f1 (Or.inl rfl) bl13 (t := (.array .byte)) (by decide +kernel) rfl (g := (mkF m 54 #[.val (.ref a), .val (.ref b), .val (.int (Int32.ofNat o)), .val (.int (Int32.ofNat len)), .val .null, .val (.ref s.heap.size)] [.ref s.heap.size, .ref a])) rfl (rest := []) rfl (hb hbytes d54)
  have c16 : Steps p.tables e below (s₁.setTop (entryFrame m #[.ref a, .ref b, .int (Int32.ofNat o), .int (Int32.ofNat len), .null] 6)) (T15.setTop (mkF m 57 #[.val (.ref a), .val (.ref b), .val (.int (Int32.ofNat o)), .val (.int (Int32.ofNat len)), .val .null, .val (.ref s.heap.size)] [])) := c14.trans (st15 _ (Steps.refl _))
  have ap := apart (Or.inr ⟨_, (wk W (.laysFinal "java/lang/String" "java/lang/String" "value" "[B"))⟩) (Or.inr ⟨_, (wk W (.laysFinal "java/lang/String" "java/lang/String" "coder" "B"))⟩) f1 f2 (t₁ := .array .byte) (t₂ := .byte) (by decide +kernel) (by decide +kernel) (by decide)
  have al := X8.warmed.alike.symm.trans X15.warmed.alike
  have n7 : T11.heap[s.heap.size]? = some N := by rw [q11]; exact n1.1
  exact ⟨T15, none, _, _, _, X15, by simp, rfl, by omega, (fun _ => rfl), ⟨rfl, _, N, bl15, ((Same.refl D _).set _ (by simp)).set _ (by simp), sl15, (Cell.slots_setSlot_ne _ ap).trans sl13, n1.keep al (p15.other hne (p13.other hne n7)), n2, by rw [al.findClass]; exact n3, n4, n5, fun y c h1 h2 => p15.other h1 (p13.other h1 (by rw [q11]; exact n6 y c h2)), by rw [p15.2.2, p13.2.2, q11]; exact z8⟩, fun fs hl => c16.trans (X15.returnOut hexec hret (hb hbytes d57) hl)⟩
end New4
namespace New1
def yN : MethodName := ⟨"java/lang/String", "<init>", "([C)V"⟩
abbrev yB : ByteArray := jdk_42_method_3_code
theorem d0 : decode yB 0 = .ok (.aload_n 0, 1) := by decide +kernel
theorem d1 : decode yB 1 = .ok (.aload_n 1, 1) := by decide +kernel
theorem d2 : decode yB 2 = .ok (.iconst 0, 1) := by decide +kernel
theorem d3 : decode yB 3 = .ok (.aload_n 1, 1) := by decide +kernel
theorem d4 : decode yB 4 = .ok (.arraylength, 1) := by decide +kernel
theorem d5 : decode yB 5 = .ok (.aconst_null, 1) := by decide +kernel
theorem d6 : decode yB 6 = .ok (.invokespecial 27, 3) := by decide +kernel
theorem d9 : decode yB 9 = .ok (.return_, 1) := by decide +kernel
def site : List Cond := [New4.tab] ++ initW "java/lang/String" 27 New4.yN
def tab : Cond := tabOf yN yB 2 none site
def P (a : Addr) (D : Cell) (fV fC : Field) (b : Addr) (A : Cell) (z : Int32) (args : Array Value) (s : State) : Prop := args = #[.ref a, .ref b] ∧ Blank "java/lang/String" a D s ∧ Found "java/lang/String" "value" "[B" fV s ∧ Found "java/lang/String" "coder" "B" fC s ∧ Ch b A s ∧ StaticIs s "java/lang/String" "COMPACT_STRINGS" "Z" (.int z) ∧ ¬ z = 0 ∧ 0 < A.slots.size ∧ A.slots.size ≤ 536870912 ∧ ∀ i, i < A.slots.size → ¬ 255 < cv A i
def E (a : Addr) (D : Cell) (fV fC : Field) (A : Cell) (r : Option Value) (s u : State) : Prop := Got a D fV fC A 0 A.slots.size r s u
/-- new String(chars), not empty, no char above 255: a Latin-1 String of their low bytes -/
theorem law (l : Launch) (a : Addr) (D : Cell) (fV fC : Field) (b : Addr) (A : Cell) (z : Int32) : Law l yN 2 1 3 52 yB 2 none site (P a D fV fC b A z) (E a D fV fC A) [⟨a, fC.slot⟩, ⟨a, fV.slot⟩] 1 A.slots.size := by
  refine Law.of_walk (plainFor_of_name (by decide +kernel)) (by decide +kernel) (by decide +kernel) (by decide) (fun _ _ h => by rw [h.1]; rfl) (fun _ U U' hal hh h => ⟨h.1, h.2.1.mv hal hh, h.2.2.1.al hal, h.2.2.2.1.al hal, h.2.2.2.2.1.mv hal hh, h.2.2.2.2.2.1.there hal hh, h.2.2.2.2.2.2⟩) (fun r U U' V V' h1 hal h2 h => Got.mv r U U' V V' h1 hal h2 h) ?_
  intro p e s m args below meth c s₁ X0 hexec hbytes hml hret hlk hnm hown hh0 W hP
  obtain ⟨rfl, hB, f1, f2, hA, s1, hz, l0, l2, hp⟩ := hP
  have c1 : Steps p.tables e below (s₁.setTop (entryFrame m #[.ref a, .ref b] 2)) (s₁.setTop (mkF m 0 #[.val (.ref a), .val (.ref b)] [])) := entry rfl
  have c2 : Steps p.tables e below (s₁.setTop (entryFrame m #[.ref a, .ref b] 2)) (s₁.setTop (mkF m 6 #[.val (.ref a), .val (.ref b)] [.null, .int (Int32.ofNat A.slots.size), .int 0, .ref b, .ref a])) := c1.trans (by
    refine XS.aloadN X0.here hexec rfl (hb hbytes d0) rfl rfl ?_
    refine XS.aloadN X0.here hexec rfl (hb hbytes d1) rfl rfl ?_
    refine iconstV X0.here hexec rfl 0 (hb hbytes d2) (by decide) ?_
    refine XS.aloadN X0.here hexec rfl (hb hbytes d3) rfl rfl ?_
    refine X0.alen hexec (hA.1.mv X0.warmed.alike hh0) rfl rfl (hb hbytes d4) ?_
    refine XS.aconstNull X0.here hexec rfl (hb hbytes d5) ?_
    exact Steps.refl _)
  obtain ⟨v3, T3, X3, E3, g3⟩ := X0.callN hexec (New4.law l a D fV fC b A z 0 A.slots.size) rfl hown (wks W (initW "java/lang/String" 27 New4.yN)) (W New4.tab (by simp only [site, List.mem_cons, List.mem_append, true_or, or_true])) (W := 0) (Nat.le_of_ble_eq_true rfl) (Nat.le_of_ble_eq_true rfl) (Nat.le_refl _) (by show 0 + A.slots.size ≤ A.slots.size; omega) (g := (mkF m 6 #[.val (.ref a), .val (.ref b)] [.null, .int (Int32.ofNat A.slots.size), .int (Int32.ofNat 0), .ref b, .ref a])) rfl (by rw [hml]; rfl) c2 (argsL := [.ref b, .int (Int32.ofNat 0), .int (Int32.ofNat A.slots.size), .null]) (rest := []) rfl rfl (by show 2 * 0 + 0 ≤ _; decide) (hb hbytes d6) (⟨rfl, hB.mv X0.warmed.alike hh0, f1.al X0.warmed.alike, f2.al X0.warmed.alike, hA.mv X0.warmed.alike hh0, s1.there X0.warmed.alike hh0, hz, l0, by omega, l2, fun i hi => by rw [Nat.zero_add]; exact hp i hi⟩)
  have e0 := Got.mv _ s₁ s _ _ hh0.symm (Vm.Alike.refl _) rfl E3
  obtain rfl := e0.1
  have c4 : Steps p.tables e below (s₁.setTop (entryFrame m #[.ref a, .ref b] 2)) (T3.setTop (mkF m 9 #[.val (.ref a), .val (.ref b)] [])) := g3
  exact ⟨T3, none, _, _, _, X3, by simp, rfl, by omega, (fun _ => rfl), e0, fun fs hl => c4.trans (X3.returnOut hexec hret (hb hbytes d9) hl)⟩
theorem pays {l : Launch} {R : Room} {p : Program} {e : Env} {below : List Frame} {s : State} {sargs : Array Value} {len W : Nat} (a : Addr) (D : Cell) (fV fC : Field) (b : Addr) (A : Cell) (z : Int32) (htab : tab.before sargs s = true) (hfr : 4 ≤ R.frames) (hlo : W + 65 ≤ R.locals) :
    Back l R p e below s sargs yN len W (fun A₁ a₁ => A₁.cells + 1 ≤ R.cells ∧ A₁.slots + A.slots.size ≤ R.slots ∧ P a D fV fC b A z a₁ A₁.U) (fun A₁ _ v₁ B₁ => E a D fV fC A v₁ A₁.U B₁.U ∧ B₁.locs = A₁.locs ++ [⟨a, fC.slot⟩, ⟨a, fV.slot⟩] ∧ B₁.cells = A₁.cells + 1 ∧ B₁.slots = A₁.slots + A.slots.size) :=
  (law l a D fV fC b A z).pays htab hfr (by omega)
end New1
/-- the byte, read back as charAt reads it, is the char -/
theorem lo8_mask {x : Int32} (h0 : ¬ x < 0) (h1 : ¬ 255 < x) : lo8 x &&& 255 = x := by
  have t : ∀ k : Fin 256, lo8 (Int32.ofNat k.val) &&& 255 = Int32.ofNat k.val := by decide +kernel
  rw [Int32.lt_iff_toInt_lt] at h0 h1
  have e0 : (0 : Int32).toInt = 0 := rfl
  have e1 : (255 : Int32).toInt = 255 := rfl
  obtain ⟨k, hk⟩ : ∃ k : Nat, x.toInt = k := ⟨x.toInt.toNat, by omega⟩
  have hx : x = Int32.ofNat k := Int32.toInt_inj.mp (by rw [hk, Int32.toInt_ofNat_small (by omega)])
  rw [hx]
  exact t ⟨k, by omega⟩
end StrChars
namespace StrChars.Road
open Jvm Sem ClassFile Op Lib Jvm.Stand Jvm.Free Jvm.Free.XT
open Jvm.Lib.Cold (StaticIs)
abbrev ST : String := "java/lang/String"
/-- every table word that New1's law asks, flat -/
abbrev words : List Jvm.Cond := [.code New1.yN New1.yB 2 none, .initialized ST, .methodLink ST 27 New4.yN, .instanceMethod New4.yN,
  .code New4.yN New4.yB 6 none, .fieldLink ST 38 ST "COMPACT_STRINGS" "Z", .laysFinal ST ST "value" "[B", .fieldLink ST 9 ST "value" "[B", .laysFinal ST ST "coder" "B", .fieldLink ST 15 ST "coder" "B",
  .methodLink ST 1 Lib.objectInit, .instanceMethod Lib.objectInit, .code Lib.objectInit ⟨#[0xb1]⟩ 1 none, .methodLink ST 177 Cmp3.yN, .static Cmp3.yN, .methodLink ST 47 CodL.yN, .static CodL.yN,
  .code Cmp3.yN Cmp3.yB 6 (some (.array .byte)), .initialized U16, .arrayClass .byte, .methodLink U16 115 Cmp5.yN, .static Cmp5.yN, .code Cmp5.yN Cmp5.yB 7 (some .int), .code CodL.yN CodL.yB 2 (some .byte)]
theorem tab_of {a : Array Value} {s : State} (h : ∀ w ∈ words, w.before a s = true) : New1.tab.before a s = true := by
  have h5 : Cmp5.tab.before a s = true := unparts (wk h (.code Cmp5.yN Cmp5.yB 7 (some .int))) (wks h (.initialized Cmp5.yN.cls :: Cmp5.site))
  have hc : CodL.tab.before a s = true := unparts (wk h (.code CodL.yN CodL.yB 2 (some .byte))) (wks h (.initialized CodL.yN.cls :: CodL.site))
  have q5 : ∀ w ∈ Cmp5.tab :: words, w.before a s = true := fun w hw => (List.mem_cons.mp hw).elim (fun e => e ▸ h5) (h w)
  have h3 : Cmp3.tab.before a s = true := unparts (wk q5 (.code Cmp3.yN Cmp3.yB 6 (some (.array .byte)))) (wks q5 (.initialized Cmp3.yN.cls :: Cmp3.site))
  have q3 : ∀ w ∈ Cmp3.tab :: CodL.tab :: words, w.before a s = true := fun w hw => (List.mem_cons.mp hw).elim (fun e => e ▸ h3) fun hw => (List.mem_cons.mp hw).elim (fun e => e ▸ hc) (h w)
  have h4 : New4.tab.before a s = true := unparts (wk q3 (.code New4.yN New4.yB 6 none)) (wks q3 (.initialized New4.yN.cls :: New4.site))
  have q4 : ∀ w ∈ New4.tab :: words, w.before a s = true := fun w hw => (List.mem_cons.mp hw).elim (fun e => e ▸ h4) (h w)
  exact unparts (wk q4 (.code New1.yN New1.yB 2 none)) (wks q4 (.initialized New1.yN.cls :: New1.site))
/-- the words ride from the start Z to the walk's own state -/
theorem moved {Z s : State} {a0 args : Array Value} (hZ : Z.Warmed39 s.vm) (hw : ∀ d ∈ words, d.before a0 Z = true) : ∀ d ∈ words, d.before args s = true := fun d hd => by
  have q := hw d hd
  have t : ∀ d ∈ words, d = .arrayClass .byte ∨ (d.onTables && d.keepsFace) = true := by decide +kernel
  rcases t d hd with rfl | t
  · exact RoadKit.mvA hZ q
  · exact RoadKit.mv hZ q t
/-- WHAT COMES BACK, over the tables of the start Z: h the heap at the call, h' behind it -/
def Q (Z : State) (x : Addr) (A : Cell) (h : Heap) (v : Option Value) (h' : Heap) (L : List Loc) : Prop := v = none ∧ (∀ y ∈ L, y.base = x) ∧ RoadKit.Keep h h' [x] ∧ h'.size = h.size + 1 ∧ RoadKit.Exa Z h' x ST ∧ RoadKit.Fld Z h' x ST "value" "[B" (.ref h.size) ∧ RoadKit.Fld Z h' x ST "coder" "B" (.int 0) ∧
  (∃ V : Cell, RoadKit.Arr Z h' h.size V .byte ∧ V.vm = .none ∧ Z.vm.findClass "[B" = some V.cls ∧ V.slots.size = A.slots.size ∧ ∀ j, j < A.slots.size → V.slots[j]? = some (.int (lo8 (cv A j)))) ∧
  ∀ (O n d : String) (w : Value), RoadKit.Fld Z h x O n d w → RoadKit.slotOf Z O n d ≠ RoadKit.slotOf Z ST "value" "[B" → RoadKit.slotOf Z O n d ≠ RoadKit.slotOf Z ST "coder" "B" → RoadKit.Fld Z h' x O n d w
/-- **new String(chars) AT A CALL, IN THE ROAD'S FORM**: for specialBack behind newO: x the fresh String, b the char[] with the cell A -/
theorem back {p : Program} {l : Launch} {e : Env} {R : Room} {s : State} {args : Array Value} {below : List Frame} {len W : Nat} {Z : State} {a0 : Array Value} {h : Heap} (hZ : Z.Warmed39 s.vm) (hw : ∀ d ∈ words, d.before a0 Z = true) {kI : Nat} (wi : (Jvm.Cond.instantiable ST kI).before a0 Z = true)
    {x b : Addr} {A : Cell} {z : Int32} {v0 c0 : Value} (E : RoadKit.Exa Z h x ST) (V : RoadKit.Fld Z h x ST "value" "[B" v0) (C : RoadKit.Fld Z h x ST "coder" "B" c0) (K : RoadKit.Arr Z h b A .char) (hty : Typed .char A) (S : RoadKit.Sta Z h ST "COMPACT_STRINGS" "Z" (.int z)) (hz : ¬ z = 0)
    (l0 : 0 < A.slots.size) (l2 : A.slots.size ≤ 536870912) (hp : ∀ i, i < A.slots.size → ¬ 255 < cv A i) (hfr : 4 ≤ R.frames) (hlo : W + 65 ≤ R.locals) :
    Back l R p e below s args New1.yN len W (fun P a => a = #[.ref x, .ref b] ∧ P.U.heap = h ∧ P.cells + 1 ≤ R.cells ∧ P.slots + A.slots.size ≤ R.slots)
      (fun P _ v B => ∃ L, Q Z x A h v B.U.heap L ∧ B.locs = P.locs ++ L ∧ B.cells = P.cells + 1 ∧ B.slots = P.slots + A.slots.size) := by
  intro m meth c P g ig mk a X hg hsize hdg hW hn hp'
  obtain ⟨rfl, rfl, r1, r2⟩ := hp'
  have al : Z.vm.Alike P.U.vm := hZ.alike.trans X.warmed.alike
  obtain ⟨D, cfV, kV, iV, fV, hD, gV, stV, knV, obV, asV, slV⟩ := id V
  obtain ⟨D', cfC, kC, iC, fC, hD', gC, stC, -, -, asC, slC⟩ := id C
  cases hD.symm.trans hD'
  obtain ⟨D2, kD, e1, e2, e3, e4, e5⟩ := id E
  cases hD.symm.trans e1
  obtain ⟨c2, k2, i1, i2, i3, -⟩ := Cond.instantiable_spec wi
  cases e2.symm.trans i1
  cases e3.symm.trans i2
  obtain ⟨kU, u1, u2⟩ := al.2.2 _ _ e3
  have hB : Blank ST x D P.U := ⟨hD, ⟨knV, fun q hq => by rw [hq] at obV; cases obV⟩, by rw [al.findClass]; exact e2, kU, u1, by rw [u2]; exact i3, by rw [u2]; exact e5 i3⟩
  have F1 : Found ST "value" "[B" fV P.U := ⟨SBG.found_only al ⟨cfV, kV, iV, gV⟩, stV⟩
  have F2 : Found ST "coder" "B" fC P.U := ⟨SBG.found_only al ⟨cfC, kC, iC, gC⟩, stC⟩
  have hA : Ch b A P.U := ⟨⟨K.1, State.isArrayOf_alike al K.2.1, K.2.2, by omega⟩, hty⟩
  have hS : StaticIs P.U ST "COMPACT_STRINGS" "Z" (.int z) := by
    obtain ⟨cfS, iS, kS, fS, st, cS, t1, t2, t3, t4, t5, t6, t7⟩ := S
    exact StaticIs.there (s := { Z with heap := P.U.heap }) ⟨cfS, iS, kS, fS, st, cS, t1, t2, t3, t4, t5, (fun q => by rw [q] at t6; cases t6), t7⟩ al rfl
  obtain ⟨v, B, X', ⟨⟨hv, E', V', q1, q2, q3, q4, q5, q6, q7, q8, q9, q10, q11⟩, hl, hc, hs⟩, st⟩ := New1.pays x D fV fC b A z (tab_of (moved hZ hw)) hfr hlo m meth c P g ig mk _ X hg hsize hdg hW hn ⟨r1, r2, rfl, hB, F1, F2, hA, hS, hz, l0, l2, hp⟩
  have al' : Z.vm.Alike B.U.vm := hZ.alike.trans X'.warmed.alike
  have hsz : E'.slots.size = D.slots.size := by
    obtain ⟨-, -, -, kB, w1, w2, w3⟩ := q1
    obtain ⟨kB', y1, y2⟩ := al'.2.2 _ _ e3
    rw [q2.2.1] at w1
    cases w1.symm.trans y1
    rw [w3, e5 i3, y2]
  refine ⟨v, B, X', ⟨_, ⟨hv, ?_, ⟨by omega, fun y cy hy hn' => q10 y cy (by simpa using hn') hy, fun y cy hy => ?_⟩, q11, ⟨E', _, q1.1, by rw [q2.2.1]; exact e2, by rw [q2.2.1]; exact e3, by rw [q2.1]; exact obV, fun _ => by rw [hsz]; exact e5 i3⟩,
    ⟨E', cfV, kV, iV, fV, q1.1, gV, stV, by rw [q2.1]; exact knV, by rw [q2.1]; exact obV, by rw [q2.2.1]; exact asV, q3⟩, ⟨E', cfC, kC, iC, fC, q1.1, gC, stC, by rw [q2.1]; exact knV, by rw [q2.1]; exact obV, by rw [q2.2.1]; exact asC, q4⟩,
    ⟨V', ⟨q5.1, State.isArrayOf_alike al'.symm q5.2.1, q5.2.2.1⟩, q6, by rw [← al'.findClass]; exact q7, q8, fun j hj => by have := q9 j hj; rwa [Nat.zero_add] at this⟩, fun O n d w F n1 n2 => ?_⟩, hl, hc, hs⟩, st⟩
  · intro y hy
    simp only [List.mem_cons, List.not_mem_nil, or_false] at hy
    rcases hy with rfl | rfl <;> rfl
  · by_cases q : y = x
    · subst q
      cases hD.symm.trans hy
      exact ⟨E', q1.1, q2.2.1, q2.1, hsz⟩
    · exact ⟨cy, q10 y cy q hy, rfl, rfl, rfl⟩
  · obtain ⟨D3, cf, k, i, f, g1, g2, g3, g4, g5, g6, g7⟩ := F
    cases hD.symm.trans g1
    simp only [RoadKit.slotOf, g2, gV, gC, Option.map_some, Option.getD_some] at n1 n2
    exact ⟨E', cf, k, i, f, q1.1, g2, g3, by rw [q2.1]; exact g4, by rw [q2.1]; exact g5, by rw [q2.2.1]; exact g6, by rw [q2.2.2 f.slot (by simp [n1, n2])]; exact g7⟩
end StrChars.Road
namespace StrChars.Road
open Jvm Sem ClassFile Op Lib Jvm.Stand Jvm.Free Jvm.Free.XT
/-- WHAT COMES BACK, the byte[] as a list of values -/
def QA (Z : State) (x : Addr) (zn : Int32) (cs : List Int32) (h : Heap) (v : Option Value) (h' : Heap) (L : List Loc) : Prop := v = none ∧ (∀ y ∈ L, y.base = x) ∧ RoadKit.Keep h h' [x] ∧ h'.size = h.size + 1 ∧ RoadKit.Exa Z h' x ST ∧ RoadKit.Fld Z h' x ST "value" "[B" (.ref h.size) ∧ RoadKit.Fld Z h' x ST "coder" "B" (.int 0) ∧
  (∃ kb, Z.vm.findClass "[B" = some kb ∧ RoadKit.Arv Z h' h.size kb .byte zn (cs.map fun c => .int (lo8 c)) (.int 0)) ∧
  ∀ (O n d : String) (w : Value), RoadKit.Fld Z h x O n d w → RoadKit.slotOf Z O n d ≠ RoadKit.slotOf Z ST "value" "[B" → RoadKit.slotOf Z O n d ≠ RoadKit.slotOf Z ST "coder" "B" → RoadKit.Fld Z h' x O n d w
/-- **new String(chars) AT A CALL, THE ARRAYS AS LISTS**: the char[] at b holds cs, not empty, no char above 255 -/
theorem backArv {p : Program} {l : Launch} {e : Env} {R : Room} {s : State} {args : Array Value} {below : List Frame} {len W : Nat} {Z : State} {a0 : Array Value} {h : Heap} (hZ : Z.Warmed39 s.vm) (hw : ∀ d ∈ words, d.before a0 Z = true) {kI : Nat} (wi : (Jvm.Cond.instantiable ST kI).before a0 Z = true)
    {x b : Addr} {k : ClassId} {zn z : Int32} {cs : List Int32} {dv v0 c0 : Value} (E : RoadKit.Exa Z h x ST) (V : RoadKit.Fld Z h x ST "value" "[B" v0) (C : RoadKit.Fld Z h x ST "coder" "B" c0) (K : RoadKit.Arv Z h b k .char zn (cs.map Value.int) dv) (S : RoadKit.Sta Z h ST "COMPACT_STRINGS" "Z" (.int z)) (hz : ¬ z = 0)
    (hlen : zn.toNatClampNeg = cs.length) (h0 : 0 < cs.length) (hbig : cs.length ≤ 536870912) (hall : ∀ c ∈ cs, ¬ 255 < c) (hfr : 4 ≤ R.frames) (hlo : W + 65 ≤ R.locals) :
    Back l R p e below s args New1.yN len W (fun P a => a = #[.ref x, .ref b] ∧ P.U.heap = h ∧ P.cells + 1 ≤ R.cells ∧ P.slots + cs.length ≤ R.slots)
      (fun P _ v B => ∃ L, QA Z x zn cs h v B.U.heap L ∧ B.locs = P.locs ++ L ∧ B.cells = P.cells + 1 ∧ B.slots = P.slots + cs.length) := by
  obtain ⟨A, K1, K2, K3, K4, K5, K6⟩ := K
  have e : A.slots.size = cs.length := K3.trans hlen
  have hat : ∀ (i : Nat) (hi : i < cs.length), A.slots[i]? = some (.int cs[i]) := fun i hi => by rw [K5 i (by omega)]; simp [List.getD_eq_getElem?_getD, hi]
  have hcv : ∀ (i : Nat) (hi : i < cs.length), cv A i = cs[i] := fun i hi => by unfold cv; rw [hat i hi]
  have hty : Typed .char A := fun i v hv => by
    have hi : i < A.slots.size := (Array.getElem?_eq_some_iff.mp hv).1
    have q := K5 i hi
    rw [hv] at q
    rw [Option.some.inj q]
    exact K6 i hi
  refine Back.mono (back hZ hw wi E V C K1 hty S hz (by omega) (by omega) (fun i hi => by rw [hcv i (by omega)]; exact hall _ (List.getElem_mem _)) hfr hlo) (fun P a hp => ⟨hp.1, hp.2.1, hp.2.2.1, by rw [e]; exact hp.2.2.2⟩) (fun P a v B hp hq => ?_)
  obtain ⟨L, ⟨q1, q2, q3, q4, q5, q6, q7, ⟨V', v1, v2, v3, v4, v5⟩, q9⟩, hl, hc, hs⟩ := hq
  refine ⟨L, ⟨q1, q2, q3, q4, q5, q6, q7, ⟨V'.cls, v3, V', v1, rfl, by rw [v4, e, hlen], K4, fun i hi => ?_, fun i hi => ?_⟩, q9⟩, hl, hc, by rw [hs, e]⟩
  · have hi' : i < cs.length := by omega
    rw [v5 i (by omega), hcv i hi']; simp [List.getD_eq_getElem?_getD, hi']
  · have hi' : i < cs.length := by omega
    simp only [List.getD_eq_getElem?_getD, List.getElem?_map, List.getElem?_eq_getElem hi', Option.map_some, Option.getD_some]
    exact fits_lo8 _
end StrChars.Road
namespace StrChars.Road
open Jvm Sem ClassFile Op Lib Jvm.Stand Jvm.Free Jvm.Free.XT
/-- WHAT COMES BACK, in the writer's own shape -/
def QV (Z : State) (x : Addr) (N : Int32) (bs : List Int32) (h : Heap) (n0 : Nat) (v : Option Value) (h' : Heap) (L : List Loc) : Prop := v = none ∧ RoadKit.Fr n0 L ∧ RoadKit.Keep h h' [x] ∧ RoadKit.Exa Z h' x ST ∧ RoadKit.Fld Z h' x ST "coder" "B" (.int 0) ∧
  ∃ (t : Addr) (kb : ClassId), n0 ≤ t ∧ h.size ≤ t ∧ ¬ t = x ∧ RoadKit.Fld Z h' x ST "value" "[B" (.ref t) ∧ RoadKit.Arv Z h' t kb .byte N (bs.map Value.int) (.int 0)
/-- **new String(chars) AT A CALL, FOR THE WRITER**: a char[] of n known ints, each 0 to 255 -/
theorem backV {p : Program} {l : Launch} {e : Env} {R : Room} {s : State} {args : Array Value} {below : List Frame} {len W : Nat} {Z : State} {a0 : Array Value} {h : Heap} (hZ : Z.Warmed39 s.vm) (hw : ∀ d ∈ words, d.before a0 Z = true) {kI : Nat} (wi : (Jvm.Cond.instantiable ST kI).before a0 Z = true)
    {x b : Addr} {kC : ClassId} {cs bs : List Int32} {d v0 c0 : Value} {z N : Int32} {n n0 : Nat} (hx0 : n0 ≤ x) (hh0 : n0 ≤ h.size) (E : RoadKit.Exa Z h x ST) (V : RoadKit.Fld Z h x ST "value" "[B" v0) (C : RoadKit.Fld Z h x ST "coder" "B" c0) (K : RoadKit.Arv Z h b kC .char N (cs.map Value.int) d) (S : RoadKit.Sta Z h ST "COMPACT_STRINGS" "Z" (.int z)) (hz : ¬ z = 0)
    (hn : cs.length = n) (hN : N = Int32.ofNat n) (l0 : 0 < n) (l2 : n ≤ 4000) (hp : ∀ c ∈ cs, ¬ c < 0 ∧ ¬ (255 : Int32) < c) (hb : bs = cs.map (fun c => c.toInt8.toInt32)) (hfr : 4 ≤ R.frames) (hlo : W + 65 ≤ R.locals) :
    Back l R p e below s args (⟨"java/lang/String", "<init>", "([C)V"⟩ : MethodName) len W (fun P a => a = #[.ref x, .ref b] ∧ P.U.heap = h ∧ P.cells + 1 ≤ R.cells ∧ P.slots + n ≤ R.slots)
      (fun P _ v B => ∃ L, QV Z x N bs h n0 v B.U.heap L ∧ B.locs = P.locs ++ L ∧ B.cells = P.cells + 1 ∧ B.slots = P.slots + n) := by
  subst hn hN hb
  refine Back.mono (backArv hZ hw wi E V C K S hz (n32 (by omega)) l0 (by omega) (fun c hc => (hp c hc).2) hfr hlo) (fun P a hp => hp) (fun P a v B hp hq => ?_)
  obtain ⟨L, ⟨q1, q2, q3, q4, q5, q6, q7, ⟨kb, v1, v2⟩, q9⟩, hl, hc, hs⟩ := hq
  exact ⟨L, ⟨q1, fun y hy => by rw [q2 y hy]; exact hx0, q3, q5, q7, h.size, kb, hh0, Nat.le_refl _, Nat.ne_of_gt E.lt, q6, by rw [List.map_map]; exact v2⟩, hl, hc, hs⟩
end StrChars.Road
namespace StrChars
open Jvm Sem ClassFile Op Lib Jvm.Stand Jvm.Free.XT Jvm.Free.ALB Jvm.Free.JM Jvm.Free
open Jvm.Lib.Cold (StaticIs)
def hi8 (x : Int32) : Int32 := lo8 (x >>> ((8 : Int32) &&& 31))
/-- what StringUTF16.getChar makes of two bytes -/
def pairCh (u v : Int32) : Int32 := (((u &&& 255) <<< ((0 : Int32) &&& 31)) ||| ((v &&& 255) <<< ((8 : Int32) &&& 31))).toUInt32.toUInt16.toUInt32.toInt32
theorem shr0 (c : Int32) : c >>> ((0 : Int32) &&& 31) = c := by
  have e : ((0 : Int32) &&& 31) = 0 := by decide
  rw [e]
  apply Int32.toBitVec_inj.mp
  rw [Int32.toBitVec_shiftRight]
  have e1 : ((0 : Int32).toBitVec.smod 32) = 0#32 := by decide
  rw [e1, BitVec.sshiftRight_eq']
  exact BitVec.sshiftRight_zero
theorem lo8_and (x : Int32) : (lo8 x &&& 255).toBitVec.toNat = x.toBitVec.toNat % 256 := by
  have h : (lo8 x).toBitVec = (x.toBitVec.signExtend 8).signExtend 32 := by rw [lo8, Int8.toBitVec_toInt32, Int32.toBitVec_toInt8]
  rw [Int32.toBitVec_and, BitVec.toNat_and, h]
  have e : ((x.toBitVec.signExtend 8).signExtend 32).toNat % 256 = x.toBitVec.toNat % 256 := by
    rw [BitVec.toNat_signExtend]
    have hlt := x.toBitVec.isLt
    simp only [BitVec.toNat_setWidth, BitVec.toNat_signExtend]
    split <;> split <;> omega
  rw [← e]
  exact Nat.and_two_pow_sub_one_eq_mod _ 8
theorem pair_says {c : Int32} (h0 : ¬ c < 0) (h1 : ¬ 65535 < c) : pairCh (lo8 c) (hi8 c) = c := by
  rw [Int32.lt_iff_toInt_lt] at h0 h1
  have e0 : (0 : Int32).toInt = 0 := rfl
  have e1 : (65535 : Int32).toInt = 65535 := rfl
  have hc : c.toInt = c.toBitVec.toNat := by
    have := c.toBitVec.isLt
    have e : c.toInt = c.toBitVec.toInt := rfl
    rw [e] at h0 h1
    rw [e]
    rw [BitVec.toInt_eq_toNat_cond] at h0 h1 ⊢
    split at h0 <;> split <;> omega
  have hn : c.toBitVec.toNat < 65536 := by omega
  have a1 := lo8_and c
  have a2 : (hi8 c &&& 255).toBitVec.toNat = c.toBitVec.toNat / 256 := by
    rw [hi8, lo8_and]
    have e : ((8 : Int32) &&& 31) = 8 := by decide
    rw [e, Int32.toBitVec_shiftRight]
    have e2 : ((8 : Int32).toBitVec.smod 32) = 8#32 := by decide
    rw [e2, BitVec.sshiftRight_eq', BitVec.toNat_sshiftRight_of_msb_false (by rw [BitVec.msb_eq_false_iff_two_mul_lt]; omega)]
    show c.toBitVec.toNat >>> 8 % 256 = _
    rw [Nat.shiftRight_eq_div_pow]
    omega
  unfold pairCh
  apply Int32.toBitVec_inj.mp
  apply BitVec.eq_of_toNat_eq
  have f0 : ((0 : Int32) &&& 31) = 0 := by decide
  have f8 : ((8 : Int32) &&& 31) = 8 := by decide
  rw [f0, f8]
  have g : (((lo8 c &&& 255) <<< (0 : Int32)) ||| ((hi8 c &&& 255) <<< (8 : Int32))).toBitVec.toNat = c.toBitVec.toNat := by
    rw [Int32.toBitVec_or, Int32.toBitVec_shiftLeft, Int32.toBitVec_shiftLeft]
    have s0 : ((0 : Int32).toBitVec.smod 32) = 0#32 := by decide
    have s8 : ((8 : Int32).toBitVec.smod 32) = 8#32 := by decide
    rw [s0, s8, BitVec.toNat_or]
    simp only [BitVec.shiftLeft_eq', BitVec.toNat_shiftLeft, a1, a2]
    show (c.toBitVec.toNat % 256) <<< 0 % 2 ^ 32 ||| (c.toBitVec.toNat / 256) <<< 8 % 2 ^ 32 = _
    rw [Nat.shiftLeft_zero, Nat.mod_eq_of_lt (show c.toBitVec.toNat % 256 < 2 ^ 32 by omega), Nat.mod_eq_of_lt (show (c.toBitVec.toNat / 256) <<< 8 < 2 ^ 32 by rw [Nat.shiftLeft_eq]; omega), Nat.or_comm, ← Nat.shiftLeft_add_eq_or_of_lt (by omega), Nat.shiftLeft_eq]
    omega
  show BitVec.toNat (((((lo8 c &&& 255) <<< (0 : Int32)) ||| ((hi8 c &&& 255) <<< (8 : Int32))).toBitVec.setWidth 16).setWidth 32) = _
  rw [BitVec.toNat_setWidth, BitVec.toNat_setWidth, g]
  omega
end StrChars
namespace StrChars
open Jvm Sem ClassFile Op Lib Jvm.Stand Jvm.Free.XT Jvm.Free.ALB Jvm.Free.JM Jvm.Free
open Jvm.Lib.Cold (StaticIs)
theorem shr1 {n : Nat} (h : 2 * n < 2 ^ 31) : Int32.ofNat (2 * n) >>> ((1 : Int32) &&& 31) = Int32.ofNat n := by
  have e : ((1 : Int32) &&& 31) = 1 := by decide
  rw [e]
  apply Int32.toBitVec_inj.mp
  rw [Int32.toBitVec_shiftRight]
  have e1 : ((1 : Int32).toBitVec.smod 32) = 1#32 := by decide
  have hm : (BitVec.ofNat 32 (2 * n)).toNat = 2 * n := by rw [BitVec.toNat_ofNat, Nat.mod_eq_of_lt (by omega)]
  rw [e1, BitVec.sshiftRight_eq']
  apply BitVec.eq_of_toNat_eq
  show ((BitVec.ofNat 32 (2 * n)).sshiftRight 1).toNat = (BitVec.ofNat 32 n).toNat
  rw [BitVec.toNat_sshiftRight_of_msb_false (by rw [BitVec.msb_eq_false_iff_two_mul_lt, hm]; omega), hm, BitVec.toNat_ofNat, Nat.shiftRight_eq_div_pow]
  omega
/-- charAt's cast of a byte read back -/
def chr8 (u : Int32) : Int32 := (u &&& 255).toUInt32.toUInt16.toUInt32.toInt32
theorem chr8_lo8 {c : Int32} (h0 : ¬ c < 0) (h1 : ¬ 255 < c) : chr8 (lo8 c) = c := by
  have t : ∀ k : Fin 256, (Int32.ofNat k.val).toUInt32.toUInt16.toUInt32.toInt32 = Int32.ofNat k.val := by decide +kernel
  unfold chr8
  rw [lo8_mask h0 h1]
  rw [Int32.lt_iff_toInt_lt] at h0 h1
  have e0 : (0 : Int32).toInt = 0 := rfl
  have e1 : (255 : Int32).toInt = 255 := rfl
  obtain ⟨k, hk⟩ : ∃ k : Nat, c.toInt = k := ⟨c.toInt.toNat, by omega⟩
  have hx : c = Int32.ofNat k := Int32.toInt_inj.mp (by rw [hk, Int32.toInt_ofNat_small (by omega)])
  rw [hx]
  exact t ⟨k, by omega⟩
theorem narrow_ch {c : Int32} (h0 : ¬ c < 0) (h1 : ¬ 65535 < c) : narrow .char (.int c) = .int c := by
  have q : narrow .char (.int (pairCh (lo8 c) (hi8 c))) = .int (pairCh (lo8 c) (hi8 c)) := narrow_c _
  rwa [pair_says h0 h1] at q
/-- the array's cell V codes the n chars f 0 .. f (n - 1) by the coder cd, as the JDK does: coder 1 just where some char is above 255 -/
def Cod (cd : Int32) (n : Nat) (f : Nat → Int32) (V : Cell) : Prop := (cd = 0 ∧ V.slots.size = n ∧ ∀ j, j < n → V.slots[j]? = some (.int (lo8 (f j))) ∧ ¬ 255 < f j) ∨ (cd = 1 ∧ V.slots.size = 2 * n ∧ (∀ j, j < n → V.slots[2 * j]? = some (.int (lo8 (f j))) ∧ V.slots[2 * j + 1]? = some (.int (hi8 (f j)))) ∧ ∃ j, j < n ∧ 255 < f j)
theorem Cod.cd {cd : Int32} {n : Nat} {f : Nat → Int32} {V : Cell} (h : Cod cd n f V) : cd = 0 ∨ cd = 1 := h.imp (fun q => q.1) fun q => q.1
theorem Cod.len {cd : Int32} {n : Nat} {f : Nat → Int32} {V : Cell} (h : Cod cd n f V) (hs : V.slots.size < 2 ^ 31) : Int32.ofNat V.slots.size >>> (cd &&& 31) = Int32.ofNat n := by
  rcases h with ⟨rfl, h, -⟩ | ⟨rfl, h, -⟩
  · rw [shr0, h]
  · rw [h, shr1 (by omega)]
/-- **x is a String of the n chars f 0 .. f (n - 1)**, Latin-1 or UTF-16; its array at t has the cell V -/
def Txt (x t : Addr) (V : Cell) (cd : Int32) (n : Nat) (f : Nat → Int32) (U : State) : Prop := Exact "java/lang/String" x U ∧ Has x "java/lang/String" "value" "[B" (.ref t) U ∧ Has x "java/lang/String" "coder" "B" (.int cd) U ∧ XT.Arr .byte t V U ∧ Cod cd n f V ∧ ∀ j, j < n → ¬ f j < 0 ∧ ¬ 65535 < f j
theorem Txt.mv {x t : Addr} {V : Cell} {cd : Int32} {n : Nat} {f : Nat → Int32} {U U' : State} (h : Txt x t V cd n f U) (hal : U.vm.Alike U'.vm) (hh : U'.heap = U.heap) : Txt x t V cd n f U' := ⟨h.1.mv hal hh, h.2.1.mv hal hh, h.2.2.1.mv hal hh, h.2.2.2.1.mv hal hh, h.2.2.2.2⟩
namespace Cdr
def yN : MethodName := ⟨"java/lang/String", "coder", "()B"⟩
abbrev yB : ByteArray := jdk_42_method_152_code
theorem d0 : decode yB 0 = .ok (.getstatic 38, 3) := by decide +kernel
theorem d3 : decode yB 3 = .ok (.ifCond (.eq) 10, 3) := by decide +kernel
theorem d6 : decode yB 6 = .ok (.aload_n 0, 1) := by decide +kernel
theorem d7 : decode yB 7 = .ok (.getfield 15, 3) := by decide +kernel
theorem d10 : decode yB 10 = .ok (.goto 4, 3) := by decide +kernel
theorem d14 : decode yB 14 = .ok (.ireturn, 1) := by decide +kernel
def site : List Cond := [.fieldLink "java/lang/String" 38 "java/lang/String" "COMPACT_STRINGS" "Z", .fieldLink "java/lang/String" 15 "java/lang/String" "coder" "B"]
def tab : Cond := tabOf yN yB 1 (some .byte) site
def P (x : Addr) (cd z : Int32) (args : Array Value) (s : State) : Prop := args = #[.ref x] ∧ Has x "java/lang/String" "coder" "B" (.int cd) s ∧ (cd = 0 ∨ cd = 1) ∧ StaticIs s "java/lang/String" "COMPACT_STRINGS" "Z" (.int z) ∧ ¬ z = 0
def E (cd : Int32) (r : Option Value) (s u : State) : Prop := XT.PureE (some (.int cd)) r s u
theorem law (l : Launch) (x : Addr) (cd z : Int32) : Law l yN 1 0 0 0 yB 1 (some .byte) site (P x cd z) (E cd) [] 0 0 := by
  refine Law.of_walk (plainFor_of_name (by decide +kernel)) (by decide +kernel) (by decide +kernel) (by decide) (fun _ _ h => by rw [h.1]; rfl) (fun _ U U' hal hh h => ⟨h.1, h.2.1.mv hal hh, h.2.2.1, h.2.2.2.1.there hal hh, h.2.2.2.2⟩) (fun r U U' V V' h1 hal h2 h => XT.PureE.mv r U U' V V' h1 hal h2 h) ?_
  intro p e s m args below meth c s₁ X0 hexec hbytes hml hret hlk hnm hown hh0 W hP
  obtain ⟨rfl, hx, hc, s1, hz⟩ := hP
  have c1 : Steps p.tables e below (s₁.setTop (entryFrame m #[.ref x] 1)) (s₁.setTop (mkF m 0 #[.val (.ref x)] [])) := entry rfl
  obtain ⟨T2, X2, q2, st2⟩ := X0.sget hexec hown (wk W (.fieldLink "java/lang/String" 38 "java/lang/String" "COMPACT_STRINGS" "Z")) s1 (fun _ _ h => by rw [hh0]; exact h) (g := (mkF m 0 #[.val (.ref x)] [])) rfl (hb hbytes d0)
  have hh2 := q2.trans hh0
  have c3 : Steps p.tables e below (s₁.setTop (entryFrame m #[.ref x] 1)) (T2.setTop (mkF m 7 #[.val (.ref x)] [.ref x])) := (c1.trans (st2 _ (Steps.refl _))).trans (by
    refine XS.ifNo X2.here hexec rfl (hb hbytes d3) rfl (i0_eq_f hz) ?_
    refine XS.aloadN X2.here hexec rfl (hb hbytes d6) rfl rfl ?_
    exact Steps.refl _)
  obtain ⟨T4, X4, q4, st4⟩ := X2.hget hexec hown (wk W (.fieldLink "java/lang/String" 15 "java/lang/String" "coder" "B")) (hx.mv X2.warmed.alike hh2) (g := (mkF m 7 #[.val (.ref x)] [.ref x])) rfl (rest := []) rfl (hb hbytes d7)
  have c5 : Steps p.tables e below (s₁.setTop (entryFrame m #[.ref x] 1)) (T4.setTop (mkF m 14 #[.val (.ref x)] [.int cd])) := (c3.trans (st4 _ (Steps.refl _))).trans (by
    refine XS.goto X4.here hexec rfl (pc0 := 10) rfl (hb hbytes d10) (by decide) rfl ?_
    exact Steps.refl _)
  exact ⟨T4, some (.int cd), _, _, _, X4, rfl, rfl, rfl, (fun h => by cases h), ⟨rfl, q4.trans hh2⟩, fun fs hl => c5.trans (X4.ireturnOut hexec hret (by rcases hc with rfl | rfl <;> rfl) (Or.inr (Or.inr (Or.inl rfl))) (hb hbytes d14) hl)⟩
end Cdr
namespace Len
def yN : MethodName := ⟨"java/lang/String", "length", "()I"⟩
abbrev yB : ByteArray := jdk_42_method_54_code
theorem d0 : decode yB 0 = .ok (.aload_n 0, 1) := by decide +kernel
theorem d1 : decode yB 1 = .ok (.getfield 9, 3) := by decide +kernel
theorem d4 : decode yB 4 = .ok (.arraylength, 1) := by decide +kernel
theorem d5 : decode yB 5 = .ok (.aload_n 0, 1) := by decide +kernel
theorem d6 : decode yB 6 = .ok (.invokevirtual 335, 3) := by decide +kernel
theorem d9 : decode yB 9 = .ok (.ishr, 1) := by decide +kernel
theorem d10 : decode yB 10 = .ok (.ireturn, 1) := by decide +kernel
def site : List Cond := [.fieldLink "java/lang/String" 9 "java/lang/String" "value" "[B", Cdr.tab] ++ virtW "java/lang/String" 335 "java/lang/String" Cdr.yN Cdr.yN
def tab : Cond := tabOf yN yB 1 (some .int) site
def P (x t : Addr) (V : Cell) (cd : Int32) (n : Nat) (f : Nat → Int32) (z : Int32) (args : Array Value) (s : State) : Prop := args = #[.ref x] ∧ Txt x t V cd n f s ∧ StaticIs s "java/lang/String" "COMPACT_STRINGS" "Z" (.int z) ∧ ¬ z = 0
def E (n : Nat) (r : Option Value) (s u : State) : Prop := XT.PureE (some (.int (Int32.ofNat n))) r s u
/-- length() of a String of n chars, in either coding -/
theorem law (l : Launch) (x t : Addr) (V : Cell) (cd : Int32) (n : Nat) (f : Nat → Int32) (z : Int32) : Law l yN 1 0 1 13 yB 1 (some .int) site (P x t V cd n f z) (E n) [] 0 0 := by
  refine Law.of_walk (plainFor_of_name (by decide +kernel)) (by decide +kernel) (by decide +kernel) (by decide) (fun _ _ h => by rw [h.1]; rfl) (fun _ U U' hal hh h => ⟨h.1, h.2.1.mv hal hh, h.2.2.1.there hal hh, h.2.2.2⟩) (fun r U U' V V' h1 hal h2 h => XT.PureE.mv r U U' V V' h1 hal h2 h) ?_
  intro p e s m args below meth c s₁ X0 hexec hbytes hml hret hlk hnm hown hh0 W hP
  obtain ⟨rfl, hx, s1, hz⟩ := hP
  have v31 := hx.2.2.2.1.2.2.2
  have c1 : Steps p.tables e below (s₁.setTop (entryFrame m #[.ref x] 1)) (s₁.setTop (mkF m 1 #[.val (.ref x)] [.ref x])) := Steps.trans (entry rfl) (by
    show Steps p.tables e below (s₁.setTop (mkF m 0 #[.val (.ref x)] [])) _
    refine XS.aloadN X0.here hexec rfl (hb hbytes d0) rfl rfl ?_
    exact Steps.refl _)
  obtain ⟨T2, X2, q2, st2⟩ := X0.hget hexec hown (wk W (.fieldLink "java/lang/String" 9 "java/lang/String" "value" "[B")) (hx.mv X0.warmed.alike hh0).2.1 (g := (mkF m 1 #[.val (.ref x)] [.ref x])) rfl (rest := []) rfl (hb hbytes d1)
  have hh2 := q2.trans hh0
  have hx2 := hx.mv X2.warmed.alike hh2
  have c3 : Steps p.tables e below (s₁.setTop (entryFrame m #[.ref x] 1)) (T2.setTop (mkF m 6 #[.val (.ref x)] [.ref x, .int (Int32.ofNat V.slots.size)])) := (c1.trans (st2 _ (Steps.refl _))).trans (by
    refine X2.alen hexec hx2.2.2.2.1 rfl rfl (hb hbytes d4) ?_
    refine XS.aloadN X2.here hexec rfl (hb hbytes d5) rfl rfl ?_
    exact Steps.refl _)
  obtain ⟨v4, T4, X4, E4, g4⟩ := X2.callV hexec (Cdr.law l x cd z) hown (wks W (virtW "java/lang/String" 335 "java/lang/String" Cdr.yN Cdr.yN)) rfl (by decide) (wk W Cdr.tab) (W := 1) (Nat.le_of_ble_eq_true rfl) (Nat.le_of_ble_eq_true rfl) (Nat.le_refl _) (Nat.le_refl _) (hx2.1.fc X2.warmed.alike) hx2.1.is (g := (mkF m 6 #[.val (.ref x)] [.ref x, .int (Int32.ofNat V.slots.size)])) rfl (by rw [hml]; rfl) c3 (argsL := []) (rest := [.int (Int32.ofNat V.slots.size)]) rfl rfl (by show 2 * 0 + (1 + 0) ≤ _; decide) (hb hbytes d6) (⟨rfl, hx2.2.2.1, hx.2.2.2.2.1.cd, s1.there X2.warmed.alike hh2, hz⟩)
  obtain ⟨rfl, q4⟩ := E4
  have c5 : Steps p.tables e below (s₁.setTop (entryFrame m #[.ref x] 1)) (T4.setTop (mkF m 10 #[.val (.ref x)] [.int (Int32.ofNat V.slots.size >>> (cd &&& 31))])) := Steps.trans g4 (by
    refine ishr X4.here hexec rfl (hb hbytes d9) rfl ?_
    exact Steps.refl _)
  rw [hx.2.2.2.2.1.len v31] at c5
  exact ⟨T4, some (.int (Int32.ofNat n)), _, _, _, X4, rfl, rfl, rfl, (fun h => by cases h), ⟨rfl, q4.trans hh2⟩, fun fs hl => c5.trans (X4.ireturnOut hexec hret rfl (Or.inl rfl) (hb hbytes d10) hl)⟩
theorem pays {l : Launch} {R : Room} {p : Program} {e : Env} {below : List Frame} {s : State} {sargs : Array Value} {len W : Nat} (x t : Addr) (V : Cell) (cd : Int32) (n : Nat) (f : Nat → Int32) (z : Int32) (htab : tab.before sargs s = true) (hfr : 2 ≤ R.frames) (hlo : W + 25 ≤ R.locals) :
    Back l R p e below s sargs yN len W (fun A₁ a₁ => A₁.cells + 0 ≤ R.cells ∧ A₁.slots + 0 ≤ R.slots ∧ P x t V cd n f z a₁ A₁.U) (fun A₁ _ v₁ B₁ => E n v₁ A₁.U B₁.U ∧ B₁.locs = A₁.locs ++ [] ∧ B₁.cells = A₁.cells + 0 ∧ B₁.slots = A₁.slots + 0) :=
  (law l x t V cd n f z).pays htab hfr (by omega)
end Len
namespace IsL
def yN : MethodName := ⟨"java/lang/String", "isLatin1", "()Z"⟩
abbrev yB : ByteArray := jdk_42_method_154_code
theorem d0 : decode yB 0 = .ok (.getstatic 38, 3) := by decide +kernel
theorem d3 : decode yB 3 = .ok (.ifCond (.eq) 14, 3) := by decide +kernel
theorem d6 : decode yB 6 = .ok (.aload_n 0, 1) := by decide +kernel
theorem d7 : decode yB 7 = .ok (.getfield 15, 3) := by decide +kernel
theorem d10 : decode yB 10 = .ok (.ifCond (.ne) 7, 3) := by decide +kernel
theorem d13 : decode yB 13 = .ok (.iconst 1, 1) := by decide +kernel
theorem d14 : decode yB 14 = .ok (.goto 4, 3) := by decide +kernel
theorem d17 : decode yB 17 = .ok (.iconst 0, 1) := by decide +kernel
theorem d18 : decode yB 18 = .ok (.ireturn, 1) := by decide +kernel
def site : List Cond := [.fieldLink "java/lang/String" 38 "java/lang/String" "COMPACT_STRINGS" "Z", .fieldLink "java/lang/String" 15 "java/lang/String" "coder" "B"]
def tab : Cond := tabOf yN yB 1 (some .boolean) site
def P (x : Addr) (cd z : Int32) (args : Array Value) (s : State) : Prop := args = #[.ref x] ∧ Has x "java/lang/String" "coder" "B" (.int cd) s ∧ (cd = 0 ∨ cd = 1) ∧ StaticIs s "java/lang/String" "COMPACT_STRINGS" "Z" (.int z) ∧ ¬ z = 0
def E (cd : Int32) (r : Option Value) (s u : State) : Prop := XT.PureE (some (.int (1 - cd))) r s u
theorem law (l : Launch) (x : Addr) (cd z : Int32) : Law l yN 1 0 0 0 yB 1 (some .boolean) site (P x cd z) (E cd) [] 0 0 := by
  refine Law.of_walk (plainFor_of_name (by decide +kernel)) (by decide +kernel) (by decide +kernel) (by decide) (fun _ _ h => by rw [h.1]; rfl) (fun _ U U' hal hh h => ⟨h.1, h.2.1.mv hal hh, h.2.2.1, h.2.2.2.1.there hal hh, h.2.2.2.2⟩) (fun r U U' V V' h1 hal h2 h => XT.PureE.mv r U U' V V' h1 hal h2 h) ?_
  intro p e s m args below meth c s₁ X0 hexec hbytes hml hret hlk hnm hown hh0 W hP
  obtain ⟨rfl, hx, hc, s1, hz⟩ := hP
  have c1 : Steps p.tables e below (s₁.setTop (entryFrame m #[.ref x] 1)) (s₁.setTop (mkF m 0 #[.val (.ref x)] [])) := entry rfl
  obtain ⟨T2, X2, q2, st2⟩ := X0.sget hexec hown (wk W (.fieldLink "java/lang/String" 38 "java/lang/String" "COMPACT_STRINGS" "Z")) s1 (fun _ _ h => by rw [hh0]; exact h) (g := (mkF m 0 #[.val (.ref x)] [])) rfl (hb hbytes d0)
  have hh2 := q2.trans hh0
  have c3 : Steps p.tables e below (s₁.setTop (entryFrame m #[.ref x] 1)) (T2.setTop (mkF m 7 #[.val (.ref x)] [.ref x])) := (c1.trans (st2 _ (Steps.refl _))).trans (by
    refine XS.ifNo X2.here hexec rfl (hb hbytes d3) rfl (i0_eq_f hz) ?_
    refine XS.aloadN X2.here hexec rfl (hb hbytes d6) rfl rfl ?_
    exact Steps.refl _)
  obtain ⟨T4, X4, q4, st4⟩ := X2.hget hexec hown (wk W (.fieldLink "java/lang/String" 15 "java/lang/String" "coder" "B")) (hx.mv X2.warmed.alike hh2) (g := (mkF m 7 #[.val (.ref x)] [.ref x])) rfl (rest := []) rfl (hb hbytes d7)
  have c5 : Steps p.tables e below (s₁.setTop (entryFrame m #[.ref x] 1)) (T4.setTop (mkF m 10 #[.val (.ref x)] [.int cd])) := c3.trans (st4 _ (Steps.refl _))
  have c6 : Steps p.tables e below (s₁.setTop (entryFrame m #[.ref x] 1)) (T4.setTop (mkF m 18 #[.val (.ref x)] [.int (1 - cd)])) := by
    rcases hc with rfl | rfl
    · exact c5.trans (by
        refine XS.ifNo X4.here hexec rfl (hb hbytes d10) rfl (i0_ne_f rfl) ?_
        refine iconstV X4.here hexec rfl 1 (hb hbytes d13) (by decide) ?_
        refine XS.goto X4.here hexec rfl (pc0 := 14) rfl (hb hbytes d14) (by decide) rfl ?_
        exact Steps.refl _)
    · exact c5.trans (by
        refine XS.ifYes X4.here hexec rfl (pc0 := 10) rfl (hb hbytes d10) rfl (i0_ne_t (by decide)) (by decide) rfl ?_
        refine iconstV X4.here hexec rfl 0 (hb hbytes d17) (by decide) ?_
        exact Steps.refl _)
  exact ⟨T4, some (.int (1 - cd)), _, _, _, X4, rfl, rfl, rfl, (fun h => by cases h), ⟨rfl, q4.trans hh2⟩, fun fs hl => c6.trans (X4.ireturnOut hexec hret (by rcases hc with rfl | rfl <;> rfl) (Or.inr (Or.inl rfl)) (hb hbytes d18) hl)⟩
end IsL
namespace LChA
def yN : MethodName := ⟨"java/lang/StringLatin1", "charAt", "([BI)C"⟩
abbrev yB : ByteArray := jdk_43_method_2_code
theorem d0 : decode yB 0 = .ok (.iload_n 1, 1) := by decide +kernel
theorem d1 : decode yB 1 = .ok (.aload_n 0, 1) := by decide +kernel
theorem d2 : decode yB 2 = .ok (.arraylength, 1) := by decide +kernel
theorem d3 : decode yB 3 = .ok (.invokestatic 9, 3) := by decide +kernel
theorem d6 : decode yB 6 = .ok (.aload_n 0, 1) := by decide +kernel
theorem d7 : decode yB 7 = .ok (.iload_n 1, 1) := by decide +kernel
theorem d8 : decode yB 8 = .ok (.baload, 1) := by decide +kernel
theorem d9 : decode yB 9 = .ok (.sipush 255, 3) := by decide +kernel
theorem d12 : decode yB 12 = .ok (.iand, 1) := by decide +kernel
theorem d13 : decode yB 13 = .ok (.i2c, 1) := by decide +kernel
theorem d14 : decode yB 14 = .ok (.ireturn, 1) := by decide +kernel
def site : List Cond := [JO.Str_checkIndex.tab] ++ staticW "java/lang/StringLatin1" 9 JO.Str_checkIndex.yN
def tab : Cond := tabOf yN yB 2 (some .char) site
def P (t : Addr) (V : Cell) (i : Nat) (u : Int32) (fm : Value) (args : Array Value) (s : State) : Prop := args = #[.ref t, .int (Int32.ofNat i)] ∧ XT.Arr .byte t V s ∧ V.slots[i]? = some (.int u) ∧ (StaticIs s "jdk/internal/util/Preconditions" "SIOOBE_FORMATTER" "Ljava/util/function/BiFunction;" fm ∧ fm.isRef = true)
def E (u : Int32) (r : Option Value) (s w : State) : Prop := XT.PureE (some (.int (chr8 u))) r s w
theorem law (l : Launch) (t : Addr) (V : Cell) (i : Nat) (u : Int32) (fm : Value) : Law l yN 2 2 2 27 yB 2 (some .char) site (P t V i u fm) (E u) [] 0 0 := by
  refine Law.of_walk (plainFor_of_name (by decide +kernel)) (by decide +kernel) (by decide +kernel) (by decide) (fun _ _ h => by rw [h.1]; rfl) (fun _ U U' hal hh h => ⟨h.1, h.2.1.mv hal hh, h.2.2.1, h.2.2.2.1.there hal hh, h.2.2.2.2⟩) (fun r U U' V V' h1 hal h2 h => XT.PureE.mv r U U' V V' h1 hal h2 h) ?_
  intro p e s m args below meth c s₁ X0 hexec hbytes hml hret hlk hnm hown hh0 W hP
  obtain ⟨rfl, hV, hu, s1, rf⟩ := hP
  have v31 := hV.2.2.2
  have hi : i < V.slots.size := (Array.getElem?_eq_some_iff.mp hu).1
  have c1 : Steps p.tables e below (s₁.setTop (entryFrame m #[.ref t, .int (Int32.ofNat i)] 2)) (s₁.setTop (mkF m 0 #[.val (.ref t), .val (.int (Int32.ofNat i))] [])) := entry rfl
  have c2 : Steps p.tables e below (s₁.setTop (entryFrame m #[.ref t, .int (Int32.ofNat i)] 2)) (s₁.setTop (mkF m 3 #[.val (.ref t), .val (.int (Int32.ofNat i))] [.int (Int32.ofNat V.slots.size), .int (Int32.ofNat i)])) := c1.trans (by
    refine XS.iloadN X0.here hexec rfl (hb hbytes d0) rfl ?_
    refine XS.aloadN X0.here hexec rfl (hb hbytes d1) rfl rfl ?_
    refine X0.alen hexec (hV.mv X0.warmed.alike hh0) rfl rfl (hb hbytes d2) ?_
    exact Steps.refl _)
  obtain ⟨v3, T3, X3, E3, g3⟩ := X0.callS hexec (JO.Str_checkIndex.law l (Int32.ofNat i) (Int32.ofNat V.slots.size) fm) hown (wks W (staticW "java/lang/StringLatin1" 9 JO.Str_checkIndex.yN)) (wk W JO.Str_checkIndex.tab) (W := 0) (Nat.le_of_ble_eq_true rfl) (Nat.le_of_ble_eq_true rfl) (Nat.le_refl _) (Nat.le_refl _) (g := (mkF m 3 #[.val (.ref t), .val (.int (Int32.ofNat i))] [.int (Int32.ofNat V.slots.size), .int (Int32.ofNat i)])) rfl (by rw [hml]; rfl) c2 (argsL := [.int (Int32.ofNat i), .int (Int32.ofNat V.slots.size)]) (rest := []) rfl rfl (by show 2 * 0 + 0 ≤ _; decide) (hb hbytes d3) (⟨rfl, rf, s1.there X0.warmed.alike hh0, Int32.ofNat_not_neg (by omega), lt32 v31 hi⟩)
  obtain ⟨rfl, q3⟩ := E3
  have hh3 := q3.trans hh0
  have c4 : Steps p.tables e below (s₁.setTop (entryFrame m #[.ref t, .int (Int32.ofNat i)] 2)) (T3.setTop (mkF m 14 #[.val (.ref t), .val (.int (Int32.ofNat i))] [.int (chr8 u)])) := Steps.trans g3 (by
    refine XS.aloadN X3.here hexec rfl (hb hbytes d6) rfl rfl ?_
    refine XS.iloadN X3.here hexec rfl (hb hbytes d7) rfl ?_
    refine X3.aget hexec (hV.mv X3.warmed.alike hh3) rfl hu rfl rfl (hb hbytes d8) ?_
    refine sipushV X3.here hexec rfl 255 (hb hbytes d9) (by decide) ?_
    refine XS.iand X3.here hexec rfl (hb hbytes d12) rfl ?_
    refine i2c X3.here hexec rfl (hb hbytes d13) rfl ?_
    exact Steps.refl _)
  exact ⟨T3, some (.int (chr8 u)), _, _, _, X3, rfl, rfl, rfl, (fun h => by cases h), ⟨rfl, hh3⟩, fun fs hl => c4.trans (X3.ireturnOut hexec hret (narrow_c _) (Or.inr (Or.inr (Or.inr (Or.inl rfl)))) (hb hbytes d14) hl)⟩
end LChA
end StrChars
namespace StrChars.Road
open Jvm Sem ClassFile Op Lib Jvm.Stand Jvm.Free Jvm.Free.XT
open Jvm.Lib.Cold (StaticIs)
theorem consq {a : Array Value} {s : State} {c : Jvm.Cond} {L : List Jvm.Cond} (h0 : c.before a s = true) (h : ∀ w ∈ L, w.before a s = true) : ∀ w ∈ c :: L, w.before a s = true := fun w hw => (List.mem_cons.mp hw).elim (fun e => e ▸ h0) (h w)
/-- the words of String.length(), either coding -/
abbrev wordsLen : List Jvm.Cond := [.code Len.yN Len.yB 1 (some .int), .initialized ST, .fieldLink ST 9 ST "value" "[B", .fieldLink ST 38 ST "COMPACT_STRINGS" "Z", .fieldLink ST 15 ST "coder" "B", .code Cdr.yN Cdr.yB 1 (some .byte), .methodLink ST 335 Cdr.yN, .declares Cdr.yN, .selects ST Cdr.yN Cdr.yN, .instanceMethod Cdr.yN]
theorem tabLen_of {a : Array Value} {s : State} (h : ∀ w ∈ wordsLen, w.before a s = true) : Len.tab.before a s = true := by
  have hc : Cdr.tab.before a s = true := unparts (wk h (.code Cdr.yN Cdr.yB 1 (some .byte))) (wks h (.initialized Cdr.yN.cls :: Cdr.site))
  have q := consq hc h
  exact unparts (wk q (.code Len.yN Len.yB 1 (some .int))) (wks q (.initialized Len.yN.cls :: Len.site))
theorem movedLen {Z s : State} {a0 args : Array Value} (hZ : Z.Warmed39 s.vm) (hw : ∀ d ∈ wordsLen, d.before a0 Z = true) : ∀ d ∈ wordsLen, d.before args s = true := fun d hd => by
  have q := hw d hd
  have t : ∀ d ∈ wordsLen, d = .arrayClass .byte ∨ (d.onTables && d.keepsFace) = true := by decide +kernel
  rcases t d hd with rfl | t
  · exact RoadKit.mvA hZ q
  · exact RoadKit.mv hZ q t
/-- the bytes of the chars cs, low before high -/
def wideBytes : List Int32 → List Value
  | [] => []
  | c :: cs => .int (lo8 c) :: .int (hi8 c) :: wideBytes cs
theorem wide_lo (d : Value) : ∀ (cs : List Int32) (j : Nat), j < cs.length → (wideBytes cs).getD (2 * j) d = .int (lo8 (cs.getD j 0))
  | [], j, h => absurd h (Nat.not_lt_zero j)
  | c :: cs, 0, _ => rfl
  | c :: cs, j + 1, h => by
    have q := wide_lo d cs j (by simpa using h)
    rw [show 2 * (j + 1) = 2 * j + 1 + 1 from by omega]
    simpa [wideBytes] using q
theorem wide_hi (d : Value) : ∀ (cs : List Int32) (j : Nat), j < cs.length → (wideBytes cs).getD (2 * j + 1) d = .int (hi8 (cs.getD j 0))
  | [], j, h => absurd h (Nat.not_lt_zero j)
  | c :: cs, 0, _ => rfl
  | c :: cs, j + 1, h => by
    have q := wide_hi d cs j (by simpa using h)
    rw [show 2 * (j + 1) + 1 = 2 * j + 1 + 1 + 1 from by omega]
    simpa [wideBytes] using q
theorem low_at (d : Value) (cs : List Int32) (j : Nat) (h : j < cs.length) : (cs.map fun c => Value.int (lo8 c)).getD j d = .int (lo8 (cs.getD j 0)) := by
  simp [List.getD_eq_getElem?_getD, h]
/-- an array of N2 bytes vs codes the chars cs by the coder cd -/
def CodA (cs : List Int32) (cd N2 : Int32) (vs : List Value) : Prop := (cd = 0 ∧ N2 = Int32.ofNat cs.length ∧ vs = (cs.map fun c => Value.int (lo8 c)) ∧ ∀ c ∈ cs, ¬ 255 < c) ∨ (cd = 1 ∧ N2 = Int32.ofNat (2 * cs.length) ∧ vs = wideBytes cs ∧ ∃ c ∈ cs, 255 < c)
theorem CodA.cod {cs : List Int32} {cd N2 : Int32} {vs : List Value} {V : Cell} (h : CodA cs cd N2 vs) (hn : 2 * cs.length < 2 ^ 31) (hs : V.slots.size = N2.toNatClampNeg) (hv : RoadKit.Has V vs (.int 0)) : Cod cd cs.length (fun j => cs.getD j 0) V := by
  rcases h with ⟨rfl, rfl, rfl, h⟩ | ⟨rfl, rfl, rfl, c, hc, hw⟩
  · rw [n32 (by omega)] at hs
    exact Or.inl ⟨rfl, hs, fun j hj => ⟨by rw [hv j (by omega), low_at _ _ _ hj], by
      have e : cs.getD j 0 = cs[j] := by simp [List.getD_eq_getElem?_getD, hj]
      show ¬ 255 < cs.getD j 0
      rw [e]; exact h _ (List.getElem_mem _)⟩⟩
  · rw [n32 (by omega)] at hs
    obtain ⟨j, hj, rfl⟩ := List.getElem_of_mem hc
    exact Or.inr ⟨rfl, hs, fun j hj => ⟨by rw [hv _ (by omega), wide_lo _ _ _ hj], by rw [hv _ (by omega), wide_hi _ _ _ hj]⟩, j, hj, by
      have e : cs.getD j 0 = cs[j] := by simp [List.getD_eq_getElem?_getD, hj]
      show 255 < cs.getD j 0
      rw [e]; exact hw⟩
/-- an object of exactly java/lang/String, its two fields found: as the laws ask it -/
theorem strObj {Z U : State} {a0 : Array Value} {kI : Nat} (wi : (Jvm.Cond.instantiable ST kI).before a0 Z = true) (al : Z.vm.Alike U.vm) {x : Addr} {v0 c0 : Value} (E : RoadKit.Exa Z U.heap x ST) (V : RoadKit.Fld Z U.heap x ST "value" "[B" v0) (C : RoadKit.Fld Z U.heap x ST "coder" "B" c0) :
    ∃ (D : Cell) (fV fC : Field), Blank ST x D U ∧ Found ST "value" "[B" fV U ∧ Found ST "coder" "B" fC U ∧ D.slots[fV.slot]? = some v0 ∧ D.slots[fC.slot]? = some c0 ∧ RoadKit.slotOf Z ST "value" "[B" = fV.slot ∧ RoadKit.slotOf Z ST "coder" "B" = fC.slot := by
  obtain ⟨D, cfV, kV, iV, fV, hD, gV, stV, knV, obV, asV, slV⟩ := V
  obtain ⟨D', cfC, kC, iC, fC, hD', gC, stC, -, -, asC, slC⟩ := C
  cases hD.symm.trans hD'
  obtain ⟨D2, kD, e1, e2, e3, e4, e5⟩ := E
  cases hD.symm.trans e1
  obtain ⟨c2, k2, i1, i2, i3, -⟩ := Cond.instantiable_spec wi
  cases e2.symm.trans i1
  cases e3.symm.trans i2
  obtain ⟨kU, u1, u2⟩ := al.2.2 _ _ e3
  exact ⟨D, fV, fC, ⟨hD, ⟨knV, fun q hq => by rw [hq] at obV; cases obV⟩, by rw [al.findClass]; exact e2, kU, u1, by rw [u2]; exact i3, by rw [u2]; exact e5 i3⟩, ⟨SBG.found_only al ⟨cfV, kV, iV, gV⟩, stV⟩, ⟨SBG.found_only al ⟨cfC, kC, iC, gC⟩, stC⟩, slV, slC, by simp [RoadKit.slotOf, gV], by simp [RoadKit.slotOf, gC]⟩
theorem sta_is {Z U : State} (al : Z.vm.Alike U.vm) {C n d : String} {v : Value} (S : RoadKit.Sta Z U.heap C n d v) : StaticIs U C n d v := by
  obtain ⟨cfS, iS, kS, fS, st, cS, t1, t2, t3, t4, t5, t6, t7⟩ := S
  exact StaticIs.there (s := { Z with heap := U.heap }) ⟨cfS, iS, kS, fS, st, cS, t1, t2, t3, t4, t5, (fun q => by rw [q] at t6; cases t6), t7⟩ al rfl
/-- **length() OF SUCH A STRING** -/
theorem lenW {p : Program} {l : Launch} {e : Env} {R : Room} {s : State} {args : Array Value} {below : List Frame} {len W : Nat} {Z : State} {a0 : Array Value} {h : Heap} (hZ : Z.Warmed39 s.vm) (hw : ∀ d ∈ wordsLen, d.before a0 Z = true) {kI : Nat} (wi : (Jvm.Cond.instantiable ST kI).before a0 Z = true)
    {x t : Addr} {kb : ClassId} {cs : List Int32} {cd N2 z : Int32} {vs : List Value} (E : RoadKit.Exa Z h x ST) (V : RoadKit.Fld Z h x ST "value" "[B" (.ref t)) (C : RoadKit.Fld Z h x ST "coder" "B" (.int cd)) (K : RoadKit.Arv Z h t kb .byte N2 vs (.int 0)) (hc : CodA cs cd N2 vs) (hb : ∀ c ∈ cs, ¬ c < 0 ∧ ¬ (65535 : Int32) < c)
    (S : RoadKit.Sta Z h ST "COMPACT_STRINGS" "Z" (.int z)) (hz : ¬ z = 0) (l2 : cs.length ≤ 4000) (hfr : 2 ≤ R.frames) (hlo : W + 25 ≤ R.locals) :
    Back l R p e below s args (⟨"java/lang/String", "length", "()I"⟩ : MethodName) len W (fun P a => a = #[.ref x] ∧ P.U.heap = h ∧ P.cells + 0 ≤ R.cells ∧ P.slots + 0 ≤ R.slots)
      (fun P _ v B => ∃ L, (v = some (.int (Int32.ofNat cs.length)) ∧ L = [] ∧ B.U.heap = h) ∧ B.locs = P.locs ++ L ∧ B.cells = P.cells + 0 ∧ B.slots = P.slots + 0) := by
  obtain ⟨A, K1, K2, K3, K4, K5, K6⟩ := K
  have hcod := hc.cod (by omega) K3 K5
  intro m meth c P g ig mk a X hg hsize hdg hW hn hp'
  obtain ⟨rfl, rfl, r1, r2⟩ := hp'
  have al : Z.vm.Alike P.U.vm := hZ.alike.trans X.warmed.alike
  obtain ⟨D, fV, fC, hB, F1, F2, g1, g2, -, -⟩ := strObj wi al E V C
  have hx : Txt x t A cd cs.length (fun j => cs.getD j 0) P.U := ⟨⟨_, hB.2.2.1, D, hB.1, rfl, by cases q : D.vm <;> first | rfl | exact absurd q (hB.2.1.2 _)⟩, Has.of hB F1 g1, Has.of hB F2 g2, ⟨K1.1, State.isArrayOf_alike al K1.2.1, K1.2.2, by rcases hcod with ⟨-, q, -⟩ | ⟨-, q, -⟩ <;> omega⟩, hcod, fun j hj => by
    have e : cs.getD j 0 = cs[j] := by simp [List.getD_eq_getElem?_getD, hj]
    show ¬ cs.getD j 0 < 0 ∧ ¬ 65535 < cs.getD j 0
    rw [e]; exact hb _ (List.getElem_mem _)⟩
  obtain ⟨v, B, X', ⟨⟨hv, hh⟩, hl, hk, hs⟩, st⟩ := Len.pays x t A cd cs.length (fun j => cs.getD j 0) z (tabLen_of (movedLen hZ hw)) hfr hlo m meth c P g ig mk _ X hg hsize hdg hW hn ⟨r1, r2, rfl, hx, sta_is al S, hz⟩
  exact ⟨v, B, X', ⟨[], ⟨hv, rfl, hh⟩, hl, hk, hs⟩, st⟩
end StrChars.Road
namespace StrChars
open Jvm Sem ClassFile Op Lib Jvm.Stand Jvm.Free.XT Jvm.Free.ALB Jvm.Free.JM Jvm.Free
open Jvm.Lib.Cold (StaticIs)
namespace Emp
def yN : MethodName := ⟨"java/lang/String", "isEmpty", "()Z"⟩
abbrev yB : ByteArray := jdk_42_method_55_code
theorem d0 : decode yB 0 = .ok (.aload_n 0, 1) := by decide +kernel
theorem d1 : decode yB 1 = .ok (.getfield 9, 3) := by decide +kernel
theorem d4 : decode yB 4 = .ok (.arraylength, 1) := by decide +kernel
theorem d5 : decode yB 5 = .ok (.ifCond (.ne) 7, 3) := by decide +kernel
theorem d8 : decode yB 8 = .ok (.iconst 1, 1) := by decide +kernel
theorem d9 : decode yB 9 = .ok (.goto 4, 3) := by decide +kernel
theorem d12 : decode yB 12 = .ok (.iconst 0, 1) := by decide +kernel
theorem d13 : decode yB 13 = .ok (.ireturn, 1) := by decide +kernel
def site : List Cond := [.fieldLink "java/lang/String" 9 "java/lang/String" "value" "[B"]
def tab : Cond := tabOf yN yB 1 (some .boolean) site
def P (x t : Addr) (V : Cell) (cd : Int32) (n : Nat) (f : Nat → Int32) (args : Array Value) (s : State) : Prop := args = #[.ref x] ∧ Txt x t V cd n f s
def E (n : Nat) (r : Option Value) (s u : State) : Prop := XT.PureE (some (.int (if n = 0 then 1 else 0))) r s u
/-- isEmpty() of a String of n chars -/
theorem law (l : Launch) (x t : Addr) (V : Cell) (cd : Int32) (n : Nat) (f : Nat → Int32) : Law l yN 1 0 0 0 yB 1 (some .boolean) site (P x t V cd n f) (E n) [] 0 0 := by
  refine Law.of_walk (plainFor_of_name (by decide +kernel)) (by decide +kernel) (by decide +kernel) (by decide) (fun _ _ h => by rw [h.1]; rfl) (fun _ U U' hal hh h => ⟨h.1, h.2.mv hal hh⟩) (fun r U U' V V' h1 hal h2 h => XT.PureE.mv r U U' V V' h1 hal h2 h) ?_
  intro p e s m args below meth c s₁ X0 hexec hbytes hml hret hlk hnm hown hh0 W hP
  obtain ⟨rfl, hx⟩ := hP
  have v31 := hx.2.2.2.1.2.2.2
  have c1 : Steps p.tables e below (s₁.setTop (entryFrame m #[.ref x] 1)) (s₁.setTop (mkF m 1 #[.val (.ref x)] [.ref x])) := Steps.trans (entry rfl) (by
    show Steps p.tables e below (s₁.setTop (mkF m 0 #[.val (.ref x)] [])) _
    refine XS.aloadN X0.here hexec rfl (hb hbytes d0) rfl rfl ?_
    exact Steps.refl _)
  obtain ⟨T2, X2, q2, st2⟩ := X0.hget hexec hown (wk W (.fieldLink "java/lang/String" 9 "java/lang/String" "value" "[B")) (hx.mv X0.warmed.alike hh0).2.1 (g := (mkF m 1 #[.val (.ref x)] [.ref x])) rfl (rest := []) rfl (hb hbytes d1)
  have hh2 := q2.trans hh0
  have hx2 := hx.mv X2.warmed.alike hh2
  have c3 : Steps p.tables e below (s₁.setTop (entryFrame m #[.ref x] 1)) (T2.setTop (mkF m 5 #[.val (.ref x)] [.int (Int32.ofNat V.slots.size)])) := (c1.trans (st2 _ (Steps.refl _))).trans (by
    refine X2.alen hexec hx2.2.2.2.1 rfl rfl (hb hbytes d4) ?_
    exact Steps.refl _)
  have hz : V.slots.size = 0 ↔ n = 0 := by
    rcases hx.2.2.2.2.1 with ⟨-, q, -⟩ | ⟨-, q, -⟩ <;> omega
  by_cases h0 : n = 0
  · have c4 : Steps p.tables e below (s₁.setTop (entryFrame m #[.ref x] 1)) (T2.setTop (mkF m 13 #[.val (.ref x)] [.int 1])) := c3.trans (by
      refine XS.ifNo X2.here hexec rfl (hb hbytes d5) rfl (i0_ne_f (by rw [hz.mpr h0]; rfl)) ?_
      refine iconstV X2.here hexec rfl 1 (hb hbytes d8) (by decide) ?_
      refine XS.goto X2.here hexec rfl (pc0 := 9) rfl (hb hbytes d9) (by decide) rfl ?_
      exact Steps.refl _)
    exact ⟨T2, some (.int 1), _, _, _, X2, rfl, rfl, rfl, (fun h => by cases h), ⟨by rw [if_pos h0], hh2⟩, fun fs hl => c4.trans (X2.ireturnOut hexec hret rfl (Or.inr (Or.inl rfl)) (hb hbytes d13) hl)⟩
  · have c4 : Steps p.tables e below (s₁.setTop (entryFrame m #[.ref x] 1)) (T2.setTop (mkF m 13 #[.val (.ref x)] [.int 0])) := c3.trans (by
      refine XS.ifYes X2.here hexec rfl (pc0 := 5) rfl (hb hbytes d5) rfl (i0_ne_t (nz32 v31 (by omega))) (by decide) rfl ?_
      refine iconstV X2.here hexec rfl 0 (hb hbytes d12) (by decide) ?_
      exact Steps.refl _)
    exact ⟨T2, some (.int 0), _, _, _, X2, rfl, rfl, rfl, (fun h => by cases h), ⟨by rw [if_neg h0], hh2⟩, fun fs hl => c4.trans (X2.ireturnOut hexec hret rfl (Or.inr (Or.inl rfl)) (hb hbytes d13) hl)⟩
theorem pays {l : Launch} {R : Room} {p : Program} {e : Env} {below : List Frame} {s : State} {sargs : Array Value} {len W : Nat} (x t : Addr) (V : Cell) (cd : Int32) (n : Nat) (f : Nat → Int32) (htab : tab.before sargs s = true) (hfr : 1 ≤ R.frames) (hlo : W + 12 ≤ R.locals) :
    Back l R p e below s sargs yN len W (fun A₁ a₁ => A₁.cells + 0 ≤ R.cells ∧ A₁.slots + 0 ≤ R.slots ∧ P x t V cd n f a₁ A₁.U) (fun A₁ _ v₁ B₁ => E n v₁ A₁.U B₁.U ∧ B₁.locs = A₁.locs ++ [] ∧ B₁.cells = A₁.cells + 0 ∧ B₁.slots = A₁.slots + 0) :=
  (law l x t V cd n f).pays htab hfr (by omega)
end Emp
end StrChars
namespace StrChars.Road
open Jvm Sem ClassFile Op Lib Jvm.Stand Jvm.Free Jvm.Free.XT
open Jvm.Lib.Cold (StaticIs)
/-- the words of String.isEmpty() -/
abbrev wordsEmp : List Jvm.Cond := [.code Emp.yN Emp.yB 1 (some .boolean), .initialized ST, .fieldLink ST 9 ST "value" "[B"]
theorem tabEmp_of {a : Array Value} {s : State} (h : ∀ w ∈ wordsEmp, w.before a s = true) : Emp.tab.before a s = true := unparts (wk h (.code Emp.yN Emp.yB 1 (some .boolean))) (wks h (.initialized Emp.yN.cls :: Emp.site))
theorem movedEmp {Z s : State} {a0 args : Array Value} (hZ : Z.Warmed39 s.vm) (hw : ∀ d ∈ wordsEmp, d.before a0 Z = true) : ∀ d ∈ wordsEmp, d.before args s = true := fun d hd => by
  have t : ∀ d ∈ wordsEmp, (d.onTables && d.keepsFace) = true := by decide +kernel
  exact RoadKit.mv hZ (hw d hd) (t d hd)
/-- the road's facts of a String, as the laws ask it -/
theorem txt_of {Z U : State} {a0 : Array Value} {kI : Nat} (wi : (Jvm.Cond.instantiable ST kI).before a0 Z = true) (al : Z.vm.Alike U.vm) {x t : Addr} {kb : ClassId} {cs : List Int32} {cd N2 : Int32} {vs : List Value} (E : RoadKit.Exa Z U.heap x ST) (V : RoadKit.Fld Z U.heap x ST "value" "[B" (.ref t)) (C : RoadKit.Fld Z U.heap x ST "coder" "B" (.int cd)) (K : RoadKit.Arv Z U.heap t kb .byte N2 vs (.int 0)) (hc : CodA cs cd N2 vs) (hb : ∀ c ∈ cs, ¬ c < 0 ∧ ¬ (65535 : Int32) < c) (l2 : cs.length ≤ 4000) :
    ∃ A, Txt x t A cd cs.length (fun j => cs.getD j 0) U := by
  obtain ⟨A, K1, K2, K3, K4, K5, K6⟩ := K
  have hcod := hc.cod (by omega) K3 K5
  obtain ⟨D, fV, fC, hB, F1, F2, g1, g2, -, -⟩ := strObj wi al E V C
  exact ⟨A, ⟨_, hB.2.2.1, D, hB.1, rfl, by cases q : D.vm <;> first | rfl | exact absurd q (hB.2.1.2 _)⟩, Has.of hB F1 g1, Has.of hB F2 g2, ⟨K1.1, State.isArrayOf_alike al K1.2.1, K1.2.2, by rcases hcod with ⟨-, q, -⟩ | ⟨-, q, -⟩ <;> omega⟩, hcod, fun j hj => by
    have e : cs.getD j 0 = cs[j] := by simp [List.getD_eq_getElem?_getD, hj]
    show ¬ cs.getD j 0 < 0 ∧ ¬ 65535 < cs.getD j 0
    rw [e]; exact hb _ (List.getElem_mem _)⟩
/-- **isEmpty() OF SUCH A STRING** -/
theorem empW {p : Program} {l : Launch} {e : Env} {R : Room} {s : State} {args : Array Value} {below : List Frame} {len W : Nat} {Z : State} {a0 : Array Value} {h : Heap} (hZ : Z.Warmed39 s.vm) (hw : ∀ d ∈ wordsEmp, d.before a0 Z = true) {kI : Nat} (wi : (Jvm.Cond.instantiable ST kI).before a0 Z = true)
    {x t : Addr} {kb : ClassId} {cs : List Int32} {cd N2 : Int32} {vs : List Value} (E : RoadKit.Exa Z h x ST) (V : RoadKit.Fld Z h x ST "value" "[B" (.ref t)) (C : RoadKit.Fld Z h x ST "coder" "B" (.int cd)) (K : RoadKit.Arv Z h t kb .byte N2 vs (.int 0)) (hc : CodA cs cd N2 vs) (hb : ∀ c ∈ cs, ¬ c < 0 ∧ ¬ (65535 : Int32) < c) (l2 : cs.length ≤ 4000) (hfr : 1 ≤ R.frames) (hlo : W + 12 ≤ R.locals) :
    Back l R p e below s args (⟨"java/lang/String", "isEmpty", "()Z"⟩ : MethodName) len W (fun P a => a = #[.ref x] ∧ P.U.heap = h ∧ P.cells + 0 ≤ R.cells ∧ P.slots + 0 ≤ R.slots)
      (fun P _ v B => ∃ L, (v = some (.int (if cs.length = 0 then 1 else 0)) ∧ L = [] ∧ B.U.heap = h) ∧ B.locs = P.locs ++ L ∧ B.cells = P.cells + 0 ∧ B.slots = P.slots + 0) := by
  intro m meth c P g ig mk a X hg hsize hdg hW hn hp'
  obtain ⟨rfl, rfl, r1, r2⟩ := hp'
  have al : Z.vm.Alike P.U.vm := hZ.alike.trans X.warmed.alike
  obtain ⟨A, hx⟩ := txt_of wi al E V C K hc hb l2
  obtain ⟨v, B, X', ⟨⟨hv, hh⟩, hl, hk, hs⟩, st⟩ := Emp.pays x t A cd cs.length (fun j => cs.getD j 0) (tabEmp_of (movedEmp hZ hw)) hfr hlo m meth c P g ig mk _ X hg hsize hdg hW hn ⟨r1, r2, rfl, hx⟩
  exact ⟨v, B, X', ⟨[], ⟨hv, rfl, hh⟩, hl, hk, hs⟩, st⟩
end StrChars.Road
namespace StrChars
open Jvm Sem ClassFile Op Lib Jvm.Stand Jvm.Free.XT Jvm.Free.ALB Jvm.Free.JM Jvm.Free
open Jvm.Lib.Cold (StaticIs)
namespace ChN
def yN : MethodName := ⟨"java/lang/String", "charAt", "(I)C"⟩
abbrev yB : ByteArray := jdk_42_method_56_code
theorem d0 : decode yB 0 = .ok (.aload_n 0, 1) := by decide +kernel
theorem d1 : decode yB 1 = .ok (.invokevirtual 492, 3) := by decide +kernel
theorem d4 : decode yB 4 = .ok (.ifCond (.eq) 12, 3) := by decide +kernel
theorem d7 : decode yB 7 = .ok (.aload_n 0, 1) := by decide +kernel
theorem d8 : decode yB 8 = .ok (.getfield 9, 3) := by decide +kernel
theorem d11 : decode yB 11 = .ok (.iload_n 1, 1) := by decide +kernel
theorem d12 : decode yB 12 = .ok (.invokestatic 495, 3) := by decide +kernel
theorem d15 : decode yB 15 = .ok (.ireturn, 1) := by decide +kernel
def site : List Cond := [.fieldLink "java/lang/String" 9 "java/lang/String" "value" "[B", IsL.tab, LChA.tab] ++ virtW "java/lang/String" 492 "java/lang/String" IsL.yN IsL.yN ++ staticW "java/lang/String" 495 LChA.yN
def tab : Cond := tabOf yN yB 2 (some .char) site
def P (x t : Addr) (V : Cell) (n : Nat) (f : Nat → Int32) (z : Int32) (fm : Value) (i : Nat) (args : Array Value) (s : State) : Prop := args = #[.ref x, .int (Int32.ofNat i)] ∧ Txt x t V 0 n f s ∧ i < n ∧ StaticIs s "java/lang/String" "COMPACT_STRINGS" "Z" (.int z) ∧ ¬ z = 0 ∧ StaticIs s "jdk/internal/util/Preconditions" "SIOOBE_FORMATTER" "Ljava/util/function/BiFunction;" fm ∧ fm.isRef = true
def E (f : Nat → Int32) (i : Nat) (r : Option Value) (s u : State) : Prop := XT.PureE (some (.int (f i))) r s u
/-- charAt(i) of a Latin-1 String of n chars, i < n: f i -/
theorem law (l : Launch) (x t : Addr) (V : Cell) (n : Nat) (f : Nat → Int32) (z : Int32) (fm : Value) (i : Nat) : Law l yN 2 1 3 40 yB 2 (some .char) site (P x t V n f z fm i) (E f i) [] 0 0 := by
  refine Law.of_walk (plainFor_of_name (by decide +kernel)) (by decide +kernel) (by decide +kernel) (by decide) (fun _ _ h => by rw [h.1]; rfl) (fun _ U U' hal hh h => ⟨h.1, h.2.1.mv hal hh, h.2.2.1, h.2.2.2.1.there hal hh, h.2.2.2.2.1, h.2.2.2.2.2.1.there hal hh, h.2.2.2.2.2.2⟩) (fun r U U' V V' h1 hal h2 h => XT.PureE.mv r U U' V V' h1 hal h2 h) ?_
  intro p e s m args below meth c s₁ X0 hexec hbytes hml hret hlk hnm hown hh0 W hP
  obtain ⟨rfl, hx, hi, s1, hz, s3, rf⟩ := hP
  have v31 := hx.2.2.2.1.2.2.2
  have hr := hx.2.2.2.2.2 i hi
  have hx0 := hx.mv X0.warmed.alike hh0
  have c1 : Steps p.tables e below (s₁.setTop (entryFrame m #[.ref x, .int (Int32.ofNat i)] 2)) (s₁.setTop (mkF m 1 #[.val (.ref x), .val (.int (Int32.ofNat i))] [.ref x])) := Steps.trans (entry rfl) (by
    show Steps p.tables e below (s₁.setTop (mkF m 0 #[.val (.ref x), .val (.int (Int32.ofNat i))] [])) _
    refine XS.aloadN X0.here hexec rfl (hb hbytes d0) rfl rfl ?_
    exact Steps.refl _)
  obtain ⟨v2, T2, X2, E2, g2⟩ := X0.callV hexec (IsL.law l x 0 z) hown (wks W (virtW "java/lang/String" 492 "java/lang/String" IsL.yN IsL.yN)) rfl (by decide) (wk W IsL.tab) (W := 0) (Nat.le_of_ble_eq_true rfl) (Nat.le_of_ble_eq_true rfl) (Nat.le_refl _) (Nat.le_refl _) (hx0.1.fc X0.warmed.alike) hx0.1.is (g := (mkF m 1 #[.val (.ref x), .val (.int (Int32.ofNat i))] [.ref x])) rfl (by rw [hml]; rfl) c1 (argsL := []) (rest := []) rfl rfl (by show 2 * 0 + 0 ≤ _; decide) (hb hbytes d1) (⟨rfl, hx0.2.2.1, hx.2.2.2.2.1.cd, s1.there X0.warmed.alike hh0, hz⟩)
  obtain ⟨rfl, q2⟩ := E2
  have hh2 := q2.trans hh0
  have hx2 := hx.mv X2.warmed.alike hh2
  obtain ⟨-, k1, k2⟩ | ⟨k0, -⟩ := hx.2.2.2.2.1
  · have c3 : Steps p.tables e below (s₁.setTop (entryFrame m #[.ref x, .int (Int32.ofNat i)] 2)) (T2.setTop (mkF m 8 #[.val (.ref x), .val (.int (Int32.ofNat i))] [.ref x])) := Steps.trans g2 (by
      refine XS.ifNo X2.here hexec rfl (hb hbytes d4) rfl (i0_eq_f (by decide)) ?_
      refine XS.aloadN X2.here hexec rfl (hb hbytes d7) rfl rfl ?_
      exact Steps.refl _)
    obtain ⟨T4, X4, q4, st4⟩ := X2.hget hexec hown (wk W (.fieldLink "java/lang/String" 9 "java/lang/String" "value" "[B")) hx2.2.1 (g := (mkF m 8 #[.val (.ref x), .val (.int (Int32.ofNat i))] [.ref x])) rfl (rest := []) rfl (hb hbytes d8)
    have hh4 := q4.trans hh2
    have c5 : Steps p.tables e below (s₁.setTop (entryFrame m #[.ref x, .int (Int32.ofNat i)] 2)) (T4.setTop (mkF m 12 #[.val (.ref x), .val (.int (Int32.ofNat i))] [.int (Int32.ofNat i), .ref t])) := (c3.trans (st4 _ (Steps.refl _))).trans (by
      refine XS.iloadN X4.here hexec rfl (hb hbytes d11) rfl ?_
      exact Steps.refl _)
    obtain ⟨v6, T6, X6, E6, g6⟩ := X4.callS hexec (LChA.law l t V i (lo8 (f i)) fm) hown (wks W (staticW "java/lang/String" 495 LChA.yN)) (wk W LChA.tab) (W := 0) (Nat.le_of_ble_eq_true rfl) (Nat.le_of_ble_eq_true rfl) (Nat.le_refl _) (Nat.le_refl _) (g := (mkF m 12 #[.val (.ref x), .val (.int (Int32.ofNat i))] [.int (Int32.ofNat i), .ref t])) rfl (by rw [hml]; rfl) c5 (argsL := [.ref t, .int (Int32.ofNat i)]) (rest := []) rfl rfl (by show 2 * 0 + 0 ≤ _; decide) (hb hbytes d12) (⟨rfl, hx.2.2.2.1.mv X4.warmed.alike hh4, (k2 i hi).1, s3.there X4.warmed.alike hh4, rf⟩)
    obtain ⟨rfl, q6⟩ := E6
    rw [chr8_lo8 hr.1 (k2 i hi).2] at g6
    exact ⟨T6, some (.int (f i)), _, _, _, X6, rfl, rfl, rfl, (fun h => by cases h), ⟨rfl, q6.trans hh4⟩, fun fs hl => Steps.trans g6 (X6.ireturnOut hexec hret (narrow_ch hr.1 hr.2) (Or.inr (Or.inr (Or.inr (Or.inl rfl)))) (hb hbytes d15) hl)⟩
  · exact absurd k0 (by decide)
theorem pays {l : Launch} {R : Room} {p : Program} {e : Env} {below : List Frame} {s : State} {sargs : Array Value} {len W : Nat} (x t : Addr) (V : Cell) (n : Nat) (f : Nat → Int32) (z : Int32) (fm : Value) (i : Nat) (htab : tab.before sargs s = true) (hfr : 4 ≤ R.frames) (hlo : W + 53 ≤ R.locals) :
    Back l R p e below s sargs yN len W (fun A₁ a₁ => A₁.cells + 0 ≤ R.cells ∧ A₁.slots + 0 ≤ R.slots ∧ P x t V n f z fm i a₁ A₁.U) (fun A₁ _ v₁ B₁ => E f i v₁ A₁.U B₁.U ∧ B₁.locs = A₁.locs ++ [] ∧ B₁.cells = A₁.cells + 0 ∧ B₁.slots = A₁.slots + 0) :=
  (law l x t V n f z fm i).pays htab hfr (by omega)
end ChN
end StrChars
namespace StrChars.Road
open Jvm Sem ClassFile Op Lib Jvm.Stand Jvm.Free Jvm.Free.XT
open Jvm.Lib.Cold (StaticIs)
/-- the words of String.charAt(int), the Latin-1 road alone -/
abbrev wordsChN : List Jvm.Cond := [.code ChN.yN ChN.yB 2 (some .char), .initialized ST, .fieldLink ST 9 ST "value" "[B", .fieldLink ST 38 ST "COMPACT_STRINGS" "Z", .fieldLink ST 15 ST "coder" "B", .code IsL.yN IsL.yB 1 (some .boolean), .methodLink ST 492 IsL.yN, .declares IsL.yN, .selects ST IsL.yN IsL.yN, .instanceMethod IsL.yN,
  .methodLink ST 495 LChA.yN, .static LChA.yN, .code LChA.yN LChA.yB 2 (some .char), .initialized "java/lang/StringLatin1", .methodLink "java/lang/StringLatin1" 9 JO.Str_checkIndex.yN, .static JO.Str_checkIndex.yN, .code JO.Str_checkIndex.yN JO.Str_checkIndex.yB 2 none,
  .fieldLink ST 1053 "jdk/internal/util/Preconditions" "SIOOBE_FORMATTER" "Ljava/util/function/BiFunction;", .methodLink ST 1059 JC.PreCheck.yN, .static JC.PreCheck.yN, .code JC.PreCheck.yN JC.PreCheck.yB 3 (some .int), .initialized "jdk/internal/util/Preconditions"]
theorem tabChN_of {a : Array Value} {s : State} (h : ∀ w ∈ wordsChN, w.before a s = true) : ChN.tab.before a s = true := by
  have hp : JC.PreCheck.tab.before a s = true := unparts (wk h (.code JC.PreCheck.yN JC.PreCheck.yB 3 (some .int))) (wks h (.initialized JC.PreCheck.yN.cls :: JC.PreCheck.site))
  have qk := consq hp h
  have hk : JO.Str_checkIndex.tab.before a s = true := unparts (wk qk (.code JO.Str_checkIndex.yN JO.Str_checkIndex.yB 2 none)) (wks qk (.initialized JO.Str_checkIndex.yN.cls :: JO.Str_checkIndex.site))
  have ql := consq hk h
  have hl : LChA.tab.before a s = true := unparts (wk ql (.code LChA.yN LChA.yB 2 (some .char))) (wks ql (.initialized LChA.yN.cls :: LChA.site))
  have hi : IsL.tab.before a s = true := unparts (wk h (.code IsL.yN IsL.yB 1 (some .boolean))) (wks h (.initialized IsL.yN.cls :: IsL.site))
  have q := consq hi (consq hl h)
  exact unparts (wk q (.code ChN.yN ChN.yB 2 (some .char))) (wks q (.initialized ChN.yN.cls :: ChN.site))
theorem movedChN {Z s : State} {a0 args : Array Value} (hZ : Z.Warmed39 s.vm) (hw : ∀ d ∈ wordsChN, d.before a0 Z = true) : ∀ d ∈ wordsChN, d.before args s = true := fun d hd => by
  have t : ∀ d ∈ wordsChN, (d.onTables && d.keepsFace) = true := by decide +kernel
  exact RoadKit.mv hZ (hw d hd) (t d hd)
/-- **charAt(i) OF A LATIN-1 STRING**, i < n: the char -/
theorem chN {p : Program} {l : Launch} {e : Env} {R : Room} {s : State} {args : Array Value} {below : List Frame} {len W : Nat} {Z : State} {a0 : Array Value} {h : Heap} (hZ : Z.Warmed39 s.vm) (hw : ∀ d ∈ wordsChN, d.before a0 Z = true) {kI : Nat} (wi : (Jvm.Cond.instantiable ST kI).before a0 Z = true)
    {x t : Addr} {kb : ClassId} {cs : List Int32} {N2 z : Int32} {vs : List Value} {fm : Value} {i : Nat} {j : Int32} (E : RoadKit.Exa Z h x ST) (V : RoadKit.Fld Z h x ST "value" "[B" (.ref t)) (C : RoadKit.Fld Z h x ST "coder" "B" (.int 0)) (K : RoadKit.Arv Z h t kb .byte N2 vs (.int 0)) (hc : CodA cs 0 N2 vs) (hb : ∀ c ∈ cs, ¬ c < 0 ∧ ¬ (65535 : Int32) < c)
    (S : RoadKit.Sta Z h ST "COMPACT_STRINGS" "Z" (.int z)) (hz : ¬ z = 0) (F : RoadKit.Sta Z h "jdk/internal/util/Preconditions" "SIOOBE_FORMATTER" "Ljava/util/function/BiFunction;" fm) (rf : fm.isRef = true) (l2 : cs.length ≤ 4000) (hi : i < cs.length) (hj : j = Int32.ofNat i) (hfr : 4 ≤ R.frames) (hlo : W + 53 ≤ R.locals) :
    Back l R p e below s args (⟨"java/lang/String", "charAt", "(I)C"⟩ : MethodName) len W (fun P a => a = #[.ref x, .int j] ∧ P.U.heap = h ∧ P.cells + 0 ≤ R.cells ∧ P.slots + 0 ≤ R.slots)
      (fun P _ v B => ∃ L, (v = some (.int (cs.getD i 0)) ∧ L = [] ∧ B.U.heap = h) ∧ B.locs = P.locs ++ L ∧ B.cells = P.cells + 0 ∧ B.slots = P.slots + 0) := by
  subst hj
  intro m meth c P g ig mk a X hg hsize hdg hW hn hp'
  obtain ⟨rfl, rfl, r1, r2⟩ := hp'
  have al : Z.vm.Alike P.U.vm := hZ.alike.trans X.warmed.alike
  obtain ⟨A, hx⟩ := txt_of wi al E V C K hc hb l2
  obtain ⟨v, B, X', ⟨⟨hv, hh⟩, hl, hk, hs⟩, st⟩ := ChN.pays x t A cs.length (fun j => cs.getD j 0) z fm i (tabChN_of (movedChN hZ hw)) hfr hlo m meth c P g ig mk _ X hg hsize hdg hW hn ⟨r1, r2, rfl, hx, hi, sta_is al S, hz, sta_is al F, rf⟩
  exact ⟨v, B, X', ⟨[], ⟨hv, rfl, hh⟩, hl, hk, hs⟩, st⟩
end StrChars.Road
end Jvm.Pilot.@@N@@
namespace Jvm.Pilot.@@N@@
open Jvm Jvm.ClassFile Sem Op Lib Jvm.Free Jvm.Stand Jvm.LawKit Jvm.RoadKit Bundle Jvm.Pilot.@@N@@.Jvm.D
abbrev si (x : Int32) : Slot := .val (.int x)
abbrev sr (x : Addr) : Slot := .val (.ref x)
theorem ww {a0 : Array Value} {Z : State} {d : Jvm.Cond} (hw : ∀ d ∈ tables_1, d.before a0 Z = true) (i : Nat) (h : tables_1[i]? = some d) : d.before a0 Z = true := hw _ (List.mem_of_getElem? h)
theorem mr0 {a b : Nat} (h : a = b) : a ≤ b := Nat.le_of_eq h
section Own
variable {p : Program} {l : Launch} {e : Env} {R : Room} {s : State} {m : MethodId} {args : Array Value} {below : List Frame} {meth : Method} {c : Code} {T : State} {locs : List Loc} {cells slots : Nat} {Z : State} {a0 : Array Value} {h : Heap}
/-- from S the run comes to an end that P speaks of -/
def Goes (tb : Tables) (e : Env) (below : List Frame) (P : State → Outcome → Prop) (S : State) : Prop := ∃ s₂ o, Steps tb e below S s₂ ∧ P s₂ o
theorem go {tb : Tables} {P : State → Outcome → Prop} {S S' : State} (st : ∀ t, Steps tb e below S' t → Steps tb e below S t) (h : Goes tb e below P S') : Goes tb e below P S := by
  obtain ⟨s₂, o, h1, h2⟩ := h
  exact ⟨s₂, o, st _ h1, h2⟩
/-- from S the run comes to the frame F, in a state that P speaks of -/
def Reach (tb : Tables) (e : Env) (below : List Frame) (F : JFrame) (P : State → Prop) (S : State) : Prop := ∃ T', P T' ∧ ∀ t, Steps tb e below (T'.setTop F) t → Steps tb e below S t
theorem goR {tb : Tables} {F : JFrame} {P : State → Prop} {S S' : State} (st : ∀ t, Steps tb e below S' t → Steps tb e below S t) (h : Reach tb e below F P S') : Reach tb e below F P S := by
  obtain ⟨T', h1, h2⟩ := h
  exact ⟨T', h1, fun t k => st t (h2 t k)⟩
def Same (X : Stand p l e R s m args below meth c T locs cells slots) (n0 : Nat) (h : Heap) : State → Prop := fun T' => ∃ locs', Stand p l e R s m args below meth c T' locs' cells slots ∧ Fr n0 locs' ∧ T'.heap = h
/-- the end of a body: it returned, and Q holds of the value, the heap, the written places -/
def EndP (s : State) (below : List Frame) (Q : Option Value → Heap → List Loc → Prop) (kc ks : Nat) (s₂ : State) (o : Outcome) : Prop :=
  s₂.status = .running ∧ Ended s₂ below o ∧ ∃ v L, o = .returned v ∧ Q v s₂.heap L ∧ FrameEnd s o s₂ L kc ks
variable {Q : Option Value → Heap → List Loc → Prop} {kc ks : Nat}
theorem finG {g : JFrame} (X : Stand p l e R s m args below meth c T locs cells slots) (hk : meth.locks = false) (v : Option Value) (hv : meth.sig.returnType = none → v = none)
    (st : ∀ fs, (∀ (f : JFrame) (acts : List Action), f.method = m → f.locked = none → f.entered = [] → (doReturn e (T.setTop f) acts v).1 = T.setFrames fs) → Steps p.tables e below (T.setTop g) (T.setFrames fs))
    (hc : cells ≤ kc) (hs : slots ≤ ks) (hQ : Q v T.heap locs) : Goes p.tables e below (EndP s below Q kc ks) (T.setTop g) := by
  obtain ⟨fs, hr, hrun, hended, hW, hsame⟩ := X.leave (v := v) hv hk
  exact ⟨_, _, st fs hr, hrun, hended, v, locs, rfl, hQ, ⟨_, rfl⟩, hW, hsame.mono hc hs⟩
theorem finV (X : Stand p l e R s m args below meth c T locs cells slots) (hx : p.tables.exec = Jvm.exec) (hk : meth.locks = false) (hret : meth.sig.returnType = none) {pc : Nat} {Ls : Array Slot} (hd : decode c.code pc = .ok (.return_, 1)) (hc : cells ≤ kc) (hs : slots ≤ ks) (hQ : Q none T.heap locs) :
    Goes p.tables e below (EndP s below Q kc ks) (T.setTop (mkF m pc Ls [])) := finG X hk none (fun _ => rfl) (fun _ hr => X.returnOut hx hret hd hr) hc hs hQ
theorem finI (X : Stand p l e R s m args below meth c T locs cells slots) (hx : p.tables.exec = Jvm.exec) (hk : meth.locks = false) (hret : meth.sig.returnType = some .int) {pc : Nat} {Ls : Array Slot} {z : Int32} {rest : List Value} (hd : decode c.code pc = .ok (.ireturn, 1)) (hc : cells ≤ kc) (hs : slots ≤ ks) (hQ : Q (some (.int z)) T.heap locs) :
    Goes p.tables e below (EndP s below Q kc ks) (T.setTop (mkF m pc Ls (.int z :: rest))) := finG X hk _ (fun q => by rw [hret] at q; cases q) (fun _ hr => retI X hx hret hd hr) hc hs hQ
theorem finN (X : Stand p l e R s m args below meth c T locs cells slots) (hx : p.tables.exec = Jvm.exec) (hk : meth.locks = false) {t : FieldType} (hret : meth.sig.returnType = some t) (ht : t = .boolean ∨ t = .byte ∨ t = .char ∨ t = .short) {pc : Nat} {Ls : Array Slot} {z : Int32} {rest : List Value} (hd : decode c.code pc = .ok (.ireturn, 1)) (hc : cells ≤ kc) (hs : slots ≤ ks) (hQ : Q (some (.int (nar t z))) T.heap locs) :
    Goes p.tables e below (EndP s below Q kc ks) (T.setTop (mkF m pc Ls (.int z :: rest))) := finG X hk _ (fun q => by rw [hret] at q; cases q) (fun _ hr => retN X hx hret ht hd hr) hc hs hQ
theorem finR (X : Stand p l e R s m args below meth c T locs cells slots) (hx : p.tables.exec = Jvm.exec) (hk : meth.locks = false) {t : FieldType} (hret : meth.sig.returnType = some t) (ht : t.isReference = true) {w : Value} (hw : w.isRef = true) {pc : Nat} {Ls : Array Slot} (hd : decode c.code pc = .ok (.areturn, 1)) (hc : cells ≤ kc) (hs : slots ≤ ks) (hQ : Q (some w) T.heap locs) :
    Goes p.tables e below (EndP s below Q kc ks) (T.setTop (mkF m pc Ls [w])) := finG X hk _ (fun q => by rw [hret] at q; cases q) (fun _ hr => X.areturnOut hx hw hret ht hd hr) hc hs hQ
theorem finJ (X : Stand p l e R s m args below meth c T locs cells slots) (hx : p.tables.exec = Jvm.exec) (hk : meth.locks = false) (hret : meth.sig.returnType = some .long) {pc : Nat} {Ls : Array Slot} {z : Int64} (hd : decode c.code pc = .ok (.lreturn, 1)) (hc : cells ≤ kc) (hs : slots ≤ ks) (hQ : Q (some (.long z)) T.heap locs) :
    Goes p.tables e below (EndP s below Q kc ks) (T.setTop (mkF m pc Ls [.long z])) := finG X hk _ (fun q => by rw [hret] at q; cases q) (fun _ hr => X.lreturnOut hx hret hd hr) hc hs hQ
theorem bodyOf {y : MethodName} {bytes : ByteArray} {maxL : Nat} {ret : Option FieldType} {ws : List Jvm.Cond} {rm : Room} {as' : Array Value} {Ls : Array Slot} {h0 : Heap}
    (pn : plainFor y = true) (ef : ∀ m, entryFrame m as' maxL = mkF m 0 Ls [])
    (body : ∀ (p : Program) (e : Env) (s : State) (m : MethodId) (below : List Frame) (meth : Method) (c : Code) (T : State), Stand p l e rm s m as' below meth c T [] 0 0 → p.tables.exec = Jvm.exec → c.code = bytes → c.maxLocals = maxL →
      s.vm.findClass y.cls = some m.cls → meth.name = y.name → meth.sig.returnType = ret → meth.locks = false → Z.Warmed39 s.vm → T.heap = h0 → Goes p.tables e below (EndP s below Q rm.cells rm.slots) (T.setTop (mkF m 0 Ls []))) :
    MetFree l y (head1 (Jvm.Cond.code y bytes maxL ret :: ws) rm) (fun a U => a = as' ∧ Z.Warmed39 U.vm ∧ U.heap = h0) (fun _ _ _ _ _ => True) (fun _ U o U' => ∃ v L, o = .returned v ∧ Q v U'.heap L ∧ FrameEnd U o U' L rm.cells rm.slots) := by
  refine MetFree.of_bodySF pn hisR ?_
  intro p e s m args below meth c s₁ Bd hml0 hP hK
  obtain ⟨rfl, hZ, hh⟩ := hP
  have e0 : s₁.heap = h0 := by rw [← hh, Bd.state]; rfl
  obtain ⟨s₂, o, st, hrun, hend, hq⟩ := body p e s m below meth c s₁ (Stand.of_body Bd) Bd.exec Bd.bytes hml0 (findClass_of_methodNamed Bd.named) (name_of_methodNamed Bd.named Bd.method).1 Bd.returns Bd.notSynchronized hZ e0
  exact ⟨s₂, o, castTop (ef m) st, hrun, hend, hq⟩
variable {y z : MethodName} {own C : String} {index W len : Nat} {bytes : ByteArray} {maxL : Nat} {ret : Option FieldType} {as' : Array Value} {argsL rest : List Value} {g : JFrame}
theorem callSt (X : Stand p l e R s m args below meth c T locs cells slots) (hx : p.tables.exec = Jvm.exec) (hZ : Z.Warmed39 s.vm) (hown : s.vm.findClass own = some m.cls)
    (w1 : (Jvm.Cond.methodLink own index y).before a0 Z = true) (w2 : (Jvm.Cond.static y).before a0 Z = true) (w3 : (Jvm.Cond.initialized y.cls).before a0 Z = true) (w4 : (Jvm.Cond.code y bytes maxL ret).before a0 Z = true)
    (hy : y.cls ≠ "java/lang/invoke/MethodHandle" ∧ y.cls ≠ "java/lang/invoke/VarHandle")
    (hB : Back l R p e below s args y 3 W (fun A a => a = argsL.toArray ∧ A.U.heap = h ∧ A.cells + kc ≤ R.cells ∧ A.slots + ks ≤ R.slots) (fun A _ v B => ∃ L, Q v B.U.heap L ∧ B.locs = A.locs ++ L ∧ B.cells = A.cells + kc ∧ B.slots = A.slots + ks))
    (hg : g.method = m) (hsize : g.locals.size = c.maxLocals) (hlen : ∀ sig, parseMethodDescriptor y.desc = some sig → argsL.length = sig.parameters.length) (hstack : g.stack = argsL.reverse ++ rest) (hW : 2 * g.monitorRoom + (rest.map fun v => v.category).sum ≤ W)
    (hd : decode c.code g.pc = .ok (.invokestatic index, 3)) (eT : T.heap = h) (hc : cells + kc ≤ R.cells) (hs : slots + ks ≤ R.slots) :
    ∃ v T' L, Stand p l e R s m args below meth c T' (locs ++ L) (cells + kc) (slots + ks) ∧ Q v T'.heap L ∧ ∀ t, Steps p.tables e below (T'.setTop { g with pc := g.pc + 3, stack := v.toList ++ rest }) t → Steps p.tables e below (T.setTop g) t := by
  obtain ⟨v, _, ⟨T1, L1, k1, n1⟩, -, X1, ⟨L, hQ, hl, hk, hn⟩, st⟩ := Jvm.LawKit.callS X hx hown (mvT hZ w1) (mvT hZ w2) (mvT hZ w3) (mvT hZ w4) hy hB hg hsize hlen hstack hW hd (fun _ _ => ⟨rfl, eT, hc, hs⟩)
  dsimp only [Pt.U, Pt.locs, Pt.cells, Pt.slots] at X1 hl hk hn st hQ
  subst hl hk hn
  exact ⟨v, T1, L, X1, hQ, st⟩
theorem callSp {a : Addr} (X : Stand p l e R s m args below meth c T locs cells slots) (hx : p.tables.exec = Jvm.exec) (hZ : Z.Warmed39 s.vm) (hy1 : y.name = "<init>") (hown : s.vm.findClass own = some m.cls)
    (w1 : (Jvm.Cond.methodLink own index y).before a0 Z = true) (w2 : (Jvm.Cond.instanceMethod y).before a0 Z = true) (w4 : (Jvm.Cond.code y bytes maxL none).before a0 Z = true)
    (hy : y.cls ≠ "java/lang/invoke/MethodHandle" ∧ y.cls ≠ "java/lang/invoke/VarHandle")
    (hB : Back l R p e below s args y 3 W (fun A b => b = (Value.ref a :: argsL).toArray ∧ A.U.heap = h ∧ A.cells + kc ≤ R.cells ∧ A.slots + ks ≤ R.slots) (fun A _ v B => ∃ L, Q v B.U.heap L ∧ B.locs = A.locs ++ L ∧ B.cells = A.cells + kc ∧ B.slots = A.slots + ks))
    (hg : g.method = m) (hsize : g.locals.size = c.maxLocals) (hlen : ∀ sig, parseMethodDescriptor y.desc = some sig → argsL.length = sig.parameters.length) (hstack : g.stack = argsL.reverse ++ .ref a :: rest) (hW : 2 * g.monitorRoom + (rest.map fun v => v.category).sum ≤ W)
    (hd : decode c.code g.pc = .ok (.invokespecial index, 3)) (eT : T.heap = h) (hc : cells + kc ≤ R.cells) (hs : slots + ks ≤ R.slots) :
    ∃ v T' L, Stand p l e R s m args below meth c T' (locs ++ L) (cells + kc) (slots + ks) ∧ Q v T'.heap L ∧ ∀ t, Steps p.tables e below (T'.setTop { g with pc := g.pc + 3, stack := v.toList ++ rest }) t → Steps p.tables e below (T.setTop g) t := by
  obtain ⟨v, _, ⟨T1, L1, k1, n1⟩, -, X1, ⟨L, hQ, hl, hk, hn⟩, st⟩ := X.specialBack hx hy1 hown (mvT hZ w1) (mvT hZ w2) (mvT hZ w4) hy hB hg hsize (Steps.refl _) hlen hstack hW hd (fun _ _ => ⟨rfl, eT, hc, hs⟩)
  dsimp only [Pt.U, Pt.locs, Pt.cells, Pt.slots] at X1 hl hk hn st hQ
  subst hl hk hn
  exact ⟨v, T1, L, X1, hQ, fun t k => st.trans k⟩
theorem callV {a : Addr} (X : Stand p l e R s m args below meth c T locs cells slots) (hx : p.tables.exec = Jvm.exec) (hZ : Z.Warmed39 s.vm) (hown : s.vm.findClass own = some m.cls)
    (w1 : (Jvm.Cond.methodLink own index y).before a0 Z = true) (w2 : (Jvm.Cond.declares y).before a0 Z = true) (nf : NotFace s y) (w3 : (Jvm.Cond.selects C y z).before a0 Z = true) (w4 : (Jvm.Cond.instanceMethod z).before a0 Z = true)
    (hy : y.cls ≠ "java/lang/invoke/MethodHandle" ∧ y.cls ≠ "java/lang/invoke/VarHandle")
    (hB : Back l R p e below s args z 3 W (fun A b => b = (Value.ref a :: argsL).toArray ∧ A.U.heap = h ∧ A.cells + kc ≤ R.cells ∧ A.slots + ks ≤ R.slots) (fun A _ v B => ∃ L, Q v B.U.heap L ∧ B.locs = A.locs ++ L ∧ B.cells = A.cells + kc ∧ B.slots = A.slots + ks))
    (E : Exa Z h a C) (hg : g.method = m) (hsize : g.locals.size = c.maxLocals) (hlen : ∀ sig, parseMethodDescriptor y.desc = some sig → argsL.length = sig.parameters.length) (hstack : g.stack = argsL.reverse ++ .ref a :: rest) (hW : 2 * g.monitorRoom + (rest.map fun v => v.category).sum ≤ W)
    (hd : decode c.code g.pc = .ok (.invokevirtual index, 3)) (eT : T.heap = h) (hc : cells + kc ≤ R.cells) (hs : slots + ks ≤ R.slots) :
    ∃ v T' L, Stand p l e R s m args below meth c T' (locs ++ L) (cells + kc) (slots + ks) ∧ Q v T'.heap L ∧ ∀ t, Steps p.tables e below (T'.setTop { g with pc := g.pc + 3, stack := v.toList ++ rest }) t → Steps p.tables e below (T.setTop g) t := by
  obtain ⟨cq, kq, qa, qb, qc⟩ := isOf hZ eT E
  obtain ⟨v, _, ⟨T1, L1, k1, n1⟩, -, X1, ⟨L, hQ, hl, hk, hn⟩, st⟩ := X.virtualBack hx hown (mvT hZ w1) (mvT hZ w2) nf (mvT hZ w3) (mvT hZ w4) hy hB qa qc hg hsize (Steps.refl _) hlen hstack hW hd (fun _ _ => ⟨rfl, eT, hc, hs⟩)
  dsimp only [Pt.U, Pt.locs, Pt.cells, Pt.slots] at X1 hl hk hn st hQ
  subst hl hk hn
  exact ⟨v, T1, L, X1, hQ, fun t k => st.trans k⟩
theorem nsRoot {O K : String} {n : Nat} (w : (Jvm.Cond.noSuperclass O).before a0 Z = true) (wk : (Jvm.Cond.instantiable K n).before a0 Z = true) (hn : O ≠ K) : NS Z O K := by
  obtain ⟨c, k, h1, h2, h3, -, -⟩ := Cond.noSuperclass_spec w
  obtain ⟨t, kt, g1, -⟩ := Cond.instantiable_spec wk
  have ne := ids_ne h1 g1 hn
  refine ⟨c, t, h1, g1, fun fuel => ?_⟩
  cases fuel with
  | zero => rfl
  | succ f => simp [Vm.isSubclassAux, ne, h2, h3]
theorem nsNo {C S K : String} {n : Nat} (w : (Jvm.Cond.superclass C S).before a0 Z = true) (wk : (Jvm.Cond.instantiable K n).before a0 Z = true) (n : NS Z C K) (hn : C ≠ K) : ∃ c t, Z.vm.findClass C = some c ∧ Z.vm.findClass K = some t ∧ Z.vm.assignable c t = false := by
  obtain ⟨c, t, h0, g0, n3⟩ := n
  obtain ⟨p, k, kp, h1, h2, h3, h4, h5, -, h7⟩ := Cond.superclass_spec h0 w
  obtain ⟨t', kt, g1, g2, g3, g4, -⟩ := Cond.instantiable_spec wk
  cases g0.symm.trans g1
  have g7 : kt.isInterface = false := (Bool.or_eq_false_iff.mp g4).1
  have ne := ids_ne h0 g0 hn
  refine ⟨c, t, h0, g0, ?_⟩
  show Z.vm.assignableAux (255 + 1) c t = false
  simp [Vm.assignableAux, ne, h2, g2, h5, g3, g7, Vm.isSubclass, n3]
theorem lsw {tb : Tables} [Ours tb] {target : State} {g : JFrame} (h : At T m c below) (hx : tb.exec = Jvm.exec) (hg : g.method = m) {dflt : Int} {pairs : Array (Int × Int)} {len : Nat} {pc0 pc' : Nat} (hpc : g.pc = pc0) (hd : decode c.code g.pc = .ok (.lookupswitch dflt pairs, len)) {i : Int32} {rest : List Value} (hs : g.stack = .int i :: rest)
    (hsrt : (pairs.toList.zip pairs.toList.tail).all (fun z => decide (z.1.1 < z.2.1)) = true) (ho : 0 ≤ (pc0 : Int) + lookupswitch.offset pairs.toList dflt i.toInt) (hp : ((pc0 : Int) + lookupswitch.offset pairs.toList dflt i.toInt).toNat = pc') (hr : Steps tb e below (T.setTop { g with pc := pc', stack := rest }) target) : Steps tb e below (T.setTop g) target := by
  subst hg hpc hp
  jvm_step h [h.top, hx, hd, hs, ho, lookupswitch.wp_chain]
  exact ⟨fun a b a1 b1 q => of_decide_eq_true (List.all_eq_true.mp hsrt _ q), hr⟩
theorem eqInt_v {t : Term} {n : Int32} (h : (Jvm.Cond.eq t (.int n)).value args s none s [] = some true) : t.eval args s none [] s = some (.int n) := by
  obtain ⟨x, y, hx, hy, k1, -⟩ := cmp_v (Or.inl h)
  have hy' : (Term.int n).eval args s none [] s = some (.int n) := Term.int_eval n
  have e : y = .int n := Option.some.inj (hy.symm.trans hy')
  subst e
  cases x <;> simp [Kin, Value.isRef] at k1
  rw [gotT (Cond.eq_ints hx hy') h] at hx
  exact hx
theorem putC (X : Stand p l e R s m args below meth c T locs cells slots) (hx : p.tables.exec = Jvm.exec) (hZ : Z.Warmed39 s.vm) (eT : T.heap = h) {b : Addr} {kB : ClassId} {nB : Int32} {vB : List Value} {dB : Value} (B : Arv Z h b kB .char nB vB dB) {j x : Int32} {i : Nat} (hn : nar .char x = x) (hj : ¬ j < 0 ∧ j < nB) (hi : j.toNatClampNeg = i) (hl : i < vB.length) (hg : g.method = m) (hs : g.stack = .int x :: .int j :: .ref b :: rest) (hd : decode c.code g.pc = .ok (.castore, 1)) :
    ∃ T' h', Stand p l e R s m args below meth c T' (locs ++ [⟨b, j.toNatClampNeg⟩]) cells slots ∧ T'.heap = h' ∧ Wr h h' b j.toNatClampNeg (.int x) ∧ Arv Z h' b kB .char nB (vB.set i (.int x)) dB ∧ ∀ t, Steps p.tables e below (T'.setTop { g with pc := g.pc + 1, stack := rest }) t → Steps p.tables e below (T.setTop g) t := by
  obtain ⟨cl, A, q1, S1, M1, H1, G1⟩ := B
  obtain ⟨T', h', X', e', W, st⟩ := stC X hx hZ eT A (inb_of S1 hj) hg hs hd
  rw [hn] at W
  exact ⟨T', h', X', e', W, Arv.set A q1 S1 M1 H1 G1 (by rw [← hn]; exact fits_nar_char _) W i hi hl, st⟩
theorem getC (X : Stand p l e R s m args below meth c T locs cells slots) (hx : p.tables.exec = Jvm.exec) (hZ : Z.Warmed39 s.vm) (eT : T.heap = h) {b : Addr} {kB : ClassId} {nB : Int32} {vB : List Value} {dB v : Value} (B : Arv Z h b kB .char nB vB dB) {j : Int32} (hj : ¬ j < 0 ∧ j < nB) (hv : vB.getD j.toNatClampNeg dB = v) (hg : g.method = m) (hs : g.stack = .int j :: .ref b :: rest) (hd : decode c.code g.pc = .ok (.caload, 1)) {t : State} (hr : Steps p.tables e below (T.setTop { g with pc := g.pc + 1, stack := v :: rest }) t) : Steps p.tables e below (T.setTop g) t := by
  obtain ⟨cl, A, q1, S1, M1, H1, G1⟩ := B
  have hin := inb_of S1 hj
  exact X.caload hx (j := j) (v := v) (by rw [eT]; exact A.1) (State.isArrayOf_alike hZ.alike A.2.1) A.2.2 hin (Has.at H1 hin hv) hg hs hd _ hr
theorem narc (x : Int32) : nar .char x.toUInt32.toUInt16.toUInt32.toInt32 = x.toUInt32.toUInt16.toUInt32.toInt32 := by
  have h1 := c_i2c x
  have h2 := c_i2c x.toUInt32.toUInt16.toUInt32.toInt32
  apply Int32.toInt_inj.mp
  show (x.toUInt32.toUInt16.toUInt32.toInt32).toUInt32.toUInt16.toUInt32.toInt32.toInt = _
  omega
end Own
end Jvm.Pilot.@@N@@
namespace Jvm.Pilot.@@N@@
open Jvm Jvm.ClassFile Sem Op Lib Jvm.Free Jvm.Stand Jvm.LawKit Jvm.RoadKit Bundle Jvm.Pilot.@@N@@.Jvm.D
theorem allI {P : Int32 → Prop} {y : Int32} {L : List Int32} (q : P y) (r : ∀ x ∈ L, P x) : ∀ x ∈ y :: L, P x := fun x z => (List.mem_cons.mp z).elim (fun u => u ▸ q) (r x)
theorem own_sub {L : List Jvm.Cond} {a0 : Array Value} {Z : State} (hs : ∀ d ∈ L, d ∈ tables_1) (hw : ∀ d ∈ tables_1, d.before a0 Z = true) : ∀ d ∈ L, d.before a0 Z = true := fun d hd => hw d (hs d hd)
set_option maxRecDepth 65536 in
theorem StrChars_words : ∀ d ∈ StrChars.Road.words, d ∈ tables_1 := by decide +kernel
set_option maxRecDepth 65536 in
theorem StrChars_wordsLen : ∀ d ∈ StrChars.Road.wordsLen, d ∈ tables_1 := by decide +kernel
set_option maxRecDepth 65536 in
theorem StrChars_wordsChN : ∀ d ∈ StrChars.Road.wordsChN, d ∈ tables_1 := by decide +kernel
set_option maxRecDepth 65536 in
theorem StrChars_wordsEmp : ∀ d ∈ StrChars.Road.wordsEmp, d ∈ tables_1 := by decide +kernel
end Jvm.Pilot.@@N@@
namespace Jvm.Pilot.@@N@@
open Jvm Jvm.ClassFile Sem Op Lib Jvm.Free Jvm.Stand Jvm.LawKit Jvm.RoadKit Bundle Jvm.Pilot.@@N@@.Jvm.D
section OwnW
variable {p : Program} {l : Launch} {e : Env} {R : Room} {s : State} {vm0 : Vm} {k0 : Nat} {m : MethodId} {args : Array Value} {below : List Frame} {meth : Method} {c : Code} {T : State} {locs : List Loc} {cells slots : Nat} {Z : State} {a0 : Array Value} {h : Heap} {EL : List (String × Nat)}
/-- the end of a body that may intern -/
def EndW (Z : State) (EL : List (String × Nat)) (s : State) (below : List Frame) (Q : Option Value → Heap → List Loc → Prop) (kc ks : Nat) (s₂ : State) (o : Outcome) : Prop :=
  s₂.status = .running ∧ Ended s₂ below o ∧ ∃ v L, o = .returned v ∧ Q v s₂.heap L ∧ CHr Z EL s.vm s.heap s₂.vm s₂.heap ∧ ReturnedEndW s o s₂ L kc ks
variable {Q : Option Value → Heap → List Loc → Prop} {kc ks : Nat}
theorem finGW {g : JFrame} (X : Stand p l e R (s.setVm vm0) m args below meth c T locs cells slots) (hk : meth.locks = false) (hS : s.Since vm0 k0) (hkS : k0 ≤ h.size) (hZ : Z.Warmed39 vm0) (hEL : EW Z a0 EL) (hC : CHr Z EL s.vm s.heap vm0 h) (eT : T.heap = h) (v : Option Value) (hv : meth.sig.returnType = none → v = none)
    (st : ∀ fs, (∀ (f : JFrame) (acts : List Action), f.method = m → f.locked = none → f.entered = [] → (doReturn e (T.setTop f) acts v).1 = T.setFrames fs) → Steps p.tables e below (T.setTop g) (T.setFrames fs))
    (hc : cells ≤ kc) (hs : slots ≤ ks) (hQ : Q v h locs) : Goes p.tables e below (EndW Z EL s below Q kc ks) (T.setTop g) := by
  subst eT
  obtain ⟨fs, hr, hrun, hended, hW⟩ := X.leaveW hS hkS (v := v) hv hk
  have q : CHr Z EL s.vm s.heap T.vm T.heap := hC.trans (CHv.at X hZ hEL hC.1)
  exact ⟨_, _, st fs hr, hrun, hended, v, locs, rfl, hQ, q, hW.1, hW.2.1, hW.2.2.1, hW.2.2.2.mono hc hs⟩
theorem finVW (X : Stand p l e R (s.setVm vm0) m args below meth c T locs cells slots) (hx : p.tables.exec = Jvm.exec) (hk : meth.locks = false) (hret : meth.sig.returnType = none) (hS : s.Since vm0 k0) (hkS : k0 ≤ h.size) (hZ : Z.Warmed39 vm0) (hEL : EW Z a0 EL) (hC : CHr Z EL s.vm s.heap vm0 h) (eT : T.heap = h) {pc : Nat} {Ls : Array Slot} (hd : decode c.code pc = .ok (.return_, 1)) (hc : cells ≤ kc) (hs : slots ≤ ks) (hQ : Q none h locs) :
    Goes p.tables e below (EndW Z EL s below Q kc ks) (T.setTop (mkF m pc Ls [])) := finGW X hk hS hkS hZ hEL hC eT none (fun _ => rfl) (fun _ hr => X.returnOut hx hret hd hr) hc hs hQ
theorem finIW (X : Stand p l e R (s.setVm vm0) m args below meth c T locs cells slots) (hx : p.tables.exec = Jvm.exec) (hk : meth.locks = false) (hret : meth.sig.returnType = some .int) (hS : s.Since vm0 k0) (hkS : k0 ≤ h.size) (hZ : Z.Warmed39 vm0) (hEL : EW Z a0 EL) (hC : CHr Z EL s.vm s.heap vm0 h) (eT : T.heap = h) {pc : Nat} {Ls : Array Slot} {z : Int32} {rest : List Value} (hd : decode c.code pc = .ok (.ireturn, 1)) (hc : cells ≤ kc) (hs : slots ≤ ks) (hQ : Q (some (.int z)) h locs) :
    Goes p.tables e below (EndW Z EL s below Q kc ks) (T.setTop (mkF m pc Ls (.int z :: rest))) := finGW X hk hS hkS hZ hEL hC eT _ (fun q => by rw [hret] at q; cases q) (fun _ hr => retI X hx hret hd hr) hc hs hQ
theorem finNW (X : Stand p l e R (s.setVm vm0) m args below meth c T locs cells slots) (hx : p.tables.exec = Jvm.exec) (hk : meth.locks = false) {t : FieldType} (hret : meth.sig.returnType = some t) (ht : t = .boolean ∨ t = .byte ∨ t = .char ∨ t = .short) (hS : s.Since vm0 k0) (hkS : k0 ≤ h.size) (hZ : Z.Warmed39 vm0) (hEL : EW Z a0 EL) (hC : CHr Z EL s.vm s.heap vm0 h) (eT : T.heap = h) {pc : Nat} {Ls : Array Slot} {z : Int32} {rest : List Value} (hd : decode c.code pc = .ok (.ireturn, 1)) (hc : cells ≤ kc) (hs : slots ≤ ks) (hQ : Q (some (.int (nar t z))) h locs) :
    Goes p.tables e below (EndW Z EL s below Q kc ks) (T.setTop (mkF m pc Ls (.int z :: rest))) := finGW X hk hS hkS hZ hEL hC eT _ (fun q => by rw [hret] at q; cases q) (fun _ hr => retN X hx hret ht hd hr) hc hs hQ
theorem finRW (X : Stand p l e R (s.setVm vm0) m args below meth c T locs cells slots) (hx : p.tables.exec = Jvm.exec) (hk : meth.locks = false) {t : FieldType} (hret : meth.sig.returnType = some t) (ht : t.isReference = true) {w : Value} (hw : w.isRef = true) (hS : s.Since vm0 k0) (hkS : k0 ≤ h.size) (hZ : Z.Warmed39 vm0) (hEL : EW Z a0 EL) (hC : CHr Z EL s.vm s.heap vm0 h) (eT : T.heap = h) {pc : Nat} {Ls : Array Slot} (hd : decode c.code pc = .ok (.areturn, 1)) (hc : cells ≤ kc) (hs : slots ≤ ks) (hQ : Q (some w) h locs) :
    Goes p.tables e below (EndW Z EL s below Q kc ks) (T.setTop (mkF m pc Ls [w])) := finGW X hk hS hkS hZ hEL hC eT _ (fun q => by rw [hret] at q; cases q) (fun _ hr => X.areturnOut hx hw hret ht hd hr) hc hs hQ
theorem bodyOfW {xs : List Addr} {y : MethodName} {bytes : ByteArray} {maxL : Nat} {ret : Option FieldType} {ws : List Jvm.Cond} {rm : Room} {as' : Array Value} {Ls : Array Slot} {h0 : Heap}
    (pn : plainFor y = true) (ef : ∀ m, entryFrame m as' maxL = mkF m 0 Ls [])
    (body : ∀ (p : Program) (e : Env) (s : State) (m : MethodId) (below : List Frame) (meth : Method) (c : Code) (T : State), Stand p l e rm (s.setVm s.vm) m as' below meth c T [] 0 0 → p.tables.exec = Jvm.exec → c.code = bytes → c.maxLocals = maxL →
      s.vm.findClass y.cls = some m.cls → meth.name = y.name → meth.sig.returnType = ret → meth.locks = false → Z.Warmed39 s.vm → T.heap = h0 → s.Since s.vm h0.size → CHr Z EL s.vm s.heap s.vm h0 → (∀ x ∈ xs, Safe Z EL s.vm h0 x) → Goes p.tables e below (EndW Z EL s below Q rm.cells rm.slots) (T.setTop (mkF m 0 Ls []))) :
    MetFree l y (head1 (Jvm.Cond.code y bytes maxL ret :: ws) rm) (fun a U => a = as' ∧ Z.Warmed39 U.vm ∧ U.heap = h0 ∧ CHv Z EL U.vm h0 ∧ ∀ x ∈ xs, Safe Z EL U.vm h0 x) (fun _ _ _ _ _ => True) (fun _ U o U' => ∃ v L, o = .returned v ∧ Q v U'.heap L ∧ CHr Z EL U.vm U.heap U'.vm U'.heap ∧ ReturnedEndW U o U' L rm.cells rm.slots) := by
  refine MetFree.of_bodySF pn hisR ?_
  intro p e s m args below meth c s₁ Bd hml0 hP hK
  obtain ⟨rfl, hZ, hh, hH, hsf⟩ := hP
  have e0 : s₁.heap = h0 := by rw [← hh, Bd.state]; rfl
  have hC : CHr Z EL s.vm s.heap s.vm h0 := by rw [hh]; exact CHr.refl hH
  obtain ⟨s₂, o, st, hrun, hend, hq⟩ := body p e s m below meth c s₁ (Stand.of_body Bd) Bd.exec Bd.bytes hml0 (findClass_of_methodNamed Bd.named) (name_of_methodNamed Bd.named Bd.method).1 Bd.returns Bd.notSynchronized hZ e0 ((State.WarmedH.refl s).since _) hC hsf
  exact ⟨s₂, o, castTop (ef m) st, hrun, hend, hq⟩
variable {y z : MethodName} {own C : String} {index W len : Nat} {bytes : ByteArray} {maxL : Nat} {ret : Option FieldType} {as' : Array Value} {argsL rest : List Value} {g : JFrame}
/-- what pays a call of a body that may intern; xs: cells that no booked String has -/
theorem backW {rm : Room} {xs : List Addr}
    (hM : MetFree l y (head1 [Jvm.Cond.code y bytes maxL ret] rm) (fun a U => a = as' ∧ Z.Warmed39 U.vm ∧ U.heap = h ∧ CHv Z EL U.vm h ∧ ∀ x ∈ xs, Safe Z EL U.vm h x) (fun _ _ _ _ _ => True) (fun _ U o U' => ∃ v L, o = .returned v ∧ Q v U'.heap L ∧ CHr Z EL U.vm U.heap U'.vm U'.heap ∧ ReturnedEndW U o U' L rm.cells rm.slots))
    (hZ : Z.Warmed39 vm0) (wc : (Jvm.Cond.code y bytes maxL ret).before a0 Z = true) (wz : (Jvm.Cond.initialized y.cls).before a0 Z = true) (hf : rm.frames + 1 ≤ R.frames) (hl : W + (maxL + 11) + rm.locals ≤ R.locals) (hEL : EW Z a0 EL) (H : CHv Z EL vm0 h) (hsf : ∀ x ∈ xs, Safe Z EL vm0 h x ∧ x < h.size) :
    BackS l R p e below (s.setVm vm0) args y len W (fun A a => a = as' ∧ A.U.heap = h ∧ A.cells + rm.cells ≤ R.cells ∧ A.slots + rm.slots ≤ R.slots)
      (fun A _ v B => ∃ L, Q v B.U.heap L ∧ B.locs = A.locs ++ L ∧ B.cells = A.cells + rm.cells ∧ B.slots = A.slots + rm.slots ∧ CHr Z EL vm0 h B.U.vm B.U.heap) := by
  refine BackS.of_freeW (bytes := bytes) (maxL := maxL) (ret := ret) (E := fun _ first o t L k n => k = rm.cells ∧ n = rm.slots ∧ (∃ v, o = .returned v ∧ Q v t.heap L) ∧ CHr Z EL first.vm first.heap t.vm t.heap) hM hf hl ?_ ?_ (fun _ _ _ _ _ _ _ _ _ => trivial) ?_ ?_
  · intro m meth c A a Y hp
    have hU : Z.Warmed39 A.U.vm := wtrans (s := s.setVm vm0) hZ Y.warmed
    exact ⟨by show (Jvm.Cond.and _ .tt).before a A.U = true; rw [Cond.before_and, mv hU wc]; rfl, mv hU wc, mv hU wz, hp.2.2.1, hp.2.2.2⟩
  · intro m meth c A a g mk Y hp
    have hC := CHv.at Y hZ hEL H
    exact ⟨hp.1, wtrans (s := s.setVm vm0) hZ Y.warmed, hp.2.1, hC.1, fun x hx => hC.safe (hsf x hx).2 (hsf x hx).1⟩
  · rintro a first o t ⟨v, L, h1, h2, h3, h4⟩
    exact ⟨L, _, _, h4, rfl, rfl, ⟨v, h1, h2⟩, h3⟩
  · rintro m meth c A a g mk v t L k n Y hp _ _ ⟨e1, e2, ⟨v', e3, e4⟩, e5⟩
    cases e3
    subst e1 e2
    refine ⟨L, e4, rfl, rfl, rfl, (CHv.at Y hZ hEL H).trans ?_⟩
    rw [← hp.2.1]; exact e5
theorem callStW (X : Stand p l e R (s.setVm vm0) m args below meth c T locs cells slots) (hx : p.tables.exec = Jvm.exec) (hZ : Z.Warmed39 vm0) (hown : vm0.findClass own = some m.cls)
    (w1 : (Jvm.Cond.methodLink own index y).before a0 Z = true) (w2 : (Jvm.Cond.static y).before a0 Z = true) (w3 : (Jvm.Cond.initialized y.cls).before a0 Z = true) (w4 : (Jvm.Cond.code y bytes maxL ret).before a0 Z = true)
    (hy : y.cls ≠ "java/lang/invoke/MethodHandle" ∧ y.cls ≠ "java/lang/invoke/VarHandle")
    (hB : BackS l R p e below (s.setVm vm0) args y 3 W (fun A a => a = argsL.toArray ∧ A.U.heap = h ∧ A.cells + kc ≤ R.cells ∧ A.slots + ks ≤ R.slots) (fun A _ v B => ∃ L, Q v B.U.heap L ∧ B.locs = A.locs ++ L ∧ B.cells = A.cells + kc ∧ B.slots = A.slots + ks ∧ CHr Z EL vm0 h B.U.vm B.U.heap))
    (hg : g.method = m) (hsize : g.locals.size = c.maxLocals) (hlen : ∀ sig, parseMethodDescriptor y.desc = some sig → argsL.length = sig.parameters.length) (hstack : g.stack = argsL.reverse ++ rest) (hW : 2 * g.monitorRoom + (rest.map fun v => v.category).sum ≤ W)
    (hd : decode c.code g.pc = .ok (.invokestatic index, 3)) (eT : T.heap = h) (hc : cells + kc ≤ R.cells) (hs : slots + ks ≤ R.slots) (hS : s.Since vm0 k0) (hkS : k0 ≤ h.size) :
    ∃ v T' L, Stand p l e R (s.setVm T'.vm) m args below meth c T' (locs ++ L) (cells + kc) (slots + ks) ∧ Q v T'.heap L ∧ s.Since T'.vm T'.heap.size ∧ Z.Warmed39 T'.vm ∧ T'.vm.findClass own = some m.cls ∧ CHr Z EL vm0 h T'.vm T'.heap ∧ ∀ t, Steps p.tables e below (T'.setTop { g with pc := g.pc + 3, stack := v.toList ++ rest }) t → Steps p.tables e below (T.setTop g) t := by
  obtain ⟨v, _, ⟨T1, L1, k1, n1⟩, -, X1, h2, hgr, ⟨L, hQ, hl, hk, hn, hC⟩, st⟩ := callSS X hx (s := s.setVm vm0) hown (mvT (s := s.setVm vm0) hZ w1) (mvT (s := s.setVm vm0) hZ w2) (mvT (s := s.setVm vm0) hZ w3) (mvT (s := s.setVm vm0) hZ w4) hy hB hg hsize hlen hstack hW hd (fun _ _ => ⟨rfl, eT, hc, hs⟩)
  dsimp only [Pt.U, Pt.locs, Pt.cells, Pt.slots] at X1 hl hk hn st hQ h2 hgr hC
  subst hl hk hn
  obtain ⟨X2, hS2, hZ2, hown2⟩ := rebS hS hkS X1 h2 (by rw [← eT]; exact hgr) hZ hown
  exact ⟨v, T1, L, X2, hQ, hS2, hZ2, hown2, hC, fun t k => st.trans k⟩
theorem callSpW {a : Addr} (X : Stand p l e R (s.setVm vm0) m args below meth c T locs cells slots) (hx : p.tables.exec = Jvm.exec) (hZ : Z.Warmed39 vm0) (hy1 : y.name = "<init>") (hown : vm0.findClass own = some m.cls)
    (w1 : (Jvm.Cond.methodLink own index y).before a0 Z = true) (w2 : (Jvm.Cond.instanceMethod y).before a0 Z = true) (w4 : (Jvm.Cond.code y bytes maxL none).before a0 Z = true)
    (hy : y.cls ≠ "java/lang/invoke/MethodHandle" ∧ y.cls ≠ "java/lang/invoke/VarHandle")
    (hB : BackS l R p e below (s.setVm vm0) args y 3 W (fun A b => b = (Value.ref a :: argsL).toArray ∧ A.U.heap = h ∧ A.cells + kc ≤ R.cells ∧ A.slots + ks ≤ R.slots) (fun A _ v B => ∃ L, Q v B.U.heap L ∧ B.locs = A.locs ++ L ∧ B.cells = A.cells + kc ∧ B.slots = A.slots + ks ∧ CHr Z EL vm0 h B.U.vm B.U.heap))
    (hg : g.method = m) (hsize : g.locals.size = c.maxLocals) (hlen : ∀ sig, parseMethodDescriptor y.desc = some sig → argsL.length = sig.parameters.length) (hstack : g.stack = argsL.reverse ++ .ref a :: rest) (hW : 2 * g.monitorRoom + (rest.map fun v => v.category).sum ≤ W)
    (hd : decode c.code g.pc = .ok (.invokespecial index, 3)) (eT : T.heap = h) (hc : cells + kc ≤ R.cells) (hs : slots + ks ≤ R.slots) (hS : s.Since vm0 k0) (hkS : k0 ≤ h.size) :
    ∃ v T' L, Stand p l e R (s.setVm T'.vm) m args below meth c T' (locs ++ L) (cells + kc) (slots + ks) ∧ Q v T'.heap L ∧ s.Since T'.vm T'.heap.size ∧ Z.Warmed39 T'.vm ∧ T'.vm.findClass own = some m.cls ∧ CHr Z EL vm0 h T'.vm T'.heap ∧ ∀ t, Steps p.tables e below (T'.setTop { g with pc := g.pc + 3, stack := v.toList ++ rest }) t → Steps p.tables e below (T.setTop g) t := by
  obtain ⟨v, _, ⟨T1, L1, k1, n1⟩, -, X1, h2, hgr, ⟨L, hQ, hl, hk, hn, hC⟩, st⟩ := X.specialBackS hx hy1 hown (mvT (s := s.setVm vm0) hZ w1) (mvT (s := s.setVm vm0) hZ w2) (mvT (s := s.setVm vm0) hZ w4) hy hB hg hsize (Steps.refl _) hlen hstack hW hd (fun _ _ => ⟨rfl, eT, hc, hs⟩)
  dsimp only [Pt.U, Pt.locs, Pt.cells, Pt.slots] at X1 hl hk hn st hQ h2 hgr hC
  subst hl hk hn
  obtain ⟨X2, hS2, hZ2, hown2⟩ := rebS hS hkS X1 h2 (by rw [← eT]; exact hgr) hZ hown
  exact ⟨v, T1, L, X2, hQ, hS2, hZ2, hown2, hC, fun t k => st.trans k⟩
theorem callVW {a : Addr} (X : Stand p l e R (s.setVm vm0) m args below meth c T locs cells slots) (hx : p.tables.exec = Jvm.exec) (hZ : Z.Warmed39 vm0) (hown : vm0.findClass own = some m.cls)
    (w1 : (Jvm.Cond.methodLink own index y).before a0 Z = true) (w2 : (Jvm.Cond.declares y).before a0 Z = true) (nf : NotFace (s.setVm vm0) y) (w3 : (Jvm.Cond.selects C y z).before a0 Z = true) (w4 : (Jvm.Cond.instanceMethod z).before a0 Z = true)
    (hy : y.cls ≠ "java/lang/invoke/MethodHandle" ∧ y.cls ≠ "java/lang/invoke/VarHandle")
    (hB : BackS l R p e below (s.setVm vm0) args z 3 W (fun A b => b = (Value.ref a :: argsL).toArray ∧ A.U.heap = h ∧ A.cells + kc ≤ R.cells ∧ A.slots + ks ≤ R.slots) (fun A _ v B => ∃ L, Q v B.U.heap L ∧ B.locs = A.locs ++ L ∧ B.cells = A.cells + kc ∧ B.slots = A.slots + ks ∧ CHr Z EL vm0 h B.U.vm B.U.heap))
    (E : Exa Z h a C) (hg : g.method = m) (hsize : g.locals.size = c.maxLocals) (hlen : ∀ sig, parseMethodDescriptor y.desc = some sig → argsL.length = sig.parameters.length) (hstack : g.stack = argsL.reverse ++ .ref a :: rest) (hW : 2 * g.monitorRoom + (rest.map fun v => v.category).sum ≤ W)
    (hd : decode c.code g.pc = .ok (.invokevirtual index, 3)) (eT : T.heap = h) (hc : cells + kc ≤ R.cells) (hs : slots + ks ≤ R.slots) (hS : s.Since vm0 k0) (hkS : k0 ≤ h.size) :
    ∃ v T' L, Stand p l e R (s.setVm T'.vm) m args below meth c T' (locs ++ L) (cells + kc) (slots + ks) ∧ Q v T'.heap L ∧ s.Since T'.vm T'.heap.size ∧ Z.Warmed39 T'.vm ∧ T'.vm.findClass own = some m.cls ∧ CHr Z EL vm0 h T'.vm T'.heap ∧ ∀ t, Steps p.tables e below (T'.setTop { g with pc := g.pc + 3, stack := v.toList ++ rest }) t → Steps p.tables e below (T.setTop g) t := by
  obtain ⟨cq, kq, qa, qb, qc⟩ := isOf (s := s.setVm vm0) hZ eT E
  obtain ⟨v, _, ⟨T1, L1, k1, n1⟩, -, X1, h2, hgr, ⟨L, hQ, hl, hk, hn, hC⟩, st⟩ := X.virtualBackS hx hown (mvT (s := s.setVm vm0) hZ w1) (mvT (s := s.setVm vm0) hZ w2) nf (mvT (s := s.setVm vm0) hZ w3) (mvT (s := s.setVm vm0) hZ w4) hy hB qa qc hg hsize (Steps.refl _) hlen hstack hW hd (fun _ _ => ⟨rfl, eT, hc, hs⟩)
  dsimp only [Pt.U, Pt.locs, Pt.cells, Pt.slots] at X1 hl hk hn st hQ h2 hgr hC
  subst hl hk hn
  obtain ⟨X2, hS2, hZ2, hown2⟩ := rebS hS hkS X1 h2 (by rw [← eT]; exact hgr) hZ hown
  exact ⟨v, T1, L, X2, hQ, hS2, hZ2, hown2, hC, fun t k => st.trans k⟩
theorem safeArv {vm : Vm} {x : Addr} {k : ClassId} {ty : FieldType} {n : Int32} {vs : List Value} {d : Value} (hal : Z.vm.Alike vm) (V : Arv Z h x k ty n vs d) (ht : ty ≠ .byte) : Safe Z EL vm h x := by
  obtain ⟨_, A, -⟩ := V
  exact Safe.arr hal A ht
end OwnW
end Jvm.Pilot.@@N@@
namespace Jvm.Pilot.@@N@@
open Jvm Jvm.ClassFile Sem Op Lib Jvm.Free Jvm.Stand Jvm.LawKit Jvm.RoadKit Bundle Jvm.Pilot.@@N@@.Jvm.D
theorem own_EW {a0 : Array Value} {Z : State} (hw : ∀ d ∈ tables_1, d.before a0 Z = true) : EW Z a0 ([] : List (String × Nat)) := EW.nil
set_option maxRecDepth 65536 in
theorem own_strAtoms : ∀ d ∈ Bundle.stringAtoms, d ∈ tables_1 := by decide +kernel
theorem safeBlank {Z : State} {EL : List (String × Nat)} {vm : Vm} {h : Heap} {x : Addr} (hal : Z.vm.Alike vm) (E : Exa Z h x "java/lang/String") (F : Fld Z h x "java/lang/String" "value" "[B" .null) : Safe Z EL vm h x := fun B => by
  obtain ⟨cell, k, e1, e2, e3, -, -⟩ := E
  obtain ⟨p, -, u, a, -, q, -, G, rfl | rfl⟩ := B
  · obtain ⟨cell', cf, kf, i, f, g1, g2, -, -, -, -, g7⟩ := F
    cases e1.symm.trans g1
    cases (show h[q.sa]? = some q.sC from G.ha).symm.trans e1
    obtain ⟨cS, ⟨⟨-, -, -, ⟨c1, k1, i1, f1, -⟩, -, -, -, v1, -⟩, -⟩, -⟩ := G
    obtain ⟨k3, e5, -⟩ := State.fieldFound?_setVm (s := Z) hal g2
    have e4 := (show (Wst Z vm h).fieldFound? _ _ _ = _ from e5).symm.trans f1
    simp only [Option.some.injEq, Prod.mk.injEq] at e4
    rw [← e4.2.2.2, g7] at v1
    simp at v1
  · cases (show h[q.sd]? = some q.SA from G.hd).symm.trans e1
    obtain ⟨cS, -, -, f, -⟩ := G
    have f' : Z.vm.findClass "[B" = some q.SA.cls := by rw [← hal.findClass]; exact f
    obtain ⟨k1, q1, q2⟩ := Vm.findClass_spec f'
    obtain ⟨k2, q3, q4⟩ := Vm.findClass_spec e2
    cases q1.symm.trans q3
    exact absurd (q2.symm.trans q4) (by decide)
end Jvm.Pilot.@@N@@
namespace Jvm.Pilot.@@N@@
open Jvm Jvm.ClassFile Sem Op Lib Jvm.Free Jvm.Stand Jvm.LawKit Jvm.RoadKit Bundle Jvm.Pilot.@@N@@.Jvm.D
/-- x is a String whose bytes, at t, spell the chars cs by the coder cd -/
def Str (Z : State) (h : Heap) (x t : Addr) (cd : Int32) (cs : List Int32) : Prop := ∃ (kb : ClassId) (N2 : Int32) (vs : List Value), Exa Z h x "java/lang/String" ∧ Fld Z h x "java/lang/String" "value" "[B" (.ref t) ∧ Fld Z h x "java/lang/String" "coder" "B" (.int cd) ∧ Arv Z h t kb .byte N2 vs (.int 0) ∧ StrChars.Road.CodA cs cd N2 vs ∧ (∀ c ∈ cs, ¬ c < 0 ∧ ¬ (65535 : Int32) < c) ∧ cs.length ≤ 4000
theorem own_codOf {cs : List Int32} {n : Nat} (hn : cs.length = n) (hb : ∀ c ∈ cs, ¬ (255 : Int32) < c) : StrChars.Road.CodA cs 0 (Int32.ofNat n) ((cs.map StrChars.lo8).map Value.int) := Or.inl ⟨rfl, by rw [hn], by simp [List.map_map, Function.comp_def], hb⟩
section StrF
variable {Z : State} {h h' : Heap} {x t a : Addr} {cd : Int32} {cs : List Int32} {sl : Nat} {v : Value} {ws : List Addr}
theorem Str.exa (F : Str Z h x t cd cs) : Exa Z h x "java/lang/String" := by obtain ⟨_, _, _, q, -⟩ := F; exact q
theorem Str.val (F : Str Z h x t cd cs) : Fld Z h x "java/lang/String" "value" "[B" (.ref t) := by obtain ⟨_, _, _, -, q, -⟩ := F; exact q
theorem Str.cod (F : Str Z h x t cd cs) : Fld Z h x "java/lang/String" "coder" "B" (.int cd) := by obtain ⟨_, _, _, -, -, q, -⟩ := F; exact q
theorem Str.lt1 (F : Str Z h x t cd cs) : x < h.size := F.exa.lt
theorem Str.lt2 (F : Str Z h x t cd cs) : t < h.size := by obtain ⟨_, _, _, -, -, -, q, -⟩ := F; exact q.lt
theorem Str.ext (F : Str Z h x t cd cs) (E : Ext h h') : Str Z h' x t cd cs := by obtain ⟨k, n, vs, a1, a2, a3, a4, r⟩ := F; exact ⟨k, n, vs, a1.ext E, a2.ext E, a3.ext E, a4.ext E, r⟩
theorem Str.keep (F : Str Z h x t cd cs) (K : Keep h h' ws) (q1 : x ∉ ws) (q2 : t ∉ ws) : Str Z h' x t cd cs := by obtain ⟨k, n, vs, a1, a2, a3, a4, r⟩ := F; exact ⟨k, n, vs, a1.keep K, a2.keep K q1, a3.keep K q1, a4.keep K q2, r⟩
theorem Str.wr (F : Str Z h x t cd cs) (W : Wr h h' a sl v) (q1 : x ≠ a) (q2 : t ≠ a) : Str Z h' x t cd cs := by obtain ⟨k, n, vs, a1, a2, a3, a4, r⟩ := F; exact ⟨k, n, vs, a1.wr W, Fld.other W a2 (Or.inl q1), Fld.other W a3 (Or.inl q1), a4.other W q2, r⟩
theorem Str.ne1 {b : Addr} {C : String} (F : Str Z h x t cd cs) (E : Exa Z h b C) (hC : "java/lang/String" ≠ C) : x ≠ b := F.exa.ne E hC
theorem Str.ne2 {b : Addr} {C : String} {n : Nat} {a0 : Array Value} (F : Str Z h x t cd cs) (E : Exa Z h b C) (w : (Jvm.Cond.instantiable C n).before a0 Z = true) : t ≠ b := by obtain ⟨_, _, _, -, -, -, q, -⟩ := F; exact Ne.symm (E.neArv q w)
end StrF
theorem up16 (cs : List Int32) (h : ∀ c ∈ cs, ¬ c < 0 ∧ ¬ (255 : Int32) < c) : ∀ c ∈ cs, ¬ c < 0 ∧ ¬ (65535 : Int32) < c := fun c hc => ⟨(h c hc).1, fun q => (h c hc).2 (by rw [Int32.lt_iff_toInt_lt] at q ⊢; have e1 : (65535 : Int32).toInt = 65535 := rfl; have e2 : (255 : Int32).toInt = 255 := rfl; omega)⟩
theorem oj_c16 {c : Int32} (h : ¬ c < 0 ∧ ¬ (65535 : Int32) < c) : nar .char c = c := by
  show c.toUInt32.toUInt16.toUInt32.toInt32 = c
  have q := c_i2c c
  have r := rng32 c
  obtain ⟨h0, h1⟩ := h
  rw [Int32.lt_iff_toInt_lt] at h0 h1
  have e0 : (0 : Int32).toInt = 0 := rfl
  have e1 : (65535 : Int32).toInt = 65535 := rfl
  apply Int32.toInt_inj.mp
  omega
/-- the chars that a lock's name may have -/
def own_ok (c : Int32) : Prop := (¬ c < 97 ∧ ¬ (122 : Int32) < c) ∨ (¬ c < 65 ∧ ¬ (90 : Int32) < c) ∨ (¬ c < 48 ∧ ¬ (57 : Int32) < c) ∨ c = 46 ∨ c = 95 ∨ c = 58 ∨ c = 45
theorem own_ok_lat {c : Int32} (h : own_ok c) : ¬ c < 0 ∧ ¬ (255 : Int32) < c := by
  have e0 : (0 : Int32).toInt = 0 := rfl
  have e26 : (26 : Int32).toInt = 26 := rfl
  have e52 : (52 : Int32).toInt = 52 := rfl
  have e62 : (62 : Int32).toInt = 62 := rfl
  have e63 : (63 : Int32).toInt = 63 := rfl
  have e64 : (64 : Int32).toInt = 64 := rfl
  have e65 : (65 : Int32).toInt = 65 := rfl
  have e97 : (97 : Int32).toInt = 97 := rfl
  have e122 : (122 : Int32).toInt = 122 := rfl
  have e90 : (90 : Int32).toInt = 90 := rfl
  have e48 : (48 : Int32).toInt = 48 := rfl
  have e57 : (57 : Int32).toInt = 57 := rfl
  have e46 : (46 : Int32).toInt = 46 := rfl
  have e95 : (95 : Int32).toInt = 95 := rfl
  have e58 : (58 : Int32).toInt = 58 := rfl
  have e45 : (45 : Int32).toInt = 45 := rfl
  have e255 : (255 : Int32).toInt = 255 := rfl
  have e66 : (66 : Int32).toInt = 66 := rfl
  simp only [own_ok, Int32.lt_iff_toInt_lt, ← Int32.toInt_inj, e0, e97, e122, e65, e90, e48, e57, e46, e95, e58, e45, e255] at h ⊢
  omega
theorem own_lat16 {c : Int32} (h : ¬ c < 0 ∧ ¬ (255 : Int32) < c) : nar .char c = c := oj_c16 ⟨h.1, fun q => h.2 (by rw [Int32.lt_iff_toInt_lt] at q ⊢; have e1 : (65535 : Int32).toInt = 65535 := rfl; have e2 : (255 : Int32).toInt = 255 := rfl; omega)⟩
theorem own_idx (x : Int32) : 0 ≤ ((x &&& (2147483647 : Int32)) % (66 : Int32)).toInt ∧ ((x &&& (2147483647 : Int32)) % (66 : Int32)).toInt < 66 := by
  have h := c_mask x 2147483647 31 (by decide) (by decide)
  have r := (c_irem (x &&& 2147483647) 66 66 rfl).1 (by omega)
  omega
theorem own_a1 (i : Int32) (h0 : 0 ≤ i.toInt) (h1 : i < 26) : own_ok (nar .char (((97 : Int32) + i).toUInt32.toUInt16.toUInt32.toInt32)) := by
  have e0 : (0 : Int32).toInt = 0 := rfl
  have e26 : (26 : Int32).toInt = 26 := rfl
  have e52 : (52 : Int32).toInt = 52 := rfl
  have e62 : (62 : Int32).toInt = 62 := rfl
  have e63 : (63 : Int32).toInt = 63 := rfl
  have e64 : (64 : Int32).toInt = 64 := rfl
  have e65 : (65 : Int32).toInt = 65 := rfl
  have e97 : (97 : Int32).toInt = 97 := rfl
  have e122 : (122 : Int32).toInt = 122 := rfl
  have e90 : (90 : Int32).toInt = 90 := rfl
  have e48 : (48 : Int32).toInt = 48 := rfl
  have e57 : (57 : Int32).toInt = 57 := rfl
  have e46 : (46 : Int32).toInt = 46 := rfl
  have e95 : (95 : Int32).toInt = 95 := rfl
  have e58 : (58 : Int32).toInt = 58 := rfl
  have e45 : (45 : Int32).toInt = 45 := rfl
  have e255 : (255 : Int32).toInt = 255 := rfl
  have e66 : (66 : Int32).toInt = 66 := rfl
  have a := c_i2c ((97 : Int32) + i)
  have b := c_iadd 97 i
  have r := rng32 ((97 : Int32) + i)
  rw [narc]
  refine Or.inl ?_
  simp only [Int32.lt_iff_toInt_lt, e97, e122, e26] at h1 b ⊢
  omega
theorem own_a2 (i : Int32) (h0 : ¬ i < 26) (h1 : i < 52) : own_ok (nar .char (((65 : Int32) + (i - (26 : Int32))).toUInt32.toUInt16.toUInt32.toInt32)) := by
  have e0 : (0 : Int32).toInt = 0 := rfl
  have e26 : (26 : Int32).toInt = 26 := rfl
  have e52 : (52 : Int32).toInt = 52 := rfl
  have e62 : (62 : Int32).toInt = 62 := rfl
  have e63 : (63 : Int32).toInt = 63 := rfl
  have e64 : (64 : Int32).toInt = 64 := rfl
  have e65 : (65 : Int32).toInt = 65 := rfl
  have e97 : (97 : Int32).toInt = 97 := rfl
  have e122 : (122 : Int32).toInt = 122 := rfl
  have e90 : (90 : Int32).toInt = 90 := rfl
  have e48 : (48 : Int32).toInt = 48 := rfl
  have e57 : (57 : Int32).toInt = 57 := rfl
  have e46 : (46 : Int32).toInt = 46 := rfl
  have e95 : (95 : Int32).toInt = 95 := rfl
  have e58 : (58 : Int32).toInt = 58 := rfl
  have e45 : (45 : Int32).toInt = 45 := rfl
  have e255 : (255 : Int32).toInt = 255 := rfl
  have e66 : (66 : Int32).toInt = 66 := rfl
  have a := c_i2c ((65 : Int32) + (i - (26 : Int32)))
  have b := c_iadd 65 (i - 26)
  have d := c_isub i 26
  have r := rng32 ((65 : Int32) + (i - (26 : Int32)))
  have r2 := rng32 (i - (26 : Int32))
  rw [narc]
  refine Or.inr (Or.inl ?_)
  simp only [Int32.lt_iff_toInt_lt, e65, e90, e26, e52] at h0 h1 b d ⊢
  omega
theorem own_a3 (i : Int32) (h0 : ¬ i < 52) (h1 : i < 62) : own_ok (nar .char (((48 : Int32) + (i - (52 : Int32))).toUInt32.toUInt16.toUInt32.toInt32)) := by
  have e0 : (0 : Int32).toInt = 0 := rfl
  have e26 : (26 : Int32).toInt = 26 := rfl
  have e52 : (52 : Int32).toInt = 52 := rfl
  have e62 : (62 : Int32).toInt = 62 := rfl
  have e63 : (63 : Int32).toInt = 63 := rfl
  have e64 : (64 : Int32).toInt = 64 := rfl
  have e65 : (65 : Int32).toInt = 65 := rfl
  have e97 : (97 : Int32).toInt = 97 := rfl
  have e122 : (122 : Int32).toInt = 122 := rfl
  have e90 : (90 : Int32).toInt = 90 := rfl
  have e48 : (48 : Int32).toInt = 48 := rfl
  have e57 : (57 : Int32).toInt = 57 := rfl
  have e46 : (46 : Int32).toInt = 46 := rfl
  have e95 : (95 : Int32).toInt = 95 := rfl
  have e58 : (58 : Int32).toInt = 58 := rfl
  have e45 : (45 : Int32).toInt = 45 := rfl
  have e255 : (255 : Int32).toInt = 255 := rfl
  have e66 : (66 : Int32).toInt = 66 := rfl
  have a := c_i2c ((48 : Int32) + (i - (52 : Int32)))
  have b := c_iadd 48 (i - 52)
  have d := c_isub i 52
  have r := rng32 ((48 : Int32) + (i - (52 : Int32)))
  have r2 := rng32 (i - (52 : Int32))
  rw [narc]
  refine Or.inr (Or.inr (Or.inl ?_))
  simp only [Int32.lt_iff_toInt_lt, e48, e57, e62, e52] at h0 h1 b d ⊢
  omega
theorem own_four (x : Int32) : ((x &&& (3 : Int32)) + (1 : Int32)) = 1 ∨ ((x &&& (3 : Int32)) + (1 : Int32)) = 2 ∨ ((x &&& (3 : Int32)) + (1 : Int32)) = 3 ∨ ((x &&& (3 : Int32)) + (1 : Int32)) = 4 := by
  have h := c_mask x 3 2 (by decide) (by decide)
  have b := c_iadd (x &&& 3) 1
  have r := rng32 ((x &&& 3) + 1)
  have e1 : (1 : Int32).toInt = 1 := rfl
  have e2 : (2 : Int32).toInt = 2 := rfl
  have e3 : (3 : Int32).toInt = 3 := rfl
  have e4 : (4 : Int32).toInt = 4 := rfl
  simp only [← Int32.toInt_inj, e1, e2, e3, e4] at b ⊢
  omega

theorem d1_0 : decode method_3_code 0 = .ok (.iload_n 0, 1) := by decide +kernel
theorem d1_1 : decode method_3_code 1 = .ok (.ldc 24, 2) := by decide +kernel
theorem d1_3 : decode method_3_code 3 = .ok (.iand, 1) := by decide +kernel
theorem d1_4 : decode method_3_code 4 = .ok (.bipush 66, 2) := by decide +kernel
theorem d1_6 : decode method_3_code 6 = .ok (.irem, 1) := by decide +kernel
theorem d1_7 : decode method_3_code 7 = .ok (.istore_n 1, 1) := by decide +kernel
theorem d1_8 : decode method_3_code 8 = .ok (.iload_n 1, 1) := by decide +kernel
theorem d1_9 : decode method_3_code 9 = .ok (.bipush 26, 2) := by decide +kernel
theorem d1_11 : decode method_3_code 11 = .ok (.if_icmp .ge 9, 3) := by decide +kernel
theorem d1_14 : decode method_3_code 14 = .ok (.bipush 97, 2) := by decide +kernel
theorem d1_16 : decode method_3_code 16 = .ok (.iload_n 1, 1) := by decide +kernel
theorem d1_17 : decode method_3_code 17 = .ok (.iadd, 1) := by decide +kernel
theorem d1_18 : decode method_3_code 18 = .ok (.i2c, 1) := by decide +kernel
theorem d1_19 : decode method_3_code 19 = .ok (.ireturn, 1) := by decide +kernel
theorem d1_20 : decode method_3_code 20 = .ok (.iload_n 1, 1) := by decide +kernel
theorem d1_21 : decode method_3_code 21 = .ok (.bipush 52, 2) := by decide +kernel
theorem d1_23 : decode method_3_code 23 = .ok (.if_icmp .ge 12, 3) := by decide +kernel
theorem d1_26 : decode method_3_code 26 = .ok (.bipush 65, 2) := by decide +kernel
theorem d1_28 : decode method_3_code 28 = .ok (.iload_n 1, 1) := by decide +kernel
theorem d1_29 : decode method_3_code 29 = .ok (.bipush 26, 2) := by decide +kernel
theorem d1_31 : decode method_3_code 31 = .ok (.isub, 1) := by decide +kernel
theorem d1_32 : decode method_3_code 32 = .ok (.iadd, 1) := by decide +kernel
theorem d1_33 : decode method_3_code 33 = .ok (.i2c, 1) := by decide +kernel
theorem d1_34 : decode method_3_code 34 = .ok (.ireturn, 1) := by decide +kernel
theorem d1_35 : decode method_3_code 35 = .ok (.iload_n 1, 1) := by decide +kernel
theorem d1_36 : decode method_3_code 36 = .ok (.bipush 62, 2) := by decide +kernel
theorem d1_38 : decode method_3_code 38 = .ok (.if_icmp .ge 12, 3) := by decide +kernel
theorem d1_41 : decode method_3_code 41 = .ok (.bipush 48, 2) := by decide +kernel
theorem d1_43 : decode method_3_code 43 = .ok (.iload_n 1, 1) := by decide +kernel
theorem d1_44 : decode method_3_code 44 = .ok (.bipush 52, 2) := by decide +kernel
theorem d1_46 : decode method_3_code 46 = .ok (.isub, 1) := by decide +kernel
theorem d1_47 : decode method_3_code 47 = .ok (.iadd, 1) := by decide +kernel
theorem d1_48 : decode method_3_code 48 = .ok (.i2c, 1) := by decide +kernel
theorem d1_49 : decode method_3_code 49 = .ok (.ireturn, 1) := by decide +kernel
theorem d1_50 : decode method_3_code 50 = .ok (.iload_n 1, 1) := by decide +kernel
theorem d1_51 : decode method_3_code 51 = .ok (.bipush 62, 2) := by decide +kernel
theorem d1_53 : decode method_3_code 53 = .ok (.if_icmp .ne 6, 3) := by decide +kernel
theorem d1_56 : decode method_3_code 56 = .ok (.bipush 46, 2) := by decide +kernel
theorem d1_58 : decode method_3_code 58 = .ok (.ireturn, 1) := by decide +kernel
theorem d1_59 : decode method_3_code 59 = .ok (.iload_n 1, 1) := by decide +kernel
theorem d1_60 : decode method_3_code 60 = .ok (.bipush 63, 2) := by decide +kernel
theorem d1_62 : decode method_3_code 62 = .ok (.if_icmp .ne 6, 3) := by decide +kernel
theorem d1_65 : decode method_3_code 65 = .ok (.bipush 95, 2) := by decide +kernel
theorem d1_67 : decode method_3_code 67 = .ok (.ireturn, 1) := by decide +kernel
theorem d1_68 : decode method_3_code 68 = .ok (.iload_n 1, 1) := by decide +kernel
theorem d1_69 : decode method_3_code 69 = .ok (.bipush 64, 2) := by decide +kernel
theorem d1_71 : decode method_3_code 71 = .ok (.if_icmp .ne 6, 3) := by decide +kernel
theorem d1_74 : decode method_3_code 74 = .ok (.bipush 58, 2) := by decide +kernel
theorem d1_76 : decode method_3_code 76 = .ok (.ireturn, 1) := by decide +kernel
theorem d1_77 : decode method_3_code 77 = .ok (.bipush 45, 2) := by decide +kernel
theorem d1_79 : decode method_3_code 79 = .ok (.ireturn, 1) := by decide +kernel
abbrev y_0 : MethodName := ⟨"com/example/eindhoven/eindhoven/LockNameCheckPinLaw", "allowed", "(I)C"⟩
theorem pn_0 : plainFor y_0 = true := by first | exact plainFor_of_name (by first | (simp [plainName, overriddenIn]; done) | decide +kernel) | decide +kernel
theorem ef_rmAl (m : MethodId) (p1 : Int32) : entryFrame m #[(.int p1)] 2 = mkF m 0 #[si p1, .unset] [] := by first | (simp [entryFrame, mkF, argsToLocals, Value.category]; done) | rfl
def Q_rmAl (Z : State) (p1 : Int32) (h0 : Heap) (n0 : Nat) (v : Option Value) (h : Heap) (L : List Loc) : Prop := ∃ (r : Int32), v = some (.int r) ∧ Fr n0 L ∧ h = h0 ∧ (own_ok r)
set_option maxRecDepth 65536 in
set_option maxHeartbeats 40000000 in
theorem rmAl (l : Launch) (Z : State) (a0 : Array Value) (hw : ∀ d ∈ tables_1, d.before a0 Z = true) (ws : List Jvm.Cond) (p1 : Int32) (h0 : Heap) (n0 : Nat) (Z0 : n0 ≤ h0.size)  :
    MetFree l y_0 (head1 (Jvm.Cond.code y_0 method_3_code 2 (some .char) :: ws) ({ frames := 0, cells := 0, slots := 0, locals := 0 } : Room)) (fun a U => a = #[(.int p1)] ∧ Z.Warmed39 U.vm ∧ U.heap = h0) (fun _ _ _ _ _ => True) (fun _ U o U' => ∃ v L, o = .returned v ∧ Q_rmAl Z p1 h0 n0 v U'.heap L ∧ FrameEnd U o U' L ({ frames := 0, cells := 0, slots := 0, locals := 0 } : Room).cells ({ frames := 0, cells := 0, slots := 0, locals := 0 } : Room).slots) := by
 refine bodyOf pn_0 (fun m => ef_rmAl m p1) ?_
 intro p e s m below meth c T0 X0 hx hby hml hown hnm hret hk hZ e0
 have N0 := Fr.nil n0
 have K0 : Keep h0 h0 [] := Keep.refl _ _
 refine go (S' := T0.setTop (mkF m 8 #[si p1, si ((p1 &&& (2147483647 : Int32)) % (66 : Int32))] [])) (fun t k => XS.iloadN X0.here hx rfl (hb hby d1_0) rfl (X0.ldcInt hx hown (mvT hZ (ww hw 4 rfl)) (g := (mkF m 1 #[si p1, .unset] [(.int p1)])) rfl (hb hby d1_1) _ (XS.iand X0.here hx rfl (hb hby d1_3) rfl (XS.bipush X0.here hx rfl (hb hby d1_4) (iremM X0 hx rfl (hb hby d1_6) rfl (by decide) (XS.istoreN X0.here hx rfl (hb hby d1_7) rfl (l' := #[si p1, si ((p1 &&& (2147483647 : Int32)) % (66 : Int32))]) rfl k)))))) ?_
 obtain ⟨ix, hix⟩ : ∃ z : Int32, z = ((p1 &&& (2147483647 : Int32)) % (66 : Int32)) := ⟨_, rfl⟩
 rw [← hix]
 have hx0 : 0 ≤ ix.toInt := by rw [hix]; exact (own_idx p1).1
 refine go (S' := T0.setTop (mkF m 11 #[si p1, si ix] [(.int 26), (.int ix)])) (fun t k => XS.iloadN X0.here hx rfl (hb hby d1_8) rfl (XS.bipush X0.here hx rfl (hb hby d1_9) k)) ?_
 by_cases hc1 : ix < (26 : Int32)
 ·
  refine go (S' := T0.setTop (mkF m 19 #[si p1, si ix] [(.int (((97 : Int32) + ix).toUInt32.toUInt16.toUInt32.toInt32))])) (fun t k => XS.icmpNo X0.here hx rfl (hb hby d1_11) rfl (tlt hc1).2.1 (XS.bipush X0.here hx rfl (hb hby d1_14) (XS.iloadN X0.here hx rfl (hb hby d1_16) rfl (XS.iadd X0.here hx rfl (hb hby d1_17) rfl (XS.i2c X0.here hx rfl (hb hby d1_18) rfl k))))) ?_
  refine finN X0 hx hk (t := .char) hret (by simp) (hb hby d1_19) (by decide) (by decide) ?_
  rw [e0]
  exact ⟨_, rfl, N0, rfl, own_a1 ix hx0 hc1⟩
 ·
  refine go (S' := T0.setTop (mkF m 23 #[si p1, si ix] [(.int 52), (.int ix)])) (fun t k => XS.icmpYes X0.here hx rfl (pc0 := 11) (pc' := 20) rfl (hb hby d1_11) rfl (flt hc1).2.1 (by decide) (by decide) (XS.iloadN X0.here hx rfl (hb hby d1_20) rfl (XS.bipush X0.here hx rfl (hb hby d1_21) k))) ?_
  by_cases hc2 : ix < (52 : Int32)
  ·
   refine go (S' := T0.setTop (mkF m 34 #[si p1, si ix] [(.int (((65 : Int32) + (ix - (26 : Int32))).toUInt32.toUInt16.toUInt32.toInt32))])) (fun t k => XS.icmpNo X0.here hx rfl (hb hby d1_23) rfl (tlt hc2).2.1 (XS.bipush X0.here hx rfl (hb hby d1_26) (XS.iloadN X0.here hx rfl (hb hby d1_28) rfl (XS.bipush X0.here hx rfl (hb hby d1_29) (XS.isub X0.here hx rfl (hb hby d1_31) rfl (XS.iadd X0.here hx rfl (hb hby d1_32) rfl (XS.i2c X0.here hx rfl (hb hby d1_33) rfl k))))))) ?_
   refine finN X0 hx hk (t := .char) hret (by simp) (hb hby d1_34) (by decide) (by decide) ?_
   rw [e0]
   exact ⟨_, rfl, N0, rfl, own_a2 ix hc1 hc2⟩
  ·
   refine go (S' := T0.setTop (mkF m 38 #[si p1, si ix] [(.int 62), (.int ix)])) (fun t k => XS.icmpYes X0.here hx rfl (pc0 := 23) (pc' := 35) rfl (hb hby d1_23) rfl (flt hc2).2.1 (by decide) (by decide) (XS.iloadN X0.here hx rfl (hb hby d1_35) rfl (XS.bipush X0.here hx rfl (hb hby d1_36) k))) ?_
   by_cases hc3 : ix < (62 : Int32)
   ·
    refine go (S' := T0.setTop (mkF m 49 #[si p1, si ix] [(.int (((48 : Int32) + (ix - (52 : Int32))).toUInt32.toUInt16.toUInt32.toInt32))])) (fun t k => XS.icmpNo X0.here hx rfl (hb hby d1_38) rfl (tlt hc3).2.1 (XS.bipush X0.here hx rfl (hb hby d1_41) (XS.iloadN X0.here hx rfl (hb hby d1_43) rfl (XS.bipush X0.here hx rfl (hb hby d1_44) (XS.isub X0.here hx rfl (hb hby d1_46) rfl (XS.iadd X0.here hx rfl (hb hby d1_47) rfl (XS.i2c X0.here hx rfl (hb hby d1_48) rfl k))))))) ?_
    refine finN X0 hx hk (t := .char) hret (by simp) (hb hby d1_49) (by decide) (by decide) ?_
    rw [e0]
    exact ⟨_, rfl, N0, rfl, own_a3 ix hc2 hc3⟩
   ·
    refine go (S' := T0.setTop (mkF m 53 #[si p1, si ix] [(.int 62), (.int ix)])) (fun t k => XS.icmpYes X0.here hx rfl (pc0 := 38) (pc' := 50) rfl (hb hby d1_38) rfl (flt hc3).2.1 (by decide) (by decide) (XS.iloadN X0.here hx rfl (hb hby d1_50) rfl (XS.bipush X0.here hx rfl (hb hby d1_51) k))) ?_
    by_cases hc4 : ix = (62 : Int32)
    ·
     refine go (S' := T0.setTop (mkF m 58 #[si p1, si ix] [(.int 46)])) (fun t k => XS.icmpNo X0.here hx rfl (hb hby d1_53) rfl (teq hc4).2 (XS.bipush X0.here hx rfl (hb hby d1_56) k)) ?_
     refine finN X0 hx hk (t := .char) hret (by simp) (hb hby d1_58) (by decide) (by decide) ?_
     rw [e0]
     exact ⟨_, rfl, N0, rfl, Or.inr (Or.inr (Or.inr (Or.inl (by decide))))⟩
    ·
     refine go (S' := T0.setTop (mkF m 62 #[si p1, si ix] [(.int 63), (.int ix)])) (fun t k => XS.icmpYes X0.here hx rfl (pc0 := 53) (pc' := 59) rfl (hb hby d1_53) rfl (feq hc4).2 (by decide) (by decide) (XS.iloadN X0.here hx rfl (hb hby d1_59) rfl (XS.bipush X0.here hx rfl (hb hby d1_60) k))) ?_
     by_cases hc5 : ix = (63 : Int32)
     ·
      refine go (S' := T0.setTop (mkF m 67 #[si p1, si ix] [(.int 95)])) (fun t k => XS.icmpNo X0.here hx rfl (hb hby d1_62) rfl (teq hc5).2 (XS.bipush X0.here hx rfl (hb hby d1_65) k)) ?_
      refine finN X0 hx hk (t := .char) hret (by simp) (hb hby d1_67) (by decide) (by decide) ?_
      rw [e0]
      exact ⟨_, rfl, N0, rfl, Or.inr (Or.inr (Or.inr (Or.inr (Or.inl (by decide)))))⟩
     ·
      refine go (S' := T0.setTop (mkF m 71 #[si p1, si ix] [(.int 64), (.int ix)])) (fun t k => XS.icmpYes X0.here hx rfl (pc0 := 62) (pc' := 68) rfl (hb hby d1_62) rfl (feq hc5).2 (by decide) (by decide) (XS.iloadN X0.here hx rfl (hb hby d1_68) rfl (XS.bipush X0.here hx rfl (hb hby d1_69) k))) ?_
      by_cases hc6 : ix = (64 : Int32)
      ·
       refine go (S' := T0.setTop (mkF m 76 #[si p1, si ix] [(.int 58)])) (fun t k => XS.icmpNo X0.here hx rfl (hb hby d1_71) rfl (teq hc6).2 (XS.bipush X0.here hx rfl (hb hby d1_74) k)) ?_
       refine finN X0 hx hk (t := .char) hret (by simp) (hb hby d1_76) (by decide) (by decide) ?_
       rw [e0]
       exact ⟨_, rfl, N0, rfl, Or.inr (Or.inr (Or.inr (Or.inr (Or.inr (Or.inl (by decide))))))⟩
      ·
       refine go (S' := T0.setTop (mkF m 79 #[si p1, si ix] [(.int 45)])) (fun t k => XS.icmpYes X0.here hx rfl (pc0 := 71) (pc' := 77) rfl (hb hby d1_71) rfl (feq hc6).2 (by decide) (by decide) (XS.bipush X0.here hx rfl (hb hby d1_77) k)) ?_
       refine finN X0 hx hk (t := .char) hret (by simp) (hb hby d1_79) (by decide) (by decide) ?_
       rw [e0]
       exact ⟨_, rfl, N0, rfl, Or.inr (Or.inr (Or.inr (Or.inr (Or.inr (Or.inr (by decide))))))⟩
theorem d18_0 : decode prog_14_method_3_code 0 = .ok (.iload_n 0, 1) := by decide +kernel
theorem d18_1 : decode prog_14_method_3_code 1 = .ok (.bipush 97, 2) := by decide +kernel
theorem d18_3 : decode prog_14_method_3_code 3 = .ok (.if_icmp .lt 9, 3) := by decide +kernel
theorem d18_12 : decode prog_14_method_3_code 12 = .ok (.iload_n 0, 1) := by decide +kernel
theorem d18_13 : decode prog_14_method_3_code 13 = .ok (.bipush 65, 2) := by decide +kernel
theorem d18_15 : decode prog_14_method_3_code 15 = .ok (.if_icmp .lt 9, 3) := by decide +kernel
theorem d18_24 : decode prog_14_method_3_code 24 = .ok (.iload_n 0, 1) := by decide +kernel
theorem d18_25 : decode prog_14_method_3_code 25 = .ok (.bipush 48, 2) := by decide +kernel
theorem d18_27 : decode prog_14_method_3_code 27 = .ok (.if_icmp .lt 9, 3) := by decide +kernel
theorem d18_36 : decode prog_14_method_3_code 36 = .ok (.iload_n 0, 1) := by decide +kernel
theorem d18_37 : decode prog_14_method_3_code 37 = .ok (.bipush 46, 2) := by decide +kernel
theorem d18_39 : decode prog_14_method_3_code 39 = .ok (.if_icmp .eq 21, 3) := by decide +kernel
theorem d18_60 : decode prog_14_method_3_code 60 = .ok (.iconst 1, 1) := by decide +kernel
theorem d18_61 : decode prog_14_method_3_code 61 = .ok (.goto 4, 3) := by decide +kernel
theorem d18_65 : decode prog_14_method_3_code 65 = .ok (.ireturn, 1) := by decide +kernel
theorem d18_42 : decode prog_14_method_3_code 42 = .ok (.iload_n 0, 1) := by decide +kernel
theorem d18_43 : decode prog_14_method_3_code 43 = .ok (.bipush 95, 2) := by decide +kernel
theorem d18_45 : decode prog_14_method_3_code 45 = .ok (.if_icmp .eq 15, 3) := by decide +kernel
theorem d18_48 : decode prog_14_method_3_code 48 = .ok (.iload_n 0, 1) := by decide +kernel
theorem d18_49 : decode prog_14_method_3_code 49 = .ok (.bipush 58, 2) := by decide +kernel
theorem d18_51 : decode prog_14_method_3_code 51 = .ok (.if_icmp .eq 9, 3) := by decide +kernel
theorem d18_54 : decode prog_14_method_3_code 54 = .ok (.iload_n 0, 1) := by decide +kernel
theorem d18_55 : decode prog_14_method_3_code 55 = .ok (.bipush 45, 2) := by decide +kernel
theorem d18_57 : decode prog_14_method_3_code 57 = .ok (.if_icmp .ne 7, 3) := by decide +kernel
theorem d18_64 : decode prog_14_method_3_code 64 = .ok (.iconst 0, 1) := by decide +kernel
theorem d18_30 : decode prog_14_method_3_code 30 = .ok (.iload_n 0, 1) := by decide +kernel
theorem d18_31 : decode prog_14_method_3_code 31 = .ok (.bipush 57, 2) := by decide +kernel
theorem d18_33 : decode prog_14_method_3_code 33 = .ok (.if_icmp .le 27, 3) := by decide +kernel
theorem d18_18 : decode prog_14_method_3_code 18 = .ok (.iload_n 0, 1) := by decide +kernel
theorem d18_19 : decode prog_14_method_3_code 19 = .ok (.bipush 90, 2) := by decide +kernel
theorem d18_21 : decode prog_14_method_3_code 21 = .ok (.if_icmp .le 39, 3) := by decide +kernel
theorem d18_6 : decode prog_14_method_3_code 6 = .ok (.iload_n 0, 1) := by decide +kernel
theorem d18_7 : decode prog_14_method_3_code 7 = .ok (.bipush 122, 2) := by decide +kernel
theorem d18_9 : decode prog_14_method_3_code 9 = .ok (.if_icmp .le 51, 3) := by decide +kernel
abbrev y_1 : MethodName := ⟨"com/example/eindhoven/eindhoven/LockName", "isAllowed", "(C)Z"⟩
theorem pn_1 : plainFor y_1 = true := by first | exact plainFor_of_name (by first | (simp [plainName, overriddenIn]; done) | decide +kernel) | decide +kernel
theorem ef_rmIa (m : MethodId) (p1 : Int32) : entryFrame m #[(.int p1)] 1 = mkF m 0 #[si p1] [] := by first | (simp [entryFrame, mkF, argsToLocals, Value.category]; done) | rfl
def Q_rmIa (Z : State) (p1 : Int32) (h0 : Heap) (n0 : Nat) (v : Option Value) (h : Heap) (L : List Loc) : Prop := v = some (.int 1) ∧ Fr n0 L ∧ h = h0
set_option maxRecDepth 65536 in
set_option maxHeartbeats 40000000 in
theorem rmIa (l : Launch) (Z : State) (a0 : Array Value) (hw : ∀ d ∈ tables_1, d.before a0 Z = true) (ws : List Jvm.Cond) (p1 : Int32) (h0 : Heap) (n0 : Nat) (Z0 : n0 ≤ h0.size) (hok : own_ok p1) :
    MetFree l y_1 (head1 (Jvm.Cond.code y_1 prog_14_method_3_code 1 (some .boolean) :: ws) ({ frames := 0, cells := 0, slots := 0, locals := 0 } : Room)) (fun a U => a = #[(.int p1)] ∧ Z.Warmed39 U.vm ∧ U.heap = h0) (fun _ _ _ _ _ => True) (fun _ U o U' => ∃ v L, o = .returned v ∧ Q_rmIa Z p1 h0 n0 v U'.heap L ∧ FrameEnd U o U' L ({ frames := 0, cells := 0, slots := 0, locals := 0 } : Room).cells ({ frames := 0, cells := 0, slots := 0, locals := 0 } : Room).slots) := by
 refine bodyOf pn_1 (fun m => ef_rmIa m p1) ?_
 intro p e s m below meth c T0 X0 hx hby hml hown hnm hret hk hZ e0
 have N0 := Fr.nil n0
 have K0 : Keep h0 h0 [] := Keep.refl _ _
 refine go (S' := T0.setTop (mkF m 3 #[si p1] [(.int 97), (.int p1)])) (fun t k => XS.iloadN X0.here hx rfl (hb hby d18_0) rfl (XS.bipush X0.here hx rfl (hb hby d18_1) k)) ?_
 by_cases hc7 : p1 < (97 : Int32)
 ·
  refine go (S' := T0.setTop (mkF m 15 #[si p1] [(.int 65), (.int p1)])) (fun t k => XS.icmpYes X0.here hx rfl (pc0 := 3) (pc' := 12) rfl (hb hby d18_3) rfl (tlt hc7).1 (by decide) (by decide) (XS.iloadN X0.here hx rfl (hb hby d18_12) rfl (XS.bipush X0.here hx rfl (hb hby d18_13) k))) ?_
  by_cases hc8 : p1 < (65 : Int32)
  ·
   refine go (S' := T0.setTop (mkF m 27 #[si p1] [(.int 48), (.int p1)])) (fun t k => XS.icmpYes X0.here hx rfl (pc0 := 15) (pc' := 24) rfl (hb hby d18_15) rfl (tlt hc8).1 (by decide) (by decide) (XS.iloadN X0.here hx rfl (hb hby d18_24) rfl (XS.bipush X0.here hx rfl (hb hby d18_25) k))) ?_
   by_cases hc9 : p1 < (48 : Int32)
   ·
    refine go (S' := T0.setTop (mkF m 39 #[si p1] [(.int 46), (.int p1)])) (fun t k => XS.icmpYes X0.here hx rfl (pc0 := 27) (pc' := 36) rfl (hb hby d18_27) rfl (tlt hc9).1 (by decide) (by decide) (XS.iloadN X0.here hx rfl (hb hby d18_36) rfl (XS.bipush X0.here hx rfl (hb hby d18_37) k))) ?_
    by_cases hc10 : p1 = (46 : Int32)
    ·
     refine go (S' := T0.setTop (mkF m 65 #[si p1] [(.int 1)])) (fun t k => XS.icmpYes X0.here hx rfl (pc0 := 39) (pc' := 60) rfl (hb hby d18_39) rfl (teq hc10).1 (by decide) (by decide) (XS.iconst X0.here hx rfl (hb hby d18_60) (XS.goto X0.here hx rfl (pc0 := 61) (pc' := 65) rfl (hb hby d18_61) (by decide) (by decide) k))) ?_
     refine finN X0 hx hk (t := .boolean) hret (by simp) (hb hby d18_65) (by decide) (by decide) ?_
     rw [e0]
     exact ⟨rfl, N0, rfl⟩
    ·
     refine go (S' := T0.setTop (mkF m 45 #[si p1] [(.int 95), (.int p1)])) (fun t k => XS.icmpNo X0.here hx rfl (hb hby d18_39) rfl (feq hc10).1 (XS.iloadN X0.here hx rfl (hb hby d18_42) rfl (XS.bipush X0.here hx rfl (hb hby d18_43) k))) ?_
     by_cases hc11 : p1 = (95 : Int32)
     ·
      refine go (S' := T0.setTop (mkF m 65 #[si p1] [(.int 1)])) (fun t k => XS.icmpYes X0.here hx rfl (pc0 := 45) (pc' := 60) rfl (hb hby d18_45) rfl (teq hc11).1 (by decide) (by decide) (XS.iconst X0.here hx rfl (hb hby d18_60) (XS.goto X0.here hx rfl (pc0 := 61) (pc' := 65) rfl (hb hby d18_61) (by decide) (by decide) k))) ?_
      refine finN X0 hx hk (t := .boolean) hret (by simp) (hb hby d18_65) (by decide) (by decide) ?_
      rw [e0]
      exact ⟨rfl, N0, rfl⟩
     ·
      refine go (S' := T0.setTop (mkF m 51 #[si p1] [(.int 58), (.int p1)])) (fun t k => XS.icmpNo X0.here hx rfl (hb hby d18_45) rfl (feq hc11).1 (XS.iloadN X0.here hx rfl (hb hby d18_48) rfl (XS.bipush X0.here hx rfl (hb hby d18_49) k))) ?_
      by_cases hc12 : p1 = (58 : Int32)
      ·
       refine go (S' := T0.setTop (mkF m 65 #[si p1] [(.int 1)])) (fun t k => XS.icmpYes X0.here hx rfl (pc0 := 51) (pc' := 60) rfl (hb hby d18_51) rfl (teq hc12).1 (by decide) (by decide) (XS.iconst X0.here hx rfl (hb hby d18_60) (XS.goto X0.here hx rfl (pc0 := 61) (pc' := 65) rfl (hb hby d18_61) (by decide) (by decide) k))) ?_
       refine finN X0 hx hk (t := .boolean) hret (by simp) (hb hby d18_65) (by decide) (by decide) ?_
       rw [e0]
       exact ⟨rfl, N0, rfl⟩
      ·
       refine go (S' := T0.setTop (mkF m 57 #[si p1] [(.int 45), (.int p1)])) (fun t k => XS.icmpNo X0.here hx rfl (hb hby d18_51) rfl (feq hc12).1 (XS.iloadN X0.here hx rfl (hb hby d18_54) rfl (XS.bipush X0.here hx rfl (hb hby d18_55) k))) ?_
       by_cases hc13 : p1 = (45 : Int32)
       ·
        refine go (S' := T0.setTop (mkF m 65 #[si p1] [(.int 1)])) (fun t k => XS.icmpNo X0.here hx rfl (hb hby d18_57) rfl (teq hc13).2 (XS.iconst X0.here hx rfl (hb hby d18_60) (XS.goto X0.here hx rfl (pc0 := 61) (pc' := 65) rfl (hb hby d18_61) (by decide) (by decide) k))) ?_
        refine finN X0 hx hk (t := .boolean) hret (by simp) (hb hby d18_65) (by decide) (by decide) ?_
        rw [e0]
        exact ⟨rfl, N0, rfl⟩
       ·
        refine go (S' := T0.setTop (mkF m 65 #[si p1] [(.int 0)])) (fun t k => XS.icmpYes X0.here hx rfl (pc0 := 57) (pc' := 64) rfl (hb hby d18_57) rfl (feq hc13).2 (by decide) (by decide) (XS.iconst X0.here hx rfl (hb hby d18_64) k)) ?_
        refine finN X0 hx hk (t := .boolean) hret (by simp) (hb hby d18_65) (by decide) (by decide) ?_
        rw [e0]
        exfalso
        have e0 : (0 : Int32).toInt = 0 := rfl; have e26 : (26 : Int32).toInt = 26 := rfl; have e52 : (52 : Int32).toInt = 52 := rfl; have e62 : (62 : Int32).toInt = 62 := rfl; have e63 : (63 : Int32).toInt = 63 := rfl; have e64 : (64 : Int32).toInt = 64 := rfl; have e65 : (65 : Int32).toInt = 65 := rfl; have e97 : (97 : Int32).toInt = 97 := rfl; have e122 : (122 : Int32).toInt = 122 := rfl; have e90 : (90 : Int32).toInt = 90 := rfl; have e48 : (48 : Int32).toInt = 48 := rfl; have e57 : (57 : Int32).toInt = 57 := rfl; have e46 : (46 : Int32).toInt = 46 := rfl; have e95 : (95 : Int32).toInt = 95 := rfl; have e58 : (58 : Int32).toInt = 58 := rfl; have e45 : (45 : Int32).toInt = 45 := rfl; have e255 : (255 : Int32).toInt = 255 := rfl; have e66 : (66 : Int32).toInt = 66 := rfl
        simp only [own_ok, Int32.lt_iff_toInt_lt, ← Int32.toInt_inj, e97, e122, e65, e90, e48, e57, e46, e95, e58, e45] at hok hc7 hc8 hc9 hc10 hc11 hc12 hc13
        omega
   ·
    refine go (S' := T0.setTop (mkF m 33 #[si p1] [(.int 57), (.int p1)])) (fun t k => XS.icmpNo X0.here hx rfl (hb hby d18_27) rfl (flt hc9).1 (XS.iloadN X0.here hx rfl (hb hby d18_30) rfl (XS.bipush X0.here hx rfl (hb hby d18_31) k))) ?_
    by_cases hc14 : (57 : Int32) < p1
    ·
     refine go (S' := T0.setTop (mkF m 39 #[si p1] [(.int 46), (.int p1)])) (fun t k => XS.icmpNo X0.here hx rfl (hb hby d18_33) rfl (tlt hc14).2.2.2 (XS.iloadN X0.here hx rfl (hb hby d18_36) rfl (XS.bipush X0.here hx rfl (hb hby d18_37) k))) ?_
     by_cases hc15 : p1 = (46 : Int32)
     ·
      refine go (S' := T0.setTop (mkF m 65 #[si p1] [(.int 1)])) (fun t k => XS.icmpYes X0.here hx rfl (pc0 := 39) (pc' := 60) rfl (hb hby d18_39) rfl (teq hc15).1 (by decide) (by decide) (XS.iconst X0.here hx rfl (hb hby d18_60) (XS.goto X0.here hx rfl (pc0 := 61) (pc' := 65) rfl (hb hby d18_61) (by decide) (by decide) k))) ?_
      refine finN X0 hx hk (t := .boolean) hret (by simp) (hb hby d18_65) (by decide) (by decide) ?_
      rw [e0]
      exact ⟨rfl, N0, rfl⟩
     ·
      refine go (S' := T0.setTop (mkF m 45 #[si p1] [(.int 95), (.int p1)])) (fun t k => XS.icmpNo X0.here hx rfl (hb hby d18_39) rfl (feq hc15).1 (XS.iloadN X0.here hx rfl (hb hby d18_42) rfl (XS.bipush X0.here hx rfl (hb hby d18_43) k))) ?_
      by_cases hc16 : p1 = (95 : Int32)
      ·
       refine go (S' := T0.setTop (mkF m 65 #[si p1] [(.int 1)])) (fun t k => XS.icmpYes X0.here hx rfl (pc0 := 45) (pc' := 60) rfl (hb hby d18_45) rfl (teq hc16).1 (by decide) (by decide) (XS.iconst X0.here hx rfl (hb hby d18_60) (XS.goto X0.here hx rfl (pc0 := 61) (pc' := 65) rfl (hb hby d18_61) (by decide) (by decide) k))) ?_
       refine finN X0 hx hk (t := .boolean) hret (by simp) (hb hby d18_65) (by decide) (by decide) ?_
       rw [e0]
       exact ⟨rfl, N0, rfl⟩
      ·
       refine go (S' := T0.setTop (mkF m 51 #[si p1] [(.int 58), (.int p1)])) (fun t k => XS.icmpNo X0.here hx rfl (hb hby d18_45) rfl (feq hc16).1 (XS.iloadN X0.here hx rfl (hb hby d18_48) rfl (XS.bipush X0.here hx rfl (hb hby d18_49) k))) ?_
       by_cases hc17 : p1 = (58 : Int32)
       ·
        refine go (S' := T0.setTop (mkF m 65 #[si p1] [(.int 1)])) (fun t k => XS.icmpYes X0.here hx rfl (pc0 := 51) (pc' := 60) rfl (hb hby d18_51) rfl (teq hc17).1 (by decide) (by decide) (XS.iconst X0.here hx rfl (hb hby d18_60) (XS.goto X0.here hx rfl (pc0 := 61) (pc' := 65) rfl (hb hby d18_61) (by decide) (by decide) k))) ?_
        refine finN X0 hx hk (t := .boolean) hret (by simp) (hb hby d18_65) (by decide) (by decide) ?_
        rw [e0]
        exact ⟨rfl, N0, rfl⟩
       ·
        refine go (S' := T0.setTop (mkF m 57 #[si p1] [(.int 45), (.int p1)])) (fun t k => XS.icmpNo X0.here hx rfl (hb hby d18_51) rfl (feq hc17).1 (XS.iloadN X0.here hx rfl (hb hby d18_54) rfl (XS.bipush X0.here hx rfl (hb hby d18_55) k))) ?_
        by_cases hc18 : p1 = (45 : Int32)
        ·
         refine go (S' := T0.setTop (mkF m 65 #[si p1] [(.int 1)])) (fun t k => XS.icmpNo X0.here hx rfl (hb hby d18_57) rfl (teq hc18).2 (XS.iconst X0.here hx rfl (hb hby d18_60) (XS.goto X0.here hx rfl (pc0 := 61) (pc' := 65) rfl (hb hby d18_61) (by decide) (by decide) k))) ?_
         refine finN X0 hx hk (t := .boolean) hret (by simp) (hb hby d18_65) (by decide) (by decide) ?_
         rw [e0]
         exact ⟨rfl, N0, rfl⟩
        ·
         refine go (S' := T0.setTop (mkF m 65 #[si p1] [(.int 0)])) (fun t k => XS.icmpYes X0.here hx rfl (pc0 := 57) (pc' := 64) rfl (hb hby d18_57) rfl (feq hc18).2 (by decide) (by decide) (XS.iconst X0.here hx rfl (hb hby d18_64) k)) ?_
         refine finN X0 hx hk (t := .boolean) hret (by simp) (hb hby d18_65) (by decide) (by decide) ?_
         rw [e0]
         exfalso
         have e0 : (0 : Int32).toInt = 0 := rfl; have e26 : (26 : Int32).toInt = 26 := rfl; have e52 : (52 : Int32).toInt = 52 := rfl; have e62 : (62 : Int32).toInt = 62 := rfl; have e63 : (63 : Int32).toInt = 63 := rfl; have e64 : (64 : Int32).toInt = 64 := rfl; have e65 : (65 : Int32).toInt = 65 := rfl; have e97 : (97 : Int32).toInt = 97 := rfl; have e122 : (122 : Int32).toInt = 122 := rfl; have e90 : (90 : Int32).toInt = 90 := rfl; have e48 : (48 : Int32).toInt = 48 := rfl; have e57 : (57 : Int32).toInt = 57 := rfl; have e46 : (46 : Int32).toInt = 46 := rfl; have e95 : (95 : Int32).toInt = 95 := rfl; have e58 : (58 : Int32).toInt = 58 := rfl; have e45 : (45 : Int32).toInt = 45 := rfl; have e255 : (255 : Int32).toInt = 255 := rfl; have e66 : (66 : Int32).toInt = 66 := rfl
         simp only [own_ok, Int32.lt_iff_toInt_lt, ← Int32.toInt_inj, e97, e122, e65, e90, e48, e57, e46, e95, e58, e45] at hok hc7 hc8 hc9 hc14 hc15 hc16 hc17 hc18
         omega
    ·
     refine go (S' := T0.setTop (mkF m 65 #[si p1] [(.int 1)])) (fun t k => XS.icmpYes X0.here hx rfl (pc0 := 33) (pc' := 60) rfl (hb hby d18_33) rfl (flt hc14).2.2.2 (by decide) (by decide) (XS.iconst X0.here hx rfl (hb hby d18_60) (XS.goto X0.here hx rfl (pc0 := 61) (pc' := 65) rfl (hb hby d18_61) (by decide) (by decide) k))) ?_
     refine finN X0 hx hk (t := .boolean) hret (by simp) (hb hby d18_65) (by decide) (by decide) ?_
     rw [e0]
     exact ⟨rfl, N0, rfl⟩
  ·
   refine go (S' := T0.setTop (mkF m 21 #[si p1] [(.int 90), (.int p1)])) (fun t k => XS.icmpNo X0.here hx rfl (hb hby d18_15) rfl (flt hc8).1 (XS.iloadN X0.here hx rfl (hb hby d18_18) rfl (XS.bipush X0.here hx rfl (hb hby d18_19) k))) ?_
   by_cases hc19 : (90 : Int32) < p1
   ·
    refine go (S' := T0.setTop (mkF m 27 #[si p1] [(.int 48), (.int p1)])) (fun t k => XS.icmpNo X0.here hx rfl (hb hby d18_21) rfl (tlt hc19).2.2.2 (XS.iloadN X0.here hx rfl (hb hby d18_24) rfl (XS.bipush X0.here hx rfl (hb hby d18_25) k))) ?_
    by_cases hc20 : p1 < (48 : Int32)
    ·
     refine go (S' := T0.setTop (mkF m 39 #[si p1] [(.int 46), (.int p1)])) (fun t k => XS.icmpYes X0.here hx rfl (pc0 := 27) (pc' := 36) rfl (hb hby d18_27) rfl (tlt hc20).1 (by decide) (by decide) (XS.iloadN X0.here hx rfl (hb hby d18_36) rfl (XS.bipush X0.here hx rfl (hb hby d18_37) k))) ?_
     by_cases hc21 : p1 = (46 : Int32)
     ·
      refine go (S' := T0.setTop (mkF m 65 #[si p1] [(.int 1)])) (fun t k => XS.icmpYes X0.here hx rfl (pc0 := 39) (pc' := 60) rfl (hb hby d18_39) rfl (teq hc21).1 (by decide) (by decide) (XS.iconst X0.here hx rfl (hb hby d18_60) (XS.goto X0.here hx rfl (pc0 := 61) (pc' := 65) rfl (hb hby d18_61) (by decide) (by decide) k))) ?_
      refine finN X0 hx hk (t := .boolean) hret (by simp) (hb hby d18_65) (by decide) (by decide) ?_
      rw [e0]
      exact ⟨rfl, N0, rfl⟩
     ·
      refine go (S' := T0.setTop (mkF m 45 #[si p1] [(.int 95), (.int p1)])) (fun t k => XS.icmpNo X0.here hx rfl (hb hby d18_39) rfl (feq hc21).1 (XS.iloadN X0.here hx rfl (hb hby d18_42) rfl (XS.bipush X0.here hx rfl (hb hby d18_43) k))) ?_
      by_cases hc22 : p1 = (95 : Int32)
      ·
       refine go (S' := T0.setTop (mkF m 65 #[si p1] [(.int 1)])) (fun t k => XS.icmpYes X0.here hx rfl (pc0 := 45) (pc' := 60) rfl (hb hby d18_45) rfl (teq hc22).1 (by decide) (by decide) (XS.iconst X0.here hx rfl (hb hby d18_60) (XS.goto X0.here hx rfl (pc0 := 61) (pc' := 65) rfl (hb hby d18_61) (by decide) (by decide) k))) ?_
       refine finN X0 hx hk (t := .boolean) hret (by simp) (hb hby d18_65) (by decide) (by decide) ?_
       rw [e0]
       exact ⟨rfl, N0, rfl⟩
      ·
       refine go (S' := T0.setTop (mkF m 51 #[si p1] [(.int 58), (.int p1)])) (fun t k => XS.icmpNo X0.here hx rfl (hb hby d18_45) rfl (feq hc22).1 (XS.iloadN X0.here hx rfl (hb hby d18_48) rfl (XS.bipush X0.here hx rfl (hb hby d18_49) k))) ?_
       by_cases hc23 : p1 = (58 : Int32)
       ·
        refine go (S' := T0.setTop (mkF m 65 #[si p1] [(.int 1)])) (fun t k => XS.icmpYes X0.here hx rfl (pc0 := 51) (pc' := 60) rfl (hb hby d18_51) rfl (teq hc23).1 (by decide) (by decide) (XS.iconst X0.here hx rfl (hb hby d18_60) (XS.goto X0.here hx rfl (pc0 := 61) (pc' := 65) rfl (hb hby d18_61) (by decide) (by decide) k))) ?_
        refine finN X0 hx hk (t := .boolean) hret (by simp) (hb hby d18_65) (by decide) (by decide) ?_
        rw [e0]
        exact ⟨rfl, N0, rfl⟩
       ·
        refine go (S' := T0.setTop (mkF m 57 #[si p1] [(.int 45), (.int p1)])) (fun t k => XS.icmpNo X0.here hx rfl (hb hby d18_51) rfl (feq hc23).1 (XS.iloadN X0.here hx rfl (hb hby d18_54) rfl (XS.bipush X0.here hx rfl (hb hby d18_55) k))) ?_
        by_cases hc24 : p1 = (45 : Int32)
        ·
         refine go (S' := T0.setTop (mkF m 65 #[si p1] [(.int 1)])) (fun t k => XS.icmpNo X0.here hx rfl (hb hby d18_57) rfl (teq hc24).2 (XS.iconst X0.here hx rfl (hb hby d18_60) (XS.goto X0.here hx rfl (pc0 := 61) (pc' := 65) rfl (hb hby d18_61) (by decide) (by decide) k))) ?_
         refine finN X0 hx hk (t := .boolean) hret (by simp) (hb hby d18_65) (by decide) (by decide) ?_
         rw [e0]
         exact ⟨rfl, N0, rfl⟩
        ·
         refine go (S' := T0.setTop (mkF m 65 #[si p1] [(.int 0)])) (fun t k => XS.icmpYes X0.here hx rfl (pc0 := 57) (pc' := 64) rfl (hb hby d18_57) rfl (feq hc24).2 (by decide) (by decide) (XS.iconst X0.here hx rfl (hb hby d18_64) k)) ?_
         refine finN X0 hx hk (t := .boolean) hret (by simp) (hb hby d18_65) (by decide) (by decide) ?_
         rw [e0]
         exfalso
         have e0 : (0 : Int32).toInt = 0 := rfl; have e26 : (26 : Int32).toInt = 26 := rfl; have e52 : (52 : Int32).toInt = 52 := rfl; have e62 : (62 : Int32).toInt = 62 := rfl; have e63 : (63 : Int32).toInt = 63 := rfl; have e64 : (64 : Int32).toInt = 64 := rfl; have e65 : (65 : Int32).toInt = 65 := rfl; have e97 : (97 : Int32).toInt = 97 := rfl; have e122 : (122 : Int32).toInt = 122 := rfl; have e90 : (90 : Int32).toInt = 90 := rfl; have e48 : (48 : Int32).toInt = 48 := rfl; have e57 : (57 : Int32).toInt = 57 := rfl; have e46 : (46 : Int32).toInt = 46 := rfl; have e95 : (95 : Int32).toInt = 95 := rfl; have e58 : (58 : Int32).toInt = 58 := rfl; have e45 : (45 : Int32).toInt = 45 := rfl; have e255 : (255 : Int32).toInt = 255 := rfl; have e66 : (66 : Int32).toInt = 66 := rfl
         simp only [own_ok, Int32.lt_iff_toInt_lt, ← Int32.toInt_inj, e97, e122, e65, e90, e48, e57, e46, e95, e58, e45] at hok hc7 hc8 hc19 hc20 hc21 hc22 hc23 hc24
         omega
    ·
     refine go (S' := T0.setTop (mkF m 33 #[si p1] [(.int 57), (.int p1)])) (fun t k => XS.icmpNo X0.here hx rfl (hb hby d18_27) rfl (flt hc20).1 (XS.iloadN X0.here hx rfl (hb hby d18_30) rfl (XS.bipush X0.here hx rfl (hb hby d18_31) k))) ?_
     by_cases hc25 : (57 : Int32) < p1
     ·
      refine go (S' := T0.setTop (mkF m 39 #[si p1] [(.int 46), (.int p1)])) (fun t k => XS.icmpNo X0.here hx rfl (hb hby d18_33) rfl (tlt hc25).2.2.2 (XS.iloadN X0.here hx rfl (hb hby d18_36) rfl (XS.bipush X0.here hx rfl (hb hby d18_37) k))) ?_
      by_cases hc26 : p1 = (46 : Int32)
      ·
       refine go (S' := T0.setTop (mkF m 65 #[si p1] [(.int 1)])) (fun t k => XS.icmpYes X0.here hx rfl (pc0 := 39) (pc' := 60) rfl (hb hby d18_39) rfl (teq hc26).1 (by decide) (by decide) (XS.iconst X0.here hx rfl (hb hby d18_60) (XS.goto X0.here hx rfl (pc0 := 61) (pc' := 65) rfl (hb hby d18_61) (by decide) (by decide) k))) ?_
       refine finN X0 hx hk (t := .boolean) hret (by simp) (hb hby d18_65) (by decide) (by decide) ?_
       rw [e0]
       exact ⟨rfl, N0, rfl⟩
      ·
       refine go (S' := T0.setTop (mkF m 45 #[si p1] [(.int 95), (.int p1)])) (fun t k => XS.icmpNo X0.here hx rfl (hb hby d18_39) rfl (feq hc26).1 (XS.iloadN X0.here hx rfl (hb hby d18_42) rfl (XS.bipush X0.here hx rfl (hb hby d18_43) k))) ?_
       by_cases hc27 : p1 = (95 : Int32)
       ·
        refine go (S' := T0.setTop (mkF m 65 #[si p1] [(.int 1)])) (fun t k => XS.icmpYes X0.here hx rfl (pc0 := 45) (pc' := 60) rfl (hb hby d18_45) rfl (teq hc27).1 (by decide) (by decide) (XS.iconst X0.here hx rfl (hb hby d18_60) (XS.goto X0.here hx rfl (pc0 := 61) (pc' := 65) rfl (hb hby d18_61) (by decide) (by decide) k))) ?_
        refine finN X0 hx hk (t := .boolean) hret (by simp) (hb hby d18_65) (by decide) (by decide) ?_
        rw [e0]
        exact ⟨rfl, N0, rfl⟩
       ·
        refine go (S' := T0.setTop (mkF m 51 #[si p1] [(.int 58), (.int p1)])) (fun t k => XS.icmpNo X0.here hx rfl (hb hby d18_45) rfl (feq hc27).1 (XS.iloadN X0.here hx rfl (hb hby d18_48) rfl (XS.bipush X0.here hx rfl (hb hby d18_49) k))) ?_
        by_cases hc28 : p1 = (58 : Int32)
        ·
         refine go (S' := T0.setTop (mkF m 65 #[si p1] [(.int 1)])) (fun t k => XS.icmpYes X0.here hx rfl (pc0 := 51) (pc' := 60) rfl (hb hby d18_51) rfl (teq hc28).1 (by decide) (by decide) (XS.iconst X0.here hx rfl (hb hby d18_60) (XS.goto X0.here hx rfl (pc0 := 61) (pc' := 65) rfl (hb hby d18_61) (by decide) (by decide) k))) ?_
         refine finN X0 hx hk (t := .boolean) hret (by simp) (hb hby d18_65) (by decide) (by decide) ?_
         rw [e0]
         exact ⟨rfl, N0, rfl⟩
        ·
         refine go (S' := T0.setTop (mkF m 57 #[si p1] [(.int 45), (.int p1)])) (fun t k => XS.icmpNo X0.here hx rfl (hb hby d18_51) rfl (feq hc28).1 (XS.iloadN X0.here hx rfl (hb hby d18_54) rfl (XS.bipush X0.here hx rfl (hb hby d18_55) k))) ?_
         by_cases hc29 : p1 = (45 : Int32)
         ·
          refine go (S' := T0.setTop (mkF m 65 #[si p1] [(.int 1)])) (fun t k => XS.icmpNo X0.here hx rfl (hb hby d18_57) rfl (teq hc29).2 (XS.iconst X0.here hx rfl (hb hby d18_60) (XS.goto X0.here hx rfl (pc0 := 61) (pc' := 65) rfl (hb hby d18_61) (by decide) (by decide) k))) ?_
          refine finN X0 hx hk (t := .boolean) hret (by simp) (hb hby d18_65) (by decide) (by decide) ?_
          rw [e0]
          exact ⟨rfl, N0, rfl⟩
         ·
          refine go (S' := T0.setTop (mkF m 65 #[si p1] [(.int 0)])) (fun t k => XS.icmpYes X0.here hx rfl (pc0 := 57) (pc' := 64) rfl (hb hby d18_57) rfl (feq hc29).2 (by decide) (by decide) (XS.iconst X0.here hx rfl (hb hby d18_64) k)) ?_
          refine finN X0 hx hk (t := .boolean) hret (by simp) (hb hby d18_65) (by decide) (by decide) ?_
          rw [e0]
          exfalso
          have e0 : (0 : Int32).toInt = 0 := rfl; have e26 : (26 : Int32).toInt = 26 := rfl; have e52 : (52 : Int32).toInt = 52 := rfl; have e62 : (62 : Int32).toInt = 62 := rfl; have e63 : (63 : Int32).toInt = 63 := rfl; have e64 : (64 : Int32).toInt = 64 := rfl; have e65 : (65 : Int32).toInt = 65 := rfl; have e97 : (97 : Int32).toInt = 97 := rfl; have e122 : (122 : Int32).toInt = 122 := rfl; have e90 : (90 : Int32).toInt = 90 := rfl; have e48 : (48 : Int32).toInt = 48 := rfl; have e57 : (57 : Int32).toInt = 57 := rfl; have e46 : (46 : Int32).toInt = 46 := rfl; have e95 : (95 : Int32).toInt = 95 := rfl; have e58 : (58 : Int32).toInt = 58 := rfl; have e45 : (45 : Int32).toInt = 45 := rfl; have e255 : (255 : Int32).toInt = 255 := rfl; have e66 : (66 : Int32).toInt = 66 := rfl
          simp only [own_ok, Int32.lt_iff_toInt_lt, ← Int32.toInt_inj, e97, e122, e65, e90, e48, e57, e46, e95, e58, e45] at hok hc7 hc8 hc19 hc20 hc25 hc26 hc27 hc28 hc29
          omega
     ·
      refine go (S' := T0.setTop (mkF m 65 #[si p1] [(.int 1)])) (fun t k => XS.icmpYes X0.here hx rfl (pc0 := 33) (pc' := 60) rfl (hb hby d18_33) rfl (flt hc25).2.2.2 (by decide) (by decide) (XS.iconst X0.here hx rfl (hb hby d18_60) (XS.goto X0.here hx rfl (pc0 := 61) (pc' := 65) rfl (hb hby d18_61) (by decide) (by decide) k))) ?_
      refine finN X0 hx hk (t := .boolean) hret (by simp) (hb hby d18_65) (by decide) (by decide) ?_
      rw [e0]
      exact ⟨rfl, N0, rfl⟩
   ·
    refine go (S' := T0.setTop (mkF m 65 #[si p1] [(.int 1)])) (fun t k => XS.icmpYes X0.here hx rfl (pc0 := 21) (pc' := 60) rfl (hb hby d18_21) rfl (flt hc19).2.2.2 (by decide) (by decide) (XS.iconst X0.here hx rfl (hb hby d18_60) (XS.goto X0.here hx rfl (pc0 := 61) (pc' := 65) rfl (hb hby d18_61) (by decide) (by decide) k))) ?_
    refine finN X0 hx hk (t := .boolean) hret (by simp) (hb hby d18_65) (by decide) (by decide) ?_
    rw [e0]
    exact ⟨rfl, N0, rfl⟩
 ·
  refine go (S' := T0.setTop (mkF m 9 #[si p1] [(.int 122), (.int p1)])) (fun t k => XS.icmpNo X0.here hx rfl (hb hby d18_3) rfl (flt hc7).1 (XS.iloadN X0.here hx rfl (hb hby d18_6) rfl (XS.bipush X0.here hx rfl (hb hby d18_7) k))) ?_
  by_cases hc30 : (122 : Int32) < p1
  ·
   refine go (S' := T0.setTop (mkF m 15 #[si p1] [(.int 65), (.int p1)])) (fun t k => XS.icmpNo X0.here hx rfl (hb hby d18_9) rfl (tlt hc30).2.2.2 (XS.iloadN X0.here hx rfl (hb hby d18_12) rfl (XS.bipush X0.here hx rfl (hb hby d18_13) k))) ?_
   by_cases hc31 : p1 < (65 : Int32)
   ·
    refine go (S' := T0.setTop (mkF m 27 #[si p1] [(.int 48), (.int p1)])) (fun t k => XS.icmpYes X0.here hx rfl (pc0 := 15) (pc' := 24) rfl (hb hby d18_15) rfl (tlt hc31).1 (by decide) (by decide) (XS.iloadN X0.here hx rfl (hb hby d18_24) rfl (XS.bipush X0.here hx rfl (hb hby d18_25) k))) ?_
    by_cases hc32 : p1 < (48 : Int32)
    ·
     refine go (S' := T0.setTop (mkF m 39 #[si p1] [(.int 46), (.int p1)])) (fun t k => XS.icmpYes X0.here hx rfl (pc0 := 27) (pc' := 36) rfl (hb hby d18_27) rfl (tlt hc32).1 (by decide) (by decide) (XS.iloadN X0.here hx rfl (hb hby d18_36) rfl (XS.bipush X0.here hx rfl (hb hby d18_37) k))) ?_
     by_cases hc33 : p1 = (46 : Int32)
     ·
      refine go (S' := T0.setTop (mkF m 65 #[si p1] [(.int 1)])) (fun t k => XS.icmpYes X0.here hx rfl (pc0 := 39) (pc' := 60) rfl (hb hby d18_39) rfl (teq hc33).1 (by decide) (by decide) (XS.iconst X0.here hx rfl (hb hby d18_60) (XS.goto X0.here hx rfl (pc0 := 61) (pc' := 65) rfl (hb hby d18_61) (by decide) (by decide) k))) ?_
      refine finN X0 hx hk (t := .boolean) hret (by simp) (hb hby d18_65) (by decide) (by decide) ?_
      rw [e0]
      exact ⟨rfl, N0, rfl⟩
     ·
      refine go (S' := T0.setTop (mkF m 45 #[si p1] [(.int 95), (.int p1)])) (fun t k => XS.icmpNo X0.here hx rfl (hb hby d18_39) rfl (feq hc33).1 (XS.iloadN X0.here hx rfl (hb hby d18_42) rfl (XS.bipush X0.here hx rfl (hb hby d18_43) k))) ?_
      by_cases hc34 : p1 = (95 : Int32)
      ·
       refine go (S' := T0.setTop (mkF m 65 #[si p1] [(.int 1)])) (fun t k => XS.icmpYes X0.here hx rfl (pc0 := 45) (pc' := 60) rfl (hb hby d18_45) rfl (teq hc34).1 (by decide) (by decide) (XS.iconst X0.here hx rfl (hb hby d18_60) (XS.goto X0.here hx rfl (pc0 := 61) (pc' := 65) rfl (hb hby d18_61) (by decide) (by decide) k))) ?_
       refine finN X0 hx hk (t := .boolean) hret (by simp) (hb hby d18_65) (by decide) (by decide) ?_
       rw [e0]
       exact ⟨rfl, N0, rfl⟩
      ·
       refine go (S' := T0.setTop (mkF m 51 #[si p1] [(.int 58), (.int p1)])) (fun t k => XS.icmpNo X0.here hx rfl (hb hby d18_45) rfl (feq hc34).1 (XS.iloadN X0.here hx rfl (hb hby d18_48) rfl (XS.bipush X0.here hx rfl (hb hby d18_49) k))) ?_
       by_cases hc35 : p1 = (58 : Int32)
       ·
        refine go (S' := T0.setTop (mkF m 65 #[si p1] [(.int 1)])) (fun t k => XS.icmpYes X0.here hx rfl (pc0 := 51) (pc' := 60) rfl (hb hby d18_51) rfl (teq hc35).1 (by decide) (by decide) (XS.iconst X0.here hx rfl (hb hby d18_60) (XS.goto X0.here hx rfl (pc0 := 61) (pc' := 65) rfl (hb hby d18_61) (by decide) (by decide) k))) ?_
        refine finN X0 hx hk (t := .boolean) hret (by simp) (hb hby d18_65) (by decide) (by decide) ?_
        rw [e0]
        exact ⟨rfl, N0, rfl⟩
       ·
        refine go (S' := T0.setTop (mkF m 57 #[si p1] [(.int 45), (.int p1)])) (fun t k => XS.icmpNo X0.here hx rfl (hb hby d18_51) rfl (feq hc35).1 (XS.iloadN X0.here hx rfl (hb hby d18_54) rfl (XS.bipush X0.here hx rfl (hb hby d18_55) k))) ?_
        by_cases hc36 : p1 = (45 : Int32)
        ·
         refine go (S' := T0.setTop (mkF m 65 #[si p1] [(.int 1)])) (fun t k => XS.icmpNo X0.here hx rfl (hb hby d18_57) rfl (teq hc36).2 (XS.iconst X0.here hx rfl (hb hby d18_60) (XS.goto X0.here hx rfl (pc0 := 61) (pc' := 65) rfl (hb hby d18_61) (by decide) (by decide) k))) ?_
         refine finN X0 hx hk (t := .boolean) hret (by simp) (hb hby d18_65) (by decide) (by decide) ?_
         rw [e0]
         exact ⟨rfl, N0, rfl⟩
        ·
         refine go (S' := T0.setTop (mkF m 65 #[si p1] [(.int 0)])) (fun t k => XS.icmpYes X0.here hx rfl (pc0 := 57) (pc' := 64) rfl (hb hby d18_57) rfl (feq hc36).2 (by decide) (by decide) (XS.iconst X0.here hx rfl (hb hby d18_64) k)) ?_
         refine finN X0 hx hk (t := .boolean) hret (by simp) (hb hby d18_65) (by decide) (by decide) ?_
         rw [e0]
         exfalso
         have e0 : (0 : Int32).toInt = 0 := rfl; have e26 : (26 : Int32).toInt = 26 := rfl; have e52 : (52 : Int32).toInt = 52 := rfl; have e62 : (62 : Int32).toInt = 62 := rfl; have e63 : (63 : Int32).toInt = 63 := rfl; have e64 : (64 : Int32).toInt = 64 := rfl; have e65 : (65 : Int32).toInt = 65 := rfl; have e97 : (97 : Int32).toInt = 97 := rfl; have e122 : (122 : Int32).toInt = 122 := rfl; have e90 : (90 : Int32).toInt = 90 := rfl; have e48 : (48 : Int32).toInt = 48 := rfl; have e57 : (57 : Int32).toInt = 57 := rfl; have e46 : (46 : Int32).toInt = 46 := rfl; have e95 : (95 : Int32).toInt = 95 := rfl; have e58 : (58 : Int32).toInt = 58 := rfl; have e45 : (45 : Int32).toInt = 45 := rfl; have e255 : (255 : Int32).toInt = 255 := rfl; have e66 : (66 : Int32).toInt = 66 := rfl
         simp only [own_ok, Int32.lt_iff_toInt_lt, ← Int32.toInt_inj, e97, e122, e65, e90, e48, e57, e46, e95, e58, e45] at hok hc7 hc30 hc31 hc32 hc33 hc34 hc35 hc36
         omega
    ·
     refine go (S' := T0.setTop (mkF m 33 #[si p1] [(.int 57), (.int p1)])) (fun t k => XS.icmpNo X0.here hx rfl (hb hby d18_27) rfl (flt hc32).1 (XS.iloadN X0.here hx rfl (hb hby d18_30) rfl (XS.bipush X0.here hx rfl (hb hby d18_31) k))) ?_
     by_cases hc37 : (57 : Int32) < p1
     ·
      refine go (S' := T0.setTop (mkF m 39 #[si p1] [(.int 46), (.int p1)])) (fun t k => XS.icmpNo X0.here hx rfl (hb hby d18_33) rfl (tlt hc37).2.2.2 (XS.iloadN X0.here hx rfl (hb hby d18_36) rfl (XS.bipush X0.here hx rfl (hb hby d18_37) k))) ?_
      by_cases hc38 : p1 = (46 : Int32)
      ·
       refine go (S' := T0.setTop (mkF m 65 #[si p1] [(.int 1)])) (fun t k => XS.icmpYes X0.here hx rfl (pc0 := 39) (pc' := 60) rfl (hb hby d18_39) rfl (teq hc38).1 (by decide) (by decide) (XS.iconst X0.here hx rfl (hb hby d18_60) (XS.goto X0.here hx rfl (pc0 := 61) (pc' := 65) rfl (hb hby d18_61) (by decide) (by decide) k))) ?_
       refine finN X0 hx hk (t := .boolean) hret (by simp) (hb hby d18_65) (by decide) (by decide) ?_
       rw [e0]
       exact ⟨rfl, N0, rfl⟩
      ·
       refine go (S' := T0.setTop (mkF m 45 #[si p1] [(.int 95), (.int p1)])) (fun t k => XS.icmpNo X0.here hx rfl (hb hby d18_39) rfl (feq hc38).1 (XS.iloadN X0.here hx rfl (hb hby d18_42) rfl (XS.bipush X0.here hx rfl (hb hby d18_43) k))) ?_
       by_cases hc39 : p1 = (95 : Int32)
       ·
        refine go (S' := T0.setTop (mkF m 65 #[si p1] [(.int 1)])) (fun t k => XS.icmpYes X0.here hx rfl (pc0 := 45) (pc' := 60) rfl (hb hby d18_45) rfl (teq hc39).1 (by decide) (by decide) (XS.iconst X0.here hx rfl (hb hby d18_60) (XS.goto X0.here hx rfl (pc0 := 61) (pc' := 65) rfl (hb hby d18_61) (by decide) (by decide) k))) ?_
        refine finN X0 hx hk (t := .boolean) hret (by simp) (hb hby d18_65) (by decide) (by decide) ?_
        rw [e0]
        exact ⟨rfl, N0, rfl⟩
       ·
        refine go (S' := T0.setTop (mkF m 51 #[si p1] [(.int 58), (.int p1)])) (fun t k => XS.icmpNo X0.here hx rfl (hb hby d18_45) rfl (feq hc39).1 (XS.iloadN X0.here hx rfl (hb hby d18_48) rfl (XS.bipush X0.here hx rfl (hb hby d18_49) k))) ?_
        by_cases hc40 : p1 = (58 : Int32)
        ·
         refine go (S' := T0.setTop (mkF m 65 #[si p1] [(.int 1)])) (fun t k => XS.icmpYes X0.here hx rfl (pc0 := 51) (pc' := 60) rfl (hb hby d18_51) rfl (teq hc40).1 (by decide) (by decide) (XS.iconst X0.here hx rfl (hb hby d18_60) (XS.goto X0.here hx rfl (pc0 := 61) (pc' := 65) rfl (hb hby d18_61) (by decide) (by decide) k))) ?_
         refine finN X0 hx hk (t := .boolean) hret (by simp) (hb hby d18_65) (by decide) (by decide) ?_
         rw [e0]
         exact ⟨rfl, N0, rfl⟩
        ·
         refine go (S' := T0.setTop (mkF m 57 #[si p1] [(.int 45), (.int p1)])) (fun t k => XS.icmpNo X0.here hx rfl (hb hby d18_51) rfl (feq hc40).1 (XS.iloadN X0.here hx rfl (hb hby d18_54) rfl (XS.bipush X0.here hx rfl (hb hby d18_55) k))) ?_
         by_cases hc41 : p1 = (45 : Int32)
         ·
          refine go (S' := T0.setTop (mkF m 65 #[si p1] [(.int 1)])) (fun t k => XS.icmpNo X0.here hx rfl (hb hby d18_57) rfl (teq hc41).2 (XS.iconst X0.here hx rfl (hb hby d18_60) (XS.goto X0.here hx rfl (pc0 := 61) (pc' := 65) rfl (hb hby d18_61) (by decide) (by decide) k))) ?_
          refine finN X0 hx hk (t := .boolean) hret (by simp) (hb hby d18_65) (by decide) (by decide) ?_
          rw [e0]
          exact ⟨rfl, N0, rfl⟩
         ·
          refine go (S' := T0.setTop (mkF m 65 #[si p1] [(.int 0)])) (fun t k => XS.icmpYes X0.here hx rfl (pc0 := 57) (pc' := 64) rfl (hb hby d18_57) rfl (feq hc41).2 (by decide) (by decide) (XS.iconst X0.here hx rfl (hb hby d18_64) k)) ?_
          refine finN X0 hx hk (t := .boolean) hret (by simp) (hb hby d18_65) (by decide) (by decide) ?_
          rw [e0]
          exfalso
          have e0 : (0 : Int32).toInt = 0 := rfl; have e26 : (26 : Int32).toInt = 26 := rfl; have e52 : (52 : Int32).toInt = 52 := rfl; have e62 : (62 : Int32).toInt = 62 := rfl; have e63 : (63 : Int32).toInt = 63 := rfl; have e64 : (64 : Int32).toInt = 64 := rfl; have e65 : (65 : Int32).toInt = 65 := rfl; have e97 : (97 : Int32).toInt = 97 := rfl; have e122 : (122 : Int32).toInt = 122 := rfl; have e90 : (90 : Int32).toInt = 90 := rfl; have e48 : (48 : Int32).toInt = 48 := rfl; have e57 : (57 : Int32).toInt = 57 := rfl; have e46 : (46 : Int32).toInt = 46 := rfl; have e95 : (95 : Int32).toInt = 95 := rfl; have e58 : (58 : Int32).toInt = 58 := rfl; have e45 : (45 : Int32).toInt = 45 := rfl; have e255 : (255 : Int32).toInt = 255 := rfl; have e66 : (66 : Int32).toInt = 66 := rfl
          simp only [own_ok, Int32.lt_iff_toInt_lt, ← Int32.toInt_inj, e97, e122, e65, e90, e48, e57, e46, e95, e58, e45] at hok hc7 hc30 hc31 hc32 hc37 hc38 hc39 hc40 hc41
          omega
     ·
      refine go (S' := T0.setTop (mkF m 65 #[si p1] [(.int 1)])) (fun t k => XS.icmpYes X0.here hx rfl (pc0 := 33) (pc' := 60) rfl (hb hby d18_33) rfl (flt hc37).2.2.2 (by decide) (by decide) (XS.iconst X0.here hx rfl (hb hby d18_60) (XS.goto X0.here hx rfl (pc0 := 61) (pc' := 65) rfl (hb hby d18_61) (by decide) (by decide) k))) ?_
      refine finN X0 hx hk (t := .boolean) hret (by simp) (hb hby d18_65) (by decide) (by decide) ?_
      rw [e0]
      exact ⟨rfl, N0, rfl⟩
   ·
    refine go (S' := T0.setTop (mkF m 21 #[si p1] [(.int 90), (.int p1)])) (fun t k => XS.icmpNo X0.here hx rfl (hb hby d18_15) rfl (flt hc31).1 (XS.iloadN X0.here hx rfl (hb hby d18_18) rfl (XS.bipush X0.here hx rfl (hb hby d18_19) k))) ?_
    by_cases hc42 : (90 : Int32) < p1
    ·
     refine go (S' := T0.setTop (mkF m 27 #[si p1] [(.int 48), (.int p1)])) (fun t k => XS.icmpNo X0.here hx rfl (hb hby d18_21) rfl (tlt hc42).2.2.2 (XS.iloadN X0.here hx rfl (hb hby d18_24) rfl (XS.bipush X0.here hx rfl (hb hby d18_25) k))) ?_
     by_cases hc43 : p1 < (48 : Int32)
     ·
      refine go (S' := T0.setTop (mkF m 39 #[si p1] [(.int 46), (.int p1)])) (fun t k => XS.icmpYes X0.here hx rfl (pc0 := 27) (pc' := 36) rfl (hb hby d18_27) rfl (tlt hc43).1 (by decide) (by decide) (XS.iloadN X0.here hx rfl (hb hby d18_36) rfl (XS.bipush X0.here hx rfl (hb hby d18_37) k))) ?_
      by_cases hc44 : p1 = (46 : Int32)
      ·
       refine go (S' := T0.setTop (mkF m 65 #[si p1] [(.int 1)])) (fun t k => XS.icmpYes X0.here hx rfl (pc0 := 39) (pc' := 60) rfl (hb hby d18_39) rfl (teq hc44).1 (by decide) (by decide) (XS.iconst X0.here hx rfl (hb hby d18_60) (XS.goto X0.here hx rfl (pc0 := 61) (pc' := 65) rfl (hb hby d18_61) (by decide) (by decide) k))) ?_
       refine finN X0 hx hk (t := .boolean) hret (by simp) (hb hby d18_65) (by decide) (by decide) ?_
       rw [e0]
       exact ⟨rfl, N0, rfl⟩
      ·
       refine go (S' := T0.setTop (mkF m 45 #[si p1] [(.int 95), (.int p1)])) (fun t k => XS.icmpNo X0.here hx rfl (hb hby d18_39) rfl (feq hc44).1 (XS.iloadN X0.here hx rfl (hb hby d18_42) rfl (XS.bipush X0.here hx rfl (hb hby d18_43) k))) ?_
       by_cases hc45 : p1 = (95 : Int32)
       ·
        refine go (S' := T0.setTop (mkF m 65 #[si p1] [(.int 1)])) (fun t k => XS.icmpYes X0.here hx rfl (pc0 := 45) (pc' := 60) rfl (hb hby d18_45) rfl (teq hc45).1 (by decide) (by decide) (XS.iconst X0.here hx rfl (hb hby d18_60) (XS.goto X0.here hx rfl (pc0 := 61) (pc' := 65) rfl (hb hby d18_61) (by decide) (by decide) k))) ?_
        refine finN X0 hx hk (t := .boolean) hret (by simp) (hb hby d18_65) (by decide) (by decide) ?_
        rw [e0]
        exact ⟨rfl, N0, rfl⟩
       ·
        refine go (S' := T0.setTop (mkF m 51 #[si p1] [(.int 58), (.int p1)])) (fun t k => XS.icmpNo X0.here hx rfl (hb hby d18_45) rfl (feq hc45).1 (XS.iloadN X0.here hx rfl (hb hby d18_48) rfl (XS.bipush X0.here hx rfl (hb hby d18_49) k))) ?_
        by_cases hc46 : p1 = (58 : Int32)
        ·
         refine go (S' := T0.setTop (mkF m 65 #[si p1] [(.int 1)])) (fun t k => XS.icmpYes X0.here hx rfl (pc0 := 51) (pc' := 60) rfl (hb hby d18_51) rfl (teq hc46).1 (by decide) (by decide) (XS.iconst X0.here hx rfl (hb hby d18_60) (XS.goto X0.here hx rfl (pc0 := 61) (pc' := 65) rfl (hb hby d18_61) (by decide) (by decide) k))) ?_
         refine finN X0 hx hk (t := .boolean) hret (by simp) (hb hby d18_65) (by decide) (by decide) ?_
         rw [e0]
         exact ⟨rfl, N0, rfl⟩
        ·
         refine go (S' := T0.setTop (mkF m 57 #[si p1] [(.int 45), (.int p1)])) (fun t k => XS.icmpNo X0.here hx rfl (hb hby d18_51) rfl (feq hc46).1 (XS.iloadN X0.here hx rfl (hb hby d18_54) rfl (XS.bipush X0.here hx rfl (hb hby d18_55) k))) ?_
         by_cases hc47 : p1 = (45 : Int32)
         ·
          refine go (S' := T0.setTop (mkF m 65 #[si p1] [(.int 1)])) (fun t k => XS.icmpNo X0.here hx rfl (hb hby d18_57) rfl (teq hc47).2 (XS.iconst X0.here hx rfl (hb hby d18_60) (XS.goto X0.here hx rfl (pc0 := 61) (pc' := 65) rfl (hb hby d18_61) (by decide) (by decide) k))) ?_
          refine finN X0 hx hk (t := .boolean) hret (by simp) (hb hby d18_65) (by decide) (by decide) ?_
          rw [e0]
          exact ⟨rfl, N0, rfl⟩
         ·
          refine go (S' := T0.setTop (mkF m 65 #[si p1] [(.int 0)])) (fun t k => XS.icmpYes X0.here hx rfl (pc0 := 57) (pc' := 64) rfl (hb hby d18_57) rfl (feq hc47).2 (by decide) (by decide) (XS.iconst X0.here hx rfl (hb hby d18_64) k)) ?_
          refine finN X0 hx hk (t := .boolean) hret (by simp) (hb hby d18_65) (by decide) (by decide) ?_
          rw [e0]
          exfalso
          have e0 : (0 : Int32).toInt = 0 := rfl; have e26 : (26 : Int32).toInt = 26 := rfl; have e52 : (52 : Int32).toInt = 52 := rfl; have e62 : (62 : Int32).toInt = 62 := rfl; have e63 : (63 : Int32).toInt = 63 := rfl; have e64 : (64 : Int32).toInt = 64 := rfl; have e65 : (65 : Int32).toInt = 65 := rfl; have e97 : (97 : Int32).toInt = 97 := rfl; have e122 : (122 : Int32).toInt = 122 := rfl; have e90 : (90 : Int32).toInt = 90 := rfl; have e48 : (48 : Int32).toInt = 48 := rfl; have e57 : (57 : Int32).toInt = 57 := rfl; have e46 : (46 : Int32).toInt = 46 := rfl; have e95 : (95 : Int32).toInt = 95 := rfl; have e58 : (58 : Int32).toInt = 58 := rfl; have e45 : (45 : Int32).toInt = 45 := rfl; have e255 : (255 : Int32).toInt = 255 := rfl; have e66 : (66 : Int32).toInt = 66 := rfl
          simp only [own_ok, Int32.lt_iff_toInt_lt, ← Int32.toInt_inj, e97, e122, e65, e90, e48, e57, e46, e95, e58, e45] at hok hc7 hc30 hc31 hc42 hc43 hc44 hc45 hc46 hc47
          omega
     ·
      refine go (S' := T0.setTop (mkF m 33 #[si p1] [(.int 57), (.int p1)])) (fun t k => XS.icmpNo X0.here hx rfl (hb hby d18_27) rfl (flt hc43).1 (XS.iloadN X0.here hx rfl (hb hby d18_30) rfl (XS.bipush X0.here hx rfl (hb hby d18_31) k))) ?_
      by_cases hc48 : (57 : Int32) < p1
      ·
       refine go (S' := T0.setTop (mkF m 39 #[si p1] [(.int 46), (.int p1)])) (fun t k => XS.icmpNo X0.here hx rfl (hb hby d18_33) rfl (tlt hc48).2.2.2 (XS.iloadN X0.here hx rfl (hb hby d18_36) rfl (XS.bipush X0.here hx rfl (hb hby d18_37) k))) ?_
       by_cases hc49 : p1 = (46 : Int32)
       ·
        refine go (S' := T0.setTop (mkF m 65 #[si p1] [(.int 1)])) (fun t k => XS.icmpYes X0.here hx rfl (pc0 := 39) (pc' := 60) rfl (hb hby d18_39) rfl (teq hc49).1 (by decide) (by decide) (XS.iconst X0.here hx rfl (hb hby d18_60) (XS.goto X0.here hx rfl (pc0 := 61) (pc' := 65) rfl (hb hby d18_61) (by decide) (by decide) k))) ?_
        refine finN X0 hx hk (t := .boolean) hret (by simp) (hb hby d18_65) (by decide) (by decide) ?_
        rw [e0]
        exact ⟨rfl, N0, rfl⟩
       ·
        refine go (S' := T0.setTop (mkF m 45 #[si p1] [(.int 95), (.int p1)])) (fun t k => XS.icmpNo X0.here hx rfl (hb hby d18_39) rfl (feq hc49).1 (XS.iloadN X0.here hx rfl (hb hby d18_42) rfl (XS.bipush X0.here hx rfl (hb hby d18_43) k))) ?_
        by_cases hc50 : p1 = (95 : Int32)
        ·
         refine go (S' := T0.setTop (mkF m 65 #[si p1] [(.int 1)])) (fun t k => XS.icmpYes X0.here hx rfl (pc0 := 45) (pc' := 60) rfl (hb hby d18_45) rfl (teq hc50).1 (by decide) (by decide) (XS.iconst X0.here hx rfl (hb hby d18_60) (XS.goto X0.here hx rfl (pc0 := 61) (pc' := 65) rfl (hb hby d18_61) (by decide) (by decide) k))) ?_
         refine finN X0 hx hk (t := .boolean) hret (by simp) (hb hby d18_65) (by decide) (by decide) ?_
         rw [e0]
         exact ⟨rfl, N0, rfl⟩
        ·
         refine go (S' := T0.setTop (mkF m 51 #[si p1] [(.int 58), (.int p1)])) (fun t k => XS.icmpNo X0.here hx rfl (hb hby d18_45) rfl (feq hc50).1 (XS.iloadN X0.here hx rfl (hb hby d18_48) rfl (XS.bipush X0.here hx rfl (hb hby d18_49) k))) ?_
         by_cases hc51 : p1 = (58 : Int32)
         ·
          refine go (S' := T0.setTop (mkF m 65 #[si p1] [(.int 1)])) (fun t k => XS.icmpYes X0.here hx rfl (pc0 := 51) (pc' := 60) rfl (hb hby d18_51) rfl (teq hc51).1 (by decide) (by decide) (XS.iconst X0.here hx rfl (hb hby d18_60) (XS.goto X0.here hx rfl (pc0 := 61) (pc' := 65) rfl (hb hby d18_61) (by decide) (by decide) k))) ?_
          refine finN X0 hx hk (t := .boolean) hret (by simp) (hb hby d18_65) (by decide) (by decide) ?_
          rw [e0]
          exact ⟨rfl, N0, rfl⟩
         ·
          refine go (S' := T0.setTop (mkF m 57 #[si p1] [(.int 45), (.int p1)])) (fun t k => XS.icmpNo X0.here hx rfl (hb hby d18_51) rfl (feq hc51).1 (XS.iloadN X0.here hx rfl (hb hby d18_54) rfl (XS.bipush X0.here hx rfl (hb hby d18_55) k))) ?_
          by_cases hc52 : p1 = (45 : Int32)
          ·
           refine go (S' := T0.setTop (mkF m 65 #[si p1] [(.int 1)])) (fun t k => XS.icmpNo X0.here hx rfl (hb hby d18_57) rfl (teq hc52).2 (XS.iconst X0.here hx rfl (hb hby d18_60) (XS.goto X0.here hx rfl (pc0 := 61) (pc' := 65) rfl (hb hby d18_61) (by decide) (by decide) k))) ?_
           refine finN X0 hx hk (t := .boolean) hret (by simp) (hb hby d18_65) (by decide) (by decide) ?_
           rw [e0]
           exact ⟨rfl, N0, rfl⟩
          ·
           refine go (S' := T0.setTop (mkF m 65 #[si p1] [(.int 0)])) (fun t k => XS.icmpYes X0.here hx rfl (pc0 := 57) (pc' := 64) rfl (hb hby d18_57) rfl (feq hc52).2 (by decide) (by decide) (XS.iconst X0.here hx rfl (hb hby d18_64) k)) ?_
           refine finN X0 hx hk (t := .boolean) hret (by simp) (hb hby d18_65) (by decide) (by decide) ?_
           rw [e0]
           exfalso
           have e0 : (0 : Int32).toInt = 0 := rfl; have e26 : (26 : Int32).toInt = 26 := rfl; have e52 : (52 : Int32).toInt = 52 := rfl; have e62 : (62 : Int32).toInt = 62 := rfl; have e63 : (63 : Int32).toInt = 63 := rfl; have e64 : (64 : Int32).toInt = 64 := rfl; have e65 : (65 : Int32).toInt = 65 := rfl; have e97 : (97 : Int32).toInt = 97 := rfl; have e122 : (122 : Int32).toInt = 122 := rfl; have e90 : (90 : Int32).toInt = 90 := rfl; have e48 : (48 : Int32).toInt = 48 := rfl; have e57 : (57 : Int32).toInt = 57 := rfl; have e46 : (46 : Int32).toInt = 46 := rfl; have e95 : (95 : Int32).toInt = 95 := rfl; have e58 : (58 : Int32).toInt = 58 := rfl; have e45 : (45 : Int32).toInt = 45 := rfl; have e255 : (255 : Int32).toInt = 255 := rfl; have e66 : (66 : Int32).toInt = 66 := rfl
           simp only [own_ok, Int32.lt_iff_toInt_lt, ← Int32.toInt_inj, e97, e122, e65, e90, e48, e57, e46, e95, e58, e45] at hok hc7 hc30 hc31 hc42 hc43 hc48 hc49 hc50 hc51 hc52
           omega
      ·
       refine go (S' := T0.setTop (mkF m 65 #[si p1] [(.int 1)])) (fun t k => XS.icmpYes X0.here hx rfl (pc0 := 33) (pc' := 60) rfl (hb hby d18_33) rfl (flt hc48).2.2.2 (by decide) (by decide) (XS.iconst X0.here hx rfl (hb hby d18_60) (XS.goto X0.here hx rfl (pc0 := 61) (pc' := 65) rfl (hb hby d18_61) (by decide) (by decide) k))) ?_
       refine finN X0 hx hk (t := .boolean) hret (by simp) (hb hby d18_65) (by decide) (by decide) ?_
       rw [e0]
       exact ⟨rfl, N0, rfl⟩
    ·
     refine go (S' := T0.setTop (mkF m 65 #[si p1] [(.int 1)])) (fun t k => XS.icmpYes X0.here hx rfl (pc0 := 21) (pc' := 60) rfl (hb hby d18_21) rfl (flt hc42).2.2.2 (by decide) (by decide) (XS.iconst X0.here hx rfl (hb hby d18_60) (XS.goto X0.here hx rfl (pc0 := 61) (pc' := 65) rfl (hb hby d18_61) (by decide) (by decide) k))) ?_
     refine finN X0 hx hk (t := .boolean) hret (by simp) (hb hby d18_65) (by decide) (by decide) ?_
     rw [e0]
     exact ⟨rfl, N0, rfl⟩
  ·
   refine go (S' := T0.setTop (mkF m 65 #[si p1] [(.int 1)])) (fun t k => XS.icmpYes X0.here hx rfl (pc0 := 9) (pc' := 60) rfl (hb hby d18_9) rfl (flt hc30).2.2.2 (by decide) (by decide) (XS.iconst X0.here hx rfl (hb hby d18_60) (XS.goto X0.here hx rfl (pc0 := 61) (pc' := 65) rfl (hb hby d18_61) (by decide) (by decide) k))) ?_
   refine finN X0 hx hk (t := .boolean) hret (by simp) (hb hby d18_65) (by decide) (by decide) ?_
   rw [e0]
   exact ⟨rfl, N0, rfl⟩
theorem d9_0 : decode jdk_31_method_11_code 0 = .ok (.aload_n 0, 1) := by decide +kernel
theorem d9_1 : decode jdk_31_method_11_code 1 = .ok (.ifnonnull 12, 3) := by decide +kernel
theorem d9_13 : decode jdk_31_method_11_code 13 = .ok (.aload_n 0, 1) := by decide +kernel
theorem d9_14 : decode jdk_31_method_11_code 14 = .ok (.areturn, 1) := by decide +kernel
abbrev y_2 : MethodName := ⟨"java/util/Objects", "requireNonNull", "(Ljava/lang/Object;Ljava/lang/String;)Ljava/lang/Object;"⟩
theorem pn_2 : plainFor y_2 = true := by first | exact plainFor_of_name (by first | (simp [plainName, overriddenIn]; done) | decide +kernel) | decide +kernel
theorem ef_rmRn (m : MethodId) (a1 : Addr) (a2 : Addr) : entryFrame m #[(.ref a1), (.ref a2)] 2 = mkF m 0 #[sr a1, sr a2] [] := by first | (simp [entryFrame, mkF, argsToLocals, Value.category]; done) | rfl
def Q_rmRn (Z : State) (a1 : Addr) (a2 : Addr) (h0 : Heap) (n0 : Nat) (v : Option Value) (h : Heap) (L : List Loc) : Prop := v = some (.ref a1) ∧ Fr n0 L ∧ h = h0
set_option maxRecDepth 65536 in
set_option maxHeartbeats 40000000 in
theorem rmRn (l : Launch) (Z : State) (a0 : Array Value) (hw : ∀ d ∈ tables_1, d.before a0 Z = true) (ws : List Jvm.Cond) (a1 : Addr) (a2 : Addr) (h0 : Heap) (n0 : Nat) (Z0 : n0 ≤ h0.size)  :
    MetFree l y_2 (head1 (Jvm.Cond.code y_2 jdk_31_method_11_code 2 (some (.object "java/lang/Object")) :: ws) ({ frames := 0, cells := 0, slots := 0, locals := 0 } : Room)) (fun a U => a = #[(.ref a1), (.ref a2)] ∧ Z.Warmed39 U.vm ∧ U.heap = h0) (fun _ _ _ _ _ => True) (fun _ U o U' => ∃ v L, o = .returned v ∧ Q_rmRn Z a1 a2 h0 n0 v U'.heap L ∧ FrameEnd U o U' L ({ frames := 0, cells := 0, slots := 0, locals := 0 } : Room).cells ({ frames := 0, cells := 0, slots := 0, locals := 0 } : Room).slots) := by
 refine bodyOf pn_2 (fun m => ef_rmRn m a1 a2) ?_
 intro p e s m below meth c T0 X0 hx hby hml hown hnm hret hk hZ e0
 have N0 := Fr.nil n0
 have K0 : Keep h0 h0 [] := Keep.refl _ _
 refine go (S' := T0.setTop (mkF m 14 #[sr a1, sr a2] [(.ref a1)])) (fun t k => XS.aloadN X0.here hx rfl (hb hby d9_0) rfl rfl (XS.ifnonnullYes X0.here hx rfl (pc0 := 1) (pc' := 13) rfl (hb hby d9_1) rfl (by decide) (by decide) (XS.aloadN X0.here hx rfl (hb hby d9_13) rfl rfl k))) ?_
 refine finR X0 hx hk hret rfl rfl (hb hby d9_14) (by decide) (by decide) ?_
 rw [e0]
 exact ⟨rfl, N0, rfl⟩
theorem d8_0 : decode prog_14_method_2_code 0 = .ok (.aload_n 0, 1) := by decide +kernel
theorem d8_1 : decode prog_14_method_2_code 1 = .ok (.ldc 7, 2) := by decide +kernel
theorem d8_3 : decode prog_14_method_2_code 3 = .ok (.invokestatic 9, 3) := by decide +kernel
theorem pd_0 : parseMethodDescriptor "(Ljava/lang/Object;Ljava/lang/String;)Ljava/lang/Object;" = some ⟨[(.object "java/lang/Object"), (.object "java/lang/String")], some (.object "java/lang/Object")⟩ := by decide +kernel
theorem d8_6 : decode prog_14_method_2_code 6 = .ok (.pop, 1) := by decide +kernel
theorem d8_7 : decode prog_14_method_2_code 7 = .ok (.aload_n 0, 1) := by decide +kernel
theorem d8_8 : decode prog_14_method_2_code 8 = .ok (.invokevirtual 15, 3) := by decide +kernel
theorem pd_1 : parseMethodDescriptor "()Z" = some ⟨[], some .boolean⟩ := by decide +kernel
abbrev y_3 : MethodName := ⟨"java/lang/String", "isEmpty", "()Z"⟩
theorem d8_11 : decode prog_14_method_2_code 11 = .ok (.ifCond .eq 13, 3) := by decide +kernel
theorem d8_24 : decode prog_14_method_2_code 24 = .ok (.aload_n 0, 1) := by decide +kernel
theorem d8_25 : decode prog_14_method_2_code 25 = .ok (.invokevirtual 28, 3) := by decide +kernel
theorem pd_2 : parseMethodDescriptor "()I" = some ⟨[], some .int⟩ := by decide +kernel
abbrev y_4 : MethodName := ⟨"java/lang/String", "length", "()I"⟩
theorem d8_28 : decode prog_14_method_2_code 28 = .ok (.sipush 128, 3) := by decide +kernel
theorem d8_31 : decode prog_14_method_2_code 31 = .ok (.if_icmp .le 20, 3) := by decide +kernel
theorem d8_51 : decode prog_14_method_2_code 51 = .ok (.iconst 0, 1) := by decide +kernel
theorem d8_52 : decode prog_14_method_2_code 52 = .ok (.istore_n 1, 1) := by decide +kernel
theorem d8_53 : decode prog_14_method_2_code 53 = .ok (.iload_n 1, 1) := by decide +kernel
theorem d8_54 : decode prog_14_method_2_code 54 = .ok (.aload_n 0, 1) := by decide +kernel
theorem d8_55 : decode prog_14_method_2_code 55 = .ok (.invokevirtual 28, 3) := by decide +kernel
theorem d8_58 : decode prog_14_method_2_code 58 = .ok (.if_icmp .ge 53, 3) := by decide +kernel
theorem d8_61 : decode prog_14_method_2_code 61 = .ok (.aload_n 0, 1) := by decide +kernel
theorem d8_62 : decode prog_14_method_2_code 62 = .ok (.iload_n 1, 1) := by decide +kernel
theorem d8_63 : decode prog_14_method_2_code 63 = .ok (.invokevirtual 38, 3) := by decide +kernel
theorem pd_3 : parseMethodDescriptor "(I)C" = some ⟨[.int], some .char⟩ := by decide +kernel
abbrev y_5 : MethodName := ⟨"java/lang/String", "charAt", "(I)C"⟩
theorem d8_66 : decode prog_14_method_2_code 66 = .ok (.istore_n 2, 1) := by decide +kernel
theorem d8_67 : decode prog_14_method_2_code 67 = .ok (.iload_n 2, 1) := by decide +kernel
theorem d8_68 : decode prog_14_method_2_code 68 = .ok (.invokestatic 42, 3) := by decide +kernel
theorem pd_4 : parseMethodDescriptor "(C)Z" = some ⟨[.char], some .boolean⟩ := by decide +kernel
theorem d8_71 : decode prog_14_method_2_code 71 = .ok (.ifCond .ne 34, 3) := by decide +kernel
theorem d8_105 : decode prog_14_method_2_code 105 = .ok (.iinc 1 1, 3) := by decide +kernel
theorem d8_108 : decode prog_14_method_2_code 108 = .ok (.goto (-55), 3) := by decide +kernel
theorem d8_111 : decode prog_14_method_2_code 111 = .ok (.aload_n 0, 1) := by decide +kernel
theorem d8_112 : decode prog_14_method_2_code 112 = .ok (.areturn, 1) := by decide +kernel
abbrev y_6 : MethodName := ⟨"com/example/eindhoven/eindhoven/LockName", "check", "(Ljava/lang/String;)Ljava/lang/String;"⟩
theorem pn_3 : plainFor y_6 = true := by first | exact plainFor_of_name (by first | (simp [plainName, overriddenIn]; done) | decide +kernel) | decide +kernel
theorem ef_rmCk1 (m : MethodId) (x1 : Addr) : entryFrame m #[(.ref x1)] 3 = mkF m 0 #[sr x1, .unset, .unset] [] := by first | (simp [entryFrame, mkF, argsToLocals, Value.category]; done) | rfl
def Q_rmCk1 (Z : State) (x1 : Addr) (t1 : Addr) (c0 : Int32) (G1 : Int32) (fm : Value) (h0 : Heap) (n0 : Nat) (v : Option Value) (h : Heap) (L : List Loc) : Prop := v = some (.ref x1) ∧ Fr n0 L ∧ Keep h0 h []
set_option maxRecDepth 65536 in
set_option maxHeartbeats 40000000 in
theorem rmCk1 (l : Launch) (Z : State) (a0 : Array Value) (hw : ∀ d ∈ tables_1, d.before a0 Z = true) (ws : List Jvm.Cond) (x1 : Addr) (t1 : Addr) (c0 : Int32) (G1 : Int32) (fm : Value) (h0 : Heap) (n0 : Nat) (Z0 : n0 ≤ h0.size) (hp0 : Str Z h0 x1 t1 (0 : Int32) ([c0] : List Int32)) (hok0 : own_ok c0) (hp2 : Sta Z Z.heap "java/lang/String" "COMPACT_STRINGS" "Z" (.int G1)) (hG1 : ¬ (G1 = (0 : Int32))) (hp4 : Sta Z Z.heap "jdk/internal/util/Preconditions" "SIOOBE_FORMATTER" "Ljava/util/function/BiFunction;" fm) (hfm : fm.isRef = true) (hp6 : Old Z n0 h0) :
    MetFree l y_6 (head1 (Jvm.Cond.code y_6 prog_14_method_2_code 3 (some (.object "java/lang/String")) :: ws) ({ frames := 4, cells := 2, slots := 40, locals := 53 } : Room)) (fun a U => a = #[(.ref x1)] ∧ Z.Warmed39 U.vm ∧ U.heap = h0 ∧ CHv Z ([] : List (String × Nat)) U.vm h0 ∧ ∀ x ∈ ([] : List Addr), Safe Z ([] : List (String × Nat)) U.vm h0 x) (fun _ _ _ _ _ => True) (fun _ U o U' => ∃ v L, o = .returned v ∧ Q_rmCk1 Z x1 t1 c0 G1 fm h0 n0 v U'.heap L ∧ CHr Z ([] : List (String × Nat)) U.vm U.heap U'.vm U'.heap ∧ ReturnedEndW U o U' L ({ frames := 4, cells := 2, slots := 40, locals := 53 } : Room).cells ({ frames := 4, cells := 2, slots := 40, locals := 53 } : Room).slots) := by
 refine bodyOfW pn_3 (fun m => ef_rmCk1 m x1) ?_
 intro p e s m below meth c T0 X0 hx hby hml hown hnm hret hk hZ e0 hS C0 hsf
 have hkS := Nat.le_refl h0.size
 have N0 := Fr.nil n0
 have K0 : Keep h0 h0 [] := Keep.refl _ _
 have O0 := hp6
 refine go (S' := T0.setTop (mkF m 1 #[sr x1, .unset, .unset] [(.ref x1)])) (fun t k => XS.aloadN X0.here hx rfl (hb hby d8_0) rfl rfl k) ?_
 obtain ⟨la53, T53, h53, k53, X53, e53, E53, hS, hkS, hZ, hown, Cq53, lit53, st53⟩ := ldcOH X0 hx hZ hown (ww hw 39 rfl) (own_sub own_strAtoms hw) e0 hS hkS (own_EW hw) C0.1 (g := (mkF m 1 #[sr x1, .unset, .unset] [(.ref x1)])) rfl (hb hby d8_1) (n := 36) (by decide) (by decide) (by decide) (by decide)
 have K54 : Keep h0 h53 [] := K0.ext E53
 have C55 := C0.trans Cq53
 refine go (S' := T53.setTop (mkF m 3 #[sr x1, .unset, .unset] [(.ref la53), (.ref x1)])) st53 ?_
 obtain ⟨v56, T56, L56, X56, hQ56, st56⟩ := callSt X53 hx hZ (y := y_2) hown (ww hw 42 rfl) (ww hw 43 rfl) (ww hw 44 rfl) (ww hw 45 rfl) (by decide) (backOf (W := 0) (rmRn l Z a0 hw [] x1 la53 h53 n0 (Nat.le_trans Z0 K54.1) ) hZ (ww hw 45 rfl) (ww hw 44 rfl) (by decide) (by decide)) (g := (mkF m 3 #[sr x1, .unset, .unset] [(.ref la53), (.ref x1)])) rfl (by rw [hml]; rfl) (kc := 0) (ks := 0) (argsL := [(.ref x1), (.ref la53)]) (rest := []) (lenOf pd_0 rfl) rfl (mr0 rfl) (hb hby d8_3) e53 (by decide) (by decide)
 obtain ⟨rfl, N56q, e56⟩ := hQ56
 have N56 := Fr.app N0 N56q
 refine go (S' := T56.setTop (mkF m 8 #[sr x1, .unset, .unset] [(.ref x1)])) (fun t k => st56 _ (XS.pop X56.here hx rfl (hb hby d8_6) rfl rfl (XS.aloadN X56.here hx rfl (hb hby d8_7) rfl rfl k))) ?_
 obtain ⟨kb57, N257, vs57, qE57, qV57, qC57, qA57, qcd57, qbd57, ql57⟩ := id (hp0.keep K54 nin0 nin0)
 obtain ⟨v58, T58, L58, X58, hQ58, st58⟩ := callV X56 hx hZ (y := y_3) (z := y_3) hown (ww hw 46 rfl) (ww hw 47 rfl) (notFace_of_selects (args := #[]) (mvT hZ (ww hw 49 rfl))) (ww hw 49 rfl) (ww hw 48 rfl) (by decide) (StrChars.Road.empW (W := 0) hZ (own_sub StrChars_wordsEmp hw) (kI := 4) (ww hw 7 rfl) qE57 qV57 qC57 qA57 qcd57 qbd57 ql57 (by decide) (by decide)) (hp0.keep K54 nin0 nin0).exa (g := (mkF m 8 #[sr x1, .unset, .unset] [(.ref x1)])) rfl (by rw [hml]; rfl) (Q := (fun v h' L => v = some (.int (if ([c0] : List Int32).length = 0 then 1 else 0)) ∧ L = [] ∧ h' = h53)) (kc := 0) (ks := 0) (argsL := []) (rest := []) (lenOf pd_1 rfl) rfl (mr0 rfl) (hb hby d8_8) e56 (by decide) (by decide)
 obtain ⟨rfl, rfl, e58⟩ := hQ58
 have N58 := Fr.app N56 (Fr.nil n0)
 refine go (S' := T58.setTop (mkF m 11 #[sr x1, .unset, .unset] [(.int (if ([c0] : List Int32).length = 0 then (1 : Int32) else (0 : Int32)))])) st58 ?_
 have hc59 : (if ([c0] : List Int32).length = 0 then (1 : Int32) else (0 : Int32)) = (0 : Int32) := rfl
 refine go (S' := T58.setTop (mkF m 25 #[sr x1, .unset, .unset] [(.ref x1)])) (fun t k => XS.ifYes X58.here hx rfl (pc0 := 11) (pc' := 24) rfl (hb hby d8_11) rfl ((if0 _ _).trans (teq hc59).1) (by decide) (by decide) (XS.aloadN X58.here hx rfl (hb hby d8_24) rfl rfl k)) ?_
 have O60 : Old Z n0 h53 := O0.keep K54 all0
 obtain ⟨kb61, N261, vs61, qE61, qV61, qC61, qA61, qcd61, qbd61, ql61⟩ := id (hp0.keep K54 nin0 nin0)
 obtain ⟨v62, T62, L62, X62, hQ62, st62⟩ := callV X58 hx hZ (y := y_4) (z := y_4) hown (ww hw 51 rfl) (ww hw 52 rfl) (notFace_of_selects (args := #[]) (mvT hZ (ww hw 54 rfl))) (ww hw 54 rfl) (ww hw 53 rfl) (by decide) (StrChars.Road.lenW (W := 0) hZ (own_sub StrChars_wordsLen hw) (kI := 4) (ww hw 7 rfl) qE61 qV61 qC61 qA61 qcd61 qbd61 (hp2.ext O60.2) hG1 ql61 (by decide) (by decide)) (hp0.keep K54 nin0 nin0).exa (g := (mkF m 25 #[sr x1, .unset, .unset] [(.ref x1)])) rfl (by rw [hml]; rfl) (Q := (fun v h' L => v = some (.int (Int32.ofNat ([c0] : List Int32).length)) ∧ L = [] ∧ h' = h53)) (kc := 0) (ks := 0) (argsL := []) (rest := []) (lenOf pd_2 rfl) rfl (mr0 rfl) (hb hby d8_25) e58 (by decide) (by decide)
 obtain ⟨rfl, rfl, e62⟩ := hQ62
 have N62 := Fr.app N58 (Fr.nil n0)
 refine go (S' := T62.setTop (mkF m 28 #[sr x1, .unset, .unset] [(.int (Int32.ofNat ([c0] : List Int32).length))])) st62 ?_
 rw [show Int32.ofNat ([c0] : List Int32).length = (1 : Int32) from rfl]
 refine go (S' := T62.setTop (mkF m 31 #[sr x1, .unset, .unset] [(.int 128), (.int 1)])) (fun t k => XS.sipush X62.here hx rfl (hb hby d8_28) k) ?_
 have hc63 : ¬ ((128 : Int32) < (1 : Int32)) := by decide
 refine go (S' := T62.setTop (mkF m 55 #[sr x1, si 0, .unset] [(.ref x1), (.int 0)])) (fun t k => XS.icmpYes X62.here hx rfl (pc0 := 31) (pc' := 51) rfl (hb hby d8_31) rfl (flt hc63).2.2.2 (by decide) (by decide) (XS.iconst X62.here hx rfl (hb hby d8_51) (XS.istoreN X62.here hx rfl (hb hby d8_52) rfl (l' := #[sr x1, si 0, .unset]) rfl (XS.iloadN X62.here hx rfl (hb hby d8_53) rfl (XS.aloadN X62.here hx rfl (hb hby d8_54) rfl rfl k))))) ?_
 obtain ⟨kb64, N264, vs64, qE64, qV64, qC64, qA64, qcd64, qbd64, ql64⟩ := id (hp0.keep K54 nin0 nin0)
 obtain ⟨v65, T65, L65, X65, hQ65, st65⟩ := callV X62 hx hZ (y := y_4) (z := y_4) hown (ww hw 51 rfl) (ww hw 52 rfl) (notFace_of_selects (args := #[]) (mvT hZ (ww hw 54 rfl))) (ww hw 54 rfl) (ww hw 53 rfl) (by decide) (StrChars.Road.lenW (W := 1) hZ (own_sub StrChars_wordsLen hw) (kI := 4) (ww hw 7 rfl) qE64 qV64 qC64 qA64 qcd64 qbd64 (hp2.ext O60.2) hG1 ql64 (by decide) (by decide)) (hp0.keep K54 nin0 nin0).exa (g := (mkF m 55 #[sr x1, si 0, .unset] [(.ref x1), (.int 0)])) rfl (by rw [hml]; rfl) (Q := (fun v h' L => v = some (.int (Int32.ofNat ([c0] : List Int32).length)) ∧ L = [] ∧ h' = h53)) (kc := 0) (ks := 0) (argsL := []) (rest := [(.int 0)]) (lenOf pd_2 rfl) rfl (mr0 rfl) (hb hby d8_55) e62 (by decide) (by decide)
 obtain ⟨rfl, rfl, e65⟩ := hQ65
 have N65 := Fr.app N62 (Fr.nil n0)
 refine go (S' := T65.setTop (mkF m 58 #[sr x1, si 0, .unset] [(.int (Int32.ofNat ([c0] : List Int32).length)), (.int 0)])) st65 ?_
 rw [show Int32.ofNat ([c0] : List Int32).length = (1 : Int32) from rfl]
 have hc66 : (0 : Int32) < (1 : Int32) := by decide
 refine go (S' := T65.setTop (mkF m 63 #[sr x1, si 0, .unset] [(.int 0), (.ref x1)])) (fun t k => XS.icmpNo X65.here hx rfl (hb hby d8_58) rfl (tlt hc66).2.1 (XS.aloadN X65.here hx rfl (hb hby d8_61) rfl rfl (XS.iloadN X65.here hx rfl (hb hby d8_62) rfl k))) ?_
 obtain ⟨kb67, N267, vs67, qE67, qV67, qC67, qA67, qcd67, qbd67, ql67⟩ := id (hp0.keep K54 nin0 nin0)
 obtain ⟨v68, T68, L68, X68, hQ68, st68⟩ := callV X65 hx hZ (y := y_5) (z := y_5) hown (ww hw 61 rfl) (ww hw 62 rfl) (notFace_of_selects (args := #[]) (mvT hZ (ww hw 64 rfl))) (ww hw 64 rfl) (ww hw 63 rfl) (by decide) (StrChars.Road.chN (W := 0) hZ (own_sub StrChars_wordsChN hw) (kI := 4) (ww hw 7 rfl) qE67 qV67 qC67 qA67 qcd67 qbd67 (hp2.ext O60.2) hG1 (hp4.ext O60.2) hfm ql67 (i := 0) (Nat.le_of_ble_eq_true rfl) (j := (0 : Int32)) rfl (by decide) (by decide)) (hp0.keep K54 nin0 nin0).exa (g := (mkF m 63 #[sr x1, si 0, .unset] [(.int 0), (.ref x1)])) rfl (by rw [hml]; rfl) (Q := (fun v h' L => v = some (.int (([c0] : List Int32).getD 0 0)) ∧ L = [] ∧ h' = h53)) (kc := 0) (ks := 0) (argsL := [(.int 0)]) (rest := []) (lenOf pd_3 rfl) rfl (mr0 rfl) (hb hby d8_63) e65 (by decide) (by decide)
 obtain ⟨rfl, rfl, e68⟩ := hQ68
 have N68 := Fr.app N65 (Fr.nil n0)
 refine go (S' := T68.setTop (mkF m 66 #[sr x1, si 0, .unset] [(.int (([c0] : List Int32).getD 0 0))])) st68 ?_
 rw [show (([c0] : List Int32).getD 0 0) = c0 from rfl]
 refine go (S' := T68.setTop (mkF m 68 #[sr x1, si 0, si c0] [(.int c0)])) (fun t k => XS.istoreN X68.here hx rfl (hb hby d8_66) rfl (l' := #[sr x1, si 0, si c0]) rfl (XS.iloadN X68.here hx rfl (hb hby d8_67) rfl k)) ?_
 obtain ⟨v69, T69, L69, X69, hQ69, st69⟩ := callSt X68 hx hZ (y := y_1) hown (ww hw 83 rfl) (ww hw 84 rfl) (ww hw 37 rfl) (ww hw 85 rfl) (by decide) (backOf (W := 0) (rmIa l Z a0 hw [] c0 h53 n0 (Nat.le_trans Z0 K54.1) hok0) hZ (ww hw 85 rfl) (ww hw 37 rfl) (by decide) (by decide)) (g := (mkF m 68 #[sr x1, si 0, si c0] [(.int c0)])) rfl (by rw [hml]; rfl) (kc := 0) (ks := 0) (argsL := [(.int c0)]) (rest := []) (lenOf pd_4 rfl) rfl (mr0 rfl) (hb hby d8_68) e68 (by decide) (by decide)
 obtain ⟨rfl, N69q, e69⟩ := hQ69
 have N69 := Fr.app N68 N69q
 refine go (S' := T69.setTop (mkF m 71 #[sr x1, si 0, si c0] [(.int 1)])) st69 ?_
 have hc70 : ¬ ((1 : Int32) = (0 : Int32)) := by decide
 refine go (S' := T69.setTop (mkF m 55 #[sr x1, si 1, si c0] [(.ref x1), (.int 1)])) (fun t k => XS.ifYes X69.here hx rfl (pc0 := 71) (pc' := 105) rfl (hb hby d8_71) rfl ((if0 _ _).trans (feq hc70).2) (by decide) (by decide) (XS.iinc X69.here hx rfl (hb hby d8_105) rfl (l' := #[sr x1, si 1, si c0]) rfl (XS.goto X69.here hx rfl (pc0 := 108) (pc' := 53) rfl (hb hby d8_108) (by decide) (by decide) (XS.iloadN X69.here hx rfl (hb hby d8_53) rfl (XS.aloadN X69.here hx rfl (hb hby d8_54) rfl rfl k))))) ?_
 obtain ⟨kb71, N271, vs71, qE71, qV71, qC71, qA71, qcd71, qbd71, ql71⟩ := id (hp0.keep K54 nin0 nin0)
 obtain ⟨v72, T72, L72, X72, hQ72, st72⟩ := callV X69 hx hZ (y := y_4) (z := y_4) hown (ww hw 51 rfl) (ww hw 52 rfl) (notFace_of_selects (args := #[]) (mvT hZ (ww hw 54 rfl))) (ww hw 54 rfl) (ww hw 53 rfl) (by decide) (StrChars.Road.lenW (W := 1) hZ (own_sub StrChars_wordsLen hw) (kI := 4) (ww hw 7 rfl) qE71 qV71 qC71 qA71 qcd71 qbd71 (hp2.ext O60.2) hG1 ql71 (by decide) (by decide)) (hp0.keep K54 nin0 nin0).exa (g := (mkF m 55 #[sr x1, si 1, si c0] [(.ref x1), (.int 1)])) rfl (by rw [hml]; rfl) (Q := (fun v h' L => v = some (.int (Int32.ofNat ([c0] : List Int32).length)) ∧ L = [] ∧ h' = h53)) (kc := 0) (ks := 0) (argsL := []) (rest := [(.int 1)]) (lenOf pd_2 rfl) rfl (mr0 rfl) (hb hby d8_55) e69 (by decide) (by decide)
 obtain ⟨rfl, rfl, e72⟩ := hQ72
 have N72 := Fr.app N69 (Fr.nil n0)
 refine go (S' := T72.setTop (mkF m 58 #[sr x1, si 1, si c0] [(.int (Int32.ofNat ([c0] : List Int32).length)), (.int 1)])) st72 ?_
 rw [show Int32.ofNat ([c0] : List Int32).length = (1 : Int32) from rfl]
 have hc73 : ¬ ((1 : Int32) < (1 : Int32)) := by decide
 refine go (S' := T72.setTop (mkF m 112 #[sr x1, si 1, si c0] [(.ref x1)])) (fun t k => XS.icmpYes X72.here hx rfl (pc0 := 58) (pc' := 111) rfl (hb hby d8_58) rfl (flt hc73).2.1 (by decide) (by decide) (XS.aloadN X72.here hx rfl (hb hby d8_111) rfl rfl k)) ?_
 refine finRW X72 hx hk hret rfl rfl hS hkS hZ (own_EW hw) C55 e72 (hb hby d8_112) (by decide) (by decide) ?_
 exact ⟨rfl, N72, K54⟩
theorem ef_rmCk2 (m : MethodId) (x1 : Addr) : entryFrame m #[(.ref x1)] 3 = mkF m 0 #[sr x1, .unset, .unset] [] := by first | (simp [entryFrame, mkF, argsToLocals, Value.category]; done) | rfl
def Q_rmCk2 (Z : State) (x1 : Addr) (t1 : Addr) (c0 : Int32) (c1 : Int32) (G1 : Int32) (fm : Value) (h0 : Heap) (n0 : Nat) (v : Option Value) (h : Heap) (L : List Loc) : Prop := v = some (.ref x1) ∧ Fr n0 L ∧ Keep h0 h []
set_option maxRecDepth 65536 in
set_option maxHeartbeats 40000000 in
theorem rmCk2 (l : Launch) (Z : State) (a0 : Array Value) (hw : ∀ d ∈ tables_1, d.before a0 Z = true) (ws : List Jvm.Cond) (x1 : Addr) (t1 : Addr) (c0 : Int32) (c1 : Int32) (G1 : Int32) (fm : Value) (h0 : Heap) (n0 : Nat) (Z0 : n0 ≤ h0.size) (hp0 : Str Z h0 x1 t1 (0 : Int32) ([c0, c1] : List Int32)) (hok0 : own_ok c0) (hok1 : own_ok c1) (hp3 : Sta Z Z.heap "java/lang/String" "COMPACT_STRINGS" "Z" (.int G1)) (hG1 : ¬ (G1 = (0 : Int32))) (hp5 : Sta Z Z.heap "jdk/internal/util/Preconditions" "SIOOBE_FORMATTER" "Ljava/util/function/BiFunction;" fm) (hfm : fm.isRef = true) (hp7 : Old Z n0 h0) :
    MetFree l y_6 (head1 (Jvm.Cond.code y_6 prog_14_method_2_code 3 (some (.object "java/lang/String")) :: ws) ({ frames := 4, cells := 2, slots := 40, locals := 53 } : Room)) (fun a U => a = #[(.ref x1)] ∧ Z.Warmed39 U.vm ∧ U.heap = h0 ∧ CHv Z ([] : List (String × Nat)) U.vm h0 ∧ ∀ x ∈ ([] : List Addr), Safe Z ([] : List (String × Nat)) U.vm h0 x) (fun _ _ _ _ _ => True) (fun _ U o U' => ∃ v L, o = .returned v ∧ Q_rmCk2 Z x1 t1 c0 c1 G1 fm h0 n0 v U'.heap L ∧ CHr Z ([] : List (String × Nat)) U.vm U.heap U'.vm U'.heap ∧ ReturnedEndW U o U' L ({ frames := 4, cells := 2, slots := 40, locals := 53 } : Room).cells ({ frames := 4, cells := 2, slots := 40, locals := 53 } : Room).slots) := by
 refine bodyOfW pn_3 (fun m => ef_rmCk2 m x1) ?_
 intro p e s m below meth c T0 X0 hx hby hml hown hnm hret hk hZ e0 hS C0 hsf
 have hkS := Nat.le_refl h0.size
 have N0 := Fr.nil n0
 have K0 : Keep h0 h0 [] := Keep.refl _ _
 have O0 := hp7
 refine go (S' := T0.setTop (mkF m 1 #[sr x1, .unset, .unset] [(.ref x1)])) (fun t k => XS.aloadN X0.here hx rfl (hb hby d8_0) rfl rfl k) ?_
 obtain ⟨la74, T74, h74, k74, X74, e74, E74, hS, hkS, hZ, hown, Cq74, lit74, st74⟩ := ldcOH X0 hx hZ hown (ww hw 39 rfl) (own_sub own_strAtoms hw) e0 hS hkS (own_EW hw) C0.1 (g := (mkF m 1 #[sr x1, .unset, .unset] [(.ref x1)])) rfl (hb hby d8_1) (n := 36) (by decide) (by decide) (by decide) (by decide)
 have K75 : Keep h0 h74 [] := K0.ext E74
 have C76 := C0.trans Cq74
 refine go (S' := T74.setTop (mkF m 3 #[sr x1, .unset, .unset] [(.ref la74), (.ref x1)])) st74 ?_
 obtain ⟨v77, T77, L77, X77, hQ77, st77⟩ := callSt X74 hx hZ (y := y_2) hown (ww hw 42 rfl) (ww hw 43 rfl) (ww hw 44 rfl) (ww hw 45 rfl) (by decide) (backOf (W := 0) (rmRn l Z a0 hw [] x1 la74 h74 n0 (Nat.le_trans Z0 K75.1) ) hZ (ww hw 45 rfl) (ww hw 44 rfl) (by decide) (by decide)) (g := (mkF m 3 #[sr x1, .unset, .unset] [(.ref la74), (.ref x1)])) rfl (by rw [hml]; rfl) (kc := 0) (ks := 0) (argsL := [(.ref x1), (.ref la74)]) (rest := []) (lenOf pd_0 rfl) rfl (mr0 rfl) (hb hby d8_3) e74 (by decide) (by decide)
 obtain ⟨rfl, N77q, e77⟩ := hQ77
 have N77 := Fr.app N0 N77q
 refine go (S' := T77.setTop (mkF m 8 #[sr x1, .unset, .unset] [(.ref x1)])) (fun t k => st77 _ (XS.pop X77.here hx rfl (hb hby d8_6) rfl rfl (XS.aloadN X77.here hx rfl (hb hby d8_7) rfl rfl k))) ?_
 obtain ⟨kb78, N278, vs78, qE78, qV78, qC78, qA78, qcd78, qbd78, ql78⟩ := id (hp0.keep K75 nin0 nin0)
 obtain ⟨v79, T79, L79, X79, hQ79, st79⟩ := callV X77 hx hZ (y := y_3) (z := y_3) hown (ww hw 46 rfl) (ww hw 47 rfl) (notFace_of_selects (args := #[]) (mvT hZ (ww hw 49 rfl))) (ww hw 49 rfl) (ww hw 48 rfl) (by decide) (StrChars.Road.empW (W := 0) hZ (own_sub StrChars_wordsEmp hw) (kI := 4) (ww hw 7 rfl) qE78 qV78 qC78 qA78 qcd78 qbd78 ql78 (by decide) (by decide)) (hp0.keep K75 nin0 nin0).exa (g := (mkF m 8 #[sr x1, .unset, .unset] [(.ref x1)])) rfl (by rw [hml]; rfl) (Q := (fun v h' L => v = some (.int (if ([c0, c1] : List Int32).length = 0 then 1 else 0)) ∧ L = [] ∧ h' = h74)) (kc := 0) (ks := 0) (argsL := []) (rest := []) (lenOf pd_1 rfl) rfl (mr0 rfl) (hb hby d8_8) e77 (by decide) (by decide)
 obtain ⟨rfl, rfl, e79⟩ := hQ79
 have N79 := Fr.app N77 (Fr.nil n0)
 refine go (S' := T79.setTop (mkF m 11 #[sr x1, .unset, .unset] [(.int (if ([c0, c1] : List Int32).length = 0 then (1 : Int32) else (0 : Int32)))])) st79 ?_
 have hc80 : (if ([c0, c1] : List Int32).length = 0 then (1 : Int32) else (0 : Int32)) = (0 : Int32) := rfl
 refine go (S' := T79.setTop (mkF m 25 #[sr x1, .unset, .unset] [(.ref x1)])) (fun t k => XS.ifYes X79.here hx rfl (pc0 := 11) (pc' := 24) rfl (hb hby d8_11) rfl ((if0 _ _).trans (teq hc80).1) (by decide) (by decide) (XS.aloadN X79.here hx rfl (hb hby d8_24) rfl rfl k)) ?_
 have O81 : Old Z n0 h74 := O0.keep K75 all0
 obtain ⟨kb82, N282, vs82, qE82, qV82, qC82, qA82, qcd82, qbd82, ql82⟩ := id (hp0.keep K75 nin0 nin0)
 obtain ⟨v83, T83, L83, X83, hQ83, st83⟩ := callV X79 hx hZ (y := y_4) (z := y_4) hown (ww hw 51 rfl) (ww hw 52 rfl) (notFace_of_selects (args := #[]) (mvT hZ (ww hw 54 rfl))) (ww hw 54 rfl) (ww hw 53 rfl) (by decide) (StrChars.Road.lenW (W := 0) hZ (own_sub StrChars_wordsLen hw) (kI := 4) (ww hw 7 rfl) qE82 qV82 qC82 qA82 qcd82 qbd82 (hp3.ext O81.2) hG1 ql82 (by decide) (by decide)) (hp0.keep K75 nin0 nin0).exa (g := (mkF m 25 #[sr x1, .unset, .unset] [(.ref x1)])) rfl (by rw [hml]; rfl) (Q := (fun v h' L => v = some (.int (Int32.ofNat ([c0, c1] : List Int32).length)) ∧ L = [] ∧ h' = h74)) (kc := 0) (ks := 0) (argsL := []) (rest := []) (lenOf pd_2 rfl) rfl (mr0 rfl) (hb hby d8_25) e79 (by decide) (by decide)
 obtain ⟨rfl, rfl, e83⟩ := hQ83
 have N83 := Fr.app N79 (Fr.nil n0)
 refine go (S' := T83.setTop (mkF m 28 #[sr x1, .unset, .unset] [(.int (Int32.ofNat ([c0, c1] : List Int32).length))])) st83 ?_
 rw [show Int32.ofNat ([c0, c1] : List Int32).length = (2 : Int32) from rfl]
 refine go (S' := T83.setTop (mkF m 31 #[sr x1, .unset, .unset] [(.int 128), (.int 2)])) (fun t k => XS.sipush X83.here hx rfl (hb hby d8_28) k) ?_
 have hc84 : ¬ ((128 : Int32) < (2 : Int32)) := by decide
 refine go (S' := T83.setTop (mkF m 55 #[sr x1, si 0, .unset] [(.ref x1), (.int 0)])) (fun t k => XS.icmpYes X83.here hx rfl (pc0 := 31) (pc' := 51) rfl (hb hby d8_31) rfl (flt hc84).2.2.2 (by decide) (by decide) (XS.iconst X83.here hx rfl (hb hby d8_51) (XS.istoreN X83.here hx rfl (hb hby d8_52) rfl (l' := #[sr x1, si 0, .unset]) rfl (XS.iloadN X83.here hx rfl (hb hby d8_53) rfl (XS.aloadN X83.here hx rfl (hb hby d8_54) rfl rfl k))))) ?_
 obtain ⟨kb85, N285, vs85, qE85, qV85, qC85, qA85, qcd85, qbd85, ql85⟩ := id (hp0.keep K75 nin0 nin0)
 obtain ⟨v86, T86, L86, X86, hQ86, st86⟩ := callV X83 hx hZ (y := y_4) (z := y_4) hown (ww hw 51 rfl) (ww hw 52 rfl) (notFace_of_selects (args := #[]) (mvT hZ (ww hw 54 rfl))) (ww hw 54 rfl) (ww hw 53 rfl) (by decide) (StrChars.Road.lenW (W := 1) hZ (own_sub StrChars_wordsLen hw) (kI := 4) (ww hw 7 rfl) qE85 qV85 qC85 qA85 qcd85 qbd85 (hp3.ext O81.2) hG1 ql85 (by decide) (by decide)) (hp0.keep K75 nin0 nin0).exa (g := (mkF m 55 #[sr x1, si 0, .unset] [(.ref x1), (.int 0)])) rfl (by rw [hml]; rfl) (Q := (fun v h' L => v = some (.int (Int32.ofNat ([c0, c1] : List Int32).length)) ∧ L = [] ∧ h' = h74)) (kc := 0) (ks := 0) (argsL := []) (rest := [(.int 0)]) (lenOf pd_2 rfl) rfl (mr0 rfl) (hb hby d8_55) e83 (by decide) (by decide)
 obtain ⟨rfl, rfl, e86⟩ := hQ86
 have N86 := Fr.app N83 (Fr.nil n0)
 refine go (S' := T86.setTop (mkF m 58 #[sr x1, si 0, .unset] [(.int (Int32.ofNat ([c0, c1] : List Int32).length)), (.int 0)])) st86 ?_
 rw [show Int32.ofNat ([c0, c1] : List Int32).length = (2 : Int32) from rfl]
 have hc87 : (0 : Int32) < (2 : Int32) := by decide
 refine go (S' := T86.setTop (mkF m 63 #[sr x1, si 0, .unset] [(.int 0), (.ref x1)])) (fun t k => XS.icmpNo X86.here hx rfl (hb hby d8_58) rfl (tlt hc87).2.1 (XS.aloadN X86.here hx rfl (hb hby d8_61) rfl rfl (XS.iloadN X86.here hx rfl (hb hby d8_62) rfl k))) ?_
 obtain ⟨kb88, N288, vs88, qE88, qV88, qC88, qA88, qcd88, qbd88, ql88⟩ := id (hp0.keep K75 nin0 nin0)
 obtain ⟨v89, T89, L89, X89, hQ89, st89⟩ := callV X86 hx hZ (y := y_5) (z := y_5) hown (ww hw 61 rfl) (ww hw 62 rfl) (notFace_of_selects (args := #[]) (mvT hZ (ww hw 64 rfl))) (ww hw 64 rfl) (ww hw 63 rfl) (by decide) (StrChars.Road.chN (W := 0) hZ (own_sub StrChars_wordsChN hw) (kI := 4) (ww hw 7 rfl) qE88 qV88 qC88 qA88 qcd88 qbd88 (hp3.ext O81.2) hG1 (hp5.ext O81.2) hfm ql88 (i := 0) (Nat.le_of_ble_eq_true rfl) (j := (0 : Int32)) rfl (by decide) (by decide)) (hp0.keep K75 nin0 nin0).exa (g := (mkF m 63 #[sr x1, si 0, .unset] [(.int 0), (.ref x1)])) rfl (by rw [hml]; rfl) (Q := (fun v h' L => v = some (.int (([c0, c1] : List Int32).getD 0 0)) ∧ L = [] ∧ h' = h74)) (kc := 0) (ks := 0) (argsL := [(.int 0)]) (rest := []) (lenOf pd_3 rfl) rfl (mr0 rfl) (hb hby d8_63) e86 (by decide) (by decide)
 obtain ⟨rfl, rfl, e89⟩ := hQ89
 have N89 := Fr.app N86 (Fr.nil n0)
 refine go (S' := T89.setTop (mkF m 66 #[sr x1, si 0, .unset] [(.int (([c0, c1] : List Int32).getD 0 0))])) st89 ?_
 rw [show (([c0, c1] : List Int32).getD 0 0) = c0 from rfl]
 refine go (S' := T89.setTop (mkF m 68 #[sr x1, si 0, si c0] [(.int c0)])) (fun t k => XS.istoreN X89.here hx rfl (hb hby d8_66) rfl (l' := #[sr x1, si 0, si c0]) rfl (XS.iloadN X89.here hx rfl (hb hby d8_67) rfl k)) ?_
 obtain ⟨v90, T90, L90, X90, hQ90, st90⟩ := callSt X89 hx hZ (y := y_1) hown (ww hw 83 rfl) (ww hw 84 rfl) (ww hw 37 rfl) (ww hw 85 rfl) (by decide) (backOf (W := 0) (rmIa l Z a0 hw [] c0 h74 n0 (Nat.le_trans Z0 K75.1) hok0) hZ (ww hw 85 rfl) (ww hw 37 rfl) (by decide) (by decide)) (g := (mkF m 68 #[sr x1, si 0, si c0] [(.int c0)])) rfl (by rw [hml]; rfl) (kc := 0) (ks := 0) (argsL := [(.int c0)]) (rest := []) (lenOf pd_4 rfl) rfl (mr0 rfl) (hb hby d8_68) e89 (by decide) (by decide)
 obtain ⟨rfl, N90q, e90⟩ := hQ90
 have N90 := Fr.app N89 N90q
 refine go (S' := T90.setTop (mkF m 71 #[sr x1, si 0, si c0] [(.int 1)])) st90 ?_
 have hc91 : ¬ ((1 : Int32) = (0 : Int32)) := by decide
 refine go (S' := T90.setTop (mkF m 55 #[sr x1, si 1, si c0] [(.ref x1), (.int 1)])) (fun t k => XS.ifYes X90.here hx rfl (pc0 := 71) (pc' := 105) rfl (hb hby d8_71) rfl ((if0 _ _).trans (feq hc91).2) (by decide) (by decide) (XS.iinc X90.here hx rfl (hb hby d8_105) rfl (l' := #[sr x1, si 1, si c0]) rfl (XS.goto X90.here hx rfl (pc0 := 108) (pc' := 53) rfl (hb hby d8_108) (by decide) (by decide) (XS.iloadN X90.here hx rfl (hb hby d8_53) rfl (XS.aloadN X90.here hx rfl (hb hby d8_54) rfl rfl k))))) ?_
 obtain ⟨kb92, N292, vs92, qE92, qV92, qC92, qA92, qcd92, qbd92, ql92⟩ := id (hp0.keep K75 nin0 nin0)
 obtain ⟨v93, T93, L93, X93, hQ93, st93⟩ := callV X90 hx hZ (y := y_4) (z := y_4) hown (ww hw 51 rfl) (ww hw 52 rfl) (notFace_of_selects (args := #[]) (mvT hZ (ww hw 54 rfl))) (ww hw 54 rfl) (ww hw 53 rfl) (by decide) (StrChars.Road.lenW (W := 1) hZ (own_sub StrChars_wordsLen hw) (kI := 4) (ww hw 7 rfl) qE92 qV92 qC92 qA92 qcd92 qbd92 (hp3.ext O81.2) hG1 ql92 (by decide) (by decide)) (hp0.keep K75 nin0 nin0).exa (g := (mkF m 55 #[sr x1, si 1, si c0] [(.ref x1), (.int 1)])) rfl (by rw [hml]; rfl) (Q := (fun v h' L => v = some (.int (Int32.ofNat ([c0, c1] : List Int32).length)) ∧ L = [] ∧ h' = h74)) (kc := 0) (ks := 0) (argsL := []) (rest := [(.int 1)]) (lenOf pd_2 rfl) rfl (mr0 rfl) (hb hby d8_55) e90 (by decide) (by decide)
 obtain ⟨rfl, rfl, e93⟩ := hQ93
 have N93 := Fr.app N90 (Fr.nil n0)
 refine go (S' := T93.setTop (mkF m 58 #[sr x1, si 1, si c0] [(.int (Int32.ofNat ([c0, c1] : List Int32).length)), (.int 1)])) st93 ?_
 rw [show Int32.ofNat ([c0, c1] : List Int32).length = (2 : Int32) from rfl]
 have hc94 : (1 : Int32) < (2 : Int32) := by decide
 refine go (S' := T93.setTop (mkF m 63 #[sr x1, si 1, si c0] [(.int 1), (.ref x1)])) (fun t k => XS.icmpNo X93.here hx rfl (hb hby d8_58) rfl (tlt hc94).2.1 (XS.aloadN X93.here hx rfl (hb hby d8_61) rfl rfl (XS.iloadN X93.here hx rfl (hb hby d8_62) rfl k))) ?_
 obtain ⟨kb95, N295, vs95, qE95, qV95, qC95, qA95, qcd95, qbd95, ql95⟩ := id (hp0.keep K75 nin0 nin0)
 obtain ⟨v96, T96, L96, X96, hQ96, st96⟩ := callV X93 hx hZ (y := y_5) (z := y_5) hown (ww hw 61 rfl) (ww hw 62 rfl) (notFace_of_selects (args := #[]) (mvT hZ (ww hw 64 rfl))) (ww hw 64 rfl) (ww hw 63 rfl) (by decide) (StrChars.Road.chN (W := 0) hZ (own_sub StrChars_wordsChN hw) (kI := 4) (ww hw 7 rfl) qE95 qV95 qC95 qA95 qcd95 qbd95 (hp3.ext O81.2) hG1 (hp5.ext O81.2) hfm ql95 (i := 1) (Nat.le_of_ble_eq_true rfl) (j := (1 : Int32)) rfl (by decide) (by decide)) (hp0.keep K75 nin0 nin0).exa (g := (mkF m 63 #[sr x1, si 1, si c0] [(.int 1), (.ref x1)])) rfl (by rw [hml]; rfl) (Q := (fun v h' L => v = some (.int (([c0, c1] : List Int32).getD 1 0)) ∧ L = [] ∧ h' = h74)) (kc := 0) (ks := 0) (argsL := [(.int 1)]) (rest := []) (lenOf pd_3 rfl) rfl (mr0 rfl) (hb hby d8_63) e93 (by decide) (by decide)
 obtain ⟨rfl, rfl, e96⟩ := hQ96
 have N96 := Fr.app N93 (Fr.nil n0)
 refine go (S' := T96.setTop (mkF m 66 #[sr x1, si 1, si c0] [(.int (([c0, c1] : List Int32).getD 1 0))])) st96 ?_
 rw [show (([c0, c1] : List Int32).getD 1 0) = c1 from rfl]
 refine go (S' := T96.setTop (mkF m 68 #[sr x1, si 1, si c1] [(.int c1)])) (fun t k => XS.istoreN X96.here hx rfl (hb hby d8_66) rfl (l' := #[sr x1, si 1, si c1]) rfl (XS.iloadN X96.here hx rfl (hb hby d8_67) rfl k)) ?_
 obtain ⟨v97, T97, L97, X97, hQ97, st97⟩ := callSt X96 hx hZ (y := y_1) hown (ww hw 83 rfl) (ww hw 84 rfl) (ww hw 37 rfl) (ww hw 85 rfl) (by decide) (backOf (W := 0) (rmIa l Z a0 hw [] c1 h74 n0 (Nat.le_trans Z0 K75.1) hok1) hZ (ww hw 85 rfl) (ww hw 37 rfl) (by decide) (by decide)) (g := (mkF m 68 #[sr x1, si 1, si c1] [(.int c1)])) rfl (by rw [hml]; rfl) (kc := 0) (ks := 0) (argsL := [(.int c1)]) (rest := []) (lenOf pd_4 rfl) rfl (mr0 rfl) (hb hby d8_68) e96 (by decide) (by decide)
 obtain ⟨rfl, N97q, e97⟩ := hQ97
 have N97 := Fr.app N96 N97q
 refine go (S' := T97.setTop (mkF m 71 #[sr x1, si 1, si c1] [(.int 1)])) st97 ?_
 have hc98 : ¬ ((1 : Int32) = (0 : Int32)) := by decide
 refine go (S' := T97.setTop (mkF m 55 #[sr x1, si 2, si c1] [(.ref x1), (.int 2)])) (fun t k => XS.ifYes X97.here hx rfl (pc0 := 71) (pc' := 105) rfl (hb hby d8_71) rfl ((if0 _ _).trans (feq hc98).2) (by decide) (by decide) (XS.iinc X97.here hx rfl (hb hby d8_105) rfl (l' := #[sr x1, si 2, si c1]) rfl (XS.goto X97.here hx rfl (pc0 := 108) (pc' := 53) rfl (hb hby d8_108) (by decide) (by decide) (XS.iloadN X97.here hx rfl (hb hby d8_53) rfl (XS.aloadN X97.here hx rfl (hb hby d8_54) rfl rfl k))))) ?_
 obtain ⟨kb99, N299, vs99, qE99, qV99, qC99, qA99, qcd99, qbd99, ql99⟩ := id (hp0.keep K75 nin0 nin0)
 obtain ⟨v100, T100, L100, X100, hQ100, st100⟩ := callV X97 hx hZ (y := y_4) (z := y_4) hown (ww hw 51 rfl) (ww hw 52 rfl) (notFace_of_selects (args := #[]) (mvT hZ (ww hw 54 rfl))) (ww hw 54 rfl) (ww hw 53 rfl) (by decide) (StrChars.Road.lenW (W := 1) hZ (own_sub StrChars_wordsLen hw) (kI := 4) (ww hw 7 rfl) qE99 qV99 qC99 qA99 qcd99 qbd99 (hp3.ext O81.2) hG1 ql99 (by decide) (by decide)) (hp0.keep K75 nin0 nin0).exa (g := (mkF m 55 #[sr x1, si 2, si c1] [(.ref x1), (.int 2)])) rfl (by rw [hml]; rfl) (Q := (fun v h' L => v = some (.int (Int32.ofNat ([c0, c1] : List Int32).length)) ∧ L = [] ∧ h' = h74)) (kc := 0) (ks := 0) (argsL := []) (rest := [(.int 2)]) (lenOf pd_2 rfl) rfl (mr0 rfl) (hb hby d8_55) e97 (by decide) (by decide)
 obtain ⟨rfl, rfl, e100⟩ := hQ100
 have N100 := Fr.app N97 (Fr.nil n0)
 refine go (S' := T100.setTop (mkF m 58 #[sr x1, si 2, si c1] [(.int (Int32.ofNat ([c0, c1] : List Int32).length)), (.int 2)])) st100 ?_
 rw [show Int32.ofNat ([c0, c1] : List Int32).length = (2 : Int32) from rfl]
 have hc101 : ¬ ((2 : Int32) < (2 : Int32)) := by decide
 refine go (S' := T100.setTop (mkF m 112 #[sr x1, si 2, si c1] [(.ref x1)])) (fun t k => XS.icmpYes X100.here hx rfl (pc0 := 58) (pc' := 111) rfl (hb hby d8_58) rfl (flt hc101).2.1 (by decide) (by decide) (XS.aloadN X100.here hx rfl (hb hby d8_111) rfl rfl k)) ?_
 refine finRW X100 hx hk hret rfl rfl hS hkS hZ (own_EW hw) C76 e100 (hb hby d8_112) (by decide) (by decide) ?_
 exact ⟨rfl, N100, K75⟩
theorem ef_rmCk3 (m : MethodId) (x1 : Addr) : entryFrame m #[(.ref x1)] 3 = mkF m 0 #[sr x1, .unset, .unset] [] := by first | (simp [entryFrame, mkF, argsToLocals, Value.category]; done) | rfl
def Q_rmCk3 (Z : State) (x1 : Addr) (t1 : Addr) (c0 : Int32) (c1 : Int32) (c2 : Int32) (G1 : Int32) (fm : Value) (h0 : Heap) (n0 : Nat) (v : Option Value) (h : Heap) (L : List Loc) : Prop := v = some (.ref x1) ∧ Fr n0 L ∧ Keep h0 h []
set_option maxRecDepth 65536 in
set_option maxHeartbeats 40000000 in
theorem rmCk3 (l : Launch) (Z : State) (a0 : Array Value) (hw : ∀ d ∈ tables_1, d.before a0 Z = true) (ws : List Jvm.Cond) (x1 : Addr) (t1 : Addr) (c0 : Int32) (c1 : Int32) (c2 : Int32) (G1 : Int32) (fm : Value) (h0 : Heap) (n0 : Nat) (Z0 : n0 ≤ h0.size) (hp0 : Str Z h0 x1 t1 (0 : Int32) ([c0, c1, c2] : List Int32)) (hok0 : own_ok c0) (hok1 : own_ok c1) (hok2 : own_ok c2) (hp4 : Sta Z Z.heap "java/lang/String" "COMPACT_STRINGS" "Z" (.int G1)) (hG1 : ¬ (G1 = (0 : Int32))) (hp6 : Sta Z Z.heap "jdk/internal/util/Preconditions" "SIOOBE_FORMATTER" "Ljava/util/function/BiFunction;" fm) (hfm : fm.isRef = true) (hp8 : Old Z n0 h0) :
    MetFree l y_6 (head1 (Jvm.Cond.code y_6 prog_14_method_2_code 3 (some (.object "java/lang/String")) :: ws) ({ frames := 4, cells := 2, slots := 40, locals := 53 } : Room)) (fun a U => a = #[(.ref x1)] ∧ Z.Warmed39 U.vm ∧ U.heap = h0 ∧ CHv Z ([] : List (String × Nat)) U.vm h0 ∧ ∀ x ∈ ([] : List Addr), Safe Z ([] : List (String × Nat)) U.vm h0 x) (fun _ _ _ _ _ => True) (fun _ U o U' => ∃ v L, o = .returned v ∧ Q_rmCk3 Z x1 t1 c0 c1 c2 G1 fm h0 n0 v U'.heap L ∧ CHr Z ([] : List (String × Nat)) U.vm U.heap U'.vm U'.heap ∧ ReturnedEndW U o U' L ({ frames := 4, cells := 2, slots := 40, locals := 53 } : Room).cells ({ frames := 4, cells := 2, slots := 40, locals := 53 } : Room).slots) := by
 refine bodyOfW pn_3 (fun m => ef_rmCk3 m x1) ?_
 intro p e s m below meth c T0 X0 hx hby hml hown hnm hret hk hZ e0 hS C0 hsf
 have hkS := Nat.le_refl h0.size
 have N0 := Fr.nil n0
 have K0 : Keep h0 h0 [] := Keep.refl _ _
 have O0 := hp8
 refine go (S' := T0.setTop (mkF m 1 #[sr x1, .unset, .unset] [(.ref x1)])) (fun t k => XS.aloadN X0.here hx rfl (hb hby d8_0) rfl rfl k) ?_
 obtain ⟨la102, T102, h102, k102, X102, e102, E102, hS, hkS, hZ, hown, Cq102, lit102, st102⟩ := ldcOH X0 hx hZ hown (ww hw 39 rfl) (own_sub own_strAtoms hw) e0 hS hkS (own_EW hw) C0.1 (g := (mkF m 1 #[sr x1, .unset, .unset] [(.ref x1)])) rfl (hb hby d8_1) (n := 36) (by decide) (by decide) (by decide) (by decide)
 have K103 : Keep h0 h102 [] := K0.ext E102
 have C104 := C0.trans Cq102
 refine go (S' := T102.setTop (mkF m 3 #[sr x1, .unset, .unset] [(.ref la102), (.ref x1)])) st102 ?_
 obtain ⟨v105, T105, L105, X105, hQ105, st105⟩ := callSt X102 hx hZ (y := y_2) hown (ww hw 42 rfl) (ww hw 43 rfl) (ww hw 44 rfl) (ww hw 45 rfl) (by decide) (backOf (W := 0) (rmRn l Z a0 hw [] x1 la102 h102 n0 (Nat.le_trans Z0 K103.1) ) hZ (ww hw 45 rfl) (ww hw 44 rfl) (by decide) (by decide)) (g := (mkF m 3 #[sr x1, .unset, .unset] [(.ref la102), (.ref x1)])) rfl (by rw [hml]; rfl) (kc := 0) (ks := 0) (argsL := [(.ref x1), (.ref la102)]) (rest := []) (lenOf pd_0 rfl) rfl (mr0 rfl) (hb hby d8_3) e102 (by decide) (by decide)
 obtain ⟨rfl, N105q, e105⟩ := hQ105
 have N105 := Fr.app N0 N105q
 refine go (S' := T105.setTop (mkF m 8 #[sr x1, .unset, .unset] [(.ref x1)])) (fun t k => st105 _ (XS.pop X105.here hx rfl (hb hby d8_6) rfl rfl (XS.aloadN X105.here hx rfl (hb hby d8_7) rfl rfl k))) ?_
 obtain ⟨kb106, N2106, vs106, qE106, qV106, qC106, qA106, qcd106, qbd106, ql106⟩ := id (hp0.keep K103 nin0 nin0)
 obtain ⟨v107, T107, L107, X107, hQ107, st107⟩ := callV X105 hx hZ (y := y_3) (z := y_3) hown (ww hw 46 rfl) (ww hw 47 rfl) (notFace_of_selects (args := #[]) (mvT hZ (ww hw 49 rfl))) (ww hw 49 rfl) (ww hw 48 rfl) (by decide) (StrChars.Road.empW (W := 0) hZ (own_sub StrChars_wordsEmp hw) (kI := 4) (ww hw 7 rfl) qE106 qV106 qC106 qA106 qcd106 qbd106 ql106 (by decide) (by decide)) (hp0.keep K103 nin0 nin0).exa (g := (mkF m 8 #[sr x1, .unset, .unset] [(.ref x1)])) rfl (by rw [hml]; rfl) (Q := (fun v h' L => v = some (.int (if ([c0, c1, c2] : List Int32).length = 0 then 1 else 0)) ∧ L = [] ∧ h' = h102)) (kc := 0) (ks := 0) (argsL := []) (rest := []) (lenOf pd_1 rfl) rfl (mr0 rfl) (hb hby d8_8) e105 (by decide) (by decide)
 obtain ⟨rfl, rfl, e107⟩ := hQ107
 have N107 := Fr.app N105 (Fr.nil n0)
 refine go (S' := T107.setTop (mkF m 11 #[sr x1, .unset, .unset] [(.int (if ([c0, c1, c2] : List Int32).length = 0 then (1 : Int32) else (0 : Int32)))])) st107 ?_
 have hc108 : (if ([c0, c1, c2] : List Int32).length = 0 then (1 : Int32) else (0 : Int32)) = (0 : Int32) := rfl
 refine go (S' := T107.setTop (mkF m 25 #[sr x1, .unset, .unset] [(.ref x1)])) (fun t k => XS.ifYes X107.here hx rfl (pc0 := 11) (pc' := 24) rfl (hb hby d8_11) rfl ((if0 _ _).trans (teq hc108).1) (by decide) (by decide) (XS.aloadN X107.here hx rfl (hb hby d8_24) rfl rfl k)) ?_
 have O109 : Old Z n0 h102 := O0.keep K103 all0
 obtain ⟨kb110, N2110, vs110, qE110, qV110, qC110, qA110, qcd110, qbd110, ql110⟩ := id (hp0.keep K103 nin0 nin0)
 obtain ⟨v111, T111, L111, X111, hQ111, st111⟩ := callV X107 hx hZ (y := y_4) (z := y_4) hown (ww hw 51 rfl) (ww hw 52 rfl) (notFace_of_selects (args := #[]) (mvT hZ (ww hw 54 rfl))) (ww hw 54 rfl) (ww hw 53 rfl) (by decide) (StrChars.Road.lenW (W := 0) hZ (own_sub StrChars_wordsLen hw) (kI := 4) (ww hw 7 rfl) qE110 qV110 qC110 qA110 qcd110 qbd110 (hp4.ext O109.2) hG1 ql110 (by decide) (by decide)) (hp0.keep K103 nin0 nin0).exa (g := (mkF m 25 #[sr x1, .unset, .unset] [(.ref x1)])) rfl (by rw [hml]; rfl) (Q := (fun v h' L => v = some (.int (Int32.ofNat ([c0, c1, c2] : List Int32).length)) ∧ L = [] ∧ h' = h102)) (kc := 0) (ks := 0) (argsL := []) (rest := []) (lenOf pd_2 rfl) rfl (mr0 rfl) (hb hby d8_25) e107 (by decide) (by decide)
 obtain ⟨rfl, rfl, e111⟩ := hQ111
 have N111 := Fr.app N107 (Fr.nil n0)
 refine go (S' := T111.setTop (mkF m 28 #[sr x1, .unset, .unset] [(.int (Int32.ofNat ([c0, c1, c2] : List Int32).length))])) st111 ?_
 rw [show Int32.ofNat ([c0, c1, c2] : List Int32).length = (3 : Int32) from rfl]
 refine go (S' := T111.setTop (mkF m 31 #[sr x1, .unset, .unset] [(.int 128), (.int 3)])) (fun t k => XS.sipush X111.here hx rfl (hb hby d8_28) k) ?_
 have hc112 : ¬ ((128 : Int32) < (3 : Int32)) := by decide
 refine go (S' := T111.setTop (mkF m 55 #[sr x1, si 0, .unset] [(.ref x1), (.int 0)])) (fun t k => XS.icmpYes X111.here hx rfl (pc0 := 31) (pc' := 51) rfl (hb hby d8_31) rfl (flt hc112).2.2.2 (by decide) (by decide) (XS.iconst X111.here hx rfl (hb hby d8_51) (XS.istoreN X111.here hx rfl (hb hby d8_52) rfl (l' := #[sr x1, si 0, .unset]) rfl (XS.iloadN X111.here hx rfl (hb hby d8_53) rfl (XS.aloadN X111.here hx rfl (hb hby d8_54) rfl rfl k))))) ?_
 obtain ⟨kb113, N2113, vs113, qE113, qV113, qC113, qA113, qcd113, qbd113, ql113⟩ := id (hp0.keep K103 nin0 nin0)
 obtain ⟨v114, T114, L114, X114, hQ114, st114⟩ := callV X111 hx hZ (y := y_4) (z := y_4) hown (ww hw 51 rfl) (ww hw 52 rfl) (notFace_of_selects (args := #[]) (mvT hZ (ww hw 54 rfl))) (ww hw 54 rfl) (ww hw 53 rfl) (by decide) (StrChars.Road.lenW (W := 1) hZ (own_sub StrChars_wordsLen hw) (kI := 4) (ww hw 7 rfl) qE113 qV113 qC113 qA113 qcd113 qbd113 (hp4.ext O109.2) hG1 ql113 (by decide) (by decide)) (hp0.keep K103 nin0 nin0).exa (g := (mkF m 55 #[sr x1, si 0, .unset] [(.ref x1), (.int 0)])) rfl (by rw [hml]; rfl) (Q := (fun v h' L => v = some (.int (Int32.ofNat ([c0, c1, c2] : List Int32).length)) ∧ L = [] ∧ h' = h102)) (kc := 0) (ks := 0) (argsL := []) (rest := [(.int 0)]) (lenOf pd_2 rfl) rfl (mr0 rfl) (hb hby d8_55) e111 (by decide) (by decide)
 obtain ⟨rfl, rfl, e114⟩ := hQ114
 have N114 := Fr.app N111 (Fr.nil n0)
 refine go (S' := T114.setTop (mkF m 58 #[sr x1, si 0, .unset] [(.int (Int32.ofNat ([c0, c1, c2] : List Int32).length)), (.int 0)])) st114 ?_
 rw [show Int32.ofNat ([c0, c1, c2] : List Int32).length = (3 : Int32) from rfl]
 have hc115 : (0 : Int32) < (3 : Int32) := by decide
 refine go (S' := T114.setTop (mkF m 63 #[sr x1, si 0, .unset] [(.int 0), (.ref x1)])) (fun t k => XS.icmpNo X114.here hx rfl (hb hby d8_58) rfl (tlt hc115).2.1 (XS.aloadN X114.here hx rfl (hb hby d8_61) rfl rfl (XS.iloadN X114.here hx rfl (hb hby d8_62) rfl k))) ?_
 obtain ⟨kb116, N2116, vs116, qE116, qV116, qC116, qA116, qcd116, qbd116, ql116⟩ := id (hp0.keep K103 nin0 nin0)
 obtain ⟨v117, T117, L117, X117, hQ117, st117⟩ := callV X114 hx hZ (y := y_5) (z := y_5) hown (ww hw 61 rfl) (ww hw 62 rfl) (notFace_of_selects (args := #[]) (mvT hZ (ww hw 64 rfl))) (ww hw 64 rfl) (ww hw 63 rfl) (by decide) (StrChars.Road.chN (W := 0) hZ (own_sub StrChars_wordsChN hw) (kI := 4) (ww hw 7 rfl) qE116 qV116 qC116 qA116 qcd116 qbd116 (hp4.ext O109.2) hG1 (hp6.ext O109.2) hfm ql116 (i := 0) (Nat.le_of_ble_eq_true rfl) (j := (0 : Int32)) rfl (by decide) (by decide)) (hp0.keep K103 nin0 nin0).exa (g := (mkF m 63 #[sr x1, si 0, .unset] [(.int 0), (.ref x1)])) rfl (by rw [hml]; rfl) (Q := (fun v h' L => v = some (.int (([c0, c1, c2] : List Int32).getD 0 0)) ∧ L = [] ∧ h' = h102)) (kc := 0) (ks := 0) (argsL := [(.int 0)]) (rest := []) (lenOf pd_3 rfl) rfl (mr0 rfl) (hb hby d8_63) e114 (by decide) (by decide)
 obtain ⟨rfl, rfl, e117⟩ := hQ117
 have N117 := Fr.app N114 (Fr.nil n0)
 refine go (S' := T117.setTop (mkF m 66 #[sr x1, si 0, .unset] [(.int (([c0, c1, c2] : List Int32).getD 0 0))])) st117 ?_
 rw [show (([c0, c1, c2] : List Int32).getD 0 0) = c0 from rfl]
 refine go (S' := T117.setTop (mkF m 68 #[sr x1, si 0, si c0] [(.int c0)])) (fun t k => XS.istoreN X117.here hx rfl (hb hby d8_66) rfl (l' := #[sr x1, si 0, si c0]) rfl (XS.iloadN X117.here hx rfl (hb hby d8_67) rfl k)) ?_
 obtain ⟨v118, T118, L118, X118, hQ118, st118⟩ := callSt X117 hx hZ (y := y_1) hown (ww hw 83 rfl) (ww hw 84 rfl) (ww hw 37 rfl) (ww hw 85 rfl) (by decide) (backOf (W := 0) (rmIa l Z a0 hw [] c0 h102 n0 (Nat.le_trans Z0 K103.1) hok0) hZ (ww hw 85 rfl) (ww hw 37 rfl) (by decide) (by decide)) (g := (mkF m 68 #[sr x1, si 0, si c0] [(.int c0)])) rfl (by rw [hml]; rfl) (kc := 0) (ks := 0) (argsL := [(.int c0)]) (rest := []) (lenOf pd_4 rfl) rfl (mr0 rfl) (hb hby d8_68) e117 (by decide) (by decide)
 obtain ⟨rfl, N118q, e118⟩ := hQ118
 have N118 := Fr.app N117 N118q
 refine go (S' := T118.setTop (mkF m 71 #[sr x1, si 0, si c0] [(.int 1)])) st118 ?_
 have hc119 : ¬ ((1 : Int32) = (0 : Int32)) := by decide
 refine go (S' := T118.setTop (mkF m 55 #[sr x1, si 1, si c0] [(.ref x1), (.int 1)])) (fun t k => XS.ifYes X118.here hx rfl (pc0 := 71) (pc' := 105) rfl (hb hby d8_71) rfl ((if0 _ _).trans (feq hc119).2) (by decide) (by decide) (XS.iinc X118.here hx rfl (hb hby d8_105) rfl (l' := #[sr x1, si 1, si c0]) rfl (XS.goto X118.here hx rfl (pc0 := 108) (pc' := 53) rfl (hb hby d8_108) (by decide) (by decide) (XS.iloadN X118.here hx rfl (hb hby d8_53) rfl (XS.aloadN X118.here hx rfl (hb hby d8_54) rfl rfl k))))) ?_
 obtain ⟨kb120, N2120, vs120, qE120, qV120, qC120, qA120, qcd120, qbd120, ql120⟩ := id (hp0.keep K103 nin0 nin0)
 obtain ⟨v121, T121, L121, X121, hQ121, st121⟩ := callV X118 hx hZ (y := y_4) (z := y_4) hown (ww hw 51 rfl) (ww hw 52 rfl) (notFace_of_selects (args := #[]) (mvT hZ (ww hw 54 rfl))) (ww hw 54 rfl) (ww hw 53 rfl) (by decide) (StrChars.Road.lenW (W := 1) hZ (own_sub StrChars_wordsLen hw) (kI := 4) (ww hw 7 rfl) qE120 qV120 qC120 qA120 qcd120 qbd120 (hp4.ext O109.2) hG1 ql120 (by decide) (by decide)) (hp0.keep K103 nin0 nin0).exa (g := (mkF m 55 #[sr x1, si 1, si c0] [(.ref x1), (.int 1)])) rfl (by rw [hml]; rfl) (Q := (fun v h' L => v = some (.int (Int32.ofNat ([c0, c1, c2] : List Int32).length)) ∧ L = [] ∧ h' = h102)) (kc := 0) (ks := 0) (argsL := []) (rest := [(.int 1)]) (lenOf pd_2 rfl) rfl (mr0 rfl) (hb hby d8_55) e118 (by decide) (by decide)
 obtain ⟨rfl, rfl, e121⟩ := hQ121
 have N121 := Fr.app N118 (Fr.nil n0)
 refine go (S' := T121.setTop (mkF m 58 #[sr x1, si 1, si c0] [(.int (Int32.ofNat ([c0, c1, c2] : List Int32).length)), (.int 1)])) st121 ?_
 rw [show Int32.ofNat ([c0, c1, c2] : List Int32).length = (3 : Int32) from rfl]
 have hc122 : (1 : Int32) < (3 : Int32) := by decide
 refine go (S' := T121.setTop (mkF m 63 #[sr x1, si 1, si c0] [(.int 1), (.ref x1)])) (fun t k => XS.icmpNo X121.here hx rfl (hb hby d8_58) rfl (tlt hc122).2.1 (XS.aloadN X121.here hx rfl (hb hby d8_61) rfl rfl (XS.iloadN X121.here hx rfl (hb hby d8_62) rfl k))) ?_
 obtain ⟨kb123, N2123, vs123, qE123, qV123, qC123, qA123, qcd123, qbd123, ql123⟩ := id (hp0.keep K103 nin0 nin0)
 obtain ⟨v124, T124, L124, X124, hQ124, st124⟩ := callV X121 hx hZ (y := y_5) (z := y_5) hown (ww hw 61 rfl) (ww hw 62 rfl) (notFace_of_selects (args := #[]) (mvT hZ (ww hw 64 rfl))) (ww hw 64 rfl) (ww hw 63 rfl) (by decide) (StrChars.Road.chN (W := 0) hZ (own_sub StrChars_wordsChN hw) (kI := 4) (ww hw 7 rfl) qE123 qV123 qC123 qA123 qcd123 qbd123 (hp4.ext O109.2) hG1 (hp6.ext O109.2) hfm ql123 (i := 1) (Nat.le_of_ble_eq_true rfl) (j := (1 : Int32)) rfl (by decide) (by decide)) (hp0.keep K103 nin0 nin0).exa (g := (mkF m 63 #[sr x1, si 1, si c0] [(.int 1), (.ref x1)])) rfl (by rw [hml]; rfl) (Q := (fun v h' L => v = some (.int (([c0, c1, c2] : List Int32).getD 1 0)) ∧ L = [] ∧ h' = h102)) (kc := 0) (ks := 0) (argsL := [(.int 1)]) (rest := []) (lenOf pd_3 rfl) rfl (mr0 rfl) (hb hby d8_63) e121 (by decide) (by decide)
 obtain ⟨rfl, rfl, e124⟩ := hQ124
 have N124 := Fr.app N121 (Fr.nil n0)
 refine go (S' := T124.setTop (mkF m 66 #[sr x1, si 1, si c0] [(.int (([c0, c1, c2] : List Int32).getD 1 0))])) st124 ?_
 rw [show (([c0, c1, c2] : List Int32).getD 1 0) = c1 from rfl]
 refine go (S' := T124.setTop (mkF m 68 #[sr x1, si 1, si c1] [(.int c1)])) (fun t k => XS.istoreN X124.here hx rfl (hb hby d8_66) rfl (l' := #[sr x1, si 1, si c1]) rfl (XS.iloadN X124.here hx rfl (hb hby d8_67) rfl k)) ?_
 obtain ⟨v125, T125, L125, X125, hQ125, st125⟩ := callSt X124 hx hZ (y := y_1) hown (ww hw 83 rfl) (ww hw 84 rfl) (ww hw 37 rfl) (ww hw 85 rfl) (by decide) (backOf (W := 0) (rmIa l Z a0 hw [] c1 h102 n0 (Nat.le_trans Z0 K103.1) hok1) hZ (ww hw 85 rfl) (ww hw 37 rfl) (by decide) (by decide)) (g := (mkF m 68 #[sr x1, si 1, si c1] [(.int c1)])) rfl (by rw [hml]; rfl) (kc := 0) (ks := 0) (argsL := [(.int c1)]) (rest := []) (lenOf pd_4 rfl) rfl (mr0 rfl) (hb hby d8_68) e124 (by decide) (by decide)
 obtain ⟨rfl, N125q, e125⟩ := hQ125
 have N125 := Fr.app N124 N125q
 refine go (S' := T125.setTop (mkF m 71 #[sr x1, si 1, si c1] [(.int 1)])) st125 ?_
 have hc126 : ¬ ((1 : Int32) = (0 : Int32)) := by decide
 refine go (S' := T125.setTop (mkF m 55 #[sr x1, si 2, si c1] [(.ref x1), (.int 2)])) (fun t k => XS.ifYes X125.here hx rfl (pc0 := 71) (pc' := 105) rfl (hb hby d8_71) rfl ((if0 _ _).trans (feq hc126).2) (by decide) (by decide) (XS.iinc X125.here hx rfl (hb hby d8_105) rfl (l' := #[sr x1, si 2, si c1]) rfl (XS.goto X125.here hx rfl (pc0 := 108) (pc' := 53) rfl (hb hby d8_108) (by decide) (by decide) (XS.iloadN X125.here hx rfl (hb hby d8_53) rfl (XS.aloadN X125.here hx rfl (hb hby d8_54) rfl rfl k))))) ?_
 obtain ⟨kb127, N2127, vs127, qE127, qV127, qC127, qA127, qcd127, qbd127, ql127⟩ := id (hp0.keep K103 nin0 nin0)
 obtain ⟨v128, T128, L128, X128, hQ128, st128⟩ := callV X125 hx hZ (y := y_4) (z := y_4) hown (ww hw 51 rfl) (ww hw 52 rfl) (notFace_of_selects (args := #[]) (mvT hZ (ww hw 54 rfl))) (ww hw 54 rfl) (ww hw 53 rfl) (by decide) (StrChars.Road.lenW (W := 1) hZ (own_sub StrChars_wordsLen hw) (kI := 4) (ww hw 7 rfl) qE127 qV127 qC127 qA127 qcd127 qbd127 (hp4.ext O109.2) hG1 ql127 (by decide) (by decide)) (hp0.keep K103 nin0 nin0).exa (g := (mkF m 55 #[sr x1, si 2, si c1] [(.ref x1), (.int 2)])) rfl (by rw [hml]; rfl) (Q := (fun v h' L => v = some (.int (Int32.ofNat ([c0, c1, c2] : List Int32).length)) ∧ L = [] ∧ h' = h102)) (kc := 0) (ks := 0) (argsL := []) (rest := [(.int 2)]) (lenOf pd_2 rfl) rfl (mr0 rfl) (hb hby d8_55) e125 (by decide) (by decide)
 obtain ⟨rfl, rfl, e128⟩ := hQ128
 have N128 := Fr.app N125 (Fr.nil n0)
 refine go (S' := T128.setTop (mkF m 58 #[sr x1, si 2, si c1] [(.int (Int32.ofNat ([c0, c1, c2] : List Int32).length)), (.int 2)])) st128 ?_
 rw [show Int32.ofNat ([c0, c1, c2] : List Int32).length = (3 : Int32) from rfl]
 have hc129 : (2 : Int32) < (3 : Int32) := by decide
 refine go (S' := T128.setTop (mkF m 63 #[sr x1, si 2, si c1] [(.int 2), (.ref x1)])) (fun t k => XS.icmpNo X128.here hx rfl (hb hby d8_58) rfl (tlt hc129).2.1 (XS.aloadN X128.here hx rfl (hb hby d8_61) rfl rfl (XS.iloadN X128.here hx rfl (hb hby d8_62) rfl k))) ?_
 obtain ⟨kb130, N2130, vs130, qE130, qV130, qC130, qA130, qcd130, qbd130, ql130⟩ := id (hp0.keep K103 nin0 nin0)
 obtain ⟨v131, T131, L131, X131, hQ131, st131⟩ := callV X128 hx hZ (y := y_5) (z := y_5) hown (ww hw 61 rfl) (ww hw 62 rfl) (notFace_of_selects (args := #[]) (mvT hZ (ww hw 64 rfl))) (ww hw 64 rfl) (ww hw 63 rfl) (by decide) (StrChars.Road.chN (W := 0) hZ (own_sub StrChars_wordsChN hw) (kI := 4) (ww hw 7 rfl) qE130 qV130 qC130 qA130 qcd130 qbd130 (hp4.ext O109.2) hG1 (hp6.ext O109.2) hfm ql130 (i := 2) (Nat.le_of_ble_eq_true rfl) (j := (2 : Int32)) rfl (by decide) (by decide)) (hp0.keep K103 nin0 nin0).exa (g := (mkF m 63 #[sr x1, si 2, si c1] [(.int 2), (.ref x1)])) rfl (by rw [hml]; rfl) (Q := (fun v h' L => v = some (.int (([c0, c1, c2] : List Int32).getD 2 0)) ∧ L = [] ∧ h' = h102)) (kc := 0) (ks := 0) (argsL := [(.int 2)]) (rest := []) (lenOf pd_3 rfl) rfl (mr0 rfl) (hb hby d8_63) e128 (by decide) (by decide)
 obtain ⟨rfl, rfl, e131⟩ := hQ131
 have N131 := Fr.app N128 (Fr.nil n0)
 refine go (S' := T131.setTop (mkF m 66 #[sr x1, si 2, si c1] [(.int (([c0, c1, c2] : List Int32).getD 2 0))])) st131 ?_
 rw [show (([c0, c1, c2] : List Int32).getD 2 0) = c2 from rfl]
 refine go (S' := T131.setTop (mkF m 68 #[sr x1, si 2, si c2] [(.int c2)])) (fun t k => XS.istoreN X131.here hx rfl (hb hby d8_66) rfl (l' := #[sr x1, si 2, si c2]) rfl (XS.iloadN X131.here hx rfl (hb hby d8_67) rfl k)) ?_
 obtain ⟨v132, T132, L132, X132, hQ132, st132⟩ := callSt X131 hx hZ (y := y_1) hown (ww hw 83 rfl) (ww hw 84 rfl) (ww hw 37 rfl) (ww hw 85 rfl) (by decide) (backOf (W := 0) (rmIa l Z a0 hw [] c2 h102 n0 (Nat.le_trans Z0 K103.1) hok2) hZ (ww hw 85 rfl) (ww hw 37 rfl) (by decide) (by decide)) (g := (mkF m 68 #[sr x1, si 2, si c2] [(.int c2)])) rfl (by rw [hml]; rfl) (kc := 0) (ks := 0) (argsL := [(.int c2)]) (rest := []) (lenOf pd_4 rfl) rfl (mr0 rfl) (hb hby d8_68) e131 (by decide) (by decide)
 obtain ⟨rfl, N132q, e132⟩ := hQ132
 have N132 := Fr.app N131 N132q
 refine go (S' := T132.setTop (mkF m 71 #[sr x1, si 2, si c2] [(.int 1)])) st132 ?_
 have hc133 : ¬ ((1 : Int32) = (0 : Int32)) := by decide
 refine go (S' := T132.setTop (mkF m 55 #[sr x1, si 3, si c2] [(.ref x1), (.int 3)])) (fun t k => XS.ifYes X132.here hx rfl (pc0 := 71) (pc' := 105) rfl (hb hby d8_71) rfl ((if0 _ _).trans (feq hc133).2) (by decide) (by decide) (XS.iinc X132.here hx rfl (hb hby d8_105) rfl (l' := #[sr x1, si 3, si c2]) rfl (XS.goto X132.here hx rfl (pc0 := 108) (pc' := 53) rfl (hb hby d8_108) (by decide) (by decide) (XS.iloadN X132.here hx rfl (hb hby d8_53) rfl (XS.aloadN X132.here hx rfl (hb hby d8_54) rfl rfl k))))) ?_
 obtain ⟨kb134, N2134, vs134, qE134, qV134, qC134, qA134, qcd134, qbd134, ql134⟩ := id (hp0.keep K103 nin0 nin0)
 obtain ⟨v135, T135, L135, X135, hQ135, st135⟩ := callV X132 hx hZ (y := y_4) (z := y_4) hown (ww hw 51 rfl) (ww hw 52 rfl) (notFace_of_selects (args := #[]) (mvT hZ (ww hw 54 rfl))) (ww hw 54 rfl) (ww hw 53 rfl) (by decide) (StrChars.Road.lenW (W := 1) hZ (own_sub StrChars_wordsLen hw) (kI := 4) (ww hw 7 rfl) qE134 qV134 qC134 qA134 qcd134 qbd134 (hp4.ext O109.2) hG1 ql134 (by decide) (by decide)) (hp0.keep K103 nin0 nin0).exa (g := (mkF m 55 #[sr x1, si 3, si c2] [(.ref x1), (.int 3)])) rfl (by rw [hml]; rfl) (Q := (fun v h' L => v = some (.int (Int32.ofNat ([c0, c1, c2] : List Int32).length)) ∧ L = [] ∧ h' = h102)) (kc := 0) (ks := 0) (argsL := []) (rest := [(.int 3)]) (lenOf pd_2 rfl) rfl (mr0 rfl) (hb hby d8_55) e132 (by decide) (by decide)
 obtain ⟨rfl, rfl, e135⟩ := hQ135
 have N135 := Fr.app N132 (Fr.nil n0)
 refine go (S' := T135.setTop (mkF m 58 #[sr x1, si 3, si c2] [(.int (Int32.ofNat ([c0, c1, c2] : List Int32).length)), (.int 3)])) st135 ?_
 rw [show Int32.ofNat ([c0, c1, c2] : List Int32).length = (3 : Int32) from rfl]
 have hc136 : ¬ ((3 : Int32) < (3 : Int32)) := by decide
 refine go (S' := T135.setTop (mkF m 112 #[sr x1, si 3, si c2] [(.ref x1)])) (fun t k => XS.icmpYes X135.here hx rfl (pc0 := 58) (pc' := 111) rfl (hb hby d8_58) rfl (flt hc136).2.1 (by decide) (by decide) (XS.aloadN X135.here hx rfl (hb hby d8_111) rfl rfl k)) ?_
 refine finRW X135 hx hk hret rfl rfl hS hkS hZ (own_EW hw) C104 e135 (hb hby d8_112) (by decide) (by decide) ?_
 exact ⟨rfl, N135, K103⟩
theorem ef_rmCk4 (m : MethodId) (x1 : Addr) : entryFrame m #[(.ref x1)] 3 = mkF m 0 #[sr x1, .unset, .unset] [] := by first | (simp [entryFrame, mkF, argsToLocals, Value.category]; done) | rfl
def Q_rmCk4 (Z : State) (x1 : Addr) (t1 : Addr) (c0 : Int32) (c1 : Int32) (c2 : Int32) (c3 : Int32) (G1 : Int32) (fm : Value) (h0 : Heap) (n0 : Nat) (v : Option Value) (h : Heap) (L : List Loc) : Prop := v = some (.ref x1) ∧ Fr n0 L ∧ Keep h0 h []
set_option maxRecDepth 65536 in
set_option maxHeartbeats 40000000 in
theorem rmCk4 (l : Launch) (Z : State) (a0 : Array Value) (hw : ∀ d ∈ tables_1, d.before a0 Z = true) (ws : List Jvm.Cond) (x1 : Addr) (t1 : Addr) (c0 : Int32) (c1 : Int32) (c2 : Int32) (c3 : Int32) (G1 : Int32) (fm : Value) (h0 : Heap) (n0 : Nat) (Z0 : n0 ≤ h0.size) (hp0 : Str Z h0 x1 t1 (0 : Int32) ([c0, c1, c2, c3] : List Int32)) (hok0 : own_ok c0) (hok1 : own_ok c1) (hok2 : own_ok c2) (hok3 : own_ok c3) (hp5 : Sta Z Z.heap "java/lang/String" "COMPACT_STRINGS" "Z" (.int G1)) (hG1 : ¬ (G1 = (0 : Int32))) (hp7 : Sta Z Z.heap "jdk/internal/util/Preconditions" "SIOOBE_FORMATTER" "Ljava/util/function/BiFunction;" fm) (hfm : fm.isRef = true) (hp9 : Old Z n0 h0) :
    MetFree l y_6 (head1 (Jvm.Cond.code y_6 prog_14_method_2_code 3 (some (.object "java/lang/String")) :: ws) ({ frames := 4, cells := 2, slots := 40, locals := 53 } : Room)) (fun a U => a = #[(.ref x1)] ∧ Z.Warmed39 U.vm ∧ U.heap = h0 ∧ CHv Z ([] : List (String × Nat)) U.vm h0 ∧ ∀ x ∈ ([] : List Addr), Safe Z ([] : List (String × Nat)) U.vm h0 x) (fun _ _ _ _ _ => True) (fun _ U o U' => ∃ v L, o = .returned v ∧ Q_rmCk4 Z x1 t1 c0 c1 c2 c3 G1 fm h0 n0 v U'.heap L ∧ CHr Z ([] : List (String × Nat)) U.vm U.heap U'.vm U'.heap ∧ ReturnedEndW U o U' L ({ frames := 4, cells := 2, slots := 40, locals := 53 } : Room).cells ({ frames := 4, cells := 2, slots := 40, locals := 53 } : Room).slots) := by
 refine bodyOfW pn_3 (fun m => ef_rmCk4 m x1) ?_
 intro p e s m below meth c T0 X0 hx hby hml hown hnm hret hk hZ e0 hS C0 hsf
 have hkS := Nat.le_refl h0.size
 have N0 := Fr.nil n0
 have K0 : Keep h0 h0 [] := Keep.refl _ _
 have O0 := hp9
 refine go (S' := T0.setTop (mkF m 1 #[sr x1, .unset, .unset] [(.ref x1)])) (fun t k => XS.aloadN X0.here hx rfl (hb hby d8_0) rfl rfl k) ?_
 obtain ⟨la137, T137, h137, k137, X137, e137, E137, hS, hkS, hZ, hown, Cq137, lit137, st137⟩ := ldcOH X0 hx hZ hown (ww hw 39 rfl) (own_sub own_strAtoms hw) e0 hS hkS (own_EW hw) C0.1 (g := (mkF m 1 #[sr x1, .unset, .unset] [(.ref x1)])) rfl (hb hby d8_1) (n := 36) (by decide) (by decide) (by decide) (by decide)
 have K138 : Keep h0 h137 [] := K0.ext E137
 have C139 := C0.trans Cq137
 refine go (S' := T137.setTop (mkF m 3 #[sr x1, .unset, .unset] [(.ref la137), (.ref x1)])) st137 ?_
 obtain ⟨v140, T140, L140, X140, hQ140, st140⟩ := callSt X137 hx hZ (y := y_2) hown (ww hw 42 rfl) (ww hw 43 rfl) (ww hw 44 rfl) (ww hw 45 rfl) (by decide) (backOf (W := 0) (rmRn l Z a0 hw [] x1 la137 h137 n0 (Nat.le_trans Z0 K138.1) ) hZ (ww hw 45 rfl) (ww hw 44 rfl) (by decide) (by decide)) (g := (mkF m 3 #[sr x1, .unset, .unset] [(.ref la137), (.ref x1)])) rfl (by rw [hml]; rfl) (kc := 0) (ks := 0) (argsL := [(.ref x1), (.ref la137)]) (rest := []) (lenOf pd_0 rfl) rfl (mr0 rfl) (hb hby d8_3) e137 (by decide) (by decide)
 obtain ⟨rfl, N140q, e140⟩ := hQ140
 have N140 := Fr.app N0 N140q
 refine go (S' := T140.setTop (mkF m 8 #[sr x1, .unset, .unset] [(.ref x1)])) (fun t k => st140 _ (XS.pop X140.here hx rfl (hb hby d8_6) rfl rfl (XS.aloadN X140.here hx rfl (hb hby d8_7) rfl rfl k))) ?_
 obtain ⟨kb141, N2141, vs141, qE141, qV141, qC141, qA141, qcd141, qbd141, ql141⟩ := id (hp0.keep K138 nin0 nin0)
 obtain ⟨v142, T142, L142, X142, hQ142, st142⟩ := callV X140 hx hZ (y := y_3) (z := y_3) hown (ww hw 46 rfl) (ww hw 47 rfl) (notFace_of_selects (args := #[]) (mvT hZ (ww hw 49 rfl))) (ww hw 49 rfl) (ww hw 48 rfl) (by decide) (StrChars.Road.empW (W := 0) hZ (own_sub StrChars_wordsEmp hw) (kI := 4) (ww hw 7 rfl) qE141 qV141 qC141 qA141 qcd141 qbd141 ql141 (by decide) (by decide)) (hp0.keep K138 nin0 nin0).exa (g := (mkF m 8 #[sr x1, .unset, .unset] [(.ref x1)])) rfl (by rw [hml]; rfl) (Q := (fun v h' L => v = some (.int (if ([c0, c1, c2, c3] : List Int32).length = 0 then 1 else 0)) ∧ L = [] ∧ h' = h137)) (kc := 0) (ks := 0) (argsL := []) (rest := []) (lenOf pd_1 rfl) rfl (mr0 rfl) (hb hby d8_8) e140 (by decide) (by decide)
 obtain ⟨rfl, rfl, e142⟩ := hQ142
 have N142 := Fr.app N140 (Fr.nil n0)
 refine go (S' := T142.setTop (mkF m 11 #[sr x1, .unset, .unset] [(.int (if ([c0, c1, c2, c3] : List Int32).length = 0 then (1 : Int32) else (0 : Int32)))])) st142 ?_
 have hc143 : (if ([c0, c1, c2, c3] : List Int32).length = 0 then (1 : Int32) else (0 : Int32)) = (0 : Int32) := rfl
 refine go (S' := T142.setTop (mkF m 25 #[sr x1, .unset, .unset] [(.ref x1)])) (fun t k => XS.ifYes X142.here hx rfl (pc0 := 11) (pc' := 24) rfl (hb hby d8_11) rfl ((if0 _ _).trans (teq hc143).1) (by decide) (by decide) (XS.aloadN X142.here hx rfl (hb hby d8_24) rfl rfl k)) ?_
 have O144 : Old Z n0 h137 := O0.keep K138 all0
 obtain ⟨kb145, N2145, vs145, qE145, qV145, qC145, qA145, qcd145, qbd145, ql145⟩ := id (hp0.keep K138 nin0 nin0)
 obtain ⟨v146, T146, L146, X146, hQ146, st146⟩ := callV X142 hx hZ (y := y_4) (z := y_4) hown (ww hw 51 rfl) (ww hw 52 rfl) (notFace_of_selects (args := #[]) (mvT hZ (ww hw 54 rfl))) (ww hw 54 rfl) (ww hw 53 rfl) (by decide) (StrChars.Road.lenW (W := 0) hZ (own_sub StrChars_wordsLen hw) (kI := 4) (ww hw 7 rfl) qE145 qV145 qC145 qA145 qcd145 qbd145 (hp5.ext O144.2) hG1 ql145 (by decide) (by decide)) (hp0.keep K138 nin0 nin0).exa (g := (mkF m 25 #[sr x1, .unset, .unset] [(.ref x1)])) rfl (by rw [hml]; rfl) (Q := (fun v h' L => v = some (.int (Int32.ofNat ([c0, c1, c2, c3] : List Int32).length)) ∧ L = [] ∧ h' = h137)) (kc := 0) (ks := 0) (argsL := []) (rest := []) (lenOf pd_2 rfl) rfl (mr0 rfl) (hb hby d8_25) e142 (by decide) (by decide)
 obtain ⟨rfl, rfl, e146⟩ := hQ146
 have N146 := Fr.app N142 (Fr.nil n0)
 refine go (S' := T146.setTop (mkF m 28 #[sr x1, .unset, .unset] [(.int (Int32.ofNat ([c0, c1, c2, c3] : List Int32).length))])) st146 ?_
 rw [show Int32.ofNat ([c0, c1, c2, c3] : List Int32).length = (4 : Int32) from rfl]
 refine go (S' := T146.setTop (mkF m 31 #[sr x1, .unset, .unset] [(.int 128), (.int 4)])) (fun t k => XS.sipush X146.here hx rfl (hb hby d8_28) k) ?_
 have hc147 : ¬ ((128 : Int32) < (4 : Int32)) := by decide
 refine go (S' := T146.setTop (mkF m 55 #[sr x1, si 0, .unset] [(.ref x1), (.int 0)])) (fun t k => XS.icmpYes X146.here hx rfl (pc0 := 31) (pc' := 51) rfl (hb hby d8_31) rfl (flt hc147).2.2.2 (by decide) (by decide) (XS.iconst X146.here hx rfl (hb hby d8_51) (XS.istoreN X146.here hx rfl (hb hby d8_52) rfl (l' := #[sr x1, si 0, .unset]) rfl (XS.iloadN X146.here hx rfl (hb hby d8_53) rfl (XS.aloadN X146.here hx rfl (hb hby d8_54) rfl rfl k))))) ?_
 obtain ⟨kb148, N2148, vs148, qE148, qV148, qC148, qA148, qcd148, qbd148, ql148⟩ := id (hp0.keep K138 nin0 nin0)
 obtain ⟨v149, T149, L149, X149, hQ149, st149⟩ := callV X146 hx hZ (y := y_4) (z := y_4) hown (ww hw 51 rfl) (ww hw 52 rfl) (notFace_of_selects (args := #[]) (mvT hZ (ww hw 54 rfl))) (ww hw 54 rfl) (ww hw 53 rfl) (by decide) (StrChars.Road.lenW (W := 1) hZ (own_sub StrChars_wordsLen hw) (kI := 4) (ww hw 7 rfl) qE148 qV148 qC148 qA148 qcd148 qbd148 (hp5.ext O144.2) hG1 ql148 (by decide) (by decide)) (hp0.keep K138 nin0 nin0).exa (g := (mkF m 55 #[sr x1, si 0, .unset] [(.ref x1), (.int 0)])) rfl (by rw [hml]; rfl) (Q := (fun v h' L => v = some (.int (Int32.ofNat ([c0, c1, c2, c3] : List Int32).length)) ∧ L = [] ∧ h' = h137)) (kc := 0) (ks := 0) (argsL := []) (rest := [(.int 0)]) (lenOf pd_2 rfl) rfl (mr0 rfl) (hb hby d8_55) e146 (by decide) (by decide)
 obtain ⟨rfl, rfl, e149⟩ := hQ149
 have N149 := Fr.app N146 (Fr.nil n0)
 refine go (S' := T149.setTop (mkF m 58 #[sr x1, si 0, .unset] [(.int (Int32.ofNat ([c0, c1, c2, c3] : List Int32).length)), (.int 0)])) st149 ?_
 rw [show Int32.ofNat ([c0, c1, c2, c3] : List Int32).length = (4 : Int32) from rfl]
 have hc150 : (0 : Int32) < (4 : Int32) := by decide
 refine go (S' := T149.setTop (mkF m 63 #[sr x1, si 0, .unset] [(.int 0), (.ref x1)])) (fun t k => XS.icmpNo X149.here hx rfl (hb hby d8_58) rfl (tlt hc150).2.1 (XS.aloadN X149.here hx rfl (hb hby d8_61) rfl rfl (XS.iloadN X149.here hx rfl (hb hby d8_62) rfl k))) ?_
 obtain ⟨kb151, N2151, vs151, qE151, qV151, qC151, qA151, qcd151, qbd151, ql151⟩ := id (hp0.keep K138 nin0 nin0)
 obtain ⟨v152, T152, L152, X152, hQ152, st152⟩ := callV X149 hx hZ (y := y_5) (z := y_5) hown (ww hw 61 rfl) (ww hw 62 rfl) (notFace_of_selects (args := #[]) (mvT hZ (ww hw 64 rfl))) (ww hw 64 rfl) (ww hw 63 rfl) (by decide) (StrChars.Road.chN (W := 0) hZ (own_sub StrChars_wordsChN hw) (kI := 4) (ww hw 7 rfl) qE151 qV151 qC151 qA151 qcd151 qbd151 (hp5.ext O144.2) hG1 (hp7.ext O144.2) hfm ql151 (i := 0) (Nat.le_of_ble_eq_true rfl) (j := (0 : Int32)) rfl (by decide) (by decide)) (hp0.keep K138 nin0 nin0).exa (g := (mkF m 63 #[sr x1, si 0, .unset] [(.int 0), (.ref x1)])) rfl (by rw [hml]; rfl) (Q := (fun v h' L => v = some (.int (([c0, c1, c2, c3] : List Int32).getD 0 0)) ∧ L = [] ∧ h' = h137)) (kc := 0) (ks := 0) (argsL := [(.int 0)]) (rest := []) (lenOf pd_3 rfl) rfl (mr0 rfl) (hb hby d8_63) e149 (by decide) (by decide)
 obtain ⟨rfl, rfl, e152⟩ := hQ152
 have N152 := Fr.app N149 (Fr.nil n0)
 refine go (S' := T152.setTop (mkF m 66 #[sr x1, si 0, .unset] [(.int (([c0, c1, c2, c3] : List Int32).getD 0 0))])) st152 ?_
 rw [show (([c0, c1, c2, c3] : List Int32).getD 0 0) = c0 from rfl]
 refine go (S' := T152.setTop (mkF m 68 #[sr x1, si 0, si c0] [(.int c0)])) (fun t k => XS.istoreN X152.here hx rfl (hb hby d8_66) rfl (l' := #[sr x1, si 0, si c0]) rfl (XS.iloadN X152.here hx rfl (hb hby d8_67) rfl k)) ?_
 obtain ⟨v153, T153, L153, X153, hQ153, st153⟩ := callSt X152 hx hZ (y := y_1) hown (ww hw 83 rfl) (ww hw 84 rfl) (ww hw 37 rfl) (ww hw 85 rfl) (by decide) (backOf (W := 0) (rmIa l Z a0 hw [] c0 h137 n0 (Nat.le_trans Z0 K138.1) hok0) hZ (ww hw 85 rfl) (ww hw 37 rfl) (by decide) (by decide)) (g := (mkF m 68 #[sr x1, si 0, si c0] [(.int c0)])) rfl (by rw [hml]; rfl) (kc := 0) (ks := 0) (argsL := [(.int c0)]) (rest := []) (lenOf pd_4 rfl) rfl (mr0 rfl) (hb hby d8_68) e152 (by decide) (by decide)
 obtain ⟨rfl, N153q, e153⟩ := hQ153
 have N153 := Fr.app N152 N153q
 refine go (S' := T153.setTop (mkF m 71 #[sr x1, si 0, si c0] [(.int 1)])) st153 ?_
 have hc154 : ¬ ((1 : Int32) = (0 : Int32)) := by decide
 refine go (S' := T153.setTop (mkF m 55 #[sr x1, si 1, si c0] [(.ref x1), (.int 1)])) (fun t k => XS.ifYes X153.here hx rfl (pc0 := 71) (pc' := 105) rfl (hb hby d8_71) rfl ((if0 _ _).trans (feq hc154).2) (by decide) (by decide) (XS.iinc X153.here hx rfl (hb hby d8_105) rfl (l' := #[sr x1, si 1, si c0]) rfl (XS.goto X153.here hx rfl (pc0 := 108) (pc' := 53) rfl (hb hby d8_108) (by decide) (by decide) (XS.iloadN X153.here hx rfl (hb hby d8_53) rfl (XS.aloadN X153.here hx rfl (hb hby d8_54) rfl rfl k))))) ?_
 obtain ⟨kb155, N2155, vs155, qE155, qV155, qC155, qA155, qcd155, qbd155, ql155⟩ := id (hp0.keep K138 nin0 nin0)
 obtain ⟨v156, T156, L156, X156, hQ156, st156⟩ := callV X153 hx hZ (y := y_4) (z := y_4) hown (ww hw 51 rfl) (ww hw 52 rfl) (notFace_of_selects (args := #[]) (mvT hZ (ww hw 54 rfl))) (ww hw 54 rfl) (ww hw 53 rfl) (by decide) (StrChars.Road.lenW (W := 1) hZ (own_sub StrChars_wordsLen hw) (kI := 4) (ww hw 7 rfl) qE155 qV155 qC155 qA155 qcd155 qbd155 (hp5.ext O144.2) hG1 ql155 (by decide) (by decide)) (hp0.keep K138 nin0 nin0).exa (g := (mkF m 55 #[sr x1, si 1, si c0] [(.ref x1), (.int 1)])) rfl (by rw [hml]; rfl) (Q := (fun v h' L => v = some (.int (Int32.ofNat ([c0, c1, c2, c3] : List Int32).length)) ∧ L = [] ∧ h' = h137)) (kc := 0) (ks := 0) (argsL := []) (rest := [(.int 1)]) (lenOf pd_2 rfl) rfl (mr0 rfl) (hb hby d8_55) e153 (by decide) (by decide)
 obtain ⟨rfl, rfl, e156⟩ := hQ156
 have N156 := Fr.app N153 (Fr.nil n0)
 refine go (S' := T156.setTop (mkF m 58 #[sr x1, si 1, si c0] [(.int (Int32.ofNat ([c0, c1, c2, c3] : List Int32).length)), (.int 1)])) st156 ?_
 rw [show Int32.ofNat ([c0, c1, c2, c3] : List Int32).length = (4 : Int32) from rfl]
 have hc157 : (1 : Int32) < (4 : Int32) := by decide
 refine go (S' := T156.setTop (mkF m 63 #[sr x1, si 1, si c0] [(.int 1), (.ref x1)])) (fun t k => XS.icmpNo X156.here hx rfl (hb hby d8_58) rfl (tlt hc157).2.1 (XS.aloadN X156.here hx rfl (hb hby d8_61) rfl rfl (XS.iloadN X156.here hx rfl (hb hby d8_62) rfl k))) ?_
 obtain ⟨kb158, N2158, vs158, qE158, qV158, qC158, qA158, qcd158, qbd158, ql158⟩ := id (hp0.keep K138 nin0 nin0)
 obtain ⟨v159, T159, L159, X159, hQ159, st159⟩ := callV X156 hx hZ (y := y_5) (z := y_5) hown (ww hw 61 rfl) (ww hw 62 rfl) (notFace_of_selects (args := #[]) (mvT hZ (ww hw 64 rfl))) (ww hw 64 rfl) (ww hw 63 rfl) (by decide) (StrChars.Road.chN (W := 0) hZ (own_sub StrChars_wordsChN hw) (kI := 4) (ww hw 7 rfl) qE158 qV158 qC158 qA158 qcd158 qbd158 (hp5.ext O144.2) hG1 (hp7.ext O144.2) hfm ql158 (i := 1) (Nat.le_of_ble_eq_true rfl) (j := (1 : Int32)) rfl (by decide) (by decide)) (hp0.keep K138 nin0 nin0).exa (g := (mkF m 63 #[sr x1, si 1, si c0] [(.int 1), (.ref x1)])) rfl (by rw [hml]; rfl) (Q := (fun v h' L => v = some (.int (([c0, c1, c2, c3] : List Int32).getD 1 0)) ∧ L = [] ∧ h' = h137)) (kc := 0) (ks := 0) (argsL := [(.int 1)]) (rest := []) (lenOf pd_3 rfl) rfl (mr0 rfl) (hb hby d8_63) e156 (by decide) (by decide)
 obtain ⟨rfl, rfl, e159⟩ := hQ159
 have N159 := Fr.app N156 (Fr.nil n0)
 refine go (S' := T159.setTop (mkF m 66 #[sr x1, si 1, si c0] [(.int (([c0, c1, c2, c3] : List Int32).getD 1 0))])) st159 ?_
 rw [show (([c0, c1, c2, c3] : List Int32).getD 1 0) = c1 from rfl]
 refine go (S' := T159.setTop (mkF m 68 #[sr x1, si 1, si c1] [(.int c1)])) (fun t k => XS.istoreN X159.here hx rfl (hb hby d8_66) rfl (l' := #[sr x1, si 1, si c1]) rfl (XS.iloadN X159.here hx rfl (hb hby d8_67) rfl k)) ?_
 obtain ⟨v160, T160, L160, X160, hQ160, st160⟩ := callSt X159 hx hZ (y := y_1) hown (ww hw 83 rfl) (ww hw 84 rfl) (ww hw 37 rfl) (ww hw 85 rfl) (by decide) (backOf (W := 0) (rmIa l Z a0 hw [] c1 h137 n0 (Nat.le_trans Z0 K138.1) hok1) hZ (ww hw 85 rfl) (ww hw 37 rfl) (by decide) (by decide)) (g := (mkF m 68 #[sr x1, si 1, si c1] [(.int c1)])) rfl (by rw [hml]; rfl) (kc := 0) (ks := 0) (argsL := [(.int c1)]) (rest := []) (lenOf pd_4 rfl) rfl (mr0 rfl) (hb hby d8_68) e159 (by decide) (by decide)
 obtain ⟨rfl, N160q, e160⟩ := hQ160
 have N160 := Fr.app N159 N160q
 refine go (S' := T160.setTop (mkF m 71 #[sr x1, si 1, si c1] [(.int 1)])) st160 ?_
 have hc161 : ¬ ((1 : Int32) = (0 : Int32)) := by decide
 refine go (S' := T160.setTop (mkF m 55 #[sr x1, si 2, si c1] [(.ref x1), (.int 2)])) (fun t k => XS.ifYes X160.here hx rfl (pc0 := 71) (pc' := 105) rfl (hb hby d8_71) rfl ((if0 _ _).trans (feq hc161).2) (by decide) (by decide) (XS.iinc X160.here hx rfl (hb hby d8_105) rfl (l' := #[sr x1, si 2, si c1]) rfl (XS.goto X160.here hx rfl (pc0 := 108) (pc' := 53) rfl (hb hby d8_108) (by decide) (by decide) (XS.iloadN X160.here hx rfl (hb hby d8_53) rfl (XS.aloadN X160.here hx rfl (hb hby d8_54) rfl rfl k))))) ?_
 obtain ⟨kb162, N2162, vs162, qE162, qV162, qC162, qA162, qcd162, qbd162, ql162⟩ := id (hp0.keep K138 nin0 nin0)
 obtain ⟨v163, T163, L163, X163, hQ163, st163⟩ := callV X160 hx hZ (y := y_4) (z := y_4) hown (ww hw 51 rfl) (ww hw 52 rfl) (notFace_of_selects (args := #[]) (mvT hZ (ww hw 54 rfl))) (ww hw 54 rfl) (ww hw 53 rfl) (by decide) (StrChars.Road.lenW (W := 1) hZ (own_sub StrChars_wordsLen hw) (kI := 4) (ww hw 7 rfl) qE162 qV162 qC162 qA162 qcd162 qbd162 (hp5.ext O144.2) hG1 ql162 (by decide) (by decide)) (hp0.keep K138 nin0 nin0).exa (g := (mkF m 55 #[sr x1, si 2, si c1] [(.ref x1), (.int 2)])) rfl (by rw [hml]; rfl) (Q := (fun v h' L => v = some (.int (Int32.ofNat ([c0, c1, c2, c3] : List Int32).length)) ∧ L = [] ∧ h' = h137)) (kc := 0) (ks := 0) (argsL := []) (rest := [(.int 2)]) (lenOf pd_2 rfl) rfl (mr0 rfl) (hb hby d8_55) e160 (by decide) (by decide)
 obtain ⟨rfl, rfl, e163⟩ := hQ163
 have N163 := Fr.app N160 (Fr.nil n0)
 refine go (S' := T163.setTop (mkF m 58 #[sr x1, si 2, si c1] [(.int (Int32.ofNat ([c0, c1, c2, c3] : List Int32).length)), (.int 2)])) st163 ?_
 rw [show Int32.ofNat ([c0, c1, c2, c3] : List Int32).length = (4 : Int32) from rfl]
 have hc164 : (2 : Int32) < (4 : Int32) := by decide
 refine go (S' := T163.setTop (mkF m 63 #[sr x1, si 2, si c1] [(.int 2), (.ref x1)])) (fun t k => XS.icmpNo X163.here hx rfl (hb hby d8_58) rfl (tlt hc164).2.1 (XS.aloadN X163.here hx rfl (hb hby d8_61) rfl rfl (XS.iloadN X163.here hx rfl (hb hby d8_62) rfl k))) ?_
 obtain ⟨kb165, N2165, vs165, qE165, qV165, qC165, qA165, qcd165, qbd165, ql165⟩ := id (hp0.keep K138 nin0 nin0)
 obtain ⟨v166, T166, L166, X166, hQ166, st166⟩ := callV X163 hx hZ (y := y_5) (z := y_5) hown (ww hw 61 rfl) (ww hw 62 rfl) (notFace_of_selects (args := #[]) (mvT hZ (ww hw 64 rfl))) (ww hw 64 rfl) (ww hw 63 rfl) (by decide) (StrChars.Road.chN (W := 0) hZ (own_sub StrChars_wordsChN hw) (kI := 4) (ww hw 7 rfl) qE165 qV165 qC165 qA165 qcd165 qbd165 (hp5.ext O144.2) hG1 (hp7.ext O144.2) hfm ql165 (i := 2) (Nat.le_of_ble_eq_true rfl) (j := (2 : Int32)) rfl (by decide) (by decide)) (hp0.keep K138 nin0 nin0).exa (g := (mkF m 63 #[sr x1, si 2, si c1] [(.int 2), (.ref x1)])) rfl (by rw [hml]; rfl) (Q := (fun v h' L => v = some (.int (([c0, c1, c2, c3] : List Int32).getD 2 0)) ∧ L = [] ∧ h' = h137)) (kc := 0) (ks := 0) (argsL := [(.int 2)]) (rest := []) (lenOf pd_3 rfl) rfl (mr0 rfl) (hb hby d8_63) e163 (by decide) (by decide)
 obtain ⟨rfl, rfl, e166⟩ := hQ166
 have N166 := Fr.app N163 (Fr.nil n0)
 refine go (S' := T166.setTop (mkF m 66 #[sr x1, si 2, si c1] [(.int (([c0, c1, c2, c3] : List Int32).getD 2 0))])) st166 ?_
 rw [show (([c0, c1, c2, c3] : List Int32).getD 2 0) = c2 from rfl]
 refine go (S' := T166.setTop (mkF m 68 #[sr x1, si 2, si c2] [(.int c2)])) (fun t k => XS.istoreN X166.here hx rfl (hb hby d8_66) rfl (l' := #[sr x1, si 2, si c2]) rfl (XS.iloadN X166.here hx rfl (hb hby d8_67) rfl k)) ?_
 obtain ⟨v167, T167, L167, X167, hQ167, st167⟩ := callSt X166 hx hZ (y := y_1) hown (ww hw 83 rfl) (ww hw 84 rfl) (ww hw 37 rfl) (ww hw 85 rfl) (by decide) (backOf (W := 0) (rmIa l Z a0 hw [] c2 h137 n0 (Nat.le_trans Z0 K138.1) hok2) hZ (ww hw 85 rfl) (ww hw 37 rfl) (by decide) (by decide)) (g := (mkF m 68 #[sr x1, si 2, si c2] [(.int c2)])) rfl (by rw [hml]; rfl) (kc := 0) (ks := 0) (argsL := [(.int c2)]) (rest := []) (lenOf pd_4 rfl) rfl (mr0 rfl) (hb hby d8_68) e166 (by decide) (by decide)
 obtain ⟨rfl, N167q, e167⟩ := hQ167
 have N167 := Fr.app N166 N167q
 refine go (S' := T167.setTop (mkF m 71 #[sr x1, si 2, si c2] [(.int 1)])) st167 ?_
 have hc168 : ¬ ((1 : Int32) = (0 : Int32)) := by decide
 refine go (S' := T167.setTop (mkF m 55 #[sr x1, si 3, si c2] [(.ref x1), (.int 3)])) (fun t k => XS.ifYes X167.here hx rfl (pc0 := 71) (pc' := 105) rfl (hb hby d8_71) rfl ((if0 _ _).trans (feq hc168).2) (by decide) (by decide) (XS.iinc X167.here hx rfl (hb hby d8_105) rfl (l' := #[sr x1, si 3, si c2]) rfl (XS.goto X167.here hx rfl (pc0 := 108) (pc' := 53) rfl (hb hby d8_108) (by decide) (by decide) (XS.iloadN X167.here hx rfl (hb hby d8_53) rfl (XS.aloadN X167.here hx rfl (hb hby d8_54) rfl rfl k))))) ?_
 obtain ⟨kb169, N2169, vs169, qE169, qV169, qC169, qA169, qcd169, qbd169, ql169⟩ := id (hp0.keep K138 nin0 nin0)
 obtain ⟨v170, T170, L170, X170, hQ170, st170⟩ := callV X167 hx hZ (y := y_4) (z := y_4) hown (ww hw 51 rfl) (ww hw 52 rfl) (notFace_of_selects (args := #[]) (mvT hZ (ww hw 54 rfl))) (ww hw 54 rfl) (ww hw 53 rfl) (by decide) (StrChars.Road.lenW (W := 1) hZ (own_sub StrChars_wordsLen hw) (kI := 4) (ww hw 7 rfl) qE169 qV169 qC169 qA169 qcd169 qbd169 (hp5.ext O144.2) hG1 ql169 (by decide) (by decide)) (hp0.keep K138 nin0 nin0).exa (g := (mkF m 55 #[sr x1, si 3, si c2] [(.ref x1), (.int 3)])) rfl (by rw [hml]; rfl) (Q := (fun v h' L => v = some (.int (Int32.ofNat ([c0, c1, c2, c3] : List Int32).length)) ∧ L = [] ∧ h' = h137)) (kc := 0) (ks := 0) (argsL := []) (rest := [(.int 3)]) (lenOf pd_2 rfl) rfl (mr0 rfl) (hb hby d8_55) e167 (by decide) (by decide)
 obtain ⟨rfl, rfl, e170⟩ := hQ170
 have N170 := Fr.app N167 (Fr.nil n0)
 refine go (S' := T170.setTop (mkF m 58 #[sr x1, si 3, si c2] [(.int (Int32.ofNat ([c0, c1, c2, c3] : List Int32).length)), (.int 3)])) st170 ?_
 rw [show Int32.ofNat ([c0, c1, c2, c3] : List Int32).length = (4 : Int32) from rfl]
 have hc171 : (3 : Int32) < (4 : Int32) := by decide
 refine go (S' := T170.setTop (mkF m 63 #[sr x1, si 3, si c2] [(.int 3), (.ref x1)])) (fun t k => XS.icmpNo X170.here hx rfl (hb hby d8_58) rfl (tlt hc171).2.1 (XS.aloadN X170.here hx rfl (hb hby d8_61) rfl rfl (XS.iloadN X170.here hx rfl (hb hby d8_62) rfl k))) ?_
 obtain ⟨kb172, N2172, vs172, qE172, qV172, qC172, qA172, qcd172, qbd172, ql172⟩ := id (hp0.keep K138 nin0 nin0)
 obtain ⟨v173, T173, L173, X173, hQ173, st173⟩ := callV X170 hx hZ (y := y_5) (z := y_5) hown (ww hw 61 rfl) (ww hw 62 rfl) (notFace_of_selects (args := #[]) (mvT hZ (ww hw 64 rfl))) (ww hw 64 rfl) (ww hw 63 rfl) (by decide) (StrChars.Road.chN (W := 0) hZ (own_sub StrChars_wordsChN hw) (kI := 4) (ww hw 7 rfl) qE172 qV172 qC172 qA172 qcd172 qbd172 (hp5.ext O144.2) hG1 (hp7.ext O144.2) hfm ql172 (i := 3) (Nat.le_of_ble_eq_true rfl) (j := (3 : Int32)) rfl (by decide) (by decide)) (hp0.keep K138 nin0 nin0).exa (g := (mkF m 63 #[sr x1, si 3, si c2] [(.int 3), (.ref x1)])) rfl (by rw [hml]; rfl) (Q := (fun v h' L => v = some (.int (([c0, c1, c2, c3] : List Int32).getD 3 0)) ∧ L = [] ∧ h' = h137)) (kc := 0) (ks := 0) (argsL := [(.int 3)]) (rest := []) (lenOf pd_3 rfl) rfl (mr0 rfl) (hb hby d8_63) e170 (by decide) (by decide)
 obtain ⟨rfl, rfl, e173⟩ := hQ173
 have N173 := Fr.app N170 (Fr.nil n0)
 refine go (S' := T173.setTop (mkF m 66 #[sr x1, si 3, si c2] [(.int (([c0, c1, c2, c3] : List Int32).getD 3 0))])) st173 ?_
 rw [show (([c0, c1, c2, c3] : List Int32).getD 3 0) = c3 from rfl]
 refine go (S' := T173.setTop (mkF m 68 #[sr x1, si 3, si c3] [(.int c3)])) (fun t k => XS.istoreN X173.here hx rfl (hb hby d8_66) rfl (l' := #[sr x1, si 3, si c3]) rfl (XS.iloadN X173.here hx rfl (hb hby d8_67) rfl k)) ?_
 obtain ⟨v174, T174, L174, X174, hQ174, st174⟩ := callSt X173 hx hZ (y := y_1) hown (ww hw 83 rfl) (ww hw 84 rfl) (ww hw 37 rfl) (ww hw 85 rfl) (by decide) (backOf (W := 0) (rmIa l Z a0 hw [] c3 h137 n0 (Nat.le_trans Z0 K138.1) hok3) hZ (ww hw 85 rfl) (ww hw 37 rfl) (by decide) (by decide)) (g := (mkF m 68 #[sr x1, si 3, si c3] [(.int c3)])) rfl (by rw [hml]; rfl) (kc := 0) (ks := 0) (argsL := [(.int c3)]) (rest := []) (lenOf pd_4 rfl) rfl (mr0 rfl) (hb hby d8_68) e173 (by decide) (by decide)
 obtain ⟨rfl, N174q, e174⟩ := hQ174
 have N174 := Fr.app N173 N174q
 refine go (S' := T174.setTop (mkF m 71 #[sr x1, si 3, si c3] [(.int 1)])) st174 ?_
 have hc175 : ¬ ((1 : Int32) = (0 : Int32)) := by decide
 refine go (S' := T174.setTop (mkF m 55 #[sr x1, si 4, si c3] [(.ref x1), (.int 4)])) (fun t k => XS.ifYes X174.here hx rfl (pc0 := 71) (pc' := 105) rfl (hb hby d8_71) rfl ((if0 _ _).trans (feq hc175).2) (by decide) (by decide) (XS.iinc X174.here hx rfl (hb hby d8_105) rfl (l' := #[sr x1, si 4, si c3]) rfl (XS.goto X174.here hx rfl (pc0 := 108) (pc' := 53) rfl (hb hby d8_108) (by decide) (by decide) (XS.iloadN X174.here hx rfl (hb hby d8_53) rfl (XS.aloadN X174.here hx rfl (hb hby d8_54) rfl rfl k))))) ?_
 obtain ⟨kb176, N2176, vs176, qE176, qV176, qC176, qA176, qcd176, qbd176, ql176⟩ := id (hp0.keep K138 nin0 nin0)
 obtain ⟨v177, T177, L177, X177, hQ177, st177⟩ := callV X174 hx hZ (y := y_4) (z := y_4) hown (ww hw 51 rfl) (ww hw 52 rfl) (notFace_of_selects (args := #[]) (mvT hZ (ww hw 54 rfl))) (ww hw 54 rfl) (ww hw 53 rfl) (by decide) (StrChars.Road.lenW (W := 1) hZ (own_sub StrChars_wordsLen hw) (kI := 4) (ww hw 7 rfl) qE176 qV176 qC176 qA176 qcd176 qbd176 (hp5.ext O144.2) hG1 ql176 (by decide) (by decide)) (hp0.keep K138 nin0 nin0).exa (g := (mkF m 55 #[sr x1, si 4, si c3] [(.ref x1), (.int 4)])) rfl (by rw [hml]; rfl) (Q := (fun v h' L => v = some (.int (Int32.ofNat ([c0, c1, c2, c3] : List Int32).length)) ∧ L = [] ∧ h' = h137)) (kc := 0) (ks := 0) (argsL := []) (rest := [(.int 4)]) (lenOf pd_2 rfl) rfl (mr0 rfl) (hb hby d8_55) e174 (by decide) (by decide)
 obtain ⟨rfl, rfl, e177⟩ := hQ177
 have N177 := Fr.app N174 (Fr.nil n0)
 refine go (S' := T177.setTop (mkF m 58 #[sr x1, si 4, si c3] [(.int (Int32.ofNat ([c0, c1, c2, c3] : List Int32).length)), (.int 4)])) st177 ?_
 rw [show Int32.ofNat ([c0, c1, c2, c3] : List Int32).length = (4 : Int32) from rfl]
 have hc178 : ¬ ((4 : Int32) < (4 : Int32)) := by decide
 refine go (S' := T177.setTop (mkF m 112 #[sr x1, si 4, si c3] [(.ref x1)])) (fun t k => XS.icmpYes X177.here hx rfl (pc0 := 58) (pc' := 111) rfl (hb hby d8_58) rfl (flt hc178).2.1 (by decide) (by decide) (XS.aloadN X177.here hx rfl (hb hby d8_111) rfl rfl k)) ?_
 refine finRW X177 hx hk hret rfl rfl hS hkS hZ (own_EW hw) C139 e177 (hb hby d8_112) (by decide) (by decide) ?_
 exact ⟨rfl, N177, K138⟩
theorem pd_5 : parseMethodDescriptor "([C)V" = some ⟨[(.array .char)], none⟩ := by decide +kernel
abbrev y_7 : MethodName := ⟨"java/lang/String", "<init>", "([C)V"⟩
theorem pd_6 : parseMethodDescriptor "(Ljava/lang/String;)Ljava/lang/String;" = some ⟨[(.object "java/lang/String")], some (.object "java/lang/String")⟩ := by decide +kernel
abbrev y_8 : MethodName := ⟨"com/example/eindhoven/eindhoven/LockNameCheckPinLaw", "law", "(IIIII)Z"⟩
theorem pn_4 : plainFor y_8 = true := by first | exact plainFor_of_name (by first | (simp [plainName, overriddenIn]; done) | decide +kernel) | decide +kernel
theorem ef_rmLaw (m : MethodId) (p1 : Int32) (p2 : Int32) (p3 : Int32) (p4 : Int32) (p5 : Int32) : entryFrame m #[(.int p1), (.int p2), (.int p3), (.int p4), (.int p5)] maxLocals = mkF m 0 #[si p1, si p2, si p3, si p4, si p5, .unset, .unset, .unset, .unset, .unset, .unset, .unset, .unset] [] := by first | (simp [entryFrame, mkF, argsToLocals, Value.category, maxLocals]; done) | rfl
def Q_rmLaw (Z : State) (p1 : Int32) (p2 : Int32) (p3 : Int32) (p4 : Int32) (p5 : Int32) (G1 : Int32) (fm : Value) (h0 : Heap) (n0 : Nat) (v : Option Value) (h : Heap) (L : List Loc) : Prop := v = some (.int 1) ∧ Fr n0 L ∧ Keep h0 h []
set_option maxRecDepth 65536 in
set_option maxHeartbeats 40000000 in
theorem rmLaw (l : Launch) (Z : State) (a0 : Array Value) (hw : ∀ d ∈ tables_1, d.before a0 Z = true) (ws : List Jvm.Cond) (p1 : Int32) (p2 : Int32) (p3 : Int32) (p4 : Int32) (p5 : Int32) (G1 : Int32) (fm : Value) (h0 : Heap) (n0 : Nat) (Z0 : n0 ≤ h0.size) (hp0 : Sta Z Z.heap "java/lang/String" "COMPACT_STRINGS" "Z" (.int G1)) (hG1 : ¬ (G1 = (0 : Int32))) (hp2 : Sta Z Z.heap "jdk/internal/util/Preconditions" "SIOOBE_FORMATTER" "Ljava/util/function/BiFunction;" fm) (hfm : fm.isRef = true) (hp4 : Old Z n0 h0) :
    MetFree l x (head1 (Jvm.Cond.code x code maxLocals ret :: ws) room_1) (fun a U => a = #[(.int p1), (.int p2), (.int p3), (.int p4), (.int p5)] ∧ Z.Warmed39 U.vm ∧ U.heap = h0 ∧ CHv Z ([] : List (String × Nat)) U.vm h0 ∧ ∀ x ∈ ([] : List Addr), Safe Z ([] : List (String × Nat)) U.vm h0 x) (fun _ _ _ _ _ => True) (fun _ U o U' => ∃ v L, o = .returned v ∧ Q_rmLaw Z p1 p2 p3 p4 p5 G1 fm h0 n0 v U'.heap L ∧ CHr Z ([] : List (String × Nat)) U.vm U.heap U'.vm U'.heap ∧ ReturnedEndW U o U' L room_1.cells room_1.slots) := by
 refine bodyOfW pn_4 (fun m => ef_rmLaw m p1 p2 p3 p4 p5) ?_
 intro p e s m below meth c T0 X0 hx hby hml hown hnm hret hk hZ e0 hS C0 hsf
 have hkS := Nat.le_refl h0.size
 have N0 := Fr.nil n0
 have K0 : Keep h0 h0 [] := Keep.refl _ _
 have O0 := hp4
 refine go (S' := T0.setTop (mkF m 7 #[si p1, si p2, si p3, si p4, si p5, si ((p1 &&& (3 : Int32)) + (1 : Int32)), .unset, .unset, .unset, .unset, .unset, .unset, .unset] [])) (fun t k => XS.iloadN X0.here hx rfl (hb hby at_0) rfl (XS.iconst X0.here hx rfl (hb hby at_1) (XS.iand X0.here hx rfl (hb hby at_2) rfl (XS.iconst X0.here hx rfl (hb hby at_3) (XS.iadd X0.here hx rfl (hb hby at_4) rfl (XS.istore X0.here hx rfl (hb hby at_5) rfl (l' := #[si p1, si p2, si p3, si p4, si p5, si ((p1 &&& (3 : Int32)) + (1 : Int32)), .unset, .unset, .unset, .unset, .unset, .unset, .unset]) rfl k)))))) ?_
 rcases own_four p1 with hf | hf | hf | hf
 ·
  rw [hf]
  refine go (S' := T0.setTop (mkF m 8 #[si p1, si p2, si p3, si p4, si p5, si 1, .unset, .unset, .unset, .unset, .unset, .unset, .unset] [(.int p2)])) (fun t k => XS.iloadN X0.here hx rfl (hb hby at_7) rfl k) ?_
  obtain ⟨v179, T179, L179, X179, hQ179, st179⟩ := callSt X0 hx hZ (y := y_0) hown (ww hw 0 rfl) (ww hw 1 rfl) (ww hw 2 rfl) (ww hw 3 rfl) (by decide) (backOf (W := 0) (rmAl l Z a0 hw [] p2 h0 n0 (Nat.le_trans Z0 K0.1) ) hZ (ww hw 3 rfl) (ww hw 2 rfl) (by decide) (by decide)) (g := (mkF m 8 #[si p1, si p2, si p3, si p4, si p5, si 1, .unset, .unset, .unset, .unset, .unset, .unset, .unset] [(.int p2)])) rfl (by rw [hml]; rfl) (kc := 0) (ks := 0) (argsL := [(.int p2)]) (rest := []) (lenOf pd_3 rfl) rfl (mr0 rfl) (hb hby at_8) e0 (by decide) (by decide)
  obtain ⟨r_179, rfl, N179q, e179, q179_0⟩ := hQ179
  have N179 := Fr.app N0 N179q
  refine go (S' := T179.setTop (mkF m 14 #[si p1, si p2, si p3, si p4, si p5, si 1, si r_179, .unset, .unset, .unset, .unset, .unset, .unset] [(.int p3)])) (fun t k => st179 _ (XS.istore X179.here hx rfl (hb hby at_11) rfl (l' := #[si p1, si p2, si p3, si p4, si p5, si 1, si r_179, .unset, .unset, .unset, .unset, .unset, .unset]) rfl (XS.iloadN X179.here hx rfl (hb hby at_13) rfl k))) ?_
  obtain ⟨v180, T180, L180, X180, hQ180, st180⟩ := callSt X179 hx hZ (y := y_0) hown (ww hw 0 rfl) (ww hw 1 rfl) (ww hw 2 rfl) (ww hw 3 rfl) (by decide) (backOf (W := 0) (rmAl l Z a0 hw [] p3 h0 n0 (Nat.le_trans Z0 K0.1) ) hZ (ww hw 3 rfl) (ww hw 2 rfl) (by decide) (by decide)) (g := (mkF m 14 #[si p1, si p2, si p3, si p4, si p5, si 1, si r_179, .unset, .unset, .unset, .unset, .unset, .unset] [(.int p3)])) rfl (by rw [hml]; rfl) (kc := 0) (ks := 0) (argsL := [(.int p3)]) (rest := []) (lenOf pd_3 rfl) rfl (mr0 rfl) (hb hby at_14) e179 (by decide) (by decide)
  obtain ⟨r_180, rfl, N180q, e180, q180_0⟩ := hQ180
  have N180 := Fr.app N179 N180q
  refine go (S' := T180.setTop (mkF m 20 #[si p1, si p2, si p3, si p4, si p5, si 1, si r_179, si r_180, .unset, .unset, .unset, .unset, .unset] [(.int p4)])) (fun t k => st180 _ (XS.istore X180.here hx rfl (hb hby at_17) rfl (l' := #[si p1, si p2, si p3, si p4, si p5, si 1, si r_179, si r_180, .unset, .unset, .unset, .unset, .unset]) rfl (XS.iloadN X180.here hx rfl (hb hby at_19) rfl k))) ?_
  obtain ⟨v181, T181, L181, X181, hQ181, st181⟩ := callSt X180 hx hZ (y := y_0) hown (ww hw 0 rfl) (ww hw 1 rfl) (ww hw 2 rfl) (ww hw 3 rfl) (by decide) (backOf (W := 0) (rmAl l Z a0 hw [] p4 h0 n0 (Nat.le_trans Z0 K0.1) ) hZ (ww hw 3 rfl) (ww hw 2 rfl) (by decide) (by decide)) (g := (mkF m 20 #[si p1, si p2, si p3, si p4, si p5, si 1, si r_179, si r_180, .unset, .unset, .unset, .unset, .unset] [(.int p4)])) rfl (by rw [hml]; rfl) (kc := 0) (ks := 0) (argsL := [(.int p4)]) (rest := []) (lenOf pd_3 rfl) rfl (mr0 rfl) (hb hby at_20) e180 (by decide) (by decide)
  obtain ⟨r_181, rfl, N181q, e181, q181_0⟩ := hQ181
  have N181 := Fr.app N180 N181q
  refine go (S' := T181.setTop (mkF m 27 #[si p1, si p2, si p3, si p4, si p5, si 1, si r_179, si r_180, si r_181, .unset, .unset, .unset, .unset] [(.int p5)])) (fun t k => st181 _ (XS.istore X181.here hx rfl (hb hby at_23) rfl (l' := #[si p1, si p2, si p3, si p4, si p5, si 1, si r_179, si r_180, si r_181, .unset, .unset, .unset, .unset]) rfl (XS.iload X181.here hx rfl (hb hby at_25) rfl k))) ?_
  obtain ⟨v182, T182, L182, X182, hQ182, st182⟩ := callSt X181 hx hZ (y := y_0) hown (ww hw 0 rfl) (ww hw 1 rfl) (ww hw 2 rfl) (ww hw 3 rfl) (by decide) (backOf (W := 0) (rmAl l Z a0 hw [] p5 h0 n0 (Nat.le_trans Z0 K0.1) ) hZ (ww hw 3 rfl) (ww hw 2 rfl) (by decide) (by decide)) (g := (mkF m 27 #[si p1, si p2, si p3, si p4, si p5, si 1, si r_179, si r_180, si r_181, .unset, .unset, .unset, .unset] [(.int p5)])) rfl (by rw [hml]; rfl) (kc := 0) (ks := 0) (argsL := [(.int p5)]) (rest := []) (lenOf pd_3 rfl) rfl (mr0 rfl) (hb hby at_27) e181 (by decide) (by decide)
  obtain ⟨r_182, rfl, N182q, e182, q182_0⟩ := hQ182
  have N182 := Fr.app N181 N182q
  refine go (S' := T182.setTop (mkF m 35 #[si p1, si p2, si p3, si p4, si p5, si 1, si r_179, si r_180, si r_181, si r_182, .unset, .unset, .unset] [(.int 1), (.int 1)])) (fun t k => st182 _ (XS.istore X182.here hx rfl (hb hby at_30) rfl (l' := #[si p1, si p2, si p3, si p4, si p5, si 1, si r_179, si r_180, si r_181, si r_182, .unset, .unset, .unset]) rfl (XS.iload X182.here hx rfl (hb hby at_32) rfl (XS.iconst X182.here hx rfl (hb hby at_34) k)))) ?_
  have hc183 : (1 : Int32) = (1 : Int32) := by decide
  refine go (S' := T182.setTop (mkF m 39 #[si p1, si p2, si p3, si p4, si p5, si 1, si r_179, si r_180, si r_181, si r_182, .unset, .unset, .unset] [(.int 1)])) (fun t k => XS.icmpNo X182.here hx rfl (hb hby at_35) rfl (teq hc183).2 (XS.iconst X182.here hx rfl (hb hby at_38) k)) ?_
  obtain ⟨T184, h184, k184, X184, e184, E184, A184, st184⟩ := newP X182 hx hZ (ww hw 5 rfl) e182 (g := (mkF m 39 #[si p1, si p2, si p3, si p4, si p5, si 1, si r_179, si r_180, si r_181, si r_182, .unset, .unset, .unset] [(.int 1)])) rfl (hb hby at_39) rfl (by decide) (cap := 1) (by decide) (by decide) (by decide) (by decide)
  obtain ⟨b184, g184⟩ : ∃ z, z = h0.size := ⟨_, rfl⟩
  rw [← g184] at A184 st184
  have ge_b184 : n0 ≤ b184 := by rw [g184]; exact (Nat.le_trans Z0 K0.1)
  have sz_b184 : h0.size ≤ b184 := by rw [g184]; exact K0.1
  have K185 : Keep h0 h184 [] := K0.ext E184
  have hkS := Nat.le_trans hkS E184.1
  have C186 := C0.trans (CHr.ext E184 C0.1)
  have V184 : Arv Z h184 b184 k184 .char (1 : Int32) [(.int 0)] (.int 0) := (Arv.new A184 (by decide)).pad (pad_rep [] (.int 0) 1)
  refine go (S' := T184.setTop (mkF m 45 #[si p1, si p2, si p3, si p4, si p5, si 1, si r_179, si r_180, si r_181, si r_182, .unset, .unset, .unset] [(.int r_179), (.int 0), (.ref b184), (.ref b184)])) (fun t k => st184 _ (XS.dup X184.here hx rfl (hb hby at_41) rfl rfl (XS.iconst X184.here hx rfl (hb hby at_42) (XS.iload X184.here hx rfl (hb hby at_43) rfl k)))) ?_
  obtain ⟨T187, h187, X187, e187, W187, V187, st187⟩ := putC X184 hx hZ e184 V184 (j := (0 : Int32)) (x := r_179) (own_lat16 (own_ok_lat q179_0)) ⟨by decide, by decide⟩ (i := 0) rfl (Nat.le_of_ble_eq_true rfl) (g := (mkF m 45 #[si p1, si p2, si p3, si p4, si p5, si 1, si r_179, si r_180, si r_181, si r_182, .unset, .unset, .unset] [(.int r_179), (.int 0), (.ref b184), (.ref b184)])) rfl rfl (hb hby at_45)
  have K188 : Keep h0 h187 [] := K185.wr W187 (Or.inr sz_b184)
  have N189 := Fr.snoc X187 N182 ge_b184
  have hkS := Nat.le_trans hkS (Keep.of_wr W187).1
  have C190 := C186.trans (CHr.wr W187 (safeArv hZ.alike V184 (by decide)) C186.1)
  refine go (S' := T187.setTop (mkF m 129 #[si p1, si p2, si p3, si p4, si p5, si 1, si r_179, si r_180, si r_181, si r_182, sr b184, .unset, .unset] [])) (fun t k => st187 _ (XS.astore X187.here hx rfl (hb hby at_46) rfl rfl (l' := #[si p1, si p2, si p3, si p4, si p5, si 1, si r_179, si r_180, si r_181, si r_182, sr b184, .unset, .unset]) rfl (XS.goto X187.here hx rfl (pc0 := 48) (pc' := 129) rfl (hb hby at_48) (by decide) (by decide) k))) ?_
  obtain ⟨T191, h191, X191, e191, E191, A191, D191, -, st191⟩ := newO X187 hx hZ hown (ww hw 6 rfl) (ww hw 7 rfl) (ww hw 8 rfl) e187 (g := (mkF m 129 #[si p1, si p2, si p3, si p4, si p5, si 1, si r_179, si r_180, si r_181, si r_182, sr b184, .unset, .unset] [])) rfl (hb hby at_129) (by decide) (by decide)
  obtain ⟨b191, g191⟩ : ∃ z, z = h187.size := ⟨_, rfl⟩
  rw [← g191] at A191 D191 st191
  have lt_b184_b191 : b184 < b191 := by rw [g191]; exact V187.lt
  have ge_b191 : n0 ≤ b191 := by rw [g191]; exact (Nat.le_trans Z0 K188.1)
  have sz_b191 : h0.size ≤ b191 := by rw [g191]; exact K188.1
  have K192 : Keep h0 h191 [] := K188.ext E191
  have hkS := Nat.le_trans hkS E191.1
  have C193 := C190.trans (CHr.ext E191 C190.1)
  have sf194 := Safe.ext E191 C190.1 (Safe.new (Nat.le_of_eq g191.symm))
  refine go (S' := T191.setTop (mkF m 135 #[si p1, si p2, si p3, si p4, si p5, si 1, si r_179, si r_180, si r_181, si r_182, sr b184, .unset, .unset] [(.ref b184), (.ref b191), (.ref b191)])) (fun t k => st191 _ (XS.dup X191.here hx rfl (hb hby at_132) rfl rfl (XS.aload X191.here hx rfl (hb hby at_133) rfl rfl k))) ?_
  have f195 : Arv Z h191 b184 k184 .char (1 : Int32) [(.int r_179)] (.int 0) := (V187.ext E191)
  have hp196 : ∀ c ∈ ([r_179] : List Int32), ¬ c < 0 ∧ ¬ (255 : Int32) < c := (allI (own_ok_lat q179_0) (fun _ q => nomatch q))
  have O197 : Old Z n0 h191 := O0.keep K192 all0
  obtain ⟨v198, T198, L198, X198, hQ198, st198⟩ := callSp X191 hx hZ (y := y_7) rfl hown (ww hw 9 rfl) (ww hw 10 rfl) (ww hw 11 rfl) (by decide) (StrChars.Road.backV (W := 1) hZ (own_sub StrChars_words hw) (kI := 4) (ww hw 7 rfl) (cs := ([r_179] : List Int32)) (bs := ([r_179] : List Int32).map (fun c => c.toInt8.toInt32)) (n := 1) ge_b191 (Nat.le_trans Z0 K192.1) A191 (D191 (Or.inr (ww hw 34 rfl)) (ty := (.array .byte)) (by decide)) (D191 (Or.inr (ww hw 32 rfl)) (ty := .byte) (by decide)) f195 (hp0.ext O197.2) hG1 rfl rfl (by decide) (by decide) hp196 rfl (by decide) (by decide)) (g := (mkF m 135 #[si p1, si p2, si p3, si p4, si p5, si 1, si r_179, si r_180, si r_181, si r_182, sr b184, .unset, .unset] [(.ref b184), (.ref b191), (.ref b191)])) rfl (by rw [hml]; rfl) (a := b191) (kc := 1) (ks := 1) (argsL := [(.ref b184)]) (rest := [(.ref b191)]) (lenOf pd_5 rfl) rfl (mr0 rfl) (hb hby at_135) e191 (by decide) (by decide)
  obtain ⟨rfl, N198q, Kq198, q198_e, q198_c, t198, kb198, ge_t198, new_t198, ne_t198_b191, q198_v, q198_a⟩ := hQ198
  have N198 := Fr.app N189 N198q
  have K199 : Keep h0 T198.heap [] := K192.trans Kq198 (allS (P := fun x => x ∈ [] ∨ h0.size ≤ x) (Or.inr sz_b191) all0)
  have hkS := Nat.le_trans hkS Kq198.1
  have C200 := C193.trans (CHr.keep Kq198 (allS sf194 all0) C193.1)
  have sf201 := Safe.keep Kq198 (allS sf194 all0) C193.1 sf194
  have lt_b184_t198 : b184 < t198 := Nat.lt_of_lt_of_le f195.lt new_t198
  have lt_b191_t198 : b191 < t198 := Nat.lt_of_lt_of_le A191.lt new_t198
  have sz_t198 : h0.size ≤ t198 := Nat.le_trans K192.1 new_t198
  refine go (S' := T198.setTop (mkF m 138 #[si p1, si p2, si p3, si p4, si p5, si 1, si r_179, si r_180, si r_181, si r_182, sr b184, .unset, .unset] [(.ref b191)])) st198 ?_
  have f203 : Exa Z T198.heap b191 "java/lang/String" := (A191.keep Kq198)
  have str202 : Str Z T198.heap b191 t198 (0 : Int32) ([r_179] : List Int32) := ⟨_, _, _, f203, q198_v, q198_c, q198_a, own_codOf rfl (fun c hc => (hp196 c hc).2), up16 _ hp196, Nat.le_of_ble_eq_true rfl⟩
  refine go (S' := T198.setTop (mkF m 142 #[si p1, si p2, si p3, si p4, si p5, si 1, si r_179, si r_180, si r_181, si r_182, sr b184, sr b191, .unset] [(.ref b191)])) (fun t k => XS.astore X198.here hx rfl (hb hby at_138) rfl rfl (l' := #[si p1, si p2, si p3, si p4, si p5, si 1, si r_179, si r_180, si r_181, si r_182, sr b184, sr b191, .unset]) rfl (XS.aload X198.here hx rfl (hb hby at_140) rfl rfl k)) ?_
  have O204 : Old Z n0 T198.heap := O0.keep K199 all0
  obtain ⟨v205, T205, L205, X205, hQ205, hS, hZ, hown, Cq205, st205⟩ := callStW X198 hx hZ (y := y_6) hown (ww hw 35 rfl) (ww hw 36 rfl) (ww hw 37 rfl) (ww hw 38 rfl) (by decide) (backW (W := 0) (rmCk1 l Z a0 hw [] b191 t198 r_179 G1 fm T198.heap n0 (Nat.le_trans Z0 K199.1) str202 q179_0 hp0 hG1 hp2 hfm O204) hZ (ww hw 38 rfl) (ww hw 37 rfl) (by decide) (by decide) (own_EW hw) C200.1 all0) (g := (mkF m 142 #[si p1, si p2, si p3, si p4, si p5, si 1, si r_179, si r_180, si r_181, si r_182, sr b184, sr b191, .unset] [(.ref b191)])) rfl (by rw [hml]; rfl) (kc := 2) (ks := 40) (argsL := [(.ref b191)]) (rest := []) (lenOf pd_6 rfl) rfl (mr0 rfl) (hb hby at_142) rfl (by decide) (by decide) hS hkS
  obtain ⟨rfl, N205q, Kq205⟩ := hQ205
  have N205 := Fr.app N198 N205q
  have hkS := Nat.le_refl T205.heap.size
  have C206 := C200.trans Cq205
  have sf207 := CHr.safe Cq205 str202.lt1 sf201
  have K208 : Keep h0 T205.heap [] := K199.trans Kq205 all0
  refine go (S' := T205.setTop (mkF m 159 #[si p1, si p2, si p3, si p4, si p5, si 1, si r_179, si r_180, si r_181, si r_182, sr b184, sr b191, sr b191] [(.int 1)])) (fun t k => st205 _ (XS.astore X205.here hx rfl (hb hby at_145) rfl rfl (l' := #[si p1, si p2, si p3, si p4, si p5, si 1, si r_179, si r_180, si r_181, si r_182, sr b184, sr b191, sr b191]) rfl (XS.aload X205.here hx rfl (hb hby at_147) rfl rfl (XS.aload X205.here hx rfl (hb hby at_149) rfl rfl (Jvm.RoadKit.acmp (g := (mkF m 151 #[si p1, si p2, si p3, si p4, si p5, si 1, si r_179, si r_180, si r_181, si r_182, sr b184, sr b191, sr b191] [(.ref b191), (.ref b191)])) X205 hx rfl rfl rfl (pc0 := 151) (pc' := 154) (same := true) rfl (hb hby at_151) rfl (decide_eq_true rfl) (by decide) (by decide) (XS.iconst X205.here hx rfl (hb hby at_154) (XS.goto X205.here hx rfl (pc0 := 155) (pc' := 159) rfl (hb hby at_155) (by decide) (by decide) k))))))) ?_
  refine finNW X205 hx hk (t := .boolean) hret (by simp) hS hkS hZ (own_EW hw) C206 rfl (hb hby at_159) (by decide) (by decide) ?_
  exact ⟨rfl, N205, K208⟩
 ·
  rw [hf]
  refine go (S' := T0.setTop (mkF m 8 #[si p1, si p2, si p3, si p4, si p5, si 2, .unset, .unset, .unset, .unset, .unset, .unset, .unset] [(.int p2)])) (fun t k => XS.iloadN X0.here hx rfl (hb hby at_7) rfl k) ?_
  obtain ⟨v209, T209, L209, X209, hQ209, st209⟩ := callSt X0 hx hZ (y := y_0) hown (ww hw 0 rfl) (ww hw 1 rfl) (ww hw 2 rfl) (ww hw 3 rfl) (by decide) (backOf (W := 0) (rmAl l Z a0 hw [] p2 h0 n0 (Nat.le_trans Z0 K0.1) ) hZ (ww hw 3 rfl) (ww hw 2 rfl) (by decide) (by decide)) (g := (mkF m 8 #[si p1, si p2, si p3, si p4, si p5, si 2, .unset, .unset, .unset, .unset, .unset, .unset, .unset] [(.int p2)])) rfl (by rw [hml]; rfl) (kc := 0) (ks := 0) (argsL := [(.int p2)]) (rest := []) (lenOf pd_3 rfl) rfl (mr0 rfl) (hb hby at_8) e0 (by decide) (by decide)
  obtain ⟨r_209, rfl, N209q, e209, q209_0⟩ := hQ209
  have N209 := Fr.app N0 N209q
  refine go (S' := T209.setTop (mkF m 14 #[si p1, si p2, si p3, si p4, si p5, si 2, si r_209, .unset, .unset, .unset, .unset, .unset, .unset] [(.int p3)])) (fun t k => st209 _ (XS.istore X209.here hx rfl (hb hby at_11) rfl (l' := #[si p1, si p2, si p3, si p4, si p5, si 2, si r_209, .unset, .unset, .unset, .unset, .unset, .unset]) rfl (XS.iloadN X209.here hx rfl (hb hby at_13) rfl k))) ?_
  obtain ⟨v210, T210, L210, X210, hQ210, st210⟩ := callSt X209 hx hZ (y := y_0) hown (ww hw 0 rfl) (ww hw 1 rfl) (ww hw 2 rfl) (ww hw 3 rfl) (by decide) (backOf (W := 0) (rmAl l Z a0 hw [] p3 h0 n0 (Nat.le_trans Z0 K0.1) ) hZ (ww hw 3 rfl) (ww hw 2 rfl) (by decide) (by decide)) (g := (mkF m 14 #[si p1, si p2, si p3, si p4, si p5, si 2, si r_209, .unset, .unset, .unset, .unset, .unset, .unset] [(.int p3)])) rfl (by rw [hml]; rfl) (kc := 0) (ks := 0) (argsL := [(.int p3)]) (rest := []) (lenOf pd_3 rfl) rfl (mr0 rfl) (hb hby at_14) e209 (by decide) (by decide)
  obtain ⟨r_210, rfl, N210q, e210, q210_0⟩ := hQ210
  have N210 := Fr.app N209 N210q
  refine go (S' := T210.setTop (mkF m 20 #[si p1, si p2, si p3, si p4, si p5, si 2, si r_209, si r_210, .unset, .unset, .unset, .unset, .unset] [(.int p4)])) (fun t k => st210 _ (XS.istore X210.here hx rfl (hb hby at_17) rfl (l' := #[si p1, si p2, si p3, si p4, si p5, si 2, si r_209, si r_210, .unset, .unset, .unset, .unset, .unset]) rfl (XS.iloadN X210.here hx rfl (hb hby at_19) rfl k))) ?_
  obtain ⟨v211, T211, L211, X211, hQ211, st211⟩ := callSt X210 hx hZ (y := y_0) hown (ww hw 0 rfl) (ww hw 1 rfl) (ww hw 2 rfl) (ww hw 3 rfl) (by decide) (backOf (W := 0) (rmAl l Z a0 hw [] p4 h0 n0 (Nat.le_trans Z0 K0.1) ) hZ (ww hw 3 rfl) (ww hw 2 rfl) (by decide) (by decide)) (g := (mkF m 20 #[si p1, si p2, si p3, si p4, si p5, si 2, si r_209, si r_210, .unset, .unset, .unset, .unset, .unset] [(.int p4)])) rfl (by rw [hml]; rfl) (kc := 0) (ks := 0) (argsL := [(.int p4)]) (rest := []) (lenOf pd_3 rfl) rfl (mr0 rfl) (hb hby at_20) e210 (by decide) (by decide)
  obtain ⟨r_211, rfl, N211q, e211, q211_0⟩ := hQ211
  have N211 := Fr.app N210 N211q
  refine go (S' := T211.setTop (mkF m 27 #[si p1, si p2, si p3, si p4, si p5, si 2, si r_209, si r_210, si r_211, .unset, .unset, .unset, .unset] [(.int p5)])) (fun t k => st211 _ (XS.istore X211.here hx rfl (hb hby at_23) rfl (l' := #[si p1, si p2, si p3, si p4, si p5, si 2, si r_209, si r_210, si r_211, .unset, .unset, .unset, .unset]) rfl (XS.iload X211.here hx rfl (hb hby at_25) rfl k))) ?_
  obtain ⟨v212, T212, L212, X212, hQ212, st212⟩ := callSt X211 hx hZ (y := y_0) hown (ww hw 0 rfl) (ww hw 1 rfl) (ww hw 2 rfl) (ww hw 3 rfl) (by decide) (backOf (W := 0) (rmAl l Z a0 hw [] p5 h0 n0 (Nat.le_trans Z0 K0.1) ) hZ (ww hw 3 rfl) (ww hw 2 rfl) (by decide) (by decide)) (g := (mkF m 27 #[si p1, si p2, si p3, si p4, si p5, si 2, si r_209, si r_210, si r_211, .unset, .unset, .unset, .unset] [(.int p5)])) rfl (by rw [hml]; rfl) (kc := 0) (ks := 0) (argsL := [(.int p5)]) (rest := []) (lenOf pd_3 rfl) rfl (mr0 rfl) (hb hby at_27) e211 (by decide) (by decide)
  obtain ⟨r_212, rfl, N212q, e212, q212_0⟩ := hQ212
  have N212 := Fr.app N211 N212q
  refine go (S' := T212.setTop (mkF m 35 #[si p1, si p2, si p3, si p4, si p5, si 2, si r_209, si r_210, si r_211, si r_212, .unset, .unset, .unset] [(.int 1), (.int 2)])) (fun t k => st212 _ (XS.istore X212.here hx rfl (hb hby at_30) rfl (l' := #[si p1, si p2, si p3, si p4, si p5, si 2, si r_209, si r_210, si r_211, si r_212, .unset, .unset, .unset]) rfl (XS.iload X212.here hx rfl (hb hby at_32) rfl (XS.iconst X212.here hx rfl (hb hby at_34) k)))) ?_
  have hc213 : ¬ ((2 : Int32) = (1 : Int32)) := by decide
  refine go (S' := T212.setTop (mkF m 54 #[si p1, si p2, si p3, si p4, si p5, si 2, si r_209, si r_210, si r_211, si r_212, .unset, .unset, .unset] [(.int 2), (.int 2)])) (fun t k => XS.icmpYes X212.here hx rfl (pc0 := 35) (pc' := 51) rfl (hb hby at_35) rfl (feq hc213).2 (by decide) (by decide) (XS.iload X212.here hx rfl (hb hby at_51) rfl (XS.iconst X212.here hx rfl (hb hby at_53) k))) ?_
  have hc214 : (2 : Int32) = (2 : Int32) := by decide
  refine go (S' := T212.setTop (mkF m 58 #[si p1, si p2, si p3, si p4, si p5, si 2, si r_209, si r_210, si r_211, si r_212, .unset, .unset, .unset] [(.int 2)])) (fun t k => XS.icmpNo X212.here hx rfl (hb hby at_54) rfl (teq hc214).2 (XS.iconst X212.here hx rfl (hb hby at_57) k)) ?_
  obtain ⟨T215, h215, k215, X215, e215, E215, A215, st215⟩ := newP X212 hx hZ (ww hw 5 rfl) e212 (g := (mkF m 58 #[si p1, si p2, si p3, si p4, si p5, si 2, si r_209, si r_210, si r_211, si r_212, .unset, .unset, .unset] [(.int 2)])) rfl (hb hby at_58) rfl (by decide) (cap := 2) (by decide) (by decide) (by decide) (by decide)
  obtain ⟨b215, g215⟩ : ∃ z, z = h0.size := ⟨_, rfl⟩
  rw [← g215] at A215 st215
  have ge_b215 : n0 ≤ b215 := by rw [g215]; exact (Nat.le_trans Z0 K0.1)
  have sz_b215 : h0.size ≤ b215 := by rw [g215]; exact K0.1
  have K216 : Keep h0 h215 [] := K0.ext E215
  have hkS := Nat.le_trans hkS E215.1
  have C217 := C0.trans (CHr.ext E215 C0.1)
  have V215 : Arv Z h215 b215 k215 .char (2 : Int32) [(.int 0), (.int 0)] (.int 0) := (Arv.new A215 (by decide)).pad (pad_rep [] (.int 0) 2)
  refine go (S' := T215.setTop (mkF m 64 #[si p1, si p2, si p3, si p4, si p5, si 2, si r_209, si r_210, si r_211, si r_212, .unset, .unset, .unset] [(.int r_209), (.int 0), (.ref b215), (.ref b215)])) (fun t k => st215 _ (XS.dup X215.here hx rfl (hb hby at_60) rfl rfl (XS.iconst X215.here hx rfl (hb hby at_61) (XS.iload X215.here hx rfl (hb hby at_62) rfl k)))) ?_
  obtain ⟨T218, h218, X218, e218, W218, V218, st218⟩ := putC X215 hx hZ e215 V215 (j := (0 : Int32)) (x := r_209) (own_lat16 (own_ok_lat q209_0)) ⟨by decide, by decide⟩ (i := 0) rfl (Nat.le_of_ble_eq_true rfl) (g := (mkF m 64 #[si p1, si p2, si p3, si p4, si p5, si 2, si r_209, si r_210, si r_211, si r_212, .unset, .unset, .unset] [(.int r_209), (.int 0), (.ref b215), (.ref b215)])) rfl rfl (hb hby at_64)
  have K219 : Keep h0 h218 [] := K216.wr W218 (Or.inr sz_b215)
  have N220 := Fr.snoc X218 N212 ge_b215
  have hkS := Nat.le_trans hkS (Keep.of_wr W218).1
  have C221 := C217.trans (CHr.wr W218 (safeArv hZ.alike V215 (by decide)) C217.1)
  refine go (S' := T218.setTop (mkF m 69 #[si p1, si p2, si p3, si p4, si p5, si 2, si r_209, si r_210, si r_211, si r_212, .unset, .unset, .unset] [(.int r_210), (.int 1), (.ref b215), (.ref b215)])) (fun t k => st218 _ (XS.dup X218.here hx rfl (hb hby at_65) rfl rfl (XS.iconst X218.here hx rfl (hb hby at_66) (XS.iload X218.here hx rfl (hb hby at_67) rfl k)))) ?_
  obtain ⟨T222, h222, X222, e222, W222, V222, st222⟩ := putC X218 hx hZ e218 V218 (j := (1 : Int32)) (x := r_210) (own_lat16 (own_ok_lat q210_0)) ⟨by decide, by decide⟩ (i := 1) rfl (Nat.le_of_ble_eq_true rfl) (g := (mkF m 69 #[si p1, si p2, si p3, si p4, si p5, si 2, si r_209, si r_210, si r_211, si r_212, .unset, .unset, .unset] [(.int r_210), (.int 1), (.ref b215), (.ref b215)])) rfl rfl (hb hby at_69)
  have K223 : Keep h0 h222 [] := K219.wr W222 (Or.inr sz_b215)
  have N224 := Fr.snoc X222 N220 ge_b215
  have hkS := Nat.le_trans hkS (Keep.of_wr W222).1
  have C225 := C221.trans (CHr.wr W222 (safeArv hZ.alike V218 (by decide)) C221.1)
  refine go (S' := T222.setTop (mkF m 129 #[si p1, si p2, si p3, si p4, si p5, si 2, si r_209, si r_210, si r_211, si r_212, sr b215, .unset, .unset] [])) (fun t k => st222 _ (XS.astore X222.here hx rfl (hb hby at_70) rfl rfl (l' := #[si p1, si p2, si p3, si p4, si p5, si 2, si r_209, si r_210, si r_211, si r_212, sr b215, .unset, .unset]) rfl (XS.goto X222.here hx rfl (pc0 := 72) (pc' := 129) rfl (hb hby at_72) (by decide) (by decide) k))) ?_
  obtain ⟨T226, h226, X226, e226, E226, A226, D226, -, st226⟩ := newO X222 hx hZ hown (ww hw 6 rfl) (ww hw 7 rfl) (ww hw 8 rfl) e222 (g := (mkF m 129 #[si p1, si p2, si p3, si p4, si p5, si 2, si r_209, si r_210, si r_211, si r_212, sr b215, .unset, .unset] [])) rfl (hb hby at_129) (by decide) (by decide)
  obtain ⟨b226, g226⟩ : ∃ z, z = h222.size := ⟨_, rfl⟩
  rw [← g226] at A226 D226 st226
  have lt_b215_b226 : b215 < b226 := by rw [g226]; exact V222.lt
  have ge_b226 : n0 ≤ b226 := by rw [g226]; exact (Nat.le_trans Z0 K223.1)
  have sz_b226 : h0.size ≤ b226 := by rw [g226]; exact K223.1
  have K227 : Keep h0 h226 [] := K223.ext E226
  have hkS := Nat.le_trans hkS E226.1
  have C228 := C225.trans (CHr.ext E226 C225.1)
  have sf229 := Safe.ext E226 C225.1 (Safe.new (Nat.le_of_eq g226.symm))
  refine go (S' := T226.setTop (mkF m 135 #[si p1, si p2, si p3, si p4, si p5, si 2, si r_209, si r_210, si r_211, si r_212, sr b215, .unset, .unset] [(.ref b215), (.ref b226), (.ref b226)])) (fun t k => st226 _ (XS.dup X226.here hx rfl (hb hby at_132) rfl rfl (XS.aload X226.here hx rfl (hb hby at_133) rfl rfl k))) ?_
  have f230 : Arv Z h226 b215 k215 .char (2 : Int32) [(.int r_209), (.int r_210)] (.int 0) := (V222.ext E226)
  have hp231 : ∀ c ∈ ([r_209, r_210] : List Int32), ¬ c < 0 ∧ ¬ (255 : Int32) < c := (allI (own_ok_lat q209_0) (allI (own_ok_lat q210_0) (fun _ q => nomatch q)))
  have O232 : Old Z n0 h226 := O0.keep K227 all0
  obtain ⟨v233, T233, L233, X233, hQ233, st233⟩ := callSp X226 hx hZ (y := y_7) rfl hown (ww hw 9 rfl) (ww hw 10 rfl) (ww hw 11 rfl) (by decide) (StrChars.Road.backV (W := 1) hZ (own_sub StrChars_words hw) (kI := 4) (ww hw 7 rfl) (cs := ([r_209, r_210] : List Int32)) (bs := ([r_209, r_210] : List Int32).map (fun c => c.toInt8.toInt32)) (n := 2) ge_b226 (Nat.le_trans Z0 K227.1) A226 (D226 (Or.inr (ww hw 34 rfl)) (ty := (.array .byte)) (by decide)) (D226 (Or.inr (ww hw 32 rfl)) (ty := .byte) (by decide)) f230 (hp0.ext O232.2) hG1 rfl rfl (by decide) (by decide) hp231 rfl (by decide) (by decide)) (g := (mkF m 135 #[si p1, si p2, si p3, si p4, si p5, si 2, si r_209, si r_210, si r_211, si r_212, sr b215, .unset, .unset] [(.ref b215), (.ref b226), (.ref b226)])) rfl (by rw [hml]; rfl) (a := b226) (kc := 1) (ks := 2) (argsL := [(.ref b215)]) (rest := [(.ref b226)]) (lenOf pd_5 rfl) rfl (mr0 rfl) (hb hby at_135) e226 (by decide) (by decide)
  obtain ⟨rfl, N233q, Kq233, q233_e, q233_c, t233, kb233, ge_t233, new_t233, ne_t233_b226, q233_v, q233_a⟩ := hQ233
  have N233 := Fr.app N224 N233q
  have K234 : Keep h0 T233.heap [] := K227.trans Kq233 (allS (P := fun x => x ∈ [] ∨ h0.size ≤ x) (Or.inr sz_b226) all0)
  have hkS := Nat.le_trans hkS Kq233.1
  have C235 := C228.trans (CHr.keep Kq233 (allS sf229 all0) C228.1)
  have sf236 := Safe.keep Kq233 (allS sf229 all0) C228.1 sf229
  have lt_b215_t233 : b215 < t233 := Nat.lt_of_lt_of_le f230.lt new_t233
  have lt_b226_t233 : b226 < t233 := Nat.lt_of_lt_of_le A226.lt new_t233
  have sz_t233 : h0.size ≤ t233 := Nat.le_trans K227.1 new_t233
  refine go (S' := T233.setTop (mkF m 138 #[si p1, si p2, si p3, si p4, si p5, si 2, si r_209, si r_210, si r_211, si r_212, sr b215, .unset, .unset] [(.ref b226)])) st233 ?_
  have f238 : Exa Z T233.heap b226 "java/lang/String" := (A226.keep Kq233)
  have str237 : Str Z T233.heap b226 t233 (0 : Int32) ([r_209, r_210] : List Int32) := ⟨_, _, _, f238, q233_v, q233_c, q233_a, own_codOf rfl (fun c hc => (hp231 c hc).2), up16 _ hp231, Nat.le_of_ble_eq_true rfl⟩
  refine go (S' := T233.setTop (mkF m 142 #[si p1, si p2, si p3, si p4, si p5, si 2, si r_209, si r_210, si r_211, si r_212, sr b215, sr b226, .unset] [(.ref b226)])) (fun t k => XS.astore X233.here hx rfl (hb hby at_138) rfl rfl (l' := #[si p1, si p2, si p3, si p4, si p5, si 2, si r_209, si r_210, si r_211, si r_212, sr b215, sr b226, .unset]) rfl (XS.aload X233.here hx rfl (hb hby at_140) rfl rfl k)) ?_
  have O239 : Old Z n0 T233.heap := O0.keep K234 all0
  obtain ⟨v240, T240, L240, X240, hQ240, hS, hZ, hown, Cq240, st240⟩ := callStW X233 hx hZ (y := y_6) hown (ww hw 35 rfl) (ww hw 36 rfl) (ww hw 37 rfl) (ww hw 38 rfl) (by decide) (backW (W := 0) (rmCk2 l Z a0 hw [] b226 t233 r_209 r_210 G1 fm T233.heap n0 (Nat.le_trans Z0 K234.1) str237 q209_0 q210_0 hp0 hG1 hp2 hfm O239) hZ (ww hw 38 rfl) (ww hw 37 rfl) (by decide) (by decide) (own_EW hw) C235.1 all0) (g := (mkF m 142 #[si p1, si p2, si p3, si p4, si p5, si 2, si r_209, si r_210, si r_211, si r_212, sr b215, sr b226, .unset] [(.ref b226)])) rfl (by rw [hml]; rfl) (kc := 2) (ks := 40) (argsL := [(.ref b226)]) (rest := []) (lenOf pd_6 rfl) rfl (mr0 rfl) (hb hby at_142) rfl (by decide) (by decide) hS hkS
  obtain ⟨rfl, N240q, Kq240⟩ := hQ240
  have N240 := Fr.app N233 N240q
  have hkS := Nat.le_refl T240.heap.size
  have C241 := C235.trans Cq240
  have sf242 := CHr.safe Cq240 str237.lt1 sf236
  have K243 : Keep h0 T240.heap [] := K234.trans Kq240 all0
  refine go (S' := T240.setTop (mkF m 159 #[si p1, si p2, si p3, si p4, si p5, si 2, si r_209, si r_210, si r_211, si r_212, sr b215, sr b226, sr b226] [(.int 1)])) (fun t k => st240 _ (XS.astore X240.here hx rfl (hb hby at_145) rfl rfl (l' := #[si p1, si p2, si p3, si p4, si p5, si 2, si r_209, si r_210, si r_211, si r_212, sr b215, sr b226, sr b226]) rfl (XS.aload X240.here hx rfl (hb hby at_147) rfl rfl (XS.aload X240.here hx rfl (hb hby at_149) rfl rfl (Jvm.RoadKit.acmp (g := (mkF m 151 #[si p1, si p2, si p3, si p4, si p5, si 2, si r_209, si r_210, si r_211, si r_212, sr b215, sr b226, sr b226] [(.ref b226), (.ref b226)])) X240 hx rfl rfl rfl (pc0 := 151) (pc' := 154) (same := true) rfl (hb hby at_151) rfl (decide_eq_true rfl) (by decide) (by decide) (XS.iconst X240.here hx rfl (hb hby at_154) (XS.goto X240.here hx rfl (pc0 := 155) (pc' := 159) rfl (hb hby at_155) (by decide) (by decide) k))))))) ?_
  refine finNW X240 hx hk (t := .boolean) hret (by simp) hS hkS hZ (own_EW hw) C241 rfl (hb hby at_159) (by decide) (by decide) ?_
  exact ⟨rfl, N240, K243⟩
 ·
  rw [hf]
  refine go (S' := T0.setTop (mkF m 8 #[si p1, si p2, si p3, si p4, si p5, si 3, .unset, .unset, .unset, .unset, .unset, .unset, .unset] [(.int p2)])) (fun t k => XS.iloadN X0.here hx rfl (hb hby at_7) rfl k) ?_
  obtain ⟨v244, T244, L244, X244, hQ244, st244⟩ := callSt X0 hx hZ (y := y_0) hown (ww hw 0 rfl) (ww hw 1 rfl) (ww hw 2 rfl) (ww hw 3 rfl) (by decide) (backOf (W := 0) (rmAl l Z a0 hw [] p2 h0 n0 (Nat.le_trans Z0 K0.1) ) hZ (ww hw 3 rfl) (ww hw 2 rfl) (by decide) (by decide)) (g := (mkF m 8 #[si p1, si p2, si p3, si p4, si p5, si 3, .unset, .unset, .unset, .unset, .unset, .unset, .unset] [(.int p2)])) rfl (by rw [hml]; rfl) (kc := 0) (ks := 0) (argsL := [(.int p2)]) (rest := []) (lenOf pd_3 rfl) rfl (mr0 rfl) (hb hby at_8) e0 (by decide) (by decide)
  obtain ⟨r_244, rfl, N244q, e244, q244_0⟩ := hQ244
  have N244 := Fr.app N0 N244q
  refine go (S' := T244.setTop (mkF m 14 #[si p1, si p2, si p3, si p4, si p5, si 3, si r_244, .unset, .unset, .unset, .unset, .unset, .unset] [(.int p3)])) (fun t k => st244 _ (XS.istore X244.here hx rfl (hb hby at_11) rfl (l' := #[si p1, si p2, si p3, si p4, si p5, si 3, si r_244, .unset, .unset, .unset, .unset, .unset, .unset]) rfl (XS.iloadN X244.here hx rfl (hb hby at_13) rfl k))) ?_
  obtain ⟨v245, T245, L245, X245, hQ245, st245⟩ := callSt X244 hx hZ (y := y_0) hown (ww hw 0 rfl) (ww hw 1 rfl) (ww hw 2 rfl) (ww hw 3 rfl) (by decide) (backOf (W := 0) (rmAl l Z a0 hw [] p3 h0 n0 (Nat.le_trans Z0 K0.1) ) hZ (ww hw 3 rfl) (ww hw 2 rfl) (by decide) (by decide)) (g := (mkF m 14 #[si p1, si p2, si p3, si p4, si p5, si 3, si r_244, .unset, .unset, .unset, .unset, .unset, .unset] [(.int p3)])) rfl (by rw [hml]; rfl) (kc := 0) (ks := 0) (argsL := [(.int p3)]) (rest := []) (lenOf pd_3 rfl) rfl (mr0 rfl) (hb hby at_14) e244 (by decide) (by decide)
  obtain ⟨r_245, rfl, N245q, e245, q245_0⟩ := hQ245
  have N245 := Fr.app N244 N245q
  refine go (S' := T245.setTop (mkF m 20 #[si p1, si p2, si p3, si p4, si p5, si 3, si r_244, si r_245, .unset, .unset, .unset, .unset, .unset] [(.int p4)])) (fun t k => st245 _ (XS.istore X245.here hx rfl (hb hby at_17) rfl (l' := #[si p1, si p2, si p3, si p4, si p5, si 3, si r_244, si r_245, .unset, .unset, .unset, .unset, .unset]) rfl (XS.iloadN X245.here hx rfl (hb hby at_19) rfl k))) ?_
  obtain ⟨v246, T246, L246, X246, hQ246, st246⟩ := callSt X245 hx hZ (y := y_0) hown (ww hw 0 rfl) (ww hw 1 rfl) (ww hw 2 rfl) (ww hw 3 rfl) (by decide) (backOf (W := 0) (rmAl l Z a0 hw [] p4 h0 n0 (Nat.le_trans Z0 K0.1) ) hZ (ww hw 3 rfl) (ww hw 2 rfl) (by decide) (by decide)) (g := (mkF m 20 #[si p1, si p2, si p3, si p4, si p5, si 3, si r_244, si r_245, .unset, .unset, .unset, .unset, .unset] [(.int p4)])) rfl (by rw [hml]; rfl) (kc := 0) (ks := 0) (argsL := [(.int p4)]) (rest := []) (lenOf pd_3 rfl) rfl (mr0 rfl) (hb hby at_20) e245 (by decide) (by decide)
  obtain ⟨r_246, rfl, N246q, e246, q246_0⟩ := hQ246
  have N246 := Fr.app N245 N246q
  refine go (S' := T246.setTop (mkF m 27 #[si p1, si p2, si p3, si p4, si p5, si 3, si r_244, si r_245, si r_246, .unset, .unset, .unset, .unset] [(.int p5)])) (fun t k => st246 _ (XS.istore X246.here hx rfl (hb hby at_23) rfl (l' := #[si p1, si p2, si p3, si p4, si p5, si 3, si r_244, si r_245, si r_246, .unset, .unset, .unset, .unset]) rfl (XS.iload X246.here hx rfl (hb hby at_25) rfl k))) ?_
  obtain ⟨v247, T247, L247, X247, hQ247, st247⟩ := callSt X246 hx hZ (y := y_0) hown (ww hw 0 rfl) (ww hw 1 rfl) (ww hw 2 rfl) (ww hw 3 rfl) (by decide) (backOf (W := 0) (rmAl l Z a0 hw [] p5 h0 n0 (Nat.le_trans Z0 K0.1) ) hZ (ww hw 3 rfl) (ww hw 2 rfl) (by decide) (by decide)) (g := (mkF m 27 #[si p1, si p2, si p3, si p4, si p5, si 3, si r_244, si r_245, si r_246, .unset, .unset, .unset, .unset] [(.int p5)])) rfl (by rw [hml]; rfl) (kc := 0) (ks := 0) (argsL := [(.int p5)]) (rest := []) (lenOf pd_3 rfl) rfl (mr0 rfl) (hb hby at_27) e246 (by decide) (by decide)
  obtain ⟨r_247, rfl, N247q, e247, q247_0⟩ := hQ247
  have N247 := Fr.app N246 N247q
  refine go (S' := T247.setTop (mkF m 35 #[si p1, si p2, si p3, si p4, si p5, si 3, si r_244, si r_245, si r_246, si r_247, .unset, .unset, .unset] [(.int 1), (.int 3)])) (fun t k => st247 _ (XS.istore X247.here hx rfl (hb hby at_30) rfl (l' := #[si p1, si p2, si p3, si p4, si p5, si 3, si r_244, si r_245, si r_246, si r_247, .unset, .unset, .unset]) rfl (XS.iload X247.here hx rfl (hb hby at_32) rfl (XS.iconst X247.here hx rfl (hb hby at_34) k)))) ?_
  have hc248 : ¬ ((3 : Int32) = (1 : Int32)) := by decide
  refine go (S' := T247.setTop (mkF m 54 #[si p1, si p2, si p3, si p4, si p5, si 3, si r_244, si r_245, si r_246, si r_247, .unset, .unset, .unset] [(.int 2), (.int 3)])) (fun t k => XS.icmpYes X247.here hx rfl (pc0 := 35) (pc' := 51) rfl (hb hby at_35) rfl (feq hc248).2 (by decide) (by decide) (XS.iload X247.here hx rfl (hb hby at_51) rfl (XS.iconst X247.here hx rfl (hb hby at_53) k))) ?_
  have hc249 : ¬ ((3 : Int32) = (2 : Int32)) := by decide
  refine go (S' := T247.setTop (mkF m 78 #[si p1, si p2, si p3, si p4, si p5, si 3, si r_244, si r_245, si r_246, si r_247, .unset, .unset, .unset] [(.int 3), (.int 3)])) (fun t k => XS.icmpYes X247.here hx rfl (pc0 := 54) (pc' := 75) rfl (hb hby at_54) rfl (feq hc249).2 (by decide) (by decide) (XS.iload X247.here hx rfl (hb hby at_75) rfl (XS.iconst X247.here hx rfl (hb hby at_77) k))) ?_
  have hc250 : (3 : Int32) = (3 : Int32) := by decide
  refine go (S' := T247.setTop (mkF m 82 #[si p1, si p2, si p3, si p4, si p5, si 3, si r_244, si r_245, si r_246, si r_247, .unset, .unset, .unset] [(.int 3)])) (fun t k => XS.icmpNo X247.here hx rfl (hb hby at_78) rfl (teq hc250).2 (XS.iconst X247.here hx rfl (hb hby at_81) k)) ?_
  obtain ⟨T251, h251, k251, X251, e251, E251, A251, st251⟩ := newP X247 hx hZ (ww hw 5 rfl) e247 (g := (mkF m 82 #[si p1, si p2, si p3, si p4, si p5, si 3, si r_244, si r_245, si r_246, si r_247, .unset, .unset, .unset] [(.int 3)])) rfl (hb hby at_82) rfl (by decide) (cap := 3) (by decide) (by decide) (by decide) (by decide)
  obtain ⟨b251, g251⟩ : ∃ z, z = h0.size := ⟨_, rfl⟩
  rw [← g251] at A251 st251
  have ge_b251 : n0 ≤ b251 := by rw [g251]; exact (Nat.le_trans Z0 K0.1)
  have sz_b251 : h0.size ≤ b251 := by rw [g251]; exact K0.1
  have K252 : Keep h0 h251 [] := K0.ext E251
  have hkS := Nat.le_trans hkS E251.1
  have C253 := C0.trans (CHr.ext E251 C0.1)
  have V251 : Arv Z h251 b251 k251 .char (3 : Int32) [(.int 0), (.int 0), (.int 0)] (.int 0) := (Arv.new A251 (by decide)).pad (pad_rep [] (.int 0) 3)
  refine go (S' := T251.setTop (mkF m 88 #[si p1, si p2, si p3, si p4, si p5, si 3, si r_244, si r_245, si r_246, si r_247, .unset, .unset, .unset] [(.int r_244), (.int 0), (.ref b251), (.ref b251)])) (fun t k => st251 _ (XS.dup X251.here hx rfl (hb hby at_84) rfl rfl (XS.iconst X251.here hx rfl (hb hby at_85) (XS.iload X251.here hx rfl (hb hby at_86) rfl k)))) ?_
  obtain ⟨T254, h254, X254, e254, W254, V254, st254⟩ := putC X251 hx hZ e251 V251 (j := (0 : Int32)) (x := r_244) (own_lat16 (own_ok_lat q244_0)) ⟨by decide, by decide⟩ (i := 0) rfl (Nat.le_of_ble_eq_true rfl) (g := (mkF m 88 #[si p1, si p2, si p3, si p4, si p5, si 3, si r_244, si r_245, si r_246, si r_247, .unset, .unset, .unset] [(.int r_244), (.int 0), (.ref b251), (.ref b251)])) rfl rfl (hb hby at_88)
  have K255 : Keep h0 h254 [] := K252.wr W254 (Or.inr sz_b251)
  have N256 := Fr.snoc X254 N247 ge_b251
  have hkS := Nat.le_trans hkS (Keep.of_wr W254).1
  have C257 := C253.trans (CHr.wr W254 (safeArv hZ.alike V251 (by decide)) C253.1)
  refine go (S' := T254.setTop (mkF m 93 #[si p1, si p2, si p3, si p4, si p5, si 3, si r_244, si r_245, si r_246, si r_247, .unset, .unset, .unset] [(.int r_245), (.int 1), (.ref b251), (.ref b251)])) (fun t k => st254 _ (XS.dup X254.here hx rfl (hb hby at_89) rfl rfl (XS.iconst X254.here hx rfl (hb hby at_90) (XS.iload X254.here hx rfl (hb hby at_91) rfl k)))) ?_
  obtain ⟨T258, h258, X258, e258, W258, V258, st258⟩ := putC X254 hx hZ e254 V254 (j := (1 : Int32)) (x := r_245) (own_lat16 (own_ok_lat q245_0)) ⟨by decide, by decide⟩ (i := 1) rfl (Nat.le_of_ble_eq_true rfl) (g := (mkF m 93 #[si p1, si p2, si p3, si p4, si p5, si 3, si r_244, si r_245, si r_246, si r_247, .unset, .unset, .unset] [(.int r_245), (.int 1), (.ref b251), (.ref b251)])) rfl rfl (hb hby at_93)
  have K259 : Keep h0 h258 [] := K255.wr W258 (Or.inr sz_b251)
  have N260 := Fr.snoc X258 N256 ge_b251
  have hkS := Nat.le_trans hkS (Keep.of_wr W258).1
  have C261 := C257.trans (CHr.wr W258 (safeArv hZ.alike V254 (by decide)) C257.1)
  refine go (S' := T258.setTop (mkF m 98 #[si p1, si p2, si p3, si p4, si p5, si 3, si r_244, si r_245, si r_246, si r_247, .unset, .unset, .unset] [(.int r_246), (.int 2), (.ref b251), (.ref b251)])) (fun t k => st258 _ (XS.dup X258.here hx rfl (hb hby at_94) rfl rfl (XS.iconst X258.here hx rfl (hb hby at_95) (XS.iload X258.here hx rfl (hb hby at_96) rfl k)))) ?_
  obtain ⟨T262, h262, X262, e262, W262, V262, st262⟩ := putC X258 hx hZ e258 V258 (j := (2 : Int32)) (x := r_246) (own_lat16 (own_ok_lat q246_0)) ⟨by decide, by decide⟩ (i := 2) rfl (Nat.le_of_ble_eq_true rfl) (g := (mkF m 98 #[si p1, si p2, si p3, si p4, si p5, si 3, si r_244, si r_245, si r_246, si r_247, .unset, .unset, .unset] [(.int r_246), (.int 2), (.ref b251), (.ref b251)])) rfl rfl (hb hby at_98)
  have K263 : Keep h0 h262 [] := K259.wr W262 (Or.inr sz_b251)
  have N264 := Fr.snoc X262 N260 ge_b251
  have hkS := Nat.le_trans hkS (Keep.of_wr W262).1
  have C265 := C261.trans (CHr.wr W262 (safeArv hZ.alike V258 (by decide)) C261.1)
  refine go (S' := T262.setTop (mkF m 129 #[si p1, si p2, si p3, si p4, si p5, si 3, si r_244, si r_245, si r_246, si r_247, sr b251, .unset, .unset] [])) (fun t k => st262 _ (XS.astore X262.here hx rfl (hb hby at_99) rfl rfl (l' := #[si p1, si p2, si p3, si p4, si p5, si 3, si r_244, si r_245, si r_246, si r_247, sr b251, .unset, .unset]) rfl (XS.goto X262.here hx rfl (pc0 := 101) (pc' := 129) rfl (hb hby at_101) (by decide) (by decide) k))) ?_
  obtain ⟨T266, h266, X266, e266, E266, A266, D266, -, st266⟩ := newO X262 hx hZ hown (ww hw 6 rfl) (ww hw 7 rfl) (ww hw 8 rfl) e262 (g := (mkF m 129 #[si p1, si p2, si p3, si p4, si p5, si 3, si r_244, si r_245, si r_246, si r_247, sr b251, .unset, .unset] [])) rfl (hb hby at_129) (by decide) (by decide)
  obtain ⟨b266, g266⟩ : ∃ z, z = h262.size := ⟨_, rfl⟩
  rw [← g266] at A266 D266 st266
  have lt_b251_b266 : b251 < b266 := by rw [g266]; exact V262.lt
  have ge_b266 : n0 ≤ b266 := by rw [g266]; exact (Nat.le_trans Z0 K263.1)
  have sz_b266 : h0.size ≤ b266 := by rw [g266]; exact K263.1
  have K267 : Keep h0 h266 [] := K263.ext E266
  have hkS := Nat.le_trans hkS E266.1
  have C268 := C265.trans (CHr.ext E266 C265.1)
  have sf269 := Safe.ext E266 C265.1 (Safe.new (Nat.le_of_eq g266.symm))
  refine go (S' := T266.setTop (mkF m 135 #[si p1, si p2, si p3, si p4, si p5, si 3, si r_244, si r_245, si r_246, si r_247, sr b251, .unset, .unset] [(.ref b251), (.ref b266), (.ref b266)])) (fun t k => st266 _ (XS.dup X266.here hx rfl (hb hby at_132) rfl rfl (XS.aload X266.here hx rfl (hb hby at_133) rfl rfl k))) ?_
  have f270 : Arv Z h266 b251 k251 .char (3 : Int32) [(.int r_244), (.int r_245), (.int r_246)] (.int 0) := (V262.ext E266)
  have hp271 : ∀ c ∈ ([r_244, r_245, r_246] : List Int32), ¬ c < 0 ∧ ¬ (255 : Int32) < c := (allI (own_ok_lat q244_0) (allI (own_ok_lat q245_0) (allI (own_ok_lat q246_0) (fun _ q => nomatch q))))
  have O272 : Old Z n0 h266 := O0.keep K267 all0
  obtain ⟨v273, T273, L273, X273, hQ273, st273⟩ := callSp X266 hx hZ (y := y_7) rfl hown (ww hw 9 rfl) (ww hw 10 rfl) (ww hw 11 rfl) (by decide) (StrChars.Road.backV (W := 1) hZ (own_sub StrChars_words hw) (kI := 4) (ww hw 7 rfl) (cs := ([r_244, r_245, r_246] : List Int32)) (bs := ([r_244, r_245, r_246] : List Int32).map (fun c => c.toInt8.toInt32)) (n := 3) ge_b266 (Nat.le_trans Z0 K267.1) A266 (D266 (Or.inr (ww hw 34 rfl)) (ty := (.array .byte)) (by decide)) (D266 (Or.inr (ww hw 32 rfl)) (ty := .byte) (by decide)) f270 (hp0.ext O272.2) hG1 rfl rfl (by decide) (by decide) hp271 rfl (by decide) (by decide)) (g := (mkF m 135 #[si p1, si p2, si p3, si p4, si p5, si 3, si r_244, si r_245, si r_246, si r_247, sr b251, .unset, .unset] [(.ref b251), (.ref b266), (.ref b266)])) rfl (by rw [hml]; rfl) (a := b266) (kc := 1) (ks := 3) (argsL := [(.ref b251)]) (rest := [(.ref b266)]) (lenOf pd_5 rfl) rfl (mr0 rfl) (hb hby at_135) e266 (by decide) (by decide)
  obtain ⟨rfl, N273q, Kq273, q273_e, q273_c, t273, kb273, ge_t273, new_t273, ne_t273_b266, q273_v, q273_a⟩ := hQ273
  have N273 := Fr.app N264 N273q
  have K274 : Keep h0 T273.heap [] := K267.trans Kq273 (allS (P := fun x => x ∈ [] ∨ h0.size ≤ x) (Or.inr sz_b266) all0)
  have hkS := Nat.le_trans hkS Kq273.1
  have C275 := C268.trans (CHr.keep Kq273 (allS sf269 all0) C268.1)
  have sf276 := Safe.keep Kq273 (allS sf269 all0) C268.1 sf269
  have lt_b251_t273 : b251 < t273 := Nat.lt_of_lt_of_le f270.lt new_t273
  have lt_b266_t273 : b266 < t273 := Nat.lt_of_lt_of_le A266.lt new_t273
  have sz_t273 : h0.size ≤ t273 := Nat.le_trans K267.1 new_t273
  refine go (S' := T273.setTop (mkF m 138 #[si p1, si p2, si p3, si p4, si p5, si 3, si r_244, si r_245, si r_246, si r_247, sr b251, .unset, .unset] [(.ref b266)])) st273 ?_
  have f278 : Exa Z T273.heap b266 "java/lang/String" := (A266.keep Kq273)
  have str277 : Str Z T273.heap b266 t273 (0 : Int32) ([r_244, r_245, r_246] : List Int32) := ⟨_, _, _, f278, q273_v, q273_c, q273_a, own_codOf rfl (fun c hc => (hp271 c hc).2), up16 _ hp271, Nat.le_of_ble_eq_true rfl⟩
  refine go (S' := T273.setTop (mkF m 142 #[si p1, si p2, si p3, si p4, si p5, si 3, si r_244, si r_245, si r_246, si r_247, sr b251, sr b266, .unset] [(.ref b266)])) (fun t k => XS.astore X273.here hx rfl (hb hby at_138) rfl rfl (l' := #[si p1, si p2, si p3, si p4, si p5, si 3, si r_244, si r_245, si r_246, si r_247, sr b251, sr b266, .unset]) rfl (XS.aload X273.here hx rfl (hb hby at_140) rfl rfl k)) ?_
  have O279 : Old Z n0 T273.heap := O0.keep K274 all0
  obtain ⟨v280, T280, L280, X280, hQ280, hS, hZ, hown, Cq280, st280⟩ := callStW X273 hx hZ (y := y_6) hown (ww hw 35 rfl) (ww hw 36 rfl) (ww hw 37 rfl) (ww hw 38 rfl) (by decide) (backW (W := 0) (rmCk3 l Z a0 hw [] b266 t273 r_244 r_245 r_246 G1 fm T273.heap n0 (Nat.le_trans Z0 K274.1) str277 q244_0 q245_0 q246_0 hp0 hG1 hp2 hfm O279) hZ (ww hw 38 rfl) (ww hw 37 rfl) (by decide) (by decide) (own_EW hw) C275.1 all0) (g := (mkF m 142 #[si p1, si p2, si p3, si p4, si p5, si 3, si r_244, si r_245, si r_246, si r_247, sr b251, sr b266, .unset] [(.ref b266)])) rfl (by rw [hml]; rfl) (kc := 2) (ks := 40) (argsL := [(.ref b266)]) (rest := []) (lenOf pd_6 rfl) rfl (mr0 rfl) (hb hby at_142) rfl (by decide) (by decide) hS hkS
  obtain ⟨rfl, N280q, Kq280⟩ := hQ280
  have N280 := Fr.app N273 N280q
  have hkS := Nat.le_refl T280.heap.size
  have C281 := C275.trans Cq280
  have sf282 := CHr.safe Cq280 str277.lt1 sf276
  have K283 : Keep h0 T280.heap [] := K274.trans Kq280 all0
  refine go (S' := T280.setTop (mkF m 159 #[si p1, si p2, si p3, si p4, si p5, si 3, si r_244, si r_245, si r_246, si r_247, sr b251, sr b266, sr b266] [(.int 1)])) (fun t k => st280 _ (XS.astore X280.here hx rfl (hb hby at_145) rfl rfl (l' := #[si p1, si p2, si p3, si p4, si p5, si 3, si r_244, si r_245, si r_246, si r_247, sr b251, sr b266, sr b266]) rfl (XS.aload X280.here hx rfl (hb hby at_147) rfl rfl (XS.aload X280.here hx rfl (hb hby at_149) rfl rfl (Jvm.RoadKit.acmp (g := (mkF m 151 #[si p1, si p2, si p3, si p4, si p5, si 3, si r_244, si r_245, si r_246, si r_247, sr b251, sr b266, sr b266] [(.ref b266), (.ref b266)])) X280 hx rfl rfl rfl (pc0 := 151) (pc' := 154) (same := true) rfl (hb hby at_151) rfl (decide_eq_true rfl) (by decide) (by decide) (XS.iconst X280.here hx rfl (hb hby at_154) (XS.goto X280.here hx rfl (pc0 := 155) (pc' := 159) rfl (hb hby at_155) (by decide) (by decide) k))))))) ?_
  refine finNW X280 hx hk (t := .boolean) hret (by simp) hS hkS hZ (own_EW hw) C281 rfl (hb hby at_159) (by decide) (by decide) ?_
  exact ⟨rfl, N280, K283⟩
 ·
  rw [hf]
  refine go (S' := T0.setTop (mkF m 8 #[si p1, si p2, si p3, si p4, si p5, si 4, .unset, .unset, .unset, .unset, .unset, .unset, .unset] [(.int p2)])) (fun t k => XS.iloadN X0.here hx rfl (hb hby at_7) rfl k) ?_
  obtain ⟨v284, T284, L284, X284, hQ284, st284⟩ := callSt X0 hx hZ (y := y_0) hown (ww hw 0 rfl) (ww hw 1 rfl) (ww hw 2 rfl) (ww hw 3 rfl) (by decide) (backOf (W := 0) (rmAl l Z a0 hw [] p2 h0 n0 (Nat.le_trans Z0 K0.1) ) hZ (ww hw 3 rfl) (ww hw 2 rfl) (by decide) (by decide)) (g := (mkF m 8 #[si p1, si p2, si p3, si p4, si p5, si 4, .unset, .unset, .unset, .unset, .unset, .unset, .unset] [(.int p2)])) rfl (by rw [hml]; rfl) (kc := 0) (ks := 0) (argsL := [(.int p2)]) (rest := []) (lenOf pd_3 rfl) rfl (mr0 rfl) (hb hby at_8) e0 (by decide) (by decide)
  obtain ⟨r_284, rfl, N284q, e284, q284_0⟩ := hQ284
  have N284 := Fr.app N0 N284q
  refine go (S' := T284.setTop (mkF m 14 #[si p1, si p2, si p3, si p4, si p5, si 4, si r_284, .unset, .unset, .unset, .unset, .unset, .unset] [(.int p3)])) (fun t k => st284 _ (XS.istore X284.here hx rfl (hb hby at_11) rfl (l' := #[si p1, si p2, si p3, si p4, si p5, si 4, si r_284, .unset, .unset, .unset, .unset, .unset, .unset]) rfl (XS.iloadN X284.here hx rfl (hb hby at_13) rfl k))) ?_
  obtain ⟨v285, T285, L285, X285, hQ285, st285⟩ := callSt X284 hx hZ (y := y_0) hown (ww hw 0 rfl) (ww hw 1 rfl) (ww hw 2 rfl) (ww hw 3 rfl) (by decide) (backOf (W := 0) (rmAl l Z a0 hw [] p3 h0 n0 (Nat.le_trans Z0 K0.1) ) hZ (ww hw 3 rfl) (ww hw 2 rfl) (by decide) (by decide)) (g := (mkF m 14 #[si p1, si p2, si p3, si p4, si p5, si 4, si r_284, .unset, .unset, .unset, .unset, .unset, .unset] [(.int p3)])) rfl (by rw [hml]; rfl) (kc := 0) (ks := 0) (argsL := [(.int p3)]) (rest := []) (lenOf pd_3 rfl) rfl (mr0 rfl) (hb hby at_14) e284 (by decide) (by decide)
  obtain ⟨r_285, rfl, N285q, e285, q285_0⟩ := hQ285
  have N285 := Fr.app N284 N285q
  refine go (S' := T285.setTop (mkF m 20 #[si p1, si p2, si p3, si p4, si p5, si 4, si r_284, si r_285, .unset, .unset, .unset, .unset, .unset] [(.int p4)])) (fun t k => st285 _ (XS.istore X285.here hx rfl (hb hby at_17) rfl (l' := #[si p1, si p2, si p3, si p4, si p5, si 4, si r_284, si r_285, .unset, .unset, .unset, .unset, .unset]) rfl (XS.iloadN X285.here hx rfl (hb hby at_19) rfl k))) ?_
  obtain ⟨v286, T286, L286, X286, hQ286, st286⟩ := callSt X285 hx hZ (y := y_0) hown (ww hw 0 rfl) (ww hw 1 rfl) (ww hw 2 rfl) (ww hw 3 rfl) (by decide) (backOf (W := 0) (rmAl l Z a0 hw [] p4 h0 n0 (Nat.le_trans Z0 K0.1) ) hZ (ww hw 3 rfl) (ww hw 2 rfl) (by decide) (by decide)) (g := (mkF m 20 #[si p1, si p2, si p3, si p4, si p5, si 4, si r_284, si r_285, .unset, .unset, .unset, .unset, .unset] [(.int p4)])) rfl (by rw [hml]; rfl) (kc := 0) (ks := 0) (argsL := [(.int p4)]) (rest := []) (lenOf pd_3 rfl) rfl (mr0 rfl) (hb hby at_20) e285 (by decide) (by decide)
  obtain ⟨r_286, rfl, N286q, e286, q286_0⟩ := hQ286
  have N286 := Fr.app N285 N286q
  refine go (S' := T286.setTop (mkF m 27 #[si p1, si p2, si p3, si p4, si p5, si 4, si r_284, si r_285, si r_286, .unset, .unset, .unset, .unset] [(.int p5)])) (fun t k => st286 _ (XS.istore X286.here hx rfl (hb hby at_23) rfl (l' := #[si p1, si p2, si p3, si p4, si p5, si 4, si r_284, si r_285, si r_286, .unset, .unset, .unset, .unset]) rfl (XS.iload X286.here hx rfl (hb hby at_25) rfl k))) ?_
  obtain ⟨v287, T287, L287, X287, hQ287, st287⟩ := callSt X286 hx hZ (y := y_0) hown (ww hw 0 rfl) (ww hw 1 rfl) (ww hw 2 rfl) (ww hw 3 rfl) (by decide) (backOf (W := 0) (rmAl l Z a0 hw [] p5 h0 n0 (Nat.le_trans Z0 K0.1) ) hZ (ww hw 3 rfl) (ww hw 2 rfl) (by decide) (by decide)) (g := (mkF m 27 #[si p1, si p2, si p3, si p4, si p5, si 4, si r_284, si r_285, si r_286, .unset, .unset, .unset, .unset] [(.int p5)])) rfl (by rw [hml]; rfl) (kc := 0) (ks := 0) (argsL := [(.int p5)]) (rest := []) (lenOf pd_3 rfl) rfl (mr0 rfl) (hb hby at_27) e286 (by decide) (by decide)
  obtain ⟨r_287, rfl, N287q, e287, q287_0⟩ := hQ287
  have N287 := Fr.app N286 N287q
  refine go (S' := T287.setTop (mkF m 35 #[si p1, si p2, si p3, si p4, si p5, si 4, si r_284, si r_285, si r_286, si r_287, .unset, .unset, .unset] [(.int 1), (.int 4)])) (fun t k => st287 _ (XS.istore X287.here hx rfl (hb hby at_30) rfl (l' := #[si p1, si p2, si p3, si p4, si p5, si 4, si r_284, si r_285, si r_286, si r_287, .unset, .unset, .unset]) rfl (XS.iload X287.here hx rfl (hb hby at_32) rfl (XS.iconst X287.here hx rfl (hb hby at_34) k)))) ?_
  have hc288 : ¬ ((4 : Int32) = (1 : Int32)) := by decide
  refine go (S' := T287.setTop (mkF m 54 #[si p1, si p2, si p3, si p4, si p5, si 4, si r_284, si r_285, si r_286, si r_287, .unset, .unset, .unset] [(.int 2), (.int 4)])) (fun t k => XS.icmpYes X287.here hx rfl (pc0 := 35) (pc' := 51) rfl (hb hby at_35) rfl (feq hc288).2 (by decide) (by decide) (XS.iload X287.here hx rfl (hb hby at_51) rfl (XS.iconst X287.here hx rfl (hb hby at_53) k))) ?_
  have hc289 : ¬ ((4 : Int32) = (2 : Int32)) := by decide
  refine go (S' := T287.setTop (mkF m 78 #[si p1, si p2, si p3, si p4, si p5, si 4, si r_284, si r_285, si r_286, si r_287, .unset, .unset, .unset] [(.int 3), (.int 4)])) (fun t k => XS.icmpYes X287.here hx rfl (pc0 := 54) (pc' := 75) rfl (hb hby at_54) rfl (feq hc289).2 (by decide) (by decide) (XS.iload X287.here hx rfl (hb hby at_75) rfl (XS.iconst X287.here hx rfl (hb hby at_77) k))) ?_
  have hc290 : ¬ ((4 : Int32) = (3 : Int32)) := by decide
  refine go (S' := T287.setTop (mkF m 105 #[si p1, si p2, si p3, si p4, si p5, si 4, si r_284, si r_285, si r_286, si r_287, .unset, .unset, .unset] [(.int 4)])) (fun t k => XS.icmpYes X287.here hx rfl (pc0 := 78) (pc' := 104) rfl (hb hby at_78) rfl (feq hc290).2 (by decide) (by decide) (XS.iconst X287.here hx rfl (hb hby at_104) k)) ?_
  obtain ⟨T291, h291, k291, X291, e291, E291, A291, st291⟩ := newP X287 hx hZ (ww hw 5 rfl) e287 (g := (mkF m 105 #[si p1, si p2, si p3, si p4, si p5, si 4, si r_284, si r_285, si r_286, si r_287, .unset, .unset, .unset] [(.int 4)])) rfl (hb hby at_105) rfl (by decide) (cap := 4) (by decide) (by decide) (by decide) (by decide)
  obtain ⟨b291, g291⟩ : ∃ z, z = h0.size := ⟨_, rfl⟩
  rw [← g291] at A291 st291
  have ge_b291 : n0 ≤ b291 := by rw [g291]; exact (Nat.le_trans Z0 K0.1)
  have sz_b291 : h0.size ≤ b291 := by rw [g291]; exact K0.1
  have K292 : Keep h0 h291 [] := K0.ext E291
  have hkS := Nat.le_trans hkS E291.1
  have C293 := C0.trans (CHr.ext E291 C0.1)
  have V291 : Arv Z h291 b291 k291 .char (4 : Int32) [(.int 0), (.int 0), (.int 0), (.int 0)] (.int 0) := (Arv.new A291 (by decide)).pad (pad_rep [] (.int 0) 4)
  refine go (S' := T291.setTop (mkF m 111 #[si p1, si p2, si p3, si p4, si p5, si 4, si r_284, si r_285, si r_286, si r_287, .unset, .unset, .unset] [(.int r_284), (.int 0), (.ref b291), (.ref b291)])) (fun t k => st291 _ (XS.dup X291.here hx rfl (hb hby at_107) rfl rfl (XS.iconst X291.here hx rfl (hb hby at_108) (XS.iload X291.here hx rfl (hb hby at_109) rfl k)))) ?_
  obtain ⟨T294, h294, X294, e294, W294, V294, st294⟩ := putC X291 hx hZ e291 V291 (j := (0 : Int32)) (x := r_284) (own_lat16 (own_ok_lat q284_0)) ⟨by decide, by decide⟩ (i := 0) rfl (Nat.le_of_ble_eq_true rfl) (g := (mkF m 111 #[si p1, si p2, si p3, si p4, si p5, si 4, si r_284, si r_285, si r_286, si r_287, .unset, .unset, .unset] [(.int r_284), (.int 0), (.ref b291), (.ref b291)])) rfl rfl (hb hby at_111)
  have K295 : Keep h0 h294 [] := K292.wr W294 (Or.inr sz_b291)
  have N296 := Fr.snoc X294 N287 ge_b291
  have hkS := Nat.le_trans hkS (Keep.of_wr W294).1
  have C297 := C293.trans (CHr.wr W294 (safeArv hZ.alike V291 (by decide)) C293.1)
  refine go (S' := T294.setTop (mkF m 116 #[si p1, si p2, si p3, si p4, si p5, si 4, si r_284, si r_285, si r_286, si r_287, .unset, .unset, .unset] [(.int r_285), (.int 1), (.ref b291), (.ref b291)])) (fun t k => st294 _ (XS.dup X294.here hx rfl (hb hby at_112) rfl rfl (XS.iconst X294.here hx rfl (hb hby at_113) (XS.iload X294.here hx rfl (hb hby at_114) rfl k)))) ?_
  obtain ⟨T298, h298, X298, e298, W298, V298, st298⟩ := putC X294 hx hZ e294 V294 (j := (1 : Int32)) (x := r_285) (own_lat16 (own_ok_lat q285_0)) ⟨by decide, by decide⟩ (i := 1) rfl (Nat.le_of_ble_eq_true rfl) (g := (mkF m 116 #[si p1, si p2, si p3, si p4, si p5, si 4, si r_284, si r_285, si r_286, si r_287, .unset, .unset, .unset] [(.int r_285), (.int 1), (.ref b291), (.ref b291)])) rfl rfl (hb hby at_116)
  have K299 : Keep h0 h298 [] := K295.wr W298 (Or.inr sz_b291)
  have N300 := Fr.snoc X298 N296 ge_b291
  have hkS := Nat.le_trans hkS (Keep.of_wr W298).1
  have C301 := C297.trans (CHr.wr W298 (safeArv hZ.alike V294 (by decide)) C297.1)
  refine go (S' := T298.setTop (mkF m 121 #[si p1, si p2, si p3, si p4, si p5, si 4, si r_284, si r_285, si r_286, si r_287, .unset, .unset, .unset] [(.int r_286), (.int 2), (.ref b291), (.ref b291)])) (fun t k => st298 _ (XS.dup X298.here hx rfl (hb hby at_117) rfl rfl (XS.iconst X298.here hx rfl (hb hby at_118) (XS.iload X298.here hx rfl (hb hby at_119) rfl k)))) ?_
  obtain ⟨T302, h302, X302, e302, W302, V302, st302⟩ := putC X298 hx hZ e298 V298 (j := (2 : Int32)) (x := r_286) (own_lat16 (own_ok_lat q286_0)) ⟨by decide, by decide⟩ (i := 2) rfl (Nat.le_of_ble_eq_true rfl) (g := (mkF m 121 #[si p1, si p2, si p3, si p4, si p5, si 4, si r_284, si r_285, si r_286, si r_287, .unset, .unset, .unset] [(.int r_286), (.int 2), (.ref b291), (.ref b291)])) rfl rfl (hb hby at_121)
  have K303 : Keep h0 h302 [] := K299.wr W302 (Or.inr sz_b291)
  have N304 := Fr.snoc X302 N300 ge_b291
  have hkS := Nat.le_trans hkS (Keep.of_wr W302).1
  have C305 := C301.trans (CHr.wr W302 (safeArv hZ.alike V298 (by decide)) C301.1)
  refine go (S' := T302.setTop (mkF m 126 #[si p1, si p2, si p3, si p4, si p5, si 4, si r_284, si r_285, si r_286, si r_287, .unset, .unset, .unset] [(.int r_287), (.int 3), (.ref b291), (.ref b291)])) (fun t k => st302 _ (XS.dup X302.here hx rfl (hb hby at_122) rfl rfl (XS.iconst X302.here hx rfl (hb hby at_123) (XS.iload X302.here hx rfl (hb hby at_124) rfl k)))) ?_
  obtain ⟨T306, h306, X306, e306, W306, V306, st306⟩ := putC X302 hx hZ e302 V302 (j := (3 : Int32)) (x := r_287) (own_lat16 (own_ok_lat q287_0)) ⟨by decide, by decide⟩ (i := 3) rfl (Nat.le_of_ble_eq_true rfl) (g := (mkF m 126 #[si p1, si p2, si p3, si p4, si p5, si 4, si r_284, si r_285, si r_286, si r_287, .unset, .unset, .unset] [(.int r_287), (.int 3), (.ref b291), (.ref b291)])) rfl rfl (hb hby at_126)
  have K307 : Keep h0 h306 [] := K303.wr W306 (Or.inr sz_b291)
  have N308 := Fr.snoc X306 N304 ge_b291
  have hkS := Nat.le_trans hkS (Keep.of_wr W306).1
  have C309 := C305.trans (CHr.wr W306 (safeArv hZ.alike V302 (by decide)) C305.1)
  refine go (S' := T306.setTop (mkF m 129 #[si p1, si p2, si p3, si p4, si p5, si 4, si r_284, si r_285, si r_286, si r_287, sr b291, .unset, .unset] [])) (fun t k => st306 _ (XS.astore X306.here hx rfl (hb hby at_127) rfl rfl (l' := #[si p1, si p2, si p3, si p4, si p5, si 4, si r_284, si r_285, si r_286, si r_287, sr b291, .unset, .unset]) rfl k)) ?_
  obtain ⟨T310, h310, X310, e310, E310, A310, D310, -, st310⟩ := newO X306 hx hZ hown (ww hw 6 rfl) (ww hw 7 rfl) (ww hw 8 rfl) e306 (g := (mkF m 129 #[si p1, si p2, si p3, si p4, si p5, si 4, si r_284, si r_285, si r_286, si r_287, sr b291, .unset, .unset] [])) rfl (hb hby at_129) (by decide) (by decide)
  obtain ⟨b310, g310⟩ : ∃ z, z = h306.size := ⟨_, rfl⟩
  rw [← g310] at A310 D310 st310
  have lt_b291_b310 : b291 < b310 := by rw [g310]; exact V306.lt
  have ge_b310 : n0 ≤ b310 := by rw [g310]; exact (Nat.le_trans Z0 K307.1)
  have sz_b310 : h0.size ≤ b310 := by rw [g310]; exact K307.1
  have K311 : Keep h0 h310 [] := K307.ext E310
  have hkS := Nat.le_trans hkS E310.1
  have C312 := C309.trans (CHr.ext E310 C309.1)
  have sf313 := Safe.ext E310 C309.1 (Safe.new (Nat.le_of_eq g310.symm))
  refine go (S' := T310.setTop (mkF m 135 #[si p1, si p2, si p3, si p4, si p5, si 4, si r_284, si r_285, si r_286, si r_287, sr b291, .unset, .unset] [(.ref b291), (.ref b310), (.ref b310)])) (fun t k => st310 _ (XS.dup X310.here hx rfl (hb hby at_132) rfl rfl (XS.aload X310.here hx rfl (hb hby at_133) rfl rfl k))) ?_
  have f314 : Arv Z h310 b291 k291 .char (4 : Int32) [(.int r_284), (.int r_285), (.int r_286), (.int r_287)] (.int 0) := (V306.ext E310)
  have hp315 : ∀ c ∈ ([r_284, r_285, r_286, r_287] : List Int32), ¬ c < 0 ∧ ¬ (255 : Int32) < c := (allI (own_ok_lat q284_0) (allI (own_ok_lat q285_0) (allI (own_ok_lat q286_0) (allI (own_ok_lat q287_0) (fun _ q => nomatch q)))))
  have O316 : Old Z n0 h310 := O0.keep K311 all0
  obtain ⟨v317, T317, L317, X317, hQ317, st317⟩ := callSp X310 hx hZ (y := y_7) rfl hown (ww hw 9 rfl) (ww hw 10 rfl) (ww hw 11 rfl) (by decide) (StrChars.Road.backV (W := 1) hZ (own_sub StrChars_words hw) (kI := 4) (ww hw 7 rfl) (cs := ([r_284, r_285, r_286, r_287] : List Int32)) (bs := ([r_284, r_285, r_286, r_287] : List Int32).map (fun c => c.toInt8.toInt32)) (n := 4) ge_b310 (Nat.le_trans Z0 K311.1) A310 (D310 (Or.inr (ww hw 34 rfl)) (ty := (.array .byte)) (by decide)) (D310 (Or.inr (ww hw 32 rfl)) (ty := .byte) (by decide)) f314 (hp0.ext O316.2) hG1 rfl rfl (by decide) (by decide) hp315 rfl (by decide) (by decide)) (g := (mkF m 135 #[si p1, si p2, si p3, si p4, si p5, si 4, si r_284, si r_285, si r_286, si r_287, sr b291, .unset, .unset] [(.ref b291), (.ref b310), (.ref b310)])) rfl (by rw [hml]; rfl) (a := b310) (kc := 1) (ks := 4) (argsL := [(.ref b291)]) (rest := [(.ref b310)]) (lenOf pd_5 rfl) rfl (mr0 rfl) (hb hby at_135) e310 (by decide) (by decide)
  obtain ⟨rfl, N317q, Kq317, q317_e, q317_c, t317, kb317, ge_t317, new_t317, ne_t317_b310, q317_v, q317_a⟩ := hQ317
  have N317 := Fr.app N308 N317q
  have K318 : Keep h0 T317.heap [] := K311.trans Kq317 (allS (P := fun x => x ∈ [] ∨ h0.size ≤ x) (Or.inr sz_b310) all0)
  have hkS := Nat.le_trans hkS Kq317.1
  have C319 := C312.trans (CHr.keep Kq317 (allS sf313 all0) C312.1)
  have sf320 := Safe.keep Kq317 (allS sf313 all0) C312.1 sf313
  have lt_b291_t317 : b291 < t317 := Nat.lt_of_lt_of_le f314.lt new_t317
  have lt_b310_t317 : b310 < t317 := Nat.lt_of_lt_of_le A310.lt new_t317
  have sz_t317 : h0.size ≤ t317 := Nat.le_trans K311.1 new_t317
  refine go (S' := T317.setTop (mkF m 138 #[si p1, si p2, si p3, si p4, si p5, si 4, si r_284, si r_285, si r_286, si r_287, sr b291, .unset, .unset] [(.ref b310)])) st317 ?_
  have f322 : Exa Z T317.heap b310 "java/lang/String" := (A310.keep Kq317)
  have str321 : Str Z T317.heap b310 t317 (0 : Int32) ([r_284, r_285, r_286, r_287] : List Int32) := ⟨_, _, _, f322, q317_v, q317_c, q317_a, own_codOf rfl (fun c hc => (hp315 c hc).2), up16 _ hp315, Nat.le_of_ble_eq_true rfl⟩
  refine go (S' := T317.setTop (mkF m 142 #[si p1, si p2, si p3, si p4, si p5, si 4, si r_284, si r_285, si r_286, si r_287, sr b291, sr b310, .unset] [(.ref b310)])) (fun t k => XS.astore X317.here hx rfl (hb hby at_138) rfl rfl (l' := #[si p1, si p2, si p3, si p4, si p5, si 4, si r_284, si r_285, si r_286, si r_287, sr b291, sr b310, .unset]) rfl (XS.aload X317.here hx rfl (hb hby at_140) rfl rfl k)) ?_
  have O323 : Old Z n0 T317.heap := O0.keep K318 all0
  obtain ⟨v324, T324, L324, X324, hQ324, hS, hZ, hown, Cq324, st324⟩ := callStW X317 hx hZ (y := y_6) hown (ww hw 35 rfl) (ww hw 36 rfl) (ww hw 37 rfl) (ww hw 38 rfl) (by decide) (backW (W := 0) (rmCk4 l Z a0 hw [] b310 t317 r_284 r_285 r_286 r_287 G1 fm T317.heap n0 (Nat.le_trans Z0 K318.1) str321 q284_0 q285_0 q286_0 q287_0 hp0 hG1 hp2 hfm O323) hZ (ww hw 38 rfl) (ww hw 37 rfl) (by decide) (by decide) (own_EW hw) C319.1 all0) (g := (mkF m 142 #[si p1, si p2, si p3, si p4, si p5, si 4, si r_284, si r_285, si r_286, si r_287, sr b291, sr b310, .unset] [(.ref b310)])) rfl (by rw [hml]; rfl) (kc := 2) (ks := 40) (argsL := [(.ref b310)]) (rest := []) (lenOf pd_6 rfl) rfl (mr0 rfl) (hb hby at_142) rfl (by decide) (by decide) hS hkS
  obtain ⟨rfl, N324q, Kq324⟩ := hQ324
  have N324 := Fr.app N317 N324q
  have hkS := Nat.le_refl T324.heap.size
  have C325 := C319.trans Cq324
  have sf326 := CHr.safe Cq324 str321.lt1 sf320
  have K327 : Keep h0 T324.heap [] := K318.trans Kq324 all0
  refine go (S' := T324.setTop (mkF m 159 #[si p1, si p2, si p3, si p4, si p5, si 4, si r_284, si r_285, si r_286, si r_287, sr b291, sr b310, sr b310] [(.int 1)])) (fun t k => st324 _ (XS.astore X324.here hx rfl (hb hby at_145) rfl rfl (l' := #[si p1, si p2, si p3, si p4, si p5, si 4, si r_284, si r_285, si r_286, si r_287, sr b291, sr b310, sr b310]) rfl (XS.aload X324.here hx rfl (hb hby at_147) rfl rfl (XS.aload X324.here hx rfl (hb hby at_149) rfl rfl (Jvm.RoadKit.acmp (g := (mkF m 151 #[si p1, si p2, si p3, si p4, si p5, si 4, si r_284, si r_285, si r_286, si r_287, sr b291, sr b310, sr b310] [(.ref b310), (.ref b310)])) X324 hx rfl rfl rfl (pc0 := 151) (pc' := 154) (same := true) rfl (hb hby at_151) rfl (decide_eq_true rfl) (by decide) (by decide) (XS.iconst X324.here hx rfl (hb hby at_154) (XS.goto X324.here hx rfl (pc0 := 155) (pc' := 159) rfl (hb hby at_155) (by decide) (by decide) k))))))) ?_
  refine finNW X324 hx hk (t := .boolean) hret (by simp) hS hkS hZ (own_EW hw) C325 rfl (hb hby at_159) (by decide) (by decide) ?_
  exact ⟨rfl, N324, K327⟩
set_option maxRecDepth 65536 in
set_option maxHeartbeats 40000000 in
theorem comes_1 {Post : Tables → Env → Array Value → State → Outcome → State → Prop} (hpost : ∀ tb e args s v u, (limb_1_1.after args s (.returned v) u = true ∧ limb_1_2.after args s (.returned v) u = true ∧ True) → ReturnedEndW s (.returned v) u (Jvm.fieldLocs frame_1_writes args s ++ Jvm.arrayLocs frame_1_arrays args s ++ Jvm.staticLocs frame_1_statics s) 16 1152 → Post tb e args s (.returned v) u) :
    ArmFor flags0 classFile x code maxLocals ret World_1 tables_1 room_1 Calls_1 rest_1 Pre_1 Post := by
  intro l hfl _ _ p e ha hc hk s m args below hf hA hF happ hP
  obtain ⟨hcalls, hrest, hpre⟩ := hP
  obtain ⟨-, -, -, hnamed, -, -, -, hat⟩ := (Spec.applies_iff hf).mp happ
  obtain ⟨hg, hn⟩ := and_e (Cond.before_iff.mp (show (Jvm.Cond.and given_1 narrow_1).before args s = true from hpre))
  obtain ⟨hcount, hg0⟩ := and_e hg
  obtain ⟨ha0, hg1⟩ := and_e hg0
  obtain ⟨ha1, hg2⟩ := and_e hg1
  obtain ⟨ha2, hg3⟩ := and_e hg2
  obtain ⟨ha3, hg4⟩ := and_e hg3
  have ha4 := hg4
  obtain ⟨w0, w1, w2, w3, w4, rfl⟩ : ∃ w0 w1 w2 w3 w4 : Value, args = #[w0, w1, w2, w3, w4] := by
    have hs : args.size = 5 := by simpa [Cond.value, given_1] using hcount
    obtain ⟨L⟩ := args
    match L, hs with
    | [w0, w1, w2, w3, w4], _ => exact ⟨w0, w1, w2, w3, w4, rfl⟩
  have hw := fun d (hd : d ∈ tables_1) => atoms_spec (ws := Jvm.Cond.code x code maxLocals ret :: tables_1) hat d (List.mem_cons_of_mem _ hd)
  obtain ⟨hsets, hown0⟩ := atoms_of _ (rest_1_c_eq ▸ (show rest_1_c.before _ s = true from hrest))
  obtain ⟨i0, ei0⟩ := is_v ha0
  obtain rfl : w0 = (.int i0) := Option.some.inj ei0
  obtain ⟨i1, ei1⟩ := is_v ha1
  obtain rfl : w1 = (.int i1) := Option.some.inj ei1
  obtain ⟨i2, ei2⟩ := is_v ha2
  obtain rfl : w2 = (.int i2) := Option.some.inj ei2
  obtain ⟨i3, ei3⟩ := is_v ha3
  obtain rfl : w3 = (.int i3) := Option.some.inj ei3
  obtain ⟨i4, ei4⟩ := is_v ha4
  obtain rfl : w4 = (.int i4) := Option.some.inj ei4
  have hn_0 := hn
  obtain ⟨g328, eg328⟩ := is_v (Cond.before_iff.mp (hsets _ (List.mem_of_getElem? (i := 1) rfl)))
  have sg328 : Sta s s.heap "java/lang/String" "COMPACT_STRINGS" "Z" (.int g328) := Sta.start eg328 (Or.inl (hsets _ (List.mem_of_getElem? (i := 0) rfl)))
  obtain ⟨g329, eg329, rg329⟩ := isR_v (Cond.before_iff.mp (hsets _ (List.mem_of_getElem? (i := 8) rfl)))
  have sg329 : Sta s s.heap "jdk/internal/util/Preconditions" "SIOOBE_FORMATTER" "Ljava/util/function/BiFunction;" g329 := Sta.start eg329 (Or.inl (hsets _ (List.mem_of_getElem? (i := 7) rfl)))
  have c330 : ¬ (g328 = (0 : Int32)) := gotF (Cond.eq_ints eg328 (Term.int_eval (0))) (not_v (Cond.before_iff.mp (hsets _ (List.mem_of_getElem? (i := 2) rfl))))
  have hCH : CHv s ([] : List (String × Nat)) s.vm s.heap := CHv.start (own_EW hw) (fun p hp => nomatch hp) (show Jvm.Lit.compactW.before _ s = true from hsets _ (List.mem_of_getElem? (i := 2) rfl)) (ww hw 24 rfl) (ww hw 7 rfl)
  obtain ⟨n, o, h1, h2, h3, _, L, rfl, ⟨rfl, N, -⟩, -, hq⟩ := rmLaw l s _ hw tables_1 i0 i1 i2 i3 i4 g328 g329 s.heap s.heap.size (Nat.le_refl _) sg328 c330 sg329 rg329 (Old.start s) p e ha hc hk s m _ below hf ((Spec.applies_iff_loose hf).mp happ).1 ⟨rfl, State.Warmed39.refl s, rfl, hCH, all0⟩ trivial
  refine ⟨n, _, h1, h2, h3, hpost _ _ _ _ _ _ ⟨Cond.after_iff.mpr rfl, Cond.after_iff.mpr (eq_i res_at (Term.int_eval (1)) rfl), trivial⟩ ⟨hq.1, hq.2.1, hq.2.2.1, (hq.2.2.2.sift fun y hy => Or.inr (N y hy)).mono (by decide) (by decide)⟩⟩
theorem main_1_1 : Claimed_1_1 := comes_1 fun _ _ _ _ _ _ h hF => ⟨h.1, hF⟩
theorem main_1_2 : Claimed_1_2 := comes_1 fun _ _ _ _ _ _ h hF => ⟨h.2.1, hF⟩
end Jvm.Pilot.@@N@@
namespace Jvm.Pilot.@@N@@
open Jvm Jvm.ClassFile Sem Op Lib Jvm.Free Jvm.Stand Jvm.Pilot.@@N@@.Jvm.D
/-! MADE BY PROGRAM (witnessworld.py) out of the Statement's table words and the real class files: 21 classes; the members and pool entries that the words name. The judged class is class 1, her method 1. -/
namespace start1
open Jvm.ClassFile
def u (s : String) : CpInfo := .utf8 (stringToUtf16 s)
/-- a pool by its gaps: so many unusable entries, then the entry; so many at the end -/
def gap : Nat → List CpInfo → List CpInfo
  | 0, r => r
  | n + 1, r => .unusable :: gap n r
def poolList (es : List (Nat × CpInfo)) (last : Nat) : List CpInfo := es.foldr (fun e r => gap e.1 (e.2 :: r)) (gap last [])
def pool (es : List (Nat × CpInfo)) (last : Nat) : Array CpInfo := ⟨poolList es last⟩
def fileOf (pool : Array CpInfo) (this : Nat) (attrs : Array Attribute := #[]) (ms : Array MethodInfo := #[]) (fl : Nat := 33) (sup : Nat := 0) (ifs : Array Nat := #[]) (fds : Array FieldInfo := #[]) : ClassFile where
  minorVersion := 0
  majorVersion := 65
  constantPool := pool
  accessFlags := fl
  thisClass := this
  superClass := sup
  interfaces := ifs
  fields := fds
  methods := ms
  attributes := attrs
def plain (name : String) (sup : Option ClassId) : Class where
  name := name
  kind := .ordinary
  loader := none
  accessFlags := 33
  super := sup
  interfaces := #[]
  cf := none
  fields := #[]
  methods := #[]
  instanceTypes := #[]
  staticTypes := #[]
  resolved := #[]
  callSites := []
  init := .initialized
  statics := none
  mirror := none

def pool0 : Array CpInfo := pool [(5, u "<init>"), (0, u "()V"), (1, .class_ 10), (1, u "java/lang/Object")] 113

def k0c0 : Code := { maxStack := 0, maxLocals := 1, code := object_method_1_code, exceptionTable := #[], attributes := #[] }
def k0m0 : Method := { name := "<init>", desc := "()V", sig := { parameters := [], returnType := none }, accessFlags := 1, code := some k0c0 }
/-- java/lang/Object -/
def k0 : Class := { plain "java/lang/Object" none with
  accessFlags := 33
  interfaces := #[]
  cf := some (fileOf pool0 8 #[] #[{ accessFlags := 1, nameIndex := 5, descriptorIndex := 6, attributes := #[] }] 33 0 #[] #[])
  fields := #[]
  methods := #[k0m0]
  instanceTypes := #[]
  staticTypes := #[]
  resolved := Array.replicate 124 none
  statics := none }

def pool1 : Array CpInfo := pool [(2, .class_ 4), (1, u "java/lang/Object"), (0, u "<init>"), (0, u "()V"), (0, .methodref 8 9), (0, .class_ 10), (0, .nameAndType 11 12), (0, u "com/example/eindhoven/eindhoven/LockNameCheckPinLaw"), (0, u "allowed"), (0, u "(I)C"), (0, .class_ 14), (0, u "java/lang/String"), (0, .methodref 13 16), (0, .nameAndType 5 17), (0, u "([C)V"), (0, .methodref 19 20), (0, .class_ 21), (0, .nameAndType 22 23), (0, u "com/example/eindhoven/eindhoven/LockName"), (0, u "check"), (0, u "(Ljava/lang/String;)Ljava/lang/String;"), (0, .integer 2147483647), (2, u "law"), (0, u "(IIIII)Z")] 5

def k1m0 : Method := { name := "<init>", desc := "()V", sig := { parameters := [], returnType := none }, accessFlags := 2, code := none }
def k1c1 : Code := { maxStack := 4, maxLocals := 13, code := code, exceptionTable := #[], attributes := #[] }
def k1m1 : Method := { name := "law", desc := "(IIIII)Z", sig := { parameters := [.int, .int, .int, .int, .int], returnType := some .boolean }, accessFlags := 9, code := some k1c1 }
def k1c2 : Code := { maxStack := 3, maxLocals := 2, code := method_3_code, exceptionTable := #[], attributes := #[] }
def k1m2 : Method := { name := "allowed", desc := "(I)C", sig := { parameters := [.int], returnType := some .char }, accessFlags := 10, code := some k1c2 }
/-- com/example/eindhoven/eindhoven/LockNameCheckPinLaw -/
def k1 : Class := { plain "com/example/eindhoven/eindhoven/LockNameCheckPinLaw" (some 0) with
  accessFlags := 49
  interfaces := #[]
  cf := some (fileOf pool1 8 #[] #[{ accessFlags := 2, nameIndex := 5, descriptorIndex := 6, attributes := #[] }, { accessFlags := 9, nameIndex := 27, descriptorIndex := 28, attributes := #[] }, { accessFlags := 10, nameIndex := 11, descriptorIndex := 12, attributes := #[] }] 49 2 #[] #[])
  fields := #[]
  methods := #[k1m0, k1m1, k1m2]
  instanceTypes := #[]
  staticTypes := #[]
  resolved := Array.replicate 34 none
  statics := none }

def pool2 : Array CpInfo := pool [(1, .class_ 2), (0, u "java/io/Serializable"), (0, .class_ 4), (0, u "java/lang/Object")] 2

/-- java/io/Serializable -/
def k2 : Class := { plain "java/io/Serializable" (some 0) with
  accessFlags := 1537
  interfaces := #[]
  cf := some (fileOf pool2 1 #[] #[] 1537 3 #[] #[])
  fields := #[]
  methods := #[]
  instanceTypes := #[]
  staticTypes := #[]
  resolved := Array.replicate 7 none
  statics := none }

def pool3 : Array CpInfo := pool [(1, .class_ 2), (0, u "java/lang/Comparable"), (0, .class_ 4), (0, u "java/lang/Object")] 7

/-- java/lang/Comparable -/
def k3 : Class := { plain "java/lang/Comparable" (some 0) with
  accessFlags := 1537
  interfaces := #[]
  cf := some (fileOf pool3 1 #[] #[] 1537 3 #[] #[])
  fields := #[]
  methods := #[]
  instanceTypes := #[]
  staticTypes := #[]
  resolved := Array.replicate 12 none
  statics := none }

def pool4 : Array CpInfo := pool [(2, .class_ 4), (1, u "java/lang/CharSequence"), (42, .class_ 48), (0, u "java/lang/CharSequence$1CodePointIterator"), (10, .class_ 60), (0, u "java/lang/CharSequence$1CharIterator"), (5, .class_ 67), (0, u "java/lang/Object")] 63

/-- java/lang/CharSequence -/
def k4 : Class := { plain "java/lang/CharSequence" (some 0) with
  accessFlags := 1537
  interfaces := #[]
  cf := some (fileOf pool4 2 #[.nestMembers #[47, 59]] #[] 1537 66 #[] #[])
  fields := #[]
  methods := #[]
  instanceTypes := #[]
  staticTypes := #[]
  resolved := Array.replicate 131 none
  statics := none }

def pool5 : Array CpInfo := pool [(1, .class_ 2), (0, u "java/lang/constant/Constable"), (0, .class_ 4), (0, u "java/lang/Object")] 6

/-- java/lang/constant/Constable -/
def k5 : Class := { plain "java/lang/constant/Constable" (some 0) with
  accessFlags := 1537
  interfaces := #[]
  cf := some (fileOf pool5 1 #[] #[] 1537 3 #[] #[])
  fields := #[]
  methods := #[]
  instanceTypes := #[]
  staticTypes := #[]
  resolved := Array.replicate 11 none
  statics := none }

def pool6 : Array CpInfo := pool [(1, .class_ 2), (0, u "java/lang/constant/ConstantDesc"), (0, .class_ 4), (0, u "java/lang/Object")] 32

/-- java/lang/constant/ConstantDesc -/
def k6 : Class := { plain "java/lang/constant/ConstantDesc" (some 0) with
  accessFlags := 1537
  interfaces := #[]
  cf := some (fileOf pool6 1 #[] #[] 1537 3 #[] #[])
  fields := #[]
  methods := #[]
  instanceTypes := #[]
  staticTypes := #[]
  resolved := Array.replicate 37 none
  statics := none }

def pool7 : Array CpInfo := pool [(1, .methodref 2 3), (0, .class_ 4), (0, .nameAndType 5 6), (0, u "java/lang/Object"), (0, u "<init>"), (0, u "()V"), (2, .fieldref 10 11), (0, .class_ 12), (0, .nameAndType 13 14), (0, u "java/lang/String"), (0, u "value"), (0, u "[B"), (0, .fieldref 10 16), (0, .nameAndType 17 18), (0, u "coder"), (0, u "B"), (2, u "hash"), (0, u "I"), (2, u "hashIsZero"), (0, u "Z"), (0, .methodref 10 28), (0, .nameAndType 5 29), (0, u "([CIILjava/lang/Void;)V"), (8, .fieldref 10 39), (0, .nameAndType 40 26), (0, u "COMPACT_STRINGS"), (1, .class_ 44), (1, u "java/lang/StringUTF16"), (0, u "compress"), (1, .methodref 42 48), (0, .nameAndType 49 50), (0, u "coderFromArrayLen"), (0, u "([BI)B"), (56, .class_ 109), (1, u "java/lang/StringLatin1"), (32, u "()Z"), (34, .methodref 42 178), (0, .nameAndType 45 179), (0, u "([CII)[B"), (154, u "()I"), (0, .methodref 10 336), (0, .nameAndType 17 337), (0, u "()B"), (25, u "([BI)C"), (27, u "(II)V"), (35, u "(I)C"), (64, .methodref 10 493), (0, .nameAndType 494 142), (0, u "isLatin1"), (0, .methodref 107 496), (0, .nameAndType 497 363), (0, u "charAt"), (3, u "checkIndex"), (5, u "length"), (67, .class_ 576), (0, u "java/lang/CharSequence"), (22, u "CASE_INSENSITIVE_ORDER"), (0, u "Ljava/util/Comparator;"), (91, u "isEmpty"), (317, u "([C)V"), (42, .fieldref 1054 1055), (0, .class_ 1056), (0, .nameAndType 1057 1058), (0, u "jdk/internal/util/Preconditions"), (0, u "SIOOBE_FORMATTER"), (0, u "Ljava/util/function/BiFunction;"), (0, .methodref 1054 1060), (0, .nameAndType 501 1061), (0, u "(IILjava/util/function/BiFunction;)I"), (39, u "serialPersistentFields"), (0, u "[Ljava/io/ObjectStreamField;"), (0, .class_ 1104), (0, u "java/lang/String$CaseInsensitiveComparator"), (1, .class_ 1107), (0, u "java/io/Serializable"), (0, .class_ 1109), (0, u "java/lang/Comparable"), (0, .class_ 1111), (0, u "java/lang/constant/Constable"), (0, .class_ 1113), (0, u "java/lang/constant/ConstantDesc"), (2, u "serialVersionUID"), (0, u "J"), (3, u "REPL"), (0, u "C"), (2, u "LATIN1"), (1, u "UTF16")] 323

def k7m0 : Method := { name := "<init>", desc := "()V", sig := { parameters := [], returnType := none }, accessFlags := 1, code := none }
def k7c1 : Code := { maxStack := 5, maxLocals := 2, code := jdk_42_method_3_code, exceptionTable := #[], attributes := #[] }
def k7m1 : Method := { name := "<init>", desc := "([C)V", sig := { parameters := [(.array .char)], returnType := none }, accessFlags := 1, code := some k7c1 }
def k7c2 : Code := { maxStack := 2, maxLocals := 1, code := jdk_42_method_54_code, exceptionTable := #[], attributes := #[] }
def k7m2 : Method := { name := "length", desc := "()I", sig := { parameters := [], returnType := some .int }, accessFlags := 1, code := some k7c2 }
def k7c3 : Code := { maxStack := 1, maxLocals := 1, code := jdk_42_method_55_code, exceptionTable := #[], attributes := #[] }
def k7m3 : Method := { name := "isEmpty", desc := "()Z", sig := { parameters := [], returnType := some .boolean }, accessFlags := 1, code := some k7c3 }
def k7c4 : Code := { maxStack := 2, maxLocals := 2, code := jdk_42_method_56_code, exceptionTable := #[], attributes := #[] }
def k7m4 : Method := { name := "charAt", desc := "(I)C", sig := { parameters := [.int], returnType := some .char }, accessFlags := 1, code := some k7c4 }
def k7c5 : Code := { maxStack := 4, maxLocals := 6, code := jdk_42_method_149_code, exceptionTable := #[], attributes := #[] }
def k7m5 : Method := { name := "<init>", desc := "([CIILjava/lang/Void;)V", sig := { parameters := [(.array .char), .int, .int, (.object "java/lang/Void")], returnType := none }, accessFlags := 2, code := some k7c5 }
def k7c6 : Code := { maxStack := 1, maxLocals := 1, code := jdk_42_method_152_code, exceptionTable := #[], attributes := #[] }
def k7m6 : Method := { name := "coder", desc := "()B", sig := { parameters := [], returnType := some .byte }, accessFlags := 0, code := some k7c6 }
def k7c7 : Code := { maxStack := 1, maxLocals := 1, code := jdk_42_method_154_code, exceptionTable := #[], attributes := #[] }
def k7m7 : Method := { name := "isLatin1", desc := "()Z", sig := { parameters := [], returnType := some .boolean }, accessFlags := 0, code := some k7c7 }
def k7c8 : Code := { maxStack := 3, maxLocals := 2, code := jdk_42_method_155_code, exceptionTable := #[], attributes := #[] }
def k7m8 : Method := { name := "checkIndex", desc := "(II)V", sig := { parameters := [.int, .int], returnType := none }, accessFlags := 8, code := some k7c8 }
/-- java/lang/String -/
def k7 : Class := { plain "java/lang/String" (some 0) with
  accessFlags := 49
  interfaces := #[2, 3, 4, 5, 6]
  cf := some (fileOf pool7 10 #[.nestMembers #[1103]] #[{ accessFlags := 1, nameIndex := 5, descriptorIndex := 6, attributes := #[] }, { accessFlags := 1, nameIndex := 5, descriptorIndex := 1010, attributes := #[] }, { accessFlags := 1, nameIndex := 507, descriptorIndex := 334, attributes := #[] }, { accessFlags := 1, nameIndex := 692, descriptorIndex := 142, attributes := #[] }, { accessFlags := 1, nameIndex := 497, descriptorIndex := 427, attributes := #[] }, { accessFlags := 2, nameIndex := 5, descriptorIndex := 29, attributes := #[] }, { accessFlags := 0, nameIndex := 17, descriptorIndex := 337, attributes := #[] }, { accessFlags := 0, nameIndex := 494, descriptorIndex := 142, attributes := #[] }, { accessFlags := 8, nameIndex := 501, descriptorIndex := 391, attributes := #[] }] 49 2 #[1106, 1108, 575, 1110, 1112] #[{ accessFlags := 18, nameIndex := 13, descriptorIndex := 14, attributes := #[] }, { accessFlags := 18, nameIndex := 17, descriptorIndex := 18, attributes := #[] }, { accessFlags := 2, nameIndex := 21, descriptorIndex := 22, attributes := #[] }, { accessFlags := 2, nameIndex := 25, descriptorIndex := 26, attributes := #[] }, { accessFlags := 26, nameIndex := 1116, descriptorIndex := 1117, attributes := #[] }, { accessFlags := 24, nameIndex := 40, descriptorIndex := 26, attributes := #[] }, { accessFlags := 26, nameIndex := 1101, descriptorIndex := 1102, attributes := #[] }, { accessFlags := 26, nameIndex := 1121, descriptorIndex := 1122, attributes := #[] }, { accessFlags := 25, nameIndex := 599, descriptorIndex := 600, attributes := #[] }, { accessFlags := 24, nameIndex := 1125, descriptorIndex := 18, attributes := #[] }, { accessFlags := 24, nameIndex := 1127, descriptorIndex := 18, attributes := #[] }])
  fields := #[{ name := "value", type := (.array .byte), accessFlags := 18, slot := 0, constantValue := 0 }, { name := "coder", type := .byte, accessFlags := 18, slot := 1, constantValue := 0 }, { name := "hash", type := .int, accessFlags := 2, slot := 2, constantValue := 0 }, { name := "hashIsZero", type := .boolean, accessFlags := 2, slot := 3, constantValue := 0 }, { name := "serialVersionUID", type := .long, accessFlags := 26, slot := 0, constantValue := 0 }, { name := "COMPACT_STRINGS", type := .boolean, accessFlags := 24, slot := 1, constantValue := 0 }, { name := "serialPersistentFields", type := (.array (.object "java/io/ObjectStreamField")), accessFlags := 26, slot := 2, constantValue := 0 }, { name := "REPL", type := .char, accessFlags := 26, slot := 3, constantValue := 0 }, { name := "CASE_INSENSITIVE_ORDER", type := (.object "java/util/Comparator"), accessFlags := 25, slot := 4, constantValue := 0 }, { name := "LATIN1", type := .byte, accessFlags := 24, slot := 5, constantValue := 0 }, { name := "UTF16", type := .byte, accessFlags := 24, slot := 6, constantValue := 0 }]
  methods := #[k7m0, k7m1, k7m2, k7m3, k7m4, k7m5, k7m6, k7m7, k7m8]
  instanceTypes := #[(.array .byte), .byte, .int, .boolean]
  staticTypes := #[.long, .boolean, (.array (.object "java/io/ObjectStreamField")), .char, (.object "java/util/Comparator"), .byte, .byte]
  resolved := Array.replicate 1451 none
  statics := some 0 }

def pool8 : Array CpInfo := pool [(6, .class_ 8), (1, u "java/lang/Object"), (0, u "<init>"), (0, u "()V"), (1, .class_ 14), (1, u "java/lang/StringUTF16"), (31, u "$assertionsDisabled"), (0, u "Z"), (13, u "HI_BYTE_SHIFT"), (0, u "I"), (2, u "LO_BYTE_SHIFT"), (49, .methodref 12 116), (0, .nameAndType 117 118), (0, u "compress"), (0, u "([CI[BII)I"), (3, u "([CII)[B"), (138, u "coderFromArrayLen"), (0, u "([BI)B"), (106, .class_ 371), (1, u "java/lang/StringUTF16$LinesSpliterator"), (58, u "MAX_LENGTH"), (196, .class_ 628), (0, u "java/lang/StringUTF16$CodePointsSpliterator"), (0, .class_ 630), (0, u "java/lang/StringUTF16$CharsSpliterator")] 4

def k8m0 : Method := { name := "<init>", desc := "()V", sig := { parameters := [], returnType := none }, accessFlags := 0, code := none }
def k8c1 : Code := { maxStack := 2, maxLocals := 2, code := jdk_52_method_15_code, exceptionTable := #[], attributes := #[] }
def k8m1 : Method := { name := "coderFromArrayLen", desc := "([BI)B", sig := { parameters := [(.array .byte), .int], returnType := some .byte }, accessFlags := 8, code := some k8c1 }
def k8c2 : Code := { maxStack := 5, maxLocals := 6, code := jdk_52_method_16_code, exceptionTable := #[], attributes := #[] }
def k8m2 : Method := { name := "compress", desc := "([CII)[B", sig := { parameters := [(.array .char), .int, .int], returnType := some (.array .byte) }, accessFlags := 9, code := some k8c2 }
def k8c3 : Code := { maxStack := 3, maxLocals := 7, code := jdk_52_method_21_code, exceptionTable := #[], attributes := #[] }
def k8m3 : Method := { name := "compress", desc := "([CI[BII)I", sig := { parameters := [(.array .char), .int, (.array .byte), .int, .int], returnType := some .int }, accessFlags := 9, code := some k8c3 }
/-- java/lang/StringUTF16 -/
def k8 : Class := { plain "java/lang/StringUTF16" (some 0) with
  accessFlags := 48
  interfaces := #[]
  cf := some (fileOf pool8 12 #[.nestMembers #[627, 629, 369]] #[{ accessFlags := 0, nameIndex := 9, descriptorIndex := 10, attributes := #[] }, { accessFlags := 8, nameIndex := 261, descriptorIndex := 262, attributes := #[] }, { accessFlags := 9, nameIndex := 117, descriptorIndex := 122, attributes := #[] }, { accessFlags := 9, nameIndex := 117, descriptorIndex := 118, attributes := #[] }] 48 6 #[] #[{ accessFlags := 26, nameIndex := 61, descriptorIndex := 62, attributes := #[] }, { accessFlags := 26, nameIndex := 65, descriptorIndex := 62, attributes := #[] }, { accessFlags := 24, nameIndex := 430, descriptorIndex := 62, attributes := #[] }, { accessFlags := 4120, nameIndex := 46, descriptorIndex := 47, attributes := #[] }])
  fields := #[{ name := "HI_BYTE_SHIFT", type := .int, accessFlags := 26, slot := 0, constantValue := 0 }, { name := "LO_BYTE_SHIFT", type := .int, accessFlags := 26, slot := 1, constantValue := 0 }, { name := "MAX_LENGTH", type := .int, accessFlags := 24, slot := 2, constantValue := 0 }, { name := "$assertionsDisabled", type := .boolean, accessFlags := 4120, slot := 3, constantValue := 0 }]
  methods := #[k8m0, k8m1, k8m2, k8m3]
  instanceTypes := #[]
  staticTypes := #[.int, .int, .int, .boolean]
  resolved := Array.replicate 635 none
  statics := none }

def pool9 : Array CpInfo := pool [(2, .class_ 4), (1, u "java/lang/Object"), (0, u "<init>"), (0, u "()V"), (0, .string 8), (0, u "lock name"), (0, .methodref 10 11), (0, .class_ 12), (0, .nameAndType 13 14), (0, u "java/util/Objects"), (0, u "requireNonNull"), (0, u "(Ljava/lang/Object;Ljava/lang/String;)Ljava/lang/Object;"), (0, .methodref 16 17), (0, .class_ 18), (0, .nameAndType 19 20), (0, u "java/lang/String"), (0, u "isEmpty"), (0, u "()Z"), (7, .methodref 16 29), (0, .nameAndType 30 31), (0, u "length"), (0, u "()I"), (0, .class_ 33), (0, u "com/example/eindhoven/eindhoven/LockName"), (4, .methodref 16 39), (0, .nameAndType 40 41), (0, u "charAt"), (0, u "(I)C"), (0, .methodref 32 43), (0, .nameAndType 44 45), (0, u "isAllowed"), (0, u "(C)Z"), (12, u "MAX_LENGTH"), (0, u "I"), (4, u "check"), (0, u "(Ljava/lang/String;)Ljava/lang/String;")] 18

def k9m0 : Method := { name := "<init>", desc := "()V", sig := { parameters := [], returnType := none }, accessFlags := 2, code := none }
def k9c1 : Code := { maxStack := 7, maxLocals := 3, code := prog_14_method_2_code, exceptionTable := #[], attributes := #[] }
def k9m1 : Method := { name := "check", desc := "(Ljava/lang/String;)Ljava/lang/String;", sig := { parameters := [(.object "java/lang/String")], returnType := some (.object "java/lang/String") }, accessFlags := 8, code := some k9c1 }
def k9c2 : Code := { maxStack := 2, maxLocals := 1, code := prog_14_method_3_code, exceptionTable := #[], attributes := #[] }
def k9m2 : Method := { name := "isAllowed", desc := "(C)Z", sig := { parameters := [.char], returnType := some .boolean }, accessFlags := 10, code := some k9c2 }
/-- com/example/eindhoven/eindhoven/LockName -/
def k9 : Class := { plain "com/example/eindhoven/eindhoven/LockName" (some 0) with
  accessFlags := 48
  interfaces := #[]
  cf := some (fileOf pool9 32 #[] #[{ accessFlags := 2, nameIndex := 5, descriptorIndex := 6, attributes := #[] }, { accessFlags := 8, nameIndex := 64, descriptorIndex := 65, attributes := #[] }, { accessFlags := 10, nameIndex := 44, descriptorIndex := 45, attributes := #[] }] 48 2 #[] #[{ accessFlags := 24, nameIndex := 58, descriptorIndex := 59, attributes := #[] }])
  fields := #[{ name := "MAX_LENGTH", type := .int, accessFlags := 24, slot := 0, constantValue := 0 }]
  methods := #[k9m0, k9m1, k9m2]
  instanceTypes := #[]
  staticTypes := #[.int]
  resolved := Array.replicate 84 none
  statics := none }

def pool10 : Array CpInfo := pool [(2, .class_ 4), (1, u "java/lang/Object"), (0, u "<init>"), (0, u "()V"), (35, .class_ 44), (1, u "java/util/Objects"), (0, u "requireNonNull"), (48, u "(Ljava/lang/Object;Ljava/lang/String;)Ljava/lang/Object;")] 89

def k10m0 : Method := { name := "<init>", desc := "()V", sig := { parameters := [], returnType := none }, accessFlags := 2, code := none }
def k10c1 : Code := { maxStack := 3, maxLocals := 2, code := jdk_31_method_11_code, exceptionTable := #[], attributes := #[] }
def k10m1 : Method := { name := "requireNonNull", desc := "(Ljava/lang/Object;Ljava/lang/String;)Ljava/lang/Object;", sig := { parameters := [(.object "java/lang/Object"), (.object "java/lang/String")], returnType := some (.object "java/lang/Object") }, accessFlags := 9, code := some k10c1 }
/-- java/util/Objects -/
def k10 : Class := { plain "java/util/Objects" (some 0) with
  accessFlags := 49
  interfaces := #[]
  cf := some (fileOf pool10 42 #[] #[{ accessFlags := 2, nameIndex := 5, descriptorIndex := 6, attributes := #[] }, { accessFlags := 9, nameIndex := 45, descriptorIndex := 94, attributes := #[] }] 49 2 #[] #[])
  fields := #[]
  methods := #[k10m0, k10m1]
  instanceTypes := #[]
  staticTypes := #[]
  resolved := Array.replicate 184 none
  statics := none }

def pool11 : Array CpInfo := pool [(1, .class_ 2), (0, u "java/lang/String"), (1, .class_ 6), (1, u "java/lang/Object"), (0, u "<init>"), (0, u "()V"), (0, .methodref 1 10), (0, .nameAndType 11 12), (0, u "checkIndex"), (0, u "(II)V"), (1, .class_ 16), (1, u "java/lang/StringLatin1"), (36, u "([BI)C"), (67, u "$assertionsDisabled"), (0, u "Z"), (98, .class_ 223), (1, u "java/lang/StringLatin1$LinesSpliterator"), (28, u "charAt"), (137, .class_ 391), (0, u "java/lang/StringLatin1$CharsSpliterator")] 3

def k11m0 : Method := { name := "<init>", desc := "()V", sig := { parameters := [], returnType := none }, accessFlags := 0, code := none }
def k11c1 : Code := { maxStack := 2, maxLocals := 2, code := jdk_43_method_2_code, exceptionTable := #[], attributes := #[] }
def k11m1 : Method := { name := "charAt", desc := "([BI)C", sig := { parameters := [(.array .byte), .int], returnType := some .char }, accessFlags := 9, code := some k11c1 }
/-- java/lang/StringLatin1 -/
def k11 : Class := { plain "java/lang/StringLatin1" (some 0) with
  accessFlags := 48
  interfaces := #[]
  cf := some (fileOf pool11 14 #[.nestMembers #[390, 221]] #[{ accessFlags := 0, nameIndex := 7, descriptorIndex := 8, attributes := #[] }, { accessFlags := 9, nameIndex := 252, descriptorIndex := 53, attributes := #[] }] 48 4 #[] #[{ accessFlags := 4120, nameIndex := 121, descriptorIndex := 122, attributes := #[] }])
  fields := #[{ name := "$assertionsDisabled", type := .boolean, accessFlags := 4120, slot := 0, constantValue := 0 }]
  methods := #[k11m0, k11m1]
  instanceTypes := #[]
  staticTypes := #[.boolean]
  resolved := Array.replicate 395 none
  statics := none }

def pool12 : Array CpInfo := pool [(2, .class_ 4), (1, u "java/lang/Object"), (0, u "<init>"), (0, u "()V"), (17, .class_ 26), (1, u "jdk/internal/util/Preconditions"), (6, u "checkIndex"), (21, .class_ 56), (0, u "jdk/internal/util/Preconditions$4"), (57, .class_ 115), (0, u "jdk/internal/util/Preconditions$1"), (7, u "SIOOBE_FORMATTER"), (0, u "Ljava/util/function/BiFunction;"), (0, .class_ 126), (0, u "jdk/internal/util/Preconditions$2"), (3, u "AIOOBE_FORMATTER"), (0, .class_ 132), (0, u "jdk/internal/util/Preconditions$3"), (3, u "IOOBE_FORMATTER"), (41, u "(IILjava/util/function/BiFunction;)I")] 15

def k12m0 : Method := { name := "<init>", desc := "()V", sig := { parameters := [], returnType := none }, accessFlags := 1, code := none }
def k12c1 : Code := { maxStack := 3, maxLocals := 3, code := jdk_41_method_11_code, exceptionTable := #[], attributes := #[] }
def k12m1 : Method := { name := "checkIndex", desc := "(IILjava/util/function/BiFunction;)I", sig := { parameters := [.int, .int, (.object "java/util/function/BiFunction")], returnType := some .int }, accessFlags := 9, code := some k12c1 }
/-- jdk/internal/util/Preconditions -/
def k12 : Class := { plain "jdk/internal/util/Preconditions" (some 0) with
  accessFlags := 33
  interfaces := #[]
  cf := some (fileOf pool12 24 #[.nestMembers #[55, 131, 125, 114]] #[{ accessFlags := 1, nameIndex := 5, descriptorIndex := 6, attributes := #[] }, { accessFlags := 9, nameIndex := 33, descriptorIndex := 178, attributes := #[] }] 33 2 #[] #[{ accessFlags := 25, nameIndex := 123, descriptorIndex := 124, attributes := #[] }, { accessFlags := 25, nameIndex := 130, descriptorIndex := 124, attributes := #[] }, { accessFlags := 25, nameIndex := 136, descriptorIndex := 124, attributes := #[] }])
  fields := #[{ name := "SIOOBE_FORMATTER", type := (.object "java/util/function/BiFunction"), accessFlags := 25, slot := 0, constantValue := 0 }, { name := "AIOOBE_FORMATTER", type := (.object "java/util/function/BiFunction"), accessFlags := 25, slot := 1, constantValue := 0 }, { name := "IOOBE_FORMATTER", type := (.object "java/util/function/BiFunction"), accessFlags := 25, slot := 2, constantValue := 0 }]
  methods := #[k12m0, k12m1]
  instanceTypes := #[]
  staticTypes := #[(.object "java/util/function/BiFunction"), (.object "java/util/function/BiFunction"), (.object "java/util/function/BiFunction")]
  resolved := Array.replicate 194 none
  statics := some 1 }

def pool13 : Array CpInfo := pool [(9, u "<init>"), (6, .class_ 18), (1, u "java/lang/Object"), (0, u "()V"), (1, .class_ 23), (1, u "jdk/internal/util/ArraysSupport"), (0, u "LOG2_ARRAY_LONG_INDEX_SCALE"), (0, u "I"), (2, u "U"), (0, u "Ljdk/internal/misc/Unsafe;"), (8, u "BIG_ENDIAN"), (0, u "Z"), (8, u "LOG2_BYTE_BIT_SIZE"), (4, u "LOG2_ARRAY_INT_INDEX_SCALE"), (54, u "JLA"), (0, u "Ljdk/internal/access/JavaLangAccess;"), (11, u "LOG2_ARRAY_BOOLEAN_INDEX_SCALE"), (9, u "LOG2_ARRAY_BYTE_INDEX_SCALE"), (5, u "LOG2_ARRAY_CHAR_INDEX_SCALE"), (5, u "LOG2_ARRAY_SHORT_INDEX_SCALE"), (18, u "LOG2_ARRAY_FLOAT_INDEX_SCALE"), (24, u "LOG2_ARRAY_DOUBLE_INDEX_SCALE"), (89, u "T_BOOLEAN"), (2, u "T_CHAR"), (1, u "T_FLOAT"), (1, u "T_DOUBLE"), (1, u "T_BYTE"), (1, u "T_SHORT"), (1, u "T_INT"), (1, u "T_LONG"), (1, u "SOFT_MAX_ARRAY_LENGTH")] 83

def k13m0 : Method := { name := "<init>", desc := "()V", sig := { parameters := [], returnType := none }, accessFlags := 2, code := none }
/-- jdk/internal/util/ArraysSupport -/
def k13 : Class := { plain "jdk/internal/util/ArraysSupport" (some 0) with
  accessFlags := 33
  interfaces := #[]
  cf := some (fileOf pool13 21 #[] #[{ accessFlags := 2, nameIndex := 9, descriptorIndex := 19, attributes := #[] }] 33 16 #[] #[{ accessFlags := 24, nameIndex := 28, descriptorIndex := 29, attributes := #[] }, { accessFlags := 26, nameIndex := 38, descriptorIndex := 39, attributes := #[] }, { accessFlags := 25, nameIndex := 121, descriptorIndex := 25, attributes := #[] }, { accessFlags := 25, nameIndex := 131, descriptorIndex := 25, attributes := #[] }, { accessFlags := 25, nameIndex := 137, descriptorIndex := 25, attributes := #[] }, { accessFlags := 25, nameIndex := 143, descriptorIndex := 25, attributes := #[] }, { accessFlags := 25, nameIndex := 53, descriptorIndex := 25, attributes := #[] }, { accessFlags := 25, nameIndex := 24, descriptorIndex := 25, attributes := #[] }, { accessFlags := 25, nameIndex := 162, descriptorIndex := 25, attributes := #[] }, { accessFlags := 25, nameIndex := 187, descriptorIndex := 25, attributes := #[] }, { accessFlags := 26, nameIndex := 48, descriptorIndex := 25, attributes := #[] }, { accessFlags := 25, nameIndex := 277, descriptorIndex := 25, attributes := #[] }, { accessFlags := 25, nameIndex := 280, descriptorIndex := 25, attributes := #[] }, { accessFlags := 25, nameIndex := 282, descriptorIndex := 25, attributes := #[] }, { accessFlags := 25, nameIndex := 284, descriptorIndex := 25, attributes := #[] }, { accessFlags := 25, nameIndex := 286, descriptorIndex := 25, attributes := #[] }, { accessFlags := 25, nameIndex := 288, descriptorIndex := 25, attributes := #[] }, { accessFlags := 25, nameIndex := 290, descriptorIndex := 25, attributes := #[] }, { accessFlags := 25, nameIndex := 292, descriptorIndex := 25, attributes := #[] }, { accessFlags := 26, nameIndex := 108, descriptorIndex := 109, attributes := #[] }, { accessFlags := 25, nameIndex := 294, descriptorIndex := 25, attributes := #[] }])
  fields := #[{ name := "U", type := (.object "jdk/internal/misc/Unsafe"), accessFlags := 24, slot := 0, constantValue := 0 }, { name := "BIG_ENDIAN", type := .boolean, accessFlags := 26, slot := 1, constantValue := 0 }, { name := "LOG2_ARRAY_BOOLEAN_INDEX_SCALE", type := .int, accessFlags := 25, slot := 2, constantValue := 0 }, { name := "LOG2_ARRAY_BYTE_INDEX_SCALE", type := .int, accessFlags := 25, slot := 3, constantValue := 0 }, { name := "LOG2_ARRAY_CHAR_INDEX_SCALE", type := .int, accessFlags := 25, slot := 4, constantValue := 0 }, { name := "LOG2_ARRAY_SHORT_INDEX_SCALE", type := .int, accessFlags := 25, slot := 5, constantValue := 0 }, { name := "LOG2_ARRAY_INT_INDEX_SCALE", type := .int, accessFlags := 25, slot := 6, constantValue := 0 }, { name := "LOG2_ARRAY_LONG_INDEX_SCALE", type := .int, accessFlags := 25, slot := 7, constantValue := 0 }, { name := "LOG2_ARRAY_FLOAT_INDEX_SCALE", type := .int, accessFlags := 25, slot := 8, constantValue := 0 }, { name := "LOG2_ARRAY_DOUBLE_INDEX_SCALE", type := .int, accessFlags := 25, slot := 9, constantValue := 0 }, { name := "LOG2_BYTE_BIT_SIZE", type := .int, accessFlags := 26, slot := 10, constantValue := 0 }, { name := "T_BOOLEAN", type := .int, accessFlags := 25, slot := 11, constantValue := 0 }, { name := "T_CHAR", type := .int, accessFlags := 25, slot := 12, constantValue := 0 }, { name := "T_FLOAT", type := .int, accessFlags := 25, slot := 13, constantValue := 0 }, { name := "T_DOUBLE", type := .int, accessFlags := 25, slot := 14, constantValue := 0 }, { name := "T_BYTE", type := .int, accessFlags := 25, slot := 15, constantValue := 0 }, { name := "T_SHORT", type := .int, accessFlags := 25, slot := 16, constantValue := 0 }, { name := "T_INT", type := .int, accessFlags := 25, slot := 17, constantValue := 0 }, { name := "T_LONG", type := .int, accessFlags := 25, slot := 18, constantValue := 0 }, { name := "JLA", type := (.object "jdk/internal/access/JavaLangAccess"), accessFlags := 26, slot := 19, constantValue := 0 }, { name := "SOFT_MAX_ARRAY_LENGTH", type := .int, accessFlags := 25, slot := 20, constantValue := 0 }]
  methods := #[k13m0]
  instanceTypes := #[]
  staticTypes := #[(.object "jdk/internal/misc/Unsafe"), .boolean, .int, .int, .int, .int, .int, .int, .int, .int, .int, .int, .int, .int, .int, .int, .int, .int, .int, (.object "jdk/internal/access/JavaLangAccess"), .int]
  resolved := Array.replicate 378 none
  statics := none }

def pool14 : Array CpInfo := pool [(1, u "java/lang/Cloneable"), (0, .class_ 1), (0, u "java/lang/Object"), (0, .class_ 3)] 3

/-- java/lang/Cloneable -/
def k14 : Class := { plain "java/lang/Cloneable" (some 0) with
  accessFlags := 1537
  interfaces := #[]
  cf := some (fileOf pool14 2 #[] #[] 1537 4 #[] #[])
  fields := #[]
  methods := #[]
  instanceTypes := #[]
  staticTypes := #[]
  resolved := Array.replicate 8 none
  statics := none }

/-- the primitive byte -/
def k15 : Class := { plain "byte" none with kind := .primitive 'B', accessFlags := 0x411 }
/-- [B -/
def k16 : Class := { plain "[B" (some 0) with kind := .array 15 .byte, interfaces := #[14, 2], accessFlags := 1041 }

/-- the primitive char -/
def k17 : Class := { plain "char" none with kind := .primitive 'C', accessFlags := 0x411 }
/-- [C -/
def k18 : Class := { plain "[C" (some 0) with kind := .array 17 .char, interfaces := #[14, 2], accessFlags := 1041 }

/-- the primitive int -/
def k19 : Class := { plain "int" none with kind := .primitive 'I', accessFlags := 0x411 }
/-- [I -/
def k20 : Class := { plain "[I" (some 0) with kind := .array 19 .int, interfaces := #[14, 2], accessFlags := 1041 }

def heap : Heap := #[{ cls := 7, slots := #[.long 0, .int 1, .null, .int 0, .null, .int 0, .int 0], vm := .statics 7 },
  { cls := 12, slots := #[.null, .null, .null], vm := .statics 12 }]
def classes : Array Class := #[k0, k1, k2, k3, k4, k5, k6, k7, k8, k9, k10, k11, k12, k13, k14, k15, k16, k17, k18, k19, k20]
def interned : List (Array UInt16 × Addr) := []
def slotsUsed : Nat := 10
def theMethod : MethodId := ⟨1, 1⟩
def args0 : Array Value := #[.int 5, .int 7, .int 5, .int 1, .int 2]
def aboutOver (below : List Frame) : State where
  vm := { classes := classes, interned := interned.toArray }
  heap := heap
  slotsUsed := slotsUsed
  threads := #[{ frames := .invoking theMethod args0 :: below }]
def below0 : List Frame := [.native { method := ⟨0, 0⟩, args := #[] }]
def about1 : State := aboutOver below0
def p0 : Program := .bare "" "" ""
def e0 : Env := launch0.env 0 0 0
theorem w_frames : about1.frames = Frame.invoking theMethod args0 :: below0 := rfl
set_option maxRecDepth 65536 in
theorem w_args : argsFit about1.vm theMethod args0 = true := by decide +kernel
set_option maxRecDepth 65536 in
theorem w_heap : heapFits about1 = true := by decide +kernel
set_option maxRecDepth 65536 in
theorem w_runnable : about1.curStatus? = some .runnable := by decide +kernel
set_option maxRecDepth 65536 in
theorem w_alone : about1.alone = true := by decide +kernel
set_option maxRecDepth 65536 in
theorem w_named : about1.methodNamed? x = some theMethod := by decide +kernel
set_option maxRecDepth 65536 in
theorem w_hears : about1.hears theMethod below0 = true := by decide +kernel
set_option maxRecDepth 65536 in
theorem w_ripe : about1.ripe theMethod args0 below0 = true := by decide +kernel
theorem w_running : about1.status = .running := rfl
set_option maxRecDepth 65536 in
theorem w_room : about1.hasRoom e0.platform room_1 = true :=
  launch0.hasRoom_least _ room_1 (by decide +kernel) (by decide +kernel) (by decide +kernel) (by decide +kernel) (by decide +kernel) (by decide +kernel)
theorem allAtoms_all (ts : List Jvm.Cond) (a : Array Jvm.Value) (st : Jvm.State) : (allAtoms ts).before a st = ts.all (fun c => c.before a st) := by
  induction ts with
  | nil => rfl
  | cons c t ih =>
    show (Jvm.Cond.and c (allAtoms t)).before a st = _
    rw [Jvm.Cond.before_and, ih, List.all_cons]
def words1 : List Jvm.Cond := Jvm.Cond.code x code maxLocals ret :: tables_1
/-- a 'code' word, met by the world's own term for the bytes: nothing is compared byte by byte -/
theorem code_word {y : MethodName} {bytes : ByteArray} {mx : Nat} {rt : Option FieldType} {a : Array Value} {s : State} {m : MethodId} {meth : Method} {c : Code} (h1 : s.methodNamed? y = some m) (h2 : s.vm.method? m = some meth) (h3 : meth.code = some c) (h4 : c.code = bytes)
    (h5 : (c.maxLocals == mx && c.exceptionTable.isEmpty && decide (c.maxStack ≤ mostOperands) && decide (meth.sig.returnType = rt) && !meth.locks && decide (parseMethodDescriptor y.desc = some meth.sig)) = true) : (Jvm.Cond.code y bytes mx rt).before a s = true := by
  simp only [Bool.and_eq_true, beq_iff_eq, Bool.not_eq_true', decide_eq_true_eq] at h5
  obtain ⟨⟨⟨⟨⟨g1, g2⟩, g3⟩, g4⟩, g5⟩, g6⟩ := h5
  simp [Cond.before, Cond.holds, Cond.value, h1, h2, h3, h4, g1, g2, g3, g4, g5, g6]
def isCode : Jvm.Cond → Bool
  | .code _ _ _ _ => true
  | _ => false
theorem all_split {L : List Jvm.Cond} {P : Jvm.Cond → Bool} (h1 : L.all (fun c => isCode c || P c) = true) (h2 : ∀ c ∈ L.filter isCode, P c = true) : L.all P = true := by
  refine List.all_eq_true.mpr fun c hc => ?_
  have h := List.all_eq_true.mp h1 c hc
  rcases Bool.eq_false_or_eq_true (isCode c) with hi | hi
  · exact h2 c (List.mem_filter.mpr ⟨hc, hi⟩)
  · simpa [hi] using h
set_option maxRecDepth 65536 in
theorem w_c0 : (Jvm.Cond.code x code maxLocals ret).before args0 about1 = true := code_word (m := ⟨1, 1⟩) (meth := k1m1) (c := k1c1) (by decide +kernel) rfl rfl rfl (by decide +kernel)
set_option maxRecDepth 65536 in
theorem w_c1 : (Jvm.Cond.code ({ cls := "com/example/eindhoven/eindhoven/LockNameCheckPinLaw", name := "allowed", desc := "(I)C" } : Jvm.MethodName) method_3_code (2 : Nat) (Option.some Jvm.ClassFile.FieldType.char)).before args0 about1 = true := code_word (m := ⟨1, 2⟩) (meth := k1m2) (c := k1c2) (by decide +kernel) rfl rfl rfl (by decide +kernel)
set_option maxRecDepth 65536 in
theorem w_c2 : (Jvm.Cond.code ({ cls := "java/lang/String", name := "<init>", desc := "([C)V" } : Jvm.MethodName) jdk_42_method_3_code (2 : Nat) (Option.none : Option Jvm.ClassFile.FieldType)).before args0 about1 = true := code_word (m := ⟨7, 1⟩) (meth := k7m1) (c := k7c1) (by decide +kernel) rfl rfl rfl (by decide +kernel)
set_option maxRecDepth 65536 in
theorem w_c3 : (Jvm.Cond.code ({ cls := "java/lang/String", name := "<init>", desc := "([CIILjava/lang/Void;)V" } : Jvm.MethodName) jdk_42_method_149_code (6 : Nat) (Option.none : Option Jvm.ClassFile.FieldType)).before args0 about1 = true := code_word (m := ⟨7, 5⟩) (meth := k7m5) (c := k7c5) (by decide +kernel) rfl rfl rfl (by decide +kernel)
set_option maxRecDepth 65536 in
theorem w_c4 : (Jvm.Cond.code ({ cls := "java/lang/Object", name := "<init>", desc := "()V" } : Jvm.MethodName) object_method_1_code (1 : Nat) (Option.none : Option Jvm.ClassFile.FieldType)).before args0 about1 = true := code_word (m := ⟨0, 0⟩) (meth := k0m0) (c := k0c0) (by decide +kernel) rfl rfl rfl (by decide +kernel)
set_option maxRecDepth 65536 in
theorem w_c5 : (Jvm.Cond.code ({ cls := "java/lang/StringUTF16", name := "compress", desc := "([CII)[B" } : Jvm.MethodName) jdk_52_method_16_code (6 : Nat) (Option.some (Jvm.ClassFile.FieldType.array Jvm.ClassFile.FieldType.byte))).before args0 about1 = true := code_word (m := ⟨8, 2⟩) (meth := k8m2) (c := k8c2) (by decide +kernel) rfl rfl rfl (by decide +kernel)
set_option maxRecDepth 65536 in
theorem w_c6 : (Jvm.Cond.code ({ cls := "java/lang/StringUTF16", name := "compress", desc := "([CI[BII)I" } : Jvm.MethodName) jdk_52_method_21_code (7 : Nat) (Option.some Jvm.ClassFile.FieldType.int)).before args0 about1 = true := code_word (m := ⟨8, 3⟩) (meth := k8m3) (c := k8c3) (by decide +kernel) rfl rfl rfl (by decide +kernel)
set_option maxRecDepth 65536 in
theorem w_c7 : (Jvm.Cond.code ({ cls := "java/lang/StringUTF16", name := "coderFromArrayLen", desc := "([BI)B" } : Jvm.MethodName) jdk_52_method_15_code (2 : Nat) (Option.some Jvm.ClassFile.FieldType.byte)).before args0 about1 = true := code_word (m := ⟨8, 1⟩) (meth := k8m1) (c := k8c1) (by decide +kernel) rfl rfl rfl (by decide +kernel)
set_option maxRecDepth 65536 in
theorem w_c8 : (Jvm.Cond.code ({ cls := "com/example/eindhoven/eindhoven/LockName", name := "check", desc := "(Ljava/lang/String;)Ljava/lang/String;" } : Jvm.MethodName) prog_14_method_2_code (3 : Nat) (Option.some (Jvm.ClassFile.FieldType.object "java/lang/String"))).before args0 about1 = true := code_word (m := ⟨9, 1⟩) (meth := k9m1) (c := k9c1) (by decide +kernel) rfl rfl rfl (by decide +kernel)
set_option maxRecDepth 65536 in
theorem w_c9 : (Jvm.Cond.code ({ cls := "java/util/Objects", name := "requireNonNull", desc := "(Ljava/lang/Object;Ljava/lang/String;)Ljava/lang/Object;" } : Jvm.MethodName) jdk_31_method_11_code (2 : Nat) (Option.some (Jvm.ClassFile.FieldType.object "java/lang/Object"))).before args0 about1 = true := code_word (m := ⟨10, 1⟩) (meth := k10m1) (c := k10c1) (by decide +kernel) rfl rfl rfl (by decide +kernel)
set_option maxRecDepth 65536 in
theorem w_c10 : (Jvm.Cond.code ({ cls := "java/lang/String", name := "isEmpty", desc := "()Z" } : Jvm.MethodName) jdk_42_method_55_code (1 : Nat) (Option.some Jvm.ClassFile.FieldType.boolean)).before args0 about1 = true := code_word (m := ⟨7, 3⟩) (meth := k7m3) (c := k7c3) (by decide +kernel) rfl rfl rfl (by decide +kernel)
set_option maxRecDepth 65536 in
theorem w_c11 : (Jvm.Cond.code ({ cls := "java/lang/String", name := "length", desc := "()I" } : Jvm.MethodName) jdk_42_method_54_code (1 : Nat) (Option.some Jvm.ClassFile.FieldType.int)).before args0 about1 = true := code_word (m := ⟨7, 2⟩) (meth := k7m2) (c := k7c2) (by decide +kernel) rfl rfl rfl (by decide +kernel)
set_option maxRecDepth 65536 in
theorem w_c12 : (Jvm.Cond.code ({ cls := "java/lang/String", name := "coder", desc := "()B" } : Jvm.MethodName) jdk_42_method_152_code (1 : Nat) (Option.some Jvm.ClassFile.FieldType.byte)).before args0 about1 = true := code_word (m := ⟨7, 6⟩) (meth := k7m6) (c := k7c6) (by decide +kernel) rfl rfl rfl (by decide +kernel)
set_option maxRecDepth 65536 in
theorem w_c13 : (Jvm.Cond.code ({ cls := "java/lang/String", name := "charAt", desc := "(I)C" } : Jvm.MethodName) jdk_42_method_56_code (2 : Nat) (Option.some Jvm.ClassFile.FieldType.char)).before args0 about1 = true := code_word (m := ⟨7, 4⟩) (meth := k7m4) (c := k7c4) (by decide +kernel) rfl rfl rfl (by decide +kernel)
set_option maxRecDepth 65536 in
theorem w_c14 : (Jvm.Cond.code ({ cls := "java/lang/String", name := "isLatin1", desc := "()Z" } : Jvm.MethodName) jdk_42_method_154_code (1 : Nat) (Option.some Jvm.ClassFile.FieldType.boolean)).before args0 about1 = true := code_word (m := ⟨7, 7⟩) (meth := k7m7) (c := k7c7) (by decide +kernel) rfl rfl rfl (by decide +kernel)
set_option maxRecDepth 65536 in
theorem w_c15 : (Jvm.Cond.code ({ cls := "java/lang/StringLatin1", name := "charAt", desc := "([BI)C" } : Jvm.MethodName) jdk_43_method_2_code (2 : Nat) (Option.some Jvm.ClassFile.FieldType.char)).before args0 about1 = true := code_word (m := ⟨11, 1⟩) (meth := k11m1) (c := k11c1) (by decide +kernel) rfl rfl rfl (by decide +kernel)
set_option maxRecDepth 65536 in
theorem w_c16 : (Jvm.Cond.code ({ cls := "java/lang/String", name := "checkIndex", desc := "(II)V" } : Jvm.MethodName) jdk_42_method_155_code (2 : Nat) (Option.none : Option Jvm.ClassFile.FieldType)).before args0 about1 = true := code_word (m := ⟨7, 8⟩) (meth := k7m8) (c := k7c8) (by decide +kernel) rfl rfl rfl (by decide +kernel)
set_option maxRecDepth 65536 in
theorem w_c17 : (Jvm.Cond.code ({ cls := "jdk/internal/util/Preconditions", name := "checkIndex", desc := "(IILjava/util/function/BiFunction;)I" } : Jvm.MethodName) jdk_41_method_11_code (3 : Nat) (Option.some Jvm.ClassFile.FieldType.int)).before args0 about1 = true := code_word (m := ⟨12, 1⟩) (meth := k12m1) (c := k12c1) (by decide +kernel) rfl rfl rfl (by decide +kernel)
set_option maxRecDepth 65536 in
theorem w_c18 : (Jvm.Cond.code ({ cls := "com/example/eindhoven/eindhoven/LockName", name := "isAllowed", desc := "(C)Z" } : Jvm.MethodName) prog_14_method_3_code (1 : Nat) (Option.some Jvm.ClassFile.FieldType.boolean)).before args0 about1 = true := code_word (m := ⟨9, 2⟩) (meth := k9m2) (c := k9c2) (by decide +kernel) rfl rfl rfl (by decide +kernel)
def codes1 : List Jvm.Cond := [Jvm.Cond.code x code maxLocals ret, Jvm.Cond.code ({ cls := "com/example/eindhoven/eindhoven/LockNameCheckPinLaw", name := "allowed", desc := "(I)C" } : Jvm.MethodName) method_3_code (2 : Nat) (Option.some Jvm.ClassFile.FieldType.char), Jvm.Cond.code ({ cls := "java/lang/String", name := "<init>", desc := "([C)V" } : Jvm.MethodName) jdk_42_method_3_code (2 : Nat) (Option.none : Option Jvm.ClassFile.FieldType), Jvm.Cond.code ({ cls := "java/lang/String", name := "<init>", desc := "([CIILjava/lang/Void;)V" } : Jvm.MethodName) jdk_42_method_149_code (6 : Nat) (Option.none : Option Jvm.ClassFile.FieldType), Jvm.Cond.code ({ cls := "java/lang/Object", name := "<init>", desc := "()V" } : Jvm.MethodName) object_method_1_code (1 : Nat) (Option.none : Option Jvm.ClassFile.FieldType), Jvm.Cond.code ({ cls := "java/lang/StringUTF16", name := "compress", desc := "([CII)[B" } : Jvm.MethodName) jdk_52_method_16_code (6 : Nat) (Option.some (Jvm.ClassFile.FieldType.array Jvm.ClassFile.FieldType.byte)), Jvm.Cond.code ({ cls := "java/lang/StringUTF16", name := "compress", desc := "([CI[BII)I" } : Jvm.MethodName) jdk_52_method_21_code (7 : Nat) (Option.some Jvm.ClassFile.FieldType.int), Jvm.Cond.code ({ cls := "java/lang/StringUTF16", name := "coderFromArrayLen", desc := "([BI)B" } : Jvm.MethodName) jdk_52_method_15_code (2 : Nat) (Option.some Jvm.ClassFile.FieldType.byte), Jvm.Cond.code ({ cls := "com/example/eindhoven/eindhoven/LockName", name := "check", desc := "(Ljava/lang/String;)Ljava/lang/String;" } : Jvm.MethodName) prog_14_method_2_code (3 : Nat) (Option.some (Jvm.ClassFile.FieldType.object "java/lang/String")), Jvm.Cond.code ({ cls := "java/util/Objects", name := "requireNonNull", desc := "(Ljava/lang/Object;Ljava/lang/String;)Ljava/lang/Object;" } : Jvm.MethodName) jdk_31_method_11_code (2 : Nat) (Option.some (Jvm.ClassFile.FieldType.object "java/lang/Object")), Jvm.Cond.code ({ cls := "java/lang/String", name := "isEmpty", desc := "()Z" } : Jvm.MethodName) jdk_42_method_55_code (1 : Nat) (Option.some Jvm.ClassFile.FieldType.boolean), Jvm.Cond.code ({ cls := "java/lang/String", name := "length", desc := "()I" } : Jvm.MethodName) jdk_42_method_54_code (1 : Nat) (Option.some Jvm.ClassFile.FieldType.int), Jvm.Cond.code ({ cls := "java/lang/String", name := "coder", desc := "()B" } : Jvm.MethodName) jdk_42_method_152_code (1 : Nat) (Option.some Jvm.ClassFile.FieldType.byte), Jvm.Cond.code ({ cls := "java/lang/String", name := "charAt", desc := "(I)C" } : Jvm.MethodName) jdk_42_method_56_code (2 : Nat) (Option.some Jvm.ClassFile.FieldType.char), Jvm.Cond.code ({ cls := "java/lang/String", name := "isLatin1", desc := "()Z" } : Jvm.MethodName) jdk_42_method_154_code (1 : Nat) (Option.some Jvm.ClassFile.FieldType.boolean), Jvm.Cond.code ({ cls := "java/lang/StringLatin1", name := "charAt", desc := "([BI)C" } : Jvm.MethodName) jdk_43_method_2_code (2 : Nat) (Option.some Jvm.ClassFile.FieldType.char), Jvm.Cond.code ({ cls := "java/lang/String", name := "checkIndex", desc := "(II)V" } : Jvm.MethodName) jdk_42_method_155_code (2 : Nat) (Option.none : Option Jvm.ClassFile.FieldType), Jvm.Cond.code ({ cls := "jdk/internal/util/Preconditions", name := "checkIndex", desc := "(IILjava/util/function/BiFunction;)I" } : Jvm.MethodName) jdk_41_method_11_code (3 : Nat) (Option.some Jvm.ClassFile.FieldType.int), Jvm.Cond.code ({ cls := "com/example/eindhoven/eindhoven/LockName", name := "isAllowed", desc := "(C)Z" } : Jvm.MethodName) prog_14_method_3_code (1 : Nat) (Option.some Jvm.ClassFile.FieldType.boolean)]
set_option maxRecDepth 65536 in
theorem codes_eq : words1.filter isCode = codes1 := rfl
theorem w_codes : ∀ c ∈ words1.filter isCode, c.before args0 about1 = true := by
  rw [codes_eq]
  intro c hc
  simp only [codes1, List.mem_cons, List.not_mem_nil, or_false] at hc
  rcases hc with rfl | rfl | rfl | rfl | rfl | rfl | rfl | rfl | rfl | rfl | rfl | rfl | rfl | rfl | rfl | rfl | rfl | rfl | rfl
  · exact w_c0
  · exact w_c1
  · exact w_c2
  · exact w_c3
  · exact w_c4
  · exact w_c5
  · exact w_c6
  · exact w_c7
  · exact w_c8
  · exact w_c9
  · exact w_c10
  · exact w_c11
  · exact w_c12
  · exact w_c13
  · exact w_c14
  · exact w_c15
  · exact w_c16
  · exact w_c17
  · exact w_c18
set_option maxRecDepth 65536 in
theorem w_t1 : (words1.take 24).all (fun c => isCode c || c.before args0 about1) = true := by decide +kernel
set_option maxRecDepth 65536 in
theorem w_t2 : ((words1.drop 24).take 24).all (fun c => isCode c || c.before args0 about1) = true := by decide +kernel
set_option maxRecDepth 65536 in
theorem w_t3 : (((words1.drop 24).drop 24).take 24).all (fun c => isCode c || c.before args0 about1) = true := by decide +kernel
set_option maxRecDepth 65536 in
theorem w_t4 : (((words1.drop 24).drop 24).drop 24).all (fun c => isCode c || c.before args0 about1) = true := by decide +kernel
theorem w_tables : (allAtoms (Jvm.Cond.code x code maxLocals ret :: tables_1)).before args0 about1 = true := by
  rw [allAtoms_all]
  show words1.all (fun c => c.before args0 about1) = true
  refine all_split ?_ w_codes
  rw [← List.take_append_drop 24 words1, List.all_append, w_t1, ← List.take_append_drop 24 (words1.drop 24), List.all_append, w_t2, ← List.take_append_drop 24 ((words1.drop 24).drop 24), List.all_append, w_t3, w_t4]
  rfl
set_option maxRecDepth 65536 in
theorem w_rest : rest_1_c.before args0 about1 = true := by decide +kernel
set_option maxRecDepth 65536 in
theorem w_case : (Jvm.Cond.and given_1 narrow_1).before args0 about1 = true := by decide +kernel
theorem w_applies : (headSpec (Jvm.Cond.code x code maxLocals ret :: tables_1) room_1).applies x e0.platform about1 = true :=
  (Spec.applies_iff w_frames).mpr ⟨w_running, w_runnable, w_alone, w_named, w_hears, w_ripe, w_room, w_tables⟩
theorem atStart : AtStart classFile x code maxLocals ret World_1 tables_1 room_1 Calls_1 rest_1 Pre_1 launch0 p0 e0 about1 theMethod args0 below0 :=
  ⟨lists_1, trivial, launch0.admits_env _ _ _, launch0.least_env, fairChoices_fair.cas, fairChoices_fair.clock, w_frames, w_args, w_heap, w_applies, trivial, w_rest, w_case⟩
end start1
theorem witness_1 : WitnessClaimed_1 := ⟨start1.p0, start1.e0, start1.about1, start1.theMethod, start1.args0, start1.below0, start1.atStart⟩
end Jvm.Pilot.@@N@@
