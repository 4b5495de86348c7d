import JvmDerived
import JvmDerived.Pilot.@@N@@Statement
import JvmDerived.Pilot.@@N@@Code
set_option linter.unusedVariables false
set_option linter.unusedSimpArgs false
namespace Jvm.RoadKit
open Sem ClassFile Op Lib Jvm.Stand Jvm.Free Jvm.LawKit
section New
variable {p : Program} {l : Launch} {e : Env} {R : Room} {s : State} {m : MethodId} {args : Array Value} {below : List Frame} {meth : Method} {c : Code} {T : State} {locs : List Loc} {cells slots : Nat}
theorem retI (X : Stand p l e R s m args below meth c T locs cells slots) (hx : p.tables.exec = Jvm.exec) {pc : Nat} {Ls : Array Slot} {z : Int32} {rest : List Value} (hret : meth.sig.returnType = some .int) (hd : decode c.code pc = .ok (.ireturn, 1)) {fs : List Frame}
    (hl : ∀ (f : JFrame) (acts : List Action), f.method = m → f.locked = none → f.entered = [] → (doReturn e (T.setTop f) acts (some (.int z))).1 = T.setFrames fs) : Steps p.tables e below (T.setTop (mkF m pc Ls (.int z :: rest))) (T.setFrames fs) := by
  have hm' : T.vm.method? m = some meth := X.method'
  have hn : narrow .int (.int z) = .int z := rfl
  show Steps p.tables e below (T.setTop { method := m, pc := pc, locals := Ls, stack := _ :: rest, locked := none }) _
  jvm_step X.here [X.here.top, hx, hd, hm', hret, hn]
  first | (intro acts; rw [hl _ acts rfl rfl rfl]) | rw [hl _ _ rfl rfl rfl]
  exact Steps.refl _
end New
end Jvm.RoadKit
/- laws to paste: Road.backV, Road.eqW (cut by pick.py; bodies as the Statement names them) -/
namespace Jvm.Pilot.@@N@@
namespace StrChars
open Jvm Sem ClassFile Op Lib Jvm.Stand Jvm.Free.XT Jvm.Free.ALB Jvm.Free.JM Jvm.Free
open Jvm.Lib.Cold (StaticIs)
/-- a char array whose places are chars -/
def Ch (a : Addr) (A : Cell) (U : State) : Prop := Arr .char a A U ∧ Typed .char A
theorem Ch.mv {a : Addr} {A : Cell} {U U' : State} (h : Ch a A U) (hal : U.vm.Alike U'.vm) (hh : U'.heap = U.heap) : Ch a A U' := ⟨h.1.mv hal hh, h.2⟩
theorem Ch.keep {a : Addr} {A : Cell} {U U' : State} (h : Ch a A U) (hal : U.vm.Alike U'.vm) (hk : U'.heap[a]? = some A) : Ch a A U' := ⟨h.1.keep hal hk, h.2⟩
/-- what place i of a char[]'s cell holds -/
def cv (A : Cell) (i : Nat) : Int32 := match A.slots[i]? with | some (.int x) => x | _ => 0
theorem Ch.get {a : Addr} {A : Cell} {U : State} (h : Ch a A U) {i : Nat} (hi : i < A.slots.size) : A.slots[i]? = some (.int (cv A i)) := by
  have e := Array.getElem?_eq_getElem hi
  have f := h.2 i _ e
  unfold cv; rw [e]
  generalize A.slots[i] = v at f
  cases v <;> simp [fits] at f ⊢
/-- the byte that i2b leaves of a char -/
def lo8 (x : Int32) : Int32 := x.toInt8.toInt32
theorem fits_lo8 (y : Int32) : fits .byte (.int (lo8 y)) = true := by
  have h1 := y.toInt8.le_toInt
  have h2 := y.toInt8.toInt_lt
  simp only [lo8, fits, Bool.and_eq_true, decide_eq_true_eq, Int32.le_iff_toInt_le, Int8.toInt_toInt32, show (-128 : Int32).toInt = -128 from by decide, show (127 : Int32).toInt = 127 from by decide]
  omega
/-- A' is A but that each place j of lo .. hi - 1 holds f j -/
def Laid (A A' : Cell) (lo hi : Nat) (f : Nat → Value) : Prop := A'.cls = A.cls ∧ A'.vm = A.vm ∧ A'.slots.size = A.slots.size ∧ ∀ i, A'.slots[i]? = if lo ≤ i ∧ i < hi then some (f i) else A.slots[i]?
theorem Laid.zero (A : Cell) (lo : Nat) (f : Nat → Value) : Laid A A lo (lo + 0) f := ⟨rfl, rfl, rfl, fun i => by rw [if_neg (by omega)]⟩
theorem Laid.step {A Ak : Cell} {lo k : Nat} {f : Nat → Value} {v : Value} (h : Laid A Ak lo k f) (hlo : lo ≤ k) (hk : k < Ak.slots.size) (hv : v = f k) : Laid A (Ak.setSlot k v) lo (k + 1) f := by
  refine ⟨h.1, h.2.1, by simpa [Cell.setSlot] using h.2.2.1, fun i => ?_⟩
  by_cases e : k = i
  · subst e; rw [Cell.slots_setSlot_self v hk, if_pos (by omega), hv]
  · rw [Cell.slots_setSlot_ne v e, h.2.2.2 i]
    by_cases q : lo ≤ i ∧ i < k
    · rw [if_pos q, if_pos (by omega)]
    · rw [if_neg q, if_neg (by omega)]
def U16 : String := "java/lang/StringUTF16"
namespace Cmp5
def yN : MethodName := ⟨"java/lang/StringUTF16", "compress", "([CI[BII)I"⟩
abbrev yB : ByteArray := jdk_52_method_21_code
theorem d0 : decode yB 0 = .ok (.iconst 0, 1) := by decide +kernel
theorem d1 : decode yB 1 = .ok (.istore 5, 2) := by decide +kernel
theorem d3 : decode yB 3 = .ok (.iload 5, 2) := by decide +kernel
theorem d5 : decode yB 5 = .ok (.iload 4, 2) := by decide +kernel
theorem d7 : decode yB 7 = .ok (.if_icmp (.ge) 37, 3) := by decide +kernel
theorem d10 : decode yB 10 = .ok (.aload_n 0, 1) := by decide +kernel
theorem d11 : decode yB 11 = .ok (.iload_n 1, 1) := by decide +kernel
theorem d12 : decode yB 12 = .ok (.caload, 1) := by decide +kernel
theorem d13 : decode yB 13 = .ok (.istore 6, 2) := by decide +kernel
theorem d15 : decode yB 15 = .ok (.iload 6, 2) := by decide +kernel
theorem d17 : decode yB 17 = .ok (.sipush 255, 3) := by decide +kernel
theorem d20 : decode yB 20 = .ok (.if_icmp (.le) 6, 3) := by decide +kernel
theorem d26 : decode yB 26 = .ok (.aload_n 2, 1) := by decide +kernel
theorem d27 : decode yB 27 = .ok (.iload_n 3, 1) := by decide +kernel
theorem d28 : decode yB 28 = .ok (.iload 6, 2) := by decide +kernel
theorem d30 : decode yB 30 = .ok (.i2b, 1) := by decide +kernel
theorem d31 : decode yB 31 = .ok (.bastore, 1) := by decide +kernel
theorem d32 : decode yB 32 = .ok (.iinc 1 1, 3) := by decide +kernel
theorem d35 : decode yB 35 = .ok (.iinc 3 1, 3) := by decide +kernel
theorem d38 : decode yB 38 = .ok (.iinc 5 1, 3) := by decide +kernel
theorem d41 : decode yB 41 = .ok (.goto (-38), 3) := by decide +kernel
theorem d44 : decode yB 44 = .ok (.iload 4, 2) := by decide +kernel
theorem d46 : decode yB 46 = .ok (.ireturn, 1) := by decide +kernel
def site : List Cond := []
def tab : Cond := tabOf yN yB 7 (some .int) site
def P (b : Addr) (A : Cell) (d : Addr) (B : Cell) (o q len : Nat) (args : Array Value) (s : State) : Prop := args = #[.ref b, .int (Int32.ofNat o), .ref d, .int (Int32.ofNat q), .int (Int32.ofNat len)] ∧ Ch b A s ∧ Arr .byte d B s ∧ b ≠ d ∧ o + len ≤ A.slots.size ∧ q + len ≤ B.slots.size ∧ ∀ i, i < len → ¬ 255 < cv A (o + i)
def E (b : Addr) (A : Cell) (d : Addr) (B : Cell) (o q len : Nat) (r : Option Value) (s u : State) : Prop := r = some (.int (Int32.ofNat len)) ∧ ∃ B', Put d B' s u ∧ Laid B B' q (q + len) (fun j => Value.int (lo8 (cv A (o + (j - q)))))
/-- no char of the range above 255: len; the places written hold each char's low byte -/
theorem law (l : Launch) (b : Addr) (A : Cell) (d : Addr) (B : Cell) (o q len : Nat) : Law l yN 5 5 0 0 yB 7 (some .int) site (P b A d B o q len) (E b A d B o q len) (copyLocs d q len) 0 0 := by
  refine Law.of_walk (plainFor_of_name (by decide +kernel)) (by decide +kernel) (by decide +kernel) (by decide) (fun _ _ h => by rw [h.1]; rfl) (fun _ U U' hal hh h => ⟨h.1, h.2.1.mv hal hh, h.2.2.1.mv hal hh, h.2.2.2⟩) (fun r U U' V V' h1 hal h2 h => ⟨h.1, h.2.elim fun B' q => ⟨B', q.1.mv h1 h2, q.2⟩⟩) ?_
  intro p e s m args below meth c s₁ X0 hexec hbytes hml hret hlk hnm hown hh0 W hP
  obtain ⟨rfl, hA, hB, hne, l1, l2, hp⟩ := hP
  have c1 : Steps p.tables e below (s₁.setTop (entryFrame m #[.ref b, .int (Int32.ofNat o), .ref d, .int (Int32.ofNat q), .int (Int32.ofNat len)] 7)) (s₁.setTop (mkF m 0 #[.val (.ref b), .val (.int (Int32.ofNat o)), .val (.ref d), .val (.int (Int32.ofNat q)), .val (.int (Int32.ofNat len)), .unset, .unset] [])) := entry rfl
  have hA0 := hA.1.mv X0.warmed.alike hh0
  have hB0 := hB.mv X0.warmed.alike hh0
  have a31 := hA.1.2.2.2
  have c2 : Steps p.tables e below (s₁.setTop (entryFrame m #[.ref b, .int (Int32.ofNat o), .ref d, .int (Int32.ofNat q), .int (Int32.ofNat len)] 7)) (s₁.setTop (mkF m 3 #[.val (.ref b), .val (.int (Int32.ofNat o)), .val (.ref d), .val (.int (Int32.ofNat q)), .val (.int (Int32.ofNat len)), .val (.int 0), .unset] [])) := c1.trans (by
    refine iconstV X0.here hexec rfl 0 (hb hbytes d0) (by decide) ?_
    refine XS.istore X0.here hexec rfl (hb hbytes d1) rfl rfl ?_
    exact Steps.refl _)
  have loop : ∀ (r i : Nat), i + r = len → ∀ (z : Slot), (z = .unset ∨ ∃ w, z = .val w ∧ w.category = 1) → ∀ (Tl : State) (Bk : Cell), Stand p l e { frames := 0, locals := 0, cells := 0, slots := 0 } s m #[.ref b, .int (Int32.ofNat o), .ref d, .int (Int32.ofNat q), .int (Int32.ofNat len)] below meth c Tl ([] ++ copyLocs d q i) 0 0 → Put d Bk s₁ Tl → Laid B Bk q (q + i) (fun j => Value.int (lo8 (cv A (o + (j - q))))) →
      Steps p.tables e below (s₁.setTop (entryFrame m #[.ref b, .int (Int32.ofNat o), .ref d, .int (Int32.ofNat q), .int (Int32.ofNat len)] 7)) (Tl.setTop (mkF m 3 #[.val (.ref b), .val (.int (Int32.ofNat (o + i))), .val (.ref d), .val (.int (Int32.ofNat (q + i))), .val (.int (Int32.ofNat len)), .val (.int (Int32.ofNat i)), z] [])) → ∃ (T' : State) (B' : Cell) (z' : Slot), Stand p l e { frames := 0, locals := 0, cells := 0, slots := 0 } s m #[.ref b, .int (Int32.ofNat o), .ref d, .int (Int32.ofNat q), .int (Int32.ofNat len)] below meth c T' ([] ++ copyLocs d q len) 0 0 ∧ Put d B' s₁ T' ∧ Laid B B' q (q + len) (fun j => Value.int (lo8 (cv A (o + (j - q))))) ∧
      Steps p.tables e below (s₁.setTop (entryFrame m #[.ref b, .int (Int32.ofNat o), .ref d, .int (Int32.ofNat q), .int (Int32.ofNat len)] 7)) (T'.setTop (mkF m 3 #[.val (.ref b), .val (.int (Int32.ofNat (o + len))), .val (.ref d), .val (.int (Int32.ofNat (q + len))), .val (.int (Int32.ofNat len)), .val (.int (Int32.ofNat len)), z'] [])) := by
    intro r
    induction r with
    | zero =>
      intro i hi z hz Tl Bk Xl pl fl cl
      have hil : i = len := by omega
      rw [hil] at Xl fl cl
      exact ⟨Tl, Bk, z, Xl, pl, fl, cl⟩
    | succ r ih =>
      intro i hi z hz Tl Bk Xl pl fl cl
      have all := X0.warmed.alike.symm.trans Xl.warmed.alike
      have hAl := hA0.keep all (pl.other hne hA0.1)
      have hBk := hB0.like all pl.1 fl.1 fl.2.1 fl.2.2.1
      have hlt : q + i < Bk.slots.size := by rw [fl.2.2.1]; omega
      have c3 : Steps p.tables e below (s₁.setTop (entryFrame m #[.ref b, .int (Int32.ofNat o), .ref d, .int (Int32.ofNat q), .int (Int32.ofNat len)] 7)) (Tl.setTop (mkF m 12 #[.val (.ref b), .val (.int (Int32.ofNat (o + i))), .val (.ref d), .val (.int (Int32.ofNat (q + i))), .val (.int (Int32.ofNat len)), .val (.int (Int32.ofNat i)), z] [.int (Int32.ofNat (o + i)), .ref b])) := cl.trans (by
        refine XS.iload Xl.here hexec rfl (hb hbytes d3) rfl ?_
        refine XS.iload Xl.here hexec rfl (hb hbytes d5) rfl ?_
        refine XS.icmpNo Xl.here hexec rfl (hb hbytes d7) rfl (ii_ge_f (lt32 (by omega) (by omega))) ?_
        refine XS.aloadN Xl.here hexec rfl (hb hbytes d10) rfl rfl ?_
        refine XS.iloadN Xl.here hexec rfl (hb hbytes d11) rfl ?_
        exact Steps.refl _)
      have c4 : Steps p.tables e below (s₁.setTop (entryFrame m #[.ref b, .int (Int32.ofNat o), .ref d, .int (Int32.ofNat q), .int (Int32.ofNat len)] 7)) (Tl.setTop (mkF m 13 #[.val (.ref b), .val (.int (Int32.ofNat (o + i))), .val (.ref d), .val (.int (Int32.ofNat (q + i))), .val (.int (Int32.ofNat len)), .val (.int (Int32.ofNat i)), z] [.int (cv A (o + i))])) := c3.trans (by
        refine Xl.aget hexec hAl rfl (hA.get (i := o + i) (by omega)) rfl rfl (hb hbytes d12) ?_
        exact Steps.refl _)
      have c5 : Steps p.tables e below (s₁.setTop (entryFrame m #[.ref b, .int (Int32.ofNat o), .ref d, .int (Int32.ofNat q), .int (Int32.ofNat len)] 7)) (Tl.setTop (mkF m 15 #[.val (.ref b), .val (.int (Int32.ofNat (o + i))), .val (.ref d), .val (.int (Int32.ofNat (q + i))), .val (.int (Int32.ofNat len)), .val (.int (Int32.ofNat i)), .val (.int (cv A (o + i)))] [])) := c4.trans (by
        refine XS.istoreS Xl.here hexec rfl (hb hbytes d13) rfl rfl hz ?_
        exact Steps.refl _)
      have c6 : Steps p.tables e below (s₁.setTop (entryFrame m #[.ref b, .int (Int32.ofNat o), .ref d, .int (Int32.ofNat q), .int (Int32.ofNat len)] 7)) (Tl.setTop (mkF m 31 #[.val (.ref b), .val (.int (Int32.ofNat (o + i))), .val (.ref d), .val (.int (Int32.ofNat (q + i))), .val (.int (Int32.ofNat len)), .val (.int (Int32.ofNat i)), .val (.int (cv A (o + i)))] [.int (lo8 (cv A (o + i))), .int (Int32.ofNat (q + i)), .ref d])) := c5.trans (by
        refine XS.iload Xl.here hexec rfl (hb hbytes d15) rfl ?_
        refine sipushV Xl.here hexec rfl 255 (hb hbytes d17) (by decide) ?_
        refine XS.icmpYes Xl.here hexec rfl (pc0 := 20) rfl (hb hbytes d20) rfl (ii_le_t (hp i (by omega))) (by decide) rfl ?_
        refine XS.aloadN Xl.here hexec rfl (hb hbytes d26) rfl rfl ?_
        refine XS.iloadN Xl.here hexec rfl (hb hbytes d27) rfl ?_
        refine XS.iload Xl.here hexec rfl (hb hbytes d28) rfl ?_
        refine i2b Xl.here hexec rfl (hb hbytes d30) rfl ?_
        exact Steps.refl _)
      obtain ⟨T7, X7, p7, st7⟩ := Xl.aput hexec hBk rfl hlt rfl (fits_lo8 (cv A (o + i))) (g := (mkF m 31 #[.val (.ref b), .val (.int (Int32.ofNat (o + i))), .val (.ref d), .val (.int (Int32.ofNat (q + i))), .val (.int (Int32.ofNat len)), .val (.int (Int32.ofNat i)), .val (.int (cv A (o + i)))] [.int (lo8 (cv A (o + i))), .int (Int32.ofNat (q + i)), .ref d])) rfl (rest := []) rfl (hb hbytes d31)
      have c8 : Steps p.tables e below (s₁.setTop (entryFrame m #[.ref b, .int (Int32.ofNat o), .ref d, .int (Int32.ofNat q), .int (Int32.ofNat len)] 7)) (T7.setTop (mkF m 32 #[.val (.ref b), .val (.int (Int32.ofNat (o + i))), .val (.ref d), .val (.int (Int32.ofNat (q + i))), .val (.int (Int32.ofNat len)), .val (.int (Int32.ofNat i)), .val (.int (cv A (o + i)))] [])) := c6.trans (st7 _ (Steps.refl _))
      have c9 : Steps p.tables e below (s₁.setTop (entryFrame m #[.ref b, .int (Int32.ofNat o), .ref d, .int (Int32.ofNat q), .int (Int32.ofNat len)] 7)) (T7.setTop (mkF m 3 #[.val (.ref b), .val (.int (Int32.ofNat (o + i) + 1)), .val (.ref d), .val (.int (Int32.ofNat (q + i) + 1)), .val (.int (Int32.ofNat len)), .val (.int (Int32.ofNat i + 1)), .val (.int (cv A (o + i)))] [])) := c8.trans (by
        refine iincV X7.here hexec rfl 1 (hb hbytes d32) (by decide) rfl rfl ?_
        refine iincV X7.here hexec rfl 1 (hb hbytes d35) (by decide) rfl rfl ?_
        refine iincV X7.here hexec rfl 1 (hb hbytes d38) (by decide) rfl rfl ?_
        refine XS.goto X7.here hexec rfl (pc0 := 41) rfl (hb hbytes d41) (by decide) rfl ?_
        exact Steps.refl _)
      have c10 : Steps p.tables e below (s₁.setTop (entryFrame m #[.ref b, .int (Int32.ofNat o), .ref d, .int (Int32.ofNat q), .int (Int32.ofNat len)] 7)) (T7.setTop (mkF m 3 #[.val (.ref b), .val (.int (Int32.ofNat (o + (i + 1)))), .val (.ref d), .val (.int (Int32.ofNat (q + (i + 1)))), .val (.int (Int32.ofNat len)), .val (.int (Int32.ofNat (i + 1))), .val (.int (cv A (o + i)))] [])) := by
        have := c9
        rw [succ32, succ32, succ32] at this
        exact this
      exact ih (i + 1) (by omega) _ (Or.inr ⟨_, rfl, rfl⟩) T7 _ (by rw [copyLocs_step, ← List.append_assoc]; exact X7) (pl.trans p7) (fl.step (by omega) hlt (by simp)) c10
  obtain ⟨T9, B9, z9, X9, p9, f9, g9⟩ := loop len 0 (by omega) .unset (Or.inl rfl) s₁ B (by simpa [copyLocs] using X0) ⟨hB0.1, fun _ _ => rfl, rfl⟩ (Laid.zero _ _ _) c2
  have c11 : Steps p.tables e below (s₁.setTop (entryFrame m #[.ref b, .int (Int32.ofNat o), .ref d, .int (Int32.ofNat q), .int (Int32.ofNat len)] 7)) (T9.setTop (mkF m 46 #[.val (.ref b), .val (.int (Int32.ofNat (o + len))), .val (.ref d), .val (.int (Int32.ofNat (q + len))), .val (.int (Int32.ofNat len)), .val (.int (Int32.ofNat len)), z9] [.int (Int32.ofNat len)])) := g9.trans (by
    refine XS.iload X9.here hexec rfl (hb hbytes d3) rfl ?_
    refine XS.iload X9.here hexec rfl (hb hbytes d5) rfl ?_
    refine XS.icmpYes X9.here hexec rfl (pc0 := 7) rfl (hb hbytes d7) rfl (ii_ge_t (nlt32 (by omega) (Nat.le_refl _))) (by decide) rfl ?_
    refine XS.iload X9.here hexec rfl (hb hbytes d44) rfl ?_
    exact Steps.refl _)
  exact ⟨T9, some (.int (Int32.ofNat len)), _, _, _, X9, by simp, rfl, rfl, (fun h => by cases h), ⟨rfl, B9, p9.from hh0, f9⟩, fun fs hl => c11.trans (X9.ireturnOut hexec hret rfl (Or.inl rfl) (hb hbytes d46) hl)⟩
end Cmp5
namespace Cmp3
def yN : MethodName := ⟨"java/lang/StringUTF16", "compress", "([CII)[B"⟩
abbrev yB : ByteArray := jdk_52_method_16_code
theorem d0 : decode yB 0 = .ok (.iload_n 2, 1) := by decide +kernel
theorem d1 : decode yB 1 = .ok (.newarray .byte, 2) := by decide +kernel
theorem d3 : decode yB 3 = .ok (.astore_n 3, 1) := by decide +kernel
theorem d4 : decode yB 4 = .ok (.aload_n 0, 1) := by decide +kernel
theorem d5 : decode yB 5 = .ok (.iload_n 1, 1) := by decide +kernel
theorem d6 : decode yB 6 = .ok (.aload_n 3, 1) := by decide +kernel
theorem d7 : decode yB 7 = .ok (.iconst 0, 1) := by decide +kernel
theorem d8 : decode yB 8 = .ok (.iload_n 2, 1) := by decide +kernel
theorem d9 : decode yB 9 = .ok (.invokestatic 115, 3) := by decide +kernel
theorem d12 : decode yB 12 = .ok (.istore 4, 2) := by decide +kernel
theorem d14 : decode yB 14 = .ok (.iload 4, 2) := by decide +kernel
theorem d16 : decode yB 16 = .ok (.iload_n 2, 1) := by decide +kernel
theorem d17 : decode yB 17 = .ok (.if_icmp (.eq) 40, 3) := by decide +kernel
theorem d57 : decode yB 57 = .ok (.aload_n 3, 1) := by decide +kernel
theorem d58 : decode yB 58 = .ok (.areturn, 1) := by decide +kernel
def site : List Cond := [.arrayClass .byte, Cmp5.tab] ++ staticW U16 115 Cmp5.yN
def tab : Cond := tabOf yN yB 6 (some (.array .byte)) site
def P (b : Addr) (A : Cell) (o len : Nat) (args : Array Value) (s : State) : Prop := args = #[.ref b, .int (Int32.ofNat o), .int (Int32.ofNat len)] ∧ Ch b A s ∧ o + len ≤ A.slots.size ∧ len ≤ 536870912 ∧ ∀ i, i < len → ¬ 255 < cv A (o + i)
def E (b : Addr) (A : Cell) (o len : Nat) (r : Option Value) (s u : State) : Prop := NewArr .byte "[B" len (fun j => .int (lo8 (cv A (o + j)))) r s u ∧ u.heap.size = s.heap.size + 1
/-- no char of the range above 255: a new byte[] of their low bytes -/
theorem law (l : Launch) (b : Addr) (A : Cell) (o len : Nat) : Law l yN 3 3 1 18 yB 6 (some (.array .byte)) site (P b A o len) (E b A o len) [] 1 len := by
  refine Law.of_walk (plainFor_of_name (by decide +kernel)) (by decide +kernel) (by decide +kernel) (by decide) (fun _ _ h => by rw [h.1]; rfl) (fun _ U U' hal hh h => ⟨h.1, h.2.1.mv hal hh, h.2.2⟩) (fun r U U' V V' h1 hal h2 h => ⟨NewArr.mv r U U' V V' h1 hal h2 h.1, by rw [h1, h2]; exact h.2⟩) ?_
  intro p e s m args below meth c s₁ X0 hexec hbytes hml hret hlk hnm hown hh0 W hP
  obtain ⟨rfl, hA, l1, l2, hp⟩ := hP
  have a31 := hA.1.2.2.2
  have c1 : Steps p.tables e below (s₁.setTop (entryFrame m #[.ref b, .int (Int32.ofNat o), .int (Int32.ofNat len)] 6)) (s₁.setTop (mkF m 0 #[.val (.ref b), .val (.int (Int32.ofNat o)), .val (.int (Int32.ofNat len)), .unset, .unset, .unset] [])) := entry rfl
  have c2 : Steps p.tables e below (s₁.setTop (entryFrame m #[.ref b, .int (Int32.ofNat o), .int (Int32.ofNat len)] 6)) (s₁.setTop (mkF m 1 #[.val (.ref b), .val (.int (Int32.ofNat o)), .val (.int (Int32.ofNat len)), .unset, .unset, .unset] [.int (Int32.ofNat len)])) := c1.trans (by
    refine XS.iloadN X0.here hexec rfl (hb hbytes d0) rfl ?_
    exact Steps.refl _)
  obtain ⟨T3, B3, X3, ba3, bs3, bv3, bh3, bf3, st3⟩ := X0.anew hexec (atype := .byte) (wk W (.arrayClass .byte)) rfl (by show len * 1 ≤ _; omega) (by omega) (g := (mkF m 1 #[.val (.ref b), .val (.int (Int32.ofNat o)), .val (.int (Int32.ofNat len)), .unset, .unset, .unset] [.int (Int32.ofNat len)])) rfl (hb hbytes d1) (rest := []) rfl (Nat.le_refl _) (by show 0 + len ≤ len; omega)
  rw [hh0] at ba3 st3
  have kp3 : XT.Kept s T3 := (XT.Kept.of_eq hh0).push bh3
  have hA3 := hA.keep X3.warmed.alike (kp3 _ _ hA.1.1)
  have hne : b ≠ s.heap.size := hA.1.ne
  have c4 : Steps p.tables e below (s₁.setTop (entryFrame m #[.ref b, .int (Int32.ofNat o), .int (Int32.ofNat len)] 6)) (T3.setTop (mkF m 3 #[.val (.ref b), .val (.int (Int32.ofNat o)), .val (.int (Int32.ofNat len)), .unset, .unset, .unset] [.ref s.heap.size])) := c2.trans (st3 _ (Steps.refl _))
  have c5 : Steps p.tables e below (s₁.setTop (entryFrame m #[.ref b, .int (Int32.ofNat o), .int (Int32.ofNat len)] 6)) (T3.setTop (mkF m 9 #[.val (.ref b), .val (.int (Int32.ofNat o)), .val (.int (Int32.ofNat len)), .val (.ref s.heap.size), .unset, .unset] [.int (Int32.ofNat len), .int 0, .ref s.heap.size, .int (Int32.ofNat o), .ref b])) := c4.trans (by
    refine XS.astoreN X3.here hexec rfl (hb hbytes d3) rfl rfl rfl ?_
    refine XS.aloadN X3.here hexec rfl (hb hbytes d4) rfl rfl ?_
    refine XS.iloadN X3.here hexec rfl (hb hbytes d5) rfl ?_
    refine XS.aloadN X3.here hexec rfl (hb hbytes d6) rfl rfl ?_
    refine iconstV X3.here hexec rfl 0 (hb hbytes d7) (by decide) ?_
    refine XS.iloadN X3.here hexec rfl (hb hbytes d8) rfl ?_
    exact Steps.refl _)
  obtain ⟨v6, T6, X6, E6, g6⟩ := X3.callS hexec (Cmp5.law l b A s.heap.size B3 o 0 len) hown (wks W (staticW U16 115 Cmp5.yN)) (wk W Cmp5.tab) (W := 0) (Nat.le_of_ble_eq_true rfl) (Nat.le_of_ble_eq_true rfl) (Nat.le_refl _) (by show 0 + len + 0 ≤ len; omega) (g := (mkF m 9 #[.val (.ref b), .val (.int (Int32.ofNat o)), .val (.int (Int32.ofNat len)), .val (.ref s.heap.size), .unset, .unset] [.int (Int32.ofNat len), .int (Int32.ofNat 0), .ref s.heap.size, .int (Int32.ofNat o), .ref b])) rfl (by rw [hml]; rfl) c5 (argsL := [.ref b, .int (Int32.ofNat o), .ref s.heap.size, .int (Int32.ofNat 0), .int (Int32.ofNat len)]) (rest := []) rfl rfl (by show 2 * 0 + 0 ≤ _; decide) (hb hbytes d9) (⟨rfl, hA3, ba3, hne, l1, by rw [bs3]; simp, hp⟩)
  obtain ⟨rfl, B6, p6, f6⟩ := E6
  have c7 : Steps p.tables e below (s₁.setTop (entryFrame m #[.ref b, .int (Int32.ofNat o), .int (Int32.ofNat len)] 6)) (T6.setTop (mkF m 12 #[.val (.ref b), .val (.int (Int32.ofNat o)), .val (.int (Int32.ofNat len)), .val (.ref s.heap.size), .unset, .unset] [.int (Int32.ofNat len)])) := g6
  have c8 : Steps p.tables e below (s₁.setTop (entryFrame m #[.ref b, .int (Int32.ofNat o), .int (Int32.ofNat len)] 6)) (T6.setTop (mkF m 58 #[.val (.ref b), .val (.int (Int32.ofNat o)), .val (.int (Int32.ofNat len)), .val (.ref s.heap.size), .val (.int (Int32.ofNat len)), .unset] [.ref s.heap.size])) := c7.trans (by
    refine XS.istore X6.here hexec rfl (hb hbytes d12) rfl rfl ?_
    refine XS.iload X6.here hexec rfl (hb hbytes d14) rfl ?_
    refine XS.iloadN X6.here hexec rfl (hb hbytes d16) rfl ?_
    refine XS.icmpYes X6.here hexec rfl (pc0 := 17) rfl (hb hbytes d17) rfl (ii_eq_t rfl) (by decide) rfl ?_
    refine XS.aloadN X6.here hexec rfl (hb hbytes d57) rfl rfl ?_
    exact Steps.refl _)
  have X8 := X6.wide (L' := []) (cells' := 1) (slots' := len) (fun x hx hlt => by
    simp only [List.nil_append, copyLocs, List.mem_map, List.mem_range] at hx
    obtain ⟨i, -, rfl⟩ := hx
    exact absurd hlt (Nat.lt_irrefl _)) (Nat.le_refl _) (by omega)
  exact ⟨T6, some (.ref s.heap.size), _, _, _, X8, rfl, rfl, rfl, (fun h => by cases h), ⟨⟨rfl, B6, ba3.like (X3.warmed.alike.symm.trans X6.warmed.alike) p6.1 f6.1 f6.2.1 f6.2.2.1, f6.2.1.trans bv3, by rw [X6.warmed.alike.findClass, f6.1]; exact bf3, by rw [f6.2.2.1, bs3]; simp, fun j hj => by rw [f6.2.2.2 j, if_pos (by omega)]; rfl, kp3.put p6 (Nat.le_refl _)⟩, by rw [p6.2.2, bh3, hh0]; simp⟩, fun fs hl => c8.trans (X8.areturnOut hexec rfl hret rfl (hb hbytes d58) hl)⟩
end Cmp3
namespace CodL
def yN : MethodName := ⟨"java/lang/StringUTF16", "coderFromArrayLen", "([BI)B"⟩
abbrev yB : ByteArray := jdk_52_method_15_code
theorem d0 : decode yB 0 = .ok (.iload_n 1, 1) := by decide +kernel
theorem d1 : decode yB 1 = .ok (.aload_n 0, 1) := by decide +kernel
theorem d2 : decode yB 2 = .ok (.arraylength, 1) := by decide +kernel
theorem d3 : decode yB 3 = .ok (.isub, 1) := by decide +kernel
theorem d4 : decode yB 4 = .ok (.bipush 31, 2) := by decide +kernel
theorem d6 : decode yB 6 = .ok (.iushr, 1) := by decide +kernel
theorem d7 : decode yB 7 = .ok (.i2b, 1) := by decide +kernel
theorem d8 : decode yB 8 = .ok (.ireturn, 1) := by decide +kernel
def site : List Cond := []
def tab : Cond := tabOf yN yB 2 (some .byte) site
def P (d : Addr) (B : Cell) (args : Array Value) (s : State) : Prop := args = #[.ref d, .int (Int32.ofNat B.slots.size)] ∧ Arr .byte d B s
def E (r : Option Value) (s u : State) : Prop := XT.PureE (some (.int 0)) r s u
/-- an array as long as the number of chars: LATIN1 -/
theorem law (l : Launch) (d : Addr) (B : Cell) : Law l yN 2 2 0 0 yB 2 (some .byte) site (P d B) E [] 0 0 := by
  refine Law.of_walk (plainFor_of_name (by decide +kernel)) (by decide +kernel) (by decide +kernel) (by decide) (fun _ _ h => by rw [h.1]; rfl) (fun _ U U' hal hh h => ⟨h.1, h.2.mv hal hh⟩) (fun r U U' V V' h1 hal h2 h => XT.PureE.mv r U U' V V' h1 hal h2 h) ?_
  intro p e s m args below meth c s₁ X0 hexec hbytes hml hret hlk hnm hown hh0 W hP
  obtain ⟨rfl, hB⟩ := hP
  have hB0 := hB.mv X0.warmed.alike hh0
  have c1 : Steps p.tables e below (s₁.setTop (entryFrame m #[.ref d, .int (Int32.ofNat B.slots.size)] 2)) (s₁.setTop (mkF m 0 #[.val (.ref d), .val (.int (Int32.ofNat B.slots.size))] [])) := entry rfl
  have c2 : Steps p.tables e below (s₁.setTop (entryFrame m #[.ref d, .int (Int32.ofNat B.slots.size)] 2)) (s₁.setTop (mkF m 2 #[.val (.ref d), .val (.int (Int32.ofNat B.slots.size))] [.ref d, .int (Int32.ofNat B.slots.size)])) := c1.trans (by
    refine XS.iloadN X0.here hexec rfl (hb hbytes d0) rfl ?_
    refine XS.aloadN X0.here hexec rfl (hb hbytes d1) rfl rfl ?_
    exact Steps.refl _)
  have c3 : Steps p.tables e below (s₁.setTop (entryFrame m #[.ref d, .int (Int32.ofNat B.slots.size)] 2)) (s₁.setTop (mkF m 8 #[.val (.ref d), .val (.int (Int32.ofNat B.slots.size))] [.int (lo8 (ushr (Int32.ofNat B.slots.size - Int32.ofNat B.slots.size) 31))])) := c2.trans (by
    refine X0.alen hexec hB0 rfl rfl (hb hbytes d2) ?_
    refine XS.isub X0.here hexec rfl (hb hbytes d3) rfl ?_
    refine bipushV X0.here hexec rfl 31 (hb hbytes d4) (by decide) ?_
    refine iushr X0.here hexec rfl (hb hbytes d6) rfl ?_
    refine i2b X0.here hexec rfl (hb hbytes d7) rfl ?_
    exact Steps.refl _)
  have e0 : lo8 (ushr (Int32.ofNat B.slots.size - Int32.ofNat B.slots.size) 31) = 0 := by rw [Int32.sub_self]; decide
  rw [e0] at c3
  exact ⟨s₁, some (.int 0), _, _, _, X0, rfl, rfl, rfl, (fun h => by cases h), ⟨rfl, hh0⟩, fun fs hl => c3.trans (X0.ireturnOut hexec hret rfl (Or.inr (Or.inr (Or.inl rfl))) (hb hbytes d8) hl)⟩
end CodL
/-- the String at a is Latin-1 over a new byte[] (the heap's one new cell): the low bytes of the len chars of A from o on; every cell but a is kept -/
def Got (a : Addr) (D : Cell) (fV fC : Field) (A : Cell) (o len : Nat) (r : Option Value) (s u : State) : Prop := r = none ∧ ∃ D' V : Cell, Blank "java/lang/String" a D' u ∧ Same D D' [fV.slot, fC.slot] ∧ D'.slots[fV.slot]? = some (.ref s.heap.size) ∧ D'.slots[fC.slot]? = some (.int 0) ∧ Arr .byte s.heap.size V u ∧ V.vm = .none ∧ u.vm.findClass "[B" = some V.cls ∧ V.slots.size = len ∧ (∀ j, j < len → V.slots[j]? = some (.int (lo8 (cv A (o + j))))) ∧ (∀ (y : Addr) (c : Cell), y ≠ a → s.heap[y]? = some c → u.heap[y]? = some c) ∧ u.heap.size = s.heap.size + 1
theorem Got.mv {a : Addr} {D A : Cell} {fV fC : Field} {o len : Nat} : ∀ r (U U' V V' : State), U'.heap = U.heap → V.vm.Alike V'.vm → V'.heap = V.heap → Got a D fV fC A o len r U V → Got a D fV fC A o len r U' V' :=
  fun r U U' V V' h1 hal h2 ⟨e0, D', X, a1, a2, a3, a4, a5, a6, a7, a8, a9, a10, a11⟩ => ⟨e0, D', X, a1.mv hal h2, a2, by rw [h1]; exact a3, a4, by rw [h1]; exact a5.mv hal h2, a6, by rw [hal.findClass]; exact a7, a8, a9, by rw [h1, h2]; exact a10, by rw [h1, h2]; exact a11⟩
namespace New4
def yN : MethodName := ⟨"java/lang/String", "<init>", "([CIILjava/lang/Void;)V"⟩
abbrev yB : ByteArray := jdk_42_method_149_code
theorem d0 : decode yB 0 = .ok (.aload_n 0, 1) := by decide +kernel
theorem d1 : decode yB 1 = .ok (.invokespecial 1, 3) := by decide +kernel
theorem d4 : decode yB 4 = .ok (.iload_n 3, 1) := by decide +kernel
theorem d5 : decode yB 5 = .ok (.ifCond (.ne) 22, 3) := by decide +kernel
theorem d27 : decode yB 27 = .ok (.getstatic 38, 3) := by decide +kernel
theorem d30 : decode yB 30 = .ok (.ifCond (.eq) 28, 3) := by decide +kernel
theorem d33 : decode yB 33 = .ok (.aload_n 1, 1) := by decide +kernel
theorem d34 : decode yB 34 = .ok (.iload_n 2, 1) := by decide +kernel
theorem d35 : decode yB 35 = .ok (.iload_n 3, 1) := by decide +kernel
theorem d36 : decode yB 36 = .ok (.invokestatic 177, 3) := by decide +kernel
theorem d39 : decode yB 39 = .ok (.astore 5, 2) := by decide +kernel
theorem d41 : decode yB 41 = .ok (.aload_n 0, 1) := by decide +kernel
theorem d42 : decode yB 42 = .ok (.aload 5, 2) := by decide +kernel
theorem d44 : decode yB 44 = .ok (.iload_n 3, 1) := by decide +kernel
theorem d45 : decode yB 45 = .ok (.invokestatic 47, 3) := by decide +kernel
theorem d48 : decode yB 48 = .ok (.putfield 15, 3) := by decide +kernel
theorem d51 : decode yB 51 = .ok (.aload_n 0, 1) := by decide +kernel
theorem d52 : decode yB 52 = .ok (.aload 5, 2) := by decide +kernel
theorem d54 : decode yB 54 = .ok (.putfield 9, 3) := by decide +kernel
theorem d57 : decode yB 57 = .ok (.return_, 1) := by decide +kernel
def site : List Cond := [.fieldLink "java/lang/String" 38 "java/lang/String" "COMPACT_STRINGS" "Z", Cmp3.tab, CodL.tab, .laysFinal "java/lang/String" "java/lang/String" "value" "[B", .fieldLink "java/lang/String" 9 "java/lang/String" "value" "[B", .laysFinal "java/lang/String" "java/lang/String" "coder" "B", .fieldLink "java/lang/String" 15 "java/lang/String" "coder" "B"] ++ objW "java/lang/String" 1 ++ staticW "java/lang/String" 177 Cmp3.yN ++ staticW "java/lang/String" 47 CodL.yN
def tab : Cond := tabOf yN yB 6 none site
def P (a : Addr) (D : Cell) (fV fC : Field) (b : Addr) (A : Cell) (z : Int32) (o len : Nat) (args : Array Value) (s : State) : Prop := args = #[.ref a, .ref b, .int (Int32.ofNat o), .int (Int32.ofNat len), .null] ∧ Blank "java/lang/String" a D s ∧ Found "java/lang/String" "value" "[B" fV s ∧ Found "java/lang/String" "coder" "B" fC s ∧ Ch b A s ∧ StaticIs s "java/lang/String" "COMPACT_STRINGS" "Z" (.int z) ∧ ¬ z = 0 ∧ 0 < len ∧ o + len ≤ A.slots.size ∧ len ≤ 536870912 ∧ ∀ i, i < len → ¬ 255 < cv A (o + i)
def E (a : Addr) (D : Cell) (fV fC : Field) (A : Cell) (o len : Nat) (r : Option Value) (s u : State) : Prop := Got a D fV fC A o len r s u
/-- len > 0, no char of the range above 255: a Latin-1 String of their low bytes -/
theorem law (l : Launch) (a : Addr) (D : Cell) (fV fC : Field) (b : Addr) (A : Cell) (z : Int32) (o len : Nat) : Law l yN 5 4 2 35 yB 6 none site (P a D fV fC b A z o len) (E a D fV fC A o len) [⟨a, fC.slot⟩, ⟨a, fV.slot⟩] 1 len := by
  refine Law.of_walk (plainFor_of_name (by decide +kernel)) (by decide +kernel) (by decide +kernel) (by decide) (fun _ _ h => by rw [h.1]; rfl) (fun _ U U' hal hh h => ⟨h.1, h.2.1.mv hal hh, h.2.2.1.al hal, h.2.2.2.1.al hal, h.2.2.2.2.1.mv hal hh, h.2.2.2.2.2.1.there hal hh, h.2.2.2.2.2.2⟩) (fun r U U' V V' h1 hal h2 h => Got.mv r U U' V V' h1 hal h2 h) ?_
  intro p e s m args below meth c s₁ X0 hexec hbytes hml hret hlk hnm hown hh0 W hP
  obtain ⟨rfl, hB, f1, f2, hA, s1, hz, l0, l1, l2, hp⟩ := hP
  have a31 := hA.1.2.2.2
  have c1 : Steps p.tables e below (s₁.setTop (entryFrame m #[.ref a, .ref b, .int (Int32.ofNat o), .int (Int32.ofNat len), .null] 6)) (s₁.setTop (mkF m 0 #[.val (.ref a), .val (.ref b), .val (.int (Int32.ofNat o)), .val (.int (Int32.ofNat len)), .val .null, .unset] [])) := entry rfl
  have c2 : Steps p.tables e below (s₁.setTop (entryFrame m #[.ref a, .ref b, .int (Int32.ofNat o), .int (Int32.ofNat len), .null] 6)) (s₁.setTop (mkF m 1 #[.val (.ref a), .val (.ref b), .val (.int (Int32.ofNat o)), .val (.int (Int32.ofNat len)), .val .null, .unset] [.ref a])) := c1.trans (by
    refine XS.aloadN X0.here hexec rfl (hb hbytes d0) rfl rfl ?_
    exact Steps.refl _)
  obtain ⟨T3, X3, q3, st3⟩ := X0.oinit hexec hown (wks W (objW "java/lang/String" 1)) (g := (mkF m 1 #[.val (.ref a), .val (.ref b), .val (.int (Int32.ofNat o)), .val (.int (Int32.ofNat len)), .val .null, .unset] [.ref a])) rfl (by rw [hml]; rfl) (rest := []) rfl (hb hbytes d1) (W := 0) (by show 2 * 0 + 0 ≤ _; decide) (Nat.le_of_ble_eq_true rfl) (Nat.le_of_ble_eq_true rfl)
  have hh3 := q3.trans hh0
  have c4 : Steps p.tables e below (s₁.setTop (entryFrame m #[.ref a, .ref b, .int (Int32.ofNat o), .int (Int32.ofNat len), .null] 6)) (T3.setTop (mkF m 27 #[.val (.ref a), .val (.ref b), .val (.int (Int32.ofNat o)), .val (.int (Int32.ofNat len)), .val .null, .unset] [])) := (c2.trans (st3 _ (Steps.refl _))).trans (by
    refine XS.iloadN X3.here hexec rfl (hb hbytes d4) rfl ?_
    refine XS.ifYes X3.here hexec rfl (pc0 := 5) rfl (hb hbytes d5) rfl (i0_ne_t (nz32 (by omega) l0)) (by decide) rfl ?_
    exact Steps.refl _)
  obtain ⟨T5, X5, q5, st5⟩ := X3.sget hexec hown (wk W (.fieldLink "java/lang/String" 38 "java/lang/String" "COMPACT_STRINGS" "Z")) s1 (fun _ _ h => by rw [hh3]; exact h) (g := (mkF m 27 #[.val (.ref a), .val (.ref b), .val (.int (Int32.ofNat o)), .val (.int (Int32.ofNat len)), .val .null, .unset] [])) rfl (hb hbytes d27)
  have hh5 := q5.trans hh3
  have c6 : Steps p.tables e below (s₁.setTop (entryFrame m #[.ref a, .ref b, .int (Int32.ofNat o), .int (Int32.ofNat len), .null] 6)) (T5.setTop (mkF m 30 #[.val (.ref a), .val (.ref b), .val (.int (Int32.ofNat o)), .val (.int (Int32.ofNat len)), .val .null, .unset] [.int z])) := c4.trans (st5 _ (Steps.refl _))
  have c7 : Steps p.tables e below (s₁.setTop (entryFrame m #[.ref a, .ref b, .int (Int32.ofNat o), .int (Int32.ofNat len), .null] 6)) (T5.setTop (mkF m 36 #[.val (.ref a), .val (.ref b), .val (.int (Int32.ofNat o)), .val (.int (Int32.ofNat len)), .val .null, .unset] [.int (Int32.ofNat len), .int (Int32.ofNat o), .ref b])) := c6.trans (by
    refine XS.ifNo X5.here hexec rfl (hb hbytes d30) rfl (i0_eq_f hz) ?_
    refine XS.aloadN X5.here hexec rfl (hb hbytes d33) rfl rfl ?_
    refine XS.iloadN X5.here hexec rfl (hb hbytes d34) rfl ?_
    refine XS.iloadN X5.here hexec rfl (hb hbytes d35) rfl ?_
    exact Steps.refl _)
  obtain ⟨v8, T8, X8, E8, g8⟩ := X5.callS hexec (Cmp3.law l b A o len) hown (wks W (staticW "java/lang/String" 177 Cmp3.yN)) (wk W Cmp3.tab) (W := 0) (Nat.le_of_ble_eq_true rfl) (Nat.le_of_ble_eq_true rfl) (Nat.le_refl _) (by show 0 + len ≤ len; omega) (g := (mkF m 36 #[.val (.ref a), .val (.ref b), .val (.int (Int32.ofNat o)), .val (.int (Int32.ofNat len)), .val .null, .unset] [.int (Int32.ofNat len), .int (Int32.ofNat o), .ref b])) rfl (by rw [hml]; rfl) c7 (argsL := [.ref b, .int (Int32.ofNat o), .int (Int32.ofNat len)]) (rest := []) rfl rfl (by show 2 * 0 + 0 ≤ _; decide) (hb hbytes d36) (⟨rfl, hA.mv X5.warmed.alike hh5, l1, l2, hp⟩)
  obtain ⟨e8, z8⟩ := E8
  obtain ⟨rfl, N, n1, n2, n3, n4, n5, n6⟩ := NewArr.mv _ T5 s _ _ hh5.symm (Vm.Alike.refl _) rfl e8
  rw [hh5] at z8
  have hB1 := hB.keep X8.warmed.alike (n6 _ _ hB.1)
  have hne : s.heap.size ≠ a := (Nat.ne_of_lt (Array.getElem?_eq_some_iff.mp hB.1).1).symm
  have c9 : Steps p.tables e below (s₁.setTop (entryFrame m #[.ref a, .ref b, .int (Int32.ofNat o), .int (Int32.ofNat len), .null] 6)) (T8.setTop (mkF m 39 #[.val (.ref a), .val (.ref b), .val (.int (Int32.ofNat o)), .val (.int (Int32.ofNat len)), .val .null, .unset] [.ref s.heap.size])) := g8
  have c10 : Steps p.tables e below (s₁.setTop (entryFrame m #[.ref a, .ref b, .int (Int32.ofNat o), .int (Int32.ofNat len), .null] 6)) (T8.setTop (mkF m 45 #[.val (.ref a), .val (.ref b), .val (.int (Int32.ofNat o)), .val (.int (Int32.ofNat len)), .val .null, .val (.ref s.heap.size)] [.int (Int32.ofNat N.slots.size), .ref s.heap.size, .ref a])) := by
    have hc : Steps p.tables e below (s₁.setTop (entryFrame m #[.ref a, .ref b, .int (Int32.ofNat o), .int (Int32.ofNat len), .null] 6)) (T8.setTop (mkF m 45 #[.val (.ref a), .val (.ref b), .val (.int (Int32.ofNat o)), .val (.int (Int32.ofNat len)), .val .null, .val (.ref s.heap.size)] [.int (Int32.ofNat len), .ref s.heap.size, .ref a])) := c9.trans (by
      refine XS.astore X8.here hexec rfl (hb hbytes d39) rfl rfl rfl ?_
      refine XS.aloadN X8.here hexec rfl (hb hbytes d41) rfl rfl ?_
      refine XS.aload X8.here hexec rfl (hb hbytes d42) rfl rfl ?_
      refine XS.iloadN X8.here hexec rfl (hb hbytes d44) rfl ?_
      exact Steps.refl _)
    rw [n4]; exact hc
  obtain ⟨v11, T11, X11, E11, g11⟩ := X8.callS hexec (CodL.law l s.heap.size N) hown (wks W (staticW "java/lang/String" 47 CodL.yN)) (wk W CodL.tab) (W := 1) (Nat.le_of_ble_eq_true rfl) (Nat.le_of_ble_eq_true rfl) (Nat.le_refl _) (by show 0 + len + 0 ≤ len; omega) (g := (mkF m 45 #[.val (.ref a), .val (.ref b), .val (.int (Int32.ofNat o)), .val (.int (Int32.ofNat len)), .val .null, .val (.ref s.heap.size)] [.int (Int32.ofNat N.slots.size), .ref s.heap.size, .ref a])) rfl (by rw [hml]; rfl) c10 (argsL := [.ref s.heap.size, .int (Int32.ofNat N.slots.size)]) (rest := [.ref a]) rfl rfl (by show 2 * 0 + (1 + 0) ≤ _; decide) (hb hbytes d45) (⟨rfl, n1⟩)
  obtain ⟨rfl, q11⟩ := E11
  have hB11 := hB1.mv (X8.warmed.alike.symm.trans X11.warmed.alike) q11
  have c12 : Steps p.tables e below (s₁.setTop (entryFrame m #[.ref a, .ref b, .int (Int32.ofNat o), .int (Int32.ofNat len), .null] 6)) (T11.setTop (mkF m 48 #[.val (.ref a), .val (.ref b), .val (.int (Int32.ofNat o)), .val (.int (Int32.ofNat len)), .val .null, .val (.ref s.heap.size)] [.int 0, .ref a])) := g11
  obtain ⟨T13, X13, p13, bl13, sl13, st13⟩ := X11.finit hexec hown (wk W (.fieldLink "java/lang/String" 15 "java/lang/String" "coder" "B")) (Or.inr ⟨_, (wk W (.laysFinal "java/lang/String" "java/lang/String" "coder" "B"))⟩) (Or.inl ⟨rfl, hnm⟩) f2 (Or.inl rfl) hB11 (t := .byte) (by decide +kernel) rfl (g := (mkF m 48 #[.val (.ref a), .val (.ref b), .val (.int (Int32.ofNat o)), .val (.int (Int32.ofNat len)), .val .null, .val (.ref s.heap.size)] [.int 0, .ref a])) rfl (rest := []) rfl (hb hbytes d48)
  have c14 : Steps p.tables e below (s₁.setTop (entryFrame m #[.ref a, .ref b, .int (Int32.ofNat o), .int (Int32.ofNat len), .null] 6)) (T13.setTop (mkF m 54 #[.val (.ref a), .val (.ref b), .val (.int (Int32.ofNat o)), .val (.int (Int32.ofNat len)), .val .null, .val (.ref s.heap.size)] [.ref s.heap.size, .ref a])) := (c12.trans (st13 _ (Steps.refl _))).trans (by
    refine XS.aloadN X13.here hexec rfl (hb hbytes d51) rfl rfl ?_
    refine XS.aload X13.here hexec rfl (hb hbytes d52) rfl rfl ?_
    exact Steps.refl _)
  obtain ⟨T15, X15, p15, bl15, sl15, st15⟩ := X13.finit hexec hown (wk W (.fieldLink "java/lang/String" 9 "java/lang/String" "value" "[B")) (Or.inr ⟨_, (wk W (.laysFinal "java/lang/String" "java/lang/String" "value" "[B"))⟩) (Or.inl ⟨rfl, hnm⟩) f1 (Or.inl rfl) bl13 (t := (.array .byte)) (by decide +kernel) rfl (g := (mkF m 54 #[.val (.ref a), .val (.ref b), .val (.int (Int32.ofNat o)), .val (.int (Int32.ofNat len)), .val .null, .val (.ref s.heap.size)] [.ref s.heap.size, .ref a])) rfl (rest := []) rfl (hb hbytes d54)
  have c16 : Steps p.tables e below (s₁.setTop (entryFrame m #[.ref a, .ref b, .int (Int32.ofNat o), .int (Int32.ofNat len), .null] 6)) (T15.setTop (mkF m 57 #[.val (.ref a), .val (.ref b), .val (.int (Int32.ofNat o)), .val (.int (Int32.ofNat len)), .val .null, .val (.ref s.heap.size)] [])) := c14.trans (st15 _ (Steps.refl _))
  have ap := apart (Or.inr ⟨_, (wk W (.laysFinal "java/lang/String" "java/lang/String" "value" "[B"))⟩) (Or.inr ⟨_, (wk W (.laysFinal "java/lang/String" "java/lang/String" "coder" "B"))⟩) f1 f2 (t₁ := .array .byte) (t₂ := .byte) (by decide +kernel) (by decide +kernel) (by decide)
  have al := X8.warmed.alike.symm.trans X15.warmed.alike
  have n7 : T11.heap[s.heap.size]? = some N := by rw [q11]; exact n1.1
  exact ⟨T15, none, _, _, _, X15, by simp, rfl, by omega, (fun _ => rfl), ⟨rfl, _, N, bl15, ((Same.refl D _).set _ (by simp)).set _ (by simp), sl15, (Cell.slots_setSlot_ne _ ap).trans sl13, n1.keep al (p15.other hne (p13.other hne n7)), n2, by rw [al.findClass]; exact n3, n4, n5, fun y c h1 h2 => p15.other h1 (p13.other h1 (by rw [q11]; exact n6 y c h2)), by rw [p15.2.2, p13.2.2, q11]; exact z8⟩, fun fs hl => c16.trans (X15.returnOut hexec hret (hb hbytes d57) hl)⟩
end New4
namespace New1
def yN : MethodName := ⟨"java/lang/String", "<init>", "([C)V"⟩
abbrev yB : ByteArray := jdk_42_method_3_code
theorem d0 : decode yB 0 = .ok (.aload_n 0, 1) := by decide +kernel
theorem d1 : decode yB 1 = .ok (.aload_n 1, 1) := by decide +kernel
theorem d2 : decode yB 2 = .ok (.iconst 0, 1) := by decide +kernel
theorem d3 : decode yB 3 = .ok (.aload_n 1, 1) := by decide +kernel
theorem d4 : decode yB 4 = .ok (.arraylength, 1) := by decide +kernel
theorem d5 : decode yB 5 = .ok (.aconst_null, 1) := by decide +kernel
theorem d6 : decode yB 6 = .ok (.invokespecial 27, 3) := by decide +kernel
theorem d9 : decode yB 9 = .ok (.return_, 1) := by decide +kernel
def site : List Cond := [New4.tab] ++ initW "java/lang/String" 27 New4.yN
def tab : Cond := tabOf yN yB 2 none site
def P (a : Addr) (D : Cell) (fV fC : Field) (b : Addr) (A : Cell) (z : Int32) (args : Array Value) (s : State) : Prop := args = #[.ref a, .ref b] ∧ Blank "java/lang/String" a D s ∧ Found "java/lang/String" "value" "[B" fV s ∧ Found "java/lang/String" "coder" "B" fC s ∧ Ch b A s ∧ StaticIs s "java/lang/String" "COMPACT_STRINGS" "Z" (.int z) ∧ ¬ z = 0 ∧ 0 < A.slots.size ∧ A.slots.size ≤ 536870912 ∧ ∀ i, i < A.slots.size → ¬ 255 < cv A i
def E (a : Addr) (D : Cell) (fV fC : Field) (A : Cell) (r : Option Value) (s u : State) : Prop := Got a D fV fC A 0 A.slots.size r s u
/-- new String(chars), not empty, no char above 255: a Latin-1 String of their low bytes -/
theorem law (l : Launch) (a : Addr) (D : Cell) (fV fC : Field) (b : Addr) (A : Cell) (z : Int32) : Law l yN 2 1 3 52 yB 2 none site (P a D fV fC b A z) (E a D fV fC A) [⟨a, fC.slot⟩, ⟨a, fV.slot⟩] 1 A.slots.size := by
  refine Law.of_walk (plainFor_of_name (by decide +kernel)) (by decide +kernel) (by decide +kernel) (by decide) (fun _ _ h => by rw [h.1]; rfl) (fun _ U U' hal hh h => ⟨h.1, h.2.1.mv hal hh, h.2.2.1.al hal, h.2.2.2.1.al hal, h.2.2.2.2.1.mv hal hh, h.2.2.2.2.2.1.there hal hh, h.2.2.2.2.2.2⟩) (fun r U U' V V' h1 hal h2 h => Got.mv r U U' V V' h1 hal h2 h) ?_
  intro p e s m args below meth c s₁ X0 hexec hbytes hml hret hlk hnm hown hh0 W hP
  obtain ⟨rfl, hB, f1, f2, hA, s1, hz, l0, l2, hp⟩ := hP
  have c1 : Steps p.tables e below (s₁.setTop (entryFrame m #[.ref a, .ref b] 2)) (s₁.setTop (mkF m 0 #[.val (.ref a), .val (.ref b)] [])) := entry rfl
  have c2 : Steps p.tables e below (s₁.setTop (entryFrame m #[.ref a, .ref b] 2)) (s₁.setTop (mkF m 6 #[.val (.ref a), .val (.ref b)] [.null, .int (Int32.ofNat A.slots.size), .int 0, .ref b, .ref a])) := c1.trans (by
    refine XS.aloadN X0.here hexec rfl (hb hbytes d0) rfl rfl ?_
    refine XS.aloadN X0.here hexec rfl (hb hbytes d1) rfl rfl ?_
    refine iconstV X0.here hexec rfl 0 (hb hbytes d2) (by decide) ?_
    refine XS.aloadN X0.here hexec rfl (hb hbytes d3) rfl rfl ?_
    refine X0.alen hexec (hA.1.mv X0.warmed.alike hh0) rfl rfl (hb hbytes d4) ?_
    refine XS.aconstNull X0.here hexec rfl (hb hbytes d5) ?_
    exact Steps.refl _)
  obtain ⟨v3, T3, X3, E3, g3⟩ := X0.callN hexec (New4.law l a D fV fC b A z 0 A.slots.size) rfl hown (wks W (initW "java/lang/String" 27 New4.yN)) (W New4.tab (by simp only [site, List.mem_cons, List.mem_append, true_or, or_true])) (W := 0) (Nat.le_of_ble_eq_true rfl) (Nat.le_of_ble_eq_true rfl) (Nat.le_refl _) (by show 0 + A.slots.size ≤ A.slots.size; omega) (g := (mkF m 6 #[.val (.ref a), .val (.ref b)] [.null, .int (Int32.ofNat A.slots.size), .int (Int32.ofNat 0), .ref b, .ref a])) rfl (by rw [hml]; rfl) c2 (argsL := [.ref b, .int (Int32.ofNat 0), .int (Int32.ofNat A.slots.size), .null]) (rest := []) rfl rfl (by show 2 * 0 + 0 ≤ _; decide) (hb hbytes d6) (⟨rfl, hB.mv X0.warmed.alike hh0, f1.al X0.warmed.alike, f2.al X0.warmed.alike, hA.mv X0.warmed.alike hh0, s1.there X0.warmed.alike hh0, hz, l0, by omega, l2, fun i hi => by rw [Nat.zero_add]; exact hp i hi⟩)
  have e0 := Got.mv _ s₁ s _ _ hh0.symm (Vm.Alike.refl _) rfl E3
  obtain rfl := e0.1
  have c4 : Steps p.tables e below (s₁.setTop (entryFrame m #[.ref a, .ref b] 2)) (T3.setTop (mkF m 9 #[.val (.ref a), .val (.ref b)] [])) := g3
  exact ⟨T3, none, _, _, _, X3, by simp, rfl, by omega, (fun _ => rfl), e0, fun fs hl => c4.trans (X3.returnOut hexec hret (hb hbytes d9) hl)⟩
theorem pays {l : Launch} {R : Room} {p : Program} {e : Env} {below : List Frame} {s : State} {sargs : Array Value} {len W : Nat} (a : Addr) (D : Cell) (fV fC : Field) (b : Addr) (A : Cell) (z : Int32) (htab : tab.before sargs s = true) (hfr : 4 ≤ R.frames) (hlo : W + 65 ≤ R.locals) :
    Back l R p e below s sargs yN len W (fun A₁ a₁ => A₁.cells + 1 ≤ R.cells ∧ A₁.slots + A.slots.size ≤ R.slots ∧ P a D fV fC b A z a₁ A₁.U) (fun A₁ _ v₁ B₁ => E a D fV fC A v₁ A₁.U B₁.U ∧ B₁.locs = A₁.locs ++ [⟨a, fC.slot⟩, ⟨a, fV.slot⟩] ∧ B₁.cells = A₁.cells + 1 ∧ B₁.slots = A₁.slots + A.slots.size) :=
  (law l a D fV fC b A z).pays htab hfr (by omega)
end New1
/-- the byte, read back as charAt reads it, is the char -/
theorem lo8_mask {x : Int32} (h0 : ¬ x < 0) (h1 : ¬ 255 < x) : lo8 x &&& 255 = x := by
  have t : ∀ k : Fin 256, lo8 (Int32.ofNat k.val) &&& 255 = Int32.ofNat k.val := by decide +kernel
  rw [Int32.lt_iff_toInt_lt] at h0 h1
  have e0 : (0 : Int32).toInt = 0 := rfl
  have e1 : (255 : Int32).toInt = 255 := rfl
  obtain ⟨k, hk⟩ : ∃ k : Nat, x.toInt = k := ⟨x.toInt.toNat, by omega⟩
  have hx : x = Int32.ofNat k := Int32.toInt_inj.mp (by rw [hk, Int32.toInt_ofNat_small (by omega)])
  rw [hx]
  exact t ⟨k, by omega⟩
end StrChars
namespace StrChars.Road
open Jvm Sem ClassFile Op Lib Jvm.Stand Jvm.Free Jvm.Free.XT
open Jvm.Lib.Cold (StaticIs)
abbrev ST : String := "java/lang/String"
/-- every table word that New1's law asks, flat -/
abbrev words : List Jvm.Cond := [.code New1.yN New1.yB 2 none, .initialized ST, .methodLink ST 27 New4.yN, .instanceMethod New4.yN,
  .code New4.yN New4.yB 6 none, .fieldLink ST 38 ST "COMPACT_STRINGS" "Z", .laysFinal ST ST "value" "[B", .fieldLink ST 9 ST "value" "[B", .laysFinal ST ST "coder" "B", .fieldLink ST 15 ST "coder" "B",
  .methodLink ST 1 Lib.objectInit, .instanceMethod Lib.objectInit, .code Lib.objectInit ⟨#[0xb1]⟩ 1 none, .methodLink ST 177 Cmp3.yN, .static Cmp3.yN, .methodLink ST 47 CodL.yN, .static CodL.yN,
  .code Cmp3.yN Cmp3.yB 6 (some (.array .byte)), .initialized U16, .arrayClass .byte, .methodLink U16 115 Cmp5.yN, .static Cmp5.yN, .code Cmp5.yN Cmp5.yB 7 (some .int), .code CodL.yN CodL.yB 2 (some .byte)]
theorem tab_of {a : Array Value} {s : State} (h : ∀ w ∈ words, w.before a s = true) : New1.tab.before a s = true := by
  have h5 : Cmp5.tab.before a s = true := unparts (wk h (.code Cmp5.yN Cmp5.yB 7 (some .int))) (wks h (.initialized Cmp5.yN.cls :: Cmp5.site))
  have hc : CodL.tab.before a s = true := unparts (wk h (.code CodL.yN CodL.yB 2 (some .byte))) (wks h (.initialized CodL.yN.cls :: CodL.site))
  have q5 : ∀ w ∈ Cmp5.tab :: words, w.before a s = true := fun w hw => (List.mem_cons.mp hw).elim (fun e => e ▸ h5) (h w)
  have h3 : Cmp3.tab.before a s = true := unparts (wk q5 (.code Cmp3.yN Cmp3.yB 6 (some (.array .byte)))) (wks q5 (.initialized Cmp3.yN.cls :: Cmp3.site))
  have q3 : ∀ w ∈ Cmp3.tab :: CodL.tab :: words, w.before a s = true := fun w hw => (List.mem_cons.mp hw).elim (fun e => e ▸ h3) fun hw => (List.mem_cons.mp hw).elim (fun e => e ▸ hc) (h w)
  have h4 : New4.tab.before a s = true := unparts (wk q3 (.code New4.yN New4.yB 6 none)) (wks q3 (.initialized New4.yN.cls :: New4.site))
  have q4 : ∀ w ∈ New4.tab :: words, w.before a s = true := fun w hw => (List.mem_cons.mp hw).elim (fun e => e ▸ h4) (h w)
  exact unparts (wk q4 (.code New1.yN New1.yB 2 none)) (wks q4 (.initialized New1.yN.cls :: New1.site))
/-- the words ride from the start Z to the walk's own state -/
theorem moved {Z s : State} {a0 args : Array Value} (hZ : Z.Warmed39 s.vm) (hw : ∀ d ∈ words, d.before a0 Z = true) : ∀ d ∈ words, d.before args s = true := fun d hd => by
  have q := hw d hd
  have t : ∀ d ∈ words, d = .arrayClass .byte ∨ (d.onTables && d.keepsFace) = true := by decide +kernel
  rcases t d hd with rfl | t
  · exact RoadKit.mvA hZ q
  · exact RoadKit.mv hZ q t
/-- WHAT COMES BACK, over the tables of the start Z: h the heap at the call, h' behind it -/
def Q (Z : State) (x : Addr) (A : Cell) (h : Heap) (v : Option Value) (h' : Heap) (L : List Loc) : Prop := v = none ∧ (∀ y ∈ L, y.base = x) ∧ RoadKit.Keep h h' [x] ∧ h'.size = h.size + 1 ∧ RoadKit.Exa Z h' x ST ∧ RoadKit.Fld Z h' x ST "value" "[B" (.ref h.size) ∧ RoadKit.Fld Z h' x ST "coder" "B" (.int 0) ∧
  (∃ V : Cell, RoadKit.Arr Z h' h.size V .byte ∧ V.vm = .none ∧ Z.vm.findClass "[B" = some V.cls ∧ V.slots.size = A.slots.size ∧ ∀ j, j < A.slots.size → V.slots[j]? = some (.int (lo8 (cv A j)))) ∧
  ∀ (O n d : String) (w : Value), RoadKit.Fld Z h x O n d w → RoadKit.slotOf Z O n d ≠ RoadKit.slotOf Z ST "value" "[B" → RoadKit.slotOf Z O n d ≠ RoadKit.slotOf Z ST "coder" "B" → RoadKit.Fld Z h' x O n d w
/-- **new String(chars) AT A CALL, IN THE ROAD'S FORM**: for specialBack behind newO: x the fresh String, b the char[] with the cell A -/
theorem back {p : Program} {l : Launch} {e : Env} {R : Room} {s : State} {args : Array Value} {below : List Frame} {len W : Nat} {Z : State} {a0 : Array Value} {h : Heap} (hZ : Z.Warmed39 s.vm) (hw : ∀ d ∈ words, d.before a0 Z = true) {kI : Nat} (wi : (Jvm.Cond.instantiable ST kI).before a0 Z = true)
    {x b : Addr} {A : Cell} {z : Int32} {v0 c0 : Value} (E : RoadKit.Exa Z h x ST) (V : RoadKit.Fld Z h x ST "value" "[B" v0) (C : RoadKit.Fld Z h x ST "coder" "B" c0) (K : RoadKit.Arr Z h b A .char) (hty : Typed .char A) (S : RoadKit.Sta Z h ST "COMPACT_STRINGS" "Z" (.int z)) (hz : ¬ z = 0)
    (l0 : 0 < A.slots.size) (l2 : A.slots.size ≤ 536870912) (hp : ∀ i, i < A.slots.size → ¬ 255 < cv A i) (hfr : 4 ≤ R.frames) (hlo : W + 65 ≤ R.locals) :
    Back l R p e below s args New1.yN len W (fun P a => a = #[.ref x, .ref b] ∧ P.U.heap = h ∧ P.cells + 1 ≤ R.cells ∧ P.slots + A.slots.size ≤ R.slots)
      (fun P _ v B => ∃ L, Q Z x A h v B.U.heap L ∧ B.locs = P.locs ++ L ∧ B.cells = P.cells + 1 ∧ B.slots = P.slots + A.slots.size) := by
  intro m meth c P g ig mk a X hg hsize hdg hW hn hp'
  obtain ⟨rfl, rfl, r1, r2⟩ := hp'
  have al : Z.vm.Alike P.U.vm := hZ.alike.trans X.warmed.alike
  obtain ⟨D, cfV, kV, iV, fV, hD, gV, stV, knV, obV, asV, slV⟩ := id V
  obtain ⟨D', cfC, kC, iC, fC, hD', gC, stC, -, -, asC, slC⟩ := id C
  cases hD.symm.trans hD'
  obtain ⟨D2, kD, e1, e2, e3, e4, e5⟩ := id E
  cases hD.symm.trans e1
  obtain ⟨c2, k2, i1, i2, i3, -⟩ := Cond.instantiable_spec wi
  cases e2.symm.trans i1
  cases e3.symm.trans i2
  obtain ⟨kU, u1, u2⟩ := al.2.2 _ _ e3
  have hB : Blank ST x D P.U := ⟨hD, ⟨knV, fun q hq => by rw [hq] at obV; cases obV⟩, by rw [al.findClass]; exact e2, kU, u1, by rw [u2]; exact i3, by rw [u2]; exact e5 i3⟩
  have F1 : Found ST "value" "[B" fV P.U := ⟨SBG.found_only al ⟨cfV, kV, iV, gV⟩, stV⟩
  have F2 : Found ST "coder" "B" fC P.U := ⟨SBG.found_only al ⟨cfC, kC, iC, gC⟩, stC⟩
  have hA : Ch b A P.U := ⟨⟨K.1, State.isArrayOf_alike al K.2.1, K.2.2, by omega⟩, hty⟩
  have hS : StaticIs P.U ST "COMPACT_STRINGS" "Z" (.int z) := by
    obtain ⟨cfS, iS, kS, fS, st, cS, t1, t2, t3, t4, t5, t6, t7⟩ := S
    exact StaticIs.there (s := { Z with heap := P.U.heap }) ⟨cfS, iS, kS, fS, st, cS, t1, t2, t3, t4, t5, (fun q => by rw [q] at t6; cases t6), t7⟩ al rfl
  obtain ⟨v, B, X', ⟨⟨hv, E', V', q1, q2, q3, q4, q5, q6, q7, q8, q9, q10, q11⟩, hl, hc, hs⟩, st⟩ := New1.pays x D fV fC b A z (tab_of (moved hZ hw)) hfr hlo m meth c P g ig mk _ X hg hsize hdg hW hn ⟨r1, r2, rfl, hB, F1, F2, hA, hS, hz, l0, l2, hp⟩
  have al' : Z.vm.Alike B.U.vm := hZ.alike.trans X'.warmed.alike
  have hsz : E'.slots.size = D.slots.size := by
    obtain ⟨-, -, -, kB, w1, w2, w3⟩ := q1
    obtain ⟨kB', y1, y2⟩ := al'.2.2 _ _ e3
    rw [q2.2.1] at w1
    cases w1.symm.trans y1
    rw [w3, e5 i3, y2]
  refine ⟨v, B, X', ⟨_, ⟨hv, ?_, ⟨by omega, fun y cy hy hn' => q10 y cy (by simpa using hn') hy, fun y cy hy => ?_⟩, q11, ⟨E', _, q1.1, by rw [q2.2.1]; exact e2, by rw [q2.2.1]; exact e3, by rw [q2.1]; exact obV, fun _ => by rw [hsz]; exact e5 i3⟩,
    ⟨E', cfV, kV, iV, fV, q1.1, gV, stV, by rw [q2.1]; exact knV, by rw [q2.1]; exact obV, by rw [q2.2.1]; exact asV, q3⟩, ⟨E', cfC, kC, iC, fC, q1.1, gC, stC, by rw [q2.1]; exact knV, by rw [q2.1]; exact obV, by rw [q2.2.1]; exact asC, q4⟩,
    ⟨V', ⟨q5.1, State.isArrayOf_alike al'.symm q5.2.1, q5.2.2.1⟩, q6, by rw [← al'.findClass]; exact q7, q8, fun j hj => by have := q9 j hj; rwa [Nat.zero_add] at this⟩, fun O n d w F n1 n2 => ?_⟩, hl, hc, hs⟩, st⟩
  · intro y hy
    simp only [List.mem_cons, List.not_mem_nil, or_false] at hy
    rcases hy with rfl | rfl <;> rfl
  · by_cases q : y = x
    · subst q
      cases hD.symm.trans hy
      exact ⟨E', q1.1, q2.2.1, q2.1, hsz⟩
    · exact ⟨cy, q10 y cy q hy, rfl, rfl, rfl⟩
  · obtain ⟨D3, cf, k, i, f, g1, g2, g3, g4, g5, g6, g7⟩ := F
    cases hD.symm.trans g1
    simp only [RoadKit.slotOf, g2, gV, gC, Option.map_some, Option.getD_some] at n1 n2
    exact ⟨E', cf, k, i, f, q1.1, g2, g3, by rw [q2.1]; exact g4, by rw [q2.1]; exact g5, by rw [q2.2.1]; exact g6, by rw [q2.2.2 f.slot (by simp [n1, n2])]; exact g7⟩
end StrChars.Road
namespace StrChars.Road
open Jvm Sem ClassFile Op Lib Jvm.Stand Jvm.Free Jvm.Free.XT
/-- WHAT COMES BACK, the byte[] as a list of values -/
def QA (Z : State) (x : Addr) (zn : Int32) (cs : List Int32) (h : Heap) (v : Option Value) (h' : Heap) (L : List Loc) : Prop := v = none ∧ (∀ y ∈ L, y.base = x) ∧ RoadKit.Keep h h' [x] ∧ h'.size = h.size + 1 ∧ RoadKit.Exa Z h' x ST ∧ RoadKit.Fld Z h' x ST "value" "[B" (.ref h.size) ∧ RoadKit.Fld Z h' x ST "coder" "B" (.int 0) ∧
  (∃ kb, Z.vm.findClass "[B" = some kb ∧ RoadKit.Arv Z h' h.size kb .byte zn (cs.map fun c => .int (lo8 c)) (.int 0)) ∧
  ∀ (O n d : String) (w : Value), RoadKit.Fld Z h x O n d w → RoadKit.slotOf Z O n d ≠ RoadKit.slotOf Z ST "value" "[B" → RoadKit.slotOf Z O n d ≠ RoadKit.slotOf Z ST "coder" "B" → RoadKit.Fld Z h' x O n d w
/-- **new String(chars) AT A CALL, THE ARRAYS AS LISTS**: the char[] at b holds cs, not empty, no char above 255 -/
theorem backArv {p : Program} {l : Launch} {e : Env} {R : Room} {s : State} {args : Array Value} {below : List Frame} {len W : Nat} {Z : State} {a0 : Array Value} {h : Heap} (hZ : Z.Warmed39 s.vm) (hw : ∀ d ∈ words, d.before a0 Z = true) {kI : Nat} (wi : (Jvm.Cond.instantiable ST kI).before a0 Z = true)
    {x b : Addr} {k : ClassId} {zn z : Int32} {cs : List Int32} {dv v0 c0 : Value} (E : RoadKit.Exa Z h x ST) (V : RoadKit.Fld Z h x ST "value" "[B" v0) (C : RoadKit.Fld Z h x ST "coder" "B" c0) (K : RoadKit.Arv Z h b k .char zn (cs.map Value.int) dv) (S : RoadKit.Sta Z h ST "COMPACT_STRINGS" "Z" (.int z)) (hz : ¬ z = 0)
    (hlen : zn.toNatClampNeg = cs.length) (h0 : 0 < cs.length) (hbig : cs.length ≤ 536870912) (hall : ∀ c ∈ cs, ¬ 255 < c) (hfr : 4 ≤ R.frames) (hlo : W + 65 ≤ R.locals) :
    Back l R p e below s args New1.yN len W (fun P a => a = #[.ref x, .ref b] ∧ P.U.heap = h ∧ P.cells + 1 ≤ R.cells ∧ P.slots + cs.length ≤ R.slots)
      (fun P _ v B => ∃ L, QA Z x zn cs h v B.U.heap L ∧ B.locs = P.locs ++ L ∧ B.cells = P.cells + 1 ∧ B.slots = P.slots + cs.length) := by
  obtain ⟨A, K1, K2, K3, K4, K5, K6⟩ := K
  have e : A.slots.size = cs.length := K3.trans hlen
  have hat : ∀ (i : Nat) (hi : i < cs.length), A.slots[i]? = some (.int cs[i]) := fun i hi => by rw [K5 i (by omega)]; simp [List.getD_eq_getElem?_getD, hi]
  have hcv : ∀ (i : Nat) (hi : i < cs.length), cv A i = cs[i] := fun i hi => by unfold cv; rw [hat i hi]
  have hty : Typed .char A := fun i v hv => by
    have hi : i < A.slots.size := (Array.getElem?_eq_some_iff.mp hv).1
    have q := K5 i hi
    rw [hv] at q
    rw [Option.some.inj q]
    exact K6 i hi
  refine Back.mono (back hZ hw wi E V C K1 hty S hz (by omega) (by omega) (fun i hi => by rw [hcv i (by omega)]; exact hall _ (List.getElem_mem _)) hfr hlo) (fun P a hp => ⟨hp.1, hp.2.1, hp.2.2.1, by rw [e]; exact hp.2.2.2⟩) (fun P a v B hp hq => ?_)
  obtain ⟨L, ⟨q1, q2, q3, q4, q5, q6, q7, ⟨V', v1, v2, v3, v4, v5⟩, q9⟩, hl, hc, hs⟩ := hq
  refine ⟨L, ⟨q1, q2, q3, q4, q5, q6, q7, ⟨V'.cls, v3, V', v1, rfl, by rw [v4, e, hlen], K4, fun i hi => ?_, fun i hi => ?_⟩, q9⟩, hl, hc, by rw [hs, e]⟩
  · have hi' : i < cs.length := by omega
    rw [v5 i (by omega), hcv i hi']; simp [List.getD_eq_getElem?_getD, hi']
  · have hi' : i < cs.length := by omega
    simp only [List.getD_eq_getElem?_getD, List.getElem?_map, List.getElem?_eq_getElem hi', Option.map_some, Option.getD_some]
    exact fits_lo8 _
end StrChars.Road
namespace StrChars.Road
open Jvm Sem ClassFile Op Lib Jvm.Stand Jvm.Free Jvm.Free.XT
/-- WHAT COMES BACK, in the writer's own shape -/
def QV (Z : State) (x : Addr) (N : Int32) (bs : List Int32) (h : Heap) (n0 : Nat) (v : Option Value) (h' : Heap) (L : List Loc) : Prop := v = none ∧ RoadKit.Fr n0 L ∧ RoadKit.Keep h h' [x] ∧ RoadKit.Exa Z h' x ST ∧ RoadKit.Fld Z h' x ST "coder" "B" (.int 0) ∧
  ∃ (t : Addr) (kb : ClassId), n0 ≤ t ∧ h.size ≤ t ∧ ¬ t = x ∧ RoadKit.Fld Z h' x ST "value" "[B" (.ref t) ∧ RoadKit.Arv Z h' t kb .byte N (bs.map Value.int) (.int 0)
/-- **new String(chars) AT A CALL, FOR THE WRITER**: a char[] of n known ints, each 0 to 255 -/
theorem backV {p : Program} {l : Launch} {e : Env} {R : Room} {s : State} {args : Array Value} {below : List Frame} {len W : Nat} {Z : State} {a0 : Array Value} {h : Heap} (hZ : Z.Warmed39 s.vm) (hw : ∀ d ∈ words, d.before a0 Z = true) {kI : Nat} (wi : (Jvm.Cond.instantiable ST kI).before a0 Z = true)
    {x b : Addr} {kC : ClassId} {cs bs : List Int32} {d v0 c0 : Value} {z N : Int32} {n n0 : Nat} (hx0 : n0 ≤ x) (hh0 : n0 ≤ h.size) (E : RoadKit.Exa Z h x ST) (V : RoadKit.Fld Z h x ST "value" "[B" v0) (C : RoadKit.Fld Z h x ST "coder" "B" c0) (K : RoadKit.Arv Z h b kC .char N (cs.map Value.int) d) (S : RoadKit.Sta Z h ST "COMPACT_STRINGS" "Z" (.int z)) (hz : ¬ z = 0)
    (hn : cs.length = n) (hN : N = Int32.ofNat n) (l0 : 0 < n) (l2 : n ≤ 4000) (hp : ∀ c ∈ cs, ¬ c < 0 ∧ ¬ (255 : Int32) < c) (hb : bs = cs.map (fun c => c.toInt8.toInt32)) (hfr : 4 ≤ R.frames) (hlo : W + 65 ≤ R.locals) :
    Back l R p e below s args (⟨"java/lang/String", "<init>", "([C)V"⟩ : MethodName) len W (fun P a => a = #[.ref x, .ref b] ∧ P.U.heap = h ∧ P.cells + 1 ≤ R.cells ∧ P.slots + n ≤ R.slots)
      (fun P _ v B => ∃ L, QV Z x N bs h n0 v B.U.heap L ∧ B.locs = P.locs ++ L ∧ B.cells = P.cells + 1 ∧ B.slots = P.slots + n) := by
  subst hn hN hb
  refine Back.mono (backArv hZ hw wi E V C K S hz (n32 (by omega)) l0 (by omega) (fun c hc => (hp c hc).2) hfr hlo) (fun P a hp => hp) (fun P a v B hp hq => ?_)
  obtain ⟨L, ⟨q1, q2, q3, q4, q5, q6, q7, ⟨kb, v1, v2⟩, q9⟩, hl, hc, hs⟩ := hq
  exact ⟨L, ⟨q1, fun y hy => by rw [q2 y hy]; exact hx0, q3, q5, q7, h.size, kb, hh0, Nat.le_refl _, Nat.ne_of_gt E.lt, q6, by rw [List.map_map]; exact v2⟩, hl, hc, hs⟩
end StrChars.Road
namespace StrChars
open Jvm Sem ClassFile Op Lib Jvm.Stand Jvm.Free.XT Jvm.Free.ALB Jvm.Free.JM Jvm.Free
open Jvm.Lib.Cold (StaticIs)
def hi8 (x : Int32) : Int32 := lo8 (x >>> ((8 : Int32) &&& 31))
/-- what StringUTF16.getChar makes of two bytes -/
def pairCh (u v : Int32) : Int32 := (((u &&& 255) <<< ((0 : Int32) &&& 31)) ||| ((v &&& 255) <<< ((8 : Int32) &&& 31))).toUInt32.toUInt16.toUInt32.toInt32
theorem lo8_and (x : Int32) : (lo8 x &&& 255).toBitVec.toNat = x.toBitVec.toNat % 256 := by
  have h : (lo8 x).toBitVec = (x.toBitVec.signExtend 8).signExtend 32 := by rw [lo8, Int8.toBitVec_toInt32, Int32.toBitVec_toInt8]
  rw [Int32.toBitVec_and, BitVec.toNat_and, h]
  have e : ((x.toBitVec.signExtend 8).signExtend 32).toNat % 256 = x.toBitVec.toNat % 256 := by
    rw [BitVec.toNat_signExtend]
    have hlt := x.toBitVec.isLt
    simp only [BitVec.toNat_setWidth, BitVec.toNat_signExtend]
    split <;> split <;> omega
  rw [← e]
  exact Nat.and_two_pow_sub_one_eq_mod _ 8
theorem pair_says {c : Int32} (h0 : ¬ c < 0) (h1 : ¬ 65535 < c) : pairCh (lo8 c) (hi8 c) = c := by
  rw [Int32.lt_iff_toInt_lt] at h0 h1
  have e0 : (0 : Int32).toInt = 0 := rfl
  have e1 : (65535 : Int32).toInt = 65535 := rfl
  have hc : c.toInt = c.toBitVec.toNat := by
    have := c.toBitVec.isLt
    have e : c.toInt = c.toBitVec.toInt := rfl
    rw [e] at h0 h1
    rw [e]
    rw [BitVec.toInt_eq_toNat_cond] at h0 h1 ⊢
    split at h0 <;> split <;> omega
  have hn : c.toBitVec.toNat < 65536 := by omega
  have a1 := lo8_and c
  have a2 : (hi8 c &&& 255).toBitVec.toNat = c.toBitVec.toNat / 256 := by
    rw [hi8, lo8_and]
    have e : ((8 : Int32) &&& 31) = 8 := by decide
    rw [e, Int32.toBitVec_shiftRight]
    have e2 : ((8 : Int32).toBitVec.smod 32) = 8#32 := by decide
    rw [e2, BitVec.sshiftRight_eq', BitVec.toNat_sshiftRight_of_msb_false (by rw [BitVec.msb_eq_false_iff_two_mul_lt]; omega)]
    show c.toBitVec.toNat >>> 8 % 256 = _
    rw [Nat.shiftRight_eq_div_pow]
    omega
  unfold pairCh
  apply Int32.toBitVec_inj.mp
  apply BitVec.eq_of_toNat_eq
  have f0 : ((0 : Int32) &&& 31) = 0 := by decide
  have f8 : ((8 : Int32) &&& 31) = 8 := by decide
  rw [f0, f8]
  have g : (((lo8 c &&& 255) <<< (0 : Int32)) ||| ((hi8 c &&& 255) <<< (8 : Int32))).toBitVec.toNat = c.toBitVec.toNat := by
    rw [Int32.toBitVec_or, Int32.toBitVec_shiftLeft, Int32.toBitVec_shiftLeft]
    have s0 : ((0 : Int32).toBitVec.smod 32) = 0#32 := by decide
    have s8 : ((8 : Int32).toBitVec.smod 32) = 8#32 := by decide
    rw [s0, s8, BitVec.toNat_or]
    simp only [BitVec.shiftLeft_eq', BitVec.toNat_shiftLeft, a1, a2]
    show (c.toBitVec.toNat % 256) <<< 0 % 2 ^ 32 ||| (c.toBitVec.toNat / 256) <<< 8 % 2 ^ 32 = _
    rw [Nat.shiftLeft_zero, Nat.mod_eq_of_lt (show c.toBitVec.toNat % 256 < 2 ^ 32 by omega), Nat.mod_eq_of_lt (show (c.toBitVec.toNat / 256) <<< 8 < 2 ^ 32 by rw [Nat.shiftLeft_eq]; omega), Nat.or_comm, ← Nat.shiftLeft_add_eq_or_of_lt (by omega), Nat.shiftLeft_eq]
    omega
  show BitVec.toNat (((((lo8 c &&& 255) <<< (0 : Int32)) ||| ((hi8 c &&& 255) <<< (8 : Int32))).toBitVec.setWidth 16).setWidth 32) = _
  rw [BitVec.toNat_setWidth, BitVec.toNat_setWidth, g]
  omega
end StrChars
namespace StrChars
open Jvm Sem ClassFile Op Lib Jvm.Stand Jvm.Free.XT Jvm.Free.ALB Jvm.Free.JM Jvm.Free
open Jvm.Lib.Cold (StaticIs)
/-- the array's cell V codes the n chars f 0 .. f (n - 1) by the coder cd, as the JDK does: coder 1 just where some char is above 255 -/
def Cod (cd : Int32) (n : Nat) (f : Nat → Int32) (V : Cell) : Prop := (cd = 0 ∧ V.slots.size = n ∧ ∀ j, j < n → V.slots[j]? = some (.int (lo8 (f j))) ∧ ¬ 255 < f j) ∨ (cd = 1 ∧ V.slots.size = 2 * n ∧ (∀ j, j < n → V.slots[2 * j]? = some (.int (lo8 (f j))) ∧ V.slots[2 * j + 1]? = some (.int (hi8 (f j)))) ∧ ∃ j, j < n ∧ 255 < f j)
/-- **x is a String of the n chars f 0 .. f (n - 1)**, Latin-1 or UTF-16; its array at t has the cell V -/
def Txt (x t : Addr) (V : Cell) (cd : Int32) (n : Nat) (f : Nat → Int32) (U : State) : Prop := Exact "java/lang/String" x U ∧ Has x "java/lang/String" "value" "[B" (.ref t) U ∧ Has x "java/lang/String" "coder" "B" (.int cd) U ∧ XT.Arr .byte t V U ∧ Cod cd n f V ∧ ∀ j, j < n → ¬ f j < 0 ∧ ¬ 65535 < f j
theorem Txt.mv {x t : Addr} {V : Cell} {cd : Int32} {n : Nat} {f : Nat → Int32} {U U' : State} (h : Txt x t V cd n f U) (hal : U.vm.Alike U'.vm) (hh : U'.heap = U.heap) : Txt x t V cd n f U' := ⟨h.1.mv hal hh, h.2.1.mv hal hh, h.2.2.1.mv hal hh, h.2.2.2.1.mv hal hh, h.2.2.2.2⟩
end StrChars
namespace StrChars.Road
open Jvm Sem ClassFile Op Lib Jvm.Stand Jvm.Free Jvm.Free.XT
open Jvm.Lib.Cold (StaticIs)
theorem consq {a : Array Value} {s : State} {c : Jvm.Cond} {L : List Jvm.Cond} (h0 : c.before a s = true) (h : ∀ w ∈ L, w.before a s = true) : ∀ w ∈ c :: L, w.before a s = true := fun w hw => (List.mem_cons.mp hw).elim (fun e => e ▸ h0) (h w)
/-- the bytes of the chars cs, low before high -/
def wideBytes : List Int32 → List Value
  | [] => []
  | c :: cs => .int (lo8 c) :: .int (hi8 c) :: wideBytes cs
theorem wide_lo (d : Value) : ∀ (cs : List Int32) (j : Nat), j < cs.length → (wideBytes cs).getD (2 * j) d = .int (lo8 (cs.getD j 0))
  | [], j, h => absurd h (Nat.not_lt_zero j)
  | c :: cs, 0, _ => rfl
  | c :: cs, j + 1, h => by
    have q := wide_lo d cs j (by simpa using h)
    rw [show 2 * (j + 1) = 2 * j + 1 + 1 from by omega]
    simpa [wideBytes] using q
theorem wide_hi (d : Value) : ∀ (cs : List Int32) (j : Nat), j < cs.length → (wideBytes cs).getD (2 * j + 1) d = .int (hi8 (cs.getD j 0))
  | [], j, h => absurd h (Nat.not_lt_zero j)
  | c :: cs, 0, _ => rfl
  | c :: cs, j + 1, h => by
    have q := wide_hi d cs j (by simpa using h)
    rw [show 2 * (j + 1) + 1 = 2 * j + 1 + 1 + 1 from by omega]
    simpa [wideBytes] using q
theorem low_at (d : Value) (cs : List Int32) (j : Nat) (h : j < cs.length) : (cs.map fun c => Value.int (lo8 c)).getD j d = .int (lo8 (cs.getD j 0)) := by
  simp [List.getD_eq_getElem?_getD, h]
/-- an array of N2 bytes vs codes the chars cs by the coder cd -/
def CodA (cs : List Int32) (cd N2 : Int32) (vs : List Value) : Prop := (cd = 0 ∧ N2 = Int32.ofNat cs.length ∧ vs = (cs.map fun c => Value.int (lo8 c)) ∧ ∀ c ∈ cs, ¬ 255 < c) ∨ (cd = 1 ∧ N2 = Int32.ofNat (2 * cs.length) ∧ vs = wideBytes cs ∧ ∃ c ∈ cs, 255 < c)
theorem CodA.cod {cs : List Int32} {cd N2 : Int32} {vs : List Value} {V : Cell} (h : CodA cs cd N2 vs) (hn : 2 * cs.length < 2 ^ 31) (hs : V.slots.size = N2.toNatClampNeg) (hv : RoadKit.Has V vs (.int 0)) : Cod cd cs.length (fun j => cs.getD j 0) V := by
  rcases h with ⟨rfl, rfl, rfl, h⟩ | ⟨rfl, rfl, rfl, c, hc, hw⟩
  · rw [n32 (by omega)] at hs
    exact Or.inl ⟨rfl, hs, fun j hj => ⟨by rw [hv j (by omega), low_at _ _ _ hj], by
      have e : cs.getD j 0 = cs[j] := by simp [List.getD_eq_getElem?_getD, hj]
      show ¬ 255 < cs.getD j 0
      rw [e]; exact h _ (List.getElem_mem _)⟩⟩
  · rw [n32 (by omega)] at hs
    obtain ⟨j, hj, rfl⟩ := List.getElem_of_mem hc
    exact Or.inr ⟨rfl, hs, fun j hj => ⟨by rw [hv _ (by omega), wide_lo _ _ _ hj], by rw [hv _ (by omega), wide_hi _ _ _ hj]⟩, j, hj, by
      have e : cs.getD j 0 = cs[j] := by simp [List.getD_eq_getElem?_getD, hj]
      show 255 < cs.getD j 0
      rw [e]; exact hw⟩
/-- an object of exactly java/lang/String, its two fields found: as the laws ask it -/
theorem strObj {Z U : State} {a0 : Array Value} {kI : Nat} (wi : (Jvm.Cond.instantiable ST kI).before a0 Z = true) (al : Z.vm.Alike U.vm) {x : Addr} {v0 c0 : Value} (E : RoadKit.Exa Z U.heap x ST) (V : RoadKit.Fld Z U.heap x ST "value" "[B" v0) (C : RoadKit.Fld Z U.heap x ST "coder" "B" c0) :
    ∃ (D : Cell) (fV fC : Field), Blank ST x D U ∧ Found ST "value" "[B" fV U ∧ Found ST "coder" "B" fC U ∧ D.slots[fV.slot]? = some v0 ∧ D.slots[fC.slot]? = some c0 ∧ RoadKit.slotOf Z ST "value" "[B" = fV.slot ∧ RoadKit.slotOf Z ST "coder" "B" = fC.slot := by
  obtain ⟨D, cfV, kV, iV, fV, hD, gV, stV, knV, obV, asV, slV⟩ := V
  obtain ⟨D', cfC, kC, iC, fC, hD', gC, stC, -, -, asC, slC⟩ := C
  cases hD.symm.trans hD'
  obtain ⟨D2, kD, e1, e2, e3, e4, e5⟩ := E
  cases hD.symm.trans e1
  obtain ⟨c2, k2, i1, i2, i3, -⟩ := Cond.instantiable_spec wi
  cases e2.symm.trans i1
  cases e3.symm.trans i2
  obtain ⟨kU, u1, u2⟩ := al.2.2 _ _ e3
  exact ⟨D, fV, fC, ⟨hD, ⟨knV, fun q hq => by rw [hq] at obV; cases obV⟩, by rw [al.findClass]; exact e2, kU, u1, by rw [u2]; exact i3, by rw [u2]; exact e5 i3⟩, ⟨SBG.found_only al ⟨cfV, kV, iV, gV⟩, stV⟩, ⟨SBG.found_only al ⟨cfC, kC, iC, gC⟩, stC⟩, slV, slC, by simp [RoadKit.slotOf, gV], by simp [RoadKit.slotOf, gC]⟩
theorem sta_is {Z U : State} (al : Z.vm.Alike U.vm) {C n d : String} {v : Value} (S : RoadKit.Sta Z U.heap C n d v) : StaticIs U C n d v := by
  obtain ⟨cfS, iS, kS, fS, st, cS, t1, t2, t3, t4, t5, t6, t7⟩ := S
  exact StaticIs.there (s := { Z with heap := U.heap }) ⟨cfS, iS, kS, fS, st, cS, t1, t2, t3, t4, t5, (fun q => by rw [q] at t6; cases t6), t7⟩ al rfl
end StrChars.Road
namespace StrChars
open Jvm Sem ClassFile Op Lib Jvm.Stand Jvm.Free.XT Jvm.Free.ALB Jvm.Free.JM Jvm.Free
open Jvm.Lib.Cold (StaticIs)
/-- what place i of a byte[]'s cell holds -/
def yv (A : Cell) (i : Nat) : Int32 := match A.slots[i]? with | some (.int x) => x | _ => 0
theorem yv_get {a : Addr} {A : Cell} {U : State} (h : XT.Arr .byte a A U) (ht : Typed .byte A) {i : Nat} (hi : i < A.slots.size) : A.slots[i]? = some (.int (yv A i)) := by
  have e := Array.getElem?_eq_getElem hi
  have f := ht i _ e
  unfold yv; rw [e]
  generalize A.slots[i] = v at f
  cases v <;> simp [fits] at f ⊢
/-- the two arrays are equal, place for place -/
def EqC (A B : Cell) : Prop := A.slots.size = B.slots.size ∧ ∀ i, i < A.slots.size → yv A i = yv B i
/-- a boolean that says whether p -/
def Says01 (q : Prop) (r : Option Value) (s u : State) : Prop := ∃ v : Int32, r = some (.int v) ∧ u.heap = s.heap ∧ ((v = 1 ∧ q) ∨ (v = 0 ∧ ¬ q))
theorem Says01.mv {q : Prop} : ∀ r (U U' V V' : State), U'.heap = U.heap → V.vm.Alike V'.vm → V'.heap = V.heap → Says01 q r U V → Says01 q r U' V' :=
  fun r U U' V V' h1 _ h2 ⟨v, a, b, c⟩ => ⟨v, a, by rw [h1, h2]; exact b, c⟩
namespace LEq
def yN : MethodName := ⟨"java/lang/StringLatin1", "equals", "([B[B)Z"⟩
abbrev yB : ByteArray := jdk_43_method_13_code
theorem d0 : decode yB 0 = .ok (.aload_n 0, 1) := by decide +kernel
theorem d1 : decode yB 1 = .ok (.arraylength, 1) := by decide +kernel
theorem d2 : decode yB 2 = .ok (.aload_n 1, 1) := by decide +kernel
theorem d3 : decode yB 3 = .ok (.arraylength, 1) := by decide +kernel
theorem d4 : decode yB 4 = .ok (.if_icmp (.ne) 30, 3) := by decide +kernel
theorem d7 : decode yB 7 = .ok (.iconst 0, 1) := by decide +kernel
theorem d8 : decode yB 8 = .ok (.istore_n 2, 1) := by decide +kernel
theorem d9 : decode yB 9 = .ok (.iload_n 2, 1) := by decide +kernel
theorem d10 : decode yB 10 = .ok (.aload_n 0, 1) := by decide +kernel
theorem d11 : decode yB 11 = .ok (.arraylength, 1) := by decide +kernel
theorem d12 : decode yB 12 = .ok (.if_icmp (.ge) 20, 3) := by decide +kernel
theorem d15 : decode yB 15 = .ok (.aload_n 0, 1) := by decide +kernel
theorem d16 : decode yB 16 = .ok (.iload_n 2, 1) := by decide +kernel
theorem d17 : decode yB 17 = .ok (.baload, 1) := by decide +kernel
theorem d18 : decode yB 18 = .ok (.aload_n 1, 1) := by decide +kernel
theorem d19 : decode yB 19 = .ok (.iload_n 2, 1) := by decide +kernel
theorem d20 : decode yB 20 = .ok (.baload, 1) := by decide +kernel
theorem d21 : decode yB 21 = .ok (.if_icmp (.eq) 5, 3) := by decide +kernel
theorem d24 : decode yB 24 = .ok (.iconst 0, 1) := by decide +kernel
theorem d25 : decode yB 25 = .ok (.ireturn, 1) := by decide +kernel
theorem d26 : decode yB 26 = .ok (.iinc 2 1, 3) := by decide +kernel
theorem d29 : decode yB 29 = .ok (.goto (-20), 3) := by decide +kernel
theorem d32 : decode yB 32 = .ok (.iconst 1, 1) := by decide +kernel
theorem d33 : decode yB 33 = .ok (.ireturn, 1) := by decide +kernel
theorem d34 : decode yB 34 = .ok (.iconst 0, 1) := by decide +kernel
theorem d35 : decode yB 35 = .ok (.ireturn, 1) := by decide +kernel
def site : List Cond := []
def tab : Cond := tabOf yN yB 3 (some .boolean) site
def P (a : Addr) (A : Cell) (b : Addr) (B : Cell) (args : Array Value) (s : State) : Prop := args = #[.ref a, .ref b] ∧ XT.Arr .byte a A s ∧ Typed .byte A ∧ XT.Arr .byte b B s ∧ Typed .byte B
/-- whether two byte[] are equal, place for place -/
theorem law (l : Launch) (a : Addr) (A : Cell) (b : Addr) (B : Cell) : Law l yN 2 2 0 0 yB 3 (some .boolean) site (P a A b B) (Says01 (EqC A B)) [] 0 0 := by
  refine Law.of_walk (plainFor_of_name (by decide +kernel)) (by decide +kernel) (by decide +kernel) (by decide) (fun _ _ h => by rw [h.1]; rfl) (fun _ U U' hal hh h => ⟨h.1, h.2.1.mv hal hh, h.2.2.1, h.2.2.2.1.mv hal hh, h.2.2.2.2⟩) (fun r U U' V V' h1 hal h2 h => Says01.mv r U U' V V' h1 hal h2 h) ?_
  intro p e s m args below meth c s₁ X0 hexec hbytes hml hret hlk hnm hown hh0 W hP
  obtain ⟨rfl, hA, tA, hB, tB⟩ := hP
  have a31 := hA.2.2.2
  have b31 := hB.2.2.2
  have hA0 := hA.mv X0.warmed.alike hh0
  have hB0 := hB.mv X0.warmed.alike hh0
  have c1 : Steps p.tables e below (s₁.setTop (entryFrame m #[.ref a, .ref b] 3)) (s₁.setTop (mkF m 0 #[.val (.ref a), .val (.ref b), .unset] [])) := entry rfl
  have c2 : Steps p.tables e below (s₁.setTop (entryFrame m #[.ref a, .ref b] 3)) (s₁.setTop (mkF m 4 #[.val (.ref a), .val (.ref b), .unset] [.int (Int32.ofNat B.slots.size), .int (Int32.ofNat A.slots.size)])) := c1.trans (by
    refine XS.aloadN X0.here hexec rfl (hb hbytes d0) rfl rfl ?_
    refine X0.alen hexec hA0 rfl rfl (hb hbytes d1) ?_
    refine XS.aloadN X0.here hexec rfl (hb hbytes d2) rfl rfl ?_
    refine X0.alen hexec hB0 rfl rfl (hb hbytes d3) ?_
    exact Steps.refl _)
  by_cases hs : A.slots.size = B.slots.size
  · have c3 : Steps p.tables e below (s₁.setTop (entryFrame m #[.ref a, .ref b] 3)) (s₁.setTop (mkF m 9 #[.val (.ref a), .val (.ref b), .val (.int 0)] [])) := c2.trans (by
      refine XS.icmpNo X0.here hexec rfl (hb hbytes d4) rfl (ii_ne_f (by rw [hs])) ?_
      refine iconstV X0.here hexec rfl 0 (hb hbytes d7) (by decide) ?_
      refine XS.istoreN X0.here hexec rfl (hb hbytes d8) rfl rfl ?_
      exact Steps.refl _)
    have loop : ∀ (r i : Nat), i + r = A.slots.size → (∀ j, j < i → yv A j = yv B j) → Steps p.tables e below (s₁.setTop (entryFrame m #[.ref a, .ref b] 3)) (s₁.setTop (mkF m 9 #[.val (.ref a), .val (.ref b), .val (.int (Int32.ofNat i))] [])) → ∃ (pc : Nat) (Ls : Array Slot) (v : Int32), (pc = 25 ∨ pc = 33) ∧ ((v = 1 ∧ EqC A B) ∨ (v = 0 ∧ ¬ EqC A B)) ∧ Steps p.tables e below (s₁.setTop (entryFrame m #[.ref a, .ref b] 3)) (s₁.setTop (mkF m pc Ls [.int v])) := by
      intro r
      induction r with
      | zero =>
        intro i hi he cl
        exact ⟨33, _, 1, Or.inr rfl, Or.inl ⟨rfl, hs, fun j hj => he j (by omega)⟩, cl.trans (by
          refine XS.iloadN X0.here hexec rfl (hb hbytes d9) rfl ?_
          refine XS.aloadN X0.here hexec rfl (hb hbytes d10) rfl rfl ?_
          refine X0.alen hexec hA0 rfl rfl (hb hbytes d11) ?_
          refine XS.icmpYes X0.here hexec rfl (pc0 := 12) rfl (hb hbytes d12) rfl (ii_ge_t (nlt32 (by omega) (by omega))) (by decide) rfl ?_
          refine iconstV X0.here hexec rfl 1 (hb hbytes d32) (by decide) ?_
          exact Steps.refl _)⟩
      | succ r ih =>
        intro i hi he cl
        have c4 : Steps p.tables e below (s₁.setTop (entryFrame m #[.ref a, .ref b] 3)) (s₁.setTop (mkF m 21 #[.val (.ref a), .val (.ref b), .val (.int (Int32.ofNat i))] [.int (yv B i), .int (yv A i)])) := cl.trans (by
          refine XS.iloadN X0.here hexec rfl (hb hbytes d9) rfl ?_
          refine XS.aloadN X0.here hexec rfl (hb hbytes d10) rfl rfl ?_
          refine X0.alen hexec hA0 rfl rfl (hb hbytes d11) ?_
          refine XS.icmpNo X0.here hexec rfl (hb hbytes d12) rfl (ii_ge_f (lt32 (by omega) (by omega))) ?_
          refine XS.aloadN X0.here hexec rfl (hb hbytes d15) rfl rfl ?_
          refine XS.iloadN X0.here hexec rfl (hb hbytes d16) rfl ?_
          refine X0.aget hexec hA0 rfl (yv_get hA tA (i := i) (by omega)) rfl rfl (hb hbytes d17) ?_
          refine XS.aloadN X0.here hexec rfl (hb hbytes d18) rfl rfl ?_
          refine XS.iloadN X0.here hexec rfl (hb hbytes d19) rfl ?_
          refine X0.aget hexec hB0 rfl (yv_get hB tB (i := i) (by omega)) rfl rfl (hb hbytes d20) ?_
          exact Steps.refl _)
        by_cases hv : yv A i = yv B i
        · have c5 : Steps p.tables e below (s₁.setTop (entryFrame m #[.ref a, .ref b] 3)) (s₁.setTop (mkF m 9 #[.val (.ref a), .val (.ref b), .val (.int (Int32.ofNat i + 1))] [])) := c4.trans (by
            refine XS.icmpYes X0.here hexec rfl (pc0 := 21) rfl (hb hbytes d21) rfl (ii_eq_t hv) (by decide) rfl ?_
            refine iincV X0.here hexec rfl 1 (hb hbytes d26) (by decide) rfl rfl ?_
            refine XS.goto X0.here hexec rfl (pc0 := 29) rfl (hb hbytes d29) (by decide) rfl ?_
            exact Steps.refl _)
          rw [succ32] at c5
          exact ih (i + 1) (by omega) (fun j hj => by
            by_cases e : j = i
            · rw [e]; exact hv
            · exact he j (by omega)) c5
        · exact ⟨25, _, 0, Or.inl rfl, Or.inr ⟨rfl, fun q => hv (q.2 i (by omega))⟩, c4.trans (by
            refine XS.icmpNo X0.here hexec rfl (hb hbytes d21) rfl (ii_eq_f hv) ?_
            refine iconstV X0.here hexec rfl 0 (hb hbytes d24) (by decide) ?_
            exact Steps.refl _)⟩
    obtain ⟨pc, Ls, v, hpc, hv, cz⟩ := loop A.slots.size 0 (by omega) (fun j hj => absurd hj (Nat.not_lt_zero j)) c3
    have nv : narrow .boolean (.int v) = .int v := by rcases hv with ⟨rfl, -⟩ | ⟨rfl, -⟩ <;> rfl
    rcases hpc with rfl | rfl
    · exact ⟨s₁, some (.int v), _, _, _, X0, rfl, rfl, rfl, (fun h => by cases h), ⟨v, rfl, hh0, hv⟩, fun fs hl => cz.trans (X0.ireturnOut hexec hret nv (Or.inr (Or.inl rfl)) (hb hbytes d25) hl)⟩
    · exact ⟨s₁, some (.int v), _, _, _, X0, rfl, rfl, rfl, (fun h => by cases h), ⟨v, rfl, hh0, hv⟩, fun fs hl => cz.trans (X0.ireturnOut hexec hret nv (Or.inr (Or.inl rfl)) (hb hbytes d33) hl)⟩
  · have c3 : Steps p.tables e below (s₁.setTop (entryFrame m #[.ref a, .ref b] 3)) (s₁.setTop (mkF m 35 #[.val (.ref a), .val (.ref b), .unset] [.int 0])) := c2.trans (by
      refine XS.icmpYes X0.here hexec rfl (pc0 := 4) rfl (hb hbytes d4) rfl (ii_ne_t (ne32 a31 b31 hs)) (by decide) rfl ?_
      refine iconstV X0.here hexec rfl 0 (hb hbytes d34) (by decide) ?_
      exact Steps.refl _)
    exact ⟨s₁, some (.int 0), _, _, _, X0, rfl, rfl, rfl, (fun h => by cases h), ⟨0, rfl, hh0, Or.inr ⟨rfl, fun q => hs q.1⟩⟩, fun fs hl => c3.trans (X0.ireturnOut hexec hret rfl (Or.inr (Or.inl rfl)) (hb hbytes d35) hl)⟩
end LEq
theorem Cod.ty {cd : Int32} {n : Nat} {f : Nat → Int32} {V : Cell} (h : Cod cd n f V) : Typed .byte V := fun i v hv => by
  have hi : i < V.slots.size := (Array.getElem?_eq_some_iff.mp hv).1
  rcases h with ⟨-, k1, k2⟩ | ⟨-, k1, k2, -⟩
  · rw [(k2 i (by omega)).1] at hv; cases hv; exact fits_lo8 _
  · rcases Nat.mod_two_eq_zero_or_one i with e | e
    · obtain ⟨j, rfl⟩ : ∃ j, i = 2 * j := ⟨i / 2, by omega⟩
      rw [(k2 j (by omega)).1] at hv; cases hv; exact fits_lo8 _
    · obtain ⟨j, rfl⟩ : ∃ j, i = 2 * j + 1 := ⟨i / 2, by omega⟩
      rw [(k2 j (by omega)).2] at hv; cases hv; exact fits_lo8 _
/-- the same text -/
def SameT (n : Nat) (f : Nat → Int32) (k : Nat) (g : Nat → Int32) : Prop := n = k ∧ ∀ j, j < n → f j = g j
theorem lo8_inj {x y : Int32} (h0 : ¬ x < 0) (h1 : ¬ 255 < x) (k0 : ¬ y < 0) (k1 : ¬ 255 < y) (h : lo8 x = lo8 y) : x = y := by
  rw [← lo8_mask h0 h1, ← lo8_mask k0 k1, h]
/-- arrays coded by one coder are equal just where the texts are -/
theorem Cod.eqv {cd : Int32} {n k : Nat} {f g : Nat → Int32} {V V' : Cell} (h : Cod cd n f V) (h' : Cod cd k g V') (hf : ∀ j, j < n → ¬ f j < 0 ∧ ¬ 65535 < f j) (hg : ∀ j, j < k → ¬ g j < 0 ∧ ¬ 65535 < g j) : EqC V V' ↔ SameT n f k g := by
  have yvv : ∀ {W : Cell} {i : Nat} {x : Int32}, W.slots[i]? = some (.int x) → yv W i = x := fun q => by unfold yv; rw [q]
  rcases h with ⟨rfl, k1, k2⟩ | ⟨rfl, k1, k2, -⟩
  · rcases h' with ⟨-, m1, m2⟩ | ⟨e, -⟩
    · constructor
      · rintro ⟨e1, e2⟩
        refine ⟨by omega, fun j hj => ?_⟩
        have q := e2 j (by omega)
        rw [yvv (k2 j hj).1, yvv (m2 j (by omega)).1] at q
        exact lo8_inj (hf j hj).1 (k2 j hj).2 (hg j (by omega)).1 (m2 j (by omega)).2 q
      · rintro ⟨rfl, e2⟩
        refine ⟨by omega, fun j hj => ?_⟩
        rw [yvv (k2 j (by omega)).1, yvv (m2 j (by omega)).1, e2 j (by omega)]
    · exact absurd e (by decide)
  · rcases h' with ⟨e, -⟩ | ⟨-, m1, m2, -⟩
    · exact absurd e (by decide)
    · constructor
      · rintro ⟨e1, e2⟩
        refine ⟨by omega, fun j hj => ?_⟩
        have q1 := e2 (2 * j) (by omega)
        have q2 := e2 (2 * j + 1) (by omega)
        rw [yvv (k2 j hj).1, yvv (m2 j (by omega)).1] at q1
        rw [yvv (k2 j hj).2, yvv (m2 j (by omega)).2] at q2
        rw [← pair_says (hf j hj).1 (hf j hj).2, ← pair_says (hg j (by omega)).1 (hg j (by omega)).2, q1, q2]
      · rintro ⟨rfl, e2⟩
        refine ⟨by omega, fun i hi => ?_⟩
        rcases Nat.mod_two_eq_zero_or_one i with e | e
        · obtain ⟨j, rfl⟩ : ∃ j, i = 2 * j := ⟨i / 2, by omega⟩
          rw [yvv (k2 j (by omega)).1, yvv (m2 j (by omega)).1, e2 j (by omega)]
        · obtain ⟨j, rfl⟩ : ∃ j, i = 2 * j + 1 := ⟨i / 2, by omega⟩
          rw [yvv (k2 j (by omega)).2, yvv (m2 j (by omega)).2, e2 j (by omega)]
/-- two codings differ: so do the texts -/
theorem Cod.dif {cd cd' : Int32} {n k : Nat} {f g : Nat → Int32} {V V' : Cell} (h : Cod cd n f V) (h' : Cod cd' k g V') (hne : ¬ cd = cd') : ¬ SameT n f k g := by
  rintro ⟨rfl, e⟩
  rcases h with ⟨rfl, -, k2⟩ | ⟨rfl, -, -, j, hj, hw⟩
  · rcases h' with ⟨rfl, -⟩ | ⟨-, -, -, j, hj, hw⟩
    · exact hne rfl
    · exact (k2 j hj).2 (by rw [e j hj]; exact hw)
  · rcases h' with ⟨-, -, m2⟩ | ⟨rfl, -⟩
    · exact (m2 j hj).2 (by rw [← e j hj]; exact hw)
    · exact hne rfl
/-- an object of exactly C is an instance of C -/
theorem cinst {p : Program} {l : Launch} {e : Env} {R : Room} {s : State} {m : MethodId} {args : Array Value} {below : List Frame} {meth : Method} {c : Code} {T : State} {locs : List Loc} {cells slots : Nat} (X : Stand p l e R s m args below meth c T locs cells slots) (hexec : p.tables.exec = Jvm.exec) {own C : String} {index : Nat} (hown : s.vm.findClass own = some m.cls) (hlink : (Cond.classLink own index C).before args s = true) {a : Addr} (hE : Exact C a T)
    {g : JFrame} (hg : g.method = m) {rest : List Value} (hstack : g.stack = .ref a :: rest) (hdg : decode c.code g.pc = .ok (.instanceof index, 3)) :
    ∃ T', Stand p l e R s m args below meth c T' locs cells slots ∧ T'.heap = T.heap ∧ ∀ target, Steps p.tables e below (T'.setTop { g with pc := g.pc + 3, stack := .int 1 :: rest }) target → Steps p.tables e below (T.setTop g) target := by
  obtain ⟨cB, h1, D, h2, h3, h4⟩ := hE
  have h1' : s.vm.findClass C = some cB := by rw [← X.warmed.alike.findClass]; exact h1
  obtain ⟨vm', X', st⟩ := X.instanceofYes hexec hown hlink h2 h4 h1' (by rw [h3]; exact Jvm.Free.SB.assignable_self _ _) hg hstack hdg
  exact ⟨_, X', rfl, st⟩
theorem cself {p : Program} {l : Launch} {e : Env} {R : Room} {s : State} {m : MethodId} {args : Array Value} {below : List Frame} {meth : Method} {c : Code} {T : State} {locs : List Loc} {cells slots : Nat} (X : Stand p l e R s m args below meth c T locs cells slots) (hexec : p.tables.exec = Jvm.exec) {own C : String} {index : Nat} (hown : s.vm.findClass own = some m.cls) (hlink : (Cond.classLink own index C).before args s = true) {a : Addr} (hE : Exact C a T)
    {g : JFrame} (hg : g.method = m) {rest : List Value} (hstack : g.stack = .ref a :: rest) (hdg : decode c.code g.pc = .ok (.checkcast index, 3)) :
    ∃ T', Stand p l e R s m args below meth c T' locs cells slots ∧ T'.heap = T.heap ∧ ∀ target, Steps p.tables e below (T'.setTop { g with pc := g.pc + 3, stack := .ref a :: rest }) target → Steps p.tables e below (T.setTop g) target := by
  obtain ⟨cB, h1, D, h2, h3, h4⟩ := hE
  have h1' : s.vm.findClass C = some cB := by rw [← X.warmed.alike.findClass]; exact h1
  obtain ⟨vm', X', st⟩ := X.checkcastYes hexec hown hlink h2 h4 h1' (by rw [h3]; exact Jvm.Free.SB.assignable_self _ _) hg hstack hdg
  exact ⟨_, X', rfl, fun t h => st t (by rw [← hstack] at h; exact h)⟩
namespace SEq
def yN : MethodName := ⟨"java/lang/String", "equals", "(Ljava/lang/Object;)Z"⟩
abbrev yB : ByteArray := jdk_42_method_66_code
theorem d0 : decode yB 0 = .ok (.aload_n 0, 1) := by decide +kernel
theorem d1 : decode yB 1 = .ok (.aload_n 1, 1) := by decide +kernel
theorem d2 : decode yB 2 = .ok (.if_acmp (.ne) 5, 3) := by decide +kernel
theorem d5 : decode yB 5 = .ok (.iconst 1, 1) := by decide +kernel
theorem d6 : decode yB 6 = .ok (.ireturn, 1) := by decide +kernel
theorem d7 : decode yB 7 = .ok (.aload_n 1, 1) := by decide +kernel
theorem d8 : decode yB 8 = .ok (.instanceof 10, 3) := by decide +kernel
theorem d11 : decode yB 11 = .ok (.ifCond (.eq) 43, 3) := by decide +kernel
theorem d14 : decode yB 14 = .ok (.aload_n 1, 1) := by decide +kernel
theorem d15 : decode yB 15 = .ok (.checkcast 10, 3) := by decide +kernel
theorem d18 : decode yB 18 = .ok (.astore_n 2, 1) := by decide +kernel
theorem d19 : decode yB 19 = .ok (.getstatic 38, 3) := by decide +kernel
theorem d22 : decode yB 22 = .ok (.ifCond (.eq) 14, 3) := by decide +kernel
theorem d25 : decode yB 25 = .ok (.aload_n 0, 1) := by decide +kernel
theorem d26 : decode yB 26 = .ok (.getfield 15, 3) := by decide +kernel
theorem d29 : decode yB 29 = .ok (.aload_n 2, 1) := by decide +kernel
theorem d30 : decode yB 30 = .ok (.getfield 15, 3) := by decide +kernel
theorem d33 : decode yB 33 = .ok (.if_icmp (.ne) 21, 3) := by decide +kernel
theorem d36 : decode yB 36 = .ok (.aload_n 0, 1) := by decide +kernel
theorem d37 : decode yB 37 = .ok (.getfield 9, 3) := by decide +kernel
theorem d40 : decode yB 40 = .ok (.aload_n 2, 1) := by decide +kernel
theorem d41 : decode yB 41 = .ok (.getfield 9, 3) := by decide +kernel
theorem d44 : decode yB 44 = .ok (.invokestatic 541, 3) := by decide +kernel
theorem d47 : decode yB 47 = .ok (.ifCond (.eq) 7, 3) := by decide +kernel
theorem d50 : decode yB 50 = .ok (.iconst 1, 1) := by decide +kernel
theorem d51 : decode yB 51 = .ok (.goto 4, 3) := by decide +kernel
theorem d54 : decode yB 54 = .ok (.iconst 0, 1) := by decide +kernel
theorem d55 : decode yB 55 = .ok (.ireturn, 1) := by decide +kernel
def site : List Cond := [.classLink "java/lang/String" 10 "java/lang/String", .fieldLink "java/lang/String" 38 "java/lang/String" "COMPACT_STRINGS" "Z", .fieldLink "java/lang/String" 15 "java/lang/String" "coder" "B", .fieldLink "java/lang/String" 9 "java/lang/String" "value" "[B", LEq.tab] ++ staticW "java/lang/String" 541 LEq.yN
def tab : Cond := tabOf yN yB 3 (some .boolean) site
def P (x t : Addr) (V : Cell) (cd : Int32) (n : Nat) (f : Nat → Int32) (y t' : Addr) (V' : Cell) (cd' : Int32) (k : Nat) (g : Nat → Int32) (z : Int32) (args : Array Value) (s : State) : Prop := args = #[.ref x, .ref y] ∧ Txt x t V cd n f s ∧ Txt y t' V' cd' k g s ∧ StaticIs s "java/lang/String" "COMPACT_STRINGS" "Z" (.int z) ∧ ¬ z = 0
/-- equals(Object) of two Strings: whether the texts are the same -/
theorem law (l : Launch) (x t : Addr) (V : Cell) (cd : Int32) (n : Nat) (f : Nat → Int32) (y t' : Addr) (V' : Cell) (cd' : Int32) (k : Nat) (g : Nat → Int32) (z : Int32) : Law l yN 2 1 1 14 yB 3 (some .boolean) site (P x t V cd n f y t' V' cd' k g z) (Says01 (SameT n f k g)) [] 0 0 := by
  refine Law.of_walk (plainFor_of_name (by decide +kernel)) (by decide +kernel) (by decide +kernel) (by decide) (fun _ _ h => by rw [h.1]; rfl) (fun _ U U' hal hh h => ⟨h.1, h.2.1.mv hal hh, h.2.2.1.mv hal hh, h.2.2.2.1.there hal hh, h.2.2.2.2⟩) (fun r U U' V V' h1 hal h2 h => Says01.mv r U U' V V' h1 hal h2 h) ?_
  intro p e s m args below meth c s₁ X0 hexec hbytes hml hret hlk hnm hown hh0 W hP
  obtain ⟨rfl, hx, hy, s1, hz⟩ := hP
  have c1 : Steps p.tables e below (s₁.setTop (entryFrame m #[.ref x, .ref y] 3)) (s₁.setTop (mkF m 2 #[.val (.ref x), .val (.ref y), .unset] [.ref y, .ref x])) := Steps.trans (entry rfl) (by
    show Steps p.tables e below (s₁.setTop (mkF m 0 #[.val (.ref x), .val (.ref y), .unset] [])) _
    refine XS.aloadN X0.here hexec rfl (hb hbytes d0) rfl rfl ?_
    refine XS.aloadN X0.here hexec rfl (hb hbytes d1) rfl rfl ?_
    exact Steps.refl _)
  by_cases hxy : x = y
  · have c2 : Steps p.tables e below (s₁.setTop (entryFrame m #[.ref x, .ref y] 3)) (s₁.setTop (mkF m 6 #[.val (.ref x), .val (.ref y), .unset] [.int 1])) := c1.trans (by
      refine acmpNo X0.here hexec rfl (hb hbytes d2) rfl rfl rfl (by simp [acmp, hxy]) ?_
      refine iconstV X0.here hexec rfl 1 (hb hbytes d5) (by decide) ?_
      exact Steps.refl _)
    subst hxy
    have ec : cd = cd' := by
      obtain ⟨D, fd, a1, a2, a3⟩ := hx.2.2.1
      obtain ⟨D', fd', b1, b2, b3⟩ := hy.2.2.1
      cases a1.symm.trans b1
      obtain ⟨q1, q2, q3, q4⟩ := a2.1
      obtain ⟨r1, r2, r3, r4⟩ := b2.1
      cases q4.symm.trans r4
      cases a3.symm.trans b3; rfl
    have et : t = t' := by
      obtain ⟨D, fd, a1, a2, a3⟩ := hx.2.1
      obtain ⟨D', fd', b1, b2, b3⟩ := hy.2.1
      cases a1.symm.trans b1
      obtain ⟨q1, q2, q3, q4⟩ := a2.1
      obtain ⟨r1, r2, r3, r4⟩ := b2.1
      cases q4.symm.trans r4
      cases a3.symm.trans b3; rfl
    subst ec et
    have ev : V = V' := by cases hx.2.2.2.1.1.symm.trans hy.2.2.2.1.1; rfl
    subst ev
    have hs : SameT n f k g := (Cod.eqv hx.2.2.2.2.1 hy.2.2.2.2.1 hx.2.2.2.2.2 hy.2.2.2.2.2).mp ⟨rfl, fun _ _ => rfl⟩
    exact ⟨s₁, some (.int 1), _, _, _, X0, rfl, rfl, rfl, (fun h => by cases h), ⟨1, rfl, hh0, Or.inl ⟨rfl, hs⟩⟩, fun fs hl => c2.trans (X0.ireturnOut hexec hret rfl (Or.inr (Or.inl rfl)) (hb hbytes d6) hl)⟩
  · have c2 : Steps p.tables e below (s₁.setTop (entryFrame m #[.ref x, .ref y] 3)) (s₁.setTop (mkF m 8 #[.val (.ref x), .val (.ref y), .unset] [.ref y])) := c1.trans (by
      refine acmpYes X0.here hexec rfl (pc0 := 2) rfl (hb hbytes d2) rfl rfl rfl (by simp [acmp, hxy]) (by decide) rfl ?_
      refine XS.aloadN X0.here hexec rfl (hb hbytes d7) rfl rfl ?_
      exact Steps.refl _)
    obtain ⟨T3, X3, q3, st3⟩ := cinst X0 hexec hown (wk W (.classLink "java/lang/String" 10 "java/lang/String")) (hy.mv X0.warmed.alike hh0).1 (g := (mkF m 8 #[.val (.ref x), .val (.ref y), .unset] [.ref y])) rfl (rest := []) rfl (hb hbytes d8)
    have hh3 := q3.trans hh0
    have c4 : Steps p.tables e below (s₁.setTop (entryFrame m #[.ref x, .ref y] 3)) (T3.setTop (mkF m 15 #[.val (.ref x), .val (.ref y), .unset] [.ref y])) := (c2.trans (st3 _ (Steps.refl _))).trans (by
      refine XS.ifNo X3.here hexec rfl (hb hbytes d11) rfl (i0_eq_f (by decide)) ?_
      refine XS.aloadN X3.here hexec rfl (hb hbytes d14) rfl rfl ?_
      exact Steps.refl _)
    obtain ⟨T5, X5, q5, st5⟩ := cself X3 hexec hown (wk W (.classLink "java/lang/String" 10 "java/lang/String")) (hy.mv X3.warmed.alike hh3).1 (g := (mkF m 15 #[.val (.ref x), .val (.ref y), .unset] [.ref y])) rfl (rest := []) rfl (hb hbytes d15)
    have hh5 := q5.trans hh3
    have c6 : Steps p.tables e below (s₁.setTop (entryFrame m #[.ref x, .ref y] 3)) (T5.setTop (mkF m 19 #[.val (.ref x), .val (.ref y), .val (.ref y)] [])) := (c4.trans (st5 _ (Steps.refl _))).trans (by
      refine XS.astoreN X5.here hexec rfl (hb hbytes d18) rfl rfl rfl ?_
      exact Steps.refl _)
    obtain ⟨T7, X7, q7, st7⟩ := X5.sget hexec hown (wk W (.fieldLink "java/lang/String" 38 "java/lang/String" "COMPACT_STRINGS" "Z")) s1 (fun _ _ h => by rw [hh5]; exact h) (g := (mkF m 19 #[.val (.ref x), .val (.ref y), .val (.ref y)] [])) rfl (hb hbytes d19)
    have hh7 := q7.trans hh5
    have c8 : Steps p.tables e below (s₁.setTop (entryFrame m #[.ref x, .ref y] 3)) (T7.setTop (mkF m 26 #[.val (.ref x), .val (.ref y), .val (.ref y)] [.ref x])) := (c6.trans (st7 _ (Steps.refl _))).trans (by
      refine XS.ifNo X7.here hexec rfl (hb hbytes d22) rfl (i0_eq_f hz) ?_
      refine XS.aloadN X7.here hexec rfl (hb hbytes d25) rfl rfl ?_
      exact Steps.refl _)
    obtain ⟨T9, X9, q9, st9⟩ := X7.hget hexec hown (wk W (.fieldLink "java/lang/String" 15 "java/lang/String" "coder" "B")) (hx.mv X7.warmed.alike hh7).2.2.1 (g := (mkF m 26 #[.val (.ref x), .val (.ref y), .val (.ref y)] [.ref x])) rfl (rest := []) rfl (hb hbytes d26)
    have hh9 := q9.trans hh7
    have c10 : Steps p.tables e below (s₁.setTop (entryFrame m #[.ref x, .ref y] 3)) (T9.setTop (mkF m 30 #[.val (.ref x), .val (.ref y), .val (.ref y)] [.ref y, .int cd])) := (c8.trans (st9 _ (Steps.refl _))).trans (by
      refine XS.aloadN X9.here hexec rfl (hb hbytes d29) rfl rfl ?_
      exact Steps.refl _)
    obtain ⟨T11, X11, q11, st11⟩ := X9.hget hexec hown (wk W (.fieldLink "java/lang/String" 15 "java/lang/String" "coder" "B")) (hy.mv X9.warmed.alike hh9).2.2.1 (g := (mkF m 30 #[.val (.ref x), .val (.ref y), .val (.ref y)] [.ref y, .int cd])) rfl (rest := [.int cd]) rfl (hb hbytes d30)
    have hh11 := q11.trans hh9
    have c12 : Steps p.tables e below (s₁.setTop (entryFrame m #[.ref x, .ref y] 3)) (T11.setTop (mkF m 33 #[.val (.ref x), .val (.ref y), .val (.ref y)] [.int cd', .int cd])) := c10.trans (st11 _ (Steps.refl _))
    by_cases hcd : cd = cd'
    · subst hcd
      have c13 : Steps p.tables e below (s₁.setTop (entryFrame m #[.ref x, .ref y] 3)) (T11.setTop (mkF m 37 #[.val (.ref x), .val (.ref y), .val (.ref y)] [.ref x])) := c12.trans (by
        refine XS.icmpNo X11.here hexec rfl (hb hbytes d33) rfl (ii_ne_f rfl) ?_
        refine XS.aloadN X11.here hexec rfl (hb hbytes d36) rfl rfl ?_
        exact Steps.refl _)
      obtain ⟨T14, X14, q14, st14⟩ := X11.hget hexec hown (wk W (.fieldLink "java/lang/String" 9 "java/lang/String" "value" "[B")) (hx.mv X11.warmed.alike hh11).2.1 (g := (mkF m 37 #[.val (.ref x), .val (.ref y), .val (.ref y)] [.ref x])) rfl (rest := []) rfl (hb hbytes d37)
      have hh14 := q14.trans hh11
      have c15 : Steps p.tables e below (s₁.setTop (entryFrame m #[.ref x, .ref y] 3)) (T14.setTop (mkF m 41 #[.val (.ref x), .val (.ref y), .val (.ref y)] [.ref y, .ref t])) := (c13.trans (st14 _ (Steps.refl _))).trans (by
        refine XS.aloadN X14.here hexec rfl (hb hbytes d40) rfl rfl ?_
        exact Steps.refl _)
      obtain ⟨T16, X16, q16, st16⟩ := X14.hget hexec hown (wk W (.fieldLink "java/lang/String" 9 "java/lang/String" "value" "[B")) (hy.mv X14.warmed.alike hh14).2.1 (g := (mkF m 41 #[.val (.ref x), .val (.ref y), .val (.ref y)] [.ref y, .ref t])) rfl (rest := [.ref t]) rfl (hb hbytes d41)
      have hh16 := q16.trans hh14
      have c17 : Steps p.tables e below (s₁.setTop (entryFrame m #[.ref x, .ref y] 3)) (T16.setTop (mkF m 44 #[.val (.ref x), .val (.ref y), .val (.ref y)] [.ref t', .ref t])) := c15.trans (st16 _ (Steps.refl _))
      obtain ⟨v18, T18, X18, E18, g18⟩ := X16.callS hexec (LEq.law l t V t' V') hown (wks W (staticW "java/lang/String" 541 LEq.yN)) (wk W LEq.tab) (W := 0) (Nat.le_of_ble_eq_true rfl) (Nat.le_of_ble_eq_true rfl) (Nat.le_refl _) (Nat.le_refl _) (g := (mkF m 44 #[.val (.ref x), .val (.ref y), .val (.ref y)] [.ref t', .ref t])) rfl (by rw [hml]; rfl) c17 (argsL := [.ref t, .ref t']) (rest := []) rfl rfl (by show 2 * 0 + 0 ≤ _; decide) (hb hbytes d44) (⟨rfl, hx.2.2.2.1.mv X16.warmed.alike hh16, hx.2.2.2.2.1.ty, hy.2.2.2.1.mv X16.warmed.alike hh16, hy.2.2.2.2.1.ty⟩)
      obtain ⟨v, rfl, q18, hv⟩ := E18
      have iff := Cod.eqv hx.2.2.2.2.1 hy.2.2.2.2.1 hx.2.2.2.2.2 hy.2.2.2.2.2
      rcases hv with ⟨rfl, he⟩ | ⟨rfl, he⟩
      · have c19 : Steps p.tables e below (s₁.setTop (entryFrame m #[.ref x, .ref y] 3)) (T18.setTop (mkF m 55 #[.val (.ref x), .val (.ref y), .val (.ref y)] [.int 1])) := Steps.trans g18 (by
          refine XS.ifNo X18.here hexec rfl (hb hbytes d47) rfl (i0_eq_f (by decide)) ?_
          refine iconstV X18.here hexec rfl 1 (hb hbytes d50) (by decide) ?_
          refine XS.goto X18.here hexec rfl (pc0 := 51) rfl (hb hbytes d51) (by decide) rfl ?_
          exact Steps.refl _)
        exact ⟨T18, some (.int 1), _, _, _, X18, rfl, rfl, rfl, (fun h => by cases h), ⟨1, rfl, q18.trans hh16, Or.inl ⟨rfl, iff.mp he⟩⟩, fun fs hl => c19.trans (X18.ireturnOut hexec hret rfl (Or.inr (Or.inl rfl)) (hb hbytes d55) hl)⟩
      · have c19 : Steps p.tables e below (s₁.setTop (entryFrame m #[.ref x, .ref y] 3)) (T18.setTop (mkF m 55 #[.val (.ref x), .val (.ref y), .val (.ref y)] [.int 0])) := Steps.trans g18 (by
          refine XS.ifYes X18.here hexec rfl (pc0 := 47) rfl (hb hbytes d47) rfl (i0_eq_t rfl) (by decide) rfl ?_
          refine iconstV X18.here hexec rfl 0 (hb hbytes d54) (by decide) ?_
          exact Steps.refl _)
        exact ⟨T18, some (.int 0), _, _, _, X18, rfl, rfl, rfl, (fun h => by cases h), ⟨0, rfl, q18.trans hh16, Or.inr ⟨rfl, fun q => he (iff.mpr q)⟩⟩, fun fs hl => c19.trans (X18.ireturnOut hexec hret rfl (Or.inr (Or.inl rfl)) (hb hbytes d55) hl)⟩
    · have c13 : Steps p.tables e below (s₁.setTop (entryFrame m #[.ref x, .ref y] 3)) (T11.setTop (mkF m 55 #[.val (.ref x), .val (.ref y), .val (.ref y)] [.int 0])) := c12.trans (by
        refine XS.icmpYes X11.here hexec rfl (pc0 := 33) rfl (hb hbytes d33) rfl (ii_ne_t hcd) (by decide) rfl ?_
        refine iconstV X11.here hexec rfl 0 (hb hbytes d54) (by decide) ?_
        exact Steps.refl _)
      exact ⟨T11, some (.int 0), _, _, _, X11, rfl, rfl, rfl, (fun h => by cases h), ⟨0, rfl, hh11, Or.inr ⟨rfl, Cod.dif hx.2.2.2.2.1 hy.2.2.2.2.1 hcd⟩⟩, fun fs hl => c13.trans (X11.ireturnOut hexec hret rfl (Or.inr (Or.inl rfl)) (hb hbytes d55) hl)⟩
theorem pays {l : Launch} {R : Room} {p : Program} {e : Env} {below : List Frame} {s : State} {sargs : Array Value} {len W : Nat} (x t : Addr) (V : Cell) (cd : Int32) (n : Nat) (f : Nat → Int32) (y t' : Addr) (V' : Cell) (cd' : Int32) (k : Nat) (g : Nat → Int32) (z : Int32) (htab : tab.before sargs s = true) (hfr : 2 ≤ R.frames) (hlo : W + 28 ≤ R.locals) :
    Back l R p e below s sargs yN len W (fun A₁ a₁ => A₁.cells + 0 ≤ R.cells ∧ A₁.slots + 0 ≤ R.slots ∧ P x t V cd n f y t' V' cd' k g z a₁ A₁.U) (fun A₁ _ v₁ B₁ => Says01 (SameT n f k g) v₁ A₁.U B₁.U ∧ B₁.locs = A₁.locs ++ [] ∧ B₁.cells = A₁.cells + 0 ∧ B₁.slots = A₁.slots + 0) :=
  (law l x t V cd n f y t' V' cd' k g z).pays htab hfr (by omega)
end SEq
end StrChars
namespace StrChars.Road
open Jvm Sem ClassFile Op Lib Jvm.Stand Jvm.Free Jvm.Free.XT
open Jvm.Lib.Cold (StaticIs)
/-- the words of String.equals(Object) -/
abbrev wordsEq : List Jvm.Cond := [.code SEq.yN SEq.yB 3 (some .boolean), .initialized ST, .classLink ST 10 ST, .fieldLink ST 38 ST "COMPACT_STRINGS" "Z", .fieldLink ST 15 ST "coder" "B", .fieldLink ST 9 ST "value" "[B", .methodLink ST 541 LEq.yN, .static LEq.yN, .code LEq.yN LEq.yB 3 (some .boolean), .initialized "java/lang/StringLatin1"]
theorem tabEq_of {a : Array Value} {s : State} (h : ∀ w ∈ wordsEq, w.before a s = true) : SEq.tab.before a s = true := by
  have hl : LEq.tab.before a s = true := unparts (wk h (.code LEq.yN LEq.yB 3 (some .boolean))) (wks h (.initialized LEq.yN.cls :: LEq.site))
  have q := consq hl h
  exact unparts (wk q (.code SEq.yN SEq.yB 3 (some .boolean))) (wks q (.initialized SEq.yN.cls :: SEq.site))
theorem movedEq {Z s : State} {a0 args : Array Value} (hZ : Z.Warmed39 s.vm) (hw : ∀ d ∈ wordsEq, d.before a0 Z = true) : ∀ d ∈ wordsEq, d.before args s = true := fun d hd => by
  have t : ∀ d ∈ wordsEq, (d.onTables && d.keepsFace) = true := by decide +kernel
  exact RoadKit.mv hZ (hw d hd) (t d hd)
/-- the road's facts of a String, as the laws ask it -/
theorem txt_of {Z U : State} {a0 : Array Value} {kI : Nat} (wi : (Jvm.Cond.instantiable ST kI).before a0 Z = true) (al : Z.vm.Alike U.vm) {x t : Addr} {kb : ClassId} {cs : List Int32} {cd N2 : Int32} {vs : List Value} (E : RoadKit.Exa Z U.heap x ST) (V : RoadKit.Fld Z U.heap x ST "value" "[B" (.ref t)) (C : RoadKit.Fld Z U.heap x ST "coder" "B" (.int cd)) (K : RoadKit.Arv Z U.heap t kb .byte N2 vs (.int 0)) (hc : CodA cs cd N2 vs) (hb : ∀ c ∈ cs, ¬ c < 0 ∧ ¬ (65535 : Int32) < c) (l2 : cs.length ≤ 4000) :
    ∃ A, Txt x t A cd cs.length (fun j => cs.getD j 0) U := by
  obtain ⟨A, K1, K2, K3, K4, K5, K6⟩ := K
  have hcod := hc.cod (by omega) K3 K5
  obtain ⟨D, fV, fC, hB, F1, F2, g1, g2, -, -⟩ := strObj wi al E V C
  exact ⟨A, ⟨_, hB.2.2.1, D, hB.1, rfl, by cases q : D.vm <;> first | rfl | exact absurd q (hB.2.1.2 _)⟩, Has.of hB F1 g1, Has.of hB F2 g2, ⟨K1.1, State.isArrayOf_alike al K1.2.1, K1.2.2, by rcases hcod with ⟨-, q, -⟩ | ⟨-, q, -⟩ <;> omega⟩, hcod, fun j hj => by
    have e : cs.getD j 0 = cs[j] := by simp [List.getD_eq_getElem?_getD, hj]
    show ¬ cs.getD j 0 < 0 ∧ ¬ 65535 < cs.getD j 0
    rw [e]; exact hb _ (List.getElem_mem _)⟩
theorem same_list (cs ds : List Int32) : SameT cs.length (fun j => cs.getD j 0) ds.length (fun j => ds.getD j 0) ↔ cs = ds := by
  constructor
  · rintro ⟨e, q⟩
    refine List.ext_getElem e fun j h1 h2 => ?_
    have := q j h1
    simpa [List.getD_eq_getElem?_getD, h1, h2] using this
  · rintro rfl
    exact ⟨rfl, fun _ _ => rfl⟩
/-- **equals(Object) OF TWO SUCH STRINGS**: 1 just where the chars are the same -/
theorem eqW {p : Program} {l : Launch} {e : Env} {R : Room} {s : State} {args : Array Value} {below : List Frame} {len W : Nat} {Z : State} {a0 : Array Value} {h : Heap} (hZ : Z.Warmed39 s.vm) (hw : ∀ d ∈ wordsEq, d.before a0 Z = true) {kI : Nat} (wi : (Jvm.Cond.instantiable ST kI).before a0 Z = true)
    {x t : Addr} {kb : ClassId} {cs : List Int32} {cd N2 : Int32} {vs : List Value} (E : RoadKit.Exa Z h x ST) (V : RoadKit.Fld Z h x ST "value" "[B" (.ref t)) (C : RoadKit.Fld Z h x ST "coder" "B" (.int cd)) (K : RoadKit.Arv Z h t kb .byte N2 vs (.int 0)) (hc : CodA cs cd N2 vs) (hb : ∀ c ∈ cs, ¬ c < 0 ∧ ¬ (65535 : Int32) < c) (l2 : cs.length ≤ 4000)
    {y t' : Addr} {kb' : ClassId} {ds : List Int32} {cd' N2' : Int32} {vs' : List Value} (E' : RoadKit.Exa Z h y ST) (V' : RoadKit.Fld Z h y ST "value" "[B" (.ref t')) (C' : RoadKit.Fld Z h y ST "coder" "B" (.int cd')) (K' : RoadKit.Arv Z h t' kb' .byte N2' vs' (.int 0)) (hc' : CodA ds cd' N2' vs') (hb' : ∀ c ∈ ds, ¬ c < 0 ∧ ¬ (65535 : Int32) < c) (l2' : ds.length ≤ 4000)
    {z : Int32} (S : RoadKit.Sta Z h ST "COMPACT_STRINGS" "Z" (.int z)) (hz : ¬ z = 0) (hfr : 2 ≤ R.frames) (hlo : W + 28 ≤ R.locals) :
    Back l R p e below s args (⟨"java/lang/String", "equals", "(Ljava/lang/Object;)Z"⟩ : MethodName) len W (fun P a => a = #[.ref x, .ref y] ∧ P.U.heap = h ∧ P.cells + 0 ≤ R.cells ∧ P.slots + 0 ≤ R.slots)
      (fun P _ v B => ∃ L, (((v = some (.int 1) ∧ cs = ds) ∨ (v = some (.int 0) ∧ ¬ cs = ds)) ∧ L = [] ∧ B.U.heap = h) ∧ B.locs = P.locs ++ L ∧ B.cells = P.cells + 0 ∧ B.slots = P.slots + 0) := by
  intro m meth c P g ig mk a X hg hsize hdg hW hn hp'
  obtain ⟨rfl, rfl, r1, r2⟩ := hp'
  have al : Z.vm.Alike P.U.vm := hZ.alike.trans X.warmed.alike
  obtain ⟨A, hx⟩ := txt_of wi al E V C K hc hb l2
  obtain ⟨A', hy⟩ := txt_of wi al E' V' C' K' hc' hb' l2'
  obtain ⟨v, B, X', ⟨⟨w, hv, hh, hq⟩, hl, hk, hs⟩, st⟩ := SEq.pays x t A cd cs.length (fun j => cs.getD j 0) y t' A' cd' ds.length (fun j => ds.getD j 0) z (tabEq_of (movedEq hZ hw)) hfr hlo m meth c P g ig mk _ X hg hsize hdg hW hn ⟨r1, r2, rfl, hx, hy, sta_is al S, hz⟩
  refine ⟨v, B, X', ⟨[], ⟨?_, rfl, hh⟩, hl, hk, hs⟩, st⟩
  rcases hq with ⟨rfl, q⟩ | ⟨rfl, q⟩
  · exact Or.inl ⟨hv, (same_list cs ds).mp q⟩
  · exact Or.inr ⟨hv, fun e => q ((same_list cs ds).mpr e)⟩
end StrChars.Road
end Jvm.Pilot.@@N@@
namespace Jvm.Pilot.@@N@@
open Jvm Jvm.ClassFile Sem Op Lib Jvm.Free Jvm.Stand Jvm.LawKit Jvm.RoadKit Bundle Jvm.Pilot.@@N@@.Jvm.D
abbrev si (x : Int32) : Slot := .val (.int x)
abbrev sr (x : Addr) : Slot := .val (.ref x)
theorem ww {a0 : Array Value} {Z : State} {d : Jvm.Cond} (hw : ∀ d ∈ tables_1, d.before a0 Z = true) (i : Nat) (h : tables_1[i]? = some d) : d.before a0 Z = true := hw _ (List.mem_of_getElem? h)
theorem mr0 {a b : Nat} (h : a = b) : a ≤ b := Nat.le_of_eq h
section Own
variable {p : Program} {l : Launch} {e : Env} {R : Room} {s : State} {m : MethodId} {args : Array Value} {below : List Frame} {meth : Method} {c : Code} {T : State} {locs : List Loc} {cells slots : Nat} {Z : State} {a0 : Array Value} {h : Heap}
/-- from S the run comes to an end that P speaks of -/
def Goes (tb : Tables) (e : Env) (below : List Frame) (P : State → Outcome → Prop) (S : State) : Prop := ∃ s₂ o, Steps tb e below S s₂ ∧ P s₂ o
theorem go {tb : Tables} {P : State → Outcome → Prop} {S S' : State} (st : ∀ t, Steps tb e below S' t → Steps tb e below S t) (h : Goes tb e below P S') : Goes tb e below P S := by
  obtain ⟨s₂, o, h1, h2⟩ := h
  exact ⟨s₂, o, st _ h1, h2⟩
/-- from S the run comes to the frame F, in a state that P speaks of -/
def Reach (tb : Tables) (e : Env) (below : List Frame) (F : JFrame) (P : State → Prop) (S : State) : Prop := ∃ T', P T' ∧ ∀ t, Steps tb e below (T'.setTop F) t → Steps tb e below S t
theorem goR {tb : Tables} {F : JFrame} {P : State → Prop} {S S' : State} (st : ∀ t, Steps tb e below S' t → Steps tb e below S t) (h : Reach tb e below F P S') : Reach tb e below F P S := by
  obtain ⟨T', h1, h2⟩ := h
  exact ⟨T', h1, fun t k => st t (h2 t k)⟩
def Same (X : Stand p l e R s m args below meth c T locs cells slots) (n0 : Nat) (h : Heap) : State → Prop := fun T' => ∃ locs', Stand p l e R s m args below meth c T' locs' cells slots ∧ Fr n0 locs' ∧ T'.heap = h
/-- the end of a body: it returned, and Q holds of the value, the heap, the written places -/
def EndP (s : State) (below : List Frame) (Q : Option Value → Heap → List Loc → Prop) (kc ks : Nat) (s₂ : State) (o : Outcome) : Prop :=
  s₂.status = .running ∧ Ended s₂ below o ∧ ∃ v L, o = .returned v ∧ Q v s₂.heap L ∧ FrameEnd s o s₂ L kc ks
variable {Q : Option Value → Heap → List Loc → Prop} {kc ks : Nat}
theorem finG {g : JFrame} (X : Stand p l e R s m args below meth c T locs cells slots) (hk : meth.locks = false) (v : Option Value) (hv : meth.sig.returnType = none → v = none)
    (st : ∀ fs, (∀ (f : JFrame) (acts : List Action), f.method = m → f.locked = none → f.entered = [] → (doReturn e (T.setTop f) acts v).1 = T.setFrames fs) → Steps p.tables e below (T.setTop g) (T.setFrames fs))
    (hc : cells ≤ kc) (hs : slots ≤ ks) (hQ : Q v T.heap locs) : Goes p.tables e below (EndP s below Q kc ks) (T.setTop g) := by
  obtain ⟨fs, hr, hrun, hended, hW, hsame⟩ := X.leave (v := v) hv hk
  exact ⟨_, _, st fs hr, hrun, hended, v, locs, rfl, hQ, ⟨_, rfl⟩, hW, hsame.mono hc hs⟩
theorem finV (X : Stand p l e R s m args below meth c T locs cells slots) (hx : p.tables.exec = Jvm.exec) (hk : meth.locks = false) (hret : meth.sig.returnType = none) {pc : Nat} {Ls : Array Slot} (hd : decode c.code pc = .ok (.return_, 1)) (hc : cells ≤ kc) (hs : slots ≤ ks) (hQ : Q none T.heap locs) :
    Goes p.tables e below (EndP s below Q kc ks) (T.setTop (mkF m pc Ls [])) := finG X hk none (fun _ => rfl) (fun _ hr => X.returnOut hx hret hd hr) hc hs hQ
theorem finI (X : Stand p l e R s m args below meth c T locs cells slots) (hx : p.tables.exec = Jvm.exec) (hk : meth.locks = false) (hret : meth.sig.returnType = some .int) {pc : Nat} {Ls : Array Slot} {z : Int32} {rest : List Value} (hd : decode c.code pc = .ok (.ireturn, 1)) (hc : cells ≤ kc) (hs : slots ≤ ks) (hQ : Q (some (.int z)) T.heap locs) :
    Goes p.tables e below (EndP s below Q kc ks) (T.setTop (mkF m pc Ls (.int z :: rest))) := finG X hk _ (fun q => by rw [hret] at q; cases q) (fun _ hr => retI X hx hret hd hr) hc hs hQ
theorem finN (X : Stand p l e R s m args below meth c T locs cells slots) (hx : p.tables.exec = Jvm.exec) (hk : meth.locks = false) {t : FieldType} (hret : meth.sig.returnType = some t) (ht : t = .boolean ∨ t = .byte ∨ t = .char ∨ t = .short) {pc : Nat} {Ls : Array Slot} {z : Int32} {rest : List Value} (hd : decode c.code pc = .ok (.ireturn, 1)) (hc : cells ≤ kc) (hs : slots ≤ ks) (hQ : Q (some (.int (nar t z))) T.heap locs) :
    Goes p.tables e below (EndP s below Q kc ks) (T.setTop (mkF m pc Ls (.int z :: rest))) := finG X hk _ (fun q => by rw [hret] at q; cases q) (fun _ hr => retN X hx hret ht hd hr) hc hs hQ
theorem finR (X : Stand p l e R s m args below meth c T locs cells slots) (hx : p.tables.exec = Jvm.exec) (hk : meth.locks = false) {t : FieldType} (hret : meth.sig.returnType = some t) (ht : t.isReference = true) {w : Value} (hw : w.isRef = true) {pc : Nat} {Ls : Array Slot} (hd : decode c.code pc = .ok (.areturn, 1)) (hc : cells ≤ kc) (hs : slots ≤ ks) (hQ : Q (some w) T.heap locs) :
    Goes p.tables e below (EndP s below Q kc ks) (T.setTop (mkF m pc Ls [w])) := finG X hk _ (fun q => by rw [hret] at q; cases q) (fun _ hr => X.areturnOut hx hw hret ht hd hr) hc hs hQ
theorem finJ (X : Stand p l e R s m args below meth c T locs cells slots) (hx : p.tables.exec = Jvm.exec) (hk : meth.locks = false) (hret : meth.sig.returnType = some .long) {pc : Nat} {Ls : Array Slot} {z : Int64} (hd : decode c.code pc = .ok (.lreturn, 1)) (hc : cells ≤ kc) (hs : slots ≤ ks) (hQ : Q (some (.long z)) T.heap locs) :
    Goes p.tables e below (EndP s below Q kc ks) (T.setTop (mkF m pc Ls [.long z])) := finG X hk _ (fun q => by rw [hret] at q; cases q) (fun _ hr => X.lreturnOut hx hret hd hr) hc hs hQ
theorem bodyOf {y : MethodName} {bytes : ByteArray} {maxL : Nat} {ret : Option FieldType} {ws : List Jvm.Cond} {rm : Room} {as' : Array Value} {Ls : Array Slot} {h0 : Heap}
    (pn : plainFor y = true) (ef : ∀ m, entryFrame m as' maxL = mkF m 0 Ls [])
    (body : ∀ (p : Program) (e : Env) (s : State) (m : MethodId) (below : List Frame) (meth : Method) (c : Code) (T : State), Stand p l e rm s m as' below meth c T [] 0 0 → p.tables.exec = Jvm.exec → c.code = bytes → c.maxLocals = maxL →
      s.vm.findClass y.cls = some m.cls → meth.name = y.name → meth.sig.returnType = ret → meth.locks = false → Z.Warmed39 s.vm → T.heap = h0 → Goes p.tables e below (EndP s below Q rm.cells rm.slots) (T.setTop (mkF m 0 Ls []))) :
    MetFree l y (head1 (Jvm.Cond.code y bytes maxL ret :: ws) rm) (fun a U => a = as' ∧ Z.Warmed39 U.vm ∧ U.heap = h0) (fun _ _ _ _ _ => True) (fun _ U o U' => ∃ v L, o = .returned v ∧ Q v U'.heap L ∧ FrameEnd U o U' L rm.cells rm.slots) := by
  refine MetFree.of_bodySF pn hisR ?_
  intro p e s m args below meth c s₁ Bd hml0 hP hK
  obtain ⟨rfl, hZ, hh⟩ := hP
  have e0 : s₁.heap = h0 := by rw [← hh, Bd.state]; rfl
  obtain ⟨s₂, o, st, hrun, hend, hq⟩ := body p e s m below meth c s₁ (Stand.of_body Bd) Bd.exec Bd.bytes hml0 (findClass_of_methodNamed Bd.named) (name_of_methodNamed Bd.named Bd.method).1 Bd.returns Bd.notSynchronized hZ e0
  exact ⟨s₂, o, castTop (ef m) st, hrun, hend, hq⟩
variable {y z : MethodName} {own C : String} {index W len : Nat} {bytes : ByteArray} {maxL : Nat} {ret : Option FieldType} {as' : Array Value} {argsL rest : List Value} {g : JFrame}
theorem callSt (X : Stand p l e R s m args below meth c T locs cells slots) (hx : p.tables.exec = Jvm.exec) (hZ : Z.Warmed39 s.vm) (hown : s.vm.findClass own = some m.cls)
    (w1 : (Jvm.Cond.methodLink own index y).before a0 Z = true) (w2 : (Jvm.Cond.static y).before a0 Z = true) (w3 : (Jvm.Cond.initialized y.cls).before a0 Z = true) (w4 : (Jvm.Cond.code y bytes maxL ret).before a0 Z = true)
    (hy : y.cls ≠ "java/lang/invoke/MethodHandle" ∧ y.cls ≠ "java/lang/invoke/VarHandle")
    (hB : Back l R p e below s args y 3 W (fun A a => a = argsL.toArray ∧ A.U.heap = h ∧ A.cells + kc ≤ R.cells ∧ A.slots + ks ≤ R.slots) (fun A _ v B => ∃ L, Q v B.U.heap L ∧ B.locs = A.locs ++ L ∧ B.cells = A.cells + kc ∧ B.slots = A.slots + ks))
    (hg : g.method = m) (hsize : g.locals.size = c.maxLocals) (hlen : ∀ sig, parseMethodDescriptor y.desc = some sig → argsL.length = sig.parameters.length) (hstack : g.stack = argsL.reverse ++ rest) (hW : 2 * g.monitorRoom + (rest.map fun v => v.category).sum ≤ W)
    (hd : decode c.code g.pc = .ok (.invokestatic index, 3)) (eT : T.heap = h) (hc : cells + kc ≤ R.cells) (hs : slots + ks ≤ R.slots) :
    ∃ v T' L, Stand p l e R s m args below meth c T' (locs ++ L) (cells + kc) (slots + ks) ∧ Q v T'.heap L ∧ ∀ t, Steps p.tables e below (T'.setTop { g with pc := g.pc + 3, stack := v.toList ++ rest }) t → Steps p.tables e below (T.setTop g) t := by
  obtain ⟨v, _, ⟨T1, L1, k1, n1⟩, -, X1, ⟨L, hQ, hl, hk, hn⟩, st⟩ := Jvm.LawKit.callS X hx hown (mvT hZ w1) (mvT hZ w2) (mvT hZ w3) (mvT hZ w4) hy hB hg hsize hlen hstack hW hd (fun _ _ => ⟨rfl, eT, hc, hs⟩)
  dsimp only [Pt.U, Pt.locs, Pt.cells, Pt.slots] at X1 hl hk hn st hQ
  subst hl hk hn
  exact ⟨v, T1, L, X1, hQ, st⟩
theorem callSp {a : Addr} (X : Stand p l e R s m args below meth c T locs cells slots) (hx : p.tables.exec = Jvm.exec) (hZ : Z.Warmed39 s.vm) (hy1 : y.name = "<init>") (hown : s.vm.findClass own = some m.cls)
    (w1 : (Jvm.Cond.methodLink own index y).before a0 Z = true) (w2 : (Jvm.Cond.instanceMethod y).before a0 Z = true) (w4 : (Jvm.Cond.code y bytes maxL none).before a0 Z = true)
    (hy : y.cls ≠ "java/lang/invoke/MethodHandle" ∧ y.cls ≠ "java/lang/invoke/VarHandle")
    (hB : Back l R p e below s args y 3 W (fun A b => b = (Value.ref a :: argsL).toArray ∧ A.U.heap = h ∧ A.cells + kc ≤ R.cells ∧ A.slots + ks ≤ R.slots) (fun A _ v B => ∃ L, Q v B.U.heap L ∧ B.locs = A.locs ++ L ∧ B.cells = A.cells + kc ∧ B.slots = A.slots + ks))
    (hg : g.method = m) (hsize : g.locals.size = c.maxLocals) (hlen : ∀ sig, parseMethodDescriptor y.desc = some sig → argsL.length = sig.parameters.length) (hstack : g.stack = argsL.reverse ++ .ref a :: rest) (hW : 2 * g.monitorRoom + (rest.map fun v => v.category).sum ≤ W)
    (hd : decode c.code g.pc = .ok (.invokespecial index, 3)) (eT : T.heap = h) (hc : cells + kc ≤ R.cells) (hs : slots + ks ≤ R.slots) :
    ∃ v T' L, Stand p l e R s m args below meth c T' (locs ++ L) (cells + kc) (slots + ks) ∧ Q v T'.heap L ∧ ∀ t, Steps p.tables e below (T'.setTop { g with pc := g.pc + 3, stack := v.toList ++ rest }) t → Steps p.tables e below (T.setTop g) t := by
  obtain ⟨v, _, ⟨T1, L1, k1, n1⟩, -, X1, ⟨L, hQ, hl, hk, hn⟩, st⟩ := X.specialBack hx hy1 hown (mvT hZ w1) (mvT hZ w2) (mvT hZ w4) hy hB hg hsize (Steps.refl _) hlen hstack hW hd (fun _ _ => ⟨rfl, eT, hc, hs⟩)
  dsimp only [Pt.U, Pt.locs, Pt.cells, Pt.slots] at X1 hl hk hn st hQ
  subst hl hk hn
  exact ⟨v, T1, L, X1, hQ, fun t k => st.trans k⟩
theorem callV {a : Addr} (X : Stand p l e R s m args below meth c T locs cells slots) (hx : p.tables.exec = Jvm.exec) (hZ : Z.Warmed39 s.vm) (hown : s.vm.findClass own = some m.cls)
    (w1 : (Jvm.Cond.methodLink own index y).before a0 Z = true) (w2 : (Jvm.Cond.declares y).before a0 Z = true) (nf : NotFace s y) (w3 : (Jvm.Cond.selects C y z).before a0 Z = true) (w4 : (Jvm.Cond.instanceMethod z).before a0 Z = true)
    (hy : y.cls ≠ "java/lang/invoke/MethodHandle" ∧ y.cls ≠ "java/lang/invoke/VarHandle")
    (hB : Back l R p e below s args z 3 W (fun A b => b = (Value.ref a :: argsL).toArray ∧ A.U.heap = h ∧ A.cells + kc ≤ R.cells ∧ A.slots + ks ≤ R.slots) (fun A _ v B => ∃ L, Q v B.U.heap L ∧ B.locs = A.locs ++ L ∧ B.cells = A.cells + kc ∧ B.slots = A.slots + ks))
    (E : Exa Z h a C) (hg : g.method = m) (hsize : g.locals.size = c.maxLocals) (hlen : ∀ sig, parseMethodDescriptor y.desc = some sig → argsL.length = sig.parameters.length) (hstack : g.stack = argsL.reverse ++ .ref a :: rest) (hW : 2 * g.monitorRoom + (rest.map fun v => v.category).sum ≤ W)
    (hd : decode c.code g.pc = .ok (.invokevirtual index, 3)) (eT : T.heap = h) (hc : cells + kc ≤ R.cells) (hs : slots + ks ≤ R.slots) :
    ∃ v T' L, Stand p l e R s m args below meth c T' (locs ++ L) (cells + kc) (slots + ks) ∧ Q v T'.heap L ∧ ∀ t, Steps p.tables e below (T'.setTop { g with pc := g.pc + 3, stack := v.toList ++ rest }) t → Steps p.tables e below (T.setTop g) t := by
  obtain ⟨cq, kq, qa, qb, qc⟩ := isOf hZ eT E
  obtain ⟨v, _, ⟨T1, L1, k1, n1⟩, -, X1, ⟨L, hQ, hl, hk, hn⟩, st⟩ := X.virtualBack hx hown (mvT hZ w1) (mvT hZ w2) nf (mvT hZ w3) (mvT hZ w4) hy hB qa qc hg hsize (Steps.refl _) hlen hstack hW hd (fun _ _ => ⟨rfl, eT, hc, hs⟩)
  dsimp only [Pt.U, Pt.locs, Pt.cells, Pt.slots] at X1 hl hk hn st hQ
  subst hl hk hn
  exact ⟨v, T1, L, X1, hQ, fun t k => st.trans k⟩
theorem nsRoot {O K : String} {n : Nat} (w : (Jvm.Cond.noSuperclass O).before a0 Z = true) (wk : (Jvm.Cond.instantiable K n).before a0 Z = true) (hn : O ≠ K) : NS Z O K := by
  obtain ⟨c, k, h1, h2, h3, -, -⟩ := Cond.noSuperclass_spec w
  obtain ⟨t, kt, g1, -⟩ := Cond.instantiable_spec wk
  have ne := ids_ne h1 g1 hn
  refine ⟨c, t, h1, g1, fun fuel => ?_⟩
  cases fuel with
  | zero => rfl
  | succ f => simp [Vm.isSubclassAux, ne, h2, h3]
theorem nsNo {C S K : String} {n : Nat} (w : (Jvm.Cond.superclass C S).before a0 Z = true) (wk : (Jvm.Cond.instantiable K n).before a0 Z = true) (n : NS Z C K) (hn : C ≠ K) : ∃ c t, Z.vm.findClass C = some c ∧ Z.vm.findClass K = some t ∧ Z.vm.assignable c t = false := by
  obtain ⟨c, t, h0, g0, n3⟩ := n
  obtain ⟨p, k, kp, h1, h2, h3, h4, h5, -, h7⟩ := Cond.superclass_spec h0 w
  obtain ⟨t', kt, g1, g2, g3, g4, -⟩ := Cond.instantiable_spec wk
  cases g0.symm.trans g1
  have g7 : kt.isInterface = false := (Bool.or_eq_false_iff.mp g4).1
  have ne := ids_ne h0 g0 hn
  refine ⟨c, t, h0, g0, ?_⟩
  show Z.vm.assignableAux (255 + 1) c t = false
  simp [Vm.assignableAux, ne, h2, g2, h5, g3, g7, Vm.isSubclass, n3]
theorem lsw {tb : Tables} [Ours tb] {target : State} {g : JFrame} (h : At T m c below) (hx : tb.exec = Jvm.exec) (hg : g.method = m) {dflt : Int} {pairs : Array (Int × Int)} {len : Nat} {pc0 pc' : Nat} (hpc : g.pc = pc0) (hd : decode c.code g.pc = .ok (.lookupswitch dflt pairs, len)) {i : Int32} {rest : List Value} (hs : g.stack = .int i :: rest)
    (hsrt : (pairs.toList.zip pairs.toList.tail).all (fun z => decide (z.1.1 < z.2.1)) = true) (ho : 0 ≤ (pc0 : Int) + lookupswitch.offset pairs.toList dflt i.toInt) (hp : ((pc0 : Int) + lookupswitch.offset pairs.toList dflt i.toInt).toNat = pc') (hr : Steps tb e below (T.setTop { g with pc := pc', stack := rest }) target) : Steps tb e below (T.setTop g) target := by
  subst hg hpc hp
  jvm_step h [h.top, hx, hd, hs, ho, lookupswitch.wp_chain]
  exact ⟨fun a b a1 b1 q => of_decide_eq_true (List.all_eq_true.mp hsrt _ q), hr⟩
theorem eqInt_v {t : Term} {n : Int32} (h : (Jvm.Cond.eq t (.int n)).value args s none s [] = some true) : t.eval args s none [] s = some (.int n) := by
  obtain ⟨x, y, hx, hy, k1, -⟩ := cmp_v (Or.inl h)
  have hy' : (Term.int n).eval args s none [] s = some (.int n) := Term.int_eval n
  have e : y = .int n := Option.some.inj (hy.symm.trans hy')
  subst e
  cases x <;> simp [Kin, Value.isRef] at k1
  rw [gotT (Cond.eq_ints hx hy') h] at hx
  exact hx
theorem putC (X : Stand p l e R s m args below meth c T locs cells slots) (hx : p.tables.exec = Jvm.exec) (hZ : Z.Warmed39 s.vm) (eT : T.heap = h) {b : Addr} {kB : ClassId} {nB : Int32} {vB : List Value} {dB : Value} (B : Arv Z h b kB .char nB vB dB) {j x : Int32} {i : Nat} (hn : nar .char x = x) (hj : ¬ j < 0 ∧ j < nB) (hi : j.toNatClampNeg = i) (hl : i < vB.length) (hg : g.method = m) (hs : g.stack = .int x :: .int j :: .ref b :: rest) (hd : decode c.code g.pc = .ok (.castore, 1)) :
    ∃ T' h', Stand p l e R s m args below meth c T' (locs ++ [⟨b, j.toNatClampNeg⟩]) cells slots ∧ T'.heap = h' ∧ Wr h h' b j.toNatClampNeg (.int x) ∧ Arv Z h' b kB .char nB (vB.set i (.int x)) dB ∧ ∀ t, Steps p.tables e below (T'.setTop { g with pc := g.pc + 1, stack := rest }) t → Steps p.tables e below (T.setTop g) t := by
  obtain ⟨cl, A, q1, S1, M1, H1, G1⟩ := B
  obtain ⟨T', h', X', e', W, st⟩ := stC X hx hZ eT A (inb_of S1 hj) hg hs hd
  rw [hn] at W
  exact ⟨T', h', X', e', W, Arv.set A q1 S1 M1 H1 G1 (by rw [← hn]; exact fits_nar_char _) W i hi hl, st⟩
theorem getC (X : Stand p l e R s m args below meth c T locs cells slots) (hx : p.tables.exec = Jvm.exec) (hZ : Z.Warmed39 s.vm) (eT : T.heap = h) {b : Addr} {kB : ClassId} {nB : Int32} {vB : List Value} {dB v : Value} (B : Arv Z h b kB .char nB vB dB) {j : Int32} (hj : ¬ j < 0 ∧ j < nB) (hv : vB.getD j.toNatClampNeg dB = v) (hg : g.method = m) (hs : g.stack = .int j :: .ref b :: rest) (hd : decode c.code g.pc = .ok (.caload, 1)) {t : State} (hr : Steps p.tables e below (T.setTop { g with pc := g.pc + 1, stack := v :: rest }) t) : Steps p.tables e below (T.setTop g) t := by
  obtain ⟨cl, A, q1, S1, M1, H1, G1⟩ := B
  have hin := inb_of S1 hj
  exact X.caload hx (j := j) (v := v) (by rw [eT]; exact A.1) (State.isArrayOf_alike hZ.alike A.2.1) A.2.2 hin (Has.at H1 hin hv) hg hs hd _ hr
theorem narc (x : Int32) : nar .char x.toUInt32.toUInt16.toUInt32.toInt32 = x.toUInt32.toUInt16.toUInt32.toInt32 := by
  have h1 := c_i2c x
  have h2 := c_i2c x.toUInt32.toUInt16.toUInt32.toInt32
  apply Int32.toInt_inj.mp
  show (x.toUInt32.toUInt16.toUInt32.toInt32).toUInt32.toUInt16.toUInt32.toInt32.toInt = _
  omega
end Own
end Jvm.Pilot.@@N@@
namespace Jvm.Pilot.@@N@@
open Jvm Jvm.ClassFile Sem Op Lib Jvm.Free Jvm.Stand Jvm.LawKit Jvm.RoadKit Bundle Jvm.Pilot.@@N@@.Jvm.D
theorem allI {P : Int32 → Prop} {y : Int32} {L : List Int32} (q : P y) (r : ∀ x ∈ L, P x) : ∀ x ∈ y :: L, P x := fun x z => (List.mem_cons.mp z).elim (fun u => u ▸ q) (r x)
theorem own_sub {L : List Jvm.Cond} {a0 : Array Value} {Z : State} (hs : ∀ d ∈ L, d ∈ tables_1) (hw : ∀ d ∈ tables_1, d.before a0 Z = true) : ∀ d ∈ L, d.before a0 Z = true := fun d hd => hw d (hs d hd)
set_option maxRecDepth 65536 in
theorem StrChars_words : ∀ d ∈ StrChars.Road.words, d ∈ tables_1 := by decide +kernel
set_option maxRecDepth 65536 in
theorem StrChars_wordsEq : ∀ d ∈ StrChars.Road.wordsEq, d ∈ tables_1 := by decide +kernel
end Jvm.Pilot.@@N@@
namespace Jvm.Pilot.@@N@@
open Jvm Jvm.ClassFile Sem Op Lib Jvm.Free Jvm.Stand Jvm.LawKit Jvm.RoadKit Bundle Jvm.Pilot.@@N@@.Jvm.D
section OwnW
variable {p : Program} {l : Launch} {e : Env} {R : Room} {s : State} {vm0 : Vm} {k0 : Nat} {m : MethodId} {args : Array Value} {below : List Frame} {meth : Method} {c : Code} {T : State} {locs : List Loc} {cells slots : Nat} {Z : State} {a0 : Array Value} {h : Heap} {EL : List (String × Nat)}
/-- the end of a body that may intern -/
def EndW (Z : State) (EL : List (String × Nat)) (s : State) (below : List Frame) (Q : Option Value → Heap → List Loc → Prop) (kc ks : Nat) (s₂ : State) (o : Outcome) : Prop :=
  s₂.status = .running ∧ Ended s₂ below o ∧ ∃ v L, o = .returned v ∧ Q v s₂.heap L ∧ CHr Z EL s.vm s.heap s₂.vm s₂.heap ∧ ReturnedEndW s o s₂ L kc ks
variable {Q : Option Value → Heap → List Loc → Prop} {kc ks : Nat}
theorem finGW {g : JFrame} (X : Stand p l e R (s.setVm vm0) m args below meth c T locs cells slots) (hk : meth.locks = false) (hS : s.Since vm0 k0) (hkS : k0 ≤ h.size) (hZ : Z.Warmed39 vm0) (hEL : EW Z a0 EL) (hC : CHr Z EL s.vm s.heap vm0 h) (eT : T.heap = h) (v : Option Value) (hv : meth.sig.returnType = none → v = none)
    (st : ∀ fs, (∀ (f : JFrame) (acts : List Action), f.method = m → f.locked = none → f.entered = [] → (doReturn e (T.setTop f) acts v).1 = T.setFrames fs) → Steps p.tables e below (T.setTop g) (T.setFrames fs))
    (hc : cells ≤ kc) (hs : slots ≤ ks) (hQ : Q v h locs) : Goes p.tables e below (EndW Z EL s below Q kc ks) (T.setTop g) := by
  subst eT
  obtain ⟨fs, hr, hrun, hended, hW⟩ := X.leaveW hS hkS (v := v) hv hk
  have q : CHr Z EL s.vm s.heap T.vm T.heap := hC.trans (CHv.at X hZ hEL hC.1)
  exact ⟨_, _, st fs hr, hrun, hended, v, locs, rfl, hQ, q, hW.1, hW.2.1, hW.2.2.1, hW.2.2.2.mono hc hs⟩
theorem finVW (X : Stand p l e R (s.setVm vm0) m args below meth c T locs cells slots) (hx : p.tables.exec = Jvm.exec) (hk : meth.locks = false) (hret : meth.sig.returnType = none) (hS : s.Since vm0 k0) (hkS : k0 ≤ h.size) (hZ : Z.Warmed39 vm0) (hEL : EW Z a0 EL) (hC : CHr Z EL s.vm s.heap vm0 h) (eT : T.heap = h) {pc : Nat} {Ls : Array Slot} (hd : decode c.code pc = .ok (.return_, 1)) (hc : cells ≤ kc) (hs : slots ≤ ks) (hQ : Q none h locs) :
    Goes p.tables e below (EndW Z EL s below Q kc ks) (T.setTop (mkF m pc Ls [])) := finGW X hk hS hkS hZ hEL hC eT none (fun _ => rfl) (fun _ hr => X.returnOut hx hret hd hr) hc hs hQ
theorem finIW (X : Stand p l e R (s.setVm vm0) m args below meth c T locs cells slots) (hx : p.tables.exec = Jvm.exec) (hk : meth.locks = false) (hret : meth.sig.returnType = some .int) (hS : s.Since vm0 k0) (hkS : k0 ≤ h.size) (hZ : Z.Warmed39 vm0) (hEL : EW Z a0 EL) (hC : CHr Z EL s.vm s.heap vm0 h) (eT : T.heap = h) {pc : Nat} {Ls : Array Slot} {z : Int32} {rest : List Value} (hd : decode c.code pc = .ok (.ireturn, 1)) (hc : cells ≤ kc) (hs : slots ≤ ks) (hQ : Q (some (.int z)) h locs) :
    Goes p.tables e below (EndW Z EL s below Q kc ks) (T.setTop (mkF m pc Ls (.int z :: rest))) := finGW X hk hS hkS hZ hEL hC eT _ (fun q => by rw [hret] at q; cases q) (fun _ hr => retI X hx hret hd hr) hc hs hQ
theorem finNW (X : Stand p l e R (s.setVm vm0) m args below meth c T locs cells slots) (hx : p.tables.exec = Jvm.exec) (hk : meth.locks = false) {t : FieldType} (hret : meth.sig.returnType = some t) (ht : t = .boolean ∨ t = .byte ∨ t = .char ∨ t = .short) (hS : s.Since vm0 k0) (hkS : k0 ≤ h.size) (hZ : Z.Warmed39 vm0) (hEL : EW Z a0 EL) (hC : CHr Z EL s.vm s.heap vm0 h) (eT : T.heap = h) {pc : Nat} {Ls : Array Slot} {z : Int32} {rest : List Value} (hd : decode c.code pc = .ok (.ireturn, 1)) (hc : cells ≤ kc) (hs : slots ≤ ks) (hQ : Q (some (.int (nar t z))) h locs) :
    Goes p.tables e below (EndW Z EL s below Q kc ks) (T.setTop (mkF m pc Ls (.int z :: rest))) := finGW X hk hS hkS hZ hEL hC eT _ (fun q => by rw [hret] at q; cases q) (fun _ hr => retN X hx hret ht hd hr) hc hs hQ
theorem finRW (X : Stand p l e R (s.setVm vm0) m args below meth c T locs cells slots) (hx : p.tables.exec = Jvm.exec) (hk : meth.locks = false) {t : FieldType} (hret : meth.sig.returnType = some t) (ht : t.isReference = true) {w : Value} (hw : w.isRef = true) (hS : s.Since vm0 k0) (hkS : k0 ≤ h.size) (hZ : Z.Warmed39 vm0) (hEL : EW Z a0 EL) (hC : CHr Z EL s.vm s.heap vm0 h) (eT : T.heap = h) {pc : Nat} {Ls : Array Slot} (hd : decode c.code pc = .ok (.areturn, 1)) (hc : cells ≤ kc) (hs : slots ≤ ks) (hQ : Q (some w) h locs) :
    Goes p.tables e below (EndW Z EL s below Q kc ks) (T.setTop (mkF m pc Ls [w])) := finGW X hk hS hkS hZ hEL hC eT _ (fun q => by rw [hret] at q; cases q) (fun _ hr => X.areturnOut hx hw hret ht hd hr) hc hs hQ
theorem bodyOfW {xs : List Addr} {y : MethodName} {bytes : ByteArray} {maxL : Nat} {ret : Option FieldType} {ws : List Jvm.Cond} {rm : Room} {as' : Array Value} {Ls : Array Slot} {h0 : Heap}
    (pn : plainFor y = true) (ef : ∀ m, entryFrame m as' maxL = mkF m 0 Ls [])
    (body : ∀ (p : Program) (e : Env) (s : State) (m : MethodId) (below : List Frame) (meth : Method) (c : Code) (T : State), Stand p l e rm (s.setVm s.vm) m as' below meth c T [] 0 0 → p.tables.exec = Jvm.exec → c.code = bytes → c.maxLocals = maxL →
      s.vm.findClass y.cls = some m.cls → meth.name = y.name → meth.sig.returnType = ret → meth.locks = false → Z.Warmed39 s.vm → T.heap = h0 → s.Since s.vm h0.size → CHr Z EL s.vm s.heap s.vm h0 → (∀ x ∈ xs, Safe Z EL s.vm h0 x) → Goes p.tables e below (EndW Z EL s below Q rm.cells rm.slots) (T.setTop (mkF m 0 Ls []))) :
    MetFree l y (head1 (Jvm.Cond.code y bytes maxL ret :: ws) rm) (fun a U => a = as' ∧ Z.Warmed39 U.vm ∧ U.heap = h0 ∧ CHv Z EL U.vm h0 ∧ ∀ x ∈ xs, Safe Z EL U.vm h0 x) (fun _ _ _ _ _ => True) (fun _ U o U' => ∃ v L, o = .returned v ∧ Q v U'.heap L ∧ CHr Z EL U.vm U.heap U'.vm U'.heap ∧ ReturnedEndW U o U' L rm.cells rm.slots) := by
  refine MetFree.of_bodySF pn hisR ?_
  intro p e s m args below meth c s₁ Bd hml0 hP hK
  obtain ⟨rfl, hZ, hh, hH, hsf⟩ := hP
  have e0 : s₁.heap = h0 := by rw [← hh, Bd.state]; rfl
  have hC : CHr Z EL s.vm s.heap s.vm h0 := by rw [hh]; exact CHr.refl hH
  obtain ⟨s₂, o, st, hrun, hend, hq⟩ := body p e s m below meth c s₁ (Stand.of_body Bd) Bd.exec Bd.bytes hml0 (findClass_of_methodNamed Bd.named) (name_of_methodNamed Bd.named Bd.method).1 Bd.returns Bd.notSynchronized hZ e0 ((State.WarmedH.refl s).since _) hC hsf
  exact ⟨s₂, o, castTop (ef m) st, hrun, hend, hq⟩
variable {y z : MethodName} {own C : String} {index W len : Nat} {bytes : ByteArray} {maxL : Nat} {ret : Option FieldType} {as' : Array Value} {argsL rest : List Value} {g : JFrame}
/-- what pays a call of a body that may intern; xs: cells that no booked String has -/
theorem backW {rm : Room} {xs : List Addr}
    (hM : MetFree l y (head1 [Jvm.Cond.code y bytes maxL ret] rm) (fun a U => a = as' ∧ Z.Warmed39 U.vm ∧ U.heap = h ∧ CHv Z EL U.vm h ∧ ∀ x ∈ xs, Safe Z EL U.vm h x) (fun _ _ _ _ _ => True) (fun _ U o U' => ∃ v L, o = .returned v ∧ Q v U'.heap L ∧ CHr Z EL U.vm U.heap U'.vm U'.heap ∧ ReturnedEndW U o U' L rm.cells rm.slots))
    (hZ : Z.Warmed39 vm0) (wc : (Jvm.Cond.code y bytes maxL ret).before a0 Z = true) (wz : (Jvm.Cond.initialized y.cls).before a0 Z = true) (hf : rm.frames + 1 ≤ R.frames) (hl : W + (maxL + 11) + rm.locals ≤ R.locals) (hEL : EW Z a0 EL) (H : CHv Z EL vm0 h) (hsf : ∀ x ∈ xs, Safe Z EL vm0 h x ∧ x < h.size) :
    BackS l R p e below (s.setVm vm0) args y len W (fun A a => a = as' ∧ A.U.heap = h ∧ A.cells + rm.cells ≤ R.cells ∧ A.slots + rm.slots ≤ R.slots)
      (fun A _ v B => ∃ L, Q v B.U.heap L ∧ B.locs = A.locs ++ L ∧ B.cells = A.cells + rm.cells ∧ B.slots = A.slots + rm.slots ∧ CHr Z EL vm0 h B.U.vm B.U.heap) := by
  refine BackS.of_freeW (bytes := bytes) (maxL := maxL) (ret := ret) (E := fun _ first o t L k n => k = rm.cells ∧ n = rm.slots ∧ (∃ v, o = .returned v ∧ Q v t.heap L) ∧ CHr Z EL first.vm first.heap t.vm t.heap) hM hf hl ?_ ?_ (fun _ _ _ _ _ _ _ _ _ => trivial) ?_ ?_
  · intro m meth c A a Y hp
    have hU : Z.Warmed39 A.U.vm := wtrans (s := s.setVm vm0) hZ Y.warmed
    exact ⟨by show (Jvm.Cond.and _ .tt).before a A.U = true; rw [Cond.before_and, mv hU wc]; rfl, mv hU wc, mv hU wz, hp.2.2.1, hp.2.2.2⟩
  · intro m meth c A a g mk Y hp
    have hC := CHv.at Y hZ hEL H
    exact ⟨hp.1, wtrans (s := s.setVm vm0) hZ Y.warmed, hp.2.1, hC.1, fun x hx => hC.safe (hsf x hx).2 (hsf x hx).1⟩
  · rintro a first o t ⟨v, L, h1, h2, h3, h4⟩
    exact ⟨L, _, _, h4, rfl, rfl, ⟨v, h1, h2⟩, h3⟩
  · rintro m meth c A a g mk v t L k n Y hp _ _ ⟨e1, e2, ⟨v', e3, e4⟩, e5⟩
    cases e3
    subst e1 e2
    refine ⟨L, e4, rfl, rfl, rfl, (CHv.at Y hZ hEL H).trans ?_⟩
    rw [← hp.2.1]; exact e5
theorem callStW (X : Stand p l e R (s.setVm vm0) m args below meth c T locs cells slots) (hx : p.tables.exec = Jvm.exec) (hZ : Z.Warmed39 vm0) (hown : vm0.findClass own = some m.cls)
    (w1 : (Jvm.Cond.methodLink own index y).before a0 Z = true) (w2 : (Jvm.Cond.static y).before a0 Z = true) (w3 : (Jvm.Cond.initialized y.cls).before a0 Z = true) (w4 : (Jvm.Cond.code y bytes maxL ret).before a0 Z = true)
    (hy : y.cls ≠ "java/lang/invoke/MethodHandle" ∧ y.cls ≠ "java/lang/invoke/VarHandle")
    (hB : BackS l R p e below (s.setVm vm0) args y 3 W (fun A a => a = argsL.toArray ∧ A.U.heap = h ∧ A.cells + kc ≤ R.cells ∧ A.slots + ks ≤ R.slots) (fun A _ v B => ∃ L, Q v B.U.heap L ∧ B.locs = A.locs ++ L ∧ B.cells = A.cells + kc ∧ B.slots = A.slots + ks ∧ CHr Z EL vm0 h B.U.vm B.U.heap))
    (hg : g.method = m) (hsize : g.locals.size = c.maxLocals) (hlen : ∀ sig, parseMethodDescriptor y.desc = some sig → argsL.length = sig.parameters.length) (hstack : g.stack = argsL.reverse ++ rest) (hW : 2 * g.monitorRoom + (rest.map fun v => v.category).sum ≤ W)
    (hd : decode c.code g.pc = .ok (.invokestatic index, 3)) (eT : T.heap = h) (hc : cells + kc ≤ R.cells) (hs : slots + ks ≤ R.slots) (hS : s.Since vm0 k0) (hkS : k0 ≤ h.size) :
    ∃ v T' L, Stand p l e R (s.setVm T'.vm) m args below meth c T' (locs ++ L) (cells + kc) (slots + ks) ∧ Q v T'.heap L ∧ s.Since T'.vm T'.heap.size ∧ Z.Warmed39 T'.vm ∧ T'.vm.findClass own = some m.cls ∧ CHr Z EL vm0 h T'.vm T'.heap ∧ ∀ t, Steps p.tables e below (T'.setTop { g with pc := g.pc + 3, stack := v.toList ++ rest }) t → Steps p.tables e below (T.setTop g) t := by
  obtain ⟨v, _, ⟨T1, L1, k1, n1⟩, -, X1, h2, hgr, ⟨L, hQ, hl, hk, hn, hC⟩, st⟩ := callSS X hx (s := s.setVm vm0) hown (mvT (s := s.setVm vm0) hZ w1) (mvT (s := s.setVm vm0) hZ w2) (mvT (s := s.setVm vm0) hZ w3) (mvT (s := s.setVm vm0) hZ w4) hy hB hg hsize hlen hstack hW hd (fun _ _ => ⟨rfl, eT, hc, hs⟩)
  dsimp only [Pt.U, Pt.locs, Pt.cells, Pt.slots] at X1 hl hk hn st hQ h2 hgr hC
  subst hl hk hn
  obtain ⟨X2, hS2, hZ2, hown2⟩ := rebS hS hkS X1 h2 (by rw [← eT]; exact hgr) hZ hown
  exact ⟨v, T1, L, X2, hQ, hS2, hZ2, hown2, hC, fun t k => st.trans k⟩
theorem callSpW {a : Addr} (X : Stand p l e R (s.setVm vm0) m args below meth c T locs cells slots) (hx : p.tables.exec = Jvm.exec) (hZ : Z.Warmed39 vm0) (hy1 : y.name = "<init>") (hown : vm0.findClass own = some m.cls)
    (w1 : (Jvm.Cond.methodLink own index y).before a0 Z = true) (w2 : (Jvm.Cond.instanceMethod y).before a0 Z = true) (w4 : (Jvm.Cond.code y bytes maxL none).before a0 Z = true)
    (hy : y.cls ≠ "java/lang/invoke/MethodHandle" ∧ y.cls ≠ "java/lang/invoke/VarHandle")
    (hB : BackS l R p e below (s.setVm vm0) args y 3 W (fun A b => b = (Value.ref a :: argsL).toArray ∧ A.U.heap = h ∧ A.cells + kc ≤ R.cells ∧ A.slots + ks ≤ R.slots) (fun A _ v B => ∃ L, Q v B.U.heap L ∧ B.locs = A.locs ++ L ∧ B.cells = A.cells + kc ∧ B.slots = A.slots + ks ∧ CHr Z EL vm0 h B.U.vm B.U.heap))
    (hg : g.method = m) (hsize : g.locals.size = c.maxLocals) (hlen : ∀ sig, parseMethodDescriptor y.desc = some sig → argsL.length = sig.parameters.length) (hstack : g.stack = argsL.reverse ++ .ref a :: rest) (hW : 2 * g.monitorRoom + (rest.map fun v => v.category).sum ≤ W)
    (hd : decode c.code g.pc = .ok (.invokespecial index, 3)) (eT : T.heap = h) (hc : cells + kc ≤ R.cells) (hs : slots + ks ≤ R.slots) (hS : s.Since vm0 k0) (hkS : k0 ≤ h.size) :
    ∃ v T' L, Stand p l e R (s.setVm T'.vm) m args below meth c T' (locs ++ L) (cells + kc) (slots + ks) ∧ Q v T'.heap L ∧ s.Since T'.vm T'.heap.size ∧ Z.Warmed39 T'.vm ∧ T'.vm.findClass own = some m.cls ∧ CHr Z EL vm0 h T'.vm T'.heap ∧ ∀ t, Steps p.tables e below (T'.setTop { g with pc := g.pc + 3, stack := v.toList ++ rest }) t → Steps p.tables e below (T.setTop g) t := by
  obtain ⟨v, _, ⟨T1, L1, k1, n1⟩, -, X1, h2, hgr, ⟨L, hQ, hl, hk, hn, hC⟩, st⟩ := X.specialBackS hx hy1 hown (mvT (s := s.setVm vm0) hZ w1) (mvT (s := s.setVm vm0) hZ w2) (mvT (s := s.setVm vm0) hZ w4) hy hB hg hsize (Steps.refl _) hlen hstack hW hd (fun _ _ => ⟨rfl, eT, hc, hs⟩)
  dsimp only [Pt.U, Pt.locs, Pt.cells, Pt.slots] at X1 hl hk hn st hQ h2 hgr hC
  subst hl hk hn
  obtain ⟨X2, hS2, hZ2, hown2⟩ := rebS hS hkS X1 h2 (by rw [← eT]; exact hgr) hZ hown
  exact ⟨v, T1, L, X2, hQ, hS2, hZ2, hown2, hC, fun t k => st.trans k⟩
theorem callVW {a : Addr} (X : Stand p l e R (s.setVm vm0) m args below meth c T locs cells slots) (hx : p.tables.exec = Jvm.exec) (hZ : Z.Warmed39 vm0) (hown : vm0.findClass own = some m.cls)
    (w1 : (Jvm.Cond.methodLink own index y).before a0 Z = true) (w2 : (Jvm.Cond.declares y).before a0 Z = true) (nf : NotFace (s.setVm vm0) y) (w3 : (Jvm.Cond.selects C y z).before a0 Z = true) (w4 : (Jvm.Cond.instanceMethod z).before a0 Z = true)
    (hy : y.cls ≠ "java/lang/invoke/MethodHandle" ∧ y.cls ≠ "java/lang/invoke/VarHandle")
    (hB : BackS l R p e below (s.setVm vm0) args z 3 W (fun A b => b = (Value.ref a :: argsL).toArray ∧ A.U.heap = h ∧ A.cells + kc ≤ R.cells ∧ A.slots + ks ≤ R.slots) (fun A _ v B => ∃ L, Q v B.U.heap L ∧ B.locs = A.locs ++ L ∧ B.cells = A.cells + kc ∧ B.slots = A.slots + ks ∧ CHr Z EL vm0 h B.U.vm B.U.heap))
    (E : Exa Z h a C) (hg : g.method = m) (hsize : g.locals.size = c.maxLocals) (hlen : ∀ sig, parseMethodDescriptor y.desc = some sig → argsL.length = sig.parameters.length) (hstack : g.stack = argsL.reverse ++ .ref a :: rest) (hW : 2 * g.monitorRoom + (rest.map fun v => v.category).sum ≤ W)
    (hd : decode c.code g.pc = .ok (.invokevirtual index, 3)) (eT : T.heap = h) (hc : cells + kc ≤ R.cells) (hs : slots + ks ≤ R.slots) (hS : s.Since vm0 k0) (hkS : k0 ≤ h.size) :
    ∃ v T' L, Stand p l e R (s.setVm T'.vm) m args below meth c T' (locs ++ L) (cells + kc) (slots + ks) ∧ Q v T'.heap L ∧ s.Since T'.vm T'.heap.size ∧ Z.Warmed39 T'.vm ∧ T'.vm.findClass own = some m.cls ∧ CHr Z EL vm0 h T'.vm T'.heap ∧ ∀ t, Steps p.tables e below (T'.setTop { g with pc := g.pc + 3, stack := v.toList ++ rest }) t → Steps p.tables e below (T.setTop g) t := by
  obtain ⟨cq, kq, qa, qb, qc⟩ := isOf (s := s.setVm vm0) hZ eT E
  obtain ⟨v, _, ⟨T1, L1, k1, n1⟩, -, X1, h2, hgr, ⟨L, hQ, hl, hk, hn, hC⟩, st⟩ := X.virtualBackS hx hown (mvT (s := s.setVm vm0) hZ w1) (mvT (s := s.setVm vm0) hZ w2) nf (mvT (s := s.setVm vm0) hZ w3) (mvT (s := s.setVm vm0) hZ w4) hy hB qa qc hg hsize (Steps.refl _) hlen hstack hW hd (fun _ _ => ⟨rfl, eT, hc, hs⟩)
  dsimp only [Pt.U, Pt.locs, Pt.cells, Pt.slots] at X1 hl hk hn st hQ h2 hgr hC
  subst hl hk hn
  obtain ⟨X2, hS2, hZ2, hown2⟩ := rebS hS hkS X1 h2 (by rw [← eT]; exact hgr) hZ hown
  exact ⟨v, T1, L, X2, hQ, hS2, hZ2, hown2, hC, fun t k => st.trans k⟩
theorem safeArv {vm : Vm} {x : Addr} {k : ClassId} {ty : FieldType} {n : Int32} {vs : List Value} {d : Value} (hal : Z.vm.Alike vm) (V : Arv Z h x k ty n vs d) (ht : ty ≠ .byte) : Safe Z EL vm h x := by
  obtain ⟨_, A, -⟩ := V
  exact Safe.arr hal A ht
end OwnW
end Jvm.Pilot.@@N@@
namespace Jvm.Pilot.@@N@@
open Jvm Jvm.ClassFile Sem Op Lib Jvm.Free Jvm.Stand Jvm.LawKit Jvm.RoadKit Bundle Jvm.Pilot.@@N@@.Jvm.D
theorem own_EW {a0 : Array Value} {Z : State} (hw : ∀ d ∈ tables_1, d.before a0 Z = true) : EW Z a0 consts_1 := (EW.cons (ww hw 30 rfl) (by decide) EW.nil)
set_option maxRecDepth 65536 in
theorem own_strAtoms : ∀ d ∈ Bundle.stringAtoms, d ∈ tables_1 := by decide +kernel
theorem safeBlank {Z : State} {EL : List (String × Nat)} {vm : Vm} {h : Heap} {x : Addr} (hal : Z.vm.Alike vm) (E : Exa Z h x "java/lang/String") (F : Fld Z h x "java/lang/String" "value" "[B" .null) : Safe Z EL vm h x := fun B => by
  obtain ⟨cell, k, e1, e2, e3, -, -⟩ := E
  obtain ⟨p, -, u, a, -, q, -, G, rfl | rfl⟩ := B
  · obtain ⟨cell', cf, kf, i, f, g1, g2, -, -, -, -, g7⟩ := F
    cases e1.symm.trans g1
    cases (show h[q.sa]? = some q.sC from G.ha).symm.trans e1
    obtain ⟨cS, ⟨⟨-, -, -, ⟨c1, k1, i1, f1, -⟩, -, -, -, v1, -⟩, -⟩, -⟩ := G
    obtain ⟨k3, e5, -⟩ := State.fieldFound?_setVm (s := Z) hal g2
    have e4 := (show (Wst Z vm h).fieldFound? _ _ _ = _ from e5).symm.trans f1
    simp only [Option.some.injEq, Prod.mk.injEq] at e4
    rw [← e4.2.2.2, g7] at v1
    simp at v1
  · cases (show h[q.sd]? = some q.SA from G.hd).symm.trans e1
    obtain ⟨cS, -, -, f, -⟩ := G
    have f' : Z.vm.findClass "[B" = some q.SA.cls := by rw [← hal.findClass]; exact f
    obtain ⟨k1, q1, q2⟩ := Vm.findClass_spec f'
    obtain ⟨k2, q3, q4⟩ := Vm.findClass_spec e2
    cases q1.symm.trans q3
    exact absurd (q2.symm.trans q4) (by decide)
end Jvm.Pilot.@@N@@
namespace Jvm.Pilot.@@N@@
open Jvm Jvm.ClassFile Sem Op Lib Jvm.Free Jvm.Stand Jvm.LawKit Jvm.RoadKit Bundle Jvm.Pilot.@@N@@.Jvm.D
/-- x is a String whose bytes, at t, spell the chars cs by the coder cd -/
def Str (Z : State) (h : Heap) (x t : Addr) (cd : Int32) (cs : List Int32) : Prop := ∃ (kb : ClassId) (N2 : Int32) (vs : List Value), Exa Z h x "java/lang/String" ∧ Fld Z h x "java/lang/String" "value" "[B" (.ref t) ∧ Fld Z h x "java/lang/String" "coder" "B" (.int cd) ∧ Arv Z h t kb .byte N2 vs (.int 0) ∧ StrChars.Road.CodA cs cd N2 vs ∧ (∀ c ∈ cs, ¬ c < 0 ∧ ¬ (65535 : Int32) < c) ∧ cs.length ≤ 4000
theorem own_codOf {cs : List Int32} {n : Nat} (hn : cs.length = n) (hb : ∀ c ∈ cs, ¬ (255 : Int32) < c) : StrChars.Road.CodA cs 0 (Int32.ofNat n) ((cs.map StrChars.lo8).map Value.int) := Or.inl ⟨rfl, by rw [hn], by simp [List.map_map, Function.comp_def], hb⟩
section StrF
variable {Z : State} {h h' : Heap} {x t a : Addr} {cd : Int32} {cs : List Int32} {sl : Nat} {v : Value} {ws : List Addr}
theorem Str.exa (F : Str Z h x t cd cs) : Exa Z h x "java/lang/String" := by obtain ⟨_, _, _, q, -⟩ := F; exact q
theorem Str.val (F : Str Z h x t cd cs) : Fld Z h x "java/lang/String" "value" "[B" (.ref t) := by obtain ⟨_, _, _, -, q, -⟩ := F; exact q
theorem Str.cod (F : Str Z h x t cd cs) : Fld Z h x "java/lang/String" "coder" "B" (.int cd) := by obtain ⟨_, _, _, -, -, q, -⟩ := F; exact q
theorem Str.lt1 (F : Str Z h x t cd cs) : x < h.size := F.exa.lt
theorem Str.lt2 (F : Str Z h x t cd cs) : t < h.size := by obtain ⟨_, _, _, -, -, -, q, -⟩ := F; exact q.lt
theorem Str.ext (F : Str Z h x t cd cs) (E : Ext h h') : Str Z h' x t cd cs := by obtain ⟨k, n, vs, a1, a2, a3, a4, r⟩ := F; exact ⟨k, n, vs, a1.ext E, a2.ext E, a3.ext E, a4.ext E, r⟩
theorem Str.keep (F : Str Z h x t cd cs) (K : Keep h h' ws) (q1 : x ∉ ws) (q2 : t ∉ ws) : Str Z h' x t cd cs := by obtain ⟨k, n, vs, a1, a2, a3, a4, r⟩ := F; exact ⟨k, n, vs, a1.keep K, a2.keep K q1, a3.keep K q1, a4.keep K q2, r⟩
theorem Str.wr (F : Str Z h x t cd cs) (W : Wr h h' a sl v) (q1 : x ≠ a) (q2 : t ≠ a) : Str Z h' x t cd cs := by obtain ⟨k, n, vs, a1, a2, a3, a4, r⟩ := F; exact ⟨k, n, vs, a1.wr W, Fld.other W a2 (Or.inl q1), Fld.other W a3 (Or.inl q1), a4.other W q2, r⟩
theorem Str.ne1 {b : Addr} {C : String} (F : Str Z h x t cd cs) (E : Exa Z h b C) (hC : "java/lang/String" ≠ C) : x ≠ b := F.exa.ne E hC
theorem Str.ne2 {b : Addr} {C : String} {n : Nat} {a0 : Array Value} (F : Str Z h x t cd cs) (E : Exa Z h b C) (w : (Jvm.Cond.instantiable C n).before a0 Z = true) : t ≠ b := by obtain ⟨_, _, _, -, -, -, q, -⟩ := F; exact Ne.symm (E.neArv q w)
end StrF
theorem up16 (cs : List Int32) (h : ∀ c ∈ cs, ¬ c < 0 ∧ ¬ (255 : Int32) < c) : ∀ c ∈ cs, ¬ c < 0 ∧ ¬ (65535 : Int32) < c := fun c hc => ⟨(h c hc).1, fun q => (h c hc).2 (by rw [Int32.lt_iff_toInt_lt] at q ⊢; have e1 : (65535 : Int32).toInt = 65535 := rfl; have e2 : (255 : Int32).toInt = 255 := rfl; omega)⟩
theorem oj_c16 {c : Int32} (h : ¬ c < 0 ∧ ¬ (65535 : Int32) < c) : nar .char c = c := by
  show c.toUInt32.toUInt16.toUInt32.toInt32 = c
  have q := c_i2c c
  have r := rng32 c
  obtain ⟨h0, h1⟩ := h
  rw [Int32.lt_iff_toInt_lt] at h0 h1
  have e0 : (0 : Int32).toInt = 0 := rfl
  have e1 : (65535 : Int32).toInt = 65535 := rfl
  apply Int32.toInt_inj.mp
  omega
abbrev own_c (x : Int32) : Int32 := x.toUInt32.toUInt16.toUInt32.toInt32
theorem own_c255 (x : Int32) : ¬ ((x &&& (255 : Int32)).toUInt32.toUInt16.toUInt32.toInt32) < 0 ∧ ¬ (255 : Int32) < ((x &&& (255 : Int32)).toUInt32.toUInt16.toUInt32.toInt32) := by
  have e := i2c_mask x
  have h := c_mask x 255 8 (by decide) (by decide)
  rw [e]
  simp only [Int32.lt_iff_toInt_lt]
  have e0 : (0 : Int32).toInt = 0 := rfl
  have e1 : (255 : Int32).toInt = 255 := rfl
  omega
theorem own_three (x : Int32) : (x &&& (3 : Int32)) % (3 : Int32) = 0 ∨ (x &&& (3 : Int32)) % (3 : Int32) = 1 ∨ (x &&& (3 : Int32)) % (3 : Int32) = 2 := by
  have h := c_mask x 3 2 (by decide) (by decide)
  have r := (c_irem (x &&& 3) 3 3 rfl).1 (by omega)
  have e0 : (0 : Int32).toInt = 0 := rfl
  have e1 : (1 : Int32).toInt = 1 := rfl
  have e2 : (2 : Int32).toInt = 2 := rfl
  simp only [← Int32.toInt_inj, e0, e1, e2]
  omega
theorem own_four (x : Int32) : (x &&& (3 : Int32)) = 0 ∨ (x &&& (3 : Int32)) = 1 ∨ (x &&& (3 : Int32)) = 2 ∨ (x &&& (3 : Int32)) = 3 := by
  have h := c_mask x 3 2 (by decide) (by decide)
  have e0 : (0 : Int32).toInt = 0 := rfl
  have e1 : (1 : Int32).toInt = 1 := rfl
  have e2 : (2 : Int32).toInt = 2 := rfl
  have e3 : (3 : Int32).toInt = 3 := rfl
  simp only [← Int32.toInt_inj, e0, e1, e2, e3]
  omega
/-- the chars that str gives -/
def own_mk (n b : Int32) : List Int32 := if n = 0 then [] else if n = 1 then [own_c (b &&& 255)] else [own_c (b &&& 255), own_c ((b.toUInt32 >>> ((8 : Int32) &&& 31).toUInt32).toInt32 &&& 255)]
def own_cat (k : Int32) (s r a e : Addr) : Addr := if (k &&& 3) = 0 then s else if (k &&& 3) = 1 then r else if (k &&& 3) = 2 then a else e
theorem own_cat_eq {k j : Int32} {s r a e : Addr} (hk : k = 0 ∨ k = 1 ∨ k = 2 ∨ k = 3) (hj : j = 0 ∨ j = 1 ∨ j = 2 ∨ j = 3) (h1 : s ≠ r) (h2 : s ≠ a) (h3 : s ≠ e) (h4 : r ≠ a) (h5 : r ≠ e) (h6 : a ≠ e) : own_cat k s r a e = own_cat j s r a e ↔ k = j := by
  rcases hk with rfl | rfl | rfl | rfl <;> rcases hj with rfl | rfl | rfl | rfl <;> simp +decide [own_cat, h1, h2, h3, h4, h5, h6, Ne.symm h1, Ne.symm h2, Ne.symm h3, Ne.symm h4, Ne.symm h5, Ne.symm h6]
theorem own_and3 {k : Int32} (hk : k = 0 ∨ k = 1 ∨ k = 2 ∨ k = 3) : k &&& 3 = k := by rcases hk with rfl | rfl | rfl | rfl <;> decide

theorem d5_0 : decode jdk_42_method_149_code 0 = .ok (.aload_n 0, 1) := by decide +kernel
theorem d5_1 : decode jdk_42_method_149_code 1 = .ok (.invokespecial 1, 3) := by decide +kernel
theorem d5_4 : decode jdk_42_method_149_code 4 = .ok (.iload_n 3, 1) := by decide +kernel
theorem d5_5 : decode jdk_42_method_149_code 5 = .ok (.ifCond .ne 22, 3) := by decide +kernel
theorem d5_8 : decode jdk_42_method_149_code 8 = .ok (.aload_n 0, 1) := by decide +kernel
theorem d5_9 : decode jdk_42_method_149_code 9 = .ok (.ldc 7, 2) := by decide +kernel
theorem d5_11 : decode jdk_42_method_149_code 11 = .ok (.getfield 9, 3) := by decide +kernel
theorem d5_14 : decode jdk_42_method_149_code 14 = .ok (.putfield 9, 3) := by decide +kernel
theorem d5_17 : decode jdk_42_method_149_code 17 = .ok (.aload_n 0, 1) := by decide +kernel
theorem d5_18 : decode jdk_42_method_149_code 18 = .ok (.ldc 7, 2) := by decide +kernel
theorem d5_20 : decode jdk_42_method_149_code 20 = .ok (.getfield 15, 3) := by decide +kernel
theorem d5_23 : decode jdk_42_method_149_code 23 = .ok (.putfield 15, 3) := by decide +kernel
theorem d5_26 : decode jdk_42_method_149_code 26 = .ok (.return_, 1) := by decide +kernel
abbrev y_0 : MethodName := ⟨"java/lang/String", "<init>", "([CIILjava/lang/Void;)V"⟩
theorem pn_0 : plainFor y_0 = true := by first | exact plainFor_of_name (by first | (simp [plainName, overriddenIn]; done) | decide +kernel) | decide +kernel
theorem ef_rmE4 (m : MethodId) (x1 : Addr) (b1 : Addr) : entryFrame m #[(.ref x1), (.ref b1), (.int 0), (.int 0), .null] 6 = mkF m 0 #[sr x1, sr b1, si 0, si 0, .val .null, .unset] [] := by first | (simp [entryFrame, mkF, argsToLocals, Value.category]; done) | rfl
def Q_rmE4 (Z : State) (x1 : Addr) (b1 : Addr) (h0 : Heap) (n0 : Nat) (v : Option Value) (h : Heap) (L : List Loc) : Prop := ∃ (t : Addr), v = none ∧ Fr n0 L ∧ Keep h0 h [x1] ∧ (Str Z h x1 t (0 : Int32) ([] : List Int32))
set_option maxRecDepth 65536 in
set_option maxHeartbeats 40000000 in
theorem rmE4 (l : Launch) (Z : State) (a0 : Array Value) (hw : ∀ d ∈ tables_1, d.before a0 Z = true) (ws : List Jvm.Cond) (x1 : Addr) (b1 : Addr) (h0 : Heap) (n0 : Nat) (Z0 : n0 ≤ h0.size) (hp0 : Exa Z h0 x1 "java/lang/String") (hp1 : Fld Z h0 x1 "java/lang/String" "value" "[B" .null) (hp2 : Fld Z h0 x1 "java/lang/String" "coder" "B" (.int 0)) (hp3 : n0 ≤ x1) (hp4 : Old Z n0 h0) :
    MetFree l y_0 (head1 (Jvm.Cond.code y_0 jdk_42_method_149_code 6 none :: ws) ({ frames := 1, cells := 4, slots := 8, locals := 12 } : Room)) (fun a U => a = #[(.ref x1), (.ref b1), (.int 0), (.int 0), .null] ∧ Z.Warmed39 U.vm ∧ U.heap = h0 ∧ CHv Z consts_1 U.vm h0 ∧ ∀ x ∈ ([] : List Addr), Safe Z consts_1 U.vm h0 x) (fun _ _ _ _ _ => True) (fun _ U o U' => ∃ v L, o = .returned v ∧ Q_rmE4 Z x1 b1 h0 n0 v U'.heap L ∧ CHr Z consts_1 U.vm U.heap U'.vm U'.heap ∧ ReturnedEndW U o U' L ({ frames := 1, cells := 4, slots := 8, locals := 12 } : Room).cells ({ frames := 1, cells := 4, slots := 8, locals := 12 } : Room).slots) := by
 refine bodyOfW pn_0 (fun m => ef_rmE4 m x1 b1) ?_
 intro p e s m below meth c T0 X0 hx hby hml hown hnm hret hk hZ e0 hS C0 hsf
 have hkS := Nat.le_refl h0.size
 have N0 := Fr.nil n0
 have K0 : Keep h0 h0 [x1] := Keep.refl _ _
 have O0 := hp4
 have sf1 : Safe Z consts_1 _ h0 x1 := safeBlank hZ.alike hp0 hp1
 refine go (S' := T0.setTop (mkF m 1 #[sr x1, sr b1, si 0, si 0, .val .null, .unset] [(.ref x1)])) (fun t k => XS.aloadN X0.here hx rfl (hb hby d5_0) rfl rfl k) ?_
 obtain ⟨T2, X2, e2, st2⟩ := initO X0 hx hZ hown (ww hw 27 rfl) (ww hw 28 rfl) (ww hw 29 rfl) e0 (g := (mkF m 1 #[sr x1, sr b1, si 0, si 0, .val .null, .unset] [(.ref x1)])) rfl (by rw [hml]; rfl) rfl (hb hby d5_1) (by decide) (W := 0) (mr0 rfl) (by decide)
 refine go (S' := T2.setTop (mkF m 5 #[sr x1, sr b1, si 0, si 0, .val .null, .unset] [(.int 0)])) (fun t k => st2 _ (XS.iloadN X2.here hx rfl (hb hby d5_4) rfl k)) ?_
 have hc3 : (0 : Int32) = (0 : Int32) := by decide
 refine go (S' := T2.setTop (mkF m 9 #[sr x1, sr b1, si 0, si 0, .val .null, .unset] [(.ref x1)])) (fun t k => XS.ifNo X2.here hx rfl (hb hby d5_5) rfl ((if0 _ _).trans (teq hc3).2) (XS.aloadN X2.here hx rfl (hb hby d5_8) rfl rfl k)) ?_
 obtain ⟨la4, T4, h4, k4, lb4, lk4, X4, e4, E4, hS, hkS, hZ, hown, lE4, lC4, lV4, lA4, la4_lt, lb4_lt, Cq4, lit4, lne4, st4⟩ := ldcCH X2 hx hZ hown (ww hw 30 rfl) (own_sub own_strAtoms hw) e2 hS hkS (own_EW hw) (by decide) C0.1 (vs := []) (z := (0 : Int32)) ⟨by decide, by decide⟩ (by decide) (by decide) (g := (mkF m 9 #[sr x1, sr b1, si 0, si 0, .val .null, .unset] [(.ref x1)])) rfl (hb hby d5_9) (n := 0) (by decide) (by decide) (by decide) (by decide)
 have K5 : Keep h0 h4 [x1] := K0.ext E4
 have C6 := C0.trans Cq4
 have sf7 := CHr.safe Cq4 hp0.lt sf1
 have ne_x1_la4 := (lne4 x1 sf7).1
 have ne_x1_lb4 := (lne4 x1 sf7).2
 have lstr4 : Str Z h4 la4 lb4 (0 : Int32) ([] : List Int32) := ⟨_, _, _, lE4, lV4, lC4, lA4, own_codOf rfl (by decide), by decide, Nat.le_of_ble_eq_true rfl⟩
 refine go (S' := T4.setTop (mkF m 11 #[sr x1, sr b1, si 0, si 0, .val .null, .unset] [(.ref la4), (.ref x1)])) st4 ?_
 obtain ⟨T8, X8, e8, st8⟩ := getF X4 hx hZ hown (host := "") (Or.inl (ww hw 36 rfl)) Via.refl e4 lstr4.val (g := (mkF m 11 #[sr x1, sr b1, si 0, si 0, .val .null, .unset] [(.ref la4), (.ref x1)])) rfl rfl (hb hby d5_11)
 refine go (S' := T8.setTop (mkF m 14 #[sr x1, sr b1, si 0, si 0, .val .null, .unset] [(.ref lb4), (.ref x1)])) st8 ?_
 have f9 : Fld Z h4 x1 "java/lang/String" "value" "[B" .null := (hp1.ext E4)
 obtain ⟨T10, h10, X10, e10, W10, st10⟩ := putF X8 hx hZ hown (host := "") (Or.inl (ww hw 36 rfl)) Via.refl e8 f9 (hp0.keep K5) (Or.inr ⟨(ww hw 32 rfl), rfl, hnm⟩) (ww hw 17 rfl) (ty := (.array .byte)) (by decide) rfl rfl (g := (mkF m 14 #[sr x1, sr b1, si 0, si 0, .val .null, .unset] [(.ref lb4), (.ref x1)])) rfl rfl (hb hby d5_14)
 have K11 : Keep h0 h10 [x1] := K5.wr W10 (Or.inl (List.mem_of_getElem? (i := 0) rfl))
 have N12 := Fr.snoc X10 N0 hp3
 have hkS := Nat.le_trans hkS (Keep.of_wr W10).1
 have C13 := C6.trans (CHr.wr W10 sf7 C6.1)
 have sf14 := Safe.wr W10 sf7 C6.1 sf7
 have f15 : Fld Z h10 x1 "java/lang/String" "value" "[B" (.ref lb4) := (Fld.same W10 f9)
 refine go (S' := T10.setTop (mkF m 18 #[sr x1, sr b1, si 0, si 0, .val .null, .unset] [(.ref x1)])) (fun t k => st10 _ (XS.aloadN X10.here hx rfl (hb hby d5_17) rfl rfl k)) ?_
 have f17 : Str Z h10 la4 lb4 (0 : Int32) ([] : List Int32) := (lstr4.wr W10 (Ne.symm ne_x1_la4) (Ne.symm ne_x1_lb4))
 obtain ⟨la16, T16, h16, k16, lb16, lk16, X16, e16, E16, hS, hkS, hZ, hown, lE16, lC16, lV16, lA16, la16_lt, lb16_lt, Cq16, lit16, lne16, st16⟩ := ldcCH X10 hx hZ hown (ww hw 30 rfl) (own_sub own_strAtoms hw) e10 hS hkS (own_EW hw) (by decide) C13.1 (vs := []) (z := (0 : Int32)) ⟨by decide, by decide⟩ (by decide) (by decide) (g := (mkF m 18 #[sr x1, sr b1, si 0, si 0, .val .null, .unset] [(.ref x1)])) rfl (hb hby d5_18) (n := 0) (by decide) (by decide) (by decide) (by decide)
 have K18 : Keep h0 h16 [x1] := K11.ext E16
 have C19 := C13.trans Cq16
 have sf20 := CHr.safe Cq16 (hp0.keep K11).lt sf14
 have ne_x1_la16 := (lne16 x1 sf20).1
 have ne_x1_lb16 := (lne16 x1 sf20).2
 have lstr16 : Str Z h16 la16 lb16 (0 : Int32) ([] : List Int32) := ⟨_, _, _, lE16, lV16, lC16, lA16, own_codOf rfl (by decide), by decide, Nat.le_of_ble_eq_true rfl⟩
 refine go (S' := T16.setTop (mkF m 20 #[sr x1, sr b1, si 0, si 0, .val .null, .unset] [(.ref la16), (.ref x1)])) st16 ?_
 obtain ⟨T21, X21, e21, st21⟩ := getF X16 hx hZ hown (host := "") (Or.inl (ww hw 37 rfl)) Via.refl e16 lstr16.cod (g := (mkF m 20 #[sr x1, sr b1, si 0, si 0, .val .null, .unset] [(.ref la16), (.ref x1)])) rfl rfl (hb hby d5_20)
 refine go (S' := T21.setTop (mkF m 23 #[sr x1, sr b1, si 0, si 0, .val .null, .unset] [(.int 0), (.ref x1)])) st21 ?_
 have f22 : Fld Z h16 x1 "java/lang/String" "coder" "B" (.int 0) := ((Fld.other W10 (hp2.ext E4) (Or.inr (slot_ne (Or.inr (ww hw 33 rfl)) (Or.inr (ww hw 32 rfl)) (by decide) (t := .byte) (t' := (.array .byte)) (by decide) (by decide)))).ext E16)
 obtain ⟨T23, h23, X23, e23, W23, st23⟩ := putF X21 hx hZ hown (host := "") (Or.inl (ww hw 37 rfl)) Via.refl e21 f22 (hp0.keep K18) (Or.inr ⟨(ww hw 33 rfl), rfl, hnm⟩) (ww hw 17 rfl) (ty := .byte) (by decide) (by decide) (by decide) (g := (mkF m 23 #[sr x1, sr b1, si 0, si 0, .val .null, .unset] [(.int 0), (.ref x1)])) rfl rfl (hb hby d5_23)
 have K24 : Keep h0 h23 [x1] := K18.wr W23 (Or.inl (List.mem_of_getElem? (i := 0) rfl))
 have N25 := Fr.snoc X23 N12 hp3
 have hkS := Nat.le_trans hkS (Keep.of_wr W23).1
 have C26 := C19.trans (CHr.wr W23 sf20 C19.1)
 have sf27 := Safe.wr W23 sf20 C19.1 sf20
 have f28 : Fld Z h23 x1 "java/lang/String" "coder" "B" (.int 0) := (Fld.same W23 f22)
 refine go (S' := T23.setTop (mkF m 26 #[sr x1, sr b1, si 0, si 0, .val .null, .unset] [])) st23 ?_
 refine finVW X23 hx hk hret hS hkS hZ (own_EW hw) C26 e23 (hb hby d5_26) (by decide) (by decide) ?_
 have f29 : Fld Z h23 x1 "java/lang/String" "value" "[B" (.ref lb4) := (Fld.other W23 (f15.ext E16) (Or.inr (slot_ne (Or.inr (ww hw 32 rfl)) (Or.inr (ww hw 33 rfl)) (by decide) (t := (.array .byte)) (t' := .byte) (by decide) (by decide))))
 have f30 : Str Z h23 la4 lb4 (0 : Int32) ([] : List Int32) := ((f17.ext E16).wr W23 (Ne.symm ne_x1_la4) (Ne.symm ne_x1_lb4))
 obtain ⟨kbz, N2z, vsz, -, -, -, qAz, qcdz, qbdz, qlz⟩ := id f30
 exact ⟨lb4, rfl, N25, K24, ⟨_, _, _, (hp0.keep K24), f29, f28, qAz, qcdz, qbdz, qlz⟩⟩
theorem d4_0 : decode jdk_42_method_3_code 0 = .ok (.aload_n 0, 1) := by decide +kernel
theorem d4_1 : decode jdk_42_method_3_code 1 = .ok (.aload_n 1, 1) := by decide +kernel
theorem d4_2 : decode jdk_42_method_3_code 2 = .ok (.iconst 0, 1) := by decide +kernel
theorem d4_3 : decode jdk_42_method_3_code 3 = .ok (.aload_n 1, 1) := by decide +kernel
theorem d4_4 : decode jdk_42_method_3_code 4 = .ok (.arraylength, 1) := by decide +kernel
theorem d4_5 : decode jdk_42_method_3_code 5 = .ok (.aconst_null, 1) := by decide +kernel
theorem d4_6 : decode jdk_42_method_3_code 6 = .ok (.invokespecial 27, 3) := by decide +kernel
theorem pd_0 : parseMethodDescriptor "([CIILjava/lang/Void;)V" = some ⟨[(.array .char), .int, .int, (.object "java/lang/Void")], none⟩ := by decide +kernel
theorem d4_9 : decode jdk_42_method_3_code 9 = .ok (.return_, 1) := by decide +kernel
abbrev y_1 : MethodName := ⟨"java/lang/String", "<init>", "([C)V"⟩
theorem pn_1 : plainFor y_1 = true := by first | exact plainFor_of_name (by first | (simp [plainName, overriddenIn]; done) | decide +kernel) | decide +kernel
theorem ef_rmE1 (m : MethodId) (x1 : Addr) (b1 : Addr) : entryFrame m #[(.ref x1), (.ref b1)] 2 = mkF m 0 #[sr x1, sr b1] [] := by first | (simp [entryFrame, mkF, argsToLocals, Value.category]; done) | rfl
def Q_rmE1 (Z : State) (x1 : Addr) (b1 : Addr) (kC : ClassId) (vC : List Value) (dC : Value) (h0 : Heap) (n0 : Nat) (v : Option Value) (h : Heap) (L : List Loc) : Prop := ∃ (t : Addr), v = none ∧ Fr n0 L ∧ Keep h0 h [x1] ∧ (Str Z h x1 t (0 : Int32) ([] : List Int32))
set_option maxRecDepth 65536 in
set_option maxHeartbeats 40000000 in
theorem rmE1 (l : Launch) (Z : State) (a0 : Array Value) (hw : ∀ d ∈ tables_1, d.before a0 Z = true) (ws : List Jvm.Cond) (x1 : Addr) (b1 : Addr) (kC : ClassId) (vC : List Value) (dC : Value) (h0 : Heap) (n0 : Nat) (Z0 : n0 ≤ h0.size) (hp0 : Exa Z h0 x1 "java/lang/String") (hp1 : Fld Z h0 x1 "java/lang/String" "value" "[B" .null) (hp2 : Fld Z h0 x1 "java/lang/String" "coder" "B" (.int 0)) (hp3 : n0 ≤ x1) (hp4 : Arv Z h0 b1 kC .char (0 : Int32) vC dC) (hp5 : Old Z n0 h0) :
    MetFree l y_1 (head1 (Jvm.Cond.code y_1 jdk_42_method_3_code 2 none :: ws) ({ frames := 2, cells := 4, slots := 8, locals := 29 } : Room)) (fun a U => a = #[(.ref x1), (.ref b1)] ∧ Z.Warmed39 U.vm ∧ U.heap = h0 ∧ CHv Z consts_1 U.vm h0 ∧ ∀ x ∈ ([] : List Addr), Safe Z consts_1 U.vm h0 x) (fun _ _ _ _ _ => True) (fun _ U o U' => ∃ v L, o = .returned v ∧ Q_rmE1 Z x1 b1 kC vC dC h0 n0 v U'.heap L ∧ CHr Z consts_1 U.vm U.heap U'.vm U'.heap ∧ ReturnedEndW U o U' L ({ frames := 2, cells := 4, slots := 8, locals := 29 } : Room).cells ({ frames := 2, cells := 4, slots := 8, locals := 29 } : Room).slots) := by
 refine bodyOfW pn_1 (fun m => ef_rmE1 m x1 b1) ?_
 intro p e s m below meth c T0 X0 hx hby hml hown hnm hret hk hZ e0 hS C0 hsf
 have hkS := Nat.le_refl h0.size
 have N0 := Fr.nil n0
 have K0 : Keep h0 h0 [x1] := Keep.refl _ _
 have O0 := hp5
 have sf31 : Safe Z consts_1 _ h0 x1 := safeBlank hZ.alike hp0 hp1
 refine go (S' := T0.setTop (mkF m 4 #[sr x1, sr b1] [(.ref b1), (.int 0), (.ref b1), (.ref x1)])) (fun t k => XS.aloadN X0.here hx rfl (hb hby d4_0) rfl rfl (XS.aloadN X0.here hx rfl (hb hby d4_1) rfl rfl (XS.iconst X0.here hx rfl (hb hby d4_2) (XS.aloadN X0.here hx rfl (hb hby d4_3) rfl rfl k)))) ?_
 obtain ⟨cl32, Ar32, -, S32, M32, -, -⟩ := id hp4
 refine go (S' := T0.setTop (mkF m 6 #[sr x1, sr b1] [.null, (.int 0), (.int 0), (.ref b1), (.ref x1)])) (fun t k => X0.arraylength hx (by rw [e0]; exact Ar32.1) (State.isArrayOf_alike hZ.alike Ar32.2.1) (g := (mkF m 4 #[sr x1, sr b1] [(.ref b1), (.int 0), (.ref b1), (.ref x1)])) rfl rfl (hb hby d4_4) _ (by rw [len_of S32 M32]; exact (XS.aconstNull X0.here hx rfl (hb hby d4_5) k))) ?_
 have O33 : Old Z n0 h0 := O0.keep K0 (allS hp3 all0)
 obtain ⟨v34, T34, L34, X34, hQ34, hS, hZ, hown, Cq34, st34⟩ := callSpW X0 hx hZ (y := y_0) rfl hown (ww hw 23 rfl) (ww hw 24 rfl) (ww hw 26 rfl) (by decide) (backW (W := 0) (rmE4 l Z a0 hw [] x1 b1 h0 n0 (Nat.le_trans Z0 K0.1) hp0 hp1 hp2 hp3 O33) hZ (ww hw 26 rfl) (ww hw 18 rfl) (by decide) (by decide) (own_EW hw) C0.1 all0) (g := (mkF m 6 #[sr x1, sr b1] [.null, (.int 0), (.int 0), (.ref b1), (.ref x1)])) rfl (by rw [hml]; rfl) (a := x1) (kc := 4) (ks := 8) (argsL := [(.ref b1), (.int 0), (.int 0), .null]) (rest := []) (lenOf pd_0 rfl) rfl (mr0 rfl) (hb hby d4_6) e0 (by decide) (by decide) hS hkS
 obtain ⟨t_34, rfl, N34q, Kq34, q34_0⟩ := hQ34
 have N34 := Fr.app N0 N34q
 have hkS := Nat.le_refl T34.heap.size
 have C35 := C0.trans Cq34
 have sf36 := CHr.safe Cq34 hp0.lt sf31
 have K37 : Keep h0 T34.heap [x1] := K0.trans Kq34 (allS (P := fun x => x ∈ [x1] ∨ h0.size ≤ x) (Or.inl (List.mem_of_getElem? (i := 0) rfl)) all0)
 refine go (S' := T34.setTop (mkF m 9 #[sr x1, sr b1] [])) st34 ?_
 refine finVW X34 hx hk hret hS hkS hZ (own_EW hw) C35 rfl (hb hby d4_9) (by decide) (by decide) ?_
 exact ⟨t_34, rfl, N34, K37, q34_0⟩
theorem d1_0 : decode method_3_code 0 = .ok (.iload_n 0, 1) := by decide +kernel
theorem d1_1 : decode method_3_code 1 = .ok (.iconst 3, 1) := by decide +kernel
theorem d1_2 : decode method_3_code 2 = .ok (.iand, 1) := by decide +kernel
theorem d1_3 : decode method_3_code 3 = .ok (.iconst 3, 1) := by decide +kernel
theorem d1_4 : decode method_3_code 4 = .ok (.irem, 1) := by decide +kernel
theorem d1_5 : decode method_3_code 5 = .ok (.ireturn, 1) := by decide +kernel
abbrev y_2 : MethodName := ⟨"com/example/sallyport/sallyport/AttributeKeyEqualsPinLaw", "len", "(I)I"⟩
theorem pn_2 : plainFor y_2 = true := by first | exact plainFor_of_name (by first | (simp [plainName, overriddenIn]; done) | decide +kernel) | decide +kernel
theorem ef_rmLn (m : MethodId) (p1 : Int32) : entryFrame m #[(.int p1)] 1 = mkF m 0 #[si p1] [] := by first | (simp [entryFrame, mkF, argsToLocals, Value.category]; done) | rfl
def Q_rmLn (Z : State) (p1 : Int32) (h0 : Heap) (n0 : Nat) (v : Option Value) (h : Heap) (L : List Loc) : Prop := v = some (.int ((p1 &&& (3 : Int32)) % (3 : Int32))) ∧ Fr n0 L ∧ h = h0
set_option maxRecDepth 65536 in
set_option maxHeartbeats 40000000 in
theorem rmLn (l : Launch) (Z : State) (a0 : Array Value) (hw : ∀ d ∈ tables_1, d.before a0 Z = true) (ws : List Jvm.Cond) (p1 : Int32) (h0 : Heap) (n0 : Nat) (Z0 : n0 ≤ h0.size)  :
    MetFree l y_2 (head1 (Jvm.Cond.code y_2 method_3_code 1 (some .int) :: ws) ({ frames := 0, cells := 0, slots := 0, locals := 0 } : Room)) (fun a U => a = #[(.int p1)] ∧ Z.Warmed39 U.vm ∧ U.heap = h0) (fun _ _ _ _ _ => True) (fun _ U o U' => ∃ v L, o = .returned v ∧ Q_rmLn Z p1 h0 n0 v U'.heap L ∧ FrameEnd U o U' L ({ frames := 0, cells := 0, slots := 0, locals := 0 } : Room).cells ({ frames := 0, cells := 0, slots := 0, locals := 0 } : Room).slots) := by
 refine bodyOf pn_2 (fun m => ef_rmLn m p1) ?_
 intro p e s m below meth c T0 X0 hx hby hml hown hnm hret hk hZ e0
 have N0 := Fr.nil n0
 have K0 : Keep h0 h0 [] := Keep.refl _ _
 refine go (S' := T0.setTop (mkF m 5 #[si p1] [(.int ((p1 &&& (3 : Int32)) % (3 : Int32)))])) (fun t k => XS.iloadN X0.here hx rfl (hb hby d1_0) rfl (XS.iconst X0.here hx rfl (hb hby d1_1) (XS.iand X0.here hx rfl (hb hby d1_2) rfl (XS.iconst X0.here hx rfl (hb hby d1_3) (iremM X0 hx rfl (hb hby d1_4) rfl (by decide) k))))) ?_
 refine finI X0 hx hk hret (hb hby d1_5) (by decide) (by decide) ?_
 rw [e0]
 exact ⟨rfl, N0, rfl⟩
theorem d2_0 : decode method_2_code 0 = .ok (.iload_n 0, 1) := by decide +kernel
theorem d2_1 : decode method_2_code 1 = .ok (.iconst 3, 1) := by decide +kernel
theorem d2_2 : decode method_2_code 2 = .ok (.iand, 1) := by decide +kernel
theorem d2_3 : decode method_2_code 3 = .ok (.istore_n 1, 1) := by decide +kernel
theorem d2_4 : decode method_2_code 4 = .ok (.iload_n 1, 1) := by decide +kernel
theorem d2_5 : decode method_2_code 5 = .ok (.ifCond .ne 7, 3) := by decide +kernel
theorem d2_8 : decode method_2_code 8 = .ok (.getstatic 7, 3) := by decide +kernel
theorem d2_11 : decode method_2_code 11 = .ok (.areturn, 1) := by decide +kernel
theorem d2_12 : decode method_2_code 12 = .ok (.iload_n 1, 1) := by decide +kernel
theorem d2_13 : decode method_2_code 13 = .ok (.iconst 1, 1) := by decide +kernel
theorem d2_14 : decode method_2_code 14 = .ok (.if_icmp .ne 7, 3) := by decide +kernel
theorem d2_17 : decode method_2_code 17 = .ok (.getstatic 13, 3) := by decide +kernel
theorem d2_20 : decode method_2_code 20 = .ok (.areturn, 1) := by decide +kernel
theorem d2_21 : decode method_2_code 21 = .ok (.iload_n 1, 1) := by decide +kernel
theorem d2_22 : decode method_2_code 22 = .ok (.iconst 2, 1) := by decide +kernel
theorem d2_23 : decode method_2_code 23 = .ok (.if_icmp .ne 7, 3) := by decide +kernel
theorem d2_26 : decode method_2_code 26 = .ok (.getstatic 16, 3) := by decide +kernel
theorem d2_29 : decode method_2_code 29 = .ok (.areturn, 1) := by decide +kernel
theorem d2_30 : decode method_2_code 30 = .ok (.getstatic 19, 3) := by decide +kernel
theorem d2_33 : decode method_2_code 33 = .ok (.areturn, 1) := by decide +kernel
abbrev y_3 : MethodName := ⟨"com/example/sallyport/sallyport/AttributeKeyEqualsPinLaw", "cat", "(I)Lcom/example/sallyport/sallyport/AttributeCategory;"⟩
theorem pn_3 : plainFor y_3 = true := by first | exact plainFor_of_name (by first | (simp [plainName, overriddenIn]; done) | decide +kernel) | decide +kernel
theorem ef_rmCat (m : MethodId) (p1 : Int32) : entryFrame m #[(.int p1)] 2 = mkF m 0 #[si p1, .unset] [] := by first | (simp [entryFrame, mkF, argsToLocals, Value.category]; done) | rfl
def Q_rmCat (Z : State) (p1 : Int32) (c1 : Addr) (c2 : Addr) (c3 : Addr) (c4 : Addr) (h0 : Heap) (n0 : Nat) (v : Option Value) (h : Heap) (L : List Loc) : Prop := v = some (.ref (own_cat p1 c1 c2 c3 c4)) ∧ Fr n0 L ∧ h = h0
set_option maxRecDepth 65536 in
set_option maxHeartbeats 40000000 in
theorem rmCat (l : Launch) (Z : State) (a0 : Array Value) (hw : ∀ d ∈ tables_1, d.before a0 Z = true) (ws : List Jvm.Cond) (p1 : Int32) (c1 : Addr) (c2 : Addr) (c3 : Addr) (c4 : Addr) (h0 : Heap) (n0 : Nat) (Z0 : n0 ≤ h0.size) (hp0 : Sta Z Z.heap "com/example/sallyport/sallyport/AttributeCategory" "SUBJECT" "Lcom/example/sallyport/sallyport/AttributeCategory;" (.ref c1)) (hp1 : Sta Z Z.heap "com/example/sallyport/sallyport/AttributeCategory" "RESOURCE" "Lcom/example/sallyport/sallyport/AttributeCategory;" (.ref c2)) (hp2 : Sta Z Z.heap "com/example/sallyport/sallyport/AttributeCategory" "ACTION" "Lcom/example/sallyport/sallyport/AttributeCategory;" (.ref c3)) (hp3 : Sta Z Z.heap "com/example/sallyport/sallyport/AttributeCategory" "ENVIRONMENT" "Lcom/example/sallyport/sallyport/AttributeCategory;" (.ref c4)) (hp4 : Old Z n0 h0) :
    MetFree l y_3 (head1 (Jvm.Cond.code y_3 method_2_code 2 (some (.object "com/example/sallyport/sallyport/AttributeCategory")) :: ws) ({ frames := 0, cells := 0, slots := 0, locals := 0 } : Room)) (fun a U => a = #[(.int p1)] ∧ Z.Warmed39 U.vm ∧ U.heap = h0) (fun _ _ _ _ _ => True) (fun _ U o U' => ∃ v L, o = .returned v ∧ Q_rmCat Z p1 c1 c2 c3 c4 h0 n0 v U'.heap L ∧ FrameEnd U o U' L ({ frames := 0, cells := 0, slots := 0, locals := 0 } : Room).cells ({ frames := 0, cells := 0, slots := 0, locals := 0 } : Room).slots) := by
 refine bodyOf pn_3 (fun m => ef_rmCat m p1) ?_
 intro p e s m below meth c T0 X0 hx hby hml hown hnm hret hk hZ e0
 have N0 := Fr.nil n0
 have K0 : Keep h0 h0 [] := Keep.refl _ _
 have O0 := hp4
 refine go (S' := T0.setTop (mkF m 5 #[si p1, si (p1 &&& (3 : Int32))] [(.int (p1 &&& (3 : Int32)))])) (fun t k => XS.iloadN X0.here hx rfl (hb hby d2_0) rfl (XS.iconst X0.here hx rfl (hb hby d2_1) (XS.iand X0.here hx rfl (hb hby d2_2) rfl (XS.istoreN X0.here hx rfl (hb hby d2_3) rfl (l' := #[si p1, si (p1 &&& (3 : Int32))]) rfl (XS.iloadN X0.here hx rfl (hb hby d2_4) rfl k))))) ?_
 by_cases hc38 : (p1 &&& (3 : Int32)) = (0 : Int32)
 ·
  refine go (S' := T0.setTop (mkF m 8 #[si p1, si (p1 &&& (3 : Int32))] [])) (fun t k => XS.ifNo X0.here hx rfl (hb hby d2_5) rfl ((if0 _ _).trans (teq hc38).2) k) ?_
  have O40 : Old Z n0 h0 := O0.keep K0 all0
  obtain ⟨T39, X39, e39, st39⟩ := getS2 X0 hx hZ hown (host := "") (Or.inl (ww hw 10 rfl)) Via.refl e0 (hp0.ext O40.2) (g := (mkF m 8 #[si p1, si (p1 &&& (3 : Int32))] [])) rfl (hb hby d2_8)
  refine go (S' := T39.setTop (mkF m 11 #[si p1, si (p1 &&& (3 : Int32))] [(.ref c1)])) st39 ?_
  refine finR X39 hx hk hret rfl rfl (hb hby d2_11) (by decide) (by decide) ?_
  rw [e39]
  exact ⟨(by rw [own_cat, if_pos hc38]), N0, rfl⟩
 ·
  refine go (S' := T0.setTop (mkF m 14 #[si p1, si (p1 &&& (3 : Int32))] [(.int 1), (.int (p1 &&& (3 : Int32)))])) (fun t k => XS.ifYes X0.here hx rfl (pc0 := 5) (pc' := 12) rfl (hb hby d2_5) rfl ((if0 _ _).trans (feq hc38).2) (by decide) (by decide) (XS.iloadN X0.here hx rfl (hb hby d2_12) rfl (XS.iconst X0.here hx rfl (hb hby d2_13) k))) ?_
  by_cases hc41 : (p1 &&& (3 : Int32)) = (1 : Int32)
  ·
   refine go (S' := T0.setTop (mkF m 17 #[si p1, si (p1 &&& (3 : Int32))] [])) (fun t k => XS.icmpNo X0.here hx rfl (hb hby d2_14) rfl (teq hc41).2 k) ?_
   have O43 : Old Z n0 h0 := O0.keep K0 all0
   obtain ⟨T42, X42, e42, st42⟩ := getS2 X0 hx hZ hown (host := "") (Or.inl (ww hw 62 rfl)) Via.refl e0 (hp1.ext O43.2) (g := (mkF m 17 #[si p1, si (p1 &&& (3 : Int32))] [])) rfl (hb hby d2_17)
   refine go (S' := T42.setTop (mkF m 20 #[si p1, si (p1 &&& (3 : Int32))] [(.ref c2)])) st42 ?_
   refine finR X42 hx hk hret rfl rfl (hb hby d2_20) (by decide) (by decide) ?_
   rw [e42]
   exact ⟨(by rw [own_cat, if_neg hc38, if_pos hc41]), N0, rfl⟩
  ·
   refine go (S' := T0.setTop (mkF m 23 #[si p1, si (p1 &&& (3 : Int32))] [(.int 2), (.int (p1 &&& (3 : Int32)))])) (fun t k => XS.icmpYes X0.here hx rfl (pc0 := 14) (pc' := 21) rfl (hb hby d2_14) rfl (feq hc41).2 (by decide) (by decide) (XS.iloadN X0.here hx rfl (hb hby d2_21) rfl (XS.iconst X0.here hx rfl (hb hby d2_22) k))) ?_
   by_cases hc44 : (p1 &&& (3 : Int32)) = (2 : Int32)
   ·
    refine go (S' := T0.setTop (mkF m 26 #[si p1, si (p1 &&& (3 : Int32))] [])) (fun t k => XS.icmpNo X0.here hx rfl (hb hby d2_23) rfl (teq hc44).2 k) ?_
    have O46 : Old Z n0 h0 := O0.keep K0 all0
    obtain ⟨T45, X45, e45, st45⟩ := getS2 X0 hx hZ hown (host := "") (Or.inl (ww hw 85 rfl)) Via.refl e0 (hp2.ext O46.2) (g := (mkF m 26 #[si p1, si (p1 &&& (3 : Int32))] [])) rfl (hb hby d2_26)
    refine go (S' := T45.setTop (mkF m 29 #[si p1, si (p1 &&& (3 : Int32))] [(.ref c3)])) st45 ?_
    refine finR X45 hx hk hret rfl rfl (hb hby d2_29) (by decide) (by decide) ?_
    rw [e45]
    exact ⟨(by rw [own_cat, if_neg hc38, if_neg hc41, if_pos hc44]), N0, rfl⟩
   ·
    refine go (S' := T0.setTop (mkF m 30 #[si p1, si (p1 &&& (3 : Int32))] [])) (fun t k => XS.icmpYes X0.here hx rfl (pc0 := 23) (pc' := 30) rfl (hb hby d2_23) rfl (feq hc44).2 (by decide) (by decide) k) ?_
    have O48 : Old Z n0 h0 := O0.keep K0 all0
    obtain ⟨T47, X47, e47, st47⟩ := getS2 X0 hx hZ hown (host := "") (Or.inl (ww hw 75 rfl)) Via.refl e0 (hp3.ext O48.2) (g := (mkF m 30 #[si p1, si (p1 &&& (3 : Int32))] [])) rfl (hb hby d2_30)
    refine go (S' := T47.setTop (mkF m 33 #[si p1, si (p1 &&& (3 : Int32))] [(.ref c4)])) st47 ?_
    refine finR X47 hx hk hret rfl rfl (hb hby d2_33) (by decide) (by decide) ?_
    rw [e47]
    exact ⟨(by rw [own_cat, if_neg hc38, if_neg hc41, if_neg hc44]), N0, rfl⟩
theorem d3_0 : decode method_4_code 0 = .ok (.iload_n 1, 1) := by decide +kernel
theorem d3_1 : decode method_4_code 1 = .ok (.sipush 255, 3) := by decide +kernel
theorem d3_4 : decode method_4_code 4 = .ok (.iand, 1) := by decide +kernel
theorem d3_5 : decode method_4_code 5 = .ok (.i2c, 1) := by decide +kernel
theorem d3_6 : decode method_4_code 6 = .ok (.istore_n 2, 1) := by decide +kernel
theorem d3_7 : decode method_4_code 7 = .ok (.iload_n 1, 1) := by decide +kernel
theorem d3_8 : decode method_4_code 8 = .ok (.bipush 8, 2) := by decide +kernel
theorem d3_10 : decode method_4_code 10 = .ok (.iushr, 1) := by decide +kernel
theorem d3_11 : decode method_4_code 11 = .ok (.sipush 255, 3) := by decide +kernel
theorem d3_14 : decode method_4_code 14 = .ok (.iand, 1) := by decide +kernel
theorem d3_15 : decode method_4_code 15 = .ok (.i2c, 1) := by decide +kernel
theorem d3_16 : decode method_4_code 16 = .ok (.istore_n 3, 1) := by decide +kernel
theorem d3_17 : decode method_4_code 17 = .ok (.iload_n 0, 1) := by decide +kernel
theorem d3_18 : decode method_4_code 18 = .ok (.ifCond .ne 14, 3) := by decide +kernel
theorem d3_21 : decode method_4_code 21 = .ok (.new 22, 3) := by decide +kernel
theorem d3_24 : decode method_4_code 24 = .ok (.dup, 1) := by decide +kernel
theorem d3_25 : decode method_4_code 25 = .ok (.iconst 0, 1) := by decide +kernel
theorem d3_26 : decode method_4_code 26 = .ok (.newarray .char, 2) := by decide +kernel
theorem d3_28 : decode method_4_code 28 = .ok (.invokespecial 24, 3) := by decide +kernel
theorem pd_1 : parseMethodDescriptor "([C)V" = some ⟨[(.array .char)], none⟩ := by decide +kernel
theorem d3_31 : decode method_4_code 31 = .ok (.areturn, 1) := by decide +kernel
theorem d3_32 : decode method_4_code 32 = .ok (.iload_n 0, 1) := by decide +kernel
theorem d3_33 : decode method_4_code 33 = .ok (.iconst 1, 1) := by decide +kernel
theorem d3_34 : decode method_4_code 34 = .ok (.if_icmp .ne 18, 3) := by decide +kernel
theorem d3_37 : decode method_4_code 37 = .ok (.new 22, 3) := by decide +kernel
theorem d3_40 : decode method_4_code 40 = .ok (.dup, 1) := by decide +kernel
theorem d3_41 : decode method_4_code 41 = .ok (.iconst 1, 1) := by decide +kernel
theorem d3_42 : decode method_4_code 42 = .ok (.newarray .char, 2) := by decide +kernel
theorem d3_44 : decode method_4_code 44 = .ok (.dup, 1) := by decide +kernel
theorem d3_45 : decode method_4_code 45 = .ok (.iconst 0, 1) := by decide +kernel
theorem d3_46 : decode method_4_code 46 = .ok (.iload_n 2, 1) := by decide +kernel
theorem d3_47 : decode method_4_code 47 = .ok (.castore, 1) := by decide +kernel
theorem d3_48 : decode method_4_code 48 = .ok (.invokespecial 24, 3) := by decide +kernel
theorem d3_51 : decode method_4_code 51 = .ok (.areturn, 1) := by decide +kernel
theorem d3_52 : decode method_4_code 52 = .ok (.new 22, 3) := by decide +kernel
theorem d3_55 : decode method_4_code 55 = .ok (.dup, 1) := by decide +kernel
theorem d3_56 : decode method_4_code 56 = .ok (.iconst 2, 1) := by decide +kernel
theorem d3_57 : decode method_4_code 57 = .ok (.newarray .char, 2) := by decide +kernel
theorem d3_59 : decode method_4_code 59 = .ok (.dup, 1) := by decide +kernel
theorem d3_60 : decode method_4_code 60 = .ok (.iconst 0, 1) := by decide +kernel
theorem d3_61 : decode method_4_code 61 = .ok (.iload_n 2, 1) := by decide +kernel
theorem d3_62 : decode method_4_code 62 = .ok (.castore, 1) := by decide +kernel
theorem d3_63 : decode method_4_code 63 = .ok (.dup, 1) := by decide +kernel
theorem d3_64 : decode method_4_code 64 = .ok (.iconst 1, 1) := by decide +kernel
theorem d3_65 : decode method_4_code 65 = .ok (.iload_n 3, 1) := by decide +kernel
theorem d3_66 : decode method_4_code 66 = .ok (.castore, 1) := by decide +kernel
theorem d3_67 : decode method_4_code 67 = .ok (.invokespecial 24, 3) := by decide +kernel
theorem d3_70 : decode method_4_code 70 = .ok (.areturn, 1) := by decide +kernel
abbrev y_4 : MethodName := ⟨"com/example/sallyport/sallyport/AttributeKeyEqualsPinLaw", "str", "(II)Ljava/lang/String;"⟩
theorem pn_4 : plainFor y_4 = true := by first | exact plainFor_of_name (by first | (simp [plainName, overriddenIn]; done) | decide +kernel) | decide +kernel
theorem ef_rmMk (m : MethodId) (p1 : Int32) (p2 : Int32) : entryFrame m #[(.int p1), (.int p2)] 4 = mkF m 0 #[si p1, si p2, .unset, .unset] [] := by first | (simp [entryFrame, mkF, argsToLocals, Value.category]; done) | rfl
def Q_rmMk (Z : State) (p1 : Int32) (p2 : Int32) (G1 : Int32) (h0 : Heap) (n0 : Nat) (v : Option Value) (h : Heap) (L : List Loc) : Prop := ∃ (x : Addr), ∃ (t : Addr), v = some (.ref x) ∧ Fr n0 L ∧ Keep h0 h [] ∧ (h0.size ≤ x) ∧ (Str Z h x t (0 : Int32) (own_mk p1 p2))
set_option maxRecDepth 65536 in
set_option maxHeartbeats 40000000 in
theorem rmMk (l : Launch) (Z : State) (a0 : Array Value) (hw : ∀ d ∈ tables_1, d.before a0 Z = true) (ws : List Jvm.Cond) (p1 : Int32) (p2 : Int32) (G1 : Int32) (h0 : Heap) (n0 : Nat) (Z0 : n0 ≤ h0.size) (hp0 : Sta Z Z.heap "java/lang/String" "COMPACT_STRINGS" "Z" (.int G1)) (hG1 : ¬ (G1 = (0 : Int32))) (hp2 : Old Z n0 h0) :
    MetFree l y_4 (head1 (Jvm.Cond.code y_4 method_4_code 4 (some (.object "java/lang/String")) :: ws) ({ frames := 4, cells := 6, slots := 12, locals := 66 } : Room)) (fun a U => a = #[(.int p1), (.int p2)] ∧ Z.Warmed39 U.vm ∧ U.heap = h0 ∧ CHv Z consts_1 U.vm h0 ∧ ∀ x ∈ ([] : List Addr), Safe Z consts_1 U.vm h0 x) (fun _ _ _ _ _ => True) (fun _ U o U' => ∃ v L, o = .returned v ∧ Q_rmMk Z p1 p2 G1 h0 n0 v U'.heap L ∧ CHr Z consts_1 U.vm U.heap U'.vm U'.heap ∧ ReturnedEndW U o U' L ({ frames := 4, cells := 6, slots := 12, locals := 66 } : Room).cells ({ frames := 4, cells := 6, slots := 12, locals := 66 } : Room).slots) := by
 refine bodyOfW pn_4 (fun m => ef_rmMk m p1 p2) ?_
 intro p e s m below meth c T0 X0 hx hby hml hown hnm hret hk hZ e0 hS C0 hsf
 have hkS := Nat.le_refl h0.size
 have N0 := Fr.nil n0
 have K0 : Keep h0 h0 [] := Keep.refl _ _
 have O0 := hp2
 refine go (S' := T0.setTop (mkF m 11 #[si p1, si p2, si ((p2 &&& (255 : Int32)).toUInt32.toUInt16.toUInt32.toInt32), .unset] [(.int ((p2.toUInt32 >>> ((8 : Int32) &&& 31).toUInt32).toInt32))])) (fun t k => XS.iloadN X0.here hx rfl (hb hby d3_0) rfl (XS.sipush X0.here hx rfl (hb hby d3_1) (XS.iand X0.here hx rfl (hb hby d3_4) rfl (XS.i2c X0.here hx rfl (hb hby d3_5) rfl (XS.istoreN X0.here hx rfl (hb hby d3_6) rfl (l' := #[si p1, si p2, si ((p2 &&& (255 : Int32)).toUInt32.toUInt16.toUInt32.toInt32), .unset]) rfl (XS.iloadN X0.here hx rfl (hb hby d3_7) rfl (XS.bipush X0.here hx rfl (hb hby d3_8) (XS.iushr X0.here hx rfl (hb hby d3_10) rfl k)))))))) ?_
 refine go (S' := T0.setTop (mkF m 18 #[si p1, si p2, si ((p2 &&& (255 : Int32)).toUInt32.toUInt16.toUInt32.toInt32), si ((((p2.toUInt32 >>> ((8 : Int32) &&& 31).toUInt32).toInt32) &&& (255 : Int32)).toUInt32.toUInt16.toUInt32.toInt32)] [(.int p1)])) (fun t k => XS.sipush X0.here hx rfl (hb hby d3_11) (XS.iand X0.here hx rfl (hb hby d3_14) rfl (XS.i2c X0.here hx rfl (hb hby d3_15) rfl (XS.istoreN X0.here hx rfl (hb hby d3_16) rfl (l' := #[si p1, si p2, si ((p2 &&& (255 : Int32)).toUInt32.toUInt16.toUInt32.toInt32), si ((((p2.toUInt32 >>> ((8 : Int32) &&& 31).toUInt32).toInt32) &&& (255 : Int32)).toUInt32.toUInt16.toUInt32.toInt32)]) rfl (XS.iloadN X0.here hx rfl (hb hby d3_17) rfl k))))) ?_
 by_cases hc49 : p1 = (0 : Int32)
 ·
  refine go (S' := T0.setTop (mkF m 21 #[si p1, si p2, si ((p2 &&& (255 : Int32)).toUInt32.toUInt16.toUInt32.toInt32), si ((((p2.toUInt32 >>> ((8 : Int32) &&& 31).toUInt32).toInt32) &&& (255 : Int32)).toUInt32.toUInt16.toUInt32.toInt32)] [])) (fun t k => XS.ifNo X0.here hx rfl (hb hby d3_18) rfl ((if0 _ _).trans (teq hc49).2) k) ?_
  obtain ⟨T50, h50, X50, e50, E50, A50, D50, -, st50⟩ := newO X0 hx hZ hown (ww hw 16 rfl) (ww hw 17 rfl) (ww hw 18 rfl) e0 (g := (mkF m 21 #[si p1, si p2, si ((p2 &&& (255 : Int32)).toUInt32.toUInt16.toUInt32.toInt32), si ((((p2.toUInt32 >>> ((8 : Int32) &&& 31).toUInt32).toInt32) &&& (255 : Int32)).toUInt32.toUInt16.toUInt32.toInt32)] [])) rfl (hb hby d3_21) (by decide) (by decide)
  obtain ⟨b50, g50⟩ : ∃ z, z = h0.size := ⟨_, rfl⟩
  rw [← g50] at A50 D50 st50
  have ge_b50 : n0 ≤ b50 := by rw [g50]; exact (Nat.le_trans Z0 K0.1)
  have sz_b50 : h0.size ≤ b50 := by rw [g50]; exact K0.1
  have K51 : Keep h0 h50 [] := K0.ext E50
  have hkS := Nat.le_trans hkS E50.1
  have C52 := C0.trans (CHr.ext E50 C0.1)
  have sf53 := Safe.ext E50 C0.1 (Safe.new (Nat.le_of_eq g50.symm))
  refine go (S' := T50.setTop (mkF m 26 #[si p1, si p2, si ((p2 &&& (255 : Int32)).toUInt32.toUInt16.toUInt32.toInt32), si ((((p2.toUInt32 >>> ((8 : Int32) &&& 31).toUInt32).toInt32) &&& (255 : Int32)).toUInt32.toUInt16.toUInt32.toInt32)] [(.int 0), (.ref b50), (.ref b50)])) (fun t k => st50 _ (XS.dup X50.here hx rfl (hb hby d3_24) rfl rfl (XS.iconst X50.here hx rfl (hb hby d3_25) k))) ?_
  obtain ⟨T54, h54, k54, X54, e54, E54, A54, st54⟩ := newP X50 hx hZ (ww hw 19 rfl) e50 (g := (mkF m 26 #[si p1, si p2, si ((p2 &&& (255 : Int32)).toUInt32.toUInt16.toUInt32.toInt32), si ((((p2.toUInt32 >>> ((8 : Int32) &&& 31).toUInt32).toInt32) &&& (255 : Int32)).toUInt32.toUInt16.toUInt32.toInt32)] [(.int 0), (.ref b50), (.ref b50)])) rfl (hb hby d3_26) rfl (by decide) (cap := 0) (by decide) (by decide) (by decide) (by decide)
  obtain ⟨b54, g54⟩ : ∃ z, z = h50.size := ⟨_, rfl⟩
  rw [← g54] at A54 st54
  have lt_b50_b54 : b50 < b54 := by rw [g54]; exact A50.lt
  have ge_b54 : n0 ≤ b54 := by rw [g54]; exact (Nat.le_trans Z0 K51.1)
  have sz_b54 : h0.size ≤ b54 := by rw [g54]; exact K51.1
  have K55 : Keep h0 h54 [] := K51.ext E54
  have hkS := Nat.le_trans hkS E54.1
  have C56 := C52.trans (CHr.ext E54 C52.1)
  have sf57 := Safe.ext E54 C52.1 sf53
  have V54 : Arv Z h54 b54 k54 .char (0 : Int32) [] (.int 0) := (Arv.new A54 (by decide)).pad (pad_rep [] (.int 0) 0)
  refine go (S' := T54.setTop (mkF m 28 #[si p1, si p2, si ((p2 &&& (255 : Int32)).toUInt32.toUInt16.toUInt32.toInt32), si ((((p2.toUInt32 >>> ((8 : Int32) &&& 31).toUInt32).toInt32) &&& (255 : Int32)).toUInt32.toUInt16.toUInt32.toInt32)] [(.ref b54), (.ref b50), (.ref b50)])) st54 ?_
  have f58 : Exa Z h54 b50 "java/lang/String" := (A50.ext E54)
  have f59 : Fld Z h54 b50 "java/lang/String" "value" "[B" .null := ((D50 (Or.inr (ww hw 32 rfl)) (ty := (.array .byte)) (by decide)).ext E54)
  have f60 : Fld Z h54 b50 "java/lang/String" "coder" "B" (.int 0) := ((D50 (Or.inr (ww hw 33 rfl)) (ty := .byte) (by decide)).ext E54)
  have O61 : Old Z n0 h54 := O0.keep K55 all0
  obtain ⟨v62, T62, L62, X62, hQ62, hS, hZ, hown, Cq62, st62⟩ := callSpW X54 hx hZ (y := y_1) rfl hown (ww hw 20 rfl) (ww hw 21 rfl) (ww hw 22 rfl) (by decide) (backW (W := 1) (rmE1 l Z a0 hw [] b50 b54 k54 [] (.int 0) h54 n0 (Nat.le_trans Z0 K55.1) f58 f59 f60 ge_b50 V54 O61) hZ (ww hw 22 rfl) (ww hw 18 rfl) (by decide) (by decide) (own_EW hw) C56.1 all0) (g := (mkF m 28 #[si p1, si p2, si ((p2 &&& (255 : Int32)).toUInt32.toUInt16.toUInt32.toInt32), si ((((p2.toUInt32 >>> ((8 : Int32) &&& 31).toUInt32).toInt32) &&& (255 : Int32)).toUInt32.toUInt16.toUInt32.toInt32)] [(.ref b54), (.ref b50), (.ref b50)])) rfl (by rw [hml]; rfl) (a := b50) (kc := 4) (ks := 8) (argsL := [(.ref b54)]) (rest := [(.ref b50)]) (lenOf pd_1 rfl) rfl (mr0 rfl) (hb hby d3_28) e54 (by decide) (by decide) hS hkS
  obtain ⟨t_62, rfl, N62q, Kq62, q62_0⟩ := hQ62
  have N62 := Fr.app N0 N62q
  have hkS := Nat.le_refl T62.heap.size
  have C63 := C56.trans Cq62
  have sf64 := CHr.safe Cq62 f58.lt sf57
  have K65 : Keep h0 T62.heap [] := K55.trans Kq62 (allS (P := fun x => x ∈ [] ∨ h0.size ≤ x) (Or.inr sz_b50) all0)
  refine go (S' := T62.setTop (mkF m 31 #[si p1, si p2, si ((p2 &&& (255 : Int32)).toUInt32.toUInt16.toUInt32.toInt32), si ((((p2.toUInt32 >>> ((8 : Int32) &&& 31).toUInt32).toInt32) &&& (255 : Int32)).toUInt32.toUInt16.toUInt32.toInt32)] [(.ref b50)])) st62 ?_
  refine finRW X62 hx hk hret rfl rfl hS hkS hZ (own_EW hw) C63 rfl (hb hby d3_31) (by decide) (by decide) ?_
  have hm : own_mk p1 p2 = ([] : List Int32) := by rw [own_mk, if_pos hc49]
  exact ⟨b50, t_62, rfl, N62, K65, sz_b50, by rw [hm]; exact q62_0⟩
 ·
  refine go (S' := T0.setTop (mkF m 34 #[si p1, si p2, si ((p2 &&& (255 : Int32)).toUInt32.toUInt16.toUInt32.toInt32), si ((((p2.toUInt32 >>> ((8 : Int32) &&& 31).toUInt32).toInt32) &&& (255 : Int32)).toUInt32.toUInt16.toUInt32.toInt32)] [(.int 1), (.int p1)])) (fun t k => XS.ifYes X0.here hx rfl (pc0 := 18) (pc' := 32) rfl (hb hby d3_18) rfl ((if0 _ _).trans (feq hc49).2) (by decide) (by decide) (XS.iloadN X0.here hx rfl (hb hby d3_32) rfl (XS.iconst X0.here hx rfl (hb hby d3_33) k))) ?_
  by_cases hc66 : p1 = (1 : Int32)
  ·
   refine go (S' := T0.setTop (mkF m 37 #[si p1, si p2, si ((p2 &&& (255 : Int32)).toUInt32.toUInt16.toUInt32.toInt32), si ((((p2.toUInt32 >>> ((8 : Int32) &&& 31).toUInt32).toInt32) &&& (255 : Int32)).toUInt32.toUInt16.toUInt32.toInt32)] [])) (fun t k => XS.icmpNo X0.here hx rfl (hb hby d3_34) rfl (teq hc66).2 k) ?_
   obtain ⟨T67, h67, X67, e67, E67, A67, D67, -, st67⟩ := newO X0 hx hZ hown (ww hw 16 rfl) (ww hw 17 rfl) (ww hw 18 rfl) e0 (g := (mkF m 37 #[si p1, si p2, si ((p2 &&& (255 : Int32)).toUInt32.toUInt16.toUInt32.toInt32), si ((((p2.toUInt32 >>> ((8 : Int32) &&& 31).toUInt32).toInt32) &&& (255 : Int32)).toUInt32.toUInt16.toUInt32.toInt32)] [])) rfl (hb hby d3_37) (by decide) (by decide)
   obtain ⟨b67, g67⟩ : ∃ z, z = h0.size := ⟨_, rfl⟩
   rw [← g67] at A67 D67 st67
   have ge_b67 : n0 ≤ b67 := by rw [g67]; exact (Nat.le_trans Z0 K0.1)
   have sz_b67 : h0.size ≤ b67 := by rw [g67]; exact K0.1
   have K68 : Keep h0 h67 [] := K0.ext E67
   have hkS := Nat.le_trans hkS E67.1
   have C69 := C0.trans (CHr.ext E67 C0.1)
   have sf70 := Safe.ext E67 C0.1 (Safe.new (Nat.le_of_eq g67.symm))
   refine go (S' := T67.setTop (mkF m 42 #[si p1, si p2, si ((p2 &&& (255 : Int32)).toUInt32.toUInt16.toUInt32.toInt32), si ((((p2.toUInt32 >>> ((8 : Int32) &&& 31).toUInt32).toInt32) &&& (255 : Int32)).toUInt32.toUInt16.toUInt32.toInt32)] [(.int 1), (.ref b67), (.ref b67)])) (fun t k => st67 _ (XS.dup X67.here hx rfl (hb hby d3_40) rfl rfl (XS.iconst X67.here hx rfl (hb hby d3_41) k))) ?_
   obtain ⟨T71, h71, k71, X71, e71, E71, A71, st71⟩ := newP X67 hx hZ (ww hw 19 rfl) e67 (g := (mkF m 42 #[si p1, si p2, si ((p2 &&& (255 : Int32)).toUInt32.toUInt16.toUInt32.toInt32), si ((((p2.toUInt32 >>> ((8 : Int32) &&& 31).toUInt32).toInt32) &&& (255 : Int32)).toUInt32.toUInt16.toUInt32.toInt32)] [(.int 1), (.ref b67), (.ref b67)])) rfl (hb hby d3_42) rfl (by decide) (cap := 1) (by decide) (by decide) (by decide) (by decide)
   obtain ⟨b71, g71⟩ : ∃ z, z = h67.size := ⟨_, rfl⟩
   rw [← g71] at A71 st71
   have lt_b67_b71 : b67 < b71 := by rw [g71]; exact A67.lt
   have ge_b71 : n0 ≤ b71 := by rw [g71]; exact (Nat.le_trans Z0 K68.1)
   have sz_b71 : h0.size ≤ b71 := by rw [g71]; exact K68.1
   have K72 : Keep h0 h71 [] := K68.ext E71
   have hkS := Nat.le_trans hkS E71.1
   have C73 := C69.trans (CHr.ext E71 C69.1)
   have sf74 := Safe.ext E71 C69.1 sf70
   have V71 : Arv Z h71 b71 k71 .char (1 : Int32) [(.int 0)] (.int 0) := (Arv.new A71 (by decide)).pad (pad_rep [] (.int 0) 1)
   refine go (S' := T71.setTop (mkF m 47 #[si p1, si p2, si ((p2 &&& (255 : Int32)).toUInt32.toUInt16.toUInt32.toInt32), si ((((p2.toUInt32 >>> ((8 : Int32) &&& 31).toUInt32).toInt32) &&& (255 : Int32)).toUInt32.toUInt16.toUInt32.toInt32)] [(.int ((p2 &&& (255 : Int32)).toUInt32.toUInt16.toUInt32.toInt32)), (.int 0), (.ref b71), (.ref b71), (.ref b67), (.ref b67)])) (fun t k => st71 _ (XS.dup X71.here hx rfl (hb hby d3_44) rfl rfl (XS.iconst X71.here hx rfl (hb hby d3_45) (XS.iloadN X71.here hx rfl (hb hby d3_46) rfl k)))) ?_
   obtain ⟨T75, h75, X75, e75, W75, V75, st75⟩ := putC X71 hx hZ e71 V71 (j := (0 : Int32)) (x := ((p2 &&& (255 : Int32)).toUInt32.toUInt16.toUInt32.toInt32)) (narc _) ⟨by decide, by decide⟩ (i := 0) rfl (Nat.le_of_ble_eq_true rfl) (g := (mkF m 47 #[si p1, si p2, si ((p2 &&& (255 : Int32)).toUInt32.toUInt16.toUInt32.toInt32), si ((((p2.toUInt32 >>> ((8 : Int32) &&& 31).toUInt32).toInt32) &&& (255 : Int32)).toUInt32.toUInt16.toUInt32.toInt32)] [(.int ((p2 &&& (255 : Int32)).toUInt32.toUInt16.toUInt32.toInt32)), (.int 0), (.ref b71), (.ref b71), (.ref b67), (.ref b67)])) rfl rfl (hb hby d3_47)
   have K76 : Keep h0 h75 [] := K72.wr W75 (Or.inr sz_b71)
   have N77 := Fr.snoc X75 N0 ge_b71
   have hkS := Nat.le_trans hkS (Keep.of_wr W75).1
   have C78 := C73.trans (CHr.wr W75 (safeArv hZ.alike V71 (by decide)) C73.1)
   have sf79 := Safe.wr W75 (safeArv hZ.alike V71 (by decide)) C73.1 sf74
   refine go (S' := T75.setTop (mkF m 48 #[si p1, si p2, si ((p2 &&& (255 : Int32)).toUInt32.toUInt16.toUInt32.toInt32), si ((((p2.toUInt32 >>> ((8 : Int32) &&& 31).toUInt32).toInt32) &&& (255 : Int32)).toUInt32.toUInt16.toUInt32.toInt32)] [(.ref b71), (.ref b67), (.ref b67)])) st75 ?_
   have f80 : Exa Z h75 b67 "java/lang/String" := ((A67.ext E71).wr W75)
   have f81 : Fld Z h75 b67 "java/lang/String" "value" "[B" .null := (Fld.other W75 ((D67 (Or.inr (ww hw 32 rfl)) (ty := (.array .byte)) (by decide)).ext E71) (Or.inl (Nat.ne_of_lt lt_b67_b71)))
   have f82 : Fld Z h75 b67 "java/lang/String" "coder" "B" (.int 0) := (Fld.other W75 ((D67 (Or.inr (ww hw 33 rfl)) (ty := .byte) (by decide)).ext E71) (Or.inl (Nat.ne_of_lt lt_b67_b71)))
   have hp83 : ∀ c ∈ ([((p2 &&& (255 : Int32)).toUInt32.toUInt16.toUInt32.toInt32)] : List Int32), ¬ c < 0 ∧ ¬ (255 : Int32) < c := (allI (own_c255 _) (fun _ q => nomatch q))
   have O84 : Old Z n0 h75 := O0.keep K76 all0
   obtain ⟨v85, T85, L85, X85, hQ85, st85⟩ := callSp X75 hx hZ (y := y_1) rfl hown (ww hw 20 rfl) (ww hw 21 rfl) (ww hw 22 rfl) (by decide) (StrChars.Road.backV (W := 1) hZ (own_sub StrChars_words hw) (kI := 4) (ww hw 17 rfl) (cs := ([((p2 &&& (255 : Int32)).toUInt32.toUInt16.toUInt32.toInt32)] : List Int32)) (bs := ([((p2 &&& (255 : Int32)).toUInt32.toUInt16.toUInt32.toInt32)] : List Int32).map (fun c => c.toInt8.toInt32)) (n := 1) ge_b67 (Nat.le_trans Z0 K76.1) f80 f81 f82 V75 (hp0.ext O84.2) hG1 rfl rfl (by decide) (by decide) hp83 rfl (by decide) (by decide)) (g := (mkF m 48 #[si p1, si p2, si ((p2 &&& (255 : Int32)).toUInt32.toUInt16.toUInt32.toInt32), si ((((p2.toUInt32 >>> ((8 : Int32) &&& 31).toUInt32).toInt32) &&& (255 : Int32)).toUInt32.toUInt16.toUInt32.toInt32)] [(.ref b71), (.ref b67), (.ref b67)])) rfl (by rw [hml]; rfl) (a := b67) (kc := 1) (ks := 1) (argsL := [(.ref b71)]) (rest := [(.ref b67)]) (lenOf pd_1 rfl) rfl (mr0 rfl) (hb hby d3_48) e75 (by decide) (by decide)
   obtain ⟨rfl, N85q, Kq85, q85_e, q85_c, t85, kb85, ge_t85, new_t85, ne_t85_b67, q85_v, q85_a⟩ := hQ85
   have N85 := Fr.app N77 N85q
   have K86 : Keep h0 T85.heap [] := K76.trans Kq85 (allS (P := fun x => x ∈ [] ∨ h0.size ≤ x) (Or.inr sz_b67) all0)
   have hkS := Nat.le_trans hkS Kq85.1
   have C87 := C78.trans (CHr.keep Kq85 (allS sf79 all0) C78.1)
   have sf88 := Safe.keep Kq85 (allS sf79 all0) C78.1 sf79
   have lt_b67_t85 : b67 < t85 := Nat.lt_of_lt_of_le f80.lt new_t85
   have lt_b71_t85 : b71 < t85 := Nat.lt_of_lt_of_le V75.lt new_t85
   have sz_t85 : h0.size ≤ t85 := Nat.le_trans K76.1 new_t85
   refine go (S' := T85.setTop (mkF m 51 #[si p1, si p2, si ((p2 &&& (255 : Int32)).toUInt32.toUInt16.toUInt32.toInt32), si ((((p2.toUInt32 >>> ((8 : Int32) &&& 31).toUInt32).toInt32) &&& (255 : Int32)).toUInt32.toUInt16.toUInt32.toInt32)] [(.ref b67)])) st85 ?_
   have f90 : Exa Z T85.heap b67 "java/lang/String" := (f80.keep Kq85)
   have str89 : Str Z T85.heap b67 t85 (0 : Int32) ([((p2 &&& (255 : Int32)).toUInt32.toUInt16.toUInt32.toInt32)] : List Int32) := ⟨_, _, _, f90, q85_v, q85_c, q85_a, own_codOf rfl (fun c hc => (hp83 c hc).2), up16 _ hp83, Nat.le_of_ble_eq_true rfl⟩
   refine finRW X85 hx hk hret rfl rfl hS hkS hZ (own_EW hw) C87 rfl (hb hby d3_51) (by decide) (by decide) ?_
   have hm : own_mk p1 p2 = ([((p2 &&& (255 : Int32)).toUInt32.toUInt16.toUInt32.toInt32)] : List Int32) := by rw [own_mk, if_neg hc49, if_pos hc66]
   exact ⟨b67, t85, rfl, N85, K86, sz_b67, by rw [hm]; exact str89⟩
  ·
   refine go (S' := T0.setTop (mkF m 52 #[si p1, si p2, si ((p2 &&& (255 : Int32)).toUInt32.toUInt16.toUInt32.toInt32), si ((((p2.toUInt32 >>> ((8 : Int32) &&& 31).toUInt32).toInt32) &&& (255 : Int32)).toUInt32.toUInt16.toUInt32.toInt32)] [])) (fun t k => XS.icmpYes X0.here hx rfl (pc0 := 34) (pc' := 52) rfl (hb hby d3_34) rfl (feq hc66).2 (by decide) (by decide) k) ?_
   obtain ⟨T91, h91, X91, e91, E91, A91, D91, -, st91⟩ := newO X0 hx hZ hown (ww hw 16 rfl) (ww hw 17 rfl) (ww hw 18 rfl) e0 (g := (mkF m 52 #[si p1, si p2, si ((p2 &&& (255 : Int32)).toUInt32.toUInt16.toUInt32.toInt32), si ((((p2.toUInt32 >>> ((8 : Int32) &&& 31).toUInt32).toInt32) &&& (255 : Int32)).toUInt32.toUInt16.toUInt32.toInt32)] [])) rfl (hb hby d3_52) (by decide) (by decide)
   obtain ⟨b91, g91⟩ : ∃ z, z = h0.size := ⟨_, rfl⟩
   rw [← g91] at A91 D91 st91
   have ge_b91 : n0 ≤ b91 := by rw [g91]; exact (Nat.le_trans Z0 K0.1)
   have sz_b91 : h0.size ≤ b91 := by rw [g91]; exact K0.1
   have K92 : Keep h0 h91 [] := K0.ext E91
   have hkS := Nat.le_trans hkS E91.1
   have C93 := C0.trans (CHr.ext E91 C0.1)
   have sf94 := Safe.ext E91 C0.1 (Safe.new (Nat.le_of_eq g91.symm))
   refine go (S' := T91.setTop (mkF m 57 #[si p1, si p2, si ((p2 &&& (255 : Int32)).toUInt32.toUInt16.toUInt32.toInt32), si ((((p2.toUInt32 >>> ((8 : Int32) &&& 31).toUInt32).toInt32) &&& (255 : Int32)).toUInt32.toUInt16.toUInt32.toInt32)] [(.int 2), (.ref b91), (.ref b91)])) (fun t k => st91 _ (XS.dup X91.here hx rfl (hb hby d3_55) rfl rfl (XS.iconst X91.here hx rfl (hb hby d3_56) k))) ?_
   obtain ⟨T95, h95, k95, X95, e95, E95, A95, st95⟩ := newP X91 hx hZ (ww hw 19 rfl) e91 (g := (mkF m 57 #[si p1, si p2, si ((p2 &&& (255 : Int32)).toUInt32.toUInt16.toUInt32.toInt32), si ((((p2.toUInt32 >>> ((8 : Int32) &&& 31).toUInt32).toInt32) &&& (255 : Int32)).toUInt32.toUInt16.toUInt32.toInt32)] [(.int 2), (.ref b91), (.ref b91)])) rfl (hb hby d3_57) rfl (by decide) (cap := 2) (by decide) (by decide) (by decide) (by decide)
   obtain ⟨b95, g95⟩ : ∃ z, z = h91.size := ⟨_, rfl⟩
   rw [← g95] at A95 st95
   have lt_b91_b95 : b91 < b95 := by rw [g95]; exact A91.lt
   have ge_b95 : n0 ≤ b95 := by rw [g95]; exact (Nat.le_trans Z0 K92.1)
   have sz_b95 : h0.size ≤ b95 := by rw [g95]; exact K92.1
   have K96 : Keep h0 h95 [] := K92.ext E95
   have hkS := Nat.le_trans hkS E95.1
   have C97 := C93.trans (CHr.ext E95 C93.1)
   have sf98 := Safe.ext E95 C93.1 sf94
   have V95 : Arv Z h95 b95 k95 .char (2 : Int32) [(.int 0), (.int 0)] (.int 0) := (Arv.new A95 (by decide)).pad (pad_rep [] (.int 0) 2)
   refine go (S' := T95.setTop (mkF m 62 #[si p1, si p2, si ((p2 &&& (255 : Int32)).toUInt32.toUInt16.toUInt32.toInt32), si ((((p2.toUInt32 >>> ((8 : Int32) &&& 31).toUInt32).toInt32) &&& (255 : Int32)).toUInt32.toUInt16.toUInt32.toInt32)] [(.int ((p2 &&& (255 : Int32)).toUInt32.toUInt16.toUInt32.toInt32)), (.int 0), (.ref b95), (.ref b95), (.ref b91), (.ref b91)])) (fun t k => st95 _ (XS.dup X95.here hx rfl (hb hby d3_59) rfl rfl (XS.iconst X95.here hx rfl (hb hby d3_60) (XS.iloadN X95.here hx rfl (hb hby d3_61) rfl k)))) ?_
   obtain ⟨T99, h99, X99, e99, W99, V99, st99⟩ := putC X95 hx hZ e95 V95 (j := (0 : Int32)) (x := ((p2 &&& (255 : Int32)).toUInt32.toUInt16.toUInt32.toInt32)) (narc _) ⟨by decide, by decide⟩ (i := 0) rfl (Nat.le_of_ble_eq_true rfl) (g := (mkF m 62 #[si p1, si p2, si ((p2 &&& (255 : Int32)).toUInt32.toUInt16.toUInt32.toInt32), si ((((p2.toUInt32 >>> ((8 : Int32) &&& 31).toUInt32).toInt32) &&& (255 : Int32)).toUInt32.toUInt16.toUInt32.toInt32)] [(.int ((p2 &&& (255 : Int32)).toUInt32.toUInt16.toUInt32.toInt32)), (.int 0), (.ref b95), (.ref b95), (.ref b91), (.ref b91)])) rfl rfl (hb hby d3_62)
   have K100 : Keep h0 h99 [] := K96.wr W99 (Or.inr sz_b95)
   have N101 := Fr.snoc X99 N0 ge_b95
   have hkS := Nat.le_trans hkS (Keep.of_wr W99).1
   have C102 := C97.trans (CHr.wr W99 (safeArv hZ.alike V95 (by decide)) C97.1)
   have sf103 := Safe.wr W99 (safeArv hZ.alike V95 (by decide)) C97.1 sf98
   refine go (S' := T99.setTop (mkF m 66 #[si p1, si p2, si ((p2 &&& (255 : Int32)).toUInt32.toUInt16.toUInt32.toInt32), si ((((p2.toUInt32 >>> ((8 : Int32) &&& 31).toUInt32).toInt32) &&& (255 : Int32)).toUInt32.toUInt16.toUInt32.toInt32)] [(.int ((((p2.toUInt32 >>> ((8 : Int32) &&& 31).toUInt32).toInt32) &&& (255 : Int32)).toUInt32.toUInt16.toUInt32.toInt32)), (.int 1), (.ref b95), (.ref b95), (.ref b91), (.ref b91)])) (fun t k => st99 _ (XS.dup X99.here hx rfl (hb hby d3_63) rfl rfl (XS.iconst X99.here hx rfl (hb hby d3_64) (XS.iloadN X99.here hx rfl (hb hby d3_65) rfl k)))) ?_
   obtain ⟨T104, h104, X104, e104, W104, V104, st104⟩ := putC X99 hx hZ e99 V99 (j := (1 : Int32)) (x := ((((p2.toUInt32 >>> ((8 : Int32) &&& 31).toUInt32).toInt32) &&& (255 : Int32)).toUInt32.toUInt16.toUInt32.toInt32)) (narc _) ⟨by decide, by decide⟩ (i := 1) rfl (Nat.le_of_ble_eq_true rfl) (g := (mkF m 66 #[si p1, si p2, si ((p2 &&& (255 : Int32)).toUInt32.toUInt16.toUInt32.toInt32), si ((((p2.toUInt32 >>> ((8 : Int32) &&& 31).toUInt32).toInt32) &&& (255 : Int32)).toUInt32.toUInt16.toUInt32.toInt32)] [(.int ((((p2.toUInt32 >>> ((8 : Int32) &&& 31).toUInt32).toInt32) &&& (255 : Int32)).toUInt32.toUInt16.toUInt32.toInt32)), (.int 1), (.ref b95), (.ref b95), (.ref b91), (.ref b91)])) rfl rfl (hb hby d3_66)
   have K105 : Keep h0 h104 [] := K100.wr W104 (Or.inr sz_b95)
   have N106 := Fr.snoc X104 N101 ge_b95
   have hkS := Nat.le_trans hkS (Keep.of_wr W104).1
   have C107 := C102.trans (CHr.wr W104 (safeArv hZ.alike V99 (by decide)) C102.1)
   have sf108 := Safe.wr W104 (safeArv hZ.alike V99 (by decide)) C102.1 sf103
   refine go (S' := T104.setTop (mkF m 67 #[si p1, si p2, si ((p2 &&& (255 : Int32)).toUInt32.toUInt16.toUInt32.toInt32), si ((((p2.toUInt32 >>> ((8 : Int32) &&& 31).toUInt32).toInt32) &&& (255 : Int32)).toUInt32.toUInt16.toUInt32.toInt32)] [(.ref b95), (.ref b91), (.ref b91)])) st104 ?_
   have f109 : Exa Z h104 b91 "java/lang/String" := (((A91.ext E95).wr W99).wr W104)
   have f110 : Fld Z h104 b91 "java/lang/String" "value" "[B" .null := (Fld.other W104 (Fld.other W99 ((D91 (Or.inr (ww hw 32 rfl)) (ty := (.array .byte)) (by decide)).ext E95) (Or.inl (Nat.ne_of_lt lt_b91_b95))) (Or.inl (Nat.ne_of_lt lt_b91_b95)))
   have f111 : Fld Z h104 b91 "java/lang/String" "coder" "B" (.int 0) := (Fld.other W104 (Fld.other W99 ((D91 (Or.inr (ww hw 33 rfl)) (ty := .byte) (by decide)).ext E95) (Or.inl (Nat.ne_of_lt lt_b91_b95))) (Or.inl (Nat.ne_of_lt lt_b91_b95)))
   have hp112 : ∀ c ∈ ([((p2 &&& (255 : Int32)).toUInt32.toUInt16.toUInt32.toInt32), ((((p2.toUInt32 >>> ((8 : Int32) &&& 31).toUInt32).toInt32) &&& (255 : Int32)).toUInt32.toUInt16.toUInt32.toInt32)] : List Int32), ¬ c < 0 ∧ ¬ (255 : Int32) < c := (allI (own_c255 _) (allI (own_c255 _) (fun _ q => nomatch q)))
   have O113 : Old Z n0 h104 := O0.keep K105 all0
   obtain ⟨v114, T114, L114, X114, hQ114, st114⟩ := callSp X104 hx hZ (y := y_1) rfl hown (ww hw 20 rfl) (ww hw 21 rfl) (ww hw 22 rfl) (by decide) (StrChars.Road.backV (W := 1) hZ (own_sub StrChars_words hw) (kI := 4) (ww hw 17 rfl) (cs := ([((p2 &&& (255 : Int32)).toUInt32.toUInt16.toUInt32.toInt32), ((((p2.toUInt32 >>> ((8 : Int32) &&& 31).toUInt32).toInt32) &&& (255 : Int32)).toUInt32.toUInt16.toUInt32.toInt32)] : List Int32)) (bs := ([((p2 &&& (255 : Int32)).toUInt32.toUInt16.toUInt32.toInt32), ((((p2.toUInt32 >>> ((8 : Int32) &&& 31).toUInt32).toInt32) &&& (255 : Int32)).toUInt32.toUInt16.toUInt32.toInt32)] : List Int32).map (fun c => c.toInt8.toInt32)) (n := 2) ge_b91 (Nat.le_trans Z0 K105.1) f109 f110 f111 V104 (hp0.ext O113.2) hG1 rfl rfl (by decide) (by decide) hp112 rfl (by decide) (by decide)) (g := (mkF m 67 #[si p1, si p2, si ((p2 &&& (255 : Int32)).toUInt32.toUInt16.toUInt32.toInt32), si ((((p2.toUInt32 >>> ((8 : Int32) &&& 31).toUInt32).toInt32) &&& (255 : Int32)).toUInt32.toUInt16.toUInt32.toInt32)] [(.ref b95), (.ref b91), (.ref b91)])) rfl (by rw [hml]; rfl) (a := b91) (kc := 1) (ks := 2) (argsL := [(.ref b95)]) (rest := [(.ref b91)]) (lenOf pd_1 rfl) rfl (mr0 rfl) (hb hby d3_67) e104 (by decide) (by decide)
   obtain ⟨rfl, N114q, Kq114, q114_e, q114_c, t114, kb114, ge_t114, new_t114, ne_t114_b91, q114_v, q114_a⟩ := hQ114
   have N114 := Fr.app N106 N114q
   have K115 : Keep h0 T114.heap [] := K105.trans Kq114 (allS (P := fun x => x ∈ [] ∨ h0.size ≤ x) (Or.inr sz_b91) all0)
   have hkS := Nat.le_trans hkS Kq114.1
   have C116 := C107.trans (CHr.keep Kq114 (allS sf108 all0) C107.1)
   have sf117 := Safe.keep Kq114 (allS sf108 all0) C107.1 sf108
   have lt_b91_t114 : b91 < t114 := Nat.lt_of_lt_of_le f109.lt new_t114
   have lt_b95_t114 : b95 < t114 := Nat.lt_of_lt_of_le V104.lt new_t114
   have sz_t114 : h0.size ≤ t114 := Nat.le_trans K105.1 new_t114
   refine go (S' := T114.setTop (mkF m 70 #[si p1, si p2, si ((p2 &&& (255 : Int32)).toUInt32.toUInt16.toUInt32.toInt32), si ((((p2.toUInt32 >>> ((8 : Int32) &&& 31).toUInt32).toInt32) &&& (255 : Int32)).toUInt32.toUInt16.toUInt32.toInt32)] [(.ref b91)])) st114 ?_
   have f119 : Exa Z T114.heap b91 "java/lang/String" := (f109.keep Kq114)
   have str118 : Str Z T114.heap b91 t114 (0 : Int32) ([((p2 &&& (255 : Int32)).toUInt32.toUInt16.toUInt32.toInt32), ((((p2.toUInt32 >>> ((8 : Int32) &&& 31).toUInt32).toInt32) &&& (255 : Int32)).toUInt32.toUInt16.toUInt32.toInt32)] : List Int32) := ⟨_, _, _, f119, q114_v, q114_c, q114_a, own_codOf rfl (fun c hc => (hp112 c hc).2), up16 _ hp112, Nat.le_of_ble_eq_true rfl⟩
   refine finRW X114 hx hk hret rfl rfl hS hkS hZ (own_EW hw) C116 rfl (hb hby d3_70) (by decide) (by decide) ?_
   have hm : own_mk p1 p2 = ([((p2 &&& (255 : Int32)).toUInt32.toUInt16.toUInt32.toInt32), ((((p2.toUInt32 >>> ((8 : Int32) &&& 31).toUInt32).toInt32) &&& (255 : Int32)).toUInt32.toUInt16.toUInt32.toInt32)] : List Int32) := by rw [own_mk, if_neg hc49, if_neg hc66]
   exact ⟨b91, t114, rfl, N114, K115, sz_b91, by rw [hm]; exact str118⟩
theorem d7_0 : decode prog_5_method_1_code 0 = .ok (.aload_n 0, 1) := by decide +kernel
theorem d7_1 : decode prog_5_method_1_code 1 = .ok (.invokespecial 1, 3) := by decide +kernel
theorem d7_4 : decode prog_5_method_1_code 4 = .ok (.aload_n 0, 1) := by decide +kernel
theorem d7_5 : decode prog_5_method_1_code 5 = .ok (.aload_n 1, 1) := by decide +kernel
theorem d7_6 : decode prog_5_method_1_code 6 = .ok (.putfield 7, 3) := by decide +kernel
theorem d7_9 : decode prog_5_method_1_code 9 = .ok (.aload_n 0, 1) := by decide +kernel
theorem d7_10 : decode prog_5_method_1_code 10 = .ok (.aload_n 2, 1) := by decide +kernel
theorem d7_11 : decode prog_5_method_1_code 11 = .ok (.putfield 13, 3) := by decide +kernel
theorem d7_14 : decode prog_5_method_1_code 14 = .ok (.aload_n 0, 1) := by decide +kernel
theorem d7_15 : decode prog_5_method_1_code 15 = .ok (.aload_n 3, 1) := by decide +kernel
theorem d7_16 : decode prog_5_method_1_code 16 = .ok (.putfield 17, 3) := by decide +kernel
theorem d7_19 : decode prog_5_method_1_code 19 = .ok (.return_, 1) := by decide +kernel
abbrev y_5 : MethodName := ⟨"com/example/sallyport/sallyport/AttributeKey", "<init>", "(Lcom/example/sallyport/sallyport/AttributeCategory;Ljava/lang/String;Ljava/lang/String;)V"⟩
theorem pn_5 : plainFor y_5 = true := by first | exact plainFor_of_name (by first | (simp [plainName, overriddenIn]; done) | decide +kernel) | decide +kernel
theorem ef_rmPi (m : MethodId) (a1 : Addr) (k1 : Addr) (x1 : Addr) (x2 : Addr) : entryFrame m #[(.ref a1), (.ref k1), (.ref x1), (.ref x2)] 4 = mkF m 0 #[sr a1, sr k1, sr x1, sr x2] [] := by first | (simp [entryFrame, mkF, argsToLocals, Value.category]; done) | rfl
def Q_rmPi (Z : State) (a1 : Addr) (k1 : Addr) (x1 : Addr) (x2 : Addr) (h0 : Heap) (n0 : Nat) (v : Option Value) (h : Heap) (L : List Loc) : Prop := v = none ∧ Fr n0 L ∧ Keep h0 h [a1] ∧ (Fld Z h a1 "com/example/sallyport/sallyport/AttributeKey" "category" "Lcom/example/sallyport/sallyport/AttributeCategory;" (.ref k1)) ∧ (Fld Z h a1 "com/example/sallyport/sallyport/AttributeKey" "attributeId" "Ljava/lang/String;" (.ref x1)) ∧ (Fld Z h a1 "com/example/sallyport/sallyport/AttributeKey" "value" "Ljava/lang/String;" (.ref x2))
set_option maxRecDepth 65536 in
set_option maxHeartbeats 40000000 in
theorem rmPi (l : Launch) (Z : State) (a0 : Array Value) (hw : ∀ d ∈ tables_1, d.before a0 Z = true) (ws : List Jvm.Cond) (a1 : Addr) (k1 : Addr) (x1 : Addr) (x2 : Addr) (h0 : Heap) (n0 : Nat) (Z0 : n0 ≤ h0.size) (hp0 : Exa Z h0 a1 "com/example/sallyport/sallyport/AttributeKey") (hp1 : Fld Z h0 a1 "com/example/sallyport/sallyport/AttributeKey" "category" "Lcom/example/sallyport/sallyport/AttributeCategory;" .null) (hp2 : Fld Z h0 a1 "com/example/sallyport/sallyport/AttributeKey" "attributeId" "Ljava/lang/String;" .null) (hp3 : Fld Z h0 a1 "com/example/sallyport/sallyport/AttributeKey" "value" "Ljava/lang/String;" .null) (hp4 : n0 ≤ a1) :
    MetFree l y_5 (head1 (Jvm.Cond.code y_5 prog_5_method_1_code 4 none :: ws) ({ frames := 1, cells := 0, slots := 0, locals := 12 } : Room)) (fun a U => a = #[(.ref a1), (.ref k1), (.ref x1), (.ref x2)] ∧ Z.Warmed39 U.vm ∧ U.heap = h0) (fun _ _ _ _ _ => True) (fun _ U o U' => ∃ v L, o = .returned v ∧ Q_rmPi Z a1 k1 x1 x2 h0 n0 v U'.heap L ∧ FrameEnd U o U' L ({ frames := 1, cells := 0, slots := 0, locals := 12 } : Room).cells ({ frames := 1, cells := 0, slots := 0, locals := 12 } : Room).slots) := by
 refine bodyOf pn_5 (fun m => ef_rmPi m a1 k1 x1 x2) ?_
 intro p e s m below meth c T0 X0 hx hby hml hown hnm hret hk hZ e0
 have N0 := Fr.nil n0
 have K0 : Keep h0 h0 [a1] := Keep.refl _ _
 refine go (S' := T0.setTop (mkF m 1 #[sr a1, sr k1, sr x1, sr x2] [(.ref a1)])) (fun t k => XS.aloadN X0.here hx rfl (hb hby d7_0) rfl rfl k) ?_
 obtain ⟨T120, X120, e120, st120⟩ := initO X0 hx hZ hown (ww hw 41 rfl) (ww hw 28 rfl) (ww hw 29 rfl) e0 (g := (mkF m 1 #[sr a1, sr k1, sr x1, sr x2] [(.ref a1)])) rfl (by rw [hml]; rfl) rfl (hb hby d7_1) (by decide) (W := 0) (mr0 rfl) (by decide)
 refine go (S' := T120.setTop (mkF m 6 #[sr a1, sr k1, sr x1, sr x2] [(.ref k1), (.ref a1)])) (fun t k => st120 _ (XS.aloadN X120.here hx rfl (hb hby d7_4) rfl rfl (XS.aloadN X120.here hx rfl (hb hby d7_5) rfl rfl k))) ?_
 obtain ⟨T121, h121, X121, e121, W121, st121⟩ := putF X120 hx hZ hown (host := "") (Or.inl (ww hw 42 rfl)) Via.refl e120 hp1 hp0 (Or.inr ⟨(ww hw 43 rfl), rfl, hnm⟩) (ww hw 5 rfl) (ty := (.object "com/example/sallyport/sallyport/AttributeCategory")) (by decide) rfl rfl (g := (mkF m 6 #[sr a1, sr k1, sr x1, sr x2] [(.ref k1), (.ref a1)])) rfl rfl (hb hby d7_6)
 have K122 : Keep h0 h121 [a1] := K0.wr W121 (Or.inl (List.mem_of_getElem? (i := 0) rfl))
 have N123 := Fr.snoc X121 N0 hp4
 have f124 : Fld Z h121 a1 "com/example/sallyport/sallyport/AttributeKey" "category" "Lcom/example/sallyport/sallyport/AttributeCategory;" (.ref k1) := (Fld.same W121 hp1)
 refine go (S' := T121.setTop (mkF m 11 #[sr a1, sr k1, sr x1, sr x2] [(.ref x1), (.ref a1)])) (fun t k => st121 _ (XS.aloadN X121.here hx rfl (hb hby d7_9) rfl rfl (XS.aloadN X121.here hx rfl (hb hby d7_10) rfl rfl k))) ?_
 have f125 : Fld Z h121 a1 "com/example/sallyport/sallyport/AttributeKey" "attributeId" "Ljava/lang/String;" .null := (Fld.other W121 hp2 (Or.inr (slot_ne (Or.inr (ww hw 45 rfl)) (Or.inr (ww hw 43 rfl)) (by decide) (t := (.object "java/lang/String")) (t' := (.object "com/example/sallyport/sallyport/AttributeCategory")) (by decide) (by decide))))
 obtain ⟨T126, h126, X126, e126, W126, st126⟩ := putF X121 hx hZ hown (host := "") (Or.inl (ww hw 44 rfl)) Via.refl e121 f125 (hp0.keep K122) (Or.inr ⟨(ww hw 45 rfl), rfl, hnm⟩) (ww hw 5 rfl) (ty := (.object "java/lang/String")) (by decide) rfl rfl (g := (mkF m 11 #[sr a1, sr k1, sr x1, sr x2] [(.ref x1), (.ref a1)])) rfl rfl (hb hby d7_11)
 have K127 : Keep h0 h126 [a1] := K122.wr W126 (Or.inl (List.mem_of_getElem? (i := 0) rfl))
 have N128 := Fr.snoc X126 N123 hp4
 have f129 : Fld Z h126 a1 "com/example/sallyport/sallyport/AttributeKey" "attributeId" "Ljava/lang/String;" (.ref x1) := (Fld.same W126 f125)
 refine go (S' := T126.setTop (mkF m 16 #[sr a1, sr k1, sr x1, sr x2] [(.ref x2), (.ref a1)])) (fun t k => st126 _ (XS.aloadN X126.here hx rfl (hb hby d7_14) rfl rfl (XS.aloadN X126.here hx rfl (hb hby d7_15) rfl rfl k))) ?_
 have f130 : Fld Z h126 a1 "com/example/sallyport/sallyport/AttributeKey" "value" "Ljava/lang/String;" .null := (Fld.other W126 (Fld.other W121 hp3 (Or.inr (slot_ne (Or.inr (ww hw 47 rfl)) (Or.inr (ww hw 43 rfl)) (by decide) (t := (.object "java/lang/String")) (t' := (.object "com/example/sallyport/sallyport/AttributeCategory")) (by decide) (by decide)))) (Or.inr (slot_ne (Or.inr (ww hw 47 rfl)) (Or.inr (ww hw 45 rfl)) (by decide) (t := (.object "java/lang/String")) (t' := (.object "java/lang/String")) (by decide) (by decide))))
 obtain ⟨T131, h131, X131, e131, W131, st131⟩ := putF X126 hx hZ hown (host := "") (Or.inl (ww hw 46 rfl)) Via.refl e126 f130 (hp0.keep K127) (Or.inr ⟨(ww hw 47 rfl), rfl, hnm⟩) (ww hw 5 rfl) (ty := (.object "java/lang/String")) (by decide) rfl rfl (g := (mkF m 16 #[sr a1, sr k1, sr x1, sr x2] [(.ref x2), (.ref a1)])) rfl rfl (hb hby d7_16)
 have K132 : Keep h0 h131 [a1] := K127.wr W131 (Or.inl (List.mem_of_getElem? (i := 0) rfl))
 have N133 := Fr.snoc X131 N128 hp4
 have f134 : Fld Z h131 a1 "com/example/sallyport/sallyport/AttributeKey" "value" "Ljava/lang/String;" (.ref x2) := (Fld.same W131 f130)
 refine go (S' := T131.setTop (mkF m 19 #[sr a1, sr k1, sr x1, sr x2] [])) st131 ?_
 refine finV X131 hx hk hret (hb hby d7_19) (by decide) (by decide) ?_
 have f135 : Fld Z h131 a1 "com/example/sallyport/sallyport/AttributeKey" "category" "Lcom/example/sallyport/sallyport/AttributeCategory;" (.ref k1) := (Fld.other W131 (Fld.other W126 f124 (Or.inr (slot_ne (Or.inr (ww hw 43 rfl)) (Or.inr (ww hw 45 rfl)) (by decide) (t := (.object "com/example/sallyport/sallyport/AttributeCategory")) (t' := (.object "java/lang/String")) (by decide) (by decide)))) (Or.inr (slot_ne (Or.inr (ww hw 43 rfl)) (Or.inr (ww hw 47 rfl)) (by decide) (t := (.object "com/example/sallyport/sallyport/AttributeCategory")) (t' := (.object "java/lang/String")) (by decide) (by decide))))
 have f136 : Fld Z h131 a1 "com/example/sallyport/sallyport/AttributeKey" "attributeId" "Ljava/lang/String;" (.ref x1) := (Fld.other W131 f129 (Or.inr (slot_ne (Or.inr (ww hw 45 rfl)) (Or.inr (ww hw 47 rfl)) (by decide) (t := (.object "java/lang/String")) (t' := (.object "java/lang/String")) (by decide) (by decide))))
 rw [e131]
 exact ⟨rfl, N133, K132, f135, f136, f134⟩
theorem d13_0 : decode method_5_code 0 = .ok (.iload_n 0, 1) := by decide +kernel
theorem d13_1 : decode method_5_code 1 = .ok (.iload_n 2, 1) := by decide +kernel
theorem d13_2 : decode method_5_code 2 = .ok (.if_icmp .eq 5, 3) := by decide +kernel
theorem d13_7 : decode method_5_code 7 = .ok (.iload_n 0, 1) := by decide +kernel
theorem d13_8 : decode method_5_code 8 = .ok (.iconst 1, 1) := by decide +kernel
theorem d13_9 : decode method_5_code 9 = .ok (.if_icmp .lt 18, 3) := by decide +kernel
theorem d13_27 : decode method_5_code 27 = .ok (.iload_n 0, 1) := by decide +kernel
theorem d13_28 : decode method_5_code 28 = .ok (.iconst 2, 1) := by decide +kernel
theorem d13_29 : decode method_5_code 29 = .ok (.if_icmp .lt 24, 3) := by decide +kernel
theorem d13_53 : decode method_5_code 53 = .ok (.iconst 1, 1) := by decide +kernel
theorem d13_54 : decode method_5_code 54 = .ok (.ireturn, 1) := by decide +kernel
theorem d13_32 : decode method_5_code 32 = .ok (.iload_n 1, 1) := by decide +kernel
theorem d13_33 : decode method_5_code 33 = .ok (.bipush 8, 2) := by decide +kernel
theorem d13_35 : decode method_5_code 35 = .ok (.iushr, 1) := by decide +kernel
theorem d13_36 : decode method_5_code 36 = .ok (.sipush 255, 3) := by decide +kernel
theorem d13_39 : decode method_5_code 39 = .ok (.iand, 1) := by decide +kernel
theorem d13_40 : decode method_5_code 40 = .ok (.iload_n 3, 1) := by decide +kernel
theorem d13_41 : decode method_5_code 41 = .ok (.bipush 8, 2) := by decide +kernel
theorem d13_43 : decode method_5_code 43 = .ok (.iushr, 1) := by decide +kernel
theorem d13_44 : decode method_5_code 44 = .ok (.sipush 255, 3) := by decide +kernel
theorem d13_47 : decode method_5_code 47 = .ok (.iand, 1) := by decide +kernel
theorem d13_48 : decode method_5_code 48 = .ok (.if_icmp .eq 5, 3) := by decide +kernel
theorem d13_51 : decode method_5_code 51 = .ok (.iconst 0, 1) := by decide +kernel
theorem d13_52 : decode method_5_code 52 = .ok (.ireturn, 1) := by decide +kernel
theorem d13_12 : decode method_5_code 12 = .ok (.iload_n 1, 1) := by decide +kernel
theorem d13_13 : decode method_5_code 13 = .ok (.sipush 255, 3) := by decide +kernel
theorem d13_16 : decode method_5_code 16 = .ok (.iand, 1) := by decide +kernel
theorem d13_17 : decode method_5_code 17 = .ok (.iload_n 3, 1) := by decide +kernel
theorem d13_18 : decode method_5_code 18 = .ok (.sipush 255, 3) := by decide +kernel
theorem d13_21 : decode method_5_code 21 = .ok (.iand, 1) := by decide +kernel
theorem d13_22 : decode method_5_code 22 = .ok (.if_icmp .eq 5, 3) := by decide +kernel
theorem d13_25 : decode method_5_code 25 = .ok (.iconst 0, 1) := by decide +kernel
theorem d13_26 : decode method_5_code 26 = .ok (.ireturn, 1) := by decide +kernel
theorem d13_5 : decode method_5_code 5 = .ok (.iconst 0, 1) := by decide +kernel
theorem d13_6 : decode method_5_code 6 = .ok (.ireturn, 1) := by decide +kernel
abbrev y_6 : MethodName := ⟨"com/example/sallyport/sallyport/AttributeKeyEqualsPinLaw", "same", "(IIII)Z"⟩
theorem pn_6 : plainFor y_6 = true := by first | exact plainFor_of_name (by first | (simp [plainName, overriddenIn]; done) | decide +kernel) | decide +kernel
theorem ef_rmSs (m : MethodId) (p1 : Int32) (p2 : Int32) (p3 : Int32) (p4 : Int32) : entryFrame m #[(.int p1), (.int p2), (.int p3), (.int p4)] 4 = mkF m 0 #[si p1, si p2, si p3, si p4] [] := by first | (simp [entryFrame, mkF, argsToLocals, Value.category]; done) | rfl
def Q_rmSs (Z : State) (p1 : Int32) (p2 : Int32) (p3 : Int32) (p4 : Int32) (h0 : Heap) (n0 : Nat) (v : Option Value) (h : Heap) (L : List Loc) : Prop := v = some (.int (if (own_mk p1 p2) = (own_mk p3 p4) then (1 : Int32) else (0 : Int32))) ∧ Fr n0 L ∧ h = h0
set_option maxRecDepth 65536 in
set_option maxHeartbeats 40000000 in
theorem rmSs (l : Launch) (Z : State) (a0 : Array Value) (hw : ∀ d ∈ tables_1, d.before a0 Z = true) (ws : List Jvm.Cond) (p1 : Int32) (p2 : Int32) (p3 : Int32) (p4 : Int32) (h0 : Heap) (n0 : Nat) (Z0 : n0 ≤ h0.size) (h1 : p1 = 0 ∨ p1 = 1 ∨ p1 = 2) (h3 : p3 = 0 ∨ p3 = 1 ∨ p3 = 2) :
    MetFree l y_6 (head1 (Jvm.Cond.code y_6 method_5_code 4 (some .boolean) :: ws) ({ frames := 0, cells := 0, slots := 0, locals := 0 } : Room)) (fun a U => a = #[(.int p1), (.int p2), (.int p3), (.int p4)] ∧ Z.Warmed39 U.vm ∧ U.heap = h0) (fun _ _ _ _ _ => True) (fun _ U o U' => ∃ v L, o = .returned v ∧ Q_rmSs Z p1 p2 p3 p4 h0 n0 v U'.heap L ∧ FrameEnd U o U' L ({ frames := 0, cells := 0, slots := 0, locals := 0 } : Room).cells ({ frames := 0, cells := 0, slots := 0, locals := 0 } : Room).slots) := by
 refine bodyOf pn_6 (fun m => ef_rmSs m p1 p2 p3 p4) ?_
 intro p e s m below meth c T0 X0 hx hby hml hown hnm hret hk hZ e0
 have N0 := Fr.nil n0
 have K0 : Keep h0 h0 [] := Keep.refl _ _
 refine go (S' := T0.setTop (mkF m 2 #[si p1, si p2, si p3, si p4] [(.int p3), (.int p1)])) (fun t k => XS.iloadN X0.here hx rfl (hb hby d13_0) rfl (XS.iloadN X0.here hx rfl (hb hby d13_1) rfl k)) ?_
 by_cases hc137 : p1 = p3
 ·
  refine go (S' := T0.setTop (mkF m 9 #[si p1, si p2, si p3, si p4] [(.int 1), (.int p1)])) (fun t k => XS.icmpYes X0.here hx rfl (pc0 := 2) (pc' := 7) rfl (hb hby d13_2) rfl (teq hc137).1 (by decide) (by decide) (XS.iloadN X0.here hx rfl (hb hby d13_7) rfl (XS.iconst X0.here hx rfl (hb hby d13_8) k))) ?_
  by_cases hc138 : p1 < (1 : Int32)
  ·
   refine go (S' := T0.setTop (mkF m 29 #[si p1, si p2, si p3, si p4] [(.int 2), (.int p1)])) (fun t k => XS.icmpYes X0.here hx rfl (pc0 := 9) (pc' := 27) rfl (hb hby d13_9) rfl (tlt hc138).1 (by decide) (by decide) (XS.iloadN X0.here hx rfl (hb hby d13_27) rfl (XS.iconst X0.here hx rfl (hb hby d13_28) k))) ?_
   by_cases hc139 : p1 < (2 : Int32)
   ·
    refine go (S' := T0.setTop (mkF m 54 #[si p1, si p2, si p3, si p4] [(.int 1)])) (fun t k => XS.icmpYes X0.here hx rfl (pc0 := 29) (pc' := 53) rfl (hb hby d13_29) rfl (tlt hc139).1 (by decide) (by decide) (XS.iconst X0.here hx rfl (hb hby d13_53) k)) ?_
    refine finN X0 hx hk (t := .boolean) hret (by simp) (hb hby d13_54) (by decide) (by decide) ?_
    rw [e0]
    exact ⟨(by rcases h1 with rfl | rfl | rfl <;> rcases h3 with rfl | rfl | rfl <;> simp_all +decide [own_mk, nar, i2c_mask]), N0, rfl⟩
   ·
    refine go (S' := T0.setTop (mkF m 43 #[si p1, si p2, si p3, si p4] [(.int 8), (.int p4), (.int (((p2.toUInt32 >>> ((8 : Int32) &&& 31).toUInt32).toInt32) &&& (255 : Int32)))])) (fun t k => XS.icmpNo X0.here hx rfl (hb hby d13_29) rfl (flt hc139).1 (XS.iloadN X0.here hx rfl (hb hby d13_32) rfl (XS.bipush X0.here hx rfl (hb hby d13_33) (XS.iushr X0.here hx rfl (hb hby d13_35) rfl (XS.sipush X0.here hx rfl (hb hby d13_36) (XS.iand X0.here hx rfl (hb hby d13_39) rfl (XS.iloadN X0.here hx rfl (hb hby d13_40) rfl (XS.bipush X0.here hx rfl (hb hby d13_41) k)))))))) ?_
    refine go (S' := T0.setTop (mkF m 48 #[si p1, si p2, si p3, si p4] [(.int (((p4.toUInt32 >>> ((8 : Int32) &&& 31).toUInt32).toInt32) &&& (255 : Int32))), (.int (((p2.toUInt32 >>> ((8 : Int32) &&& 31).toUInt32).toInt32) &&& (255 : Int32)))])) (fun t k => XS.iushr X0.here hx rfl (hb hby d13_43) rfl (XS.sipush X0.here hx rfl (hb hby d13_44) (XS.iand X0.here hx rfl (hb hby d13_47) rfl k))) ?_
    by_cases hc140 : (((p2.toUInt32 >>> ((8 : Int32) &&& 31).toUInt32).toInt32) &&& (255 : Int32)) = (((p4.toUInt32 >>> ((8 : Int32) &&& 31).toUInt32).toInt32) &&& (255 : Int32))
    ·
     refine go (S' := T0.setTop (mkF m 54 #[si p1, si p2, si p3, si p4] [(.int 1)])) (fun t k => XS.icmpYes X0.here hx rfl (pc0 := 48) (pc' := 53) rfl (hb hby d13_48) rfl (teq hc140).1 (by decide) (by decide) (XS.iconst X0.here hx rfl (hb hby d13_53) k)) ?_
     refine finN X0 hx hk (t := .boolean) hret (by simp) (hb hby d13_54) (by decide) (by decide) ?_
     rw [e0]
     exact ⟨(by rcases h1 with rfl | rfl | rfl <;> rcases h3 with rfl | rfl | rfl <;> simp_all +decide [own_mk, nar, i2c_mask]), N0, rfl⟩
    ·
     refine go (S' := T0.setTop (mkF m 52 #[si p1, si p2, si p3, si p4] [(.int 0)])) (fun t k => XS.icmpNo X0.here hx rfl (hb hby d13_48) rfl (feq hc140).1 (XS.iconst X0.here hx rfl (hb hby d13_51) k)) ?_
     refine finN X0 hx hk (t := .boolean) hret (by simp) (hb hby d13_52) (by decide) (by decide) ?_
     rw [e0]
     exact ⟨(by rcases h1 with rfl | rfl | rfl <;> rcases h3 with rfl | rfl | rfl <;> simp_all +decide [own_mk, nar, i2c_mask]), N0, rfl⟩
  ·
   refine go (S' := T0.setTop (mkF m 22 #[si p1, si p2, si p3, si p4] [(.int (p4 &&& (255 : Int32))), (.int (p2 &&& (255 : Int32)))])) (fun t k => XS.icmpNo X0.here hx rfl (hb hby d13_9) rfl (flt hc138).1 (XS.iloadN X0.here hx rfl (hb hby d13_12) rfl (XS.sipush X0.here hx rfl (hb hby d13_13) (XS.iand X0.here hx rfl (hb hby d13_16) rfl (XS.iloadN X0.here hx rfl (hb hby d13_17) rfl (XS.sipush X0.here hx rfl (hb hby d13_18) (XS.iand X0.here hx rfl (hb hby d13_21) rfl k))))))) ?_
   by_cases hc141 : (p2 &&& (255 : Int32)) = (p4 &&& (255 : Int32))
   ·
    refine go (S' := T0.setTop (mkF m 29 #[si p1, si p2, si p3, si p4] [(.int 2), (.int p1)])) (fun t k => XS.icmpYes X0.here hx rfl (pc0 := 22) (pc' := 27) rfl (hb hby d13_22) rfl (teq hc141).1 (by decide) (by decide) (XS.iloadN X0.here hx rfl (hb hby d13_27) rfl (XS.iconst X0.here hx rfl (hb hby d13_28) k))) ?_
    by_cases hc142 : p1 < (2 : Int32)
    ·
     refine go (S' := T0.setTop (mkF m 54 #[si p1, si p2, si p3, si p4] [(.int 1)])) (fun t k => XS.icmpYes X0.here hx rfl (pc0 := 29) (pc' := 53) rfl (hb hby d13_29) rfl (tlt hc142).1 (by decide) (by decide) (XS.iconst X0.here hx rfl (hb hby d13_53) k)) ?_
     refine finN X0 hx hk (t := .boolean) hret (by simp) (hb hby d13_54) (by decide) (by decide) ?_
     rw [e0]
     exact ⟨(by rcases h1 with rfl | rfl | rfl <;> rcases h3 with rfl | rfl | rfl <;> simp_all +decide [own_mk, nar, i2c_mask]), N0, rfl⟩
    ·
     refine go (S' := T0.setTop (mkF m 43 #[si p1, si p2, si p3, si p4] [(.int 8), (.int p4), (.int (((p2.toUInt32 >>> ((8 : Int32) &&& 31).toUInt32).toInt32) &&& (255 : Int32)))])) (fun t k => XS.icmpNo X0.here hx rfl (hb hby d13_29) rfl (flt hc142).1 (XS.iloadN X0.here hx rfl (hb hby d13_32) rfl (XS.bipush X0.here hx rfl (hb hby d13_33) (XS.iushr X0.here hx rfl (hb hby d13_35) rfl (XS.sipush X0.here hx rfl (hb hby d13_36) (XS.iand X0.here hx rfl (hb hby d13_39) rfl (XS.iloadN X0.here hx rfl (hb hby d13_40) rfl (XS.bipush X0.here hx rfl (hb hby d13_41) k)))))))) ?_
     refine go (S' := T0.setTop (mkF m 48 #[si p1, si p2, si p3, si p4] [(.int (((p4.toUInt32 >>> ((8 : Int32) &&& 31).toUInt32).toInt32) &&& (255 : Int32))), (.int (((p2.toUInt32 >>> ((8 : Int32) &&& 31).toUInt32).toInt32) &&& (255 : Int32)))])) (fun t k => XS.iushr X0.here hx rfl (hb hby d13_43) rfl (XS.sipush X0.here hx rfl (hb hby d13_44) (XS.iand X0.here hx rfl (hb hby d13_47) rfl k))) ?_
     by_cases hc143 : (((p2.toUInt32 >>> ((8 : Int32) &&& 31).toUInt32).toInt32) &&& (255 : Int32)) = (((p4.toUInt32 >>> ((8 : Int32) &&& 31).toUInt32).toInt32) &&& (255 : Int32))
     ·
      refine go (S' := T0.setTop (mkF m 54 #[si p1, si p2, si p3, si p4] [(.int 1)])) (fun t k => XS.icmpYes X0.here hx rfl (pc0 := 48) (pc' := 53) rfl (hb hby d13_48) rfl (teq hc143).1 (by decide) (by decide) (XS.iconst X0.here hx rfl (hb hby d13_53) k)) ?_
      refine finN X0 hx hk (t := .boolean) hret (by simp) (hb hby d13_54) (by decide) (by decide) ?_
      rw [e0]
      exact ⟨(by rcases h1 with rfl | rfl | rfl <;> rcases h3 with rfl | rfl | rfl <;> simp_all +decide [own_mk, nar, i2c_mask]), N0, rfl⟩
     ·
      refine go (S' := T0.setTop (mkF m 52 #[si p1, si p2, si p3, si p4] [(.int 0)])) (fun t k => XS.icmpNo X0.here hx rfl (hb hby d13_48) rfl (feq hc143).1 (XS.iconst X0.here hx rfl (hb hby d13_51) k)) ?_
      refine finN X0 hx hk (t := .boolean) hret (by simp) (hb hby d13_52) (by decide) (by decide) ?_
      rw [e0]
      exact ⟨(by rcases h1 with rfl | rfl | rfl <;> rcases h3 with rfl | rfl | rfl <;> simp_all +decide [own_mk, nar, i2c_mask]), N0, rfl⟩
   ·
    refine go (S' := T0.setTop (mkF m 26 #[si p1, si p2, si p3, si p4] [(.int 0)])) (fun t k => XS.icmpNo X0.here hx rfl (hb hby d13_22) rfl (feq hc141).1 (XS.iconst X0.here hx rfl (hb hby d13_25) k)) ?_
    refine finN X0 hx hk (t := .boolean) hret (by simp) (hb hby d13_26) (by decide) (by decide) ?_
    rw [e0]
    exact ⟨(by rcases h1 with rfl | rfl | rfl <;> rcases h3 with rfl | rfl | rfl <;> simp_all +decide [own_mk, nar, i2c_mask]), N0, rfl⟩
 ·
  refine go (S' := T0.setTop (mkF m 6 #[si p1, si p2, si p3, si p4] [(.int 0)])) (fun t k => XS.icmpNo X0.here hx rfl (hb hby d13_2) rfl (feq hc137).1 (XS.iconst X0.here hx rfl (hb hby d13_5) k)) ?_
  refine finN X0 hx hk (t := .boolean) hret (by simp) (hb hby d13_6) (by decide) (by decide) ?_
  rw [e0]
  exact ⟨(by rcases h1 with rfl | rfl | rfl <;> rcases h3 with rfl | rfl | rfl <;> simp_all +decide [own_mk, nar, i2c_mask]), N0, rfl⟩
theorem d8_0 : decode prog_5_method_5_code 0 = .ok (.aload_n 1, 1) := by decide +kernel
theorem d8_1 : decode prog_5_method_5_code 1 = .ok (.instanceof 8, 3) := by decide +kernel
theorem d8_4 : decode prog_5_method_5_code 4 = .ok (.ifCond .eq 55, 3) := by decide +kernel
theorem d8_7 : decode prog_5_method_5_code 7 = .ok (.aload_n 0, 1) := by decide +kernel
theorem d8_8 : decode prog_5_method_5_code 8 = .ok (.getfield 7, 3) := by decide +kernel
theorem d8_11 : decode prog_5_method_5_code 11 = .ok (.aload_n 1, 1) := by decide +kernel
theorem d8_12 : decode prog_5_method_5_code 12 = .ok (.checkcast 8, 3) := by decide +kernel
theorem d8_15 : decode prog_5_method_5_code 15 = .ok (.getfield 7, 3) := by decide +kernel
theorem d8_18 : decode prog_5_method_5_code 18 = .ok (.if_acmp .ne 41, 3) := by decide +kernel
theorem d8_21 : decode prog_5_method_5_code 21 = .ok (.aload_n 0, 1) := by decide +kernel
theorem d8_22 : decode prog_5_method_5_code 22 = .ok (.getfield 13, 3) := by decide +kernel
theorem d8_25 : decode prog_5_method_5_code 25 = .ok (.aload_n 1, 1) := by decide +kernel
theorem d8_26 : decode prog_5_method_5_code 26 = .ok (.checkcast 8, 3) := by decide +kernel
theorem d8_29 : decode prog_5_method_5_code 29 = .ok (.getfield 13, 3) := by decide +kernel
theorem d8_32 : decode prog_5_method_5_code 32 = .ok (.invokevirtual 20, 3) := by decide +kernel
theorem pd_2 : parseMethodDescriptor "(Ljava/lang/Object;)Z" = some ⟨[(.object "java/lang/Object")], some .boolean⟩ := by decide +kernel
abbrev y_7 : MethodName := ⟨"java/lang/String", "equals", "(Ljava/lang/Object;)Z"⟩
theorem d8_35 : decode prog_5_method_5_code 35 = .ok (.ifCond .eq 24, 3) := by decide +kernel
theorem d8_59 : decode prog_5_method_5_code 59 = .ok (.iconst 0, 1) := by decide +kernel
theorem d8_60 : decode prog_5_method_5_code 60 = .ok (.ireturn, 1) := by decide +kernel
theorem d8_38 : decode prog_5_method_5_code 38 = .ok (.aload_n 0, 1) := by decide +kernel
theorem d8_39 : decode prog_5_method_5_code 39 = .ok (.getfield 17, 3) := by decide +kernel
theorem d8_42 : decode prog_5_method_5_code 42 = .ok (.aload_n 1, 1) := by decide +kernel
theorem d8_43 : decode prog_5_method_5_code 43 = .ok (.checkcast 8, 3) := by decide +kernel
theorem d8_46 : decode prog_5_method_5_code 46 = .ok (.getfield 17, 3) := by decide +kernel
theorem d8_49 : decode prog_5_method_5_code 49 = .ok (.invokevirtual 20, 3) := by decide +kernel
theorem d8_52 : decode prog_5_method_5_code 52 = .ok (.ifCond .eq 7, 3) := by decide +kernel
theorem d8_55 : decode prog_5_method_5_code 55 = .ok (.iconst 1, 1) := by decide +kernel
theorem d8_56 : decode prog_5_method_5_code 56 = .ok (.goto 4, 3) := by decide +kernel
abbrev y_8 : MethodName := ⟨"com/example/sallyport/sallyport/AttributeKey", "equals", "(Ljava/lang/Object;)Z"⟩
theorem pn_7 : plainFor y_8 = true := by first | exact plainFor_of_name (by first | (simp [plainName, overriddenIn]; done) | decide +kernel) | decide +kernel
theorem ef_rmEq (m : MethodId) (a1 : Addr) (a2 : Addr) : entryFrame m #[(.ref a1), (.ref a2)] 2 = mkF m 0 #[sr a1, sr a2] [] := by first | (simp [entryFrame, mkF, argsToLocals, Value.category]; done) | rfl
def Q_rmEq (Z : State) (a1 : Addr) (a2 : Addr) (k1 : Addr) (x1 : Addr) (y1 : Addr) (k2 : Addr) (x2 : Addr) (y2 : Addr) (t1 : Addr) (t2 : Addr) (u1 : Addr) (u2 : Addr) (cs : List Int32) (cv : List Int32) (ds : List Int32) (dv : List Int32) (G1 : Int32) (h0 : Heap) (n0 : Nat) (v : Option Value) (h : Heap) (L : List Loc) : Prop := v = some (.int (if k1 = k2 ∧ cs = ds ∧ cv = dv then (1 : Int32) else (0 : Int32))) ∧ Fr n0 L ∧ h = h0
set_option maxRecDepth 65536 in
set_option maxHeartbeats 40000000 in
theorem rmEq (l : Launch) (Z : State) (a0 : Array Value) (hw : ∀ d ∈ tables_1, d.before a0 Z = true) (ws : List Jvm.Cond) (a1 : Addr) (a2 : Addr) (k1 : Addr) (x1 : Addr) (y1 : Addr) (k2 : Addr) (x2 : Addr) (y2 : Addr) (t1 : Addr) (t2 : Addr) (u1 : Addr) (u2 : Addr) (cs : List Int32) (cv : List Int32) (ds : List Int32) (dv : List Int32) (G1 : Int32) (h0 : Heap) (n0 : Nat) (Z0 : n0 ≤ h0.size) (hp0 : Exa Z h0 a2 "com/example/sallyport/sallyport/AttributeKey") (hp1 : Fld Z h0 a1 "com/example/sallyport/sallyport/AttributeKey" "category" "Lcom/example/sallyport/sallyport/AttributeCategory;" (.ref k1)) (hp2 : Fld Z h0 a1 "com/example/sallyport/sallyport/AttributeKey" "attributeId" "Ljava/lang/String;" (.ref x1)) (hp3 : Fld Z h0 a1 "com/example/sallyport/sallyport/AttributeKey" "value" "Ljava/lang/String;" (.ref y1)) (hp4 : Fld Z h0 a2 "com/example/sallyport/sallyport/AttributeKey" "category" "Lcom/example/sallyport/sallyport/AttributeCategory;" (.ref k2)) (hp5 : Fld Z h0 a2 "com/example/sallyport/sallyport/AttributeKey" "attributeId" "Ljava/lang/String;" (.ref x2)) (hp6 : Fld Z h0 a2 "com/example/sallyport/sallyport/AttributeKey" "value" "Ljava/lang/String;" (.ref y2)) (hp7 : Str Z h0 x1 t1 (0 : Int32) cs) (hp8 : Str Z h0 y1 u1 (0 : Int32) cv) (hp9 : Str Z h0 x2 t2 (0 : Int32) ds) (hp10 : Str Z h0 y2 u2 (0 : Int32) dv) (hp11 : Sta Z Z.heap "java/lang/String" "COMPACT_STRINGS" "Z" (.int G1)) (hG1 : ¬ (G1 = (0 : Int32))) (hp13 : Old Z n0 h0) :
    MetFree l y_8 (head1 (Jvm.Cond.code y_8 prog_5_method_5_code 2 (some .boolean) :: ws) ({ frames := 2, cells := 0, slots := 0, locals := 28 } : Room)) (fun a U => a = #[(.ref a1), (.ref a2)] ∧ Z.Warmed39 U.vm ∧ U.heap = h0) (fun _ _ _ _ _ => True) (fun _ U o U' => ∃ v L, o = .returned v ∧ Q_rmEq Z a1 a2 k1 x1 y1 k2 x2 y2 t1 t2 u1 u2 cs cv ds dv G1 h0 n0 v U'.heap L ∧ FrameEnd U o U' L ({ frames := 2, cells := 0, slots := 0, locals := 28 } : Room).cells ({ frames := 2, cells := 0, slots := 0, locals := 28 } : Room).slots) := by
 refine bodyOf pn_7 (fun m => ef_rmEq m a1 a2) ?_
 intro p e s m below meth c T0 X0 hx hby hml hown hnm hret hk hZ e0
 have N0 := Fr.nil n0
 have K0 : Keep h0 h0 [] := Keep.refl _ _
 have O0 := hp13
 refine go (S' := T0.setTop (mkF m 1 #[sr a1, sr a2] [(.ref a2)])) (fun t k => XS.aloadN X0.here hx rfl (hb hby d8_0) rfl rfl k) ?_
 obtain ⟨T144, X144, e144, st144⟩ := instY X0 hx hZ hown (ww hw 53 rfl) e0 (Ins.self hp0) (g := (mkF m 1 #[sr a1, sr a2] [(.ref a2)])) rfl rfl (hb hby d8_1)
 refine go (S' := T144.setTop (mkF m 4 #[sr a1, sr a2] [(.int 1)])) st144 ?_
 have hc145 : ¬ ((1 : Int32) = (0 : Int32)) := by decide
 refine go (S' := T144.setTop (mkF m 8 #[sr a1, sr a2] [(.ref a1)])) (fun t k => XS.ifNo X144.here hx rfl (hb hby d8_4) rfl ((if0 _ _).trans (feq hc145).1) (XS.aloadN X144.here hx rfl (hb hby d8_7) rfl rfl k)) ?_
 obtain ⟨T146, X146, e146, st146⟩ := getF X144 hx hZ hown (host := "") (Or.inl (ww hw 42 rfl)) Via.refl e144 hp1 (g := (mkF m 8 #[sr a1, sr a2] [(.ref a1)])) rfl rfl (hb hby d8_8)
 refine go (S' := T146.setTop (mkF m 12 #[sr a1, sr a2] [(.ref a2), (.ref k1)])) (fun t k => st146 _ (XS.aloadN X146.here hx rfl (hb hby d8_11) rfl rfl k)) ?_
 obtain ⟨T147, X147, e147, st147⟩ := castY X146 hx hZ hown (ww hw 53 rfl) e146 (Ins.self hp0) (g := (mkF m 12 #[sr a1, sr a2] [(.ref a2), (.ref k1)])) rfl rfl (hb hby d8_12)
 refine go (S' := T147.setTop (mkF m 15 #[sr a1, sr a2] [(.ref a2), (.ref k1)])) st147 ?_
 obtain ⟨T148, X148, e148, st148⟩ := getF X147 hx hZ hown (host := "") (Or.inl (ww hw 42 rfl)) Via.refl e147 hp4 (g := (mkF m 15 #[sr a1, sr a2] [(.ref a2), (.ref k1)])) rfl rfl (hb hby d8_15)
 refine go (S' := T148.setTop (mkF m 18 #[sr a1, sr a2] [(.ref k2), (.ref k1)])) st148 ?_
 by_cases hc149 : k1 = k2
 ·
  refine go (S' := T148.setTop (mkF m 22 #[sr a1, sr a2] [(.ref a1)])) (fun t k => Jvm.RoadKit.acmp (g := (mkF m 18 #[sr a1, sr a2] [(.ref k2), (.ref k1)])) X148 hx rfl rfl rfl (pc0 := 18) (pc' := 21) (same := true) rfl (hb hby d8_18) rfl (decide_eq_true (congrArg Value.ref hc149)) (by decide) (by decide) (XS.aloadN X148.here hx rfl (hb hby d8_21) rfl rfl k)) ?_
  obtain ⟨T150, X150, e150, st150⟩ := getF X148 hx hZ hown (host := "") (Or.inl (ww hw 44 rfl)) Via.refl e148 hp2 (g := (mkF m 22 #[sr a1, sr a2] [(.ref a1)])) rfl rfl (hb hby d8_22)
  refine go (S' := T150.setTop (mkF m 26 #[sr a1, sr a2] [(.ref a2), (.ref x1)])) (fun t k => st150 _ (XS.aloadN X150.here hx rfl (hb hby d8_25) rfl rfl k)) ?_
  obtain ⟨T151, X151, e151, st151⟩ := castY X150 hx hZ hown (ww hw 53 rfl) e150 (Ins.self hp0) (g := (mkF m 26 #[sr a1, sr a2] [(.ref a2), (.ref x1)])) rfl rfl (hb hby d8_26)
  refine go (S' := T151.setTop (mkF m 29 #[sr a1, sr a2] [(.ref a2), (.ref x1)])) st151 ?_
  obtain ⟨T152, X152, e152, st152⟩ := getF X151 hx hZ hown (host := "") (Or.inl (ww hw 44 rfl)) Via.refl e151 hp5 (g := (mkF m 29 #[sr a1, sr a2] [(.ref a2), (.ref x1)])) rfl rfl (hb hby d8_29)
  refine go (S' := T152.setTop (mkF m 32 #[sr a1, sr a2] [(.ref x2), (.ref x1)])) st152 ?_
  have O153 : Old Z n0 h0 := O0.keep K0 all0
  obtain ⟨kb154, N2154, vs154, qE154, qV154, qC154, qA154, qcd154, qbd154, ql154⟩ := id hp7
  obtain ⟨kb155, N2155, vs155, qE155, qV155, qC155, qA155, qcd155, qbd155, ql155⟩ := id hp9
  obtain ⟨v156, T156, L156, X156, hQ156, st156⟩ := callV X152 hx hZ (y := y_7) (z := y_7) hown (ww hw 55 rfl) (ww hw 56 rfl) (notFace_of_selects (args := #[]) (mvT hZ (ww hw 58 rfl))) (ww hw 58 rfl) (ww hw 57 rfl) (by decide) (StrChars.Road.eqW (W := 0) hZ (own_sub StrChars_wordsEq hw) (kI := 4) (ww hw 17 rfl) qE154 qV154 qC154 qA154 qcd154 qbd154 ql154 qE155 qV155 qC155 qA155 qcd155 qbd155 ql155 (hp11.ext O153.2) hG1 (by decide) (by decide)) hp7.exa (g := (mkF m 32 #[sr a1, sr a2] [(.ref x2), (.ref x1)])) rfl (by rw [hml]; rfl) (Q := (fun v h' L => ((v = some (.int 1) ∧ cs = ds) ∨ (v = some (.int 0) ∧ ¬ cs = ds)) ∧ L = [] ∧ h' = h0)) (kc := 0) (ks := 0) (argsL := [(.ref x2)]) (rest := []) (lenOf pd_2 rfl) rfl (mr0 rfl) (hb hby d8_32) e152 (by decide) (by decide)
  obtain ⟨hv156, rfl, e156⟩ := hQ156
  have hw156 : v156 = some (.int (if cs = ds then (1 : Int32) else (0 : Int32))) := by rcases hv156 with ⟨a, b⟩ | ⟨a, b⟩; rw [a, if_pos b]; rw [a, if_neg b]
  subst hw156
  have N156 := Fr.app N0 (Fr.nil n0)
  refine go (S' := T156.setTop (mkF m 35 #[sr a1, sr a2] [(.int (if cs = ds then (1 : Int32) else (0 : Int32)))])) st156 ?_
  by_cases hc157 : (if cs = ds then (1 : Int32) else (0 : Int32)) = (0 : Int32)
  ·
   refine go (S' := T156.setTop (mkF m 60 #[sr a1, sr a2] [(.int 0)])) (fun t k => XS.ifYes X156.here hx rfl (pc0 := 35) (pc' := 59) rfl (hb hby d8_35) rfl ((if0 _ _).trans (teq hc157).1) (by decide) (by decide) (XS.iconst X156.here hx rfl (hb hby d8_59) k)) ?_
   refine finN X156 hx hk (t := .boolean) hret (by simp) (hb hby d8_60) (by decide) (by decide) ?_
   rw [e156]
   exact ⟨(by simp_all +decide [nar]), N156, rfl⟩
  ·
   refine go (S' := T156.setTop (mkF m 39 #[sr a1, sr a2] [(.ref a1)])) (fun t k => XS.ifNo X156.here hx rfl (hb hby d8_35) rfl ((if0 _ _).trans (feq hc157).1) (XS.aloadN X156.here hx rfl (hb hby d8_38) rfl rfl k)) ?_
   obtain ⟨T158, X158, e158, st158⟩ := getF X156 hx hZ hown (host := "") (Or.inl (ww hw 46 rfl)) Via.refl e156 hp3 (g := (mkF m 39 #[sr a1, sr a2] [(.ref a1)])) rfl rfl (hb hby d8_39)
   refine go (S' := T158.setTop (mkF m 43 #[sr a1, sr a2] [(.ref a2), (.ref y1)])) (fun t k => st158 _ (XS.aloadN X158.here hx rfl (hb hby d8_42) rfl rfl k)) ?_
   obtain ⟨T159, X159, e159, st159⟩ := castY X158 hx hZ hown (ww hw 53 rfl) e158 (Ins.self hp0) (g := (mkF m 43 #[sr a1, sr a2] [(.ref a2), (.ref y1)])) rfl rfl (hb hby d8_43)
   refine go (S' := T159.setTop (mkF m 46 #[sr a1, sr a2] [(.ref a2), (.ref y1)])) st159 ?_
   obtain ⟨T160, X160, e160, st160⟩ := getF X159 hx hZ hown (host := "") (Or.inl (ww hw 46 rfl)) Via.refl e159 hp6 (g := (mkF m 46 #[sr a1, sr a2] [(.ref a2), (.ref y1)])) rfl rfl (hb hby d8_46)
   refine go (S' := T160.setTop (mkF m 49 #[sr a1, sr a2] [(.ref y2), (.ref y1)])) st160 ?_
   obtain ⟨kb161, N2161, vs161, qE161, qV161, qC161, qA161, qcd161, qbd161, ql161⟩ := id hp8
   obtain ⟨kb162, N2162, vs162, qE162, qV162, qC162, qA162, qcd162, qbd162, ql162⟩ := id hp10
   obtain ⟨v163, T163, L163, X163, hQ163, st163⟩ := callV X160 hx hZ (y := y_7) (z := y_7) hown (ww hw 55 rfl) (ww hw 56 rfl) (notFace_of_selects (args := #[]) (mvT hZ (ww hw 58 rfl))) (ww hw 58 rfl) (ww hw 57 rfl) (by decide) (StrChars.Road.eqW (W := 0) hZ (own_sub StrChars_wordsEq hw) (kI := 4) (ww hw 17 rfl) qE161 qV161 qC161 qA161 qcd161 qbd161 ql161 qE162 qV162 qC162 qA162 qcd162 qbd162 ql162 (hp11.ext O153.2) hG1 (by decide) (by decide)) hp8.exa (g := (mkF m 49 #[sr a1, sr a2] [(.ref y2), (.ref y1)])) rfl (by rw [hml]; rfl) (Q := (fun v h' L => ((v = some (.int 1) ∧ cv = dv) ∨ (v = some (.int 0) ∧ ¬ cv = dv)) ∧ L = [] ∧ h' = h0)) (kc := 0) (ks := 0) (argsL := [(.ref y2)]) (rest := []) (lenOf pd_2 rfl) rfl (mr0 rfl) (hb hby d8_49) e160 (by decide) (by decide)
   obtain ⟨hv163, rfl, e163⟩ := hQ163
   have hw163 : v163 = some (.int (if cv = dv then (1 : Int32) else (0 : Int32))) := by rcases hv163 with ⟨a, b⟩ | ⟨a, b⟩; rw [a, if_pos b]; rw [a, if_neg b]
   subst hw163
   have N163 := Fr.app N156 (Fr.nil n0)
   refine go (S' := T163.setTop (mkF m 52 #[sr a1, sr a2] [(.int (if cv = dv then (1 : Int32) else (0 : Int32)))])) st163 ?_
   by_cases hc164 : (if cv = dv then (1 : Int32) else (0 : Int32)) = (0 : Int32)
   ·
    refine go (S' := T163.setTop (mkF m 60 #[sr a1, sr a2] [(.int 0)])) (fun t k => XS.ifYes X163.here hx rfl (pc0 := 52) (pc' := 59) rfl (hb hby d8_52) rfl ((if0 _ _).trans (teq hc164).1) (by decide) (by decide) (XS.iconst X163.here hx rfl (hb hby d8_59) k)) ?_
    refine finN X163 hx hk (t := .boolean) hret (by simp) (hb hby d8_60) (by decide) (by decide) ?_
    rw [e163]
    exact ⟨(by simp_all +decide [nar]), N163, rfl⟩
   ·
    refine go (S' := T163.setTop (mkF m 60 #[sr a1, sr a2] [(.int 1)])) (fun t k => XS.ifNo X163.here hx rfl (hb hby d8_52) rfl ((if0 _ _).trans (feq hc164).1) (XS.iconst X163.here hx rfl (hb hby d8_55) (XS.goto X163.here hx rfl (pc0 := 56) (pc' := 60) rfl (hb hby d8_56) (by decide) (by decide) k))) ?_
    refine finN X163 hx hk (t := .boolean) hret (by simp) (hb hby d8_60) (by decide) (by decide) ?_
    rw [e163]
    exact ⟨(by simp_all +decide [nar]), N163, rfl⟩
 ·
  refine go (S' := T148.setTop (mkF m 60 #[sr a1, sr a2] [(.int 0)])) (fun t k => Jvm.RoadKit.acmp (g := (mkF m 18 #[sr a1, sr a2] [(.ref k2), (.ref k1)])) X148 hx rfl rfl rfl (pc0 := 18) (pc' := 59) (same := false) rfl (hb hby d8_18) rfl (decide_eq_false fun q => hc149 (Value.ref.inj q)) (by decide) (by decide) (XS.iconst X148.here hx rfl (hb hby d8_59) k)) ?_
  refine finN X148 hx hk (t := .boolean) hret (by simp) (hb hby d8_60) (by decide) (by decide) ?_
  rw [e148]
  exact ⟨(by simp_all +decide [nar]), N0, rfl⟩
theorem ef_rmEn (m : MethodId) (a1 : Addr) : entryFrame m #[(.ref a1), .null] 2 = mkF m 0 #[sr a1, .val .null] [] := by first | (simp [entryFrame, mkF, argsToLocals, Value.category]; done) | rfl
def Q_rmEn (Z : State) (a1 : Addr) (h0 : Heap) (n0 : Nat) (v : Option Value) (h : Heap) (L : List Loc) : Prop := v = some (.int 0) ∧ Fr n0 L ∧ h = h0
set_option maxRecDepth 65536 in
set_option maxHeartbeats 40000000 in
theorem rmEn (l : Launch) (Z : State) (a0 : Array Value) (hw : ∀ d ∈ tables_1, d.before a0 Z = true) (ws : List Jvm.Cond) (a1 : Addr) (h0 : Heap) (n0 : Nat) (Z0 : n0 ≤ h0.size)  :
    MetFree l y_8 (head1 (Jvm.Cond.code y_8 prog_5_method_5_code 2 (some .boolean) :: ws) ({ frames := 0, cells := 0, slots := 0, locals := 0 } : Room)) (fun a U => a = #[(.ref a1), .null] ∧ Z.Warmed39 U.vm ∧ U.heap = h0) (fun _ _ _ _ _ => True) (fun _ U o U' => ∃ v L, o = .returned v ∧ Q_rmEn Z a1 h0 n0 v U'.heap L ∧ FrameEnd U o U' L ({ frames := 0, cells := 0, slots := 0, locals := 0 } : Room).cells ({ frames := 0, cells := 0, slots := 0, locals := 0 } : Room).slots) := by
 refine bodyOf pn_7 (fun m => ef_rmEn m a1) ?_
 intro p e s m below meth c T0 X0 hx hby hml hown hnm hret hk hZ e0
 have N0 := Fr.nil n0
 have K0 : Keep h0 h0 [] := Keep.refl _ _
 refine go (S' := T0.setTop (mkF m 4 #[sr a1, .val .null] [(.int 0)])) (fun t k => XS.aloadN X0.here hx rfl (hb hby d8_0) rfl rfl (X0.instanceofNull hx (g := (mkF m 1 #[sr a1, .val .null] [.null])) rfl rfl (hb hby d8_1) _ k)) ?_
 have hc165 : (0 : Int32) = (0 : Int32) := by decide
 refine go (S' := T0.setTop (mkF m 60 #[sr a1, .val .null] [(.int 0)])) (fun t k => XS.ifYes X0.here hx rfl (pc0 := 4) (pc' := 59) rfl (hb hby d8_4) rfl ((if0 _ _).trans (teq hc165).1) (by decide) (by decide) (XS.iconst X0.here hx rfl (hb hby d8_59) k)) ?_
 refine finN X0 hx hk (t := .boolean) hret (by simp) (hb hby d8_60) (by decide) (by decide) ?_
 rw [e0]
 exact ⟨rfl, N0, rfl⟩
theorem ef_rmEs (m : MethodId) (a1 : Addr) (a2 : Addr) : entryFrame m #[(.ref a1), (.ref a2)] 2 = mkF m 0 #[sr a1, sr a2] [] := by first | (simp [entryFrame, mkF, argsToLocals, Value.category]; done) | rfl
def Q_rmEs (Z : State) (a1 : Addr) (a2 : Addr) (h0 : Heap) (n0 : Nat) (v : Option Value) (h : Heap) (L : List Loc) : Prop := v = some (.int 0) ∧ Fr n0 L ∧ h = h0
set_option maxRecDepth 65536 in
set_option maxHeartbeats 40000000 in
theorem rmEs (l : Launch) (Z : State) (a0 : Array Value) (hw : ∀ d ∈ tables_1, d.before a0 Z = true) (ws : List Jvm.Cond) (a1 : Addr) (a2 : Addr) (h0 : Heap) (n0 : Nat) (Z0 : n0 ≤ h0.size) (hp0 : Exa Z h0 a2 "java/lang/String") :
    MetFree l y_8 (head1 (Jvm.Cond.code y_8 prog_5_method_5_code 2 (some .boolean) :: ws) ({ frames := 0, cells := 0, slots := 0, locals := 0 } : Room)) (fun a U => a = #[(.ref a1), (.ref a2)] ∧ Z.Warmed39 U.vm ∧ U.heap = h0) (fun _ _ _ _ _ => True) (fun _ U o U' => ∃ v L, o = .returned v ∧ Q_rmEs Z a1 a2 h0 n0 v U'.heap L ∧ FrameEnd U o U' L ({ frames := 0, cells := 0, slots := 0, locals := 0 } : Room).cells ({ frames := 0, cells := 0, slots := 0, locals := 0 } : Room).slots) := by
 refine bodyOf pn_7 (fun m => ef_rmEs m a1 a2) ?_
 intro p e s m below meth c T0 X0 hx hby hml hown hnm hret hk hZ e0
 have N0 := Fr.nil n0
 have K0 : Keep h0 h0 [] := Keep.refl _ _
 refine go (S' := T0.setTop (mkF m 1 #[sr a1, sr a2] [(.ref a2)])) (fun t k => XS.aloadN X0.here hx rfl (hb hby d8_0) rfl rfl k) ?_
 obtain ⟨T166, X166, e166, st166⟩ := instNo X0 hx hZ hown (ww hw 53 rfl) e0 hp0 (nsNo (ww hw 60 rfl) (ww hw 5 rfl) (NS.step (ww hw 60 rfl) (nsRoot (ww hw 61 rfl) (ww hw 5 rfl) (by decide)) (by decide)) (by decide)) (g := (mkF m 1 #[sr a1, sr a2] [(.ref a2)])) rfl rfl (hb hby d8_1)
 refine go (S' := T166.setTop (mkF m 4 #[sr a1, sr a2] [(.int 0)])) st166 ?_
 have hc167 : (0 : Int32) = (0 : Int32) := by decide
 refine go (S' := T166.setTop (mkF m 60 #[sr a1, sr a2] [(.int 0)])) (fun t k => XS.ifYes X166.here hx rfl (pc0 := 4) (pc' := 59) rfl (hb hby d8_4) rfl ((if0 _ _).trans (teq hc167).1) (by decide) (by decide) (XS.iconst X166.here hx rfl (hb hby d8_59) k)) ?_
 refine finN X166 hx hk (t := .boolean) hret (by simp) (hb hby d8_60) (by decide) (by decide) ?_
 rw [e166]
 exact ⟨rfl, N0, rfl⟩
theorem pd_3 : parseMethodDescriptor "(I)I" = some ⟨[.int], some .int⟩ := by decide +kernel
theorem pd_4 : parseMethodDescriptor "(I)Lcom/example/sallyport/sallyport/AttributeCategory;" = some ⟨[.int], some (.object "com/example/sallyport/sallyport/AttributeCategory")⟩ := by decide +kernel
theorem pd_5 : parseMethodDescriptor "(II)Ljava/lang/String;" = some ⟨[.int, .int], some (.object "java/lang/String")⟩ := by decide +kernel
theorem pd_6 : parseMethodDescriptor "(Lcom/example/sallyport/sallyport/AttributeCategory;Ljava/lang/String;Ljava/lang/String;)V" = some ⟨[(.object "com/example/sallyport/sallyport/AttributeCategory"), (.object "java/lang/String"), (.object "java/lang/String")], none⟩ := by decide +kernel
theorem pd_7 : parseMethodDescriptor "(IIII)Z" = some ⟨[.int, .int, .int, .int], some .boolean⟩ := by decide +kernel
abbrev y_9 : MethodName := ⟨"com/example/sallyport/sallyport/AttributeKeyEqualsPinLaw", "law", "(IIIIII)Z"⟩
theorem pn_8 : plainFor y_9 = true := by first | exact plainFor_of_name (by first | (simp [plainName, overriddenIn]; done) | decide +kernel) | decide +kernel
theorem ef_rmLaw (m : MethodId) (p1 : Int32) (p2 : Int32) (p3 : Int32) (p4 : Int32) (p5 : Int32) (p6 : Int32) : entryFrame m #[(.int p1), (.int p2), (.int p3), (.int p4), (.int p5), (.int p6)] maxLocals = mkF m 0 #[si p1, si p2, si p3, si p4, si p5, si p6, .unset, .unset, .unset, .unset, .unset, .unset, .unset, .unset, .unset, .unset, .unset, .unset, .unset, .unset, .unset] [] := by first | (simp [entryFrame, mkF, argsToLocals, Value.category, maxLocals]; done) | rfl
def Q_rmLaw (Z : State) (p1 : Int32) (p2 : Int32) (p3 : Int32) (p4 : Int32) (p5 : Int32) (p6 : Int32) (G1 : Int32) (c1 : Addr) (c2 : Addr) (c3 : Addr) (c4 : Addr) (h0 : Heap) (n0 : Nat) (v : Option Value) (h : Heap) (L : List Loc) : Prop := v = some (.int 1) ∧ Fr n0 L ∧ Keep h0 h []
set_option maxRecDepth 65536 in
set_option maxHeartbeats 40000000 in
theorem rmLaw (l : Launch) (Z : State) (a0 : Array Value) (hw : ∀ d ∈ tables_1, d.before a0 Z = true) (ws : List Jvm.Cond) (p1 : Int32) (p2 : Int32) (p3 : Int32) (p4 : Int32) (p5 : Int32) (p6 : Int32) (G1 : Int32) (c1 : Addr) (c2 : Addr) (c3 : Addr) (c4 : Addr) (h0 : Heap) (n0 : Nat) (Z0 : n0 ≤ h0.size) (hp0 : Sta Z Z.heap "java/lang/String" "COMPACT_STRINGS" "Z" (.int G1)) (hG1 : ¬ (G1 = (0 : Int32))) (hp2 : Sta Z Z.heap "com/example/sallyport/sallyport/AttributeCategory" "SUBJECT" "Lcom/example/sallyport/sallyport/AttributeCategory;" (.ref c1)) (hp3 : Sta Z Z.heap "com/example/sallyport/sallyport/AttributeCategory" "RESOURCE" "Lcom/example/sallyport/sallyport/AttributeCategory;" (.ref c2)) (hp4 : Sta Z Z.heap "com/example/sallyport/sallyport/AttributeCategory" "ACTION" "Lcom/example/sallyport/sallyport/AttributeCategory;" (.ref c3)) (hp5 : Sta Z Z.heap "com/example/sallyport/sallyport/AttributeCategory" "ENVIRONMENT" "Lcom/example/sallyport/sallyport/AttributeCategory;" (.ref c4)) (hne0 : c1 ≠ c2) (hne1 : c1 ≠ c3) (hne2 : c1 ≠ c4) (hne3 : c2 ≠ c3) (hne4 : c2 ≠ c4) (hne5 : c3 ≠ c4) (hp12 : Old Z n0 h0) :
    MetFree l x (head1 (Jvm.Cond.code x code maxLocals ret :: ws) room_1) (fun a U => a = #[(.int p1), (.int p2), (.int p3), (.int p4), (.int p5), (.int p6)] ∧ Z.Warmed39 U.vm ∧ U.heap = h0 ∧ CHv Z consts_1 U.vm h0 ∧ ∀ x ∈ ([] : List Addr), Safe Z consts_1 U.vm h0 x) (fun _ _ _ _ _ => True) (fun _ U o U' => ∃ v L, o = .returned v ∧ Q_rmLaw Z p1 p2 p3 p4 p5 p6 G1 c1 c2 c3 c4 h0 n0 v U'.heap L ∧ CHr Z consts_1 U.vm U.heap U'.vm U'.heap ∧ ReturnedEndW U o U' L room_1.cells room_1.slots) := by
 refine bodyOfW pn_8 (fun m => ef_rmLaw m p1 p2 p3 p4 p5 p6) ?_
 intro p e s m below meth c T0 X0 hx hby hml hown hnm hret hk hZ e0 hS C0 hsf
 have hkS := Nat.le_refl h0.size
 have N0 := Fr.nil n0
 have K0 : Keep h0 h0 [] := Keep.refl _ _
 have O0 := hp12
 refine go (S' := T0.setTop (mkF m 5 #[si p1, si p2, si p3, si p4, si p5, si p6, si (p1 &&& (3 : Int32)), .unset, .unset, .unset, .unset, .unset, .unset, .unset, .unset, .unset, .unset, .unset, .unset, .unset, .unset] [])) (fun t k => XS.iloadN X0.here hx rfl (hb hby at_0) rfl (XS.iconst X0.here hx rfl (hb hby at_1) (XS.iand X0.here hx rfl (hb hby at_2) rfl (XS.istore X0.here hx rfl (hb hby at_3) rfl (l' := #[si p1, si p2, si p3, si p4, si p5, si p6, si (p1 &&& (3 : Int32)), .unset, .unset, .unset, .unset, .unset, .unset, .unset, .unset, .unset, .unset, .unset, .unset, .unset, .unset]) rfl k)))) ?_
 obtain ⟨ka, hka⟩ : ∃ z : Int32, z = (p1 &&& (3 : Int32)) := ⟨_, rfl⟩
 rw [← hka]
 have h4ka : ka = 0 ∨ ka = 1 ∨ ka = 2 ∨ ka = 3 := by rw [hka]; first | exact own_four _ | (split <;> first | exact own_four _ | assumption)
 refine go (S' := T0.setTop (mkF m 11 #[si p1, si p2, si p3, si p4, si p5, si p6, si ka, .unset, .unset, .unset, .unset, .unset, .unset, .unset, .unset, .unset, .unset, .unset, .unset, .unset, .unset] [(.int (((p1.toUInt32 >>> ((14 : Int32) &&& 31).toUInt32).toInt32) &&& (1 : Int32)))])) (fun t k => XS.iloadN X0.here hx rfl (hb hby at_5) rfl (XS.bipush X0.here hx rfl (hb hby at_6) (XS.iushr X0.here hx rfl (hb hby at_8) rfl (XS.iconst X0.here hx rfl (hb hby at_9) (XS.iand X0.here hx rfl (hb hby at_10) rfl k))))) ?_
 obtain ⟨T168, ⟨ls168, X168, N168, e168⟩, st168⟩ : Reach p.tables e below (mkF m 19 #[si p1, si p2, si p3, si p4, si p5, si p6, si ka, .unset, .unset, .unset, .unset, .unset, .unset, .unset, .unset, .unset, .unset, .unset, .unset, .unset, .unset] [(.int (if (((p1.toUInt32 >>> ((14 : Int32) &&& 31).toUInt32).toInt32) &&& (1 : Int32)) = (0 : Int32) then (0 : Int32) else (1 : Int32)))]) (Same X0 n0 h0) (T0.setTop (mkF m 11 #[si p1, si p2, si p3, si p4, si p5, si p6, si ka, .unset, .unset, .unset, .unset, .unset, .unset, .unset, .unset, .unset, .unset, .unset, .unset, .unset, .unset] [(.int (((p1.toUInt32 >>> ((14 : Int32) &&& 31).toUInt32).toInt32) &&& (1 : Int32)))])) := by
  by_cases hc169 : (((p1.toUInt32 >>> ((14 : Int32) &&& 31).toUInt32).toInt32) &&& (1 : Int32)) = (0 : Int32)
  ·
   simp only [if_pos hc169]
   refine goR (S' := T0.setTop (mkF m 19 #[si p1, si p2, si p3, si p4, si p5, si p6, si ka, .unset, .unset, .unset, .unset, .unset, .unset, .unset, .unset, .unset, .unset, .unset, .unset, .unset, .unset] [(.int 0)])) (fun t k => XS.ifYes X0.here hx rfl (pc0 := 11) (pc' := 18) rfl (hb hby at_11) rfl ((if0 _ _).trans (teq hc169).1) (by decide) (by decide) (XS.iconst X0.here hx rfl (hb hby at_18) k)) ?_
   exact ⟨T0, ⟨_, X0, N0, e0⟩, fun t k => k⟩
  ·
   simp only [if_neg hc169]
   refine goR (S' := T0.setTop (mkF m 19 #[si p1, si p2, si p3, si p4, si p5, si p6, si ka, .unset, .unset, .unset, .unset, .unset, .unset, .unset, .unset, .unset, .unset, .unset, .unset, .unset, .unset] [(.int 1)])) (fun t k => XS.ifNo X0.here hx rfl (hb hby at_11) rfl ((if0 _ _).trans (feq hc169).1) (XS.iconst X0.here hx rfl (hb hby at_14) (XS.goto X0.here hx rfl (pc0 := 15) (pc' := 19) rfl (hb hby at_15) (by decide) (by decide) k))) ?_
   exact ⟨T0, ⟨_, X0, N0, e0⟩, fun t k => k⟩
 refine go (S' := T168.setTop (mkF m 21 #[si p1, si p2, si p3, si p4, si p5, si p6, si ka, si (if (((p1.toUInt32 >>> ((14 : Int32) &&& 31).toUInt32).toInt32) &&& (1 : Int32)) = (0 : Int32) then (0 : Int32) else (1 : Int32)), .unset, .unset, .unset, .unset, .unset, .unset, .unset, .unset, .unset, .unset, .unset, .unset, .unset] [])) (fun t k => st168 _ (XS.istore X168.here hx rfl (hb hby at_19) rfl (l' := #[si p1, si p2, si p3, si p4, si p5, si p6, si ka, si (if (((p1.toUInt32 >>> ((14 : Int32) &&& 31).toUInt32).toInt32) &&& (1 : Int32)) = (0 : Int32) then (0 : Int32) else (1 : Int32)), .unset, .unset, .unset, .unset, .unset, .unset, .unset, .unset, .unset, .unset, .unset, .unset, .unset]) rfl k)) ?_
 obtain ⟨q7, hq7⟩ : ∃ z : Int32, z = (if (((p1.toUInt32 >>> ((14 : Int32) &&& 31).toUInt32).toInt32) &&& (1 : Int32)) = (0 : Int32) then (0 : Int32) else (1 : Int32)) := ⟨_, rfl⟩
 rw [← hq7]
 refine go (S' := T168.setTop (mkF m 23 #[si p1, si p2, si p3, si p4, si p5, si p6, si ka, si q7, .unset, .unset, .unset, .unset, .unset, .unset, .unset, .unset, .unset, .unset, .unset, .unset, .unset] [(.int q7)])) (fun t k => XS.iload X168.here hx rfl (hb hby at_21) rfl k) ?_
 obtain ⟨T170, ⟨ls170, X170, N170, e170⟩, st170⟩ : Reach p.tables e below (mkF m 36 #[si p1, si p2, si p3, si p4, si p5, si p6, si ka, si q7, .unset, .unset, .unset, .unset, .unset, .unset, .unset, .unset, .unset, .unset, .unset, .unset, .unset] [(.int (if q7 = (0 : Int32) then (((p1.toUInt32 >>> ((2 : Int32) &&& 31).toUInt32).toInt32) &&& (3 : Int32)) else ka))]) (Same X168 n0 h0) (T168.setTop (mkF m 23 #[si p1, si p2, si p3, si p4, si p5, si p6, si ka, si q7, .unset, .unset, .unset, .unset, .unset, .unset, .unset, .unset, .unset, .unset, .unset, .unset, .unset] [(.int q7)])) := by
  by_cases hc171 : q7 = (0 : Int32)
  ·
   simp only [if_pos hc171]
   refine goR (S' := T168.setTop (mkF m 36 #[si p1, si p2, si p3, si p4, si p5, si p6, si ka, si q7, .unset, .unset, .unset, .unset, .unset, .unset, .unset, .unset, .unset, .unset, .unset, .unset, .unset] [(.int (((p1.toUInt32 >>> ((2 : Int32) &&& 31).toUInt32).toInt32) &&& (3 : Int32)))])) (fun t k => XS.ifYes X168.here hx rfl (pc0 := 23) (pc' := 31) rfl (hb hby at_23) rfl ((if0 _ _).trans (teq hc171).1) (by decide) (by decide) (XS.iloadN X168.here hx rfl (hb hby at_31) rfl (XS.iconst X168.here hx rfl (hb hby at_32) (XS.iushr X168.here hx rfl (hb hby at_33) rfl (XS.iconst X168.here hx rfl (hb hby at_34) (XS.iand X168.here hx rfl (hb hby at_35) rfl k)))))) ?_
   exact ⟨T168, ⟨_, X168, N168, e168⟩, fun t k => k⟩
  ·
   simp only [if_neg hc171]
   refine goR (S' := T168.setTop (mkF m 36 #[si p1, si p2, si p3, si p4, si p5, si p6, si ka, si q7, .unset, .unset, .unset, .unset, .unset, .unset, .unset, .unset, .unset, .unset, .unset, .unset, .unset] [(.int ka)])) (fun t k => XS.ifNo X168.here hx rfl (hb hby at_23) rfl ((if0 _ _).trans (feq hc171).1) (XS.iload X168.here hx rfl (hb hby at_26) rfl (XS.goto X168.here hx rfl (pc0 := 28) (pc' := 36) rfl (hb hby at_28) (by decide) (by decide) k))) ?_
   exact ⟨T168, ⟨_, X168, N168, e168⟩, fun t k => k⟩
 refine go (S' := T170.setTop (mkF m 38 #[si p1, si p2, si p3, si p4, si p5, si p6, si ka, si q7, si (if q7 = (0 : Int32) then (((p1.toUInt32 >>> ((2 : Int32) &&& 31).toUInt32).toInt32) &&& (3 : Int32)) else ka), .unset, .unset, .unset, .unset, .unset, .unset, .unset, .unset, .unset, .unset, .unset, .unset] [])) (fun t k => st170 _ (XS.istore X170.here hx rfl (hb hby at_36) rfl (l' := #[si p1, si p2, si p3, si p4, si p5, si p6, si ka, si q7, si (if q7 = (0 : Int32) then (((p1.toUInt32 >>> ((2 : Int32) &&& 31).toUInt32).toInt32) &&& (3 : Int32)) else ka), .unset, .unset, .unset, .unset, .unset, .unset, .unset, .unset, .unset, .unset, .unset, .unset]) rfl k)) ?_
 obtain ⟨kb, hkb⟩ : ∃ z : Int32, z = (if q7 = (0 : Int32) then (((p1.toUInt32 >>> ((2 : Int32) &&& 31).toUInt32).toInt32) &&& (3 : Int32)) else ka) := ⟨_, rfl⟩
 rw [← hkb]
 have h4kb : kb = 0 ∨ kb = 1 ∨ kb = 2 ∨ kb = 3 := by rw [hkb]; first | exact own_four _ | (split <;> first | exact own_four _ | assumption)
 refine go (S' := T170.setTop (mkF m 41 #[si p1, si p2, si p3, si p4, si p5, si p6, si ka, si q7, si kb, .unset, .unset, .unset, .unset, .unset, .unset, .unset, .unset, .unset, .unset, .unset, .unset] [(.int ((p1.toUInt32 >>> ((4 : Int32) &&& 31).toUInt32).toInt32))])) (fun t k => XS.iloadN X170.here hx rfl (hb hby at_38) rfl (XS.iconst X170.here hx rfl (hb hby at_39) (XS.iushr X170.here hx rfl (hb hby at_40) rfl k))) ?_
 obtain ⟨v172, T172, L172, X172, hQ172, st172⟩ := callSt X170 hx hZ (y := y_2) hown (ww hw 0 rfl) (ww hw 1 rfl) (ww hw 2 rfl) (ww hw 3 rfl) (by decide) (backOf (W := 0) (rmLn l Z a0 hw [] ((p1.toUInt32 >>> ((4 : Int32) &&& 31).toUInt32).toInt32) h0 n0 (Nat.le_trans Z0 K0.1) ) hZ (ww hw 3 rfl) (ww hw 2 rfl) (by decide) (by decide)) (g := (mkF m 41 #[si p1, si p2, si p3, si p4, si p5, si p6, si ka, si q7, si kb, .unset, .unset, .unset, .unset, .unset, .unset, .unset, .unset, .unset, .unset, .unset, .unset] [(.int ((p1.toUInt32 >>> ((4 : Int32) &&& 31).toUInt32).toInt32))])) rfl (by rw [hml]; rfl) (kc := 0) (ks := 0) (argsL := [(.int ((p1.toUInt32 >>> ((4 : Int32) &&& 31).toUInt32).toInt32))]) (rest := []) (lenOf pd_3 rfl) rfl (mr0 rfl) (hb hby at_41) e170 (by decide) (by decide)
 obtain ⟨rfl, N172q, e172⟩ := hQ172
 have N172 := Fr.app N170 N172q
 refine go (S' := T172.setTop (mkF m 46 #[si p1, si p2, si p3, si p4, si p5, si p6, si ka, si q7, si kb, si ((((p1.toUInt32 >>> ((4 : Int32) &&& 31).toUInt32).toInt32) &&& (3 : Int32)) % (3 : Int32)), .unset, .unset, .unset, .unset, .unset, .unset, .unset, .unset, .unset, .unset, .unset] [])) (fun t k => st172 _ (XS.istore X172.here hx rfl (hb hby at_44) rfl (l' := #[si p1, si p2, si p3, si p4, si p5, si p6, si ka, si q7, si kb, si ((((p1.toUInt32 >>> ((4 : Int32) &&& 31).toUInt32).toInt32) &&& (3 : Int32)) % (3 : Int32)), .unset, .unset, .unset, .unset, .unset, .unset, .unset, .unset, .unset, .unset, .unset]) rfl k)) ?_
 obtain ⟨na, hna⟩ : ∃ z : Int32, z = ((((p1.toUInt32 >>> ((4 : Int32) &&& 31).toUInt32).toInt32) &&& (3 : Int32)) % (3 : Int32)) := ⟨_, rfl⟩
 rw [← hna]
 have h3na : na = 0 ∨ na = 1 ∨ na = 2 := by rw [hna]; first | exact own_three _ | (split <;> first | exact own_three _ | assumption)
 refine go (S' := T172.setTop (mkF m 50 #[si p1, si p2, si p3, si p4, si p5, si p6, si ka, si q7, si kb, si na, .unset, .unset, .unset, .unset, .unset, .unset, .unset, .unset, .unset, .unset, .unset] [(.int ((p1.toUInt32 >>> ((6 : Int32) &&& 31).toUInt32).toInt32))])) (fun t k => XS.iloadN X172.here hx rfl (hb hby at_46) rfl (XS.bipush X172.here hx rfl (hb hby at_47) (XS.iushr X172.here hx rfl (hb hby at_49) rfl k))) ?_
 obtain ⟨v173, T173, L173, X173, hQ173, st173⟩ := callSt X172 hx hZ (y := y_2) hown (ww hw 0 rfl) (ww hw 1 rfl) (ww hw 2 rfl) (ww hw 3 rfl) (by decide) (backOf (W := 0) (rmLn l Z a0 hw [] ((p1.toUInt32 >>> ((6 : Int32) &&& 31).toUInt32).toInt32) h0 n0 (Nat.le_trans Z0 K0.1) ) hZ (ww hw 3 rfl) (ww hw 2 rfl) (by decide) (by decide)) (g := (mkF m 50 #[si p1, si p2, si p3, si p4, si p5, si p6, si ka, si q7, si kb, si na, .unset, .unset, .unset, .unset, .unset, .unset, .unset, .unset, .unset, .unset, .unset] [(.int ((p1.toUInt32 >>> ((6 : Int32) &&& 31).toUInt32).toInt32))])) rfl (by rw [hml]; rfl) (kc := 0) (ks := 0) (argsL := [(.int ((p1.toUInt32 >>> ((6 : Int32) &&& 31).toUInt32).toInt32))]) (rest := []) (lenOf pd_3 rfl) rfl (mr0 rfl) (hb hby at_50) e172 (by decide) (by decide)
 obtain ⟨rfl, N173q, e173⟩ := hQ173
 have N173 := Fr.app N172 N173q
 refine go (S' := T173.setTop (mkF m 55 #[si p1, si p2, si p3, si p4, si p5, si p6, si ka, si q7, si kb, si na, si ((((p1.toUInt32 >>> ((6 : Int32) &&& 31).toUInt32).toInt32) &&& (3 : Int32)) % (3 : Int32)), .unset, .unset, .unset, .unset, .unset, .unset, .unset, .unset, .unset, .unset] [])) (fun t k => st173 _ (XS.istore X173.here hx rfl (hb hby at_53) rfl (l' := #[si p1, si p2, si p3, si p4, si p5, si p6, si ka, si q7, si kb, si na, si ((((p1.toUInt32 >>> ((6 : Int32) &&& 31).toUInt32).toInt32) &&& (3 : Int32)) % (3 : Int32)), .unset, .unset, .unset, .unset, .unset, .unset, .unset, .unset, .unset, .unset]) rfl k)) ?_
 obtain ⟨va, hva⟩ : ∃ z : Int32, z = ((((p1.toUInt32 >>> ((6 : Int32) &&& 31).toUInt32).toInt32) &&& (3 : Int32)) % (3 : Int32)) := ⟨_, rfl⟩
 rw [← hva]
 have h3va : va = 0 ∨ va = 1 ∨ va = 2 := by rw [hva]; first | exact own_three _ | (split <;> first | exact own_three _ | assumption)
 refine go (S' := T173.setTop (mkF m 61 #[si p1, si p2, si p3, si p4, si p5, si p6, si ka, si q7, si kb, si na, si va, .unset, .unset, .unset, .unset, .unset, .unset, .unset, .unset, .unset, .unset] [(.int (((p1.toUInt32 >>> ((8 : Int32) &&& 31).toUInt32).toInt32) &&& (1 : Int32)))])) (fun t k => XS.iloadN X173.here hx rfl (hb hby at_55) rfl (XS.bipush X173.here hx rfl (hb hby at_56) (XS.iushr X173.here hx rfl (hb hby at_58) rfl (XS.iconst X173.here hx rfl (hb hby at_59) (XS.iand X173.here hx rfl (hb hby at_60) rfl k))))) ?_
 obtain ⟨T174, ⟨ls174, X174, N174, e174⟩, st174⟩ : Reach p.tables e below (mkF m 69 #[si p1, si p2, si p3, si p4, si p5, si p6, si ka, si q7, si kb, si na, si va, .unset, .unset, .unset, .unset, .unset, .unset, .unset, .unset, .unset, .unset] [(.int (if (((p1.toUInt32 >>> ((8 : Int32) &&& 31).toUInt32).toInt32) &&& (1 : Int32)) = (0 : Int32) then (0 : Int32) else (1 : Int32)))]) (Same X173 n0 h0) (T173.setTop (mkF m 61 #[si p1, si p2, si p3, si p4, si p5, si p6, si ka, si q7, si kb, si na, si va, .unset, .unset, .unset, .unset, .unset, .unset, .unset, .unset, .unset, .unset] [(.int (((p1.toUInt32 >>> ((8 : Int32) &&& 31).toUInt32).toInt32) &&& (1 : Int32)))])) := by
  by_cases hc175 : (((p1.toUInt32 >>> ((8 : Int32) &&& 31).toUInt32).toInt32) &&& (1 : Int32)) = (0 : Int32)
  ·
   simp only [if_pos hc175]
   refine goR (S' := T173.setTop (mkF m 69 #[si p1, si p2, si p3, si p4, si p5, si p6, si ka, si q7, si kb, si na, si va, .unset, .unset, .unset, .unset, .unset, .unset, .unset, .unset, .unset, .unset] [(.int 0)])) (fun t k => XS.ifYes X173.here hx rfl (pc0 := 61) (pc' := 68) rfl (hb hby at_61) rfl ((if0 _ _).trans (teq hc175).1) (by decide) (by decide) (XS.iconst X173.here hx rfl (hb hby at_68) k)) ?_
   exact ⟨T173, ⟨_, X173, N173, e173⟩, fun t k => k⟩
  ·
   simp only [if_neg hc175]
   refine goR (S' := T173.setTop (mkF m 69 #[si p1, si p2, si p3, si p4, si p5, si p6, si ka, si q7, si kb, si na, si va, .unset, .unset, .unset, .unset, .unset, .unset, .unset, .unset, .unset, .unset] [(.int 1)])) (fun t k => XS.ifNo X173.here hx rfl (hb hby at_61) rfl ((if0 _ _).trans (feq hc175).1) (XS.iconst X173.here hx rfl (hb hby at_64) (XS.goto X173.here hx rfl (pc0 := 65) (pc' := 69) rfl (hb hby at_65) (by decide) (by decide) k))) ?_
   exact ⟨T173, ⟨_, X173, N173, e173⟩, fun t k => k⟩
 refine go (S' := T174.setTop (mkF m 71 #[si p1, si p2, si p3, si p4, si p5, si p6, si ka, si q7, si kb, si na, si va, si (if (((p1.toUInt32 >>> ((8 : Int32) &&& 31).toUInt32).toInt32) &&& (1 : Int32)) = (0 : Int32) then (0 : Int32) else (1 : Int32)), .unset, .unset, .unset, .unset, .unset, .unset, .unset, .unset, .unset] [])) (fun t k => st174 _ (XS.istore X174.here hx rfl (hb hby at_69) rfl (l' := #[si p1, si p2, si p3, si p4, si p5, si p6, si ka, si q7, si kb, si na, si va, si (if (((p1.toUInt32 >>> ((8 : Int32) &&& 31).toUInt32).toInt32) &&& (1 : Int32)) = (0 : Int32) then (0 : Int32) else (1 : Int32)), .unset, .unset, .unset, .unset, .unset, .unset, .unset, .unset, .unset]) rfl k)) ?_
 obtain ⟨q11, hq11⟩ : ∃ z : Int32, z = (if (((p1.toUInt32 >>> ((8 : Int32) &&& 31).toUInt32).toInt32) &&& (1 : Int32)) = (0 : Int32) then (0 : Int32) else (1 : Int32)) := ⟨_, rfl⟩
 rw [← hq11]
 refine go (S' := T174.setTop (mkF m 77 #[si p1, si p2, si p3, si p4, si p5, si p6, si ka, si q7, si kb, si na, si va, si q11, .unset, .unset, .unset, .unset, .unset, .unset, .unset, .unset, .unset] [(.int (((p1.toUInt32 >>> ((9 : Int32) &&& 31).toUInt32).toInt32) &&& (1 : Int32)))])) (fun t k => XS.iloadN X174.here hx rfl (hb hby at_71) rfl (XS.bipush X174.here hx rfl (hb hby at_72) (XS.iushr X174.here hx rfl (hb hby at_74) rfl (XS.iconst X174.here hx rfl (hb hby at_75) (XS.iand X174.here hx rfl (hb hby at_76) rfl k))))) ?_
 obtain ⟨T176, ⟨ls176, X176, N176, e176⟩, st176⟩ : Reach p.tables e below (mkF m 85 #[si p1, si p2, si p3, si p4, si p5, si p6, si ka, si q7, si kb, si na, si va, si q11, .unset, .unset, .unset, .unset, .unset, .unset, .unset, .unset, .unset] [(.int (if (((p1.toUInt32 >>> ((9 : Int32) &&& 31).toUInt32).toInt32) &&& (1 : Int32)) = (0 : Int32) then (0 : Int32) else (1 : Int32)))]) (Same X174 n0 h0) (T174.setTop (mkF m 77 #[si p1, si p2, si p3, si p4, si p5, si p6, si ka, si q7, si kb, si na, si va, si q11, .unset, .unset, .unset, .unset, .unset, .unset, .unset, .unset, .unset] [(.int (((p1.toUInt32 >>> ((9 : Int32) &&& 31).toUInt32).toInt32) &&& (1 : Int32)))])) := by
  by_cases hc177 : (((p1.toUInt32 >>> ((9 : Int32) &&& 31).toUInt32).toInt32) &&& (1 : Int32)) = (0 : Int32)
  ·
   simp only [if_pos hc177]
   refine goR (S' := T174.setTop (mkF m 85 #[si p1, si p2, si p3, si p4, si p5, si p6, si ka, si q7, si kb, si na, si va, si q11, .unset, .unset, .unset, .unset, .unset, .unset, .unset, .unset, .unset] [(.int 0)])) (fun t k => XS.ifYes X174.here hx rfl (pc0 := 77) (pc' := 84) rfl (hb hby at_77) rfl ((if0 _ _).trans (teq hc177).1) (by decide) (by decide) (XS.iconst X174.here hx rfl (hb hby at_84) k)) ?_
   exact ⟨T174, ⟨_, X174, N174, e174⟩, fun t k => k⟩
  ·
   simp only [if_neg hc177]
   refine goR (S' := T174.setTop (mkF m 85 #[si p1, si p2, si p3, si p4, si p5, si p6, si ka, si q7, si kb, si na, si va, si q11, .unset, .unset, .unset, .unset, .unset, .unset, .unset, .unset, .unset] [(.int 1)])) (fun t k => XS.ifNo X174.here hx rfl (hb hby at_77) rfl ((if0 _ _).trans (feq hc177).1) (XS.iconst X174.here hx rfl (hb hby at_80) (XS.goto X174.here hx rfl (pc0 := 81) (pc' := 85) rfl (hb hby at_81) (by decide) (by decide) k))) ?_
   exact ⟨T174, ⟨_, X174, N174, e174⟩, fun t k => k⟩
 refine go (S' := T176.setTop (mkF m 87 #[si p1, si p2, si p3, si p4, si p5, si p6, si ka, si q7, si kb, si na, si va, si q11, si (if (((p1.toUInt32 >>> ((9 : Int32) &&& 31).toUInt32).toInt32) &&& (1 : Int32)) = (0 : Int32) then (0 : Int32) else (1 : Int32)), .unset, .unset, .unset, .unset, .unset, .unset, .unset, .unset] [])) (fun t k => st176 _ (XS.istore X176.here hx rfl (hb hby at_85) rfl (l' := #[si p1, si p2, si p3, si p4, si p5, si p6, si ka, si q7, si kb, si na, si va, si q11, si (if (((p1.toUInt32 >>> ((9 : Int32) &&& 31).toUInt32).toInt32) &&& (1 : Int32)) = (0 : Int32) then (0 : Int32) else (1 : Int32)), .unset, .unset, .unset, .unset, .unset, .unset, .unset, .unset]) rfl k)) ?_
 obtain ⟨q12, hq12⟩ : ∃ z : Int32, z = (if (((p1.toUInt32 >>> ((9 : Int32) &&& 31).toUInt32).toInt32) &&& (1 : Int32)) = (0 : Int32) then (0 : Int32) else (1 : Int32)) := ⟨_, rfl⟩
 rw [← hq12]
 refine go (S' := T176.setTop (mkF m 89 #[si p1, si p2, si p3, si p4, si p5, si p6, si ka, si q7, si kb, si na, si va, si q11, si q12, .unset, .unset, .unset, .unset, .unset, .unset, .unset, .unset] [(.int q11)])) (fun t k => XS.iload X176.here hx rfl (hb hby at_87) rfl k) ?_
 obtain ⟨T178, ⟨ls178, X178, N178, e178⟩, st178⟩ : Reach p.tables e below (mkF m 104 #[si p1, si p2, si p3, si p4, si p5, si p6, si ka, si q7, si kb, si na, si va, si q11, si q12, .unset, .unset, .unset, .unset, .unset, .unset, .unset, .unset] [(.int (if q11 = (0 : Int32) then ((((p1.toUInt32 >>> ((10 : Int32) &&& 31).toUInt32).toInt32) &&& (3 : Int32)) % (3 : Int32)) else na))]) (Same X176 n0 h0) (T176.setTop (mkF m 89 #[si p1, si p2, si p3, si p4, si p5, si p6, si ka, si q7, si kb, si na, si va, si q11, si q12, .unset, .unset, .unset, .unset, .unset, .unset, .unset, .unset] [(.int q11)])) := by
  by_cases hc179 : q11 = (0 : Int32)
  ·
   simp only [if_pos hc179]
   refine goR (S' := T176.setTop (mkF m 101 #[si p1, si p2, si p3, si p4, si p5, si p6, si ka, si q7, si kb, si na, si va, si q11, si q12, .unset, .unset, .unset, .unset, .unset, .unset, .unset, .unset] [(.int ((p1.toUInt32 >>> ((10 : Int32) &&& 31).toUInt32).toInt32))])) (fun t k => XS.ifYes X176.here hx rfl (pc0 := 89) (pc' := 97) rfl (hb hby at_89) rfl ((if0 _ _).trans (teq hc179).1) (by decide) (by decide) (XS.iloadN X176.here hx rfl (hb hby at_97) rfl (XS.bipush X176.here hx rfl (hb hby at_98) (XS.iushr X176.here hx rfl (hb hby at_100) rfl k)))) ?_
   obtain ⟨v180, T180, L180, X180, hQ180, st180⟩ := callSt X176 hx hZ (y := y_2) hown (ww hw 0 rfl) (ww hw 1 rfl) (ww hw 2 rfl) (ww hw 3 rfl) (by decide) (backOf (W := 0) (rmLn l Z a0 hw [] ((p1.toUInt32 >>> ((10 : Int32) &&& 31).toUInt32).toInt32) h0 n0 (Nat.le_trans Z0 K0.1) ) hZ (ww hw 3 rfl) (ww hw 2 rfl) (by decide) (by decide)) (g := (mkF m 101 #[si p1, si p2, si p3, si p4, si p5, si p6, si ka, si q7, si kb, si na, si va, si q11, si q12, .unset, .unset, .unset, .unset, .unset, .unset, .unset, .unset] [(.int ((p1.toUInt32 >>> ((10 : Int32) &&& 31).toUInt32).toInt32))])) rfl (by rw [hml]; rfl) (kc := 0) (ks := 0) (argsL := [(.int ((p1.toUInt32 >>> ((10 : Int32) &&& 31).toUInt32).toInt32))]) (rest := []) (lenOf pd_3 rfl) rfl (mr0 rfl) (hb hby at_101) e176 (by decide) (by decide)
   obtain ⟨rfl, N180q, e180⟩ := hQ180
   have N180 := Fr.app N176 N180q
   refine goR (S' := T180.setTop (mkF m 104 #[si p1, si p2, si p3, si p4, si p5, si p6, si ka, si q7, si kb, si na, si va, si q11, si q12, .unset, .unset, .unset, .unset, .unset, .unset, .unset, .unset] [(.int ((((p1.toUInt32 >>> ((10 : Int32) &&& 31).toUInt32).toInt32) &&& (3 : Int32)) % (3 : Int32)))])) st180 ?_
   exact ⟨T180, ⟨_, X180, N180, e180⟩, fun t k => k⟩
  ·
   simp only [if_neg hc179]
   refine goR (S' := T176.setTop (mkF m 104 #[si p1, si p2, si p3, si p4, si p5, si p6, si ka, si q7, si kb, si na, si va, si q11, si q12, .unset, .unset, .unset, .unset, .unset, .unset, .unset, .unset] [(.int na)])) (fun t k => XS.ifNo X176.here hx rfl (hb hby at_89) rfl ((if0 _ _).trans (feq hc179).1) (XS.iload X176.here hx rfl (hb hby at_92) rfl (XS.goto X176.here hx rfl (pc0 := 94) (pc' := 104) rfl (hb hby at_94) (by decide) (by decide) k))) ?_
   exact ⟨T176, ⟨_, X176, N176, e176⟩, fun t k => k⟩
 refine go (S' := T178.setTop (mkF m 106 #[si p1, si p2, si p3, si p4, si p5, si p6, si ka, si q7, si kb, si na, si va, si q11, si q12, si (if q11 = (0 : Int32) then ((((p1.toUInt32 >>> ((10 : Int32) &&& 31).toUInt32).toInt32) &&& (3 : Int32)) % (3 : Int32)) else na), .unset, .unset, .unset, .unset, .unset, .unset, .unset] [])) (fun t k => st178 _ (XS.istore X178.here hx rfl (hb hby at_104) rfl (l' := #[si p1, si p2, si p3, si p4, si p5, si p6, si ka, si q7, si kb, si na, si va, si q11, si q12, si (if q11 = (0 : Int32) then ((((p1.toUInt32 >>> ((10 : Int32) &&& 31).toUInt32).toInt32) &&& (3 : Int32)) % (3 : Int32)) else na), .unset, .unset, .unset, .unset, .unset, .unset, .unset]) rfl k)) ?_
 obtain ⟨nb, hnb⟩ : ∃ z : Int32, z = (if q11 = (0 : Int32) then ((((p1.toUInt32 >>> ((10 : Int32) &&& 31).toUInt32).toInt32) &&& (3 : Int32)) % (3 : Int32)) else na) := ⟨_, rfl⟩
 rw [← hnb]
 have h3nb : nb = 0 ∨ nb = 1 ∨ nb = 2 := by rw [hnb]; first | exact own_three _ | (split <;> first | exact own_three _ | assumption)
 refine go (S' := T178.setTop (mkF m 108 #[si p1, si p2, si p3, si p4, si p5, si p6, si ka, si q7, si kb, si na, si va, si q11, si q12, si nb, .unset, .unset, .unset, .unset, .unset, .unset, .unset] [(.int q11)])) (fun t k => XS.iload X178.here hx rfl (hb hby at_106) rfl k) ?_
 obtain ⟨T181, ⟨ls181, X181, N181, e181⟩, st181⟩ : Reach p.tables e below (mkF m 116 #[si p1, si p2, si p3, si p4, si p5, si p6, si ka, si q7, si kb, si na, si va, si q11, si q12, si nb, .unset, .unset, .unset, .unset, .unset, .unset, .unset] [(.int (if q11 = (0 : Int32) then p4 else p2))]) (Same X178 n0 h0) (T178.setTop (mkF m 108 #[si p1, si p2, si p3, si p4, si p5, si p6, si ka, si q7, si kb, si na, si va, si q11, si q12, si nb, .unset, .unset, .unset, .unset, .unset, .unset, .unset] [(.int q11)])) := by
  by_cases hc182 : q11 = (0 : Int32)
  ·
   simp only [if_pos hc182]
   refine goR (S' := T178.setTop (mkF m 116 #[si p1, si p2, si p3, si p4, si p5, si p6, si ka, si q7, si kb, si na, si va, si q11, si q12, si nb, .unset, .unset, .unset, .unset, .unset, .unset, .unset] [(.int p4)])) (fun t k => XS.ifYes X178.here hx rfl (pc0 := 108) (pc' := 115) rfl (hb hby at_108) rfl ((if0 _ _).trans (teq hc182).1) (by decide) (by decide) (XS.iloadN X178.here hx rfl (hb hby at_115) rfl k)) ?_
   exact ⟨T178, ⟨_, X178, N178, e178⟩, fun t k => k⟩
  ·
   simp only [if_neg hc182]
   refine goR (S' := T178.setTop (mkF m 116 #[si p1, si p2, si p3, si p4, si p5, si p6, si ka, si q7, si kb, si na, si va, si q11, si q12, si nb, .unset, .unset, .unset, .unset, .unset, .unset, .unset] [(.int p2)])) (fun t k => XS.ifNo X178.here hx rfl (hb hby at_108) rfl ((if0 _ _).trans (feq hc182).1) (XS.iloadN X178.here hx rfl (hb hby at_111) rfl (XS.goto X178.here hx rfl (pc0 := 112) (pc' := 116) rfl (hb hby at_112) (by decide) (by decide) k))) ?_
   exact ⟨T178, ⟨_, X178, N178, e178⟩, fun t k => k⟩
 refine go (S' := T181.setTop (mkF m 118 #[si p1, si p2, si p3, si p4, si p5, si p6, si ka, si q7, si kb, si na, si va, si q11, si q12, si nb, si (if q11 = (0 : Int32) then p4 else p2), .unset, .unset, .unset, .unset, .unset, .unset] [])) (fun t k => st181 _ (XS.istore X181.here hx rfl (hb hby at_116) rfl (l' := #[si p1, si p2, si p3, si p4, si p5, si p6, si ka, si q7, si kb, si na, si va, si q11, si q12, si nb, si (if q11 = (0 : Int32) then p4 else p2), .unset, .unset, .unset, .unset, .unset, .unset]) rfl k)) ?_
 obtain ⟨ib, hib⟩ : ∃ z : Int32, z = (if q11 = (0 : Int32) then p4 else p2) := ⟨_, rfl⟩
 rw [← hib]
 refine go (S' := T181.setTop (mkF m 120 #[si p1, si p2, si p3, si p4, si p5, si p6, si ka, si q7, si kb, si na, si va, si q11, si q12, si nb, si ib, .unset, .unset, .unset, .unset, .unset, .unset] [(.int q12)])) (fun t k => XS.iload X181.here hx rfl (hb hby at_118) rfl k) ?_
 obtain ⟨T183, ⟨ls183, X183, N183, e183⟩, st183⟩ : Reach p.tables e below (mkF m 135 #[si p1, si p2, si p3, si p4, si p5, si p6, si ka, si q7, si kb, si na, si va, si q11, si q12, si nb, si ib, .unset, .unset, .unset, .unset, .unset, .unset] [(.int (if q12 = (0 : Int32) then ((((p1.toUInt32 >>> ((12 : Int32) &&& 31).toUInt32).toInt32) &&& (3 : Int32)) % (3 : Int32)) else va))]) (Same X181 n0 h0) (T181.setTop (mkF m 120 #[si p1, si p2, si p3, si p4, si p5, si p6, si ka, si q7, si kb, si na, si va, si q11, si q12, si nb, si ib, .unset, .unset, .unset, .unset, .unset, .unset] [(.int q12)])) := by
  by_cases hc184 : q12 = (0 : Int32)
  ·
   simp only [if_pos hc184]
   refine goR (S' := T181.setTop (mkF m 132 #[si p1, si p2, si p3, si p4, si p5, si p6, si ka, si q7, si kb, si na, si va, si q11, si q12, si nb, si ib, .unset, .unset, .unset, .unset, .unset, .unset] [(.int ((p1.toUInt32 >>> ((12 : Int32) &&& 31).toUInt32).toInt32))])) (fun t k => XS.ifYes X181.here hx rfl (pc0 := 120) (pc' := 128) rfl (hb hby at_120) rfl ((if0 _ _).trans (teq hc184).1) (by decide) (by decide) (XS.iloadN X181.here hx rfl (hb hby at_128) rfl (XS.bipush X181.here hx rfl (hb hby at_129) (XS.iushr X181.here hx rfl (hb hby at_131) rfl k)))) ?_
   obtain ⟨v185, T185, L185, X185, hQ185, st185⟩ := callSt X181 hx hZ (y := y_2) hown (ww hw 0 rfl) (ww hw 1 rfl) (ww hw 2 rfl) (ww hw 3 rfl) (by decide) (backOf (W := 0) (rmLn l Z a0 hw [] ((p1.toUInt32 >>> ((12 : Int32) &&& 31).toUInt32).toInt32) h0 n0 (Nat.le_trans Z0 K0.1) ) hZ (ww hw 3 rfl) (ww hw 2 rfl) (by decide) (by decide)) (g := (mkF m 132 #[si p1, si p2, si p3, si p4, si p5, si p6, si ka, si q7, si kb, si na, si va, si q11, si q12, si nb, si ib, .unset, .unset, .unset, .unset, .unset, .unset] [(.int ((p1.toUInt32 >>> ((12 : Int32) &&& 31).toUInt32).toInt32))])) rfl (by rw [hml]; rfl) (kc := 0) (ks := 0) (argsL := [(.int ((p1.toUInt32 >>> ((12 : Int32) &&& 31).toUInt32).toInt32))]) (rest := []) (lenOf pd_3 rfl) rfl (mr0 rfl) (hb hby at_132) e181 (by decide) (by decide)
   obtain ⟨rfl, N185q, e185⟩ := hQ185
   have N185 := Fr.app N181 N185q
   refine goR (S' := T185.setTop (mkF m 135 #[si p1, si p2, si p3, si p4, si p5, si p6, si ka, si q7, si kb, si na, si va, si q11, si q12, si nb, si ib, .unset, .unset, .unset, .unset, .unset, .unset] [(.int ((((p1.toUInt32 >>> ((12 : Int32) &&& 31).toUInt32).toInt32) &&& (3 : Int32)) % (3 : Int32)))])) st185 ?_
   exact ⟨T185, ⟨_, X185, N185, e185⟩, fun t k => k⟩
  ·
   simp only [if_neg hc184]
   refine goR (S' := T181.setTop (mkF m 135 #[si p1, si p2, si p3, si p4, si p5, si p6, si ka, si q7, si kb, si na, si va, si q11, si q12, si nb, si ib, .unset, .unset, .unset, .unset, .unset, .unset] [(.int va)])) (fun t k => XS.ifNo X181.here hx rfl (hb hby at_120) rfl ((if0 _ _).trans (feq hc184).1) (XS.iload X181.here hx rfl (hb hby at_123) rfl (XS.goto X181.here hx rfl (pc0 := 125) (pc' := 135) rfl (hb hby at_125) (by decide) (by decide) k))) ?_
   exact ⟨T181, ⟨_, X181, N181, e181⟩, fun t k => k⟩
 refine go (S' := T183.setTop (mkF m 137 #[si p1, si p2, si p3, si p4, si p5, si p6, si ka, si q7, si kb, si na, si va, si q11, si q12, si nb, si ib, si (if q12 = (0 : Int32) then ((((p1.toUInt32 >>> ((12 : Int32) &&& 31).toUInt32).toInt32) &&& (3 : Int32)) % (3 : Int32)) else va), .unset, .unset, .unset, .unset, .unset] [])) (fun t k => st183 _ (XS.istore X183.here hx rfl (hb hby at_135) rfl (l' := #[si p1, si p2, si p3, si p4, si p5, si p6, si ka, si q7, si kb, si na, si va, si q11, si q12, si nb, si ib, si (if q12 = (0 : Int32) then ((((p1.toUInt32 >>> ((12 : Int32) &&& 31).toUInt32).toInt32) &&& (3 : Int32)) % (3 : Int32)) else va), .unset, .unset, .unset, .unset, .unset]) rfl k)) ?_
 obtain ⟨vb, hvb⟩ : ∃ z : Int32, z = (if q12 = (0 : Int32) then ((((p1.toUInt32 >>> ((12 : Int32) &&& 31).toUInt32).toInt32) &&& (3 : Int32)) % (3 : Int32)) else va) := ⟨_, rfl⟩
 rw [← hvb]
 have h3vb : vb = 0 ∨ vb = 1 ∨ vb = 2 := by rw [hvb]; first | exact own_three _ | (split <;> first | exact own_three _ | assumption)
 refine go (S' := T183.setTop (mkF m 139 #[si p1, si p2, si p3, si p4, si p5, si p6, si ka, si q7, si kb, si na, si va, si q11, si q12, si nb, si ib, si vb, .unset, .unset, .unset, .unset, .unset] [(.int q12)])) (fun t k => XS.iload X183.here hx rfl (hb hby at_137) rfl k) ?_
 obtain ⟨T186, ⟨ls186, X186, N186, e186⟩, st186⟩ : Reach p.tables e below (mkF m 148 #[si p1, si p2, si p3, si p4, si p5, si p6, si ka, si q7, si kb, si na, si va, si q11, si q12, si nb, si ib, si vb, .unset, .unset, .unset, .unset, .unset] [(.int (if q12 = (0 : Int32) then p5 else p3))]) (Same X183 n0 h0) (T183.setTop (mkF m 139 #[si p1, si p2, si p3, si p4, si p5, si p6, si ka, si q7, si kb, si na, si va, si q11, si q12, si nb, si ib, si vb, .unset, .unset, .unset, .unset, .unset] [(.int q12)])) := by
  by_cases hc187 : q12 = (0 : Int32)
  ·
   simp only [if_pos hc187]
   refine goR (S' := T183.setTop (mkF m 148 #[si p1, si p2, si p3, si p4, si p5, si p6, si ka, si q7, si kb, si na, si va, si q11, si q12, si nb, si ib, si vb, .unset, .unset, .unset, .unset, .unset] [(.int p5)])) (fun t k => XS.ifYes X183.here hx rfl (pc0 := 139) (pc' := 146) rfl (hb hby at_139) rfl ((if0 _ _).trans (teq hc187).1) (by decide) (by decide) (XS.iload X183.here hx rfl (hb hby at_146) rfl k)) ?_
   exact ⟨T183, ⟨_, X183, N183, e183⟩, fun t k => k⟩
  ·
   simp only [if_neg hc187]
   refine goR (S' := T183.setTop (mkF m 148 #[si p1, si p2, si p3, si p4, si p5, si p6, si ka, si q7, si kb, si na, si va, si q11, si q12, si nb, si ib, si vb, .unset, .unset, .unset, .unset, .unset] [(.int p3)])) (fun t k => XS.ifNo X183.here hx rfl (hb hby at_139) rfl ((if0 _ _).trans (feq hc187).1) (XS.iloadN X183.here hx rfl (hb hby at_142) rfl (XS.goto X183.here hx rfl (pc0 := 143) (pc' := 148) rfl (hb hby at_143) (by decide) (by decide) k))) ?_
   exact ⟨T183, ⟨_, X183, N183, e183⟩, fun t k => k⟩
 refine go (S' := T186.setTop (mkF m 150 #[si p1, si p2, si p3, si p4, si p5, si p6, si ka, si q7, si kb, si na, si va, si q11, si q12, si nb, si ib, si vb, si (if q12 = (0 : Int32) then p5 else p3), .unset, .unset, .unset, .unset] [])) (fun t k => st186 _ (XS.istore X186.here hx rfl (hb hby at_148) rfl (l' := #[si p1, si p2, si p3, si p4, si p5, si p6, si ka, si q7, si kb, si na, si va, si q11, si q12, si nb, si ib, si vb, si (if q12 = (0 : Int32) then p5 else p3), .unset, .unset, .unset, .unset]) rfl k)) ?_
 obtain ⟨jb, hjb⟩ : ∃ z : Int32, z = (if q12 = (0 : Int32) then p5 else p3) := ⟨_, rfl⟩
 rw [← hjb]
 obtain ⟨T188, h188, X188, e188, E188, A188, D188, -, st188⟩ := newO X186 hx hZ hown (ww hw 4 rfl) (ww hw 5 rfl) (ww hw 6 rfl) e186 (g := (mkF m 150 #[si p1, si p2, si p3, si p4, si p5, si p6, si ka, si q7, si kb, si na, si va, si q11, si q12, si nb, si ib, si vb, si jb, .unset, .unset, .unset, .unset] [])) rfl (hb hby at_150) (by decide) (by decide)
 obtain ⟨b188, g188⟩ : ∃ z, z = h0.size := ⟨_, rfl⟩
 rw [← g188] at A188 D188 st188
 have ge_b188 : n0 ≤ b188 := by rw [g188]; exact (Nat.le_trans Z0 K0.1)
 have sz_b188 : h0.size ≤ b188 := by rw [g188]; exact K0.1
 have K189 : Keep h0 h188 [] := K0.ext E188
 have hkS := Nat.le_trans hkS E188.1
 have C190 := C0.trans (CHr.ext E188 C0.1)
 refine go (S' := T188.setTop (mkF m 156 #[si p1, si p2, si p3, si p4, si p5, si p6, si ka, si q7, si kb, si na, si va, si q11, si q12, si nb, si ib, si vb, si jb, .unset, .unset, .unset, .unset] [(.int ka), (.ref b188), (.ref b188)])) (fun t k => st188 _ (XS.dup X188.here hx rfl (hb hby at_153) rfl rfl (XS.iload X188.here hx rfl (hb hby at_154) rfl k))) ?_
 have O191 : Old Z n0 h188 := O0.keep K189 all0
 obtain ⟨v192, T192, L192, X192, hQ192, st192⟩ := callSt X188 hx hZ (y := y_3) hown (ww hw 7 rfl) (ww hw 8 rfl) (ww hw 2 rfl) (ww hw 9 rfl) (by decide) (backOf (W := 2) (rmCat l Z a0 hw [] ka c1 c2 c3 c4 h188 n0 (Nat.le_trans Z0 K189.1) hp2 hp3 hp4 hp5 O191) hZ (ww hw 9 rfl) (ww hw 2 rfl) (by decide) (by decide)) (g := (mkF m 156 #[si p1, si p2, si p3, si p4, si p5, si p6, si ka, si q7, si kb, si na, si va, si q11, si q12, si nb, si ib, si vb, si jb, .unset, .unset, .unset, .unset] [(.int ka), (.ref b188), (.ref b188)])) rfl (by rw [hml]; rfl) (kc := 0) (ks := 0) (argsL := [(.int ka)]) (rest := [(.ref b188), (.ref b188)]) (lenOf pd_4 rfl) rfl (mr0 rfl) (hb hby at_156) e188 (by decide) (by decide)
 obtain ⟨rfl, N192q, e192⟩ := hQ192
 have N192 := Fr.app N186 N192q
 refine go (S' := T192.setTop (mkF m 162 #[si p1, si p2, si p3, si p4, si p5, si p6, si ka, si q7, si kb, si na, si va, si q11, si q12, si nb, si ib, si vb, si jb, .unset, .unset, .unset, .unset] [(.int p2), (.int na), (.ref (own_cat ka c1 c2 c3 c4)), (.ref b188), (.ref b188)])) (fun t k => st192 _ (XS.iload X192.here hx rfl (hb hby at_159) rfl (XS.iloadN X192.here hx rfl (hb hby at_161) rfl k))) ?_
 obtain ⟨v193, T193, L193, X193, hQ193, hS, hZ, hown, Cq193, st193⟩ := callStW X192 hx hZ (y := y_4) hown (ww hw 13 rfl) (ww hw 14 rfl) (ww hw 2 rfl) (ww hw 15 rfl) (by decide) (backW (W := 3) (rmMk l Z a0 hw [] na p2 G1 h188 n0 (Nat.le_trans Z0 K189.1) hp0 hG1 O191) hZ (ww hw 15 rfl) (ww hw 2 rfl) (by decide) (by decide) (own_EW hw) C190.1 all0) (g := (mkF m 162 #[si p1, si p2, si p3, si p4, si p5, si p6, si ka, si q7, si kb, si na, si va, si q11, si q12, si nb, si ib, si vb, si jb, .unset, .unset, .unset, .unset] [(.int p2), (.int na), (.ref (own_cat ka c1 c2 c3 c4)), (.ref b188), (.ref b188)])) rfl (by rw [hml]; rfl) (kc := 6) (ks := 12) (argsL := [(.int na), (.int p2)]) (rest := [(.ref (own_cat ka c1 c2 c3 c4)), (.ref b188), (.ref b188)]) (lenOf pd_5 rfl) rfl (mr0 rfl) (hb hby at_162) e192 (by decide) (by decide) hS hkS
 obtain ⟨x_193, t_193, rfl, N193q, Kq193, q193_0, q193_1⟩ := hQ193
 have N193 := Fr.app N192 N193q
 have hkS := Nat.le_refl T193.heap.size
 have C194 := C190.trans Cq193
 have K195 : Keep h0 T193.heap [] := K189.trans Kq193 all0
 have lt_b188_x_193 : b188 < x_193 := Nat.lt_of_lt_of_le A188.lt q193_0
 have sz_x_193 : h0.size ≤ x_193 := Nat.le_trans K189.1 q193_0
 have ge_x_193 : n0 ≤ x_193 := Nat.le_trans Z0 sz_x_193
 have ne_t_193_b188 : t_193 ≠ b188 := q193_1.ne2 (A188.keep Kq193) (ww hw 5 rfl)
 refine go (S' := T193.setTop (mkF m 168 #[si p1, si p2, si p3, si p4, si p5, si p6, si ka, si q7, si kb, si na, si va, si q11, si q12, si nb, si ib, si vb, si jb, .unset, .unset, .unset, .unset] [(.int p3), (.int va), (.ref x_193), (.ref (own_cat ka c1 c2 c3 c4)), (.ref b188), (.ref b188)])) (fun t k => st193 _ (XS.iload X193.here hx rfl (hb hby at_165) rfl (XS.iloadN X193.here hx rfl (hb hby at_167) rfl k))) ?_
 have O196 : Old Z n0 T193.heap := O0.keep K195 all0
 obtain ⟨v197, T197, L197, X197, hQ197, hS, hZ, hown, Cq197, st197⟩ := callStW X193 hx hZ (y := y_4) hown (ww hw 13 rfl) (ww hw 14 rfl) (ww hw 2 rfl) (ww hw 15 rfl) (by decide) (backW (W := 4) (rmMk l Z a0 hw [] va p3 G1 T193.heap n0 (Nat.le_trans Z0 K195.1) hp0 hG1 O196) hZ (ww hw 15 rfl) (ww hw 2 rfl) (by decide) (by decide) (own_EW hw) C194.1 all0) (g := (mkF m 168 #[si p1, si p2, si p3, si p4, si p5, si p6, si ka, si q7, si kb, si na, si va, si q11, si q12, si nb, si ib, si vb, si jb, .unset, .unset, .unset, .unset] [(.int p3), (.int va), (.ref x_193), (.ref (own_cat ka c1 c2 c3 c4)), (.ref b188), (.ref b188)])) rfl (by rw [hml]; rfl) (kc := 6) (ks := 12) (argsL := [(.int va), (.int p3)]) (rest := [(.ref x_193), (.ref (own_cat ka c1 c2 c3 c4)), (.ref b188), (.ref b188)]) (lenOf pd_5 rfl) rfl (mr0 rfl) (hb hby at_168) rfl (by decide) (by decide) hS hkS
 obtain ⟨x_197, t_197, rfl, N197q, Kq197, q197_0, q197_1⟩ := hQ197
 have N197 := Fr.app N193 N197q
 have f198 : Exa Z T193.heap b188 "com/example/sallyport/sallyport/AttributeKey" := (A188.keep Kq193)
 have hkS := Nat.le_refl T197.heap.size
 have C199 := C194.trans Cq197
 have K200 : Keep h0 T197.heap [] := K195.trans Kq197 all0
 have lt_b188_x_197 : b188 < x_197 := Nat.lt_of_lt_of_le f198.lt q197_0
 have lt_x_193_x_197 : x_193 < x_197 := Nat.lt_of_lt_of_le q193_1.lt1 q197_0
 have lt_t_193_x_197 : t_193 < x_197 := Nat.lt_of_lt_of_le q193_1.lt2 q197_0
 have sz_x_197 : h0.size ≤ x_197 := Nat.le_trans K195.1 q197_0
 have ge_x_197 : n0 ≤ x_197 := Nat.le_trans Z0 sz_x_197
 have ne_t_197_b188 : t_197 ≠ b188 := q197_1.ne2 (f198.keep Kq197) (ww hw 5 rfl)
 refine go (S' := T197.setTop (mkF m 171 #[si p1, si p2, si p3, si p4, si p5, si p6, si ka, si q7, si kb, si na, si va, si q11, si q12, si nb, si ib, si vb, si jb, .unset, .unset, .unset, .unset] [(.ref x_197), (.ref x_193), (.ref (own_cat ka c1 c2 c3 c4)), (.ref b188), (.ref b188)])) st197 ?_
 have f201 : Exa Z T197.heap b188 "com/example/sallyport/sallyport/AttributeKey" := (f198.keep Kq197)
 have f202 : Fld Z T197.heap b188 "com/example/sallyport/sallyport/AttributeKey" "category" "Lcom/example/sallyport/sallyport/AttributeCategory;" .null := (((D188 (Or.inr (ww hw 43 rfl)) (ty := (.object "com/example/sallyport/sallyport/AttributeCategory")) (by decide)).keep Kq193 nin0).keep Kq197 nin0)
 have f203 : Fld Z T197.heap b188 "com/example/sallyport/sallyport/AttributeKey" "attributeId" "Ljava/lang/String;" .null := (((D188 (Or.inr (ww hw 45 rfl)) (ty := (.object "java/lang/String")) (by decide)).keep Kq193 nin0).keep Kq197 nin0)
 have f204 : Fld Z T197.heap b188 "com/example/sallyport/sallyport/AttributeKey" "value" "Ljava/lang/String;" .null := (((D188 (Or.inr (ww hw 47 rfl)) (ty := (.object "java/lang/String")) (by decide)).keep Kq193 nin0).keep Kq197 nin0)
 obtain ⟨v205, T205, L205, X205, hQ205, st205⟩ := callSp X197 hx hZ (y := y_5) rfl hown (ww hw 38 rfl) (ww hw 39 rfl) (ww hw 40 rfl) (by decide) (backOf (W := 1) (rmPi l Z a0 hw [] b188 (own_cat ka c1 c2 c3 c4) x_193 x_197 T197.heap n0 (Nat.le_trans Z0 K200.1) f201 f202 f203 f204 ge_b188) hZ (ww hw 40 rfl) (ww hw 6 rfl) (by decide) (by decide)) (g := (mkF m 171 #[si p1, si p2, si p3, si p4, si p5, si p6, si ka, si q7, si kb, si na, si va, si q11, si q12, si nb, si ib, si vb, si jb, .unset, .unset, .unset, .unset] [(.ref x_197), (.ref x_193), (.ref (own_cat ka c1 c2 c3 c4)), (.ref b188), (.ref b188)])) rfl (by rw [hml]; rfl) (a := b188) (kc := 0) (ks := 0) (argsL := [(.ref (own_cat ka c1 c2 c3 c4)), (.ref x_193), (.ref x_197)]) (rest := [(.ref b188)]) (lenOf pd_6 rfl) rfl (mr0 rfl) (hb hby at_171) rfl (by decide) (by decide)
 obtain ⟨rfl, N205q, Kq205, q205_0, q205_1, q205_2⟩ := hQ205
 have N205 := Fr.app N197 N205q
 have hkS := Nat.le_trans hkS Kq205.1
 have C206 := C199.trans (CHr.keep Kq205 (allS (Safe.exa hZ.alike f201 (by decide) (by decide)) all0) C199.1)
 have K207 : Keep h0 T205.heap [] := K200.trans Kq205 (allS (P := fun x => x ∈ [] ∨ h0.size ≤ x) (Or.inr sz_b188) all0)
 refine go (S' := T205.setTop (mkF m 185 #[si p1, si p2, si p3, si p4, si p5, si p6, si ka, si q7, si kb, si na, si va, si q11, si q12, si nb, si ib, si vb, si jb, sr b188, si (p6 &&& (3 : Int32)), .unset, .unset] [(.int 1), (.int (p6 &&& (3 : Int32)))])) (fun t k => st205 _ (XS.astore X205.here hx rfl (hb hby at_174) rfl rfl (l' := #[si p1, si p2, si p3, si p4, si p5, si p6, si ka, si q7, si kb, si na, si va, si q11, si q12, si nb, si ib, si vb, si jb, sr b188, .unset, .unset, .unset]) rfl (XS.iload X205.here hx rfl (hb hby at_176) rfl (XS.iconst X205.here hx rfl (hb hby at_178) (XS.iand X205.here hx rfl (hb hby at_179) rfl (XS.istore X205.here hx rfl (hb hby at_180) rfl (l' := #[si p1, si p2, si p3, si p4, si p5, si p6, si ka, si q7, si kb, si na, si va, si q11, si q12, si nb, si ib, si vb, si jb, sr b188, si (p6 &&& (3 : Int32)), .unset, .unset]) rfl (XS.iload X205.here hx rfl (hb hby at_182) rfl (XS.iconst X205.here hx rfl (hb hby at_184) k)))))))) ?_
 by_cases hc208 : (p6 &&& (3 : Int32)) = (1 : Int32)
 ·
  refine go (S' := T205.setTop (mkF m 191 #[si p1, si p2, si p3, si p4, si p5, si p6, si ka, si q7, si kb, si na, si va, si q11, si q12, si nb, si ib, si vb, si jb, sr b188, si (p6 &&& (3 : Int32)), .unset, .unset] [.null, (.ref b188)])) (fun t k => XS.icmpNo X205.here hx rfl (hb hby at_185) rfl (teq hc208).2 (XS.aload X205.here hx rfl (hb hby at_188) rfl rfl (XS.aconstNull X205.here hx rfl (hb hby at_190) k))) ?_
  have f210 : Exa Z T205.heap b188 "com/example/sallyport/sallyport/AttributeKey" := (f201.keep Kq205)
  obtain ⟨v209, T209, L209, X209, hQ209, st209⟩ := callV X205 hx hZ (y := y_8) (z := y_8) hown (ww hw 48 rfl) (ww hw 49 rfl) (notFace_of_selects (args := #[]) (mvT hZ (ww hw 51 rfl))) (ww hw 51 rfl) (ww hw 50 rfl) (by decide) (backOf (W := 0) (rmEn l Z a0 hw [] b188 T205.heap n0 (Nat.le_trans Z0 K207.1) ) hZ (ww hw 52 rfl) (ww hw 6 rfl) (by decide) (by decide)) f210 (g := (mkF m 191 #[si p1, si p2, si p3, si p4, si p5, si p6, si ka, si q7, si kb, si na, si va, si q11, si q12, si nb, si ib, si vb, si jb, sr b188, si (p6 &&& (3 : Int32)), .unset, .unset] [.null, (.ref b188)])) rfl (by rw [hml]; rfl) (kc := 0) (ks := 0) (argsL := [.null]) (rest := []) (lenOf pd_2 rfl) rfl (mr0 rfl) (hb hby at_191) rfl (by decide) (by decide)
  obtain ⟨rfl, N209q, e209⟩ := hQ209
  have N209 := Fr.app N205 N209q
  refine go (S' := T209.setTop (mkF m 194 #[si p1, si p2, si p3, si p4, si p5, si p6, si ka, si q7, si kb, si na, si va, si q11, si q12, si nb, si ib, si vb, si jb, sr b188, si (p6 &&& (3 : Int32)), .unset, .unset] [(.int 0)])) st209 ?_
  have hc211 : (0 : Int32) = (0 : Int32) := by decide
  refine go (S' := T209.setTop (mkF m 202 #[si p1, si p2, si p3, si p4, si p5, si p6, si ka, si q7, si kb, si na, si va, si q11, si q12, si nb, si ib, si vb, si jb, sr b188, si (p6 &&& (3 : Int32)), .unset, .unset] [(.int 1)])) (fun t k => XS.ifNo X209.here hx rfl (hb hby at_194) rfl ((if0 _ _).trans (teq hc211).2) (XS.iconst X209.here hx rfl (hb hby at_197) (XS.goto X209.here hx rfl (pc0 := 198) (pc' := 202) rfl (hb hby at_198) (by decide) (by decide) k))) ?_
  refine finNW X209 hx hk (t := .boolean) hret (by simp) hS hkS hZ (own_EW hw) C206 e209 (hb hby at_202) (by decide) (by decide) ?_
  exact ⟨rfl, N209, K207⟩
 ·
  refine go (S' := T205.setTop (mkF m 206 #[si p1, si p2, si p3, si p4, si p5, si p6, si ka, si q7, si kb, si na, si va, si q11, si q12, si nb, si ib, si vb, si jb, sr b188, si (p6 &&& (3 : Int32)), .unset, .unset] [(.int 2), (.int (p6 &&& (3 : Int32)))])) (fun t k => XS.icmpYes X205.here hx rfl (pc0 := 185) (pc' := 203) rfl (hb hby at_185) rfl (feq hc208).2 (by decide) (by decide) (XS.iload X205.here hx rfl (hb hby at_203) rfl (XS.iconst X205.here hx rfl (hb hby at_205) k))) ?_
  by_cases hc212 : (p6 &&& (3 : Int32)) = (2 : Int32)
  ·
   refine go (S' := T205.setTop (mkF m 214 #[si p1, si p2, si p3, si p4, si p5, si p6, si ka, si q7, si kb, si na, si va, si q11, si q12, si nb, si ib, si vb, si jb, sr b188, si (p6 &&& (3 : Int32)), .unset, .unset] [(.int p2), (.int na), (.ref b188)])) (fun t k => XS.icmpNo X205.here hx rfl (hb hby at_206) rfl (teq hc212).2 (XS.aload X205.here hx rfl (hb hby at_209) rfl rfl (XS.iload X205.here hx rfl (hb hby at_211) rfl (XS.iloadN X205.here hx rfl (hb hby at_213) rfl k)))) ?_
   have O213 : Old Z n0 T205.heap := O0.keep K207 all0
   obtain ⟨v214, T214, L214, X214, hQ214, hS, hZ, hown, Cq214, st214⟩ := callStW X205 hx hZ (y := y_4) hown (ww hw 13 rfl) (ww hw 14 rfl) (ww hw 2 rfl) (ww hw 15 rfl) (by decide) (backW (W := 1) (rmMk l Z a0 hw [] na p2 G1 T205.heap n0 (Nat.le_trans Z0 K207.1) hp0 hG1 O213) hZ (ww hw 15 rfl) (ww hw 2 rfl) (by decide) (by decide) (own_EW hw) C206.1 all0) (g := (mkF m 214 #[si p1, si p2, si p3, si p4, si p5, si p6, si ka, si q7, si kb, si na, si va, si q11, si q12, si nb, si ib, si vb, si jb, sr b188, si (p6 &&& (3 : Int32)), .unset, .unset] [(.int p2), (.int na), (.ref b188)])) rfl (by rw [hml]; rfl) (kc := 6) (ks := 12) (argsL := [(.int na), (.int p2)]) (rest := [(.ref b188)]) (lenOf pd_5 rfl) rfl (mr0 rfl) (hb hby at_214) rfl (by decide) (by decide) hS hkS
   obtain ⟨x_214, t_214, rfl, N214q, Kq214, q214_0, q214_1⟩ := hQ214
   have N214 := Fr.app N205 N214q
   have f215 : Exa Z T205.heap b188 "com/example/sallyport/sallyport/AttributeKey" := (f201.keep Kq205)
   have f216 : Str Z T205.heap x_193 t_193 (0 : Int32) (own_mk na p2) := ((q193_1.keep Kq197 nin0 nin0).keep Kq205 (ninS (Nat.ne_of_gt lt_b188_x_193) nin0) (ninS ne_t_193_b188 nin0))
   have f217 : Str Z T205.heap x_197 t_197 (0 : Int32) (own_mk va p3) := (q197_1.keep Kq205 (ninS (Nat.ne_of_gt lt_b188_x_197) nin0) (ninS ne_t_197_b188 nin0))
   have hkS := Nat.le_refl T214.heap.size
   have C218 := C206.trans Cq214
   have K219 : Keep h0 T214.heap [] := K207.trans Kq214 all0
   have lt_b188_x_214 : b188 < x_214 := Nat.lt_of_lt_of_le f215.lt q214_0
   have lt_x_193_x_214 : x_193 < x_214 := Nat.lt_of_lt_of_le f216.lt1 q214_0
   have lt_t_193_x_214 : t_193 < x_214 := Nat.lt_of_lt_of_le f216.lt2 q214_0
   have lt_x_197_x_214 : x_197 < x_214 := Nat.lt_of_lt_of_le f217.lt1 q214_0
   have lt_t_197_x_214 : t_197 < x_214 := Nat.lt_of_lt_of_le f217.lt2 q214_0
   have sz_x_214 : h0.size ≤ x_214 := Nat.le_trans K207.1 q214_0
   have ge_x_214 : n0 ≤ x_214 := Nat.le_trans Z0 sz_x_214
   have ne_t_214_b188 : t_214 ≠ b188 := q214_1.ne2 (f215.keep Kq214) (ww hw 5 rfl)
   refine go (S' := T214.setTop (mkF m 217 #[si p1, si p2, si p3, si p4, si p5, si p6, si ka, si q7, si kb, si na, si va, si q11, si q12, si nb, si ib, si vb, si jb, sr b188, si (p6 &&& (3 : Int32)), .unset, .unset] [(.ref x_214), (.ref b188)])) st214 ?_
   have f221 : Exa Z T214.heap b188 "com/example/sallyport/sallyport/AttributeKey" := (f215.keep Kq214)
   obtain ⟨v220, T220, L220, X220, hQ220, st220⟩ := callV X214 hx hZ (y := y_8) (z := y_8) hown (ww hw 48 rfl) (ww hw 49 rfl) (notFace_of_selects (args := #[]) (mvT hZ (ww hw 51 rfl))) (ww hw 51 rfl) (ww hw 50 rfl) (by decide) (backOf (W := 0) (rmEs l Z a0 hw [] b188 x_214 T214.heap n0 (Nat.le_trans Z0 K219.1) q214_1.exa) hZ (ww hw 52 rfl) (ww hw 6 rfl) (by decide) (by decide)) f221 (g := (mkF m 217 #[si p1, si p2, si p3, si p4, si p5, si p6, si ka, si q7, si kb, si na, si va, si q11, si q12, si nb, si ib, si vb, si jb, sr b188, si (p6 &&& (3 : Int32)), .unset, .unset] [(.ref x_214), (.ref b188)])) rfl (by rw [hml]; rfl) (kc := 0) (ks := 0) (argsL := [(.ref x_214)]) (rest := []) (lenOf pd_2 rfl) rfl (mr0 rfl) (hb hby at_217) rfl (by decide) (by decide)
   obtain ⟨rfl, N220q, e220⟩ := hQ220
   have N220 := Fr.app N214 N220q
   refine go (S' := T220.setTop (mkF m 220 #[si p1, si p2, si p3, si p4, si p5, si p6, si ka, si q7, si kb, si na, si va, si q11, si q12, si nb, si ib, si vb, si jb, sr b188, si (p6 &&& (3 : Int32)), .unset, .unset] [(.int 0)])) st220 ?_
   have hc222 : (0 : Int32) = (0 : Int32) := by decide
   refine go (S' := T220.setTop (mkF m 228 #[si p1, si p2, si p3, si p4, si p5, si p6, si ka, si q7, si kb, si na, si va, si q11, si q12, si nb, si ib, si vb, si jb, sr b188, si (p6 &&& (3 : Int32)), .unset, .unset] [(.int 1)])) (fun t k => XS.ifNo X220.here hx rfl (hb hby at_220) rfl ((if0 _ _).trans (teq hc222).2) (XS.iconst X220.here hx rfl (hb hby at_223) (XS.goto X220.here hx rfl (pc0 := 224) (pc' := 228) rfl (hb hby at_224) (by decide) (by decide) k))) ?_
   refine finNW X220 hx hk (t := .boolean) hret (by simp) hS hkS hZ (own_EW hw) C218 e220 (hb hby at_228) (by decide) (by decide) ?_
   exact ⟨rfl, N220, K219⟩
  ·
   refine go (S' := T205.setTop (mkF m 232 #[si p1, si p2, si p3, si p4, si p5, si p6, si ka, si q7, si kb, si na, si va, si q11, si q12, si nb, si ib, si vb, si jb, sr b188, si (p6 &&& (3 : Int32)), .unset, .unset] [(.int 3), (.int (p6 &&& (3 : Int32)))])) (fun t k => XS.icmpYes X205.here hx rfl (pc0 := 206) (pc' := 229) rfl (hb hby at_206) rfl (feq hc212).2 (by decide) (by decide) (XS.iload X205.here hx rfl (hb hby at_229) rfl (XS.iconst X205.here hx rfl (hb hby at_231) k))) ?_
   by_cases hc223 : (p6 &&& (3 : Int32)) = (3 : Int32)
   ·
    refine go (S' := T205.setTop (mkF m 239 #[si p1, si p2, si p3, si p4, si p5, si p6, si ka, si q7, si kb, si na, si va, si q11, si q12, si nb, si ib, si vb, si jb, sr b188, si (p6 &&& (3 : Int32)), .unset, .unset] [(.ref b188), (.ref b188)])) (fun t k => XS.icmpNo X205.here hx rfl (hb hby at_232) rfl (teq hc223).2 (XS.aload X205.here hx rfl (hb hby at_235) rfl rfl (XS.aload X205.here hx rfl (hb hby at_237) rfl rfl k))) ?_
    have f224 : Exa Z T205.heap b188 "com/example/sallyport/sallyport/AttributeKey" := (f201.keep Kq205)
    have f225 : Str Z T205.heap x_193 t_193 (0 : Int32) (own_mk na p2) := ((q193_1.keep Kq197 nin0 nin0).keep Kq205 (ninS (Nat.ne_of_gt lt_b188_x_193) nin0) (ninS ne_t_193_b188 nin0))
    have f226 : Str Z T205.heap x_197 t_197 (0 : Int32) (own_mk va p3) := (q197_1.keep Kq205 (ninS (Nat.ne_of_gt lt_b188_x_197) nin0) (ninS ne_t_197_b188 nin0))
    have O227 : Old Z n0 T205.heap := O0.keep K207 all0
    obtain ⟨v228, T228, L228, X228, hQ228, st228⟩ := callV X205 hx hZ (y := y_8) (z := y_8) hown (ww hw 48 rfl) (ww hw 49 rfl) (notFace_of_selects (args := #[]) (mvT hZ (ww hw 51 rfl))) (ww hw 51 rfl) (ww hw 50 rfl) (by decide) (backOf (W := 0) (rmEq l Z a0 hw [] b188 b188 (own_cat ka c1 c2 c3 c4) x_193 x_197 (own_cat ka c1 c2 c3 c4) x_193 x_197 t_193 t_193 t_197 t_197 (own_mk na p2) (own_mk va p3) (own_mk na p2) (own_mk va p3) G1 T205.heap n0 (Nat.le_trans Z0 K207.1) f224 q205_0 q205_1 q205_2 q205_0 q205_1 q205_2 f225 f226 f225 f226 hp0 hG1 O227) hZ (ww hw 52 rfl) (ww hw 6 rfl) (by decide) (by decide)) f224 (g := (mkF m 239 #[si p1, si p2, si p3, si p4, si p5, si p6, si ka, si q7, si kb, si na, si va, si q11, si q12, si nb, si ib, si vb, si jb, sr b188, si (p6 &&& (3 : Int32)), .unset, .unset] [(.ref b188), (.ref b188)])) rfl (by rw [hml]; rfl) (kc := 0) (ks := 0) (argsL := [(.ref b188)]) (rest := []) (lenOf pd_2 rfl) rfl (mr0 rfl) (hb hby at_239) rfl (by decide) (by decide)
    obtain ⟨rfl, N228q, e228⟩ := hQ228
    have N228 := Fr.app N205 N228q
    refine go (S' := T228.setTop (mkF m 242 #[si p1, si p2, si p3, si p4, si p5, si p6, si ka, si q7, si kb, si na, si va, si q11, si q12, si nb, si ib, si vb, si jb, sr b188, si (p6 &&& (3 : Int32)), .unset, .unset] [(.int (if (own_cat ka c1 c2 c3 c4) = (own_cat ka c1 c2 c3 c4) ∧ (own_mk na p2) = (own_mk na p2) ∧ (own_mk va p3) = (own_mk va p3) then (1 : Int32) else (0 : Int32)))])) st228 ?_
    refine finNW X228 hx hk (t := .boolean) hret (by simp) hS hkS hZ (own_EW hw) C206 e228 (hb hby at_242) (by decide) (by decide) ?_
    exact ⟨(by rw [if_pos ⟨rfl, rfl, rfl⟩]; rfl), N228, K207⟩
   ·
    refine go (S' := T205.setTop (mkF m 243 #[si p1, si p2, si p3, si p4, si p5, si p6, si ka, si q7, si kb, si na, si va, si q11, si q12, si nb, si ib, si vb, si jb, sr b188, si (p6 &&& (3 : Int32)), .unset, .unset] [])) (fun t k => XS.icmpYes X205.here hx rfl (pc0 := 232) (pc' := 243) rfl (hb hby at_232) rfl (feq hc223).2 (by decide) (by decide) k) ?_
    obtain ⟨T229, h229, X229, e229, E229, A229, D229, -, st229⟩ := newO X205 hx hZ hown (ww hw 4 rfl) (ww hw 5 rfl) (ww hw 6 rfl) rfl (g := (mkF m 243 #[si p1, si p2, si p3, si p4, si p5, si p6, si ka, si q7, si kb, si na, si va, si q11, si q12, si nb, si ib, si vb, si jb, sr b188, si (p6 &&& (3 : Int32)), .unset, .unset] [])) rfl (hb hby at_243) (by decide) (by decide)
    obtain ⟨b229, g229⟩ : ∃ z, z = T205.heap.size := ⟨_, rfl⟩
    rw [← g229] at A229 D229 st229
    have f230 : Exa Z T205.heap b188 "com/example/sallyport/sallyport/AttributeKey" := (f201.keep Kq205)
    have lt_b188_b229 : b188 < b229 := by rw [g229]; exact f230.lt
    have f231 : Str Z T205.heap x_193 t_193 (0 : Int32) (own_mk na p2) := ((q193_1.keep Kq197 nin0 nin0).keep Kq205 (ninS (Nat.ne_of_gt lt_b188_x_193) nin0) (ninS ne_t_193_b188 nin0))
    have lt_x_193_b229 : x_193 < b229 := by rw [g229]; exact f231.lt1
    have lt_t_193_b229 : t_193 < b229 := by rw [g229]; exact f231.lt2
    have f232 : Str Z T205.heap x_197 t_197 (0 : Int32) (own_mk va p3) := (q197_1.keep Kq205 (ninS (Nat.ne_of_gt lt_b188_x_197) nin0) (ninS ne_t_197_b188 nin0))
    have lt_x_197_b229 : x_197 < b229 := by rw [g229]; exact f232.lt1
    have lt_t_197_b229 : t_197 < b229 := by rw [g229]; exact f232.lt2
    have ge_b229 : n0 ≤ b229 := by rw [g229]; exact (Nat.le_trans Z0 K207.1)
    have sz_b229 : h0.size ≤ b229 := by rw [g229]; exact K207.1
    have K233 : Keep h0 h229 [] := K207.ext E229
    have hkS := Nat.le_trans hkS E229.1
    have C234 := C206.trans (CHr.ext E229 C206.1)
    refine go (S' := T229.setTop (mkF m 249 #[si p1, si p2, si p3, si p4, si p5, si p6, si ka, si q7, si kb, si na, si va, si q11, si q12, si nb, si ib, si vb, si jb, sr b188, si (p6 &&& (3 : Int32)), .unset, .unset] [(.int kb), (.ref b229), (.ref b229)])) (fun t k => st229 _ (XS.dup X229.here hx rfl (hb hby at_246) rfl rfl (XS.iload X229.here hx rfl (hb hby at_247) rfl k))) ?_
    have O235 : Old Z n0 h229 := O0.keep K233 all0
    obtain ⟨v236, T236, L236, X236, hQ236, st236⟩ := callSt X229 hx hZ (y := y_3) hown (ww hw 7 rfl) (ww hw 8 rfl) (ww hw 2 rfl) (ww hw 9 rfl) (by decide) (backOf (W := 2) (rmCat l Z a0 hw [] kb c1 c2 c3 c4 h229 n0 (Nat.le_trans Z0 K233.1) hp2 hp3 hp4 hp5 O235) hZ (ww hw 9 rfl) (ww hw 2 rfl) (by decide) (by decide)) (g := (mkF m 249 #[si p1, si p2, si p3, si p4, si p5, si p6, si ka, si q7, si kb, si na, si va, si q11, si q12, si nb, si ib, si vb, si jb, sr b188, si (p6 &&& (3 : Int32)), .unset, .unset] [(.int kb), (.ref b229), (.ref b229)])) rfl (by rw [hml]; rfl) (kc := 0) (ks := 0) (argsL := [(.int kb)]) (rest := [(.ref b229), (.ref b229)]) (lenOf pd_4 rfl) rfl (mr0 rfl) (hb hby at_249) e229 (by decide) (by decide)
    obtain ⟨rfl, N236q, e236⟩ := hQ236
    have N236 := Fr.app N205 N236q
    refine go (S' := T236.setTop (mkF m 256 #[si p1, si p2, si p3, si p4, si p5, si p6, si ka, si q7, si kb, si na, si va, si q11, si q12, si nb, si ib, si vb, si jb, sr b188, si (p6 &&& (3 : Int32)), .unset, .unset] [(.int ib), (.int nb), (.ref (own_cat kb c1 c2 c3 c4)), (.ref b229), (.ref b229)])) (fun t k => st236 _ (XS.iload X236.here hx rfl (hb hby at_252) rfl (XS.iload X236.here hx rfl (hb hby at_254) rfl k))) ?_
    obtain ⟨v237, T237, L237, X237, hQ237, hS, hZ, hown, Cq237, st237⟩ := callStW X236 hx hZ (y := y_4) hown (ww hw 13 rfl) (ww hw 14 rfl) (ww hw 2 rfl) (ww hw 15 rfl) (by decide) (backW (W := 3) (rmMk l Z a0 hw [] nb ib G1 h229 n0 (Nat.le_trans Z0 K233.1) hp0 hG1 O235) hZ (ww hw 15 rfl) (ww hw 2 rfl) (by decide) (by decide) (own_EW hw) C234.1 all0) (g := (mkF m 256 #[si p1, si p2, si p3, si p4, si p5, si p6, si ka, si q7, si kb, si na, si va, si q11, si q12, si nb, si ib, si vb, si jb, sr b188, si (p6 &&& (3 : Int32)), .unset, .unset] [(.int ib), (.int nb), (.ref (own_cat kb c1 c2 c3 c4)), (.ref b229), (.ref b229)])) rfl (by rw [hml]; rfl) (kc := 6) (ks := 12) (argsL := [(.int nb), (.int ib)]) (rest := [(.ref (own_cat kb c1 c2 c3 c4)), (.ref b229), (.ref b229)]) (lenOf pd_5 rfl) rfl (mr0 rfl) (hb hby at_256) e236 (by decide) (by decide) hS hkS
    obtain ⟨x_237, t_237, rfl, N237q, Kq237, q237_0, q237_1⟩ := hQ237
    have N237 := Fr.app N236 N237q
    have f238 : Exa Z h229 b188 "com/example/sallyport/sallyport/AttributeKey" := (f230.ext E229)
    have f239 : Str Z h229 x_193 t_193 (0 : Int32) (own_mk na p2) := (f231.ext E229)
    have f240 : Str Z h229 x_197 t_197 (0 : Int32) (own_mk va p3) := (f232.ext E229)
    have hkS := Nat.le_refl T237.heap.size
    have C241 := C234.trans Cq237
    have K242 : Keep h0 T237.heap [] := K233.trans Kq237 all0
    have lt_b188_x_237 : b188 < x_237 := Nat.lt_of_lt_of_le f238.lt q237_0
    have lt_x_193_x_237 : x_193 < x_237 := Nat.lt_of_lt_of_le f239.lt1 q237_0
    have lt_t_193_x_237 : t_193 < x_237 := Nat.lt_of_lt_of_le f239.lt2 q237_0
    have lt_x_197_x_237 : x_197 < x_237 := Nat.lt_of_lt_of_le f240.lt1 q237_0
    have lt_t_197_x_237 : t_197 < x_237 := Nat.lt_of_lt_of_le f240.lt2 q237_0
    have lt_b229_x_237 : b229 < x_237 := Nat.lt_of_lt_of_le A229.lt q237_0
    have sz_x_237 : h0.size ≤ x_237 := Nat.le_trans K233.1 q237_0
    have ge_x_237 : n0 ≤ x_237 := Nat.le_trans Z0 sz_x_237
    have ne_t_237_b188 : t_237 ≠ b188 := q237_1.ne2 (f238.keep Kq237) (ww hw 5 rfl)
    have ne_t_237_b229 : t_237 ≠ b229 := q237_1.ne2 (A229.keep Kq237) (ww hw 5 rfl)
    refine go (S' := T237.setTop (mkF m 263 #[si p1, si p2, si p3, si p4, si p5, si p6, si ka, si q7, si kb, si na, si va, si q11, si q12, si nb, si ib, si vb, si jb, sr b188, si (p6 &&& (3 : Int32)), .unset, .unset] [(.int jb), (.int vb), (.ref x_237), (.ref (own_cat kb c1 c2 c3 c4)), (.ref b229), (.ref b229)])) (fun t k => st237 _ (XS.iload X237.here hx rfl (hb hby at_259) rfl (XS.iload X237.here hx rfl (hb hby at_261) rfl k))) ?_
    have O243 : Old Z n0 T237.heap := O0.keep K242 all0
    obtain ⟨v244, T244, L244, X244, hQ244, hS, hZ, hown, Cq244, st244⟩ := callStW X237 hx hZ (y := y_4) hown (ww hw 13 rfl) (ww hw 14 rfl) (ww hw 2 rfl) (ww hw 15 rfl) (by decide) (backW (W := 4) (rmMk l Z a0 hw [] vb jb G1 T237.heap n0 (Nat.le_trans Z0 K242.1) hp0 hG1 O243) hZ (ww hw 15 rfl) (ww hw 2 rfl) (by decide) (by decide) (own_EW hw) C241.1 all0) (g := (mkF m 263 #[si p1, si p2, si p3, si p4, si p5, si p6, si ka, si q7, si kb, si na, si va, si q11, si q12, si nb, si ib, si vb, si jb, sr b188, si (p6 &&& (3 : Int32)), .unset, .unset] [(.int jb), (.int vb), (.ref x_237), (.ref (own_cat kb c1 c2 c3 c4)), (.ref b229), (.ref b229)])) rfl (by rw [hml]; rfl) (kc := 6) (ks := 12) (argsL := [(.int vb), (.int jb)]) (rest := [(.ref x_237), (.ref (own_cat kb c1 c2 c3 c4)), (.ref b229), (.ref b229)]) (lenOf pd_5 rfl) rfl (mr0 rfl) (hb hby at_263) rfl (by decide) (by decide) hS hkS
    obtain ⟨x_244, t_244, rfl, N244q, Kq244, q244_0, q244_1⟩ := hQ244
    have N244 := Fr.app N237 N244q
    have f245 : Exa Z T237.heap b188 "com/example/sallyport/sallyport/AttributeKey" := (f238.keep Kq237)
    have f246 : Str Z T237.heap x_193 t_193 (0 : Int32) (own_mk na p2) := (f239.keep Kq237 nin0 nin0)
    have f247 : Str Z T237.heap x_197 t_197 (0 : Int32) (own_mk va p3) := (f240.keep Kq237 nin0 nin0)
    have f248 : Exa Z T237.heap b229 "com/example/sallyport/sallyport/AttributeKey" := (A229.keep Kq237)
    have hkS := Nat.le_refl T244.heap.size
    have C249 := C241.trans Cq244
    have K250 : Keep h0 T244.heap [] := K242.trans Kq244 all0
    have lt_b188_x_244 : b188 < x_244 := Nat.lt_of_lt_of_le f245.lt q244_0
    have lt_x_193_x_244 : x_193 < x_244 := Nat.lt_of_lt_of_le f246.lt1 q244_0
    have lt_t_193_x_244 : t_193 < x_244 := Nat.lt_of_lt_of_le f246.lt2 q244_0
    have lt_x_197_x_244 : x_197 < x_244 := Nat.lt_of_lt_of_le f247.lt1 q244_0
    have lt_t_197_x_244 : t_197 < x_244 := Nat.lt_of_lt_of_le f247.lt2 q244_0
    have lt_b229_x_244 : b229 < x_244 := Nat.lt_of_lt_of_le f248.lt q244_0
    have lt_x_237_x_244 : x_237 < x_244 := Nat.lt_of_lt_of_le q237_1.lt1 q244_0
    have lt_t_237_x_244 : t_237 < x_244 := Nat.lt_of_lt_of_le q237_1.lt2 q244_0
    have sz_x_244 : h0.size ≤ x_244 := Nat.le_trans K242.1 q244_0
    have ge_x_244 : n0 ≤ x_244 := Nat.le_trans Z0 sz_x_244
    have ne_t_244_b188 : t_244 ≠ b188 := q244_1.ne2 (f245.keep Kq244) (ww hw 5 rfl)
    have ne_t_244_b229 : t_244 ≠ b229 := q244_1.ne2 (f248.keep Kq244) (ww hw 5 rfl)
    refine go (S' := T244.setTop (mkF m 266 #[si p1, si p2, si p3, si p4, si p5, si p6, si ka, si q7, si kb, si na, si va, si q11, si q12, si nb, si ib, si vb, si jb, sr b188, si (p6 &&& (3 : Int32)), .unset, .unset] [(.ref x_244), (.ref x_237), (.ref (own_cat kb c1 c2 c3 c4)), (.ref b229), (.ref b229)])) st244 ?_
    have f251 : Exa Z T244.heap b229 "com/example/sallyport/sallyport/AttributeKey" := (f248.keep Kq244)
    have f252 : Fld Z T244.heap b229 "com/example/sallyport/sallyport/AttributeKey" "category" "Lcom/example/sallyport/sallyport/AttributeCategory;" .null := (((D229 (Or.inr (ww hw 43 rfl)) (ty := (.object "com/example/sallyport/sallyport/AttributeCategory")) (by decide)).keep Kq237 nin0).keep Kq244 nin0)
    have f253 : Fld Z T244.heap b229 "com/example/sallyport/sallyport/AttributeKey" "attributeId" "Ljava/lang/String;" .null := (((D229 (Or.inr (ww hw 45 rfl)) (ty := (.object "java/lang/String")) (by decide)).keep Kq237 nin0).keep Kq244 nin0)
    have f254 : Fld Z T244.heap b229 "com/example/sallyport/sallyport/AttributeKey" "value" "Ljava/lang/String;" .null := (((D229 (Or.inr (ww hw 47 rfl)) (ty := (.object "java/lang/String")) (by decide)).keep Kq237 nin0).keep Kq244 nin0)
    obtain ⟨v255, T255, L255, X255, hQ255, st255⟩ := callSp X244 hx hZ (y := y_5) rfl hown (ww hw 38 rfl) (ww hw 39 rfl) (ww hw 40 rfl) (by decide) (backOf (W := 1) (rmPi l Z a0 hw [] b229 (own_cat kb c1 c2 c3 c4) x_237 x_244 T244.heap n0 (Nat.le_trans Z0 K250.1) f251 f252 f253 f254 ge_b229) hZ (ww hw 40 rfl) (ww hw 6 rfl) (by decide) (by decide)) (g := (mkF m 266 #[si p1, si p2, si p3, si p4, si p5, si p6, si ka, si q7, si kb, si na, si va, si q11, si q12, si nb, si ib, si vb, si jb, sr b188, si (p6 &&& (3 : Int32)), .unset, .unset] [(.ref x_244), (.ref x_237), (.ref (own_cat kb c1 c2 c3 c4)), (.ref b229), (.ref b229)])) rfl (by rw [hml]; rfl) (a := b229) (kc := 0) (ks := 0) (argsL := [(.ref (own_cat kb c1 c2 c3 c4)), (.ref x_237), (.ref x_244)]) (rest := [(.ref b229)]) (lenOf pd_6 rfl) rfl (mr0 rfl) (hb hby at_266) rfl (by decide) (by decide)
    obtain ⟨rfl, N255q, Kq255, q255_0, q255_1, q255_2⟩ := hQ255
    have N255 := Fr.app N244 N255q
    have hkS := Nat.le_trans hkS Kq255.1
    have C256 := C249.trans (CHr.keep Kq255 (allS (Safe.exa hZ.alike f251 (by decide) (by decide)) all0) C249.1)
    have K257 : Keep h0 T255.heap [] := K250.trans Kq255 (allS (P := fun x => x ∈ [] ∨ h0.size ≤ x) (Or.inr sz_b229) all0)
    refine go (S' := T255.setTop (mkF m 275 #[si p1, si p2, si p3, si p4, si p5, si p6, si ka, si q7, si kb, si na, si va, si q11, si q12, si nb, si ib, si vb, si jb, sr b188, si (p6 &&& (3 : Int32)), sr b229, .unset] [(.int kb), (.int ka)])) (fun t k => st255 _ (XS.astore X255.here hx rfl (hb hby at_269) rfl rfl (l' := #[si p1, si p2, si p3, si p4, si p5, si p6, si ka, si q7, si kb, si na, si va, si q11, si q12, si nb, si ib, si vb, si jb, sr b188, si (p6 &&& (3 : Int32)), sr b229, .unset]) rfl (XS.iload X255.here hx rfl (hb hby at_271) rfl (XS.iload X255.here hx rfl (hb hby at_273) rfl k)))) ?_
    by_cases hc258 : ka = kb
    ·
     refine go (S' := T255.setTop (mkF m 285 #[si p1, si p2, si p3, si p4, si p5, si p6, si ka, si q7, si kb, si na, si va, si q11, si q12, si nb, si ib, si vb, si jb, sr b188, si (p6 &&& (3 : Int32)), sr b229, .unset] [(.int ib), (.int nb), (.int p2), (.int na)])) (fun t k => XS.icmpNo X255.here hx rfl (hb hby at_275) rfl (teq hc258).2 (XS.iload X255.here hx rfl (hb hby at_278) rfl (XS.iloadN X255.here hx rfl (hb hby at_280) rfl (XS.iload X255.here hx rfl (hb hby at_281) rfl (XS.iload X255.here hx rfl (hb hby at_283) rfl k))))) ?_
     obtain ⟨v259, T259, L259, X259, hQ259, st259⟩ := callSt X255 hx hZ (y := y_6) hown (ww hw 77 rfl) (ww hw 78 rfl) (ww hw 2 rfl) (ww hw 79 rfl) (by decide) (backOf (W := 0) (rmSs l Z a0 hw [] na p2 nb ib T255.heap n0 (Nat.le_trans Z0 K257.1) h3na h3nb) hZ (ww hw 79 rfl) (ww hw 2 rfl) (by decide) (by decide)) (g := (mkF m 285 #[si p1, si p2, si p3, si p4, si p5, si p6, si ka, si q7, si kb, si na, si va, si q11, si q12, si nb, si ib, si vb, si jb, sr b188, si (p6 &&& (3 : Int32)), sr b229, .unset] [(.int ib), (.int nb), (.int p2), (.int na)])) rfl (by rw [hml]; rfl) (kc := 0) (ks := 0) (argsL := [(.int na), (.int p2), (.int nb), (.int ib)]) (rest := []) (lenOf pd_7 rfl) rfl (mr0 rfl) (hb hby at_285) rfl (by decide) (by decide)
     obtain ⟨rfl, N259q, e259⟩ := hQ259
     have N259 := Fr.app N255 N259q
     refine go (S' := T259.setTop (mkF m 288 #[si p1, si p2, si p3, si p4, si p5, si p6, si ka, si q7, si kb, si na, si va, si q11, si q12, si nb, si ib, si vb, si jb, sr b188, si (p6 &&& (3 : Int32)), sr b229, .unset] [(.int (if (own_mk na p2) = (own_mk nb ib) then (1 : Int32) else (0 : Int32)))])) st259 ?_
     by_cases hc260 : (if (own_mk na p2) = (own_mk nb ib) then (1 : Int32) else (0 : Int32)) = (0 : Int32)
     ·
      refine go (S' := T259.setTop (mkF m 315 #[si p1, si p2, si p3, si p4, si p5, si p6, si ka, si q7, si kb, si na, si va, si q11, si q12, si nb, si ib, si vb, si jb, sr b188, si (p6 &&& (3 : Int32)), sr b229, si 0] [(.ref b229), (.ref b188)])) (fun t k => XS.ifYes X259.here hx rfl (pc0 := 288) (pc' := 308) rfl (hb hby at_288) rfl ((if0 _ _).trans (teq hc260).1) (by decide) (by decide) (XS.iconst X259.here hx rfl (hb hby at_308) (XS.istore X259.here hx rfl (hb hby at_309) rfl (l' := #[si p1, si p2, si p3, si p4, si p5, si p6, si ka, si q7, si kb, si na, si va, si q11, si q12, si nb, si ib, si vb, si jb, sr b188, si (p6 &&& (3 : Int32)), sr b229, si 0]) rfl (XS.aload X259.here hx rfl (hb hby at_311) rfl rfl (XS.aload X259.here hx rfl (hb hby at_313) rfl rfl k))))) ?_
      have f261 : Exa Z T255.heap b229 "com/example/sallyport/sallyport/AttributeKey" := (f251.keep Kq255)
      have f262 : Fld Z T255.heap b188 "com/example/sallyport/sallyport/AttributeKey" "category" "Lcom/example/sallyport/sallyport/AttributeCategory;" (.ref (own_cat ka c1 c2 c3 c4)) := ((((q205_0.ext E229).keep Kq237 nin0).keep Kq244 nin0).keep Kq255 (ninS (Nat.ne_of_lt lt_b188_b229) nin0))
      have f263 : Fld Z T255.heap b188 "com/example/sallyport/sallyport/AttributeKey" "attributeId" "Ljava/lang/String;" (.ref x_193) := ((((q205_1.ext E229).keep Kq237 nin0).keep Kq244 nin0).keep Kq255 (ninS (Nat.ne_of_lt lt_b188_b229) nin0))
      have f264 : Fld Z T255.heap b188 "com/example/sallyport/sallyport/AttributeKey" "value" "Ljava/lang/String;" (.ref x_197) := ((((q205_2.ext E229).keep Kq237 nin0).keep Kq244 nin0).keep Kq255 (ninS (Nat.ne_of_lt lt_b188_b229) nin0))
      have f265 : Str Z T255.heap x_193 t_193 (0 : Int32) (own_mk na p2) := ((f246.keep Kq244 nin0 nin0).keep Kq255 (ninS (Nat.ne_of_lt lt_x_193_b229) nin0) (ninS (Nat.ne_of_lt lt_t_193_b229) nin0))
      have f266 : Str Z T255.heap x_197 t_197 (0 : Int32) (own_mk va p3) := ((f247.keep Kq244 nin0 nin0).keep Kq255 (ninS (Nat.ne_of_lt lt_x_197_b229) nin0) (ninS (Nat.ne_of_lt lt_t_197_b229) nin0))
      have f267 : Str Z T255.heap x_237 t_237 (0 : Int32) (own_mk nb ib) := ((q237_1.keep Kq244 nin0 nin0).keep Kq255 (ninS (Nat.ne_of_gt lt_b229_x_237) nin0) (ninS ne_t_237_b229 nin0))
      have f268 : Str Z T255.heap x_244 t_244 (0 : Int32) (own_mk vb jb) := (q244_1.keep Kq255 (ninS (Nat.ne_of_gt lt_b229_x_244) nin0) (ninS ne_t_244_b229 nin0))
      have O269 : Old Z n0 T255.heap := O0.keep K257 all0
      have f271 : Exa Z T255.heap b188 "com/example/sallyport/sallyport/AttributeKey" := ((f245.keep Kq244).keep Kq255)
      obtain ⟨v270, T270, L270, X270, hQ270, st270⟩ := callV X259 hx hZ (y := y_8) (z := y_8) hown (ww hw 48 rfl) (ww hw 49 rfl) (notFace_of_selects (args := #[]) (mvT hZ (ww hw 51 rfl))) (ww hw 51 rfl) (ww hw 50 rfl) (by decide) (backOf (W := 0) (rmEq l Z a0 hw [] b188 b229 (own_cat ka c1 c2 c3 c4) x_193 x_197 (own_cat kb c1 c2 c3 c4) x_237 x_244 t_193 t_237 t_197 t_244 (own_mk na p2) (own_mk va p3) (own_mk nb ib) (own_mk vb jb) G1 T255.heap n0 (Nat.le_trans Z0 K257.1) f261 f262 f263 f264 q255_0 q255_1 q255_2 f265 f266 f267 f268 hp0 hG1 O269) hZ (ww hw 52 rfl) (ww hw 6 rfl) (by decide) (by decide)) f271 (g := (mkF m 315 #[si p1, si p2, si p3, si p4, si p5, si p6, si ka, si q7, si kb, si na, si va, si q11, si q12, si nb, si ib, si vb, si jb, sr b188, si (p6 &&& (3 : Int32)), sr b229, si 0] [(.ref b229), (.ref b188)])) rfl (by rw [hml]; rfl) (kc := 0) (ks := 0) (argsL := [(.ref b229)]) (rest := []) (lenOf pd_2 rfl) rfl (mr0 rfl) (hb hby at_315) e259 (by decide) (by decide)
      obtain ⟨rfl, N270q, e270⟩ := hQ270
      have N270 := Fr.app N259 N270q
      refine go (S' := T270.setTop (mkF m 320 #[si p1, si p2, si p3, si p4, si p5, si p6, si ka, si q7, si kb, si na, si va, si q11, si q12, si nb, si ib, si vb, si jb, sr b188, si (p6 &&& (3 : Int32)), sr b229, si 0] [(.int 0), (.int (if (own_cat ka c1 c2 c3 c4) = (own_cat kb c1 c2 c3 c4) ∧ (own_mk na p2) = (own_mk nb ib) ∧ (own_mk va p3) = (own_mk vb jb) then (1 : Int32) else (0 : Int32)))])) (fun t k => st270 _ (XS.iload X270.here hx rfl (hb hby at_318) rfl k)) ?_
      have hcat272 := own_cat_eq h4ka h4kb hne0 hne1 hne2 hne3 hne4 hne5
      have hc273 : (if (own_cat ka c1 c2 c3 c4) = (own_cat kb c1 c2 c3 c4) ∧ (own_mk na p2) = (own_mk nb ib) ∧ (own_mk va p3) = (own_mk vb jb) then (1 : Int32) else (0 : Int32)) = (0 : Int32) := by
       have q0 := hcat272
       clear hcat272
       rw [if_neg fun z => absurd ((if_pos z.2.1).symm.trans hc260) (by decide)]
      refine go (S' := T270.setTop (mkF m 327 #[si p1, si p2, si p3, si p4, si p5, si p6, si ka, si q7, si kb, si na, si va, si q11, si q12, si nb, si ib, si vb, si jb, sr b188, si (p6 &&& (3 : Int32)), sr b229, si 0] [(.ref b188), (.ref b229)])) (fun t k => XS.icmpNo X270.here hx rfl (hb hby at_320) rfl (teq hc273).2 (XS.aload X270.here hx rfl (hb hby at_323) rfl rfl (XS.aload X270.here hx rfl (hb hby at_325) rfl rfl k))) ?_
      obtain ⟨v274, T274, L274, X274, hQ274, st274⟩ := callV X270 hx hZ (y := y_8) (z := y_8) hown (ww hw 48 rfl) (ww hw 49 rfl) (notFace_of_selects (args := #[]) (mvT hZ (ww hw 51 rfl))) (ww hw 51 rfl) (ww hw 50 rfl) (by decide) (backOf (W := 0) (rmEq l Z a0 hw [] b229 b188 (own_cat kb c1 c2 c3 c4) x_237 x_244 (own_cat ka c1 c2 c3 c4) x_193 x_197 t_237 t_193 t_244 t_197 (own_mk nb ib) (own_mk vb jb) (own_mk na p2) (own_mk va p3) G1 T255.heap n0 (Nat.le_trans Z0 K257.1) f271 q255_0 q255_1 q255_2 f262 f263 f264 f267 f268 f265 f266 hp0 hG1 O269) hZ (ww hw 52 rfl) (ww hw 6 rfl) (by decide) (by decide)) f261 (g := (mkF m 327 #[si p1, si p2, si p3, si p4, si p5, si p6, si ka, si q7, si kb, si na, si va, si q11, si q12, si nb, si ib, si vb, si jb, sr b188, si (p6 &&& (3 : Int32)), sr b229, si 0] [(.ref b188), (.ref b229)])) rfl (by rw [hml]; rfl) (kc := 0) (ks := 0) (argsL := [(.ref b188)]) (rest := []) (lenOf pd_2 rfl) rfl (mr0 rfl) (hb hby at_327) e270 (by decide) (by decide)
      obtain ⟨rfl, N274q, e274⟩ := hQ274
      have N274 := Fr.app N270 N274q
      refine go (S' := T274.setTop (mkF m 332 #[si p1, si p2, si p3, si p4, si p5, si p6, si ka, si q7, si kb, si na, si va, si q11, si q12, si nb, si ib, si vb, si jb, sr b188, si (p6 &&& (3 : Int32)), sr b229, si 0] [(.int 0), (.int (if (own_cat kb c1 c2 c3 c4) = (own_cat ka c1 c2 c3 c4) ∧ (own_mk nb ib) = (own_mk na p2) ∧ (own_mk vb jb) = (own_mk va p3) then (1 : Int32) else (0 : Int32)))])) (fun t k => st274 _ (XS.iload X274.here hx rfl (hb hby at_330) rfl k)) ?_
      have hcat275 := own_cat_eq h4ka h4kb hne0 hne1 hne2 hne3 hne4 hne5
      have hc276 : (if (own_cat kb c1 c2 c3 c4) = (own_cat ka c1 c2 c3 c4) ∧ (own_mk nb ib) = (own_mk na p2) ∧ (own_mk vb jb) = (own_mk va p3) then (1 : Int32) else (0 : Int32)) = (0 : Int32) := by
       have q0 := hcat275
       clear hcat275
       rw [if_neg fun z => absurd ((if_pos z.2.1.symm).symm.trans hc260) (by decide)]
      refine go (S' := T274.setTop (mkF m 340 #[si p1, si p2, si p3, si p4, si p5, si p6, si ka, si q7, si kb, si na, si va, si q11, si q12, si nb, si ib, si vb, si jb, sr b188, si (p6 &&& (3 : Int32)), sr b229, si 0] [(.int 1)])) (fun t k => XS.icmpNo X274.here hx rfl (hb hby at_332) rfl (teq hc276).2 (XS.iconst X274.here hx rfl (hb hby at_335) (XS.goto X274.here hx rfl (pc0 := 336) (pc' := 340) rfl (hb hby at_336) (by decide) (by decide) k))) ?_
      refine finNW X274 hx hk (t := .boolean) hret (by simp) hS hkS hZ (own_EW hw) C256 e274 (hb hby at_340) (by decide) (by decide) ?_
      exact ⟨rfl, N274, K257⟩
     ·
      refine go (S' := T259.setTop (mkF m 298 #[si p1, si p2, si p3, si p4, si p5, si p6, si ka, si q7, si kb, si na, si va, si q11, si q12, si nb, si ib, si vb, si jb, sr b188, si (p6 &&& (3 : Int32)), sr b229, .unset] [(.int jb), (.int vb), (.int p3), (.int va)])) (fun t k => XS.ifNo X259.here hx rfl (hb hby at_288) rfl ((if0 _ _).trans (feq hc260).1) (XS.iload X259.here hx rfl (hb hby at_291) rfl (XS.iloadN X259.here hx rfl (hb hby at_293) rfl (XS.iload X259.here hx rfl (hb hby at_294) rfl (XS.iload X259.here hx rfl (hb hby at_296) rfl k))))) ?_
      obtain ⟨v277, T277, L277, X277, hQ277, st277⟩ := callSt X259 hx hZ (y := y_6) hown (ww hw 77 rfl) (ww hw 78 rfl) (ww hw 2 rfl) (ww hw 79 rfl) (by decide) (backOf (W := 0) (rmSs l Z a0 hw [] va p3 vb jb T255.heap n0 (Nat.le_trans Z0 K257.1) h3va h3vb) hZ (ww hw 79 rfl) (ww hw 2 rfl) (by decide) (by decide)) (g := (mkF m 298 #[si p1, si p2, si p3, si p4, si p5, si p6, si ka, si q7, si kb, si na, si va, si q11, si q12, si nb, si ib, si vb, si jb, sr b188, si (p6 &&& (3 : Int32)), sr b229, .unset] [(.int jb), (.int vb), (.int p3), (.int va)])) rfl (by rw [hml]; rfl) (kc := 0) (ks := 0) (argsL := [(.int va), (.int p3), (.int vb), (.int jb)]) (rest := []) (lenOf pd_7 rfl) rfl (mr0 rfl) (hb hby at_298) e259 (by decide) (by decide)
      obtain ⟨rfl, N277q, e277⟩ := hQ277
      have N277 := Fr.app N259 N277q
      refine go (S' := T277.setTop (mkF m 301 #[si p1, si p2, si p3, si p4, si p5, si p6, si ka, si q7, si kb, si na, si va, si q11, si q12, si nb, si ib, si vb, si jb, sr b188, si (p6 &&& (3 : Int32)), sr b229, .unset] [(.int (if (own_mk va p3) = (own_mk vb jb) then (1 : Int32) else (0 : Int32)))])) st277 ?_
      by_cases hc278 : (if (own_mk va p3) = (own_mk vb jb) then (1 : Int32) else (0 : Int32)) = (0 : Int32)
      ·
       refine go (S' := T277.setTop (mkF m 315 #[si p1, si p2, si p3, si p4, si p5, si p6, si ka, si q7, si kb, si na, si va, si q11, si q12, si nb, si ib, si vb, si jb, sr b188, si (p6 &&& (3 : Int32)), sr b229, si 0] [(.ref b229), (.ref b188)])) (fun t k => XS.ifYes X277.here hx rfl (pc0 := 301) (pc' := 308) rfl (hb hby at_301) rfl ((if0 _ _).trans (teq hc278).1) (by decide) (by decide) (XS.iconst X277.here hx rfl (hb hby at_308) (XS.istore X277.here hx rfl (hb hby at_309) rfl (l' := #[si p1, si p2, si p3, si p4, si p5, si p6, si ka, si q7, si kb, si na, si va, si q11, si q12, si nb, si ib, si vb, si jb, sr b188, si (p6 &&& (3 : Int32)), sr b229, si 0]) rfl (XS.aload X277.here hx rfl (hb hby at_311) rfl rfl (XS.aload X277.here hx rfl (hb hby at_313) rfl rfl k))))) ?_
       have f279 : Exa Z T255.heap b229 "com/example/sallyport/sallyport/AttributeKey" := (f251.keep Kq255)
       have f280 : Fld Z T255.heap b188 "com/example/sallyport/sallyport/AttributeKey" "category" "Lcom/example/sallyport/sallyport/AttributeCategory;" (.ref (own_cat ka c1 c2 c3 c4)) := ((((q205_0.ext E229).keep Kq237 nin0).keep Kq244 nin0).keep Kq255 (ninS (Nat.ne_of_lt lt_b188_b229) nin0))
       have f281 : Fld Z T255.heap b188 "com/example/sallyport/sallyport/AttributeKey" "attributeId" "Ljava/lang/String;" (.ref x_193) := ((((q205_1.ext E229).keep Kq237 nin0).keep Kq244 nin0).keep Kq255 (ninS (Nat.ne_of_lt lt_b188_b229) nin0))
       have f282 : Fld Z T255.heap b188 "com/example/sallyport/sallyport/AttributeKey" "value" "Ljava/lang/String;" (.ref x_197) := ((((q205_2.ext E229).keep Kq237 nin0).keep Kq244 nin0).keep Kq255 (ninS (Nat.ne_of_lt lt_b188_b229) nin0))
       have f283 : Str Z T255.heap x_193 t_193 (0 : Int32) (own_mk na p2) := ((f246.keep Kq244 nin0 nin0).keep Kq255 (ninS (Nat.ne_of_lt lt_x_193_b229) nin0) (ninS (Nat.ne_of_lt lt_t_193_b229) nin0))
       have f284 : Str Z T255.heap x_197 t_197 (0 : Int32) (own_mk va p3) := ((f247.keep Kq244 nin0 nin0).keep Kq255 (ninS (Nat.ne_of_lt lt_x_197_b229) nin0) (ninS (Nat.ne_of_lt lt_t_197_b229) nin0))
       have f285 : Str Z T255.heap x_237 t_237 (0 : Int32) (own_mk nb ib) := ((q237_1.keep Kq244 nin0 nin0).keep Kq255 (ninS (Nat.ne_of_gt lt_b229_x_237) nin0) (ninS ne_t_237_b229 nin0))
       have f286 : Str Z T255.heap x_244 t_244 (0 : Int32) (own_mk vb jb) := (q244_1.keep Kq255 (ninS (Nat.ne_of_gt lt_b229_x_244) nin0) (ninS ne_t_244_b229 nin0))
       have O287 : Old Z n0 T255.heap := O0.keep K257 all0
       have f289 : Exa Z T255.heap b188 "com/example/sallyport/sallyport/AttributeKey" := ((f245.keep Kq244).keep Kq255)
       obtain ⟨v288, T288, L288, X288, hQ288, st288⟩ := callV X277 hx hZ (y := y_8) (z := y_8) hown (ww hw 48 rfl) (ww hw 49 rfl) (notFace_of_selects (args := #[]) (mvT hZ (ww hw 51 rfl))) (ww hw 51 rfl) (ww hw 50 rfl) (by decide) (backOf (W := 0) (rmEq l Z a0 hw [] b188 b229 (own_cat ka c1 c2 c3 c4) x_193 x_197 (own_cat kb c1 c2 c3 c4) x_237 x_244 t_193 t_237 t_197 t_244 (own_mk na p2) (own_mk va p3) (own_mk nb ib) (own_mk vb jb) G1 T255.heap n0 (Nat.le_trans Z0 K257.1) f279 f280 f281 f282 q255_0 q255_1 q255_2 f283 f284 f285 f286 hp0 hG1 O287) hZ (ww hw 52 rfl) (ww hw 6 rfl) (by decide) (by decide)) f289 (g := (mkF m 315 #[si p1, si p2, si p3, si p4, si p5, si p6, si ka, si q7, si kb, si na, si va, si q11, si q12, si nb, si ib, si vb, si jb, sr b188, si (p6 &&& (3 : Int32)), sr b229, si 0] [(.ref b229), (.ref b188)])) rfl (by rw [hml]; rfl) (kc := 0) (ks := 0) (argsL := [(.ref b229)]) (rest := []) (lenOf pd_2 rfl) rfl (mr0 rfl) (hb hby at_315) e277 (by decide) (by decide)
       obtain ⟨rfl, N288q, e288⟩ := hQ288
       have N288 := Fr.app N277 N288q
       refine go (S' := T288.setTop (mkF m 320 #[si p1, si p2, si p3, si p4, si p5, si p6, si ka, si q7, si kb, si na, si va, si q11, si q12, si nb, si ib, si vb, si jb, sr b188, si (p6 &&& (3 : Int32)), sr b229, si 0] [(.int 0), (.int (if (own_cat ka c1 c2 c3 c4) = (own_cat kb c1 c2 c3 c4) ∧ (own_mk na p2) = (own_mk nb ib) ∧ (own_mk va p3) = (own_mk vb jb) then (1 : Int32) else (0 : Int32)))])) (fun t k => st288 _ (XS.iload X288.here hx rfl (hb hby at_318) rfl k)) ?_
       have hcat290 := own_cat_eq h4ka h4kb hne0 hne1 hne2 hne3 hne4 hne5
       have hc291 : (if (own_cat ka c1 c2 c3 c4) = (own_cat kb c1 c2 c3 c4) ∧ (own_mk na p2) = (own_mk nb ib) ∧ (own_mk va p3) = (own_mk vb jb) then (1 : Int32) else (0 : Int32)) = (0 : Int32) := by
        have q0 := hcat290
        clear hcat290
        rw [if_neg fun z => absurd ((if_pos z.2.2).symm.trans hc278) (by decide)]
       refine go (S' := T288.setTop (mkF m 327 #[si p1, si p2, si p3, si p4, si p5, si p6, si ka, si q7, si kb, si na, si va, si q11, si q12, si nb, si ib, si vb, si jb, sr b188, si (p6 &&& (3 : Int32)), sr b229, si 0] [(.ref b188), (.ref b229)])) (fun t k => XS.icmpNo X288.here hx rfl (hb hby at_320) rfl (teq hc291).2 (XS.aload X288.here hx rfl (hb hby at_323) rfl rfl (XS.aload X288.here hx rfl (hb hby at_325) rfl rfl k))) ?_
       obtain ⟨v292, T292, L292, X292, hQ292, st292⟩ := callV X288 hx hZ (y := y_8) (z := y_8) hown (ww hw 48 rfl) (ww hw 49 rfl) (notFace_of_selects (args := #[]) (mvT hZ (ww hw 51 rfl))) (ww hw 51 rfl) (ww hw 50 rfl) (by decide) (backOf (W := 0) (rmEq l Z a0 hw [] b229 b188 (own_cat kb c1 c2 c3 c4) x_237 x_244 (own_cat ka c1 c2 c3 c4) x_193 x_197 t_237 t_193 t_244 t_197 (own_mk nb ib) (own_mk vb jb) (own_mk na p2) (own_mk va p3) G1 T255.heap n0 (Nat.le_trans Z0 K257.1) f289 q255_0 q255_1 q255_2 f280 f281 f282 f285 f286 f283 f284 hp0 hG1 O287) hZ (ww hw 52 rfl) (ww hw 6 rfl) (by decide) (by decide)) f279 (g := (mkF m 327 #[si p1, si p2, si p3, si p4, si p5, si p6, si ka, si q7, si kb, si na, si va, si q11, si q12, si nb, si ib, si vb, si jb, sr b188, si (p6 &&& (3 : Int32)), sr b229, si 0] [(.ref b188), (.ref b229)])) rfl (by rw [hml]; rfl) (kc := 0) (ks := 0) (argsL := [(.ref b188)]) (rest := []) (lenOf pd_2 rfl) rfl (mr0 rfl) (hb hby at_327) e288 (by decide) (by decide)
       obtain ⟨rfl, N292q, e292⟩ := hQ292
       have N292 := Fr.app N288 N292q
       refine go (S' := T292.setTop (mkF m 332 #[si p1, si p2, si p3, si p4, si p5, si p6, si ka, si q7, si kb, si na, si va, si q11, si q12, si nb, si ib, si vb, si jb, sr b188, si (p6 &&& (3 : Int32)), sr b229, si 0] [(.int 0), (.int (if (own_cat kb c1 c2 c3 c4) = (own_cat ka c1 c2 c3 c4) ∧ (own_mk nb ib) = (own_mk na p2) ∧ (own_mk vb jb) = (own_mk va p3) then (1 : Int32) else (0 : Int32)))])) (fun t k => st292 _ (XS.iload X292.here hx rfl (hb hby at_330) rfl k)) ?_
       have hcat293 := own_cat_eq h4ka h4kb hne0 hne1 hne2 hne3 hne4 hne5
       have hc294 : (if (own_cat kb c1 c2 c3 c4) = (own_cat ka c1 c2 c3 c4) ∧ (own_mk nb ib) = (own_mk na p2) ∧ (own_mk vb jb) = (own_mk va p3) then (1 : Int32) else (0 : Int32)) = (0 : Int32) := by
        have q0 := hcat293
        clear hcat293
        rw [if_neg fun z => absurd ((if_pos z.2.2.symm).symm.trans hc278) (by decide)]
       refine go (S' := T292.setTop (mkF m 340 #[si p1, si p2, si p3, si p4, si p5, si p6, si ka, si q7, si kb, si na, si va, si q11, si q12, si nb, si ib, si vb, si jb, sr b188, si (p6 &&& (3 : Int32)), sr b229, si 0] [(.int 1)])) (fun t k => XS.icmpNo X292.here hx rfl (hb hby at_332) rfl (teq hc294).2 (XS.iconst X292.here hx rfl (hb hby at_335) (XS.goto X292.here hx rfl (pc0 := 336) (pc' := 340) rfl (hb hby at_336) (by decide) (by decide) k))) ?_
       refine finNW X292 hx hk (t := .boolean) hret (by simp) hS hkS hZ (own_EW hw) C256 e292 (hb hby at_340) (by decide) (by decide) ?_
       exact ⟨rfl, N292, K257⟩
      ·
       refine go (S' := T277.setTop (mkF m 315 #[si p1, si p2, si p3, si p4, si p5, si p6, si ka, si q7, si kb, si na, si va, si q11, si q12, si nb, si ib, si vb, si jb, sr b188, si (p6 &&& (3 : Int32)), sr b229, si 1] [(.ref b229), (.ref b188)])) (fun t k => XS.ifNo X277.here hx rfl (hb hby at_301) rfl ((if0 _ _).trans (feq hc278).1) (XS.iconst X277.here hx rfl (hb hby at_304) (XS.goto X277.here hx rfl (pc0 := 305) (pc' := 309) rfl (hb hby at_305) (by decide) (by decide) (XS.istore X277.here hx rfl (hb hby at_309) rfl (l' := #[si p1, si p2, si p3, si p4, si p5, si p6, si ka, si q7, si kb, si na, si va, si q11, si q12, si nb, si ib, si vb, si jb, sr b188, si (p6 &&& (3 : Int32)), sr b229, si 1]) rfl (XS.aload X277.here hx rfl (hb hby at_311) rfl rfl (XS.aload X277.here hx rfl (hb hby at_313) rfl rfl k)))))) ?_
       have f295 : Exa Z T255.heap b229 "com/example/sallyport/sallyport/AttributeKey" := (f251.keep Kq255)
       have f296 : Fld Z T255.heap b188 "com/example/sallyport/sallyport/AttributeKey" "category" "Lcom/example/sallyport/sallyport/AttributeCategory;" (.ref (own_cat ka c1 c2 c3 c4)) := ((((q205_0.ext E229).keep Kq237 nin0).keep Kq244 nin0).keep Kq255 (ninS (Nat.ne_of_lt lt_b188_b229) nin0))
       have f297 : Fld Z T255.heap b188 "com/example/sallyport/sallyport/AttributeKey" "attributeId" "Ljava/lang/String;" (.ref x_193) := ((((q205_1.ext E229).keep Kq237 nin0).keep Kq244 nin0).keep Kq255 (ninS (Nat.ne_of_lt lt_b188_b229) nin0))
       have f298 : Fld Z T255.heap b188 "com/example/sallyport/sallyport/AttributeKey" "value" "Ljava/lang/String;" (.ref x_197) := ((((q205_2.ext E229).keep Kq237 nin0).keep Kq244 nin0).keep Kq255 (ninS (Nat.ne_of_lt lt_b188_b229) nin0))
       have f299 : Str Z T255.heap x_193 t_193 (0 : Int32) (own_mk na p2) := ((f246.keep Kq244 nin0 nin0).keep Kq255 (ninS (Nat.ne_of_lt lt_x_193_b229) nin0) (ninS (Nat.ne_of_lt lt_t_193_b229) nin0))
       have f300 : Str Z T255.heap x_197 t_197 (0 : Int32) (own_mk va p3) := ((f247.keep Kq244 nin0 nin0).keep Kq255 (ninS (Nat.ne_of_lt lt_x_197_b229) nin0) (ninS (Nat.ne_of_lt lt_t_197_b229) nin0))
       have f301 : Str Z T255.heap x_237 t_237 (0 : Int32) (own_mk nb ib) := ((q237_1.keep Kq244 nin0 nin0).keep Kq255 (ninS (Nat.ne_of_gt lt_b229_x_237) nin0) (ninS ne_t_237_b229 nin0))
       have f302 : Str Z T255.heap x_244 t_244 (0 : Int32) (own_mk vb jb) := (q244_1.keep Kq255 (ninS (Nat.ne_of_gt lt_b229_x_244) nin0) (ninS ne_t_244_b229 nin0))
       have O303 : Old Z n0 T255.heap := O0.keep K257 all0
       have f305 : Exa Z T255.heap b188 "com/example/sallyport/sallyport/AttributeKey" := ((f245.keep Kq244).keep Kq255)
       obtain ⟨v304, T304, L304, X304, hQ304, st304⟩ := callV X277 hx hZ (y := y_8) (z := y_8) hown (ww hw 48 rfl) (ww hw 49 rfl) (notFace_of_selects (args := #[]) (mvT hZ (ww hw 51 rfl))) (ww hw 51 rfl) (ww hw 50 rfl) (by decide) (backOf (W := 0) (rmEq l Z a0 hw [] b188 b229 (own_cat ka c1 c2 c3 c4) x_193 x_197 (own_cat kb c1 c2 c3 c4) x_237 x_244 t_193 t_237 t_197 t_244 (own_mk na p2) (own_mk va p3) (own_mk nb ib) (own_mk vb jb) G1 T255.heap n0 (Nat.le_trans Z0 K257.1) f295 f296 f297 f298 q255_0 q255_1 q255_2 f299 f300 f301 f302 hp0 hG1 O303) hZ (ww hw 52 rfl) (ww hw 6 rfl) (by decide) (by decide)) f305 (g := (mkF m 315 #[si p1, si p2, si p3, si p4, si p5, si p6, si ka, si q7, si kb, si na, si va, si q11, si q12, si nb, si ib, si vb, si jb, sr b188, si (p6 &&& (3 : Int32)), sr b229, si 1] [(.ref b229), (.ref b188)])) rfl (by rw [hml]; rfl) (kc := 0) (ks := 0) (argsL := [(.ref b229)]) (rest := []) (lenOf pd_2 rfl) rfl (mr0 rfl) (hb hby at_315) e277 (by decide) (by decide)
       obtain ⟨rfl, N304q, e304⟩ := hQ304
       have N304 := Fr.app N277 N304q
       refine go (S' := T304.setTop (mkF m 320 #[si p1, si p2, si p3, si p4, si p5, si p6, si ka, si q7, si kb, si na, si va, si q11, si q12, si nb, si ib, si vb, si jb, sr b188, si (p6 &&& (3 : Int32)), sr b229, si 1] [(.int 1), (.int (if (own_cat ka c1 c2 c3 c4) = (own_cat kb c1 c2 c3 c4) ∧ (own_mk na p2) = (own_mk nb ib) ∧ (own_mk va p3) = (own_mk vb jb) then (1 : Int32) else (0 : Int32)))])) (fun t k => st304 _ (XS.iload X304.here hx rfl (hb hby at_318) rfl k)) ?_
       have hcat306 := own_cat_eq h4ka h4kb hne0 hne1 hne2 hne3 hne4 hne5
       have hc307 : (if (own_cat ka c1 c2 c3 c4) = (own_cat kb c1 c2 c3 c4) ∧ (own_mk na p2) = (own_mk nb ib) ∧ (own_mk va p3) = (own_mk vb jb) then (1 : Int32) else (0 : Int32)) = (1 : Int32) := by
        have q0 := hcat306
        clear hcat306
        rw [if_pos ⟨(q0.mpr hc258), (Classical.byContradiction fun z => hc260 (if_neg z) : (own_mk na p2) = (own_mk nb ib)), (Classical.byContradiction fun z => hc278 (if_neg z) : (own_mk va p3) = (own_mk vb jb))⟩]
       refine go (S' := T304.setTop (mkF m 327 #[si p1, si p2, si p3, si p4, si p5, si p6, si ka, si q7, si kb, si na, si va, si q11, si q12, si nb, si ib, si vb, si jb, sr b188, si (p6 &&& (3 : Int32)), sr b229, si 1] [(.ref b188), (.ref b229)])) (fun t k => XS.icmpNo X304.here hx rfl (hb hby at_320) rfl (teq hc307).2 (XS.aload X304.here hx rfl (hb hby at_323) rfl rfl (XS.aload X304.here hx rfl (hb hby at_325) rfl rfl k))) ?_
       obtain ⟨v308, T308, L308, X308, hQ308, st308⟩ := callV X304 hx hZ (y := y_8) (z := y_8) hown (ww hw 48 rfl) (ww hw 49 rfl) (notFace_of_selects (args := #[]) (mvT hZ (ww hw 51 rfl))) (ww hw 51 rfl) (ww hw 50 rfl) (by decide) (backOf (W := 0) (rmEq l Z a0 hw [] b229 b188 (own_cat kb c1 c2 c3 c4) x_237 x_244 (own_cat ka c1 c2 c3 c4) x_193 x_197 t_237 t_193 t_244 t_197 (own_mk nb ib) (own_mk vb jb) (own_mk na p2) (own_mk va p3) G1 T255.heap n0 (Nat.le_trans Z0 K257.1) f305 q255_0 q255_1 q255_2 f296 f297 f298 f301 f302 f299 f300 hp0 hG1 O303) hZ (ww hw 52 rfl) (ww hw 6 rfl) (by decide) (by decide)) f295 (g := (mkF m 327 #[si p1, si p2, si p3, si p4, si p5, si p6, si ka, si q7, si kb, si na, si va, si q11, si q12, si nb, si ib, si vb, si jb, sr b188, si (p6 &&& (3 : Int32)), sr b229, si 1] [(.ref b188), (.ref b229)])) rfl (by rw [hml]; rfl) (kc := 0) (ks := 0) (argsL := [(.ref b188)]) (rest := []) (lenOf pd_2 rfl) rfl (mr0 rfl) (hb hby at_327) e304 (by decide) (by decide)
       obtain ⟨rfl, N308q, e308⟩ := hQ308
       have N308 := Fr.app N304 N308q
       refine go (S' := T308.setTop (mkF m 332 #[si p1, si p2, si p3, si p4, si p5, si p6, si ka, si q7, si kb, si na, si va, si q11, si q12, si nb, si ib, si vb, si jb, sr b188, si (p6 &&& (3 : Int32)), sr b229, si 1] [(.int 1), (.int (if (own_cat kb c1 c2 c3 c4) = (own_cat ka c1 c2 c3 c4) ∧ (own_mk nb ib) = (own_mk na p2) ∧ (own_mk vb jb) = (own_mk va p3) then (1 : Int32) else (0 : Int32)))])) (fun t k => st308 _ (XS.iload X308.here hx rfl (hb hby at_330) rfl k)) ?_
       have hcat309 := own_cat_eq h4ka h4kb hne0 hne1 hne2 hne3 hne4 hne5
       have hc310 : (if (own_cat kb c1 c2 c3 c4) = (own_cat ka c1 c2 c3 c4) ∧ (own_mk nb ib) = (own_mk na p2) ∧ (own_mk vb jb) = (own_mk va p3) then (1 : Int32) else (0 : Int32)) = (1 : Int32) := by
        have q0 := hcat309
        clear hcat309
        rw [if_pos ⟨(q0.mpr hc258).symm, (Classical.byContradiction fun z => hc260 (if_neg z) : (own_mk na p2) = (own_mk nb ib)).symm, (Classical.byContradiction fun z => hc278 (if_neg z) : (own_mk va p3) = (own_mk vb jb)).symm⟩]
       refine go (S' := T308.setTop (mkF m 340 #[si p1, si p2, si p3, si p4, si p5, si p6, si ka, si q7, si kb, si na, si va, si q11, si q12, si nb, si ib, si vb, si jb, sr b188, si (p6 &&& (3 : Int32)), sr b229, si 1] [(.int 1)])) (fun t k => XS.icmpNo X308.here hx rfl (hb hby at_332) rfl (teq hc310).2 (XS.iconst X308.here hx rfl (hb hby at_335) (XS.goto X308.here hx rfl (pc0 := 336) (pc' := 340) rfl (hb hby at_336) (by decide) (by decide) k))) ?_
       refine finNW X308 hx hk (t := .boolean) hret (by simp) hS hkS hZ (own_EW hw) C256 e308 (hb hby at_340) (by decide) (by decide) ?_
       exact ⟨rfl, N308, K257⟩
    ·
     refine go (S' := T255.setTop (mkF m 315 #[si p1, si p2, si p3, si p4, si p5, si p6, si ka, si q7, si kb, si na, si va, si q11, si q12, si nb, si ib, si vb, si jb, sr b188, si (p6 &&& (3 : Int32)), sr b229, si 0] [(.ref b229), (.ref b188)])) (fun t k => XS.icmpYes X255.here hx rfl (pc0 := 275) (pc' := 308) rfl (hb hby at_275) rfl (feq hc258).2 (by decide) (by decide) (XS.iconst X255.here hx rfl (hb hby at_308) (XS.istore X255.here hx rfl (hb hby at_309) rfl (l' := #[si p1, si p2, si p3, si p4, si p5, si p6, si ka, si q7, si kb, si na, si va, si q11, si q12, si nb, si ib, si vb, si jb, sr b188, si (p6 &&& (3 : Int32)), sr b229, si 0]) rfl (XS.aload X255.here hx rfl (hb hby at_311) rfl rfl (XS.aload X255.here hx rfl (hb hby at_313) rfl rfl k))))) ?_
     have f311 : Exa Z T255.heap b229 "com/example/sallyport/sallyport/AttributeKey" := (f251.keep Kq255)
     have f312 : Fld Z T255.heap b188 "com/example/sallyport/sallyport/AttributeKey" "category" "Lcom/example/sallyport/sallyport/AttributeCategory;" (.ref (own_cat ka c1 c2 c3 c4)) := ((((q205_0.ext E229).keep Kq237 nin0).keep Kq244 nin0).keep Kq255 (ninS (Nat.ne_of_lt lt_b188_b229) nin0))
     have f313 : Fld Z T255.heap b188 "com/example/sallyport/sallyport/AttributeKey" "attributeId" "Ljava/lang/String;" (.ref x_193) := ((((q205_1.ext E229).keep Kq237 nin0).keep Kq244 nin0).keep Kq255 (ninS (Nat.ne_of_lt lt_b188_b229) nin0))
     have f314 : Fld Z T255.heap b188 "com/example/sallyport/sallyport/AttributeKey" "value" "Ljava/lang/String;" (.ref x_197) := ((((q205_2.ext E229).keep Kq237 nin0).keep Kq244 nin0).keep Kq255 (ninS (Nat.ne_of_lt lt_b188_b229) nin0))
     have f315 : Str Z T255.heap x_193 t_193 (0 : Int32) (own_mk na p2) := ((f246.keep Kq244 nin0 nin0).keep Kq255 (ninS (Nat.ne_of_lt lt_x_193_b229) nin0) (ninS (Nat.ne_of_lt lt_t_193_b229) nin0))
     have f316 : Str Z T255.heap x_197 t_197 (0 : Int32) (own_mk va p3) := ((f247.keep Kq244 nin0 nin0).keep Kq255 (ninS (Nat.ne_of_lt lt_x_197_b229) nin0) (ninS (Nat.ne_of_lt lt_t_197_b229) nin0))
     have f317 : Str Z T255.heap x_237 t_237 (0 : Int32) (own_mk nb ib) := ((q237_1.keep Kq244 nin0 nin0).keep Kq255 (ninS (Nat.ne_of_gt lt_b229_x_237) nin0) (ninS ne_t_237_b229 nin0))
     have f318 : Str Z T255.heap x_244 t_244 (0 : Int32) (own_mk vb jb) := (q244_1.keep Kq255 (ninS (Nat.ne_of_gt lt_b229_x_244) nin0) (ninS ne_t_244_b229 nin0))
     have O319 : Old Z n0 T255.heap := O0.keep K257 all0
     have f321 : Exa Z T255.heap b188 "com/example/sallyport/sallyport/AttributeKey" := ((f245.keep Kq244).keep Kq255)
     obtain ⟨v320, T320, L320, X320, hQ320, st320⟩ := callV X255 hx hZ (y := y_8) (z := y_8) hown (ww hw 48 rfl) (ww hw 49 rfl) (notFace_of_selects (args := #[]) (mvT hZ (ww hw 51 rfl))) (ww hw 51 rfl) (ww hw 50 rfl) (by decide) (backOf (W := 0) (rmEq l Z a0 hw [] b188 b229 (own_cat ka c1 c2 c3 c4) x_193 x_197 (own_cat kb c1 c2 c3 c4) x_237 x_244 t_193 t_237 t_197 t_244 (own_mk na p2) (own_mk va p3) (own_mk nb ib) (own_mk vb jb) G1 T255.heap n0 (Nat.le_trans Z0 K257.1) f311 f312 f313 f314 q255_0 q255_1 q255_2 f315 f316 f317 f318 hp0 hG1 O319) hZ (ww hw 52 rfl) (ww hw 6 rfl) (by decide) (by decide)) f321 (g := (mkF m 315 #[si p1, si p2, si p3, si p4, si p5, si p6, si ka, si q7, si kb, si na, si va, si q11, si q12, si nb, si ib, si vb, si jb, sr b188, si (p6 &&& (3 : Int32)), sr b229, si 0] [(.ref b229), (.ref b188)])) rfl (by rw [hml]; rfl) (kc := 0) (ks := 0) (argsL := [(.ref b229)]) (rest := []) (lenOf pd_2 rfl) rfl (mr0 rfl) (hb hby at_315) rfl (by decide) (by decide)
     obtain ⟨rfl, N320q, e320⟩ := hQ320
     have N320 := Fr.app N255 N320q
     refine go (S' := T320.setTop (mkF m 320 #[si p1, si p2, si p3, si p4, si p5, si p6, si ka, si q7, si kb, si na, si va, si q11, si q12, si nb, si ib, si vb, si jb, sr b188, si (p6 &&& (3 : Int32)), sr b229, si 0] [(.int 0), (.int (if (own_cat ka c1 c2 c3 c4) = (own_cat kb c1 c2 c3 c4) ∧ (own_mk na p2) = (own_mk nb ib) ∧ (own_mk va p3) = (own_mk vb jb) then (1 : Int32) else (0 : Int32)))])) (fun t k => st320 _ (XS.iload X320.here hx rfl (hb hby at_318) rfl k)) ?_
     have hcat322 := own_cat_eq h4ka h4kb hne0 hne1 hne2 hne3 hne4 hne5
     have hc323 : (if (own_cat ka c1 c2 c3 c4) = (own_cat kb c1 c2 c3 c4) ∧ (own_mk na p2) = (own_mk nb ib) ∧ (own_mk va p3) = (own_mk vb jb) then (1 : Int32) else (0 : Int32)) = (0 : Int32) := by
      have q0 := hcat322
      clear hcat322
      rw [if_neg fun z => hc258 (q0.mp z.1)]
     refine go (S' := T320.setTop (mkF m 327 #[si p1, si p2, si p3, si p4, si p5, si p6, si ka, si q7, si kb, si na, si va, si q11, si q12, si nb, si ib, si vb, si jb, sr b188, si (p6 &&& (3 : Int32)), sr b229, si 0] [(.ref b188), (.ref b229)])) (fun t k => XS.icmpNo X320.here hx rfl (hb hby at_320) rfl (teq hc323).2 (XS.aload X320.here hx rfl (hb hby at_323) rfl rfl (XS.aload X320.here hx rfl (hb hby at_325) rfl rfl k))) ?_
     obtain ⟨v324, T324, L324, X324, hQ324, st324⟩ := callV X320 hx hZ (y := y_8) (z := y_8) hown (ww hw 48 rfl) (ww hw 49 rfl) (notFace_of_selects (args := #[]) (mvT hZ (ww hw 51 rfl))) (ww hw 51 rfl) (ww hw 50 rfl) (by decide) (backOf (W := 0) (rmEq l Z a0 hw [] b229 b188 (own_cat kb c1 c2 c3 c4) x_237 x_244 (own_cat ka c1 c2 c3 c4) x_193 x_197 t_237 t_193 t_244 t_197 (own_mk nb ib) (own_mk vb jb) (own_mk na p2) (own_mk va p3) G1 T255.heap n0 (Nat.le_trans Z0 K257.1) f321 q255_0 q255_1 q255_2 f312 f313 f314 f317 f318 f315 f316 hp0 hG1 O319) hZ (ww hw 52 rfl) (ww hw 6 rfl) (by decide) (by decide)) f311 (g := (mkF m 327 #[si p1, si p2, si p3, si p4, si p5, si p6, si ka, si q7, si kb, si na, si va, si q11, si q12, si nb, si ib, si vb, si jb, sr b188, si (p6 &&& (3 : Int32)), sr b229, si 0] [(.ref b188), (.ref b229)])) rfl (by rw [hml]; rfl) (kc := 0) (ks := 0) (argsL := [(.ref b188)]) (rest := []) (lenOf pd_2 rfl) rfl (mr0 rfl) (hb hby at_327) e320 (by decide) (by decide)
     obtain ⟨rfl, N324q, e324⟩ := hQ324
     have N324 := Fr.app N320 N324q
     refine go (S' := T324.setTop (mkF m 332 #[si p1, si p2, si p3, si p4, si p5, si p6, si ka, si q7, si kb, si na, si va, si q11, si q12, si nb, si ib, si vb, si jb, sr b188, si (p6 &&& (3 : Int32)), sr b229, si 0] [(.int 0), (.int (if (own_cat kb c1 c2 c3 c4) = (own_cat ka c1 c2 c3 c4) ∧ (own_mk nb ib) = (own_mk na p2) ∧ (own_mk vb jb) = (own_mk va p3) then (1 : Int32) else (0 : Int32)))])) (fun t k => st324 _ (XS.iload X324.here hx rfl (hb hby at_330) rfl k)) ?_
     have hcat325 := own_cat_eq h4ka h4kb hne0 hne1 hne2 hne3 hne4 hne5
     have hc326 : (if (own_cat kb c1 c2 c3 c4) = (own_cat ka c1 c2 c3 c4) ∧ (own_mk nb ib) = (own_mk na p2) ∧ (own_mk vb jb) = (own_mk va p3) then (1 : Int32) else (0 : Int32)) = (0 : Int32) := by
      have q0 := hcat325
      clear hcat325
      rw [if_neg fun z => hc258 (q0.mp z.1.symm)]
     refine go (S' := T324.setTop (mkF m 340 #[si p1, si p2, si p3, si p4, si p5, si p6, si ka, si q7, si kb, si na, si va, si q11, si q12, si nb, si ib, si vb, si jb, sr b188, si (p6 &&& (3 : Int32)), sr b229, si 0] [(.int 1)])) (fun t k => XS.icmpNo X324.here hx rfl (hb hby at_332) rfl (teq hc326).2 (XS.iconst X324.here hx rfl (hb hby at_335) (XS.goto X324.here hx rfl (pc0 := 336) (pc' := 340) rfl (hb hby at_336) (by decide) (by decide) k))) ?_
     refine finNW X324 hx hk (t := .boolean) hret (by simp) hS hkS hZ (own_EW hw) C256 e324 (hb hby at_340) (by decide) (by decide) ?_
     exact ⟨rfl, N324, K257⟩
set_option maxRecDepth 65536 in
set_option maxHeartbeats 40000000 in
theorem comes_1 {Post : Tables → Env → Array Value → State → Outcome → State → Prop} (hpost : ∀ tb e args s v u, (limb_1_1.after args s (.returned v) u = true ∧ limb_1_2.after args s (.returned v) u = true ∧ True) → ReturnedEndW s (.returned v) u (Jvm.fieldLocs frame_1_writes args s ++ Jvm.arrayLocs frame_1_arrays args s ++ Jvm.staticLocs frame_1_statics s) 40 1216 → Post tb e args s (.returned v) u) :
    ArmFor flags0 classFile x code maxLocals ret World_1 tables_1 room_1 Calls_1 rest_1 Pre_1 Post := by
  intro l hfl _ _ p e ha hc hk s m args below hf hA hF happ hP
  obtain ⟨hcalls, hrest, hpre⟩ := hP
  obtain ⟨-, -, -, hnamed, -, -, -, hat⟩ := (Spec.applies_iff hf).mp happ
  obtain ⟨hg, hn⟩ := and_e (Cond.before_iff.mp (show (Jvm.Cond.and given_1 narrow_1).before args s = true from hpre))
  obtain ⟨hcount, hg0⟩ := and_e hg
  obtain ⟨ha0, hg1⟩ := and_e hg0
  obtain ⟨ha1, hg2⟩ := and_e hg1
  obtain ⟨ha2, hg3⟩ := and_e hg2
  obtain ⟨ha3, hg4⟩ := and_e hg3
  obtain ⟨ha4, hg5⟩ := and_e hg4
  have ha5 := hg5
  obtain ⟨w0, w1, w2, w3, w4, w5, rfl⟩ : ∃ w0 w1 w2 w3 w4 w5 : Value, args = #[w0, w1, w2, w3, w4, w5] := by
    have hs : args.size = 6 := by simpa [Cond.value, given_1] using hcount
    obtain ⟨L⟩ := args
    match L, hs with
    | [w0, w1, w2, w3, w4, w5], _ => exact ⟨w0, w1, w2, w3, w4, w5, rfl⟩
  have hw := fun d (hd : d ∈ tables_1) => atoms_spec (ws := Jvm.Cond.code x code maxLocals ret :: tables_1) hat d (List.mem_cons_of_mem _ hd)
  obtain ⟨hsets, hown0⟩ := atoms_of _ (rest_1_c_eq ▸ (show rest_1_c.before _ s = true from hrest))
  obtain ⟨i0, ei0⟩ := is_v ha0
  obtain rfl : w0 = (.int i0) := Option.some.inj ei0
  obtain ⟨i1, ei1⟩ := is_v ha1
  obtain rfl : w1 = (.int i1) := Option.some.inj ei1
  obtain ⟨i2, ei2⟩ := is_v ha2
  obtain rfl : w2 = (.int i2) := Option.some.inj ei2
  obtain ⟨i3, ei3⟩ := is_v ha3
  obtain rfl : w3 = (.int i3) := Option.some.inj ei3
  obtain ⟨i4, ei4⟩ := is_v ha4
  obtain rfl : w4 = (.int i4) := Option.some.inj ei4
  obtain ⟨i5, ei5⟩ := is_v ha5
  obtain rfl : w5 = (.int i5) := Option.some.inj ei5
  obtain ⟨hn_0, hr_0⟩ := and_e hn
  obtain ⟨hn_1, hr_1⟩ := and_e hr_0
  obtain ⟨hn_2, hr_2⟩ := and_e hr_1
  obtain ⟨hn_3, hr_3⟩ := and_e hr_2
  obtain ⟨hn_4, hr_4⟩ := and_e hr_3
  obtain ⟨hn_5, hr_5⟩ := and_e hr_4
  obtain ⟨hn_6, hr_6⟩ := and_e hr_5
  have hn_7 := hr_6
  obtain ⟨g327, eg327⟩ := is_v (Cond.before_iff.mp (hsets _ (List.mem_of_getElem? (i := 1) rfl)))
  have sg327 : Sta s s.heap "java/lang/String" "COMPACT_STRINGS" "Z" (.int g327) := Sta.start eg327 (Or.inl (hsets _ (List.mem_of_getElem? (i := 0) rfl)))
  obtain ⟨g328, eg328⟩ := exa_v hn_0
  have xg328 := Exa.start eg328 hn_0
  have sg328 : Sta s s.heap "com/example/sallyport/sallyport/AttributeCategory" "SUBJECT" "Lcom/example/sallyport/sallyport/AttributeCategory;" (.ref g328) := Sta.start eg328 (Or.inr ⟨(ww hw 11 rfl), (ww hw 12 rfl)⟩)
  obtain ⟨g329, eg329⟩ := exa_v hn_1
  have xg329 := Exa.start eg329 hn_1
  have sg329 : Sta s s.heap "com/example/sallyport/sallyport/AttributeCategory" "RESOURCE" "Lcom/example/sallyport/sallyport/AttributeCategory;" (.ref g329) := Sta.start eg329 (Or.inr ⟨(ww hw 11 rfl), (ww hw 63 rfl)⟩)
  obtain ⟨g330, eg330⟩ := exa_v hn_3
  have xg330 := Exa.start eg330 hn_3
  have sg330 : Sta s s.heap "com/example/sallyport/sallyport/AttributeCategory" "ACTION" "Lcom/example/sallyport/sallyport/AttributeCategory;" (.ref g330) := Sta.start eg330 (Or.inr ⟨(ww hw 11 rfl), (ww hw 86 rfl)⟩)
  obtain ⟨g331, eg331⟩ := exa_v hn_2
  have xg331 := Exa.start eg331 hn_2
  have sg331 : Sta s s.heap "com/example/sallyport/sallyport/AttributeCategory" "ENVIRONMENT" "Lcom/example/sallyport/sallyport/AttributeCategory;" (.ref g331) := Sta.start eg331 (Or.inr ⟨(ww hw 11 rfl), (ww hw 76 rfl)⟩)
  have c332 : ¬ (g327 = (0 : Int32)) := gotF (Cond.eq_ints eg327 (Term.int_eval (0))) (not_v (Cond.before_iff.mp (hsets _ (List.mem_of_getElem? (i := 2) rfl))))
  have eo0 := eqInt_v hn_4
  have fo0 := Fld.start ((fld_at eg328).symm.trans eo0)
  have eo1 := eqInt_v hn_6
  have fo1 := Fld.start ((fld_at eg329).symm.trans eo1)
  have eo2 := eqInt_v hn_5
  have fo2 := Fld.start ((fld_at eg330).symm.trans eo2)
  have eo3 := eqInt_v hn_7
  have fo3 := Fld.start ((fld_at eg331).symm.trans eo3)
  have hCH : CHv s consts_1 s.vm s.heap := CHv.start (own_EW hw) (fun p hp => hcalls.1 p hp) (show Jvm.Lit.compactW.before _ s = true from hsets _ (List.mem_of_getElem? (i := 2) rfl)) (ww hw 31 rfl) (ww hw 17 rfl)
  obtain ⟨n, o, h1, h2, h3, _, L, rfl, ⟨rfl, N, -⟩, -, hq⟩ := rmLaw l s _ hw tables_1 i0 i1 i2 i3 i4 i5 g327 g328 g329 g330 g331 s.heap s.heap.size (Nat.le_refl _) sg327 c332 sg328 sg329 sg330 sg331 (Fld.ne fo0 fo1 (by decide)) (Fld.ne fo0 fo2 (by decide)) (Fld.ne fo0 fo3 (by decide)) (Fld.ne fo1 fo2 (by decide)) (Fld.ne fo1 fo3 (by decide)) (Fld.ne fo2 fo3 (by decide)) (Old.start s) p e ha hc hk s m _ below hf ((Spec.applies_iff_loose hf).mp happ).1 ⟨rfl, State.Warmed39.refl s, rfl, hCH, all0⟩ trivial
  refine ⟨n, _, h1, h2, h3, hpost _ _ _ _ _ _ ⟨Cond.after_iff.mpr rfl, Cond.after_iff.mpr (eq_i res_at (Term.int_eval (1)) rfl), trivial⟩ ⟨hq.1, hq.2.1, hq.2.2.1, (hq.2.2.2.sift fun y hy => Or.inr (N y hy)).mono (by decide) (by decide)⟩⟩
theorem main_1_1 : Claimed_1_1 := comes_1 fun _ _ _ _ _ _ h hF => ⟨h.1, hF⟩
theorem main_1_2 : Claimed_1_2 := comes_1 fun _ _ _ _ _ _ h hF => ⟨h.2.1, hF⟩
end Jvm.Pilot.@@N@@
namespace Jvm.Pilot.@@N@@
open Jvm Jvm.ClassFile Sem Op Lib Jvm.Free Jvm.Stand Jvm.Pilot.@@N@@.Jvm.D
/-! MADE BY PROGRAM (witnessworld.py) out of the Statement's table words and the real class files: 22 classes; the members and pool entries that the words name. The judged class is class 1, her method 5. -/
namespace start1
open Jvm.ClassFile
def u (s : String) : CpInfo := .utf8 (stringToUtf16 s)
/-- a pool by its gaps: so many unusable entries, then the entry; so many at the end -/
def gap : Nat → List CpInfo → List CpInfo
  | 0, r => r
  | n + 1, r => .unusable :: gap n r
def poolList (es : List (Nat × CpInfo)) (last : Nat) : List CpInfo := es.foldr (fun e r => gap e.1 (e.2 :: r)) (gap last [])
def pool (es : List (Nat × CpInfo)) (last : Nat) : Array CpInfo := ⟨poolList es last⟩
def fileOf (pool : Array CpInfo) (this : Nat) (attrs : Array Attribute := #[]) (ms : Array MethodInfo := #[]) (fl : Nat := 33) (sup : Nat := 0) (ifs : Array Nat := #[]) (fds : Array FieldInfo := #[]) : ClassFile where
  minorVersion := 0
  majorVersion := 65
  constantPool := pool
  accessFlags := fl
  thisClass := this
  superClass := sup
  interfaces := ifs
  fields := fds
  methods := ms
  attributes := attrs
def plain (name : String) (sup : Option ClassId) : Class where
  name := name
  kind := .ordinary
  loader := none
  accessFlags := 33
  super := sup
  interfaces := #[]
  cf := none
  fields := #[]
  methods := #[]
  instanceTypes := #[]
  staticTypes := #[]
  resolved := #[]
  callSites := []
  init := .initialized
  statics := none
  mirror := none

def pool0 : Array CpInfo := pool [(5, u "<init>"), (0, u "()V"), (1, .class_ 10), (1, u "java/lang/Object")] 113

def k0c0 : Code := { maxStack := 0, maxLocals := 1, code := object_method_1_code, exceptionTable := #[], attributes := #[] }
def k0m0 : Method := { name := "<init>", desc := "()V", sig := { parameters := [], returnType := none }, accessFlags := 1, code := some k0c0 }
/-- java/lang/Object -/
def k0 : Class := { plain "java/lang/Object" none with
  accessFlags := 33
  interfaces := #[]
  cf := some (fileOf pool0 8 #[] #[{ accessFlags := 1, nameIndex := 5, descriptorIndex := 6, attributes := #[] }] 33 0 #[] #[])
  fields := #[]
  methods := #[k0m0]
  instanceTypes := #[]
  staticTypes := #[]
  resolved := Array.replicate 124 none
  statics := none }

def pool1 : Array CpInfo := pool [(2, .class_ 4), (1, u "java/lang/Object"), (0, u "<init>"), (0, u "()V"), (0, .fieldref 8 9), (0, .class_ 10), (0, .nameAndType 11 12), (0, u "com/example/sallyport/sallyport/AttributeCategory"), (0, u "SUBJECT"), (0, u "Lcom/example/sallyport/sallyport/AttributeCategory;"), (0, .fieldref 8 14), (0, .nameAndType 15 12), (0, u "RESOURCE"), (0, .fieldref 8 17), (0, .nameAndType 18 12), (0, u "ACTION"), (0, .fieldref 8 20), (0, .nameAndType 21 12), (0, u "ENVIRONMENT"), (0, .class_ 23), (0, u "java/lang/String"), (0, .methodref 22 25), (0, .nameAndType 5 26), (0, u "([C)V"), (0, .methodref 28 29), (0, .class_ 30), (0, .nameAndType 31 32), (0, u "com/example/sallyport/sallyport/AttributeKeyEqualsPinLaw"), (0, u "len"), (0, u "(I)I"), (0, .class_ 34), (0, u "com/example/sallyport/sallyport/AttributeKey"), (0, .methodref 28 36), (0, .nameAndType 37 38), (0, u "cat"), (0, u "(I)Lcom/example/sallyport/sallyport/AttributeCategory;"), (0, .methodref 28 40), (0, .nameAndType 41 42), (0, u "str"), (0, u "(II)Ljava/lang/String;"), (0, .methodref 33 44), (0, .nameAndType 5 45), (0, u "(Lcom/example/sallyport/sallyport/AttributeCategory;Ljava/lang/String;Ljava/lang/String;)V"), (0, .methodref 33 47), (0, .nameAndType 48 49), (0, u "equals"), (0, u "(Ljava/lang/Object;)Z"), (0, .methodref 28 51), (0, .nameAndType 52 53), (0, u "same"), (0, u "(IIII)Z"), (3, u "law"), (0, u "(IIIIII)Z")] 2

def k1m0 : Method := { name := "<init>", desc := "()V", sig := { parameters := [], returnType := none }, accessFlags := 1, code := none }
def k1c1 : Code := { maxStack := 2, maxLocals := 2, code := method_2_code, exceptionTable := #[], attributes := #[] }
def k1m1 : Method := { name := "cat", desc := "(I)Lcom/example/sallyport/sallyport/AttributeCategory;", sig := { parameters := [.int], returnType := some (.object "com/example/sallyport/sallyport/AttributeCategory") }, accessFlags := 10, code := some k1c1 }
def k1c2 : Code := { maxStack := 2, maxLocals := 1, code := method_3_code, exceptionTable := #[], attributes := #[] }
def k1m2 : Method := { name := "len", desc := "(I)I", sig := { parameters := [.int], returnType := some .int }, accessFlags := 10, code := some k1c2 }
def k1c3 : Code := { maxStack := 6, maxLocals := 4, code := method_4_code, exceptionTable := #[], attributes := #[] }
def k1m3 : Method := { name := "str", desc := "(II)Ljava/lang/String;", sig := { parameters := [.int, .int], returnType := some (.object "java/lang/String") }, accessFlags := 10, code := some k1c3 }
def k1c4 : Code := { maxStack := 3, maxLocals := 4, code := method_5_code, exceptionTable := #[], attributes := #[] }
def k1m4 : Method := { name := "same", desc := "(IIII)Z", sig := { parameters := [.int, .int, .int, .int], returnType := some .boolean }, accessFlags := 10, code := some k1c4 }
def k1c5 : Code := { maxStack := 6, maxLocals := 21, code := code, exceptionTable := #[], attributes := #[] }
def k1m5 : Method := { name := "law", desc := "(IIIIII)Z", sig := { parameters := [.int, .int, .int, .int, .int, .int], returnType := some .boolean }, accessFlags := 9, code := some k1c5 }
/-- com/example/sallyport/sallyport/AttributeKeyEqualsPinLaw -/
def k1 : Class := { plain "com/example/sallyport/sallyport/AttributeKeyEqualsPinLaw" (some 0) with
  accessFlags := 49
  interfaces := #[]
  cf := some (fileOf pool1 28 #[] #[{ accessFlags := 1, nameIndex := 5, descriptorIndex := 6, attributes := #[] }, { accessFlags := 10, nameIndex := 37, descriptorIndex := 38, attributes := #[] }, { accessFlags := 10, nameIndex := 31, descriptorIndex := 32, attributes := #[] }, { accessFlags := 10, nameIndex := 41, descriptorIndex := 42, attributes := #[] }, { accessFlags := 10, nameIndex := 52, descriptorIndex := 53, attributes := #[] }, { accessFlags := 9, nameIndex := 57, descriptorIndex := 58, attributes := #[] }] 49 2 #[] #[])
  fields := #[]
  methods := #[k1m0, k1m1, k1m2, k1m3, k1m4, k1m5]
  instanceTypes := #[]
  staticTypes := #[]
  resolved := Array.replicate 61 none
  statics := none }

def pool2 : Array CpInfo := pool [(1, .methodref 2 3), (0, .class_ 4), (0, .nameAndType 5 6), (0, u "java/lang/Object"), (0, u "<init>"), (0, u "()V"), (0, .fieldref 8 9), (0, .class_ 10), (0, .nameAndType 11 12), (0, u "com/example/sallyport/sallyport/AttributeKey"), (0, u "category"), (0, u "Lcom/example/sallyport/sallyport/AttributeCategory;"), (0, .fieldref 8 14), (0, .nameAndType 15 16), (0, u "attributeId"), (0, u "Ljava/lang/String;"), (0, .fieldref 8 18), (0, .nameAndType 19 16), (0, u "value"), (0, .methodref 21 22), (0, .class_ 23), (0, .nameAndType 24 25), (0, u "java/lang/String"), (0, u "equals"), (0, u "(Ljava/lang/Object;)Z"), (6, u "(Lcom/example/sallyport/sallyport/AttributeCategory;Ljava/lang/String;Ljava/lang/String;)V")] 9

def k2c0 : Code := { maxStack := 2, maxLocals := 4, code := prog_5_method_1_code, exceptionTable := #[], attributes := #[] }
def k2m0 : Method := { name := "<init>", desc := "(Lcom/example/sallyport/sallyport/AttributeCategory;Ljava/lang/String;Ljava/lang/String;)V", sig := { parameters := [(.object "com/example/sallyport/sallyport/AttributeCategory"), (.object "java/lang/String"), (.object "java/lang/String")], returnType := none }, accessFlags := 0, code := some k2c0 }
def k2c1 : Code := { maxStack := 2, maxLocals := 2, code := prog_5_method_5_code, exceptionTable := #[], attributes := #[] }
def k2m1 : Method := { name := "equals", desc := "(Ljava/lang/Object;)Z", sig := { parameters := [(.object "java/lang/Object")], returnType := some .boolean }, accessFlags := 1, code := some k2c1 }
/-- com/example/sallyport/sallyport/AttributeKey -/
def k2 : Class := { plain "com/example/sallyport/sallyport/AttributeKey" (some 0) with
  accessFlags := 48
  interfaces := #[]
  cf := some (fileOf pool2 8 #[] #[{ accessFlags := 0, nameIndex := 5, descriptorIndex := 32, attributes := #[] }, { accessFlags := 1, nameIndex := 24, descriptorIndex := 25, attributes := #[] }] 48 2 #[] #[{ accessFlags := 18, nameIndex := 11, descriptorIndex := 12, attributes := #[] }, { accessFlags := 18, nameIndex := 15, descriptorIndex := 16, attributes := #[] }, { accessFlags := 18, nameIndex := 19, descriptorIndex := 16, attributes := #[] }])
  fields := #[{ name := "category", type := (.object "com/example/sallyport/sallyport/AttributeCategory"), accessFlags := 18, slot := 0, constantValue := 0 }, { name := "attributeId", type := (.object "java/lang/String"), accessFlags := 18, slot := 1, constantValue := 0 }, { name := "value", type := (.object "java/lang/String"), accessFlags := 18, slot := 2, constantValue := 0 }]
  methods := #[k2m0, k2m1]
  instanceTypes := #[(.object "com/example/sallyport/sallyport/AttributeCategory"), (.object "java/lang/String"), (.object "java/lang/String")]
  staticTypes := #[]
  resolved := Array.replicate 42 none
  statics := none }

def pool3 : Array CpInfo := pool [(1, .class_ 2), (0, u "java/lang/constant/Constable"), (0, .class_ 4), (0, u "java/lang/Object")] 6

/-- java/lang/constant/Constable -/
def k3 : Class := { plain "java/lang/constant/Constable" (some 0) with
  accessFlags := 1537
  interfaces := #[]
  cf := some (fileOf pool3 1 #[] #[] 1537 3 #[] #[])
  fields := #[]
  methods := #[]
  instanceTypes := #[]
  staticTypes := #[]
  resolved := Array.replicate 11 none
  statics := none }

def pool4 : Array CpInfo := pool [(1, .class_ 2), (0, u "java/lang/Comparable"), (0, .class_ 4), (0, u "java/lang/Object")] 7

/-- java/lang/Comparable -/
def k4 : Class := { plain "java/lang/Comparable" (some 0) with
  accessFlags := 1537
  interfaces := #[]
  cf := some (fileOf pool4 1 #[] #[] 1537 3 #[] #[])
  fields := #[]
  methods := #[]
  instanceTypes := #[]
  staticTypes := #[]
  resolved := Array.replicate 12 none
  statics := none }

def pool5 : Array CpInfo := pool [(1, .class_ 2), (0, u "java/io/Serializable"), (0, .class_ 4), (0, u "java/lang/Object")] 2

/-- java/io/Serializable -/
def k5 : Class := { plain "java/io/Serializable" (some 0) with
  accessFlags := 1537
  interfaces := #[]
  cf := some (fileOf pool5 1 #[] #[] 1537 3 #[] #[])
  fields := #[]
  methods := #[]
  instanceTypes := #[]
  staticTypes := #[]
  resolved := Array.replicate 7 none
  statics := none }

def pool6 : Array CpInfo := pool [(2, .class_ 4), (1, u "java/lang/Enum"), (0, u "name"), (0, u "Ljava/lang/String;"), (2, u "ordinal"), (0, u "I"), (1, .class_ 14), (1, u "java/lang/Object"), (4, u "hash"), (86, .class_ 108), (1, u "java/lang/Enum$EnumDesc"), (2, .class_ 112), (0, u "java/lang/constant/Constable"), (0, .class_ 114), (0, u "java/lang/Comparable"), (0, .class_ 116), (0, u "java/io/Serializable")] 87

/-- java/lang/Enum -/
def k6 : Class := { plain "java/lang/Enum" (some 0) with
  accessFlags := 1057
  interfaces := #[3, 4, 5]
  cf := some (fileOf pool6 2 #[.nestMembers #[106]] #[] 1057 12 #[111, 113, 115] #[{ accessFlags := 18, nameIndex := 5, descriptorIndex := 6, attributes := #[] }, { accessFlags := 18, nameIndex := 9, descriptorIndex := 10, attributes := #[] }, { accessFlags := 2, nameIndex := 19, descriptorIndex := 10, attributes := #[] }])
  fields := #[{ name := "name", type := (.object "java/lang/String"), accessFlags := 18, slot := 0, constantValue := 0 }, { name := "ordinal", type := .int, accessFlags := 18, slot := 1, constantValue := 0 }, { name := "hash", type := .int, accessFlags := 2, slot := 2, constantValue := 0 }]
  methods := #[]
  instanceTypes := #[(.object "java/lang/String"), .int, .int]
  staticTypes := #[]
  resolved := Array.replicate 204 none
  statics := none }

def pool7 : Array CpInfo := pool [(1, .class_ 2), (0, u "com/example/sallyport/sallyport/AttributeCategory"), (2, u "SUBJECT"), (0, u "Lcom/example/sallyport/sallyport/AttributeCategory;"), (2, u "RESOURCE"), (2, u "ACTION"), (2, u "ENVIRONMENT"), (2, u "$VALUES"), (0, u "[Lcom/example/sallyport/sallyport/AttributeCategory;"), (6, .class_ 28), (1, u "java/lang/Enum"), (8, u "elementName"), (0, u "Ljava/lang/String;"), (25, u "ACCESS_SUBJECT")] 34

/-- com/example/sallyport/sallyport/AttributeCategory -/
def k7 : Class := { plain "com/example/sallyport/sallyport/AttributeCategory" (some 6) with
  accessFlags := 16432
  interfaces := #[]
  cf := some (fileOf pool7 1 #[] #[] 16432 26 #[] #[{ accessFlags := 16409, nameIndex := 5, descriptorIndex := 6, attributes := #[] }, { accessFlags := 16409, nameIndex := 9, descriptorIndex := 6, attributes := #[] }, { accessFlags := 16409, nameIndex := 12, descriptorIndex := 6, attributes := #[] }, { accessFlags := 16409, nameIndex := 15, descriptorIndex := 6, attributes := #[] }, { accessFlags := 26, nameIndex := 64, descriptorIndex := 38, attributes := #[] }, { accessFlags := 18, nameIndex := 37, descriptorIndex := 38, attributes := #[] }, { accessFlags := 4122, nameIndex := 18, descriptorIndex := 19, attributes := #[] }])
  fields := #[{ name := "SUBJECT", type := (.object "com/example/sallyport/sallyport/AttributeCategory"), accessFlags := 16409, slot := 0, constantValue := 0 }, { name := "RESOURCE", type := (.object "com/example/sallyport/sallyport/AttributeCategory"), accessFlags := 16409, slot := 1, constantValue := 0 }, { name := "ACTION", type := (.object "com/example/sallyport/sallyport/AttributeCategory"), accessFlags := 16409, slot := 2, constantValue := 0 }, { name := "ENVIRONMENT", type := (.object "com/example/sallyport/sallyport/AttributeCategory"), accessFlags := 16409, slot := 3, constantValue := 0 }, { name := "ACCESS_SUBJECT", type := (.object "java/lang/String"), accessFlags := 26, slot := 4, constantValue := 0 }, { name := "elementName", type := (.object "java/lang/String"), accessFlags := 18, slot := 3, constantValue := 0 }, { name := "$VALUES", type := (.array (.object "com/example/sallyport/sallyport/AttributeCategory")), accessFlags := 4122, slot := 5, constantValue := 0 }]
  methods := #[]
  instanceTypes := #[(.object "java/lang/String"), .int, .int, (.object "java/lang/String")]
  staticTypes := #[(.object "com/example/sallyport/sallyport/AttributeCategory"), (.object "com/example/sallyport/sallyport/AttributeCategory"), (.object "com/example/sallyport/sallyport/AttributeCategory"), (.object "com/example/sallyport/sallyport/AttributeCategory"), (.object "java/lang/String"), (.array (.object "com/example/sallyport/sallyport/AttributeCategory"))]
  resolved := Array.replicate 99 none
  statics := some 0 }

def pool8 : Array CpInfo := pool [(2, .class_ 4), (1, u "java/lang/CharSequence"), (42, .class_ 48), (0, u "java/lang/CharSequence$1CodePointIterator"), (10, .class_ 60), (0, u "java/lang/CharSequence$1CharIterator"), (5, .class_ 67), (0, u "java/lang/Object")] 63

/-- java/lang/CharSequence -/
def k8 : Class := { plain "java/lang/CharSequence" (some 0) with
  accessFlags := 1537
  interfaces := #[]
  cf := some (fileOf pool8 2 #[.nestMembers #[47, 59]] #[] 1537 66 #[] #[])
  fields := #[]
  methods := #[]
  instanceTypes := #[]
  staticTypes := #[]
  resolved := Array.replicate 131 none
  statics := none }

def pool9 : Array CpInfo := pool [(1, .class_ 2), (0, u "java/lang/constant/ConstantDesc"), (0, .class_ 4), (0, u "java/lang/Object")] 32

/-- java/lang/constant/ConstantDesc -/
def k9 : Class := { plain "java/lang/constant/ConstantDesc" (some 0) with
  accessFlags := 1537
  interfaces := #[]
  cf := some (fileOf pool9 1 #[] #[] 1537 3 #[] #[])
  fields := #[]
  methods := #[]
  instanceTypes := #[]
  staticTypes := #[]
  resolved := Array.replicate 37 none
  statics := none }

def pool10 : Array CpInfo := pool [(1, .methodref 2 3), (0, .class_ 4), (0, .nameAndType 5 6), (0, u "java/lang/Object"), (0, u "<init>"), (0, u "()V"), (0, .string 8), (0, u ""), (0, .fieldref 10 11), (0, .class_ 12), (0, .nameAndType 13 14), (0, u "java/lang/String"), (0, u "value"), (0, u "[B"), (0, .fieldref 10 16), (0, .nameAndType 17 18), (0, u "coder"), (0, u "B"), (2, u "hash"), (0, u "I"), (2, u "hashIsZero"), (0, u "Z"), (0, .methodref 10 28), (0, .nameAndType 5 29), (0, u "([CIILjava/lang/Void;)V"), (8, .fieldref 10 39), (0, .nameAndType 40 26), (0, u "COMPACT_STRINGS"), (1, .class_ 44), (1, u "java/lang/StringUTF16"), (0, u "compress"), (1, .methodref 42 48), (0, .nameAndType 49 50), (0, u "coderFromArrayLen"), (0, u "([BI)B"), (56, .class_ 109), (1, u "java/lang/StringLatin1"), (67, .methodref 42 178), (0, .nameAndType 45 179), (0, u "([CII)[B"), (361, .methodref 107 542), (0, .nameAndType 543 544), (0, u "equals"), (0, u "([B[B)Z"), (28, u "(Ljava/lang/Object;)Z"), (1, .class_ 576), (0, u "java/lang/CharSequence"), (22, u "CASE_INSENSITIVE_ORDER"), (0, u "Ljava/util/Comparator;"), (409, u "([C)V"), (90, u "serialPersistentFields"), (0, u "[Ljava/io/ObjectStreamField;"), (0, .class_ 1104), (0, u "java/lang/String$CaseInsensitiveComparator"), (1, .class_ 1107), (0, u "java/io/Serializable"), (0, .class_ 1109), (0, u "java/lang/Comparable"), (0, .class_ 1111), (0, u "java/lang/constant/Constable"), (0, .class_ 1113), (0, u "java/lang/constant/ConstantDesc"), (2, u "serialVersionUID"), (0, u "J"), (3, u "REPL"), (0, u "C"), (2, u "LATIN1"), (1, u "UTF16")] 323

def k10m0 : Method := { name := "<init>", desc := "()V", sig := { parameters := [], returnType := none }, accessFlags := 1, code := none }
def k10c1 : Code := { maxStack := 5, maxLocals := 2, code := jdk_42_method_3_code, exceptionTable := #[], attributes := #[] }
def k10m1 : Method := { name := "<init>", desc := "([C)V", sig := { parameters := [(.array .char)], returnType := none }, accessFlags := 1, code := some k10c1 }
def k10c2 : Code := { maxStack := 2, maxLocals := 3, code := jdk_42_method_66_code, exceptionTable := #[], attributes := #[] }
def k10m2 : Method := { name := "equals", desc := "(Ljava/lang/Object;)Z", sig := { parameters := [(.object "java/lang/Object")], returnType := some .boolean }, accessFlags := 1, code := some k10c2 }
def k10c3 : Code := { maxStack := 4, maxLocals := 6, code := jdk_42_method_149_code, exceptionTable := #[], attributes := #[] }
def k10m3 : Method := { name := "<init>", desc := "([CIILjava/lang/Void;)V", sig := { parameters := [(.array .char), .int, .int, (.object "java/lang/Void")], returnType := none }, accessFlags := 2, code := some k10c3 }
/-- java/lang/String -/
def k10 : Class := { plain "java/lang/String" (some 0) with
  accessFlags := 49
  interfaces := #[5, 4, 8, 3, 9]
  cf := some (fileOf pool10 10 #[.nestMembers #[1103]] #[{ accessFlags := 1, nameIndex := 5, descriptorIndex := 6, attributes := #[] }, { accessFlags := 1, nameIndex := 5, descriptorIndex := 1010, attributes := #[] }, { accessFlags := 1, nameIndex := 543, descriptorIndex := 573, attributes := #[] }, { accessFlags := 2, nameIndex := 5, descriptorIndex := 29, attributes := #[] }] 49 2 #[1106, 1108, 575, 1110, 1112] #[{ accessFlags := 18, nameIndex := 13, descriptorIndex := 14, attributes := #[] }, { accessFlags := 18, nameIndex := 17, descriptorIndex := 18, attributes := #[] }, { accessFlags := 2, nameIndex := 21, descriptorIndex := 22, attributes := #[] }, { accessFlags := 2, nameIndex := 25, descriptorIndex := 26, attributes := #[] }, { accessFlags := 26, nameIndex := 1116, descriptorIndex := 1117, attributes := #[] }, { accessFlags := 24, nameIndex := 40, descriptorIndex := 26, attributes := #[] }, { accessFlags := 26, nameIndex := 1101, descriptorIndex := 1102, attributes := #[] }, { accessFlags := 26, nameIndex := 1121, descriptorIndex := 1122, attributes := #[] }, { accessFlags := 25, nameIndex := 599, descriptorIndex := 600, attributes := #[] }, { accessFlags := 24, nameIndex := 1125, descriptorIndex := 18, attributes := #[] }, { accessFlags := 24, nameIndex := 1127, descriptorIndex := 18, attributes := #[] }])
  fields := #[{ name := "value", type := (.array .byte), accessFlags := 18, slot := 0, constantValue := 0 }, { name := "coder", type := .byte, accessFlags := 18, slot := 1, constantValue := 0 }, { name := "hash", type := .int, accessFlags := 2, slot := 2, constantValue := 0 }, { name := "hashIsZero", type := .boolean, accessFlags := 2, slot := 3, constantValue := 0 }, { name := "serialVersionUID", type := .long, accessFlags := 26, slot := 0, constantValue := 0 }, { name := "COMPACT_STRINGS", type := .boolean, accessFlags := 24, slot := 1, constantValue := 0 }, { name := "serialPersistentFields", type := (.array (.object "java/io/ObjectStreamField")), accessFlags := 26, slot := 2, constantValue := 0 }, { name := "REPL", type := .char, accessFlags := 26, slot := 3, constantValue := 0 }, { name := "CASE_INSENSITIVE_ORDER", type := (.object "java/util/Comparator"), accessFlags := 25, slot := 4, constantValue := 0 }, { name := "LATIN1", type := .byte, accessFlags := 24, slot := 5, constantValue := 0 }, { name := "UTF16", type := .byte, accessFlags := 24, slot := 6, constantValue := 0 }]
  methods := #[k10m0, k10m1, k10m2, k10m3]
  instanceTypes := #[(.array .byte), .byte, .int, .boolean]
  staticTypes := #[.long, .boolean, (.array (.object "java/io/ObjectStreamField")), .char, (.object "java/util/Comparator"), .byte, .byte]
  resolved := Array.replicate 1451 none
  statics := some 1 }

def pool11 : Array CpInfo := pool [(6, .class_ 8), (1, u "java/lang/Object"), (0, u "<init>"), (0, u "()V"), (1, .class_ 14), (1, u "java/lang/StringUTF16"), (31, u "$assertionsDisabled"), (0, u "Z"), (13, u "HI_BYTE_SHIFT"), (0, u "I"), (2, u "LO_BYTE_SHIFT"), (49, .methodref 12 116), (0, .nameAndType 117 118), (0, u "compress"), (0, u "([CI[BII)I"), (3, u "([CII)[B"), (138, u "coderFromArrayLen"), (0, u "([BI)B"), (106, .class_ 371), (1, u "java/lang/StringUTF16$LinesSpliterator"), (58, u "MAX_LENGTH"), (196, .class_ 628), (0, u "java/lang/StringUTF16$CodePointsSpliterator"), (0, .class_ 630), (0, u "java/lang/StringUTF16$CharsSpliterator")] 4

def k11m0 : Method := { name := "<init>", desc := "()V", sig := { parameters := [], returnType := none }, accessFlags := 0, code := none }
def k11c1 : Code := { maxStack := 2, maxLocals := 2, code := jdk_52_method_15_code, exceptionTable := #[], attributes := #[] }
def k11m1 : Method := { name := "coderFromArrayLen", desc := "([BI)B", sig := { parameters := [(.array .byte), .int], returnType := some .byte }, accessFlags := 8, code := some k11c1 }
def k11c2 : Code := { maxStack := 5, maxLocals := 6, code := jdk_52_method_16_code, exceptionTable := #[], attributes := #[] }
def k11m2 : Method := { name := "compress", desc := "([CII)[B", sig := { parameters := [(.array .char), .int, .int], returnType := some (.array .byte) }, accessFlags := 9, code := some k11c2 }
def k11c3 : Code := { maxStack := 3, maxLocals := 7, code := jdk_52_method_21_code, exceptionTable := #[], attributes := #[] }
def k11m3 : Method := { name := "compress", desc := "([CI[BII)I", sig := { parameters := [(.array .char), .int, (.array .byte), .int, .int], returnType := some .int }, accessFlags := 9, code := some k11c3 }
/-- java/lang/StringUTF16 -/
def k11 : Class := { plain "java/lang/StringUTF16" (some 0) with
  accessFlags := 48
  interfaces := #[]
  cf := some (fileOf pool11 12 #[.nestMembers #[627, 629, 369]] #[{ accessFlags := 0, nameIndex := 9, descriptorIndex := 10, attributes := #[] }, { accessFlags := 8, nameIndex := 261, descriptorIndex := 262, attributes := #[] }, { accessFlags := 9, nameIndex := 117, descriptorIndex := 122, attributes := #[] }, { accessFlags := 9, nameIndex := 117, descriptorIndex := 118, attributes := #[] }] 48 6 #[] #[{ accessFlags := 26, nameIndex := 61, descriptorIndex := 62, attributes := #[] }, { accessFlags := 26, nameIndex := 65, descriptorIndex := 62, attributes := #[] }, { accessFlags := 24, nameIndex := 430, descriptorIndex := 62, attributes := #[] }, { accessFlags := 4120, nameIndex := 46, descriptorIndex := 47, attributes := #[] }])
  fields := #[{ name := "HI_BYTE_SHIFT", type := .int, accessFlags := 26, slot := 0, constantValue := 0 }, { name := "LO_BYTE_SHIFT", type := .int, accessFlags := 26, slot := 1, constantValue := 0 }, { name := "MAX_LENGTH", type := .int, accessFlags := 24, slot := 2, constantValue := 0 }, { name := "$assertionsDisabled", type := .boolean, accessFlags := 4120, slot := 3, constantValue := 0 }]
  methods := #[k11m0, k11m1, k11m2, k11m3]
  instanceTypes := #[]
  staticTypes := #[.int, .int, .int, .boolean]
  resolved := Array.replicate 635 none
  statics := none }

def pool12 : Array CpInfo := pool [(4, .class_ 6), (1, u "java/lang/Object"), (0, u "<init>"), (0, u "()V"), (5, .class_ 16), (1, u "java/lang/StringLatin1"), (104, u "$assertionsDisabled"), (0, u "Z"), (98, .class_ 223), (1, u "java/lang/StringLatin1$LinesSpliterator"), (57, u "equals"), (0, u "([B[B)Z"), (107, .class_ 391), (0, u "java/lang/StringLatin1$CharsSpliterator")] 3

def k12m0 : Method := { name := "<init>", desc := "()V", sig := { parameters := [], returnType := none }, accessFlags := 0, code := none }
def k12c1 : Code := { maxStack := 3, maxLocals := 3, code := jdk_43_method_13_code, exceptionTable := #[], attributes := #[] }
def k12m1 : Method := { name := "equals", desc := "([B[B)Z", sig := { parameters := [(.array .byte), (.array .byte)], returnType := some .boolean }, accessFlags := 9, code := some k12c1 }
/-- java/lang/StringLatin1 -/
def k12 : Class := { plain "java/lang/StringLatin1" (some 0) with
  accessFlags := 48
  interfaces := #[]
  cf := some (fileOf pool12 14 #[.nestMembers #[390, 221]] #[{ accessFlags := 0, nameIndex := 7, descriptorIndex := 8, attributes := #[] }, { accessFlags := 9, nameIndex := 281, descriptorIndex := 282, attributes := #[] }] 48 4 #[] #[{ accessFlags := 4120, nameIndex := 121, descriptorIndex := 122, attributes := #[] }])
  fields := #[{ name := "$assertionsDisabled", type := .boolean, accessFlags := 4120, slot := 0, constantValue := 0 }]
  methods := #[k12m0, k12m1]
  instanceTypes := #[]
  staticTypes := #[.boolean]
  resolved := Array.replicate 395 none
  statics := none }

def pool13 : Array CpInfo := pool [(2, .class_ 4), (1, u "java/lang/Object"), (0, u "<init>"), (0, u "()V"), (17, .class_ 26), (1, u "jdk/internal/util/Preconditions"), (28, .class_ 56), (0, u "jdk/internal/util/Preconditions$4"), (57, .class_ 115), (0, u "jdk/internal/util/Preconditions$1"), (7, u "SIOOBE_FORMATTER"), (0, u "Ljava/util/function/BiFunction;"), (0, .class_ 126), (0, u "jdk/internal/util/Preconditions$2"), (3, u "AIOOBE_FORMATTER"), (0, .class_ 132), (0, u "jdk/internal/util/Preconditions$3"), (3, u "IOOBE_FORMATTER")] 57

def k13m0 : Method := { name := "<init>", desc := "()V", sig := { parameters := [], returnType := none }, accessFlags := 1, code := none }
/-- jdk/internal/util/Preconditions -/
def k13 : Class := { plain "jdk/internal/util/Preconditions" (some 0) with
  accessFlags := 33
  interfaces := #[]
  cf := some (fileOf pool13 24 #[.nestMembers #[55, 131, 125, 114]] #[{ accessFlags := 1, nameIndex := 5, descriptorIndex := 6, attributes := #[] }] 33 2 #[] #[{ accessFlags := 25, nameIndex := 123, descriptorIndex := 124, attributes := #[] }, { accessFlags := 25, nameIndex := 130, descriptorIndex := 124, attributes := #[] }, { accessFlags := 25, nameIndex := 136, descriptorIndex := 124, attributes := #[] }])
  fields := #[{ name := "SIOOBE_FORMATTER", type := (.object "java/util/function/BiFunction"), accessFlags := 25, slot := 0, constantValue := 0 }, { name := "AIOOBE_FORMATTER", type := (.object "java/util/function/BiFunction"), accessFlags := 25, slot := 1, constantValue := 0 }, { name := "IOOBE_FORMATTER", type := (.object "java/util/function/BiFunction"), accessFlags := 25, slot := 2, constantValue := 0 }]
  methods := #[k13m0]
  instanceTypes := #[]
  staticTypes := #[(.object "java/util/function/BiFunction"), (.object "java/util/function/BiFunction"), (.object "java/util/function/BiFunction")]
  resolved := Array.replicate 194 none
  statics := some 2 }

def pool14 : Array CpInfo := pool [(9, u "<init>"), (6, .class_ 18), (1, u "java/lang/Object"), (0, u "()V"), (1, .class_ 23), (1, u "jdk/internal/util/ArraysSupport"), (0, u "LOG2_ARRAY_LONG_INDEX_SCALE"), (0, u "I"), (2, u "U"), (0, u "Ljdk/internal/misc/Unsafe;"), (8, u "BIG_ENDIAN"), (0, u "Z"), (8, u "LOG2_BYTE_BIT_SIZE"), (4, u "LOG2_ARRAY_INT_INDEX_SCALE"), (54, u "JLA"), (0, u "Ljdk/internal/access/JavaLangAccess;"), (11, u "LOG2_ARRAY_BOOLEAN_INDEX_SCALE"), (9, u "LOG2_ARRAY_BYTE_INDEX_SCALE"), (5, u "LOG2_ARRAY_CHAR_INDEX_SCALE"), (5, u "LOG2_ARRAY_SHORT_INDEX_SCALE"), (18, u "LOG2_ARRAY_FLOAT_INDEX_SCALE"), (24, u "LOG2_ARRAY_DOUBLE_INDEX_SCALE"), (89, u "T_BOOLEAN"), (2, u "T_CHAR"), (1, u "T_FLOAT"), (1, u "T_DOUBLE"), (1, u "T_BYTE"), (1, u "T_SHORT"), (1, u "T_INT"), (1, u "T_LONG"), (1, u "SOFT_MAX_ARRAY_LENGTH")] 83

def k14m0 : Method := { name := "<init>", desc := "()V", sig := { parameters := [], returnType := none }, accessFlags := 2, code := none }
/-- jdk/internal/util/ArraysSupport -/
def k14 : Class := { plain "jdk/internal/util/ArraysSupport" (some 0) with
  accessFlags := 33
  interfaces := #[]
  cf := some (fileOf pool14 21 #[] #[{ accessFlags := 2, nameIndex := 9, descriptorIndex := 19, attributes := #[] }] 33 16 #[] #[{ accessFlags := 24, nameIndex := 28, descriptorIndex := 29, attributes := #[] }, { accessFlags := 26, nameIndex := 38, descriptorIndex := 39, attributes := #[] }, { accessFlags := 25, nameIndex := 121, descriptorIndex := 25, attributes := #[] }, { accessFlags := 25, nameIndex := 131, descriptorIndex := 25, attributes := #[] }, { accessFlags := 25, nameIndex := 137, descriptorIndex := 25, attributes := #[] }, { accessFlags := 25, nameIndex := 143, descriptorIndex := 25, attributes := #[] }, { accessFlags := 25, nameIndex := 53, descriptorIndex := 25, attributes := #[] }, { accessFlags := 25, nameIndex := 24, descriptorIndex := 25, attributes := #[] }, { accessFlags := 25, nameIndex := 162, descriptorIndex := 25, attributes := #[] }, { accessFlags := 25, nameIndex := 187, descriptorIndex := 25, attributes := #[] }, { accessFlags := 26, nameIndex := 48, descriptorIndex := 25, attributes := #[] }, { accessFlags := 25, nameIndex := 277, descriptorIndex := 25, attributes := #[] }, { accessFlags := 25, nameIndex := 280, descriptorIndex := 25, attributes := #[] }, { accessFlags := 25, nameIndex := 282, descriptorIndex := 25, attributes := #[] }, { accessFlags := 25, nameIndex := 284, descriptorIndex := 25, attributes := #[] }, { accessFlags := 25, nameIndex := 286, descriptorIndex := 25, attributes := #[] }, { accessFlags := 25, nameIndex := 288, descriptorIndex := 25, attributes := #[] }, { accessFlags := 25, nameIndex := 290, descriptorIndex := 25, attributes := #[] }, { accessFlags := 25, nameIndex := 292, descriptorIndex := 25, attributes := #[] }, { accessFlags := 26, nameIndex := 108, descriptorIndex := 109, attributes := #[] }, { accessFlags := 25, nameIndex := 294, descriptorIndex := 25, attributes := #[] }])
  fields := #[{ name := "U", type := (.object "jdk/internal/misc/Unsafe"), accessFlags := 24, slot := 0, constantValue := 0 }, { name := "BIG_ENDIAN", type := .boolean, accessFlags := 26, slot := 1, constantValue := 0 }, { name := "LOG2_ARRAY_BOOLEAN_INDEX_SCALE", type := .int, accessFlags := 25, slot := 2, constantValue := 0 }, { name := "LOG2_ARRAY_BYTE_INDEX_SCALE", type := .int, accessFlags := 25, slot := 3, constantValue := 0 }, { name := "LOG2_ARRAY_CHAR_INDEX_SCALE", type := .int, accessFlags := 25, slot := 4, constantValue := 0 }, { name := "LOG2_ARRAY_SHORT_INDEX_SCALE", type := .int, accessFlags := 25, slot := 5, constantValue := 0 }, { name := "LOG2_ARRAY_INT_INDEX_SCALE", type := .int, accessFlags := 25, slot := 6, constantValue := 0 }, { name := "LOG2_ARRAY_LONG_INDEX_SCALE", type := .int, accessFlags := 25, slot := 7, constantValue := 0 }, { name := "LOG2_ARRAY_FLOAT_INDEX_SCALE", type := .int, accessFlags := 25, slot := 8, constantValue := 0 }, { name := "LOG2_ARRAY_DOUBLE_INDEX_SCALE", type := .int, accessFlags := 25, slot := 9, constantValue := 0 }, { name := "LOG2_BYTE_BIT_SIZE", type := .int, accessFlags := 26, slot := 10, constantValue := 0 }, { name := "T_BOOLEAN", type := .int, accessFlags := 25, slot := 11, constantValue := 0 }, { name := "T_CHAR", type := .int, accessFlags := 25, slot := 12, constantValue := 0 }, { name := "T_FLOAT", type := .int, accessFlags := 25, slot := 13, constantValue := 0 }, { name := "T_DOUBLE", type := .int, accessFlags := 25, slot := 14, constantValue := 0 }, { name := "T_BYTE", type := .int, accessFlags := 25, slot := 15, constantValue := 0 }, { name := "T_SHORT", type := .int, accessFlags := 25, slot := 16, constantValue := 0 }, { name := "T_INT", type := .int, accessFlags := 25, slot := 17, constantValue := 0 }, { name := "T_LONG", type := .int, accessFlags := 25, slot := 18, constantValue := 0 }, { name := "JLA", type := (.object "jdk/internal/access/JavaLangAccess"), accessFlags := 26, slot := 19, constantValue := 0 }, { name := "SOFT_MAX_ARRAY_LENGTH", type := .int, accessFlags := 25, slot := 20, constantValue := 0 }]
  methods := #[k14m0]
  instanceTypes := #[]
  staticTypes := #[(.object "jdk/internal/misc/Unsafe"), .boolean, .int, .int, .int, .int, .int, .int, .int, .int, .int, .int, .int, .int, .int, .int, .int, .int, .int, (.object "jdk/internal/access/JavaLangAccess"), .int]
  resolved := Array.replicate 378 none
  statics := none }

def pool15 : Array CpInfo := pool [(1, u "java/lang/Cloneable"), (0, .class_ 1), (0, u "java/lang/Object"), (0, .class_ 3)] 3

/-- java/lang/Cloneable -/
def k15 : Class := { plain "java/lang/Cloneable" (some 0) with
  accessFlags := 1537
  interfaces := #[]
  cf := some (fileOf pool15 2 #[] #[] 1537 4 #[] #[])
  fields := #[]
  methods := #[]
  instanceTypes := #[]
  staticTypes := #[]
  resolved := Array.replicate 8 none
  statics := none }

/-- the primitive byte -/
def k16 : Class := { plain "byte" none with kind := .primitive 'B', accessFlags := 0x411 }
/-- [B -/
def k17 : Class := { plain "[B" (some 0) with kind := .array 16 .byte, interfaces := #[15, 5], accessFlags := 1041 }

/-- the primitive char -/
def k18 : Class := { plain "char" none with kind := .primitive 'C', accessFlags := 0x411 }
/-- [C -/
def k19 : Class := { plain "[C" (some 0) with kind := .array 18 .char, interfaces := #[15, 5], accessFlags := 1041 }

/-- the primitive int -/
def k20 : Class := { plain "int" none with kind := .primitive 'I', accessFlags := 0x411 }
/-- [I -/
def k21 : Class := { plain "[I" (some 0) with kind := .array 20 .int, interfaces := #[15, 5], accessFlags := 1041 }

def heap : Heap := #[{ cls := 7, slots := #[.ref 3, .ref 4, .ref 5, .ref 6, .null, .null], vm := .statics 7 },
  { cls := 10, slots := #[.long 0, .int 1, .null, .int 0, .null, .int 0, .int 0], vm := .statics 10 },
  { cls := 13, slots := #[.null, .null, .null], vm := .statics 13 },
  { cls := 7, slots := #[.null, .int 0, .int 0, .null], vm := .none },
  { cls := 7, slots := #[.null, .int 1, .int 0, .null], vm := .none },
  { cls := 7, slots := #[.null, .int 2, .int 0, .null], vm := .none },
  { cls := 7, slots := #[.null, .int 3, .int 0, .null], vm := .none }]
def classes : Array Class := #[k0, k1, k2, k3, k4, k5, k6, k7, k8, k9, k10, k11, k12, k13, k14, k15, k16, k17, k18, k19, k20, k21]
def interned : List (Array UInt16 × Addr) := []
def slotsUsed : Nat := 32
def theMethod : MethodId := ⟨1, 5⟩
def args0 : Array Value := #[.int 5, .int 7, .int 5, .int 1, .int 2, .int 3]
def aboutOver (below : List Frame) : State where
  vm := { classes := classes, interned := interned.toArray }
  heap := heap
  slotsUsed := slotsUsed
  threads := #[{ frames := .invoking theMethod args0 :: below }]
def below0 : List Frame := [.native { method := ⟨0, 0⟩, args := #[] }]
def about1 : State := aboutOver below0
def p0 : Program := .bare "" "" ""
def e0 : Env := launch0.env 0 0 0
theorem w_frames : about1.frames = Frame.invoking theMethod args0 :: below0 := rfl
set_option maxRecDepth 65536 in
theorem w_args : argsFit about1.vm theMethod args0 = true := by decide +kernel
set_option maxRecDepth 65536 in
theorem w_heap : heapFits about1 = true := by decide +kernel
set_option maxRecDepth 65536 in
theorem w_runnable : about1.curStatus? = some .runnable := by decide +kernel
set_option maxRecDepth 65536 in
theorem w_alone : about1.alone = true := by decide +kernel
set_option maxRecDepth 65536 in
theorem w_named : about1.methodNamed? x = some theMethod := by decide +kernel
set_option maxRecDepth 65536 in
theorem w_hears : about1.hears theMethod below0 = true := by decide +kernel
set_option maxRecDepth 65536 in
theorem w_ripe : about1.ripe theMethod args0 below0 = true := by decide +kernel
theorem w_running : about1.status = .running := rfl
set_option maxRecDepth 65536 in
theorem w_room : about1.hasRoom e0.platform room_1 = true :=
  launch0.hasRoom_least _ room_1 (by decide +kernel) (by decide +kernel) (by decide +kernel) (by decide +kernel) (by decide +kernel) (by decide +kernel)
theorem allAtoms_all (ts : List Jvm.Cond) (a : Array Jvm.Value) (st : Jvm.State) : (allAtoms ts).before a st = ts.all (fun c => c.before a st) := by
  induction ts with
  | nil => rfl
  | cons c t ih =>
    show (Jvm.Cond.and c (allAtoms t)).before a st = _
    rw [Jvm.Cond.before_and, ih, List.all_cons]
def words1 : List Jvm.Cond := Jvm.Cond.code x code maxLocals ret :: tables_1
/-- a 'code' word, met by the world's own term for the bytes: nothing is compared byte by byte -/
theorem code_word {y : MethodName} {bytes : ByteArray} {mx : Nat} {rt : Option FieldType} {a : Array Value} {s : State} {m : MethodId} {meth : Method} {c : Code} (h1 : s.methodNamed? y = some m) (h2 : s.vm.method? m = some meth) (h3 : meth.code = some c) (h4 : c.code = bytes)
    (h5 : (c.maxLocals == mx && c.exceptionTable.isEmpty && decide (c.maxStack ≤ mostOperands) && decide (meth.sig.returnType = rt) && !meth.locks && decide (parseMethodDescriptor y.desc = some meth.sig)) = true) : (Jvm.Cond.code y bytes mx rt).before a s = true := by
  simp only [Bool.and_eq_true, beq_iff_eq, Bool.not_eq_true', decide_eq_true_eq] at h5
  obtain ⟨⟨⟨⟨⟨g1, g2⟩, g3⟩, g4⟩, g5⟩, g6⟩ := h5
  simp [Cond.before, Cond.holds, Cond.value, h1, h2, h3, h4, g1, g2, g3, g4, g5, g6]
def isCode : Jvm.Cond → Bool
  | .code _ _ _ _ => true
  | _ => false
theorem all_split {L : List Jvm.Cond} {P : Jvm.Cond → Bool} (h1 : L.all (fun c => isCode c || P c) = true) (h2 : ∀ c ∈ L.filter isCode, P c = true) : L.all P = true := by
  refine List.all_eq_true.mpr fun c hc => ?_
  have h := List.all_eq_true.mp h1 c hc
  rcases Bool.eq_false_or_eq_true (isCode c) with hi | hi
  · exact h2 c (List.mem_filter.mpr ⟨hc, hi⟩)
  · simpa [hi] using h
set_option maxRecDepth 65536 in
theorem w_c0 : (Jvm.Cond.code x code maxLocals ret).before args0 about1 = true := code_word (m := ⟨1, 5⟩) (meth := k1m5) (c := k1c5) (by decide +kernel) rfl rfl rfl (by decide +kernel)
set_option maxRecDepth 65536 in
theorem w_c1 : (Jvm.Cond.code ({ cls := "com/example/sallyport/sallyport/AttributeKeyEqualsPinLaw", name := "len", desc := "(I)I" } : Jvm.MethodName) method_3_code (1 : Nat) (Option.some Jvm.ClassFile.FieldType.int)).before args0 about1 = true := code_word (m := ⟨1, 2⟩) (meth := k1m2) (c := k1c2) (by decide +kernel) rfl rfl rfl (by decide +kernel)
set_option maxRecDepth 65536 in
theorem w_c2 : (Jvm.Cond.code ({ cls := "com/example/sallyport/sallyport/AttributeKeyEqualsPinLaw", name := "cat", desc := "(I)Lcom/example/sallyport/sallyport/AttributeCategory;" } : Jvm.MethodName) method_2_code (2 : Nat) (Option.some (Jvm.ClassFile.FieldType.object "com/example/sallyport/sallyport/AttributeCategory"))).before args0 about1 = true := code_word (m := ⟨1, 1⟩) (meth := k1m1) (c := k1c1) (by decide +kernel) rfl rfl rfl (by decide +kernel)
set_option maxRecDepth 65536 in
theorem w_c3 : (Jvm.Cond.code ({ cls := "com/example/sallyport/sallyport/AttributeKeyEqualsPinLaw", name := "str", desc := "(II)Ljava/lang/String;" } : Jvm.MethodName) method_4_code (4 : Nat) (Option.some (Jvm.ClassFile.FieldType.object "java/lang/String"))).before args0 about1 = true := code_word (m := ⟨1, 3⟩) (meth := k1m3) (c := k1c3) (by decide +kernel) rfl rfl rfl (by decide +kernel)
set_option maxRecDepth 65536 in
theorem w_c4 : (Jvm.Cond.code ({ cls := "java/lang/String", name := "<init>", desc := "([C)V" } : Jvm.MethodName) jdk_42_method_3_code (2 : Nat) (Option.none : Option Jvm.ClassFile.FieldType)).before args0 about1 = true := code_word (m := ⟨10, 1⟩) (meth := k10m1) (c := k10c1) (by decide +kernel) rfl rfl rfl (by decide +kernel)
set_option maxRecDepth 65536 in
theorem w_c5 : (Jvm.Cond.code ({ cls := "java/lang/String", name := "<init>", desc := "([CIILjava/lang/Void;)V" } : Jvm.MethodName) jdk_42_method_149_code (6 : Nat) (Option.none : Option Jvm.ClassFile.FieldType)).before args0 about1 = true := code_word (m := ⟨10, 3⟩) (meth := k10m3) (c := k10c3) (by decide +kernel) rfl rfl rfl (by decide +kernel)
set_option maxRecDepth 65536 in
theorem w_c6 : (Jvm.Cond.code ({ cls := "java/lang/Object", name := "<init>", desc := "()V" } : Jvm.MethodName) object_method_1_code (1 : Nat) (Option.none : Option Jvm.ClassFile.FieldType)).before args0 about1 = true := code_word (m := ⟨0, 0⟩) (meth := k0m0) (c := k0c0) (by decide +kernel) rfl rfl rfl (by decide +kernel)
set_option maxRecDepth 65536 in
theorem w_c7 : (Jvm.Cond.code ({ cls := "com/example/sallyport/sallyport/AttributeKey", name := "<init>", desc := "(Lcom/example/sallyport/sallyport/AttributeCategory;Ljava/lang/String;Ljava/lang/String;)V" } : Jvm.MethodName) prog_5_method_1_code (4 : Nat) (Option.none : Option Jvm.ClassFile.FieldType)).before args0 about1 = true := code_word (m := ⟨2, 0⟩) (meth := k2m0) (c := k2c0) (by decide +kernel) rfl rfl rfl (by decide +kernel)
set_option maxRecDepth 65536 in
theorem w_c8 : (Jvm.Cond.code ({ cls := "com/example/sallyport/sallyport/AttributeKey", name := "equals", desc := "(Ljava/lang/Object;)Z" } : Jvm.MethodName) prog_5_method_5_code (2 : Nat) (Option.some Jvm.ClassFile.FieldType.boolean)).before args0 about1 = true := code_word (m := ⟨2, 1⟩) (meth := k2m1) (c := k2c1) (by decide +kernel) rfl rfl rfl (by decide +kernel)
set_option maxRecDepth 65536 in
theorem w_c9 : (Jvm.Cond.code ({ cls := "java/lang/String", name := "equals", desc := "(Ljava/lang/Object;)Z" } : Jvm.MethodName) jdk_42_method_66_code (3 : Nat) (Option.some Jvm.ClassFile.FieldType.boolean)).before args0 about1 = true := code_word (m := ⟨10, 2⟩) (meth := k10m2) (c := k10c2) (by decide +kernel) rfl rfl rfl (by decide +kernel)
set_option maxRecDepth 65536 in
theorem w_c10 : (Jvm.Cond.code ({ cls := "java/lang/StringUTF16", name := "compress", desc := "([CII)[B" } : Jvm.MethodName) jdk_52_method_16_code (6 : Nat) (Option.some (Jvm.ClassFile.FieldType.array Jvm.ClassFile.FieldType.byte))).before args0 about1 = true := code_word (m := ⟨11, 2⟩) (meth := k11m2) (c := k11c2) (by decide +kernel) rfl rfl rfl (by decide +kernel)
set_option maxRecDepth 65536 in
theorem w_c11 : (Jvm.Cond.code ({ cls := "java/lang/StringUTF16", name := "compress", desc := "([CI[BII)I" } : Jvm.MethodName) jdk_52_method_21_code (7 : Nat) (Option.some Jvm.ClassFile.FieldType.int)).before args0 about1 = true := code_word (m := ⟨11, 3⟩) (meth := k11m3) (c := k11c3) (by decide +kernel) rfl rfl rfl (by decide +kernel)
set_option maxRecDepth 65536 in
theorem w_c12 : (Jvm.Cond.code ({ cls := "java/lang/StringUTF16", name := "coderFromArrayLen", desc := "([BI)B" } : Jvm.MethodName) jdk_52_method_15_code (2 : Nat) (Option.some Jvm.ClassFile.FieldType.byte)).before args0 about1 = true := code_word (m := ⟨11, 1⟩) (meth := k11m1) (c := k11c1) (by decide +kernel) rfl rfl rfl (by decide +kernel)
set_option maxRecDepth 65536 in
theorem w_c13 : (Jvm.Cond.code ({ cls := "com/example/sallyport/sallyport/AttributeKeyEqualsPinLaw", name := "same", desc := "(IIII)Z" } : Jvm.MethodName) method_5_code (4 : Nat) (Option.some Jvm.ClassFile.FieldType.boolean)).before args0 about1 = true := code_word (m := ⟨1, 4⟩) (meth := k1m4) (c := k1c4) (by decide +kernel) rfl rfl rfl (by decide +kernel)
set_option maxRecDepth 65536 in
theorem w_c14 : (Jvm.Cond.code ({ cls := "java/lang/StringLatin1", name := "equals", desc := "([B[B)Z" } : Jvm.MethodName) jdk_43_method_13_code (3 : Nat) (Option.some Jvm.ClassFile.FieldType.boolean)).before args0 about1 = true := code_word (m := ⟨12, 1⟩) (meth := k12m1) (c := k12c1) (by decide +kernel) rfl rfl rfl (by decide +kernel)
def codes1 : List Jvm.Cond := [Jvm.Cond.code x code maxLocals ret, Jvm.Cond.code ({ cls := "com/example/sallyport/sallyport/AttributeKeyEqualsPinLaw", name := "len", desc := "(I)I" } : Jvm.MethodName) method_3_code (1 : Nat) (Option.some Jvm.ClassFile.FieldType.int), Jvm.Cond.code ({ cls := "com/example/sallyport/sallyport/AttributeKeyEqualsPinLaw", name := "cat", desc := "(I)Lcom/example/sallyport/sallyport/AttributeCategory;" } : Jvm.MethodName) method_2_code (2 : Nat) (Option.some (Jvm.ClassFile.FieldType.object "com/example/sallyport/sallyport/AttributeCategory")), Jvm.Cond.code ({ cls := "com/example/sallyport/sallyport/AttributeKeyEqualsPinLaw", name := "str", desc := "(II)Ljava/lang/String;" } : Jvm.MethodName) method_4_code (4 : Nat) (Option.some (Jvm.ClassFile.FieldType.object "java/lang/String")), Jvm.Cond.code ({ cls := "java/lang/String", name := "<init>", desc := "([C)V" } : Jvm.MethodName) jdk_42_method_3_code (2 : Nat) (Option.none : Option Jvm.ClassFile.FieldType), Jvm.Cond.code ({ cls := "java/lang/String", name := "<init>", desc := "([CIILjava/lang/Void;)V" } : Jvm.MethodName) jdk_42_method_149_code (6 : Nat) (Option.none : Option Jvm.ClassFile.FieldType), Jvm.Cond.code ({ cls := "java/lang/Object", name := "<init>", desc := "()V" } : Jvm.MethodName) object_method_1_code (1 : Nat) (Option.none : Option Jvm.ClassFile.FieldType), Jvm.Cond.code ({ cls := "com/example/sallyport/sallyport/AttributeKey", name := "<init>", desc := "(Lcom/example/sallyport/sallyport/AttributeCategory;Ljava/lang/String;Ljava/lang/String;)V" } : Jvm.MethodName) prog_5_method_1_code (4 : Nat) (Option.none : Option Jvm.ClassFile.FieldType), Jvm.Cond.code ({ cls := "com/example/sallyport/sallyport/AttributeKey", name := "equals", desc := "(Ljava/lang/Object;)Z" } : Jvm.MethodName) prog_5_method_5_code (2 : Nat) (Option.some Jvm.ClassFile.FieldType.boolean), Jvm.Cond.code ({ cls := "java/lang/String", name := "equals", desc := "(Ljava/lang/Object;)Z" } : Jvm.MethodName) jdk_42_method_66_code (3 : Nat) (Option.some Jvm.ClassFile.FieldType.boolean), Jvm.Cond.code ({ cls := "java/lang/StringUTF16", name := "compress", desc := "([CII)[B" } : Jvm.MethodName) jdk_52_method_16_code (6 : Nat) (Option.some (Jvm.ClassFile.FieldType.array Jvm.ClassFile.FieldType.byte)), Jvm.Cond.code ({ cls := "java/lang/StringUTF16", name := "compress", desc := "([CI[BII)I" } : Jvm.MethodName) jdk_52_method_21_code (7 : Nat) (Option.some Jvm.ClassFile.FieldType.int), Jvm.Cond.code ({ cls := "java/lang/StringUTF16", name := "coderFromArrayLen", desc := "([BI)B" } : Jvm.MethodName) jdk_52_method_15_code (2 : Nat) (Option.some Jvm.ClassFile.FieldType.byte), Jvm.Cond.code ({ cls := "com/example/sallyport/sallyport/AttributeKeyEqualsPinLaw", name := "same", desc := "(IIII)Z" } : Jvm.MethodName) method_5_code (4 : Nat) (Option.some Jvm.ClassFile.FieldType.boolean), Jvm.Cond.code ({ cls := "java/lang/StringLatin1", name := "equals", desc := "([B[B)Z" } : Jvm.MethodName) jdk_43_method_13_code (3 : Nat) (Option.some Jvm.ClassFile.FieldType.boolean)]
set_option maxRecDepth 65536 in
theorem codes_eq : words1.filter isCode = codes1 := rfl
theorem w_codes : ∀ c ∈ words1.filter isCode, c.before args0 about1 = true := by
  rw [codes_eq]
  intro c hc
  simp only [codes1, List.mem_cons, List.not_mem_nil, or_false] at hc
  rcases hc with rfl | rfl | rfl | rfl | rfl | rfl | rfl | rfl | rfl | rfl | rfl | rfl | rfl | rfl | rfl
  · exact w_c0
  · exact w_c1
  · exact w_c2
  · exact w_c3
  · exact w_c4
  · exact w_c5
  · exact w_c6
  · exact w_c7
  · exact w_c8
  · exact w_c9
  · exact w_c10
  · exact w_c11
  · exact w_c12
  · exact w_c13
  · exact w_c14
set_option maxRecDepth 65536 in
theorem w_t1 : (words1.take 24).all (fun c => isCode c || c.before args0 about1) = true := by decide +kernel
set_option maxRecDepth 65536 in
theorem w_t2 : ((words1.drop 24).take 24).all (fun c => isCode c || c.before args0 about1) = true := by decide +kernel
set_option maxRecDepth 65536 in
theorem w_t3 : (((words1.drop 24).drop 24).take 24).all (fun c => isCode c || c.before args0 about1) = true := by decide +kernel
set_option maxRecDepth 65536 in
theorem w_t4 : (((words1.drop 24).drop 24).drop 24).all (fun c => isCode c || c.before args0 about1) = true := by decide +kernel
theorem w_tables : (allAtoms (Jvm.Cond.code x code maxLocals ret :: tables_1)).before args0 about1 = true := by
  rw [allAtoms_all]
  show words1.all (fun c => c.before args0 about1) = true
  refine all_split ?_ w_codes
  rw [← List.take_append_drop 24 words1, List.all_append, w_t1, ← List.take_append_drop 24 (words1.drop 24), List.all_append, w_t2, ← List.take_append_drop 24 ((words1.drop 24).drop 24), List.all_append, w_t3, w_t4]
  rfl
set_option maxRecDepth 65536 in
theorem w_rest : rest_1_c.before args0 about1 = true := by decide +kernel
set_option maxRecDepth 65536 in
theorem w_case : (Jvm.Cond.and given_1 narrow_1).before args0 about1 = true := by decide +kernel
set_option maxRecDepth 65536 in
theorem w_consts : constsHeld consts_1 about1 := Jvm.Lit.constsHeldB_iff.mp (by decide +kernel)
theorem w_applies : (headSpec (Jvm.Cond.code x code maxLocals ret :: tables_1) room_1).applies x e0.platform about1 = true :=
  (Spec.applies_iff w_frames).mpr ⟨w_running, w_runnable, w_alone, w_named, w_hears, w_ripe, w_room, w_tables⟩
theorem atStart : AtStart classFile x code maxLocals ret World_1 tables_1 room_1 Calls_1 rest_1 Pre_1 launch0 p0 e0 about1 theMethod args0 below0 :=
  ⟨lists_1, trivial, launch0.admits_env _ _ _, launch0.least_env, fairChoices_fair.cas, fairChoices_fair.clock, w_frames, w_args, w_heap, w_applies, ⟨w_consts, trivial⟩, w_rest, w_case⟩
end start1
theorem witness_1 : WitnessClaimed_1 := ⟨start1.p0, start1.e0, start1.about1, start1.theMethod, start1.args0, start1.below0, start1.atStart⟩
end Jvm.Pilot.@@N@@
