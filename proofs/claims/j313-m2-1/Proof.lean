import JvmDerived
import JvmDerived.Pilot.@@N@@Statement
import JvmDerived.Pilot.@@N@@Code
set_option linter.unusedVariables false
set_option linter.unusedSimpArgs false
namespace Jvm.RoadKit
open Sem ClassFile Op Lib Jvm.Stand Jvm.Free Jvm.LawKit
section New
variable {p : Program} {l : Launch} {e : Env} {R : Room} {s : State} {m : MethodId} {args : Array Value} {below : List Frame} {meth : Method} {c : Code} {T : State} {locs : List Loc} {cells slots : Nat}
theorem retI (X : Stand p l e R s m args below meth c T locs cells slots) (hx : p.tables.exec = Jvm.exec) {pc : Nat} {Ls : Array Slot} {z : Int32} {rest : List Value} (hret : meth.sig.returnType = some .int) (hd : decode c.code pc = .ok (.ireturn, 1)) {fs : List Frame}
    (hl : ∀ (f : JFrame) (acts : List Action), f.method = m → f.locked = none → f.entered = [] → (doReturn e (T.setTop f) acts (some (.int z))).1 = T.setFrames fs) : Steps p.tables e below (T.setTop (mkF m pc Ls (.int z :: rest))) (T.setFrames fs) := by
  have hm' : T.vm.method? m = some meth := X.method'
  have hn : narrow .int (.int z) = .int z := rfl
  show Steps p.tables e below (T.setTop { method := m, pc := pc, locals := Ls, stack := _ :: rest, locked := none }) _
  jvm_step X.here [X.here.top, hx, hd, hm', hret, hn]
  first | (intro acts; rw [hl _ acts rfl rfl rfl]) | rw [hl _ _ rfl rfl rfl]
  exact Steps.refl _
end New
end Jvm.RoadKit
/- laws to paste: Road.backV, Road.eqW (cut by pick.py; bodies as the Statement names them) -/
namespace Jvm.Pilot.@@N@@
namespace StrChars
open Jvm Sem ClassFile Op Lib Jvm.Stand Jvm.Free.XT Jvm.Free.ALB Jvm.Free.JM Jvm.Free
open Jvm.Lib.Cold (StaticIs)
/-- a char array whose places are chars -/
def Ch (a : Addr) (A : Cell) (U : State) : Prop := Arr .char a A U ∧ Typed .char A
theorem Ch.mv {a : Addr} {A : Cell} {U U' : State} (h : Ch a A U) (hal : U.vm.Alike U'.vm) (hh : U'.heap = U.heap) : Ch a A U' := ⟨h.1.mv hal hh, h.2⟩
theorem Ch.keep {a : Addr} {A : Cell} {U U' : State} (h : Ch a A U) (hal : U.vm.Alike U'.vm) (hk : U'.heap[a]? = some A) : Ch a A U' := ⟨h.1.keep hal hk, h.2⟩
/-- what place i of a char[]'s cell holds -/
def cv (A : Cell) (i : Nat) : Int32 := match A.slots[i]? with | some (.int x) => x | _ => 0
theorem Ch.get {a : Addr} {A : Cell} {U : State} (h : Ch a A U) {i : Nat} (hi : i < A.slots.size) : A.slots[i]? = some (.int (cv A i)) := by
  have e := Array.getElem?_eq_getElem hi
  have f := h.2 i _ e
  unfold cv; rw [e]
  generalize A.slots[i] = v at f
  cases v <;> simp [fits] at f ⊢
/-- the byte that i2b leaves of a char -/
def lo8 (x : Int32) : Int32 := x.toInt8.toInt32
theorem fits_lo8 (y : Int32) : fits .byte (.int (lo8 y)) = true := by
  have h1 := y.toInt8.le_toInt
  have h2 := y.toInt8.toInt_lt
  simp only [lo8, fits, Bool.and_eq_true, decide_eq_true_eq, Int32.le_iff_toInt_le, Int8.toInt_toInt32, show (-128 : Int32).toInt = -128 from by decide, show (127 : Int32).toInt = 127 from by decide]
  omega
/-- A' is A but that each place j of lo .. hi - 1 holds f j -/
def Laid (A A' : Cell) (lo hi : Nat) (f : Nat → Value) : Prop := A'.cls = A.cls ∧ A'.vm = A.vm ∧ A'.slots.size = A.slots.size ∧ ∀ i, A'.slots[i]? = if lo ≤ i ∧ i < hi then some (f i) else A.slots[i]?
theorem Laid.zero (A : Cell) (lo : Nat) (f : Nat → Value) : Laid A A lo (lo + 0) f := ⟨rfl, rfl, rfl, fun i => by rw [if_neg (by omega)]⟩
theorem Laid.step {A Ak : Cell} {lo k : Nat} {f : Nat → Value} {v : Value} (h : Laid A Ak lo k f) (hlo : lo ≤ k) (hk : k < Ak.slots.size) (hv : v = f k) : Laid A (Ak.setSlot k v) lo (k + 1) f := by
  refine ⟨h.1, h.2.1, by simpa [Cell.setSlot] using h.2.2.1, fun i => ?_⟩
  by_cases e : k = i
  · subst e; rw [Cell.slots_setSlot_self v hk, if_pos (by omega), hv]
  · rw [Cell.slots_setSlot_ne v e, h.2.2.2 i]
    by_cases q : lo ≤ i ∧ i < k
    · rw [if_pos q, if_pos (by omega)]
    · rw [if_neg q, if_neg (by omega)]
def U16 : String := "java/lang/StringUTF16"
namespace Cmp5
def yN : MethodName := ⟨"java/lang/StringUTF16", "compress", "([CI[BII)I"⟩
abbrev yB : ByteArray := jdk_52_method_21_code
theorem d0 : decode yB 0 = .ok (.iconst 0, 1) := by decide +kernel
theorem d1 : decode yB 1 = .ok (.istore 5, 2) := by decide +kernel
theorem d3 : decode yB 3 = .ok (.iload 5, 2) := by decide +kernel
theorem d5 : decode yB 5 = .ok (.iload 4, 2) := by decide +kernel
theorem d7 : decode yB 7 = .ok (.if_icmp (.ge) 37, 3) := by decide +kernel
theorem d10 : decode yB 10 = .ok (.aload_n 0, 1) := by decide +kernel
theorem d11 : decode yB 11 = .ok (.iload_n 1, 1) := by decide +kernel
theorem d12 : decode yB 12 = .ok (.caload, 1) := by decide +kernel
theorem d13 : decode yB 13 = .ok (.istore 6, 2) := by decide +kernel
theorem d15 : decode yB 15 = .ok (.iload 6, 2) := by decide +kernel
theorem d17 : decode yB 17 = .ok (.sipush 255, 3) := by decide +kernel
theorem d20 : decode yB 20 = .ok (.if_icmp (.le) 6, 3) := by decide +kernel
theorem d26 : decode yB 26 = .ok (.aload_n 2, 1) := by decide +kernel
theorem d27 : decode yB 27 = .ok (.iload_n 3, 1) := by decide +kernel
theorem d28 : decode yB 28 = .ok (.iload 6, 2) := by decide +kernel
theorem d30 : decode yB 30 = .ok (.i2b, 1) := by decide +kernel
theorem d31 : decode yB 31 = .ok (.bastore, 1) := by decide +kernel
theorem d32 : decode yB 32 = .ok (.iinc 1 1, 3) := by decide +kernel
theorem d35 : decode yB 35 = .ok (.iinc 3 1, 3) := by decide +kernel
theorem d38 : decode yB 38 = .ok (.iinc 5 1, 3) := by decide +kernel
theorem d41 : decode yB 41 = .ok (.goto (-38), 3) := by decide +kernel
theorem d44 : decode yB 44 = .ok (.iload 4, 2) := by decide +kernel
theorem d46 : decode yB 46 = .ok (.ireturn, 1) := by decide +kernel
def site : List Cond := []
def tab : Cond := tabOf yN yB 7 (some .int) site
def P (b : Addr) (A : Cell) (d : Addr) (B : Cell) (o q len : Nat) (args : Array Value) (s : State) : Prop := args = #[.ref b, .int (Int32.ofNat o), .ref d, .int (Int32.ofNat q), .int (Int32.ofNat len)] ∧ Ch b A s ∧ Arr .byte d B s ∧ b ≠ d ∧ o + len ≤ A.slots.size ∧ q + len ≤ B.slots.size ∧ ∀ i, i < len → ¬ 255 < cv A (o + i)
def E (b : Addr) (A : Cell) (d : Addr) (B : Cell) (o q len : Nat) (r : Option Value) (s u : State) : Prop := r = some (.int (Int32.ofNat len)) ∧ ∃ B', Put d B' s u ∧ Laid B B' q (q + len) (fun j => Value.int (lo8 (cv A (o + (j - q)))))
/-- no char of the range above 255: len; the places written hold each char's low byte -/
theorem law (l : Launch) (b : Addr) (A : Cell) (d : Addr) (B : Cell) (o q len : Nat) : Law l yN 5 5 0 0 yB 7 (some .int) site (P b A d B o q len) (E b A d B o q len) (copyLocs d q len) 0 0 := by
  refine Law.of_walk (plainFor_of_name (by decide +kernel)) (by decide +kernel) (by decide +kernel) (by decide) (fun _ _ h => by rw [h.1]; rfl) (fun _ U U' hal hh h => ⟨h.1, h.2.1.mv hal hh, h.2.2.1.mv hal hh, h.2.2.2⟩) (fun r U U' V V' h1 hal h2 h => ⟨h.1, h.2.elim fun B' q => ⟨B', q.1.mv h1 h2, q.2⟩⟩) ?_
  intro p e s m args below meth c s₁ X0 hexec hbytes hml hret hlk hnm hown hh0 W hP
  obtain ⟨rfl, hA, hB, hne, l1, l2, hp⟩ := hP
  have c1 : Steps p.tables e below (s₁.setTop (entryFrame m #[.ref b, .int (Int32.ofNat o), .ref d, .int (Int32.ofNat q), .int (Int32.ofNat len)] 7)) (s₁.setTop (mkF m 0 #[.val (.ref b), .val (.int (Int32.ofNat o)), .val (.ref d), .val (.int (Int32.ofNat q)), .val (.int (Int32.ofNat len)), .unset, .unset] [])) := entry rfl
  have hA0 := hA.1.mv X0.warmed.alike hh0
  have hB0 := hB.mv X0.warmed.alike hh0
  have a31 := hA.1.2.2.2
  have c2 : Steps p.tables e below (s₁.setTop (entryFrame m #[.ref b, .int (Int32.ofNat o), .ref d, .int (Int32.ofNat q), .int (Int32.ofNat len)] 7)) (s₁.setTop (mkF m 3 #[.val (.ref b), .val (.int (Int32.ofNat o)), .val (.ref d), .val (.int (Int32.ofNat q)), .val (.int (Int32.ofNat len)), .val (.int 0), .unset] [])) := c1.trans (by
    refine iconstV X0.here hexec rfl 0 (hb hbytes d0) (by decide) ?_
    refine XS.istore X0.here hexec rfl (hb hbytes d1) rfl rfl ?_
    exact Steps.refl _)
  have loop : ∀ (r i : Nat), i + r = len → ∀ (z : Slot), (z = .unset ∨ ∃ w, z = .val w ∧ w.category = 1) → ∀ (Tl : State) (Bk : Cell), Stand p l e { frames := 0, locals := 0, cells := 0, slots := 0 } s m #[.ref b, .int (Int32.ofNat o), .ref d, .int (Int32.ofNat q), .int (Int32.ofNat len)] below meth c Tl ([] ++ copyLocs d q i) 0 0 → Put d Bk s₁ Tl → Laid B Bk q (q + i) (fun j => Value.int (lo8 (cv A (o + (j - q))))) →
      Steps p.tables e below (s₁.setTop (entryFrame m #[.ref b, .int (Int32.ofNat o), .ref d, .int (Int32.ofNat q), .int (Int32.ofNat len)] 7)) (Tl.setTop (mkF m 3 #[.val (.ref b), .val (.int (Int32.ofNat (o + i))), .val (.ref d), .val (.int (Int32.ofNat (q + i))), .val (.int (Int32.ofNat len)), .val (.int (Int32.ofNat i)), z] [])) → ∃ (T' : State) (B' : Cell) (z' : Slot), Stand p l e { frames := 0, locals := 0, cells := 0, slots := 0 } s m #[.ref b, .int (Int32.ofNat o), .ref d, .int (Int32.ofNat q), .int (Int32.ofNat len)] below meth c T' ([] ++ copyLocs d q len) 0 0 ∧ Put d B' s₁ T' ∧ Laid B B' q (q + len) (fun j => Value.int (lo8 (cv A (o + (j - q))))) ∧
      Steps p.tables e below (s₁.setTop (entryFrame m #[.ref b, .int (Int32.ofNat o), .ref d, .int (Int32.ofNat q), .int (Int32.ofNat len)] 7)) (T'.setTop (mkF m 3 #[.val (.ref b), .val (.int (Int32.ofNat (o + len))), .val (.ref d), .val (.int (Int32.ofNat (q + len))), .val (.int (Int32.ofNat len)), .val (.int (Int32.ofNat len)), z'] [])) := by
    intro r
    induction r with
    | zero =>
      intro i hi z hz Tl Bk Xl pl fl cl
      have hil : i = len := by omega
      rw [hil] at Xl fl cl
      exact ⟨Tl, Bk, z, Xl, pl, fl, cl⟩
    | succ r ih =>
      intro i hi z hz Tl Bk Xl pl fl cl
      have all := X0.warmed.alike.symm.trans Xl.warmed.alike
      have hAl := hA0.keep all (pl.other hne hA0.1)
      have hBk := hB0.like all pl.1 fl.1 fl.2.1 fl.2.2.1
      have hlt : q + i < Bk.slots.size := by rw [fl.2.2.1]; omega
      have c3 : Steps p.tables e below (s₁.setTop (entryFrame m #[.ref b, .int (Int32.ofNat o), .ref d, .int (Int32.ofNat q), .int (Int32.ofNat len)] 7)) (Tl.setTop (mkF m 12 #[.val (.ref b), .val (.int (Int32.ofNat (o + i))), .val (.ref d), .val (.int (Int32.ofNat (q + i))), .val (.int (Int32.ofNat len)), .val (.int (Int32.ofNat i)), z] [.int (Int32.ofNat (o + i)), .ref b])) := cl.trans (by
        refine XS.iload Xl.here hexec rfl (hb hbytes d3) rfl ?_
        refine XS.iload Xl.here hexec rfl (hb hbytes d5) rfl ?_
        refine XS.icmpNo Xl.here hexec rfl (hb hbytes d7) rfl (ii_ge_f (lt32 (by omega) (by omega))) ?_
        refine XS.aloadN Xl.here hexec rfl (hb hbytes d10) rfl rfl ?_
        refine XS.iloadN Xl.here hexec rfl (hb hbytes d11) rfl ?_
        exact Steps.refl _)
      have c4 : Steps p.tables e below (s₁.setTop (entryFrame m #[.ref b, .int (Int32.ofNat o), .ref d, .int (Int32.ofNat q), .int (Int32.ofNat len)] 7)) (Tl.setTop (mkF m 13 #[.val (.ref b), .val (.int (Int32.ofNat (o + i))), .val (.ref d), .val (.int (Int32.ofNat (q + i))), .val (.int (Int32.ofNat len)), .val (.int (Int32.ofNat i)), z] [.int (cv A (o + i))])) := c3.trans (by
        refine Xl.aget hexec hAl rfl (hA.get (i := o + i) (by omega)) rfl rfl (hb hbytes d12) ?_
        exact Steps.refl _)
      have c5 : Steps p.tables e below (s₁.setTop (entryFrame m #[.ref b, .int (Int32.ofNat o), .ref d, .int (Int32.ofNat q), .int (Int32.ofNat len)] 7)) (Tl.setTop (mkF m 15 #[.val (.ref b), .val (.int (Int32.ofNat (o + i))), .val (.ref d), .val (.int (Int32.ofNat (q + i))), .val (.int (Int32.ofNat len)), .val (.int (Int32.ofNat i)), .val (.int (cv A (o + i)))] [])) := c4.trans (by
        refine XS.istoreS Xl.here hexec rfl (hb hbytes d13) rfl rfl hz ?_
        exact Steps.refl _)
      have c6 : Steps p.tables e below (s₁.setTop (entryFrame m #[.ref b, .int (Int32.ofNat o), .ref d, .int (Int32.ofNat q), .int (Int32.ofNat len)] 7)) (Tl.setTop (mkF m 31 #[.val (.ref b), .val (.int (Int32.ofNat (o + i))), .val (.ref d), .val (.int (Int32.ofNat (q + i))), .val (.int (Int32.ofNat len)), .val (.int (Int32.ofNat i)), .val (.int (cv A (o + i)))] [.int (lo8 (cv A (o + i))), .int (Int32.ofNat (q + i)), .ref d])) := c5.trans (by
        refine XS.iload Xl.here hexec rfl (hb hbytes d15) rfl ?_
        refine sipushV Xl.here hexec rfl 255 (hb hbytes d17) (by decide) ?_
        refine XS.icmpYes Xl.here hexec rfl (pc0 := 20) rfl (hb hbytes d20) rfl (ii_le_t (hp i (by omega))) (by decide) rfl ?_
        refine XS.aloadN Xl.here hexec rfl (hb hbytes d26) rfl rfl ?_
        refine XS.iloadN Xl.here hexec rfl (hb hbytes d27) rfl ?_
        refine XS.iload Xl.here hexec rfl (hb hbytes d28) rfl ?_
        refine i2b Xl.here hexec rfl (hb hbytes d30) rfl ?_
        exact Steps.refl _)
      obtain ⟨T7, X7, p7, st7⟩ := Xl.aput hexec hBk rfl hlt rfl (fits_lo8 (cv A (o + i))) (g := (mkF m 31 #[.val (.ref b), .val (.int (Int32.ofNat (o + i))), .val (.ref d), .val (.int (Int32.ofNat (q + i))), .val (.int (Int32.ofNat len)), .val (.int (Int32.ofNat i)), .val (.int (cv A (o + i)))] [.int (lo8 (cv A (o + i))), .int (Int32.ofNat (q + i)), .ref d])) rfl (rest := []) rfl (hb hbytes d31)
      have c8 : Steps p.tables e below (s₁.setTop (entryFrame m #[.ref b, .int (Int32.ofNat o), .ref d, .int (Int32.ofNat q), .int (Int32.ofNat len)] 7)) (T7.setTop (mkF m 32 #[.val (.ref b), .val (.int (Int32.ofNat (o + i))), .val (.ref d), .val (.int (Int32.ofNat (q + i))), .val (.int (Int32.ofNat len)), .val (.int (Int32.ofNat i)), .val (.int (cv A (o + i)))] [])) := c6.trans (st7 _ (Steps.refl _))
      have c9 : Steps p.tables e below (s₁.setTop (entryFrame m #[.ref b, .int (Int32.ofNat o), .ref d, .int (Int32.ofNat q), .int (Int32.ofNat len)] 7)) (T7.setTop (mkF m 3 #[.val (.ref b), .val (.int (Int32.ofNat (o + i) + 1)), .val (.ref d), .val (.int (Int32.ofNat (q + i) + 1)), .val (.int (Int32.ofNat len)), .val (.int (Int32.ofNat i + 1)), .val (.int (cv A (o + i)))] [])) := c8.trans (by
        refine iincV X7.here hexec rfl 1 (hb hbytes d32) (by decide) rfl rfl ?_
        refine iincV X7.here hexec rfl 1 (hb hbytes d35) (by decide) rfl rfl ?_
        refine iincV X7.here hexec rfl 1 (hb hbytes d38) (by decide) rfl rfl ?_
        refine XS.goto X7.here hexec rfl (pc0 := 41) rfl (hb hbytes d41) (by decide) rfl ?_
        exact Steps.refl _)
      have c10 : Steps p.tables e below (s₁.setTop (entryFrame m #[.ref b, .int (Int32.ofNat o), .ref d, .int (Int32.ofNat q), .int (Int32.ofNat len)] 7)) (T7.setTop (mkF m 3 #[.val (.ref b), .val (.int (Int32.ofNat (o + (i + 1)))), .val (.ref d), .val (.int (Int32.ofNat (q + (i + 1)))), .val (.int (Int32.ofNat len)), .val (.int (Int32.ofNat (i + 1))), .val (.int (cv A (o + i)))] [])) := by
        have := c9
        rw [succ32, succ32, succ32] at this
        exact this
      exact ih (i + 1) (by omega) _ (Or.inr ⟨_, rfl, rfl⟩) T7 _ (by rw [copyLocs_step, ← List.append_assoc]; exact X7) (pl.trans p7) (fl.step (by omega) hlt (by simp)) c10
  obtain ⟨T9, B9, z9, X9, p9, f9, g9⟩ := loop len 0 (by omega) .unset (Or.inl rfl) s₁ B (by simpa [copyLocs] using X0) ⟨hB0.1, fun _ _ => rfl, rfl⟩ (Laid.zero _ _ _) c2
  have c11 : Steps p.tables e below (s₁.setTop (entryFrame m #[.ref b, .int (Int32.ofNat o), .ref d, .int (Int32.ofNat q), .int (Int32.ofNat len)] 7)) (T9.setTop (mkF m 46 #[.val (.ref b), .val (.int (Int32.ofNat (o + len))), .val (.ref d), .val (.int (Int32.ofNat (q + len))), .val (.int (Int32.ofNat len)), .val (.int (Int32.ofNat len)), z9] [.int (Int32.ofNat len)])) := g9.trans (by
    refine XS.iload X9.here hexec rfl (hb hbytes d3) rfl ?_
    refine XS.iload X9.here hexec rfl (hb hbytes d5) rfl ?_
    refine XS.icmpYes X9.here hexec rfl (pc0 := 7) rfl (hb hbytes d7) rfl (ii_ge_t (nlt32 (by omega) (Nat.le_refl _))) (by decide) rfl ?_
    refine XS.iload X9.here hexec rfl (hb hbytes d44) rfl ?_
    exact Steps.refl _)
  exact ⟨T9, some (.int (Int32.ofNat len)), _, _, _, X9, by simp, rfl, rfl, (fun h => by cases h), ⟨rfl, B9, p9.from hh0, f9⟩, fun fs hl => c11.trans (X9.ireturnOut hexec hret rfl (Or.inl rfl) (hb hbytes d46) hl)⟩
end Cmp5
namespace Cmp3
def yN : MethodName := ⟨"java/lang/StringUTF16", "compress", "([CII)[B"⟩
abbrev yB : ByteArray := jdk_52_method_16_code
theorem d0 : decode yB 0 = .ok (.iload_n 2, 1) := by decide +kernel
theorem d1 : decode yB 1 = .ok (.newarray .byte, 2) := by decide +kernel
theorem d3 : decode yB 3 = .ok (.astore_n 3, 1) := by decide +kernel
theorem d4 : decode yB 4 = .ok (.aload_n 0, 1) := by decide +kernel
theorem d5 : decode yB 5 = .ok (.iload_n 1, 1) := by decide +kernel
theorem d6 : decode yB 6 = .ok (.aload_n 3, 1) := by decide +kernel
theorem d7 : decode yB 7 = .ok (.iconst 0, 1) := by decide +kernel
theorem d8 : decode yB 8 = .ok (.iload_n 2, 1) := by decide +kernel
theorem d9 : decode yB 9 = .ok (.invokestatic 115, 3) := by decide +kernel
theorem d12 : decode yB 12 = .ok (.istore 4, 2) := by decide +kernel
theorem d14 : decode yB 14 = .ok (.iload 4, 2) := by decide +kernel
theorem d16 : decode yB 16 = .ok (.iload_n 2, 1) := by decide +kernel
theorem d17 : decode yB 17 = .ok (.if_icmp (.eq) 40, 3) := by decide +kernel
theorem d57 : decode yB 57 = .ok (.aload_n 3, 1) := by decide +kernel
theorem d58 : decode yB 58 = .ok (.areturn, 1) := by decide +kernel
def site : List Cond := [.arrayClass .byte, Cmp5.tab] ++ staticW U16 115 Cmp5.yN
def tab : Cond := tabOf yN yB 6 (some (.array .byte)) site
def P (b : Addr) (A : Cell) (o len : Nat) (args : Array Value) (s : State) : Prop := args = #[.ref b, .int (Int32.ofNat o), .int (Int32.ofNat len)] ∧ Ch b A s ∧ o + len ≤ A.slots.size ∧ len ≤ 536870912 ∧ ∀ i, i < len → ¬ 255 < cv A (o + i)
def E (b : Addr) (A : Cell) (o len : Nat) (r : Option Value) (s u : State) : Prop := NewArr .byte "[B" len (fun j => .int (lo8 (cv A (o + j)))) r s u ∧ u.heap.size = s.heap.size + 1
/-- no char of the range above 255: a new byte[] of their low bytes -/
theorem law (l : Launch) (b : Addr) (A : Cell) (o len : Nat) : Law l yN 3 3 1 18 yB 6 (some (.array .byte)) site (P b A o len) (E b A o len) [] 1 len := by
  refine Law.of_walk (plainFor_of_name (by decide +kernel)) (by decide +kernel) (by decide +kernel) (by decide) (fun _ _ h => by rw [h.1]; rfl) (fun _ U U' hal hh h => ⟨h.1, h.2.1.mv hal hh, h.2.2⟩) (fun r U U' V V' h1 hal h2 h => ⟨NewArr.mv r U U' V V' h1 hal h2 h.1, by rw [h1, h2]; exact h.2⟩) ?_
  intro p e s m args below meth c s₁ X0 hexec hbytes hml hret hlk hnm hown hh0 W hP
  obtain ⟨rfl, hA, l1, l2, hp⟩ := hP
  have a31 := hA.1.2.2.2
  have c1 : Steps p.tables e below (s₁.setTop (entryFrame m #[.ref b, .int (Int32.ofNat o), .int (Int32.ofNat len)] 6)) (s₁.setTop (mkF m 0 #[.val (.ref b), .val (.int (Int32.ofNat o)), .val (.int (Int32.ofNat len)), .unset, .unset, .unset] [])) := entry rfl
  have c2 : Steps p.tables e below (s₁.setTop (entryFrame m #[.ref b, .int (Int32.ofNat o), .int (Int32.ofNat len)] 6)) (s₁.setTop (mkF m 1 #[.val (.ref b), .val (.int (Int32.ofNat o)), .val (.int (Int32.ofNat len)), .unset, .unset, .unset] [.int (Int32.ofNat len)])) := c1.trans (by
    refine XS.iloadN X0.here hexec rfl (hb hbytes d0) rfl ?_
    exact Steps.refl _)
  obtain ⟨T3, B3, X3, ba3, bs3, bv3, bh3, bf3, st3⟩ := X0.anew hexec (atype := .byte) (wk W (.arrayClass .byte)) rfl (by show len * 1 ≤ _; omega) (by omega) (g := (mkF m 1 #[.val (.ref b), .val (.int (Int32.ofNat o)), .val (.int (Int32.ofNat len)), .unset, .unset, .unset] [.int (Int32.ofNat len)])) rfl (hb hbytes d1) (rest := []) rfl (Nat.le_refl _) (by show 0 + len ≤ len; omega)
  rw [hh0] at ba3 st3
  have kp3 : XT.Kept s T3 := (XT.Kept.of_eq hh0).push bh3
  have hA3 := hA.keep X3.warmed.alike (kp3 _ _ hA.1.1)
  have hne : b ≠ s.heap.size := hA.1.ne
  have c4 : Steps p.tables e below (s₁.setTop (entryFrame m #[.ref b, .int (Int32.ofNat o), .int (Int32.ofNat len)] 6)) (T3.setTop (mkF m 3 #[.val (.ref b), .val (.int (Int32.ofNat o)), .val (.int (Int32.ofNat len)), .unset, .unset, .unset] [.ref s.heap.size])) := c2.trans (st3 _ (Steps.refl _))
  have c5 : Steps p.tables e below (s₁.setTop (entryFrame m #[.ref b, .int (Int32.ofNat o), .int (Int32.ofNat len)] 6)) (T3.setTop (mkF m 9 #[.val (.ref b), .val (.int (Int32.ofNat o)), .val (.int (Int32.ofNat len)), .val (.ref s.heap.size), .unset, .unset] [.int (Int32.ofNat len), .int 0, .ref s.heap.size, .int (Int32.ofNat o), .ref b])) := c4.trans (by
    refine XS.astoreN X3.here hexec rfl (hb hbytes d3) rfl rfl rfl ?_
    refine XS.aloadN X3.here hexec rfl (hb hbytes d4) rfl rfl ?_
    refine XS.iloadN X3.here hexec rfl (hb hbytes d5) rfl ?_
    refine XS.aloadN X3.here hexec rfl (hb hbytes d6) rfl rfl ?_
    refine iconstV X3.here hexec rfl 0 (hb hbytes d7) (by decide) ?_
    refine XS.iloadN X3.here hexec rfl (hb hbytes d8) rfl ?_
    exact Steps.refl _)
  obtain ⟨v6, T6, X6, E6, g6⟩ := X3.callS hexec (Cmp5.law l b A s.heap.size B3 o 0 len) hown (wks W (staticW U16 115 Cmp5.yN)) (wk W Cmp5.tab) (W := 0) (Nat.le_of_ble_eq_true rfl) (Nat.le_of_ble_eq_true rfl) (Nat.le_refl _) (by show 0 + len + 0 ≤ len; omega) (g := (mkF m 9 #[.val (.ref b), .val (.int (Int32.ofNat o)), .val (.int (Int32.ofNat len)), .val (.ref s.heap.size), .unset, .unset] [.int (Int32.ofNat len), .int (Int32.ofNat 0), .ref s.heap.size, .int (Int32.ofNat o), .ref b])) rfl (by rw [hml]; rfl) c5 (argsL := [.ref b, .int (Int32.ofNat o), .ref s.heap.size, .int (Int32.ofNat 0), .int (Int32.ofNat len)]) (rest := []) rfl rfl (by show 2 * 0 + 0 ≤ _; decide) (hb hbytes d9) (⟨rfl, hA3, ba3, hne, l1, by rw [bs3]; simp, hp⟩)
  obtain ⟨rfl, B6, p6, f6⟩ := E6
  have c7 : Steps p.tables e below (s₁.setTop (entryFrame m #[.ref b, .int (Int32.ofNat o), .int (Int32.ofNat len)] 6)) (T6.setTop (mkF m 12 #[.val (.ref b), .val (.int (Int32.ofNat o)), .val (.int (Int32.ofNat len)), .val (.ref s.heap.size), .unset, .unset] [.int (Int32.ofNat len)])) := g6
  have c8 : Steps p.tables e below (s₁.setTop (entryFrame m #[.ref b, .int (Int32.ofNat o), .int (Int32.ofNat len)] 6)) (T6.setTop (mkF m 58 #[.val (.ref b), .val (.int (Int32.ofNat o)), .val (.int (Int32.ofNat len)), .val (.ref s.heap.size), .val (.int (Int32.ofNat len)), .unset] [.ref s.heap.size])) := c7.trans (by
    refine XS.istore X6.here hexec rfl (hb hbytes d12) rfl rfl ?_
    refine XS.iload X6.here hexec rfl (hb hbytes d14) rfl ?_
    refine XS.iloadN X6.here hexec rfl (hb hbytes d16) rfl ?_
    refine XS.icmpYes X6.here hexec rfl (pc0 := 17) rfl (hb hbytes d17) rfl (ii_eq_t rfl) (by decide) rfl ?_
    refine XS.aloadN X6.here hexec rfl (hb hbytes d57) rfl rfl ?_
    exact Steps.refl _)
  have X8 := X6.wide (L' := []) (cells' := 1) (slots' := len) (fun x hx hlt => by
    simp only [List.nil_append, copyLocs, List.mem_map, List.mem_range] at hx
    obtain ⟨i, -, rfl⟩ := hx
    exact absurd hlt (Nat.lt_irrefl _)) (Nat.le_refl _) (by omega)
  exact ⟨T6, some (.ref s.heap.size), _, _, _, X8, rfl, rfl, rfl, (fun h => by cases h), ⟨⟨rfl, B6, ba3.like (X3.warmed.alike.symm.trans X6.warmed.alike) p6.1 f6.1 f6.2.1 f6.2.2.1, f6.2.1.trans bv3, by rw [X6.warmed.alike.findClass, f6.1]; exact bf3, by rw [f6.2.2.1, bs3]; simp, fun j hj => by rw [f6.2.2.2 j, if_pos (by omega)]; rfl, kp3.put p6 (Nat.le_refl _)⟩, by rw [p6.2.2, bh3, hh0]; simp⟩, fun fs hl => c8.trans (X8.areturnOut hexec rfl hret rfl (hb hbytes d58) hl)⟩
end Cmp3
namespace CodL
def yN : MethodName := ⟨"java/lang/StringUTF16", "coderFromArrayLen", "([BI)B"⟩
abbrev yB : ByteArray := jdk_52_method_15_code
theorem d0 : decode yB 0 = .ok (.iload_n 1, 1) := by decide +kernel
theorem d1 : decode yB 1 = .ok (.aload_n 0, 1) := by decide +kernel
theorem d2 : decode yB 2 = .ok (.arraylength, 1) := by decide +kernel
theorem d3 : decode yB 3 = .ok (.isub, 1) := by decide +kernel
theorem d4 : decode yB 4 = .ok (.bipush 31, 2) := by decide +kernel
theorem d6 : decode yB 6 = .ok (.iushr, 1) := by decide +kernel
theorem d7 : decode yB 7 = .ok (.i2b, 1) := by decide +kernel
theorem d8 : decode yB 8 = .ok (.ireturn, 1) := by decide +kernel
def site : List Cond := []
def tab : Cond := tabOf yN yB 2 (some .byte) site
def P (d : Addr) (B : Cell) (args : Array Value) (s : State) : Prop := args = #[.ref d, .int (Int32.ofNat B.slots.size)] ∧ Arr .byte d B s
def E (r : Option Value) (s u : State) : Prop := XT.PureE (some (.int 0)) r s u
/-- an array as long as the number of chars: LATIN1 -/
theorem law (l : Launch) (d : Addr) (B : Cell) : Law l yN 2 2 0 0 yB 2 (some .byte) site (P d B) E [] 0 0 := by
  refine Law.of_walk (plainFor_of_name (by decide +kernel)) (by decide +kernel) (by decide +kernel) (by decide) (fun _ _ h => by rw [h.1]; rfl) (fun _ U U' hal hh h => ⟨h.1, h.2.mv hal hh⟩) (fun r U U' V V' h1 hal h2 h => XT.PureE.mv r U U' V V' h1 hal h2 h) ?_
  intro p e s m args below meth c s₁ X0 hexec hbytes hml hret hlk hnm hown hh0 W hP
  obtain ⟨rfl, hB⟩ := hP
  have hB0 := hB.mv X0.warmed.alike hh0
  have c1 : Steps p.tables e below (s₁.setTop (entryFrame m #[.ref d, .int (Int32.ofNat B.slots.size)] 2)) (s₁.setTop (mkF m 0 #[.val (.ref d), .val (.int (Int32.ofNat B.slots.size))] [])) := entry rfl
  have c2 : Steps p.tables e below (s₁.setTop (entryFrame m #[.ref d, .int (Int32.ofNat B.slots.size)] 2)) (s₁.setTop (mkF m 2 #[.val (.ref d), .val (.int (Int32.ofNat B.slots.size))] [.ref d, .int (Int32.ofNat B.slots.size)])) := c1.trans (by
    refine XS.iloadN X0.here hexec rfl (hb hbytes d0) rfl ?_
    refine XS.aloadN X0.here hexec rfl (hb hbytes d1) rfl rfl ?_
    exact Steps.refl _)
  have c3 : Steps p.tables e below (s₁.setTop (entryFrame m #[.ref d, .int (Int32.ofNat B.slots.size)] 2)) (s₁.setTop (mkF m 8 #[.val (.ref d), .val (.int (Int32.ofNat B.slots.size))] [.int (lo8 (ushr (Int32.ofNat B.slots.size - Int32.ofNat B.slots.size) 31))])) := c2.trans (by
    refine X0.alen hexec hB0 rfl rfl (hb hbytes d2) ?_
    refine XS.isub X0.here hexec rfl (hb hbytes d3) rfl ?_
    refine bipushV X0.here hexec rfl 31 (hb hbytes d4) (by decide) ?_
    refine iushr X0.here hexec rfl (hb hbytes d6) rfl ?_
    refine i2b X0.here hexec rfl (hb hbytes d7) rfl ?_
    exact Steps.refl _)
  have e0 : lo8 (ushr (Int32.ofNat B.slots.size - Int32.ofNat B.slots.size) 31) = 0 := by rw [Int32.sub_self]; decide
  rw [e0] at c3
  exact ⟨s₁, some (.int 0), _, _, _, X0, rfl, rfl, rfl, (fun h => by cases h), ⟨rfl, hh0⟩, fun fs hl => c3.trans (X0.ireturnOut hexec hret rfl (Or.inr (Or.inr (Or.inl rfl))) (hb hbytes d8) hl)⟩
end CodL
/-- the String at a is Latin-1 over a new byte[] (the heap's one new cell): the low bytes of the len chars of A from o on; every cell but a is kept -/
def Got (a : Addr) (D : Cell) (fV fC : Field) (A : Cell) (o len : Nat) (r : Option Value) (s u : State) : Prop := r = none ∧ ∃ D' V : Cell, Blank "java/lang/String" a D' u ∧ Same D D' [fV.slot, fC.slot] ∧ D'.slots[fV.slot]? = some (.ref s.heap.size) ∧ D'.slots[fC.slot]? = some (.int 0) ∧ Arr .byte s.heap.size V u ∧ V.vm = .none ∧ u.vm.findClass "[B" = some V.cls ∧ V.slots.size = len ∧ (∀ j, j < len → V.slots[j]? = some (.int (lo8 (cv A (o + j))))) ∧ (∀ (y : Addr) (c : Cell), y ≠ a → s.heap[y]? = some c → u.heap[y]? = some c) ∧ u.heap.size = s.heap.size + 1
theorem Got.mv {a : Addr} {D A : Cell} {fV fC : Field} {o len : Nat} : ∀ r (U U' V V' : State), U'.heap = U.heap → V.vm.Alike V'.vm → V'.heap = V.heap → Got a D fV fC A o len r U V → Got a D fV fC A o len r U' V' :=
  fun r U U' V V' h1 hal h2 ⟨e0, D', X, a1, a2, a3, a4, a5, a6, a7, a8, a9, a10, a11⟩ => ⟨e0, D', X, a1.mv hal h2, a2, by rw [h1]; exact a3, a4, by rw [h1]; exact a5.mv hal h2, a6, by rw [hal.findClass]; exact a7, a8, a9, by rw [h1, h2]; exact a10, by rw [h1, h2]; exact a11⟩
namespace New4
def yN : MethodName := ⟨"java/lang/String", "<init>", "([CIILjava/lang/Void;)V"⟩
abbrev yB : ByteArray := jdk_42_method_149_code
theorem d0 : decode yB 0 = .ok (.aload_n 0, 1) := by decide +kernel
theorem d1 : decode yB 1 = .ok (.invokespecial 1, 3) := by decide +kernel
theorem d4 : decode yB 4 = .ok (.iload_n 3, 1) := by decide +kernel
theorem d5 : decode yB 5 = .ok (.ifCond (.ne) 22, 3) := by decide +kernel
theorem d27 : decode yB 27 = .ok (.getstatic 38, 3) := by decide +kernel
theorem d30 : decode yB 30 = .ok (.ifCond (.eq) 28, 3) := by decide +kernel
theorem d33 : decode yB 33 = .ok (.aload_n 1, 1) := by decide +kernel
theorem d34 : decode yB 34 = .ok (.iload_n 2, 1) := by decide +kernel
theorem d35 : decode yB 35 = .ok (.iload_n 3, 1) := by decide +kernel
theorem d36 : decode yB 36 = .ok (.invokestatic 177, 3) := by decide +kernel
theorem d39 : decode yB 39 = .ok (.astore 5, 2) := by decide +kernel
theorem d41 : decode yB 41 = .ok (.aload_n 0, 1) := by decide +kernel
theorem d42 : decode yB 42 = .ok (.aload 5, 2) := by decide +kernel
theorem d44 : decode yB 44 = .ok (.iload_n 3, 1) := by decide +kernel
theorem d45 : decode yB 45 = .ok (.invokestatic 47, 3) := by decide +kernel
theorem d48 : decode yB 48 = .ok (.putfield 15, 3) := by decide +kernel
theorem d51 : decode yB 51 = .ok (.aload_n 0, 1) := by decide +kernel
theorem d52 : decode yB 52 = .ok (.aload 5, 2) := by decide +kernel
theorem d54 : decode yB 54 = .ok (.putfield 9, 3) := by decide +kernel
theorem d57 : decode yB 57 = .ok (.return_, 1) := by decide +kernel
def site : List Cond := [.fieldLink "java/lang/String" 38 "java/lang/String" "COMPACT_STRINGS" "Z", Cmp3.tab, CodL.tab, .laysFinal "java/lang/String" "java/lang/String" "value" "[B", .fieldLink "java/lang/String" 9 "java/lang/String" "value" "[B", .laysFinal "java/lang/String" "java/lang/String" "coder" "B", .fieldLink "java/lang/String" 15 "java/lang/String" "coder" "B"] ++ objW "java/lang/String" 1 ++ staticW "java/lang/String" 177 Cmp3.yN ++ staticW "java/lang/String" 47 CodL.yN
def tab : Cond := tabOf yN yB 6 none site
def P (a : Addr) (D : Cell) (fV fC : Field) (b : Addr) (A : Cell) (z : Int32) (o len : Nat) (args : Array Value) (s : State) : Prop := args = #[.ref a, .ref b, .int (Int32.ofNat o), .int (Int32.ofNat len), .null] ∧ Blank "java/lang/String" a D s ∧ Found "java/lang/String" "value" "[B" fV s ∧ Found "java/lang/String" "coder" "B" fC s ∧ Ch b A s ∧ StaticIs s "java/lang/String" "COMPACT_STRINGS" "Z" (.int z) ∧ ¬ z = 0 ∧ 0 < len ∧ o + len ≤ A.slots.size ∧ len ≤ 536870912 ∧ ∀ i, i < len → ¬ 255 < cv A (o + i)
def E (a : Addr) (D : Cell) (fV fC : Field) (A : Cell) (o len : Nat) (r : Option Value) (s u : State) : Prop := Got a D fV fC A o len r s u
/-- len > 0, no char of the range above 255: a Latin-1 String of their low bytes -/
theorem law (l : Launch) (a : Addr) (D : Cell) (fV fC : Field) (b : Addr) (A : Cell) (z : Int32) (o len : Nat) : Law l yN 5 4 2 35 yB 6 none site (P a D fV fC b A z o len) (E a D fV fC A o len) [⟨a, fC.slot⟩, ⟨a, fV.slot⟩] 1 len := by
  refine Law.of_walk (plainFor_of_name (by decide +kernel)) (by decide +kernel) (by decide +kernel) (by decide) (fun _ _ h => by rw [h.1]; rfl) (fun _ U U' hal hh h => ⟨h.1, h.2.1.mv hal hh, h.2.2.1.al hal, h.2.2.2.1.al hal, h.2.2.2.2.1.mv hal hh, h.2.2.2.2.2.1.there hal hh, h.2.2.2.2.2.2⟩) (fun r U U' V V' h1 hal h2 h => Got.mv r U U' V V' h1 hal h2 h) ?_
  intro p e s m args below meth c s₁ X0 hexec hbytes hml hret hlk hnm hown hh0 W hP
  obtain ⟨rfl, hB, f1, f2, hA, s1, hz, l0, l1, l2, hp⟩ := hP
  have a31 := hA.1.2.2.2
  have c1 : Steps p.tables e below (s₁.setTop (entryFrame m #[.ref a, .ref b, .int (Int32.ofNat o), .int (Int32.ofNat len), .null] 6)) (s₁.setTop (mkF m 0 #[.val (.ref a), .val (.ref b), .val (.int (Int32.ofNat o)), .val (.int (Int32.ofNat len)), .val .null, .unset] [])) := entry rfl
  have c2 : Steps p.tables e below (s₁.setTop (entryFrame m #[.ref a, .ref b, .int (Int32.ofNat o), .int (Int32.ofNat len), .null] 6)) (s₁.setTop (mkF m 1 #[.val (.ref a), .val (.ref b), .val (.int (Int32.ofNat o)), .val (.int (Int32.ofNat len)), .val .null, .unset] [.ref a])) := c1.trans (by
    refine XS.aloadN X0.here hexec rfl (hb hbytes d0) rfl rfl ?_
    exact Steps.refl _)
  obtain ⟨T3, X3, q3, st3⟩ := X0.oinit hexec hown (wks W (objW "java/lang/String" 1)) (g := (mkF m 1 #[.val (.ref a), .val (.ref b), .val (.int (Int32.ofNat o)), .val (.int (Int32.ofNat len)), .val .null, .unset] [.ref a])) rfl (by rw [hml]; rfl) (rest := []) rfl (hb hbytes d1) (W := 0) (by show 2 * 0 + 0 ≤ _; decide) (Nat.le_of_ble_eq_true rfl) (Nat.le_of_ble_eq_true rfl)
  have hh3 := q3.trans hh0
  have c4 : Steps p.tables e below (s₁.setTop (entryFrame m #[.ref a, .ref b, .int (Int32.ofNat o), .int (Int32.ofNat len), .null] 6)) (T3.setTop (mkF m 27 #[.val (.ref a), .val (.ref b), .val (.int (Int32.ofNat o)), .val (.int (Int32.ofNat len)), .val .null, .unset] [])) := (c2.trans (st3 _ (Steps.refl _))).trans (by
    refine XS.iloadN X3.here hexec rfl (hb hbytes d4) rfl ?_
    refine XS.ifYes X3.here hexec rfl (pc0 := 5) rfl (hb hbytes d5) rfl (i0_ne_t (nz32 (by omega) l0)) (by decide) rfl ?_
    exact Steps.refl _)
  obtain ⟨T5, X5, q5, st5⟩ := X3.sget hexec hown (wk W (.fieldLink "java/lang/String" 38 "java/lang/String" "COMPACT_STRINGS" "Z")) s1 (fun _ _ h => by rw [hh3]; exact h) (g := (mkF m 27 #[.val (.ref a), .val (.ref b), .val (.int (Int32.ofNat o)), .val (.int (Int32.ofNat len)), .val .null, .unset] [])) rfl (hb hbytes d27)
  have hh5 := q5.trans hh3
  have c6 : Steps p.tables e below (s₁.setTop (entryFrame m #[.ref a, .ref b, .int (Int32.ofNat o), .int (Int32.ofNat len), .null] 6)) (T5.setTop (mkF m 30 #[.val (.ref a), .val (.ref b), .val (.int (Int32.ofNat o)), .val (.int (Int32.ofNat len)), .val .null, .unset] [.int z])) := c4.trans (st5 _ (Steps.refl _))
  have c7 : Steps p.tables e below (s₁.setTop (entryFrame m #[.ref a, .ref b, .int (Int32.ofNat o), .int (Int32.ofNat len), .null] 6)) (T5.setTop (mkF m 36 #[.val (.ref a), .val (.ref b), .val (.int (Int32.ofNat o)), .val (.int (Int32.ofNat len)), .val .null, .unset] [.int (Int32.ofNat len), .int (Int32.ofNat o), .ref b])) := c6.trans (by
    refine XS.ifNo X5.here hexec rfl (hb hbytes d30) rfl (i0_eq_f hz) ?_
    refine XS.aloadN X5.here hexec rfl (hb hbytes d33) rfl rfl ?_
    refine XS.iloadN X5.here hexec rfl (hb hbytes d34) rfl ?_
    refine XS.iloadN X5.here hexec rfl (hb hbytes d35) rfl ?_
    exact Steps.refl _)
  obtain ⟨v8, T8, X8, E8, g8⟩ := X5.callS hexec (Cmp3.law l b A o len) hown (wks W (staticW "java/lang/String" 177 Cmp3.yN)) (wk W Cmp3.tab) (W := 0) (Nat.le_of_ble_eq_true rfl) (Nat.le_of_ble_eq_true rfl) (Nat.le_refl _) (by show 0 + len ≤ len; omega) (g := (mkF m 36 #[.val (.ref a), .val (.ref b), .val (.int (Int32.ofNat o)), .val (.int (Int32.ofNat len)), .val .null, .unset] [.int (Int32.ofNat len), .int (Int32.ofNat o), .ref b])) rfl (by rw [hml]; rfl) c7 (argsL := [.ref b, .int (Int32.ofNat o), .int (Int32.ofNat len)]) (rest := []) rfl rfl (by show 2 * 0 + 0 ≤ _; decide) (hb hbytes d36) (⟨rfl, hA.mv X5.warmed.alike hh5, l1, l2, hp⟩)
  obtain ⟨e8, z8⟩ := E8
  obtain ⟨rfl, N, n1, n2, n3, n4, n5, n6⟩ := NewArr.mv _ T5 s _ _ hh5.symm (Vm.Alike.refl _) rfl e8
  rw [hh5] at z8
  have hB1 := hB.keep X8.warmed.alike (n6 _ _ hB.1)
  have hne : s.heap.size ≠ a := (Nat.ne_of_lt (Array.getElem?_eq_some_iff.mp hB.1).1).symm
  have c9 : Steps p.tables e below (s₁.setTop (entryFrame m #[.ref a, .ref b, .int (Int32.ofNat o), .int (Int32.ofNat len), .null] 6)) (T8.setTop (mkF m 39 #[.val (.ref a), .val (.ref b), .val (.int (Int32.ofNat o)), .val (.int (Int32.ofNat len)), .val .null, .unset] [.ref s.heap.size])) := g8
  have c10 : Steps p.tables e below (s₁.setTop (entryFrame m #[.ref a, .ref b, .int (Int32.ofNat o), .int (Int32.ofNat len), .null] 6)) (T8.setTop (mkF m 45 #[.val (.ref a), .val (.ref b), .val (.int (Int32.ofNat o)), .val (.int (Int32.ofNat len)), .val .null, .val (.ref s.heap.size)] [.int (Int32.ofNat N.slots.size), .ref s.heap.size, .ref a])) := by
    have hc : Steps p.tables e below (s₁.setTop (entryFrame m #[.ref a, .ref b, .int (Int32.ofNat o), .int (Int32.ofNat len), .null] 6)) (T8.setTop (mkF m 45 #[.val (.ref a), .val (.ref b), .val (.int (Int32.ofNat o)), .val (.int (Int32.ofNat len)), .val .null, .val (.ref s.heap.size)] [.int (Int32.ofNat len), .ref s.heap.size, .ref a])) := c9.trans (by
      refine XS.astore X8.here hexec rfl (hb hbytes d39) rfl rfl rfl ?_
      refine XS.aloadN X8.here hexec rfl (hb hbytes d41) rfl rfl ?_
      refine XS.aload X8.here hexec rfl (hb hbytes d42) rfl rfl ?_
      refine XS.iloadN X8.here hexec rfl (hb hbytes d44) rfl ?_
      exact Steps.refl _)
    rw [n4]; exact hc
  obtain ⟨v11, T11, X11, E11, g11⟩ := X8.callS hexec (CodL.law l s.heap.size N) hown (wks W (staticW "java/lang/String" 47 CodL.yN)) (wk W CodL.tab) (W := 1) (Nat.le_of_ble_eq_true rfl) (Nat.le_of_ble_eq_true rfl) (Nat.le_refl _) (by show 0 + len + 0 ≤ len; omega) (g := (mkF m 45 #[.val (.ref a), .val (.ref b), .val (.int (Int32.ofNat o)), .val (.int (Int32.ofNat len)), .val .null, .val (.ref s.heap.size)] [.int (Int32.ofNat N.slots.size), .ref s.heap.size, .ref a])) rfl (by rw [hml]; rfl) c10 (argsL := [.ref s.heap.size, .int (Int32.ofNat N.slots.size)]) (rest := [.ref a]) rfl rfl (by show 2 * 0 + (1 + 0) ≤ _; decide) (hb hbytes d45) (⟨rfl, n1⟩)
  obtain ⟨rfl, q11⟩ := E11
  have hB11 := hB1.mv (X8.warmed.alike.symm.trans X11.warmed.alike) q11
  have c12 : Steps p.tables e below (s₁.setTop (entryFrame m #[.ref a, .ref b, .int (Int32.ofNat o), .int (Int32.ofNat len), .null] 6)) (T11.setTop (mkF m 48 #[.val (.ref a), .val (.ref b), .val (.int (Int32.ofNat o)), .val (.int (Int32.ofNat len)), .val .null, .val (.ref s.heap.size)] [.int 0, .ref a])) := g11
  obtain ⟨T13, X13, p13, bl13, sl13, st13⟩ := X11.finit hexec hown (wk W (.fieldLink "java/lang/String" 15 "java/lang/String" "coder" "B")) (Or.inr ⟨_, (wk W (.laysFinal "java/lang/String" "java/lang/String" "coder" "B"))⟩) (Or.inl ⟨rfl, hnm⟩) f2 (Or.inl rfl) hB11 (t := .byte) (by decide +kernel) rfl (g := (mkF m 48 #[.val (.ref a), .val (.ref b), .val (.int (Int32.ofNat o)), .val (.int (Int32.ofNat len)), .val .null, .val (.ref s.heap.size)] [.int 0, .ref a])) rfl (rest := []) rfl (hb hbytes d48)
  have c14 : Steps p.tables e below (s₁.setTop (entryFrame m #[.ref a, .ref b, .int (Int32.ofNat o), .int (Int32.ofNat len), .null] 6)) (T13.setTop (mkF m 54 #[.val (.ref a), .val (.ref b), .val (.int (Int32.ofNat o)), .val (.int (Int32.ofNat len)), .val .null, .val (.ref s.heap.size)] [.ref s.heap.size, .ref a])) := (c12.trans (st13 _ (Steps.refl _))).trans (by
    refine XS.aloadN X13.here hexec rfl (hb hbytes d51) rfl rfl ?_
    refine XS.aload X13.here hexec rfl (hb hbytes d52) rfl rfl ?_
    exact Steps.refl _)
  obtain ⟨T15, X15, p15, bl15, sl15, st15⟩ := X13.finit hexec hown (wk W (.fieldLink "java/lang/String" 9 "java/lang/String" "value" "[B")) (Or.inr ⟨_, (wk W (.laysFinal "java/lang/String" "java/lang/String" "value" "[B"))⟩) (Or.inl ⟨rfl, hnm⟩) f1 (Or.inl rfl) bl13 (t := (.array .byte)) (by decide +kernel) rfl (g := (mkF m 54 #[.val (.ref a), .val (.ref b), .val (.int (Int32.ofNat o)), .val (.int (Int32.ofNat len)), .val .null, .val (.ref s.heap.size)] [.ref s.heap.size, .ref a])) rfl (rest := []) rfl (hb hbytes d54)
  have c16 : Steps p.tables e below (s₁.setTop (entryFrame m #[.ref a, .ref b, .int (Int32.ofNat o), .int (Int32.ofNat len), .null] 6)) (T15.setTop (mkF m 57 #[.val (.ref a), .val (.ref b), .val (.int (Int32.ofNat o)), .val (.int (Int32.ofNat len)), .val .null, .val (.ref s.heap.size)] [])) := c14.trans (st15 _ (Steps.refl _))
  have ap := apart (Or.inr ⟨_, (wk W (.laysFinal "java/lang/String" "java/lang/String" "value" "[B"))⟩) (Or.inr ⟨_, (wk W (.laysFinal "java/lang/String" "java/lang/String" "coder" "B"))⟩) f1 f2 (t₁ := .array .byte) (t₂ := .byte) (by decide +kernel) (by decide +kernel) (by decide)
  have al := X8.warmed.alike.symm.trans X15.warmed.alike
  have n7 : T11.heap[s.heap.size]? = some N := by rw [q11]; exact n1.1
  exact ⟨T15, none, _, _, _, X15, by simp, rfl, by omega, (fun _ => rfl), ⟨rfl, _, N, bl15, ((Same.refl D _).set _ (by simp)).set _ (by simp), sl15, (Cell.slots_setSlot_ne _ ap).trans sl13, n1.keep al (p15.other hne (p13.other hne n7)), n2, by rw [al.findClass]; exact n3, n4, n5, fun y c h1 h2 => p15.other h1 (p13.other h1 (by rw [q11]; exact n6 y c h2)), by rw [p15.2.2, p13.2.2, q11]; exact z8⟩, fun fs hl => c16.trans (X15.returnOut hexec hret (hb hbytes d57) hl)⟩
end New4
namespace New1
def yN : MethodName := ⟨"java/lang/String", "<init>", "([C)V"⟩
abbrev yB : ByteArray := jdk_42_method_3_code
theorem d0 : decode yB 0 = .ok (.aload_n 0, 1) := by decide +kernel
theorem d1 : decode yB 1 = .ok (.aload_n 1, 1) := by decide +kernel
theorem d2 : decode yB 2 = .ok (.iconst 0, 1) := by decide +kernel
theorem d3 : decode yB 3 = .ok (.aload_n 1, 1) := by decide +kernel
theorem d4 : decode yB 4 = .ok (.arraylength, 1) := by decide +kernel
theorem d5 : decode yB 5 = .ok (.aconst_null, 1) := by decide +kernel
theorem d6 : decode yB 6 = .ok (.invokespecial 27, 3) := by decide +kernel
theorem d9 : decode yB 9 = .ok (.return_, 1) := by decide +kernel
def site : List Cond := [New4.tab] ++ initW "java/lang/String" 27 New4.yN
def tab : Cond := tabOf yN yB 2 none site
def P (a : Addr) (D : Cell) (fV fC : Field) (b : Addr) (A : Cell) (z : Int32) (args : Array Value) (s : State) : Prop := args = #[.ref a, .ref b] ∧ Blank "java/lang/String" a D s ∧ Found "java/lang/String" "value" "[B" fV s ∧ Found "java/lang/String" "coder" "B" fC s ∧ Ch b A s ∧ StaticIs s "java/lang/String" "COMPACT_STRINGS" "Z" (.int z) ∧ ¬ z = 0 ∧ 0 < A.slots.size ∧ A.slots.size ≤ 536870912 ∧ ∀ i, i < A.slots.size → ¬ 255 < cv A i
def E (a : Addr) (D : Cell) (fV fC : Field) (A : Cell) (r : Option Value) (s u : State) : Prop := Got a D fV fC A 0 A.slots.size r s u
/-- new String(chars), not empty, no char above 255: a Latin-1 String of their low bytes -/
theorem law (l : Launch) (a : Addr) (D : Cell) (fV fC : Field) (b : Addr) (A : Cell) (z : Int32) : Law l yN 2 1 3 52 yB 2 none site (P a D fV fC b A z) (E a D fV fC A) [⟨a, fC.slot⟩, ⟨a, fV.slot⟩] 1 A.slots.size := by
  refine Law.of_walk (plainFor_of_name (by decide +kernel)) (by decide +kernel) (by decide +kernel) (by decide) (fun _ _ h => by rw [h.1]; rfl) (fun _ U U' hal hh h => ⟨h.1, h.2.1.mv hal hh, h.2.2.1.al hal, h.2.2.2.1.al hal, h.2.2.2.2.1.mv hal hh, h.2.2.2.2.2.1.there hal hh, h.2.2.2.2.2.2⟩) (fun r U U' V V' h1 hal h2 h => Got.mv r U U' V V' h1 hal h2 h) ?_
  intro p e s m args below meth c s₁ X0 hexec hbytes hml hret hlk hnm hown hh0 W hP
  obtain ⟨rfl, hB, f1, f2, hA, s1, hz, l0, l2, hp⟩ := hP
  have c1 : Steps p.tables e below (s₁.setTop (entryFrame m #[.ref a, .ref b] 2)) (s₁.setTop (mkF m 0 #[.val (.ref a), .val (.ref b)] [])) := entry rfl
  have c2 : Steps p.tables e below (s₁.setTop (entryFrame m #[.ref a, .ref b] 2)) (s₁.setTop (mkF m 6 #[.val (.ref a), .val (.ref b)] [.null, .int (Int32.ofNat A.slots.size), .int 0, .ref b, .ref a])) := c1.trans (by
    refine XS.aloadN X0.here hexec rfl (hb hbytes d0) rfl rfl ?_
    refine XS.aloadN X0.here hexec rfl (hb hbytes d1) rfl rfl ?_
    refine iconstV X0.here hexec rfl 0 (hb hbytes d2) (by decide) ?_
    refine XS.aloadN X0.here hexec rfl (hb hbytes d3) rfl rfl ?_
    refine X0.alen hexec (hA.1.mv X0.warmed.alike hh0) rfl rfl (hb hbytes d4) ?_
    refine XS.aconstNull X0.here hexec rfl (hb hbytes d5) ?_
    exact Steps.refl _)
  obtain ⟨v3, T3, X3, E3, g3⟩ := X0.callN hexec (New4.law l a D fV fC b A z 0 A.slots.size) rfl hown (wks W (initW "java/lang/String" 27 New4.yN)) (W New4.tab (by simp only [site, List.mem_cons, List.mem_append, true_or, or_true])) (W := 0) (Nat.le_of_ble_eq_true rfl) (Nat.le_of_ble_eq_true rfl) (Nat.le_refl _) (by show 0 + A.slots.size ≤ A.slots.size; omega) (g := (mkF m 6 #[.val (.ref a), .val (.ref b)] [.null, .int (Int32.ofNat A.slots.size), .int (Int32.ofNat 0), .ref b, .ref a])) rfl (by rw [hml]; rfl) c2 (argsL := [.ref b, .int (Int32.ofNat 0), .int (Int32.ofNat A.slots.size), .null]) (rest := []) rfl rfl (by show 2 * 0 + 0 ≤ _; decide) (hb hbytes d6) (⟨rfl, hB.mv X0.warmed.alike hh0, f1.al X0.warmed.alike, f2.al X0.warmed.alike, hA.mv X0.warmed.alike hh0, s1.there X0.warmed.alike hh0, hz, l0, by omega, l2, fun i hi => by rw [Nat.zero_add]; exact hp i hi⟩)
  have e0 := Got.mv _ s₁ s _ _ hh0.symm (Vm.Alike.refl _) rfl E3
  obtain rfl := e0.1
  have c4 : Steps p.tables e below (s₁.setTop (entryFrame m #[.ref a, .ref b] 2)) (T3.setTop (mkF m 9 #[.val (.ref a), .val (.ref b)] [])) := g3
  exact ⟨T3, none, _, _, _, X3, by simp, rfl, by omega, (fun _ => rfl), e0, fun fs hl => c4.trans (X3.returnOut hexec hret (hb hbytes d9) hl)⟩
theorem pays {l : Launch} {R : Room} {p : Program} {e : Env} {below : List Frame} {s : State} {sargs : Array Value} {len W : Nat} (a : Addr) (D : Cell) (fV fC : Field) (b : Addr) (A : Cell) (z : Int32) (htab : tab.before sargs s = true) (hfr : 4 ≤ R.frames) (hlo : W + 65 ≤ R.locals) :
    Back l R p e below s sargs yN len W (fun A₁ a₁ => A₁.cells + 1 ≤ R.cells ∧ A₁.slots + A.slots.size ≤ R.slots ∧ P a D fV fC b A z a₁ A₁.U) (fun A₁ _ v₁ B₁ => E a D fV fC A v₁ A₁.U B₁.U ∧ B₁.locs = A₁.locs ++ [⟨a, fC.slot⟩, ⟨a, fV.slot⟩] ∧ B₁.cells = A₁.cells + 1 ∧ B₁.slots = A₁.slots + A.slots.size) :=
  (law l a D fV fC b A z).pays htab hfr (by omega)
end New1
/-- the byte, read back as charAt reads it, is the char -/
theorem lo8_mask {x : Int32} (h0 : ¬ x < 0) (h1 : ¬ 255 < x) : lo8 x &&& 255 = x := by
  have t : ∀ k : Fin 256, lo8 (Int32.ofNat k.val) &&& 255 = Int32.ofNat k.val := by decide +kernel
  rw [Int32.lt_iff_toInt_lt] at h0 h1
  have e0 : (0 : Int32).toInt = 0 := rfl
  have e1 : (255 : Int32).toInt = 255 := rfl
  obtain ⟨k, hk⟩ : ∃ k : Nat, x.toInt = k := ⟨x.toInt.toNat, by omega⟩
  have hx : x = Int32.ofNat k := Int32.toInt_inj.mp (by rw [hk, Int32.toInt_ofNat_small (by omega)])
  rw [hx]
  exact t ⟨k, by omega⟩
end StrChars
namespace StrChars.Road
open Jvm Sem ClassFile Op Lib Jvm.Stand Jvm.Free Jvm.Free.XT
open Jvm.Lib.Cold (StaticIs)
abbrev ST : String := "java/lang/String"
/-- every table word that New1's law asks, flat -/
abbrev words : List Jvm.Cond := [.code New1.yN New1.yB 2 none, .initialized ST, .methodLink ST 27 New4.yN, .instanceMethod New4.yN,
  .code New4.yN New4.yB 6 none, .fieldLink ST 38 ST "COMPACT_STRINGS" "Z", .laysFinal ST ST "value" "[B", .fieldLink ST 9 ST "value" "[B", .laysFinal ST ST "coder" "B", .fieldLink ST 15 ST "coder" "B",
  .methodLink ST 1 Lib.objectInit, .instanceMethod Lib.objectInit, .code Lib.objectInit ⟨#[0xb1]⟩ 1 none, .methodLink ST 177 Cmp3.yN, .static Cmp3.yN, .methodLink ST 47 CodL.yN, .static CodL.yN,
  .code Cmp3.yN Cmp3.yB 6 (some (.array .byte)), .initialized U16, .arrayClass .byte, .methodLink U16 115 Cmp5.yN, .static Cmp5.yN, .code Cmp5.yN Cmp5.yB 7 (some .int), .code CodL.yN CodL.yB 2 (some .byte)]
theorem tab_of {a : Array Value} {s : State} (h : ∀ w ∈ words, w.before a s = true) : New1.tab.before a s = true := by
  have h5 : Cmp5.tab.before a s = true := unparts (wk h (.code Cmp5.yN Cmp5.yB 7 (some .int))) (wks h (.initialized Cmp5.yN.cls :: Cmp5.site))
  have hc : CodL.tab.before a s = true := unparts (wk h (.code CodL.yN CodL.yB 2 (some .byte))) (wks h (.initialized CodL.yN.cls :: CodL.site))
  have q5 : ∀ w ∈ Cmp5.tab :: words, w.before a s = true := fun w hw => (List.mem_cons.mp hw).elim (fun e => e ▸ h5) (h w)
  have h3 : Cmp3.tab.before a s = true := unparts (wk q5 (.code Cmp3.yN Cmp3.yB 6 (some (.array .byte)))) (wks q5 (.initialized Cmp3.yN.cls :: Cmp3.site))
  have q3 : ∀ w ∈ Cmp3.tab :: CodL.tab :: words, w.before a s = true := fun w hw => (List.mem_cons.mp hw).elim (fun e => e ▸ h3) fun hw => (List.mem_cons.mp hw).elim (fun e => e ▸ hc) (h w)
  have h4 : New4.tab.before a s = true := unparts (wk q3 (.code New4.yN New4.yB 6 none)) (wks q3 (.initialized New4.yN.cls :: New4.site))
  have q4 : ∀ w ∈ New4.tab :: words, w.before a s = true := fun w hw => (List.mem_cons.mp hw).elim (fun e => e ▸ h4) (h w)
  exact unparts (wk q4 (.code New1.yN New1.yB 2 none)) (wks q4 (.initialized New1.yN.cls :: New1.site))
/-- the words ride from the start Z to the walk's own state -/
theorem moved {Z s : State} {a0 args : Array Value} (hZ : Z.Warmed39 s.vm) (hw : ∀ d ∈ words, d.before a0 Z = true) : ∀ d ∈ words, d.before args s = true := fun d hd => by
  have q := hw d hd
  have t : ∀ d ∈ words, d = .arrayClass .byte ∨ (d.onTables && d.keepsFace) = true := by decide +kernel
  rcases t d hd with rfl | t
  · exact RoadKit.mvA hZ q
  · exact RoadKit.mv hZ q t
/-- WHAT COMES BACK, over the tables of the start Z: h the heap at the call, h' behind it -/
def Q (Z : State) (x : Addr) (A : Cell) (h : Heap) (v : Option Value) (h' : Heap) (L : List Loc) : Prop := v = none ∧ (∀ y ∈ L, y.base = x) ∧ RoadKit.Keep h h' [x] ∧ h'.size = h.size + 1 ∧ RoadKit.Exa Z h' x ST ∧ RoadKit.Fld Z h' x ST "value" "[B" (.ref h.size) ∧ RoadKit.Fld Z h' x ST "coder" "B" (.int 0) ∧
  (∃ V : Cell, RoadKit.Arr Z h' h.size V .byte ∧ V.vm = .none ∧ Z.vm.findClass "[B" = some V.cls ∧ V.slots.size = A.slots.size ∧ ∀ j, j < A.slots.size → V.slots[j]? = some (.int (lo8 (cv A j)))) ∧
  ∀ (O n d : String) (w : Value), RoadKit.Fld Z h x O n d w → RoadKit.slotOf Z O n d ≠ RoadKit.slotOf Z ST "value" "[B" → RoadKit.slotOf Z O n d ≠ RoadKit.slotOf Z ST "coder" "B" → RoadKit.Fld Z h' x O n d w
/-- **new String(chars) AT A CALL, IN THE ROAD'S FORM**: for specialBack behind newO: x the fresh String, b the char[] with the cell A -/
theorem back {p : Program} {l : Launch} {e : Env} {R : Room} {s : State} {args : Array Value} {below : List Frame} {len W : Nat} {Z : State} {a0 : Array Value} {h : Heap} (hZ : Z.Warmed39 s.vm) (hw : ∀ d ∈ words, d.before a0 Z = true) {kI : Nat} (wi : (Jvm.Cond.instantiable ST kI).before a0 Z = true)
    {x b : Addr} {A : Cell} {z : Int32} {v0 c0 : Value} (E : RoadKit.Exa Z h x ST) (V : RoadKit.Fld Z h x ST "value" "[B" v0) (C : RoadKit.Fld Z h x ST "coder" "B" c0) (K : RoadKit.Arr Z h b A .char) (hty : Typed .char A) (S : RoadKit.Sta Z h ST "COMPACT_STRINGS" "Z" (.int z)) (hz : ¬ z = 0)
    (l0 : 0 < A.slots.size) (l2 : A.slots.size ≤ 536870912) (hp : ∀ i, i < A.slots.size → ¬ 255 < cv A i) (hfr : 4 ≤ R.frames) (hlo : W + 65 ≤ R.locals) :
    Back l R p e below s args New1.yN len W (fun P a => a = #[.ref x, .ref b] ∧ P.U.heap = h ∧ P.cells + 1 ≤ R.cells ∧ P.slots + A.slots.size ≤ R.slots)
      (fun P _ v B => ∃ L, Q Z x A h v B.U.heap L ∧ B.locs = P.locs ++ L ∧ B.cells = P.cells + 1 ∧ B.slots = P.slots + A.slots.size) := by
  intro m meth c P g ig mk a X hg hsize hdg hW hn hp'
  obtain ⟨rfl, rfl, r1, r2⟩ := hp'
  have al : Z.vm.Alike P.U.vm := hZ.alike.trans X.warmed.alike
  obtain ⟨D, cfV, kV, iV, fV, hD, gV, stV, knV, obV, asV, slV⟩ := id V
  obtain ⟨D', cfC, kC, iC, fC, hD', gC, stC, -, -, asC, slC⟩ := id C
  cases hD.symm.trans hD'
  obtain ⟨D2, kD, e1, e2, e3, e4, e5⟩ := id E
  cases hD.symm.trans e1
  obtain ⟨c2, k2, i1, i2, i3, -⟩ := Cond.instantiable_spec wi
  cases e2.symm.trans i1
  cases e3.symm.trans i2
  obtain ⟨kU, u1, u2⟩ := al.2.2 _ _ e3
  have hB : Blank ST x D P.U := ⟨hD, ⟨knV, fun q hq => by rw [hq] at obV; cases obV⟩, by rw [al.findClass]; exact e2, kU, u1, by rw [u2]; exact i3, by rw [u2]; exact e5 i3⟩
  have F1 : Found ST "value" "[B" fV P.U := ⟨SBG.found_only al ⟨cfV, kV, iV, gV⟩, stV⟩
  have F2 : Found ST "coder" "B" fC P.U := ⟨SBG.found_only al ⟨cfC, kC, iC, gC⟩, stC⟩
  have hA : Ch b A P.U := ⟨⟨K.1, State.isArrayOf_alike al K.2.1, K.2.2, by omega⟩, hty⟩
  have hS : StaticIs P.U ST "COMPACT_STRINGS" "Z" (.int z) := by
    obtain ⟨cfS, iS, kS, fS, st, cS, t1, t2, t3, t4, t5, t6, t7⟩ := S
    exact StaticIs.there (s := { Z with heap := P.U.heap }) ⟨cfS, iS, kS, fS, st, cS, t1, t2, t3, t4, t5, (fun q => by rw [q] at t6; cases t6), t7⟩ al rfl
  obtain ⟨v, B, X', ⟨⟨hv, E', V', q1, q2, q3, q4, q5, q6, q7, q8, q9, q10, q11⟩, hl, hc, hs⟩, st⟩ := New1.pays x D fV fC b A z (tab_of (moved hZ hw)) hfr hlo m meth c P g ig mk _ X hg hsize hdg hW hn ⟨r1, r2, rfl, hB, F1, F2, hA, hS, hz, l0, l2, hp⟩
  have al' : Z.vm.Alike B.U.vm := hZ.alike.trans X'.warmed.alike
  have hsz : E'.slots.size = D.slots.size := by
    obtain ⟨-, -, -, kB, w1, w2, w3⟩ := q1
    obtain ⟨kB', y1, y2⟩ := al'.2.2 _ _ e3
    rw [q2.2.1] at w1
    cases w1.symm.trans y1
    rw [w3, e5 i3, y2]
  refine ⟨v, B, X', ⟨_, ⟨hv, ?_, ⟨by omega, fun y cy hy hn' => q10 y cy (by simpa using hn') hy, fun y cy hy => ?_⟩, q11, ⟨E', _, q1.1, by rw [q2.2.1]; exact e2, by rw [q2.2.1]; exact e3, by rw [q2.1]; exact obV, fun _ => by rw [hsz]; exact e5 i3⟩,
    ⟨E', cfV, kV, iV, fV, q1.1, gV, stV, by rw [q2.1]; exact knV, by rw [q2.1]; exact obV, by rw [q2.2.1]; exact asV, q3⟩, ⟨E', cfC, kC, iC, fC, q1.1, gC, stC, by rw [q2.1]; exact knV, by rw [q2.1]; exact obV, by rw [q2.2.1]; exact asC, q4⟩,
    ⟨V', ⟨q5.1, State.isArrayOf_alike al'.symm q5.2.1, q5.2.2.1⟩, q6, by rw [← al'.findClass]; exact q7, q8, fun j hj => by have := q9 j hj; rwa [Nat.zero_add] at this⟩, fun O n d w F n1 n2 => ?_⟩, hl, hc, hs⟩, st⟩
  · intro y hy
    simp only [List.mem_cons, List.not_mem_nil, or_false] at hy
    rcases hy with rfl | rfl <;> rfl
  · by_cases q : y = x
    · subst q
      cases hD.symm.trans hy
      exact ⟨E', q1.1, q2.2.1, q2.1, hsz⟩
    · exact ⟨cy, q10 y cy q hy, rfl, rfl, rfl⟩
  · obtain ⟨D3, cf, k, i, f, g1, g2, g3, g4, g5, g6, g7⟩ := F
    cases hD.symm.trans g1
    simp only [RoadKit.slotOf, g2, gV, gC, Option.map_some, Option.getD_some] at n1 n2
    exact ⟨E', cf, k, i, f, q1.1, g2, g3, by rw [q2.1]; exact g4, by rw [q2.1]; exact g5, by rw [q2.2.1]; exact g6, by rw [q2.2.2 f.slot (by simp [n1, n2])]; exact g7⟩
end StrChars.Road
namespace StrChars.Road
open Jvm Sem ClassFile Op Lib Jvm.Stand Jvm.Free Jvm.Free.XT
/-- WHAT COMES BACK, the byte[] as a list of values -/
def QA (Z : State) (x : Addr) (zn : Int32) (cs : List Int32) (h : Heap) (v : Option Value) (h' : Heap) (L : List Loc) : Prop := v = none ∧ (∀ y ∈ L, y.base = x) ∧ RoadKit.Keep h h' [x] ∧ h'.size = h.size + 1 ∧ RoadKit.Exa Z h' x ST ∧ RoadKit.Fld Z h' x ST "value" "[B" (.ref h.size) ∧ RoadKit.Fld Z h' x ST "coder" "B" (.int 0) ∧
  (∃ kb, Z.vm.findClass "[B" = some kb ∧ RoadKit.Arv Z h' h.size kb .byte zn (cs.map fun c => .int (lo8 c)) (.int 0)) ∧
  ∀ (O n d : String) (w : Value), RoadKit.Fld Z h x O n d w → RoadKit.slotOf Z O n d ≠ RoadKit.slotOf Z ST "value" "[B" → RoadKit.slotOf Z O n d ≠ RoadKit.slotOf Z ST "coder" "B" → RoadKit.Fld Z h' x O n d w
/-- **new String(chars) AT A CALL, THE ARRAYS AS LISTS**: the char[] at b holds cs, not empty, no char above 255 -/
theorem backArv {p : Program} {l : Launch} {e : Env} {R : Room} {s : State} {args : Array Value} {below : List Frame} {len W : Nat} {Z : State} {a0 : Array Value} {h : Heap} (hZ : Z.Warmed39 s.vm) (hw : ∀ d ∈ words, d.before a0 Z = true) {kI : Nat} (wi : (Jvm.Cond.instantiable ST kI).before a0 Z = true)
    {x b : Addr} {k : ClassId} {zn z : Int32} {cs : List Int32} {dv v0 c0 : Value} (E : RoadKit.Exa Z h x ST) (V : RoadKit.Fld Z h x ST "value" "[B" v0) (C : RoadKit.Fld Z h x ST "coder" "B" c0) (K : RoadKit.Arv Z h b k .char zn (cs.map Value.int) dv) (S : RoadKit.Sta Z h ST "COMPACT_STRINGS" "Z" (.int z)) (hz : ¬ z = 0)
    (hlen : zn.toNatClampNeg = cs.length) (h0 : 0 < cs.length) (hbig : cs.length ≤ 536870912) (hall : ∀ c ∈ cs, ¬ 255 < c) (hfr : 4 ≤ R.frames) (hlo : W + 65 ≤ R.locals) :
    Back l R p e below s args New1.yN len W (fun P a => a = #[.ref x, .ref b] ∧ P.U.heap = h ∧ P.cells + 1 ≤ R.cells ∧ P.slots + cs.length ≤ R.slots)
      (fun P _ v B => ∃ L, QA Z x zn cs h v B.U.heap L ∧ B.locs = P.locs ++ L ∧ B.cells = P.cells + 1 ∧ B.slots = P.slots + cs.length) := by
  obtain ⟨A, K1, K2, K3, K4, K5, K6⟩ := K
  have e : A.slots.size = cs.length := K3.trans hlen
  have hat : ∀ (i : Nat) (hi : i < cs.length), A.slots[i]? = some (.int cs[i]) := fun i hi => by rw [K5 i (by omega)]; simp [List.getD_eq_getElem?_getD, hi]
  have hcv : ∀ (i : Nat) (hi : i < cs.length), cv A i = cs[i] := fun i hi => by unfold cv; rw [hat i hi]
  have hty : Typed .char A := fun i v hv => by
    have hi : i < A.slots.size := (Array.getElem?_eq_some_iff.mp hv).1
    have q := K5 i hi
    rw [hv] at q
    rw [Option.some.inj q]
    exact K6 i hi
  refine Back.mono (back hZ hw wi E V C K1 hty S hz (by omega) (by omega) (fun i hi => by rw [hcv i (by omega)]; exact hall _ (List.getElem_mem _)) hfr hlo) (fun P a hp => ⟨hp.1, hp.2.1, hp.2.2.1, by rw [e]; exact hp.2.2.2⟩) (fun P a v B hp hq => ?_)
  obtain ⟨L, ⟨q1, q2, q3, q4, q5, q6, q7, ⟨V', v1, v2, v3, v4, v5⟩, q9⟩, hl, hc, hs⟩ := hq
  refine ⟨L, ⟨q1, q2, q3, q4, q5, q6, q7, ⟨V'.cls, v3, V', v1, rfl, by rw [v4, e, hlen], K4, fun i hi => ?_, fun i hi => ?_⟩, q9⟩, hl, hc, by rw [hs, e]⟩
  · have hi' : i < cs.length := by omega
    rw [v5 i (by omega), hcv i hi']; simp [List.getD_eq_getElem?_getD, hi']
  · have hi' : i < cs.length := by omega
    simp only [List.getD_eq_getElem?_getD, List.getElem?_map, List.getElem?_eq_getElem hi', Option.map_some, Option.getD_some]
    exact fits_lo8 _
end StrChars.Road
namespace StrChars.Road
open Jvm Sem ClassFile Op Lib Jvm.Stand Jvm.Free Jvm.Free.XT
/-- WHAT COMES BACK, in the writer's own shape -/
def QV (Z : State) (x : Addr) (N : Int32) (bs : List Int32) (h : Heap) (n0 : Nat) (v : Option Value) (h' : Heap) (L : List Loc) : Prop := v = none ∧ RoadKit.Fr n0 L ∧ RoadKit.Keep h h' [x] ∧ RoadKit.Exa Z h' x ST ∧ RoadKit.Fld Z h' x ST "coder" "B" (.int 0) ∧
  ∃ (t : Addr) (kb : ClassId), n0 ≤ t ∧ h.size ≤ t ∧ ¬ t = x ∧ RoadKit.Fld Z h' x ST "value" "[B" (.ref t) ∧ RoadKit.Arv Z h' t kb .byte N (bs.map Value.int) (.int 0)
/-- **new String(chars) AT A CALL, FOR THE WRITER**: a char[] of n known ints, each 0 to 255 -/
theorem backV {p : Program} {l : Launch} {e : Env} {R : Room} {s : State} {args : Array Value} {below : List Frame} {len W : Nat} {Z : State} {a0 : Array Value} {h : Heap} (hZ : Z.Warmed39 s.vm) (hw : ∀ d ∈ words, d.before a0 Z = true) {kI : Nat} (wi : (Jvm.Cond.instantiable ST kI).before a0 Z = true)
    {x b : Addr} {kC : ClassId} {cs bs : List Int32} {d v0 c0 : Value} {z N : Int32} {n n0 : Nat} (hx0 : n0 ≤ x) (hh0 : n0 ≤ h.size) (E : RoadKit.Exa Z h x ST) (V : RoadKit.Fld Z h x ST "value" "[B" v0) (C : RoadKit.Fld Z h x ST "coder" "B" c0) (K : RoadKit.Arv Z h b kC .char N (cs.map Value.int) d) (S : RoadKit.Sta Z h ST "COMPACT_STRINGS" "Z" (.int z)) (hz : ¬ z = 0)
    (hn : cs.length = n) (hN : N = Int32.ofNat n) (l0 : 0 < n) (l2 : n ≤ 4000) (hp : ∀ c ∈ cs, ¬ c < 0 ∧ ¬ (255 : Int32) < c) (hb : bs = cs.map (fun c => c.toInt8.toInt32)) (hfr : 4 ≤ R.frames) (hlo : W + 65 ≤ R.locals) :
    Back l R p e below s args (⟨"java/lang/String", "<init>", "([C)V"⟩ : MethodName) len W (fun P a => a = #[.ref x, .ref b] ∧ P.U.heap = h ∧ P.cells + 1 ≤ R.cells ∧ P.slots + n ≤ R.slots)
      (fun P _ v B => ∃ L, QV Z x N bs h n0 v B.U.heap L ∧ B.locs = P.locs ++ L ∧ B.cells = P.cells + 1 ∧ B.slots = P.slots + n) := by
  subst hn hN hb
  refine Back.mono (backArv hZ hw wi E V C K S hz (n32 (by omega)) l0 (by omega) (fun c hc => (hp c hc).2) hfr hlo) (fun P a hp => hp) (fun P a v B hp hq => ?_)
  obtain ⟨L, ⟨q1, q2, q3, q4, q5, q6, q7, ⟨kb, v1, v2⟩, q9⟩, hl, hc, hs⟩ := hq
  exact ⟨L, ⟨q1, fun y hy => by rw [q2 y hy]; exact hx0, q3, q5, q7, h.size, kb, hh0, Nat.le_refl _, Nat.ne_of_gt E.lt, q6, by rw [List.map_map]; exact v2⟩, hl, hc, hs⟩
end StrChars.Road
namespace StrChars
open Jvm Sem ClassFile Op Lib Jvm.Stand Jvm.Free.XT Jvm.Free.ALB Jvm.Free.JM Jvm.Free
open Jvm.Lib.Cold (StaticIs)
def hi8 (x : Int32) : Int32 := lo8 (x >>> ((8 : Int32) &&& 31))
/-- what StringUTF16.getChar makes of two bytes -/
def pairCh (u v : Int32) : Int32 := (((u &&& 255) <<< ((0 : Int32) &&& 31)) ||| ((v &&& 255) <<< ((8 : Int32) &&& 31))).toUInt32.toUInt16.toUInt32.toInt32
theorem lo8_and (x : Int32) : (lo8 x &&& 255).toBitVec.toNat = x.toBitVec.toNat % 256 := by
  have h : (lo8 x).toBitVec = (x.toBitVec.signExtend 8).signExtend 32 := by rw [lo8, Int8.toBitVec_toInt32, Int32.toBitVec_toInt8]
  rw [Int32.toBitVec_and, BitVec.toNat_and, h]
  have e : ((x.toBitVec.signExtend 8).signExtend 32).toNat % 256 = x.toBitVec.toNat % 256 := by
    rw [BitVec.toNat_signExtend]
    have hlt := x.toBitVec.isLt
    simp only [BitVec.toNat_setWidth, BitVec.toNat_signExtend]
    split <;> split <;> omega
  rw [← e]
  exact Nat.and_two_pow_sub_one_eq_mod _ 8
theorem pair_says {c : Int32} (h0 : ¬ c < 0) (h1 : ¬ 65535 < c) : pairCh (lo8 c) (hi8 c) = c := by
  rw [Int32.lt_iff_toInt_lt] at h0 h1
  have e0 : (0 : Int32).toInt = 0 := rfl
  have e1 : (65535 : Int32).toInt = 65535 := rfl
  have hc : c.toInt = c.toBitVec.toNat := by
    have := c.toBitVec.isLt
    have e : c.toInt = c.toBitVec.toInt := rfl
    rw [e] at h0 h1
    rw [e]
    rw [BitVec.toInt_eq_toNat_cond] at h0 h1 ⊢
    split at h0 <;> split <;> omega
  have hn : c.toBitVec.toNat < 65536 := by omega
  have a1 := lo8_and c
  have a2 : (hi8 c &&& 255).toBitVec.toNat = c.toBitVec.toNat / 256 := by
    rw [hi8, lo8_and]
    have e : ((8 : Int32) &&& 31) = 8 := by decide
    rw [e, Int32.toBitVec_shiftRight]
    have e2 : ((8 : Int32).toBitVec.smod 32) = 8#32 := by decide
    rw [e2, BitVec.sshiftRight_eq', BitVec.toNat_sshiftRight_of_msb_false (by rw [BitVec.msb_eq_false_iff_two_mul_lt]; omega)]
    show c.toBitVec.toNat >>> 8 % 256 = _
    rw [Nat.shiftRight_eq_div_pow]
    omega
  unfold pairCh
  apply Int32.toBitVec_inj.mp
  apply BitVec.eq_of_toNat_eq
  have f0 : ((0 : Int32) &&& 31) = 0 := by decide
  have f8 : ((8 : Int32) &&& 31) = 8 := by decide
  rw [f0, f8]
  have g : (((lo8 c &&& 255) <<< (0 : Int32)) ||| ((hi8 c &&& 255) <<< (8 : Int32))).toBitVec.toNat = c.toBitVec.toNat := by
    rw [Int32.toBitVec_or, Int32.toBitVec_shiftLeft, Int32.toBitVec_shiftLeft]
    have s0 : ((0 : Int32).toBitVec.smod 32) = 0#32 := by decide
    have s8 : ((8 : Int32).toBitVec.smod 32) = 8#32 := by decide
    rw [s0, s8, BitVec.toNat_or]
    simp only [BitVec.shiftLeft_eq', BitVec.toNat_shiftLeft, a1, a2]
    show (c.toBitVec.toNat % 256) <<< 0 % 2 ^ 32 ||| (c.toBitVec.toNat / 256) <<< 8 % 2 ^ 32 = _
    rw [Nat.shiftLeft_zero, Nat.mod_eq_of_lt (show c.toBitVec.toNat % 256 < 2 ^ 32 by omega), Nat.mod_eq_of_lt (show (c.toBitVec.toNat / 256) <<< 8 < 2 ^ 32 by rw [Nat.shiftLeft_eq]; omega), Nat.or_comm, ← Nat.shiftLeft_add_eq_or_of_lt (by omega), Nat.shiftLeft_eq]
    omega
  show BitVec.toNat (((((lo8 c &&& 255) <<< (0 : Int32)) ||| ((hi8 c &&& 255) <<< (8 : Int32))).toBitVec.setWidth 16).setWidth 32) = _
  rw [BitVec.toNat_setWidth, BitVec.toNat_setWidth, g]
  omega
end StrChars
namespace StrChars
open Jvm Sem ClassFile Op Lib Jvm.Stand Jvm.Free.XT Jvm.Free.ALB Jvm.Free.JM Jvm.Free
open Jvm.Lib.Cold (StaticIs)
/-- the array's cell V codes the n chars f 0 .. f (n - 1) by the coder cd, as the JDK does: coder 1 just where some char is above 255 -/
def Cod (cd : Int32) (n : Nat) (f : Nat → Int32) (V : Cell) : Prop := (cd = 0 ∧ V.slots.size = n ∧ ∀ j, j < n → V.slots[j]? = some (.int (lo8 (f j))) ∧ ¬ 255 < f j) ∨ (cd = 1 ∧ V.slots.size = 2 * n ∧ (∀ j, j < n → V.slots[2 * j]? = some (.int (lo8 (f j))) ∧ V.slots[2 * j + 1]? = some (.int (hi8 (f j)))) ∧ ∃ j, j < n ∧ 255 < f j)
/-- **x is a String of the n chars f 0 .. f (n - 1)**, Latin-1 or UTF-16; its array at t has the cell V -/
def Txt (x t : Addr) (V : Cell) (cd : Int32) (n : Nat) (f : Nat → Int32) (U : State) : Prop := Exact "java/lang/String" x U ∧ Has x "java/lang/String" "value" "[B" (.ref t) U ∧ Has x "java/lang/String" "coder" "B" (.int cd) U ∧ XT.Arr .byte t V U ∧ Cod cd n f V ∧ ∀ j, j < n → ¬ f j < 0 ∧ ¬ 65535 < f j
theorem Txt.mv {x t : Addr} {V : Cell} {cd : Int32} {n : Nat} {f : Nat → Int32} {U U' : State} (h : Txt x t V cd n f U) (hal : U.vm.Alike U'.vm) (hh : U'.heap = U.heap) : Txt x t V cd n f U' := ⟨h.1.mv hal hh, h.2.1.mv hal hh, h.2.2.1.mv hal hh, h.2.2.2.1.mv hal hh, h.2.2.2.2⟩
end StrChars
namespace StrChars.Road
open Jvm Sem ClassFile Op Lib Jvm.Stand Jvm.Free Jvm.Free.XT
open Jvm.Lib.Cold (StaticIs)
theorem consq {a : Array Value} {s : State} {c : Jvm.Cond} {L : List Jvm.Cond} (h0 : c.before a s = true) (h : ∀ w ∈ L, w.before a s = true) : ∀ w ∈ c :: L, w.before a s = true := fun w hw => (List.mem_cons.mp hw).elim (fun e => e ▸ h0) (h w)
/-- the bytes of the chars cs, low before high -/
def wideBytes : List Int32 → List Value
  | [] => []
  | c :: cs => .int (lo8 c) :: .int (hi8 c) :: wideBytes cs
theorem wide_lo (d : Value) : ∀ (cs : List Int32) (j : Nat), j < cs.length → (wideBytes cs).getD (2 * j) d = .int (lo8 (cs.getD j 0))
  | [], j, h => absurd h (Nat.not_lt_zero j)
  | c :: cs, 0, _ => rfl
  | c :: cs, j + 1, h => by
    have q := wide_lo d cs j (by simpa using h)
    rw [show 2 * (j + 1) = 2 * j + 1 + 1 from by omega]
    simpa [wideBytes] using q
theorem wide_hi (d : Value) : ∀ (cs : List Int32) (j : Nat), j < cs.length → (wideBytes cs).getD (2 * j + 1) d = .int (hi8 (cs.getD j 0))
  | [], j, h => absurd h (Nat.not_lt_zero j)
  | c :: cs, 0, _ => rfl
  | c :: cs, j + 1, h => by
    have q := wide_hi d cs j (by simpa using h)
    rw [show 2 * (j + 1) + 1 = 2 * j + 1 + 1 + 1 from by omega]
    simpa [wideBytes] using q
theorem low_at (d : Value) (cs : List Int32) (j : Nat) (h : j < cs.length) : (cs.map fun c => Value.int (lo8 c)).getD j d = .int (lo8 (cs.getD j 0)) := by
  simp [List.getD_eq_getElem?_getD, h]
/-- an array of N2 bytes vs codes the chars cs by the coder cd -/
def CodA (cs : List Int32) (cd N2 : Int32) (vs : List Value) : Prop := (cd = 0 ∧ N2 = Int32.ofNat cs.length ∧ vs = (cs.map fun c => Value.int (lo8 c)) ∧ ∀ c ∈ cs, ¬ 255 < c) ∨ (cd = 1 ∧ N2 = Int32.ofNat (2 * cs.length) ∧ vs = wideBytes cs ∧ ∃ c ∈ cs, 255 < c)
theorem CodA.cod {cs : List Int32} {cd N2 : Int32} {vs : List Value} {V : Cell} (h : CodA cs cd N2 vs) (hn : 2 * cs.length < 2 ^ 31) (hs : V.slots.size = N2.toNatClampNeg) (hv : RoadKit.Has V vs (.int 0)) : Cod cd cs.length (fun j => cs.getD j 0) V := by
  rcases h with ⟨rfl, rfl, rfl, h⟩ | ⟨rfl, rfl, rfl, c, hc, hw⟩
  · rw [n32 (by omega)] at hs
    exact Or.inl ⟨rfl, hs, fun j hj => ⟨by rw [hv j (by omega), low_at _ _ _ hj], by
      have e : cs.getD j 0 = cs[j] := by simp [List.getD_eq_getElem?_getD, hj]
      show ¬ 255 < cs.getD j 0
      rw [e]; exact h _ (List.getElem_mem _)⟩⟩
  · rw [n32 (by omega)] at hs
    obtain ⟨j, hj, rfl⟩ := List.getElem_of_mem hc
    exact Or.inr ⟨rfl, hs, fun j hj => ⟨by rw [hv _ (by omega), wide_lo _ _ _ hj], by rw [hv _ (by omega), wide_hi _ _ _ hj]⟩, j, hj, by
      have e : cs.getD j 0 = cs[j] := by simp [List.getD_eq_getElem?_getD, hj]
      show 255 < cs.getD j 0
      rw [e]; exact hw⟩
/-- an object of exactly java/lang/String, its two fields found: as the laws ask it -/
theorem strObj {Z U : State} {a0 : Array Value} {kI : Nat} (wi : (Jvm.Cond.instantiable ST kI).before a0 Z = true) (al : Z.vm.Alike U.vm) {x : Addr} {v0 c0 : Value} (E : RoadKit.Exa Z U.heap x ST) (V : RoadKit.Fld Z U.heap x ST "value" "[B" v0) (C : RoadKit.Fld Z U.heap x ST "coder" "B" c0) :
    ∃ (D : Cell) (fV fC : Field), Blank ST x D U ∧ Found ST "value" "[B" fV U ∧ Found ST "coder" "B" fC U ∧ D.slots[fV.slot]? = some v0 ∧ D.slots[fC.slot]? = some c0 ∧ RoadKit.slotOf Z ST "value" "[B" = fV.slot ∧ RoadKit.slotOf Z ST "coder" "B" = fC.slot := by
  obtain ⟨D, cfV, kV, iV, fV, hD, gV, stV, knV, obV, asV, slV⟩ := V
  obtain ⟨D', cfC, kC, iC, fC, hD', gC, stC, -, -, asC, slC⟩ := C
  cases hD.symm.trans hD'
  obtain ⟨D2, kD, e1, e2, e3, e4, e5⟩ := E
  cases hD.symm.trans e1
  obtain ⟨c2, k2, i1, i2, i3, -⟩ := Cond.instantiable_spec wi
  cases e2.symm.trans i1
  cases e3.symm.trans i2
  obtain ⟨kU, u1, u2⟩ := al.2.2 _ _ e3
  exact ⟨D, fV, fC, ⟨hD, ⟨knV, fun q hq => by rw [hq] at obV; cases obV⟩, by rw [al.findClass]; exact e2, kU, u1, by rw [u2]; exact i3, by rw [u2]; exact e5 i3⟩, ⟨SBG.found_only al ⟨cfV, kV, iV, gV⟩, stV⟩, ⟨SBG.found_only al ⟨cfC, kC, iC, gC⟩, stC⟩, slV, slC, by simp [RoadKit.slotOf, gV], by simp [RoadKit.slotOf, gC]⟩
theorem sta_is {Z U : State} (al : Z.vm.Alike U.vm) {C n d : String} {v : Value} (S : RoadKit.Sta Z U.heap C n d v) : StaticIs U C n d v := by
  obtain ⟨cfS, iS, kS, fS, st, cS, t1, t2, t3, t4, t5, t6, t7⟩ := S
  exact StaticIs.there (s := { Z with heap := U.heap }) ⟨cfS, iS, kS, fS, st, cS, t1, t2, t3, t4, t5, (fun q => by rw [q] at t6; cases t6), t7⟩ al rfl
end StrChars.Road
namespace StrChars
open Jvm Sem ClassFile Op Lib Jvm.Stand Jvm.Free.XT Jvm.Free.ALB Jvm.Free.JM Jvm.Free
open Jvm.Lib.Cold (StaticIs)
/-- what place i of a byte[]'s cell holds -/
def yv (A : Cell) (i : Nat) : Int32 := match A.slots[i]? with | some (.int x) => x | _ => 0
theorem yv_get {a : Addr} {A : Cell} {U : State} (h : XT.Arr .byte a A U) (ht : Typed .byte A) {i : Nat} (hi : i < A.slots.size) : A.slots[i]? = some (.int (yv A i)) := by
  have e := Array.getElem?_eq_getElem hi
  have f := ht i _ e
  unfold yv; rw [e]
  generalize A.slots[i] = v at f
  cases v <;> simp [fits] at f ⊢
/-- the two arrays are equal, place for place -/
def EqC (A B : Cell) : Prop := A.slots.size = B.slots.size ∧ ∀ i, i < A.slots.size → yv A i = yv B i
/-- a boolean that says whether p -/
def Says01 (q : Prop) (r : Option Value) (s u : State) : Prop := ∃ v : Int32, r = some (.int v) ∧ u.heap = s.heap ∧ ((v = 1 ∧ q) ∨ (v = 0 ∧ ¬ q))
theorem Says01.mv {q : Prop} : ∀ r (U U' V V' : State), U'.heap = U.heap → V.vm.Alike V'.vm → V'.heap = V.heap → Says01 q r U V → Says01 q r U' V' :=
  fun r U U' V V' h1 _ h2 ⟨v, a, b, c⟩ => ⟨v, a, by rw [h1, h2]; exact b, c⟩
namespace LEq
def yN : MethodName := ⟨"java/lang/StringLatin1", "equals", "([B[B)Z"⟩
abbrev yB : ByteArray := jdk_43_method_13_code
theorem d0 : decode yB 0 = .ok (.aload_n 0, 1) := by decide +kernel
theorem d1 : decode yB 1 = .ok (.arraylength, 1) := by decide +kernel
theorem d2 : decode yB 2 = .ok (.aload_n 1, 1) := by decide +kernel
theorem d3 : decode yB 3 = .ok (.arraylength, 1) := by decide +kernel
theorem d4 : decode yB 4 = .ok (.if_icmp (.ne) 30, 3) := by decide +kernel
theorem d7 : decode yB 7 = .ok (.iconst 0, 1) := by decide +kernel
theorem d8 : decode yB 8 = .ok (.istore_n 2, 1) := by decide +kernel
theorem d9 : decode yB 9 = .ok (.iload_n 2, 1) := by decide +kernel
theorem d10 : decode yB 10 = .ok (.aload_n 0, 1) := by decide +kernel
theorem d11 : decode yB 11 = .ok (.arraylength, 1) := by decide +kernel
theorem d12 : decode yB 12 = .ok (.if_icmp (.ge) 20, 3) := by decide +kernel
theorem d15 : decode yB 15 = .ok (.aload_n 0, 1) := by decide +kernel
theorem d16 : decode yB 16 = .ok (.iload_n 2, 1) := by decide +kernel
theorem d17 : decode yB 17 = .ok (.baload, 1) := by decide +kernel
theorem d18 : decode yB 18 = .ok (.aload_n 1, 1) := by decide +kernel
theorem d19 : decode yB 19 = .ok (.iload_n 2, 1) := by decide +kernel
theorem d20 : decode yB 20 = .ok (.baload, 1) := by decide +kernel
theorem d21 : decode yB 21 = .ok (.if_icmp (.eq) 5, 3) := by decide +kernel
theorem d24 : decode yB 24 = .ok (.iconst 0, 1) := by decide +kernel
theorem d25 : decode yB 25 = .ok (.ireturn, 1) := by decide +kernel
theorem d26 : decode yB 26 = .ok (.iinc 2 1, 3) := by decide +kernel
theorem d29 : decode yB 29 = .ok (.goto (-20), 3) := by decide +kernel
theorem d32 : decode yB 32 = .ok (.iconst 1, 1) := by decide +kernel
theorem d33 : decode yB 33 = .ok (.ireturn, 1) := by decide +kernel
theorem d34 : decode yB 34 = .ok (.iconst 0, 1) := by decide +kernel
theorem d35 : decode yB 35 = .ok (.ireturn, 1) := by decide +kernel
def site : List Cond := []
def tab : Cond := tabOf yN yB 3 (some .boolean) site
def P (a : Addr) (A : Cell) (b : Addr) (B : Cell) (args : Array Value) (s : State) : Prop := args = #[.ref a, .ref b] ∧ XT.Arr .byte a A s ∧ Typed .byte A ∧ XT.Arr .byte b B s ∧ Typed .byte B
/-- whether two byte[] are equal, place for place -/
theorem law (l : Launch) (a : Addr) (A : Cell) (b : Addr) (B : Cell) : Law l yN 2 2 0 0 yB 3 (some .boolean) site (P a A b B) (Says01 (EqC A B)) [] 0 0 := by
  refine Law.of_walk (plainFor_of_name (by decide +kernel)) (by decide +kernel) (by decide +kernel) (by decide) (fun _ _ h => by rw [h.1]; rfl) (fun _ U U' hal hh h => ⟨h.1, h.2.1.mv hal hh, h.2.2.1, h.2.2.2.1.mv hal hh, h.2.2.2.2⟩) (fun r U U' V V' h1 hal h2 h => Says01.mv r U U' V V' h1 hal h2 h) ?_
  intro p e s m args below meth c s₁ X0 hexec hbytes hml hret hlk hnm hown hh0 W hP
  obtain ⟨rfl, hA, tA, hB, tB⟩ := hP
  have a31 := hA.2.2.2
  have b31 := hB.2.2.2
  have hA0 := hA.mv X0.warmed.alike hh0
  have hB0 := hB.mv X0.warmed.alike hh0
  have c1 : Steps p.tables e below (s₁.setTop (entryFrame m #[.ref a, .ref b] 3)) (s₁.setTop (mkF m 0 #[.val (.ref a), .val (.ref b), .unset] [])) := entry rfl
  have c2 : Steps p.tables e below (s₁.setTop (entryFrame m #[.ref a, .ref b] 3)) (s₁.setTop (mkF m 4 #[.val (.ref a), .val (.ref b), .unset] [.int (Int32.ofNat B.slots.size), .int (Int32.ofNat A.slots.size)])) := c1.trans (by
    refine XS.aloadN X0.here hexec rfl (hb hbytes d0) rfl rfl ?_
    refine X0.alen hexec hA0 rfl rfl (hb hbytes d1) ?_
    refine XS.aloadN X0.here hexec rfl (hb hbytes d2) rfl rfl ?_
    refine X0.alen hexec hB0 rfl rfl (hb hbytes d3) ?_
    exact Steps.refl _)
  by_cases hs : A.slots.size = B.slots.size
  · have c3 : Steps p.tables e below (s₁.setTop (entryFrame m #[.ref a, .ref b] 3)) (s₁.setTop (mkF m 9 #[.val (.ref a), .val (.ref b), .val (.int 0)] [])) := c2.trans (by
      refine XS.icmpNo X0.here hexec rfl (hb hbytes d4) rfl (ii_ne_f (by rw [hs])) ?_
      refine iconstV X0.here hexec rfl 0 (hb hbytes d7) (by decide) ?_
      refine XS.istoreN X0.here hexec rfl (hb hbytes d8) rfl rfl ?_
      exact Steps.refl _)
    have loop : ∀ (r i : Nat), i + r = A.slots.size → (∀ j, j < i → yv A j = yv B j) → Steps p.tables e below (s₁.setTop (entryFrame m #[.ref a, .ref b] 3)) (s₁.setTop (mkF m 9 #[.val (.ref a), .val (.ref b), .val (.int (Int32.ofNat i))] [])) → ∃ (pc : Nat) (Ls : Array Slot) (v : Int32), (pc = 25 ∨ pc = 33) ∧ ((v = 1 ∧ EqC A B) ∨ (v = 0 ∧ ¬ EqC A B)) ∧ Steps p.tables e below (s₁.setTop (entryFrame m #[.ref a, .ref b] 3)) (s₁.setTop (mkF m pc Ls [.int v])) := by
      intro r
      induction r with
      | zero =>
        intro i hi he cl
        exact ⟨33, _, 1, Or.inr rfl, Or.inl ⟨rfl, hs, fun j hj => he j (by omega)⟩, cl.trans (by
          refine XS.iloadN X0.here hexec rfl (hb hbytes d9) rfl ?_
          refine XS.aloadN X0.here hexec rfl (hb hbytes d10) rfl rfl ?_
          refine X0.alen hexec hA0 rfl rfl (hb hbytes d11) ?_
          refine XS.icmpYes X0.here hexec rfl (pc0 := 12) rfl (hb hbytes d12) rfl (ii_ge_t (nlt32 (by omega) (by omega))) (by decide) rfl ?_
          refine iconstV X0.here hexec rfl 1 (hb hbytes d32) (by decide) ?_
          exact Steps.refl _)⟩
      | succ r ih =>
        intro i hi he cl
        have c4 : Steps p.tables e below (s₁.setTop (entryFrame m #[.ref a, .ref b] 3)) (s₁.setTop (mkF m 21 #[.val (.ref a), .val (.ref b), .val (.int (Int32.ofNat i))] [.int (yv B i), .int (yv A i)])) := cl.trans (by
          refine XS.iloadN X0.here hexec rfl (hb hbytes d9) rfl ?_
          refine XS.aloadN X0.here hexec rfl (hb hbytes d10) rfl rfl ?_
          refine X0.alen hexec hA0 rfl rfl (hb hbytes d11) ?_
          refine XS.icmpNo X0.here hexec rfl (hb hbytes d12) rfl (ii_ge_f (lt32 (by omega) (by omega))) ?_
          refine XS.aloadN X0.here hexec rfl (hb hbytes d15) rfl rfl ?_
          refine XS.iloadN X0.here hexec rfl (hb hbytes d16) rfl ?_
          refine X0.aget hexec hA0 rfl (yv_get hA tA (i := i) (by omega)) rfl rfl (hb hbytes d17) ?_
          refine XS.aloadN X0.here hexec rfl (hb hbytes d18) rfl rfl ?_
          refine XS.iloadN X0.here hexec rfl (hb hbytes d19) rfl ?_
          refine X0.aget hexec hB0 rfl (yv_get hB tB (i := i) (by omega)) rfl rfl (hb hbytes d20) ?_
          exact Steps.refl _)
        by_cases hv : yv A i = yv B i
        · have c5 : Steps p.tables e below (s₁.setTop (entryFrame m #[.ref a, .ref b] 3)) (s₁.setTop (mkF m 9 #[.val (.ref a), .val (.ref b), .val (.int (Int32.ofNat i + 1))] [])) := c4.trans (by
            refine XS.icmpYes X0.here hexec rfl (pc0 := 21) rfl (hb hbytes d21) rfl (ii_eq_t hv) (by decide) rfl ?_
            refine iincV X0.here hexec rfl 1 (hb hbytes d26) (by decide) rfl rfl ?_
            refine XS.goto X0.here hexec rfl (pc0 := 29) rfl (hb hbytes d29) (by decide) rfl ?_
            exact Steps.refl _)
          rw [succ32] at c5
          exact ih (i + 1) (by omega) (fun j hj => by
            by_cases e : j = i
            · rw [e]; exact hv
            · exact he j (by omega)) c5
        · exact ⟨25, _, 0, Or.inl rfl, Or.inr ⟨rfl, fun q => hv (q.2 i (by omega))⟩, c4.trans (by
            refine XS.icmpNo X0.here hexec rfl (hb hbytes d21) rfl (ii_eq_f hv) ?_
            refine iconstV X0.here hexec rfl 0 (hb hbytes d24) (by decide) ?_
            exact Steps.refl _)⟩
    obtain ⟨pc, Ls, v, hpc, hv, cz⟩ := loop A.slots.size 0 (by omega) (fun j hj => absurd hj (Nat.not_lt_zero j)) c3
    have nv : narrow .boolean (.int v) = .int v := by rcases hv with ⟨rfl, -⟩ | ⟨rfl, -⟩ <;> rfl
    rcases hpc with rfl | rfl
    · exact ⟨s₁, some (.int v), _, _, _, X0, rfl, rfl, rfl, (fun h => by cases h), ⟨v, rfl, hh0, hv⟩, fun fs hl => cz.trans (X0.ireturnOut hexec hret nv (Or.inr (Or.inl rfl)) (hb hbytes d25) hl)⟩
    · exact ⟨s₁, some (.int v), _, _, _, X0, rfl, rfl, rfl, (fun h => by cases h), ⟨v, rfl, hh0, hv⟩, fun fs hl => cz.trans (X0.ireturnOut hexec hret nv (Or.inr (Or.inl rfl)) (hb hbytes d33) hl)⟩
  · have c3 : Steps p.tables e below (s₁.setTop (entryFrame m #[.ref a, .ref b] 3)) (s₁.setTop (mkF m 35 #[.val (.ref a), .val (.ref b), .unset] [.int 0])) := c2.trans (by
      refine XS.icmpYes X0.here hexec rfl (pc0 := 4) rfl (hb hbytes d4) rfl (ii_ne_t (ne32 a31 b31 hs)) (by decide) rfl ?_
      refine iconstV X0.here hexec rfl 0 (hb hbytes d34) (by decide) ?_
      exact Steps.refl _)
    exact ⟨s₁, some (.int 0), _, _, _, X0, rfl, rfl, rfl, (fun h => by cases h), ⟨0, rfl, hh0, Or.inr ⟨rfl, fun q => hs q.1⟩⟩, fun fs hl => c3.trans (X0.ireturnOut hexec hret rfl (Or.inr (Or.inl rfl)) (hb hbytes d35) hl)⟩
end LEq
theorem Cod.ty {cd : Int32} {n : Nat} {f : Nat → Int32} {V : Cell} (h : Cod cd n f V) : Typed .byte V := fun i v hv => by
  have hi : i < V.slots.size := (Array.getElem?_eq_some_iff.mp hv).1
  rcases h with ⟨-, k1, k2⟩ | ⟨-, k1, k2, -⟩
  · rw [(k2 i (by omega)).1] at hv; cases hv; exact fits_lo8 _
  · rcases Nat.mod_two_eq_zero_or_one i with e | e
    · obtain ⟨j, rfl⟩ : ∃ j, i = 2 * j := ⟨i / 2, by omega⟩
      rw [(k2 j (by omega)).1] at hv; cases hv; exact fits_lo8 _
    · obtain ⟨j, rfl⟩ : ∃ j, i = 2 * j + 1 := ⟨i / 2, by omega⟩
      rw [(k2 j (by omega)).2] at hv; cases hv; exact fits_lo8 _
/-- the same text -/
def SameT (n : Nat) (f : Nat → Int32) (k : Nat) (g : Nat → Int32) : Prop := n = k ∧ ∀ j, j < n → f j = g j
theorem lo8_inj {x y : Int32} (h0 : ¬ x < 0) (h1 : ¬ 255 < x) (k0 : ¬ y < 0) (k1 : ¬ 255 < y) (h : lo8 x = lo8 y) : x = y := by
  rw [← lo8_mask h0 h1, ← lo8_mask k0 k1, h]
/-- arrays coded by one coder are equal just where the texts are -/
theorem Cod.eqv {cd : Int32} {n k : Nat} {f g : Nat → Int32} {V V' : Cell} (h : Cod cd n f V) (h' : Cod cd k g V') (hf : ∀ j, j < n → ¬ f j < 0 ∧ ¬ 65535 < f j) (hg : ∀ j, j < k → ¬ g j < 0 ∧ ¬ 65535 < g j) : EqC V V' ↔ SameT n f k g := by
  have yvv : ∀ {W : Cell} {i : Nat} {x : Int32}, W.slots[i]? = some (.int x) → yv W i = x := fun q => by unfold yv; rw [q]
  rcases h with ⟨rfl, k1, k2⟩ | ⟨rfl, k1, k2, -⟩
  · rcases h' with ⟨-, m1, m2⟩ | ⟨e, -⟩
    · constructor
      · rintro ⟨e1, e2⟩
        refine ⟨by omega, fun j hj => ?_⟩
        have q := e2 j (by omega)
        rw [yvv (k2 j hj).1, yvv (m2 j (by omega)).1] at q
        exact lo8_inj (hf j hj).1 (k2 j hj).2 (hg j (by omega)).1 (m2 j (by omega)).2 q
      · rintro ⟨rfl, e2⟩
        refine ⟨by omega, fun j hj => ?_⟩
        rw [yvv (k2 j (by omega)).1, yvv (m2 j (by omega)).1, e2 j (by omega)]
    · exact absurd e (by decide)
  · rcases h' with ⟨e, -⟩ | ⟨-, m1, m2, -⟩
    · exact absurd e (by decide)
    · constructor
      · rintro ⟨e1, e2⟩
        refine ⟨by omega, fun j hj => ?_⟩
        have q1 := e2 (2 * j) (by omega)
        have q2 := e2 (2 * j + 1) (by omega)
        rw [yvv (k2 j hj).1, yvv (m2 j (by omega)).1] at q1
        rw [yvv (k2 j hj).2, yvv (m2 j (by omega)).2] at q2
        rw [← pair_says (hf j hj).1 (hf j hj).2, ← pair_says (hg j (by omega)).1 (hg j (by omega)).2, q1, q2]
      · rintro ⟨rfl, e2⟩
        refine ⟨by omega, fun i hi => ?_⟩
        rcases Nat.mod_two_eq_zero_or_one i with e | e
        · obtain ⟨j, rfl⟩ : ∃ j, i = 2 * j := ⟨i / 2, by omega⟩
          rw [yvv (k2 j (by omega)).1, yvv (m2 j (by omega)).1, e2 j (by omega)]
        · obtain ⟨j, rfl⟩ : ∃ j, i = 2 * j + 1 := ⟨i / 2, by omega⟩
          rw [yvv (k2 j (by omega)).2, yvv (m2 j (by omega)).2, e2 j (by omega)]
/-- two codings differ: so do the texts -/
theorem Cod.dif {cd cd' : Int32} {n k : Nat} {f g : Nat → Int32} {V V' : Cell} (h : Cod cd n f V) (h' : Cod cd' k g V') (hne : ¬ cd = cd') : ¬ SameT n f k g := by
  rintro ⟨rfl, e⟩
  rcases h with ⟨rfl, -, k2⟩ | ⟨rfl, -, -, j, hj, hw⟩
  · rcases h' with ⟨rfl, -⟩ | ⟨-, -, -, j, hj, hw⟩
    · exact hne rfl
    · exact (k2 j hj).2 (by rw [e j hj]; exact hw)
  · rcases h' with ⟨-, -, m2⟩ | ⟨rfl, -⟩
    · exact (m2 j hj).2 (by rw [← e j hj]; exact hw)
    · exact hne rfl
/-- an object of exactly C is an instance of C -/
theorem cinst {p : Program} {l : Launch} {e : Env} {R : Room} {s : State} {m : MethodId} {args : Array Value} {below : List Frame} {meth : Method} {c : Code} {T : State} {locs : List Loc} {cells slots : Nat} (X : Stand p l e R s m args below meth c T locs cells slots) (hexec : p.tables.exec = Jvm.exec) {own C : String} {index : Nat} (hown : s.vm.findClass own = some m.cls) (hlink : (Cond.classLink own index C).before args s = true) {a : Addr} (hE : Exact C a T)
    {g : JFrame} (hg : g.method = m) {rest : List Value} (hstack : g.stack = .ref a :: rest) (hdg : decode c.code g.pc = .ok (.instanceof index, 3)) :
    ∃ T', Stand p l e R s m args below meth c T' locs cells slots ∧ T'.heap = T.heap ∧ ∀ target, Steps p.tables e below (T'.setTop { g with pc := g.pc + 3, stack := .int 1 :: rest }) target → Steps p.tables e below (T.setTop g) target := by
  obtain ⟨cB, h1, D, h2, h3, h4⟩ := hE
  have h1' : s.vm.findClass C = some cB := by rw [← X.warmed.alike.findClass]; exact h1
  obtain ⟨vm', X', st⟩ := X.instanceofYes hexec hown hlink h2 h4 h1' (by rw [h3]; exact Jvm.Free.SB.assignable_self _ _) hg hstack hdg
  exact ⟨_, X', rfl, st⟩
theorem cself {p : Program} {l : Launch} {e : Env} {R : Room} {s : State} {m : MethodId} {args : Array Value} {below : List Frame} {meth : Method} {c : Code} {T : State} {locs : List Loc} {cells slots : Nat} (X : Stand p l e R s m args below meth c T locs cells slots) (hexec : p.tables.exec = Jvm.exec) {own C : String} {index : Nat} (hown : s.vm.findClass own = some m.cls) (hlink : (Cond.classLink own index C).before args s = true) {a : Addr} (hE : Exact C a T)
    {g : JFrame} (hg : g.method = m) {rest : List Value} (hstack : g.stack = .ref a :: rest) (hdg : decode c.code g.pc = .ok (.checkcast index, 3)) :
    ∃ T', Stand p l e R s m args below meth c T' locs cells slots ∧ T'.heap = T.heap ∧ ∀ target, Steps p.tables e below (T'.setTop { g with pc := g.pc + 3, stack := .ref a :: rest }) target → Steps p.tables e below (T.setTop g) target := by
  obtain ⟨cB, h1, D, h2, h3, h4⟩ := hE
  have h1' : s.vm.findClass C = some cB := by rw [← X.warmed.alike.findClass]; exact h1
  obtain ⟨vm', X', st⟩ := X.checkcastYes hexec hown hlink h2 h4 h1' (by rw [h3]; exact Jvm.Free.SB.assignable_self _ _) hg hstack hdg
  exact ⟨_, X', rfl, fun t h => st t (by rw [← hstack] at h; exact h)⟩
namespace SEq
def yN : MethodName := ⟨"java/lang/String", "equals", "(Ljava/lang/Object;)Z"⟩
abbrev yB : ByteArray := jdk_42_method_66_code
theorem d0 : decode yB 0 = .ok (.aload_n 0, 1) := by decide +kernel
theorem d1 : decode yB 1 = .ok (.aload_n 1, 1) := by decide +kernel
theorem d2 : decode yB 2 = .ok (.if_acmp (.ne) 5, 3) := by decide +kernel
theorem d5 : decode yB 5 = .ok (.iconst 1, 1) := by decide +kernel
theorem d6 : decode yB 6 = .ok (.ireturn, 1) := by decide +kernel
theorem d7 : decode yB 7 = .ok (.aload_n 1, 1) := by decide +kernel
theorem d8 : decode yB 8 = .ok (.instanceof 10, 3) := by decide +kernel
theorem d11 : decode yB 11 = .ok (.ifCond (.eq) 43, 3) := by decide +kernel
theorem d14 : decode yB 14 = .ok (.aload_n 1, 1) := by decide +kernel
theorem d15 : decode yB 15 = .ok (.checkcast 10, 3) := by decide +kernel
theorem d18 : decode yB 18 = .ok (.astore_n 2, 1) := by decide +kernel
theorem d19 : decode yB 19 = .ok (.getstatic 38, 3) := by decide +kernel
theorem d22 : decode yB 22 = .ok (.ifCond (.eq) 14, 3) := by decide +kernel
theorem d25 : decode yB 25 = .ok (.aload_n 0, 1) := by decide +kernel
theorem d26 : decode yB 26 = .ok (.getfield 15, 3) := by decide +kernel
theorem d29 : decode yB 29 = .ok (.aload_n 2, 1) := by decide +kernel
theorem d30 : decode yB 30 = .ok (.getfield 15, 3) := by decide +kernel
theorem d33 : decode yB 33 = .ok (.if_icmp (.ne) 21, 3) := by decide +kernel
theorem d36 : decode yB 36 = .ok (.aload_n 0, 1) := by decide +kernel
theorem d37 : decode yB 37 = .ok (.getfield 9, 3) := by decide +kernel
theorem d40 : decode yB 40 = .ok (.aload_n 2, 1) := by decide +kernel
theorem d41 : decode yB 41 = .ok (.getfield 9, 3) := by decide +kernel
theorem d44 : decode yB 44 = .ok (.invokestatic 541, 3) := by decide +kernel
theorem d47 : decode yB 47 = .ok (.ifCond (.eq) 7, 3) := by decide +kernel
theorem d50 : decode yB 50 = .ok (.iconst 1, 1) := by decide +kernel
theorem d51 : decode yB 51 = .ok (.goto 4, 3) := by decide +kernel
theorem d54 : decode yB 54 = .ok (.iconst 0, 1) := by decide +kernel
theorem d55 : decode yB 55 = .ok (.ireturn, 1) := by decide +kernel
def site : List Cond := [.classLink "java/lang/String" 10 "java/lang/String", .fieldLink "java/lang/String" 38 "java/lang/String" "COMPACT_STRINGS" "Z", .fieldLink "java/lang/String" 15 "java/lang/String" "coder" "B", .fieldLink "java/lang/String" 9 "java/lang/String" "value" "[B", LEq.tab] ++ staticW "java/lang/String" 541 LEq.yN
def tab : Cond := tabOf yN yB 3 (some .boolean) site
def P (x t : Addr) (V : Cell) (cd : Int32) (n : Nat) (f : Nat → Int32) (y t' : Addr) (V' : Cell) (cd' : Int32) (k : Nat) (g : Nat → Int32) (z : Int32) (args : Array Value) (s : State) : Prop := args = #[.ref x, .ref y] ∧ Txt x t V cd n f s ∧ Txt y t' V' cd' k g s ∧ StaticIs s "java/lang/String" "COMPACT_STRINGS" "Z" (.int z) ∧ ¬ z = 0
/-- equals(Object) of two Strings: whether the texts are the same -/
theorem law (l : Launch) (x t : Addr) (V : Cell) (cd : Int32) (n : Nat) (f : Nat → Int32) (y t' : Addr) (V' : Cell) (cd' : Int32) (k : Nat) (g : Nat → Int32) (z : Int32) : Law l yN 2 1 1 14 yB 3 (some .boolean) site (P x t V cd n f y t' V' cd' k g z) (Says01 (SameT n f k g)) [] 0 0 := by
  refine Law.of_walk (plainFor_of_name (by decide +kernel)) (by decide +kernel) (by decide +kernel) (by decide) (fun _ _ h => by rw [h.1]; rfl) (fun _ U U' hal hh h => ⟨h.1, h.2.1.mv hal hh, h.2.2.1.mv hal hh, h.2.2.2.1.there hal hh, h.2.2.2.2⟩) (fun r U U' V V' h1 hal h2 h => Says01.mv r U U' V V' h1 hal h2 h) ?_
  intro p e s m args below meth c s₁ X0 hexec hbytes hml hret hlk hnm hown hh0 W hP
  obtain ⟨rfl, hx, hy, s1, hz⟩ := hP
  have c1 : Steps p.tables e below (s₁.setTop (entryFrame m #[.ref x, .ref y] 3)) (s₁.setTop (mkF m 2 #[.val (.ref x), .val (.ref y), .unset] [.ref y, .ref x])) := Steps.trans (entry rfl) (by
    show Steps p.tables e below (s₁.setTop (mkF m 0 #[.val (.ref x), .val (.ref y), .unset] [])) _
    refine XS.aloadN X0.here hexec rfl (hb hbytes d0) rfl rfl ?_
    refine XS.aloadN X0.here hexec rfl (hb hbytes d1) rfl rfl ?_
    exact Steps.refl _)
  by_cases hxy : x = y
  · have c2 : Steps p.tables e below (s₁.setTop (entryFrame m #[.ref x, .ref y] 3)) (s₁.setTop (mkF m 6 #[.val (.ref x), .val (.ref y), .unset] [.int 1])) := c1.trans (by
      refine acmpNo X0.here hexec rfl (hb hbytes d2) rfl rfl rfl (by simp [acmp, hxy]) ?_
      refine iconstV X0.here hexec rfl 1 (hb hbytes d5) (by decide) ?_
      exact Steps.refl _)
    subst hxy
    have ec : cd = cd' := by
      obtain ⟨D, fd, a1, a2, a3⟩ := hx.2.2.1
      obtain ⟨D', fd', b1, b2, b3⟩ := hy.2.2.1
      cases a1.symm.trans b1
      obtain ⟨q1, q2, q3, q4⟩ := a2.1
      obtain ⟨r1, r2, r3, r4⟩ := b2.1
      cases q4.symm.trans r4
      cases a3.symm.trans b3; rfl
    have et : t = t' := by
      obtain ⟨D, fd, a1, a2, a3⟩ := hx.2.1
      obtain ⟨D', fd', b1, b2, b3⟩ := hy.2.1
      cases a1.symm.trans b1
      obtain ⟨q1, q2, q3, q4⟩ := a2.1
      obtain ⟨r1, r2, r3, r4⟩ := b2.1
      cases q4.symm.trans r4
      cases a3.symm.trans b3; rfl
    subst ec et
    have ev : V = V' := by cases hx.2.2.2.1.1.symm.trans hy.2.2.2.1.1; rfl
    subst ev
    have hs : SameT n f k g := (Cod.eqv hx.2.2.2.2.1 hy.2.2.2.2.1 hx.2.2.2.2.2 hy.2.2.2.2.2).mp ⟨rfl, fun _ _ => rfl⟩
    exact ⟨s₁, some (.int 1), _, _, _, X0, rfl, rfl, rfl, (fun h => by cases h), ⟨1, rfl, hh0, Or.inl ⟨rfl, hs⟩⟩, fun fs hl => c2.trans (X0.ireturnOut hexec hret rfl (Or.inr (Or.inl rfl)) (hb hbytes d6) hl)⟩
  · have c2 : Steps p.tables e below (s₁.setTop (entryFrame m #[.ref x, .ref y] 3)) (s₁.setTop (mkF m 8 #[.val (.ref x), .val (.ref y), .unset] [.ref y])) := c1.trans (by
      refine acmpYes X0.here hexec rfl (pc0 := 2) rfl (hb hbytes d2) rfl rfl rfl (by simp [acmp, hxy]) (by decide) rfl ?_
      refine XS.aloadN X0.here hexec rfl (hb hbytes d7) rfl rfl ?_
      exact Steps.refl _)
    obtain ⟨T3, X3, q3, st3⟩ := cinst X0 hexec hown (wk W (.classLink "java/lang/String" 10 "java/lang/String")) (hy.mv X0.warmed.alike hh0).1 (g := (mkF m 8 #[.val (.ref x), .val (.ref y), .unset] [.ref y])) rfl (rest := []) rfl (hb hbytes d8)
    have hh3 := q3.trans hh0
    have c4 : Steps p.tables e below (s₁.setTop (entryFrame m #[.ref x, .ref y] 3)) (T3.setTop (mkF m 15 #[.val (.ref x), .val (.ref y), .unset] [.ref y])) := (c2.trans (st3 _ (Steps.refl _))).trans (by
      refine XS.ifNo X3.here hexec rfl (hb hbytes d11) rfl (i0_eq_f (by decide)) ?_
      refine XS.aloadN X3.here hexec rfl (hb hbytes d14) rfl rfl ?_
      exact Steps.refl _)
    obtain ⟨T5, X5, q5, st5⟩ := cself X3 hexec hown (wk W (.classLink "java/lang/String" 10 "java/lang/String")) (hy.mv X3.warmed.alike hh3).1 (g := (mkF m 15 #[.val (.ref x), .val (.ref y), .unset] [.ref y])) rfl (rest := []) rfl (hb hbytes d15)
    have hh5 := q5.trans hh3
    have c6 : Steps p.tables e below (s₁.setTop (entryFrame m #[.ref x, .ref y] 3)) (T5.setTop (mkF m 19 #[.val (.ref x), .val (.ref y), .val (.ref y)] [])) := (c4.trans (st5 _ (Steps.refl _))).trans (by
      refine XS.astoreN X5.here hexec rfl (hb hbytes d18) rfl rfl rfl ?_
      exact Steps.refl _)
    obtain ⟨T7, X7, q7, st7⟩ := X5.sget hexec hown (wk W (.fieldLink "java/lang/String" 38 "java/lang/String" "COMPACT_STRINGS" "Z")) s1 (fun _ _ h => by rw [hh5]; exact h) (g := (mkF m 19 #[.val (.ref x), .val (.ref y), .val (.ref y)] [])) rfl (hb hbytes d19)
    have hh7 := q7.trans hh5
    have c8 : Steps p.tables e below (s₁.setTop (entryFrame m #[.ref x, .ref y] 3)) (T7.setTop (mkF m 26 #[.val (.ref x), .val (.ref y), .val (.ref y)] [.ref x])) := (c6.trans (st7 _ (Steps.refl _))).trans (by
      refine XS.ifNo X7.here hexec rfl (hb hbytes d22) rfl (i0_eq_f hz) ?_
      refine XS.aloadN X7.here hexec rfl (hb hbytes d25) rfl rfl ?_
      exact Steps.refl _)
    obtain ⟨T9, X9, q9, st9⟩ := X7.hget hexec hown (wk W (.fieldLink "java/lang/String" 15 "java/lang/String" "coder" "B")) (hx.mv X7.warmed.alike hh7).2.2.1 (g := (mkF m 26 #[.val (.ref x), .val (.ref y), .val (.ref y)] [.ref x])) rfl (rest := []) rfl (hb hbytes d26)
    have hh9 := q9.trans hh7
    have c10 : Steps p.tables e below (s₁.setTop (entryFrame m #[.ref x, .ref y] 3)) (T9.setTop (mkF m 30 #[.val (.ref x), .val (.ref y), .val (.ref y)] [.ref y, .int cd])) := (c8.trans (st9 _ (Steps.refl _))).trans (by
      refine XS.aloadN X9.here hexec rfl (hb hbytes d29) rfl rfl ?_
      exact Steps.refl _)
    obtain ⟨T11, X11, q11, st11⟩ := X9.hget hexec hown (wk W (.fieldLink "java/lang/String" 15 "java/lang/String" "coder" "B")) (hy.mv X9.warmed.alike hh9).2.2.1 (g := (mkF m 30 #[.val (.ref x), .val (.ref y), .val (.ref y)] [.ref y, .int cd])) rfl (rest := [.int cd]) rfl (hb hbytes d30)
    have hh11 := q11.trans hh9
    have c12 : Steps p.tables e below (s₁.setTop (entryFrame m #[.ref x, .ref y] 3)) (T11.setTop (mkF m 33 #[.val (.ref x), .val (.ref y), .val (.ref y)] [.int cd', .int cd])) := c10.trans (st11 _ (Steps.refl _))
    by_cases hcd : cd = cd'
    · subst hcd
      have c13 : Steps p.tables e below (s₁.setTop (entryFrame m #[.ref x, .ref y] 3)) (T11.setTop (mkF m 37 #[.val (.ref x), .val (.ref y), .val (.ref y)] [.ref x])) := c12.trans (by
        refine XS.icmpNo X11.here hexec rfl (hb hbytes d33) rfl (ii_ne_f rfl) ?_
        refine XS.aloadN X11.here hexec rfl (hb hbytes d36) rfl rfl ?_
        exact Steps.refl _)
      obtain ⟨T14, X14, q14, st14⟩ := X11.hget hexec hown (wk W (.fieldLink "java/lang/String" 9 "java/lang/String" "value" "[B")) (hx.mv X11.warmed.alike hh11).2.1 (g := (mkF m 37 #[.val (.ref x), .val (.ref y), .val (.ref y)] [.ref x])) rfl (rest := []) rfl (hb hbytes d37)
      have hh14 := q14.trans hh11
      have c15 : Steps p.tables e below (s₁.setTop (entryFrame m #[.ref x, .ref y] 3)) (T14.setTop (mkF m 41 #[.val (.ref x), .val (.ref y), .val (.ref y)] [.ref y, .ref t])) := (c13.trans (st14 _ (Steps.refl _))).trans (by
        refine XS.aloadN X14.here hexec rfl (hb hbytes d40) rfl rfl ?_
        exact Steps.refl _)
      obtain ⟨T16, X16, q16, st16⟩ := X14.hget hexec hown (wk W (.fieldLink "java/lang/String" 9 "java/lang/String" "value" "[B")) (hy.mv X14.warmed.alike hh14).2.1 (g := (mkF m 41 #[.val (.ref x), .val (.ref y), .val (.ref y)] [.ref y, .ref t])) rfl (rest := [.ref t]) rfl (hb hbytes d41)
      have hh16 := q16.trans hh14
      have c17 : Steps p.tables e below (s₁.setTop (entryFrame m #[.ref x, .ref y] 3)) (T16.setTop (mkF m 44 #[.val (.ref x), .val (.ref y), .val (.ref y)] [.ref t', .ref t])) := c15.trans (st16 _ (Steps.refl _))
      obtain ⟨v18, T18, X18, E18, g18⟩ := X16.callS hexec (LEq.law l t V t' V') hown (wks W (staticW "java/lang/String" 541 LEq.yN)) (wk W LEq.tab) (W := 0) (Nat.le_of_ble_eq_true rfl) (Nat.le_of_ble_eq_true rfl) (Nat.le_refl _) (Nat.le_refl _) (g := (mkF m 44 #[.val (.ref x), .val (.ref y), .val (.ref y)] [.ref t', .ref t])) rfl (by rw [hml]; rfl) c17 (argsL := [.ref t, .ref t']) (rest := []) rfl rfl (by show 2 * 0 + 0 ≤ _; decide) (hb hbytes d44) (⟨rfl, hx.2.2.2.1.mv X16.warmed.alike hh16, hx.2.2.2.2.1.ty, hy.2.2.2.1.mv X16.warmed.alike hh16, hy.2.2.2.2.1.ty⟩)
      obtain ⟨v, rfl, q18, hv⟩ := E18
      have iff := Cod.eqv hx.2.2.2.2.1 hy.2.2.2.2.1 hx.2.2.2.2.2 hy.2.2.2.2.2
      rcases hv with ⟨rfl, he⟩ | ⟨rfl, he⟩
      · have c19 : Steps p.tables e below (s₁.setTop (entryFrame m #[.ref x, .ref y] 3)) (T18.setTop (mkF m 55 #[.val (.ref x), .val (.ref y), .val (.ref y)] [.int 1])) := Steps.trans g18 (by
          refine XS.ifNo X18.here hexec rfl (hb hbytes d47) rfl (i0_eq_f (by decide)) ?_
          refine iconstV X18.here hexec rfl 1 (hb hbytes d50) (by decide) ?_
          refine XS.goto X18.here hexec rfl (pc0 := 51) rfl (hb hbytes d51) (by decide) rfl ?_
          exact Steps.refl _)
        exact ⟨T18, some (.int 1), _, _, _, X18, rfl, rfl, rfl, (fun h => by cases h), ⟨1, rfl, q18.trans hh16, Or.inl ⟨rfl, iff.mp he⟩⟩, fun fs hl => c19.trans (X18.ireturnOut hexec hret rfl (Or.inr (Or.inl rfl)) (hb hbytes d55) hl)⟩
      · have c19 : Steps p.tables e below (s₁.setTop (entryFrame m #[.ref x, .ref y] 3)) (T18.setTop (mkF m 55 #[.val (.ref x), .val (.ref y), .val (.ref y)] [.int 0])) := Steps.trans g18 (by
          refine XS.ifYes X18.here hexec rfl (pc0 := 47) rfl (hb hbytes d47) rfl (i0_eq_t rfl) (by decide) rfl ?_
          refine iconstV X18.here hexec rfl 0 (hb hbytes d54) (by decide) ?_
          exact Steps.refl _)
        exact ⟨T18, some (.int 0), _, _, _, X18, rfl, rfl, rfl, (fun h => by cases h), ⟨0, rfl, q18.trans hh16, Or.inr ⟨rfl, fun q => he (iff.mpr q)⟩⟩, fun fs hl => c19.trans (X18.ireturnOut hexec hret rfl (Or.inr (Or.inl rfl)) (hb hbytes d55) hl)⟩
    · have c13 : Steps p.tables e below (s₁.setTop (entryFrame m #[.ref x, .ref y] 3)) (T11.setTop (mkF m 55 #[.val (.ref x), .val (.ref y), .val (.ref y)] [.int 0])) := c12.trans (by
        refine XS.icmpYes X11.here hexec rfl (pc0 := 33) rfl (hb hbytes d33) rfl (ii_ne_t hcd) (by decide) rfl ?_
        refine iconstV X11.here hexec rfl 0 (hb hbytes d54) (by decide) ?_
        exact Steps.refl _)
      exact ⟨T11, some (.int 0), _, _, _, X11, rfl, rfl, rfl, (fun h => by cases h), ⟨0, rfl, hh11, Or.inr ⟨rfl, Cod.dif hx.2.2.2.2.1 hy.2.2.2.2.1 hcd⟩⟩, fun fs hl => c13.trans (X11.ireturnOut hexec hret rfl (Or.inr (Or.inl rfl)) (hb hbytes d55) hl)⟩
theorem pays {l : Launch} {R : Room} {p : Program} {e : Env} {below : List Frame} {s : State} {sargs : Array Value} {len W : Nat} (x t : Addr) (V : Cell) (cd : Int32) (n : Nat) (f : Nat → Int32) (y t' : Addr) (V' : Cell) (cd' : Int32) (k : Nat) (g : Nat → Int32) (z : Int32) (htab : tab.before sargs s = true) (hfr : 2 ≤ R.frames) (hlo : W + 28 ≤ R.locals) :
    Back l R p e below s sargs yN len W (fun A₁ a₁ => A₁.cells + 0 ≤ R.cells ∧ A₁.slots + 0 ≤ R.slots ∧ P x t V cd n f y t' V' cd' k g z a₁ A₁.U) (fun A₁ _ v₁ B₁ => Says01 (SameT n f k g) v₁ A₁.U B₁.U ∧ B₁.locs = A₁.locs ++ [] ∧ B₁.cells = A₁.cells + 0 ∧ B₁.slots = A₁.slots + 0) :=
  (law l x t V cd n f y t' V' cd' k g z).pays htab hfr (by omega)
end SEq
end StrChars
namespace StrChars.Road
open Jvm Sem ClassFile Op Lib Jvm.Stand Jvm.Free Jvm.Free.XT
open Jvm.Lib.Cold (StaticIs)
/-- the words of String.equals(Object) -/
abbrev wordsEq : List Jvm.Cond := [.code SEq.yN SEq.yB 3 (some .boolean), .initialized ST, .classLink ST 10 ST, .fieldLink ST 38 ST "COMPACT_STRINGS" "Z", .fieldLink ST 15 ST "coder" "B", .fieldLink ST 9 ST "value" "[B", .methodLink ST 541 LEq.yN, .static LEq.yN, .code LEq.yN LEq.yB 3 (some .boolean), .initialized "java/lang/StringLatin1"]
theorem tabEq_of {a : Array Value} {s : State} (h : ∀ w ∈ wordsEq, w.before a s = true) : SEq.tab.before a s = true := by
  have hl : LEq.tab.before a s = true := unparts (wk h (.code LEq.yN LEq.yB 3 (some .boolean))) (wks h (.initialized LEq.yN.cls :: LEq.site))
  have q := consq hl h
  exact unparts (wk q (.code SEq.yN SEq.yB 3 (some .boolean))) (wks q (.initialized SEq.yN.cls :: SEq.site))
theorem movedEq {Z s : State} {a0 args : Array Value} (hZ : Z.Warmed39 s.vm) (hw : ∀ d ∈ wordsEq, d.before a0 Z = true) : ∀ d ∈ wordsEq, d.before args s = true := fun d hd => by
  have t : ∀ d ∈ wordsEq, (d.onTables && d.keepsFace) = true := by decide +kernel
  exact RoadKit.mv hZ (hw d hd) (t d hd)
/-- the road's facts of a String, as the laws ask it -/
theorem txt_of {Z U : State} {a0 : Array Value} {kI : Nat} (wi : (Jvm.Cond.instantiable ST kI).before a0 Z = true) (al : Z.vm.Alike U.vm) {x t : Addr} {kb : ClassId} {cs : List Int32} {cd N2 : Int32} {vs : List Value} (E : RoadKit.Exa Z U.heap x ST) (V : RoadKit.Fld Z U.heap x ST "value" "[B" (.ref t)) (C : RoadKit.Fld Z U.heap x ST "coder" "B" (.int cd)) (K : RoadKit.Arv Z U.heap t kb .byte N2 vs (.int 0)) (hc : CodA cs cd N2 vs) (hb : ∀ c ∈ cs, ¬ c < 0 ∧ ¬ (65535 : Int32) < c) (l2 : cs.length ≤ 4000) :
    ∃ A, Txt x t A cd cs.length (fun j => cs.getD j 0) U := by
  obtain ⟨A, K1, K2, K3, K4, K5, K6⟩ := K
  have hcod := hc.cod (by omega) K3 K5
  obtain ⟨D, fV, fC, hB, F1, F2, g1, g2, -, -⟩ := strObj wi al E V C
  exact ⟨A, ⟨_, hB.2.2.1, D, hB.1, rfl, by cases q : D.vm <;> first | rfl | exact absurd q (hB.2.1.2 _)⟩, Has.of hB F1 g1, Has.of hB F2 g2, ⟨K1.1, State.isArrayOf_alike al K1.2.1, K1.2.2, by rcases hcod with ⟨-, q, -⟩ | ⟨-, q, -⟩ <;> omega⟩, hcod, fun j hj => by
    have e : cs.getD j 0 = cs[j] := by simp [List.getD_eq_getElem?_getD, hj]
    show ¬ cs.getD j 0 < 0 ∧ ¬ 65535 < cs.getD j 0
    rw [e]; exact hb _ (List.getElem_mem _)⟩
theorem same_list (cs ds : List Int32) : SameT cs.length (fun j => cs.getD j 0) ds.length (fun j => ds.getD j 0) ↔ cs = ds := by
  constructor
  · rintro ⟨e, q⟩
    refine List.ext_getElem e fun j h1 h2 => ?_
    have := q j h1
    simpa [List.getD_eq_getElem?_getD, h1, h2] using this
  · rintro rfl
    exact ⟨rfl, fun _ _ => rfl⟩
/-- **equals(Object) OF TWO SUCH STRINGS**: 1 just where the chars are the same -/
theorem eqW {p : Program} {l : Launch} {e : Env} {R : Room} {s : State} {args : Array Value} {below : List Frame} {len W : Nat} {Z : State} {a0 : Array Value} {h : Heap} (hZ : Z.Warmed39 s.vm) (hw : ∀ d ∈ wordsEq, d.before a0 Z = true) {kI : Nat} (wi : (Jvm.Cond.instantiable ST kI).before a0 Z = true)
    {x t : Addr} {kb : ClassId} {cs : List Int32} {cd N2 : Int32} {vs : List Value} (E : RoadKit.Exa Z h x ST) (V : RoadKit.Fld Z h x ST "value" "[B" (.ref t)) (C : RoadKit.Fld Z h x ST "coder" "B" (.int cd)) (K : RoadKit.Arv Z h t kb .byte N2 vs (.int 0)) (hc : CodA cs cd N2 vs) (hb : ∀ c ∈ cs, ¬ c < 0 ∧ ¬ (65535 : Int32) < c) (l2 : cs.length ≤ 4000)
    {y t' : Addr} {kb' : ClassId} {ds : List Int32} {cd' N2' : Int32} {vs' : List Value} (E' : RoadKit.Exa Z h y ST) (V' : RoadKit.Fld Z h y ST "value" "[B" (.ref t')) (C' : RoadKit.Fld Z h y ST "coder" "B" (.int cd')) (K' : RoadKit.Arv Z h t' kb' .byte N2' vs' (.int 0)) (hc' : CodA ds cd' N2' vs') (hb' : ∀ c ∈ ds, ¬ c < 0 ∧ ¬ (65535 : Int32) < c) (l2' : ds.length ≤ 4000)
    {z : Int32} (S : RoadKit.Sta Z h ST "COMPACT_STRINGS" "Z" (.int z)) (hz : ¬ z = 0) (hfr : 2 ≤ R.frames) (hlo : W + 28 ≤ R.locals) :
    Back l R p e below s args (⟨"java/lang/String", "equals", "(Ljava/lang/Object;)Z"⟩ : MethodName) len W (fun P a => a = #[.ref x, .ref y] ∧ P.U.heap = h ∧ P.cells + 0 ≤ R.cells ∧ P.slots + 0 ≤ R.slots)
      (fun P _ v B => ∃ L, (((v = some (.int 1) ∧ cs = ds) ∨ (v = some (.int 0) ∧ ¬ cs = ds)) ∧ L = [] ∧ B.U.heap = h) ∧ B.locs = P.locs ++ L ∧ B.cells = P.cells + 0 ∧ B.slots = P.slots + 0) := by
  intro m meth c P g ig mk a X hg hsize hdg hW hn hp'
  obtain ⟨rfl, rfl, r1, r2⟩ := hp'
  have al : Z.vm.Alike P.U.vm := hZ.alike.trans X.warmed.alike
  obtain ⟨A, hx⟩ := txt_of wi al E V C K hc hb l2
  obtain ⟨A', hy⟩ := txt_of wi al E' V' C' K' hc' hb' l2'
  obtain ⟨v, B, X', ⟨⟨w, hv, hh, hq⟩, hl, hk, hs⟩, st⟩ := SEq.pays x t A cd cs.length (fun j => cs.getD j 0) y t' A' cd' ds.length (fun j => ds.getD j 0) z (tabEq_of (movedEq hZ hw)) hfr hlo m meth c P g ig mk _ X hg hsize hdg hW hn ⟨r1, r2, rfl, hx, hy, sta_is al S, hz⟩
  refine ⟨v, B, X', ⟨[], ⟨?_, rfl, hh⟩, hl, hk, hs⟩, st⟩
  rcases hq with ⟨rfl, q⟩ | ⟨rfl, q⟩
  · exact Or.inl ⟨hv, (same_list cs ds).mp q⟩
  · exact Or.inr ⟨hv, fun e => q ((same_list cs ds).mpr e)⟩
end StrChars.Road
end Jvm.Pilot.@@N@@
namespace Jvm.Pilot.@@N@@
open Jvm Jvm.ClassFile Sem Op Lib Jvm.Free Jvm.Stand Jvm.LawKit Jvm.RoadKit Bundle Jvm.Pilot.@@N@@.Jvm.D
abbrev si (x : Int32) : Slot := .val (.int x)
abbrev sr (x : Addr) : Slot := .val (.ref x)
theorem ww {a0 : Array Value} {Z : State} {d : Jvm.Cond} (hw : ∀ d ∈ tables_1, d.before a0 Z = true) (i : Nat) (h : tables_1[i]? = some d) : d.before a0 Z = true := hw _ (List.mem_of_getElem? h)
theorem mr0 {a b : Nat} (h : a = b) : a ≤ b := Nat.le_of_eq h
section Own
variable {p : Program} {l : Launch} {e : Env} {R : Room} {s : State} {m : MethodId} {args : Array Value} {below : List Frame} {meth : Method} {c : Code} {T : State} {locs : List Loc} {cells slots : Nat} {Z : State} {a0 : Array Value} {h : Heap}
/-- from S the run comes to an end that P speaks of -/
def Goes (tb : Tables) (e : Env) (below : List Frame) (P : State → Outcome → Prop) (S : State) : Prop := ∃ s₂ o, Steps tb e below S s₂ ∧ P s₂ o
theorem go {tb : Tables} {P : State → Outcome → Prop} {S S' : State} (st : ∀ t, Steps tb e below S' t → Steps tb e below S t) (h : Goes tb e below P S') : Goes tb e below P S := by
  obtain ⟨s₂, o, h1, h2⟩ := h
  exact ⟨s₂, o, st _ h1, h2⟩
/-- from S the run comes to the frame F, in a state that P speaks of -/
def Reach (tb : Tables) (e : Env) (below : List Frame) (F : JFrame) (P : State → Prop) (S : State) : Prop := ∃ T', P T' ∧ ∀ t, Steps tb e below (T'.setTop F) t → Steps tb e below S t
theorem goR {tb : Tables} {F : JFrame} {P : State → Prop} {S S' : State} (st : ∀ t, Steps tb e below S' t → Steps tb e below S t) (h : Reach tb e below F P S') : Reach tb e below F P S := by
  obtain ⟨T', h1, h2⟩ := h
  exact ⟨T', h1, fun t k => st t (h2 t k)⟩
def Same (X : Stand p l e R s m args below meth c T locs cells slots) (n0 : Nat) (h : Heap) : State → Prop := fun T' => ∃ locs', Stand p l e R s m args below meth c T' locs' cells slots ∧ Fr n0 locs' ∧ T'.heap = h
/-- the end of a body: it returned, and Q holds of the value, the heap, the written places -/
def EndP (s : State) (below : List Frame) (Q : Option Value → Heap → List Loc → Prop) (kc ks : Nat) (s₂ : State) (o : Outcome) : Prop :=
  s₂.status = .running ∧ Ended s₂ below o ∧ ∃ v L, o = .returned v ∧ Q v s₂.heap L ∧ FrameEnd s o s₂ L kc ks
variable {Q : Option Value → Heap → List Loc → Prop} {kc ks : Nat}
theorem finG {g : JFrame} (X : Stand p l e R s m args below meth c T locs cells slots) (hk : meth.locks = false) (v : Option Value) (hv : meth.sig.returnType = none → v = none)
    (st : ∀ fs, (∀ (f : JFrame) (acts : List Action), f.method = m → f.locked = none → f.entered = [] → (doReturn e (T.setTop f) acts v).1 = T.setFrames fs) → Steps p.tables e below (T.setTop g) (T.setFrames fs))
    (hc : cells ≤ kc) (hs : slots ≤ ks) (hQ : Q v T.heap locs) : Goes p.tables e below (EndP s below Q kc ks) (T.setTop g) := by
  obtain ⟨fs, hr, hrun, hended, hW, hsame⟩ := X.leave (v := v) hv hk
  exact ⟨_, _, st fs hr, hrun, hended, v, locs, rfl, hQ, ⟨_, rfl⟩, hW, hsame.mono hc hs⟩
theorem finV (X : Stand p l e R s m args below meth c T locs cells slots) (hx : p.tables.exec = Jvm.exec) (hk : meth.locks = false) (hret : meth.sig.returnType = none) {pc : Nat} {Ls : Array Slot} (hd : decode c.code pc = .ok (.return_, 1)) (hc : cells ≤ kc) (hs : slots ≤ ks) (hQ : Q none T.heap locs) :
    Goes p.tables e below (EndP s below Q kc ks) (T.setTop (mkF m pc Ls [])) := finG X hk none (fun _ => rfl) (fun _ hr => X.returnOut hx hret hd hr) hc hs hQ
theorem finI (X : Stand p l e R s m args below meth c T locs cells slots) (hx : p.tables.exec = Jvm.exec) (hk : meth.locks = false) (hret : meth.sig.returnType = some .int) {pc : Nat} {Ls : Array Slot} {z : Int32} {rest : List Value} (hd : decode c.code pc = .ok (.ireturn, 1)) (hc : cells ≤ kc) (hs : slots ≤ ks) (hQ : Q (some (.int z)) T.heap locs) :
    Goes p.tables e below (EndP s below Q kc ks) (T.setTop (mkF m pc Ls (.int z :: rest))) := finG X hk _ (fun q => by rw [hret] at q; cases q) (fun _ hr => retI X hx hret hd hr) hc hs hQ
theorem finN (X : Stand p l e R s m args below meth c T locs cells slots) (hx : p.tables.exec = Jvm.exec) (hk : meth.locks = false) {t : FieldType} (hret : meth.sig.returnType = some t) (ht : t = .boolean ∨ t = .byte ∨ t = .char ∨ t = .short) {pc : Nat} {Ls : Array Slot} {z : Int32} {rest : List Value} (hd : decode c.code pc = .ok (.ireturn, 1)) (hc : cells ≤ kc) (hs : slots ≤ ks) (hQ : Q (some (.int (nar t z))) T.heap locs) :
    Goes p.tables e below (EndP s below Q kc ks) (T.setTop (mkF m pc Ls (.int z :: rest))) := finG X hk _ (fun q => by rw [hret] at q; cases q) (fun _ hr => retN X hx hret ht hd hr) hc hs hQ
theorem finR (X : Stand p l e R s m args below meth c T locs cells slots) (hx : p.tables.exec = Jvm.exec) (hk : meth.locks = false) {t : FieldType} (hret : meth.sig.returnType = some t) (ht : t.isReference = true) {w : Value} (hw : w.isRef = true) {pc : Nat} {Ls : Array Slot} (hd : decode c.code pc = .ok (.areturn, 1)) (hc : cells ≤ kc) (hs : slots ≤ ks) (hQ : Q (some w) T.heap locs) :
    Goes p.tables e below (EndP s below Q kc ks) (T.setTop (mkF m pc Ls [w])) := finG X hk _ (fun q => by rw [hret] at q; cases q) (fun _ hr => X.areturnOut hx hw hret ht hd hr) hc hs hQ
theorem finJ (X : Stand p l e R s m args below meth c T locs cells slots) (hx : p.tables.exec = Jvm.exec) (hk : meth.locks = false) (hret : meth.sig.returnType = some .long) {pc : Nat} {Ls : Array Slot} {z : Int64} (hd : decode c.code pc = .ok (.lreturn, 1)) (hc : cells ≤ kc) (hs : slots ≤ ks) (hQ : Q (some (.long z)) T.heap locs) :
    Goes p.tables e below (EndP s below Q kc ks) (T.setTop (mkF m pc Ls [.long z])) := finG X hk _ (fun q => by rw [hret] at q; cases q) (fun _ hr => X.lreturnOut hx hret hd hr) hc hs hQ
theorem bodyOf {y : MethodName} {bytes : ByteArray} {maxL : Nat} {ret : Option FieldType} {ws : List Jvm.Cond} {rm : Room} {as' : Array Value} {Ls : Array Slot} {h0 : Heap}
    (pn : plainFor y = true) (ef : ∀ m, entryFrame m as' maxL = mkF m 0 Ls [])
    (body : ∀ (p : Program) (e : Env) (s : State) (m : MethodId) (below : List Frame) (meth : Method) (c : Code) (T : State), Stand p l e rm s m as' below meth c T [] 0 0 → p.tables.exec = Jvm.exec → c.code = bytes → c.maxLocals = maxL →
      s.vm.findClass y.cls = some m.cls → meth.name = y.name → meth.sig.returnType = ret → meth.locks = false → Z.Warmed39 s.vm → T.heap = h0 → Goes p.tables e below (EndP s below Q rm.cells rm.slots) (T.setTop (mkF m 0 Ls []))) :
    MetFree l y (head1 (Jvm.Cond.code y bytes maxL ret :: ws) rm) (fun a U => a = as' ∧ Z.Warmed39 U.vm ∧ U.heap = h0) (fun _ _ _ _ _ => True) (fun _ U o U' => ∃ v L, o = .returned v ∧ Q v U'.heap L ∧ FrameEnd U o U' L rm.cells rm.slots) := by
  refine MetFree.of_bodySF pn hisR ?_
  intro p e s m args below meth c s₁ Bd hml0 hP hK
  obtain ⟨rfl, hZ, hh⟩ := hP
  have e0 : s₁.heap = h0 := by rw [← hh, Bd.state]; rfl
  obtain ⟨s₂, o, st, hrun, hend, hq⟩ := body p e s m below meth c s₁ (Stand.of_body Bd) Bd.exec Bd.bytes hml0 (findClass_of_methodNamed Bd.named) (name_of_methodNamed Bd.named Bd.method).1 Bd.returns Bd.notSynchronized hZ e0
  exact ⟨s₂, o, castTop (ef m) st, hrun, hend, hq⟩
variable {y z : MethodName} {own C : String} {index W len : Nat} {bytes : ByteArray} {maxL : Nat} {ret : Option FieldType} {as' : Array Value} {argsL rest : List Value} {g : JFrame}
theorem callSt (X : Stand p l e R s m args below meth c T locs cells slots) (hx : p.tables.exec = Jvm.exec) (hZ : Z.Warmed39 s.vm) (hown : s.vm.findClass own = some m.cls)
    (w1 : (Jvm.Cond.methodLink own index y).before a0 Z = true) (w2 : (Jvm.Cond.static y).before a0 Z = true) (w3 : (Jvm.Cond.initialized y.cls).before a0 Z = true) (w4 : (Jvm.Cond.code y bytes maxL ret).before a0 Z = true)
    (hy : y.cls ≠ "java/lang/invoke/MethodHandle" ∧ y.cls ≠ "java/lang/invoke/VarHandle")
    (hB : Back l R p e below s args y 3 W (fun A a => a = argsL.toArray ∧ A.U.heap = h ∧ A.cells + kc ≤ R.cells ∧ A.slots + ks ≤ R.slots) (fun A _ v B => ∃ L, Q v B.U.heap L ∧ B.locs = A.locs ++ L ∧ B.cells = A.cells + kc ∧ B.slots = A.slots + ks))
    (hg : g.method = m) (hsize : g.locals.size = c.maxLocals) (hlen : ∀ sig, parseMethodDescriptor y.desc = some sig → argsL.length = sig.parameters.length) (hstack : g.stack = argsL.reverse ++ rest) (hW : 2 * g.monitorRoom + (rest.map fun v => v.category).sum ≤ W)
    (hd : decode c.code g.pc = .ok (.invokestatic index, 3)) (eT : T.heap = h) (hc : cells + kc ≤ R.cells) (hs : slots + ks ≤ R.slots) :
    ∃ v T' L, Stand p l e R s m args below meth c T' (locs ++ L) (cells + kc) (slots + ks) ∧ Q v T'.heap L ∧ ∀ t, Steps p.tables e below (T'.setTop { g with pc := g.pc + 3, stack := v.toList ++ rest }) t → Steps p.tables e below (T.setTop g) t := by
  obtain ⟨v, _, ⟨T1, L1, k1, n1⟩, -, X1, ⟨L, hQ, hl, hk, hn⟩, st⟩ := Jvm.LawKit.callS X hx hown (mvT hZ w1) (mvT hZ w2) (mvT hZ w3) (mvT hZ w4) hy hB hg hsize hlen hstack hW hd (fun _ _ => ⟨rfl, eT, hc, hs⟩)
  dsimp only [Pt.U, Pt.locs, Pt.cells, Pt.slots] at X1 hl hk hn st hQ
  subst hl hk hn
  exact ⟨v, T1, L, X1, hQ, st⟩
theorem callSp {a : Addr} (X : Stand p l e R s m args below meth c T locs cells slots) (hx : p.tables.exec = Jvm.exec) (hZ : Z.Warmed39 s.vm) (hy1 : y.name = "<init>") (hown : s.vm.findClass own = some m.cls)
    (w1 : (Jvm.Cond.methodLink own index y).before a0 Z = true) (w2 : (Jvm.Cond.instanceMethod y).before a0 Z = true) (w4 : (Jvm.Cond.code y bytes maxL none).before a0 Z = true)
    (hy : y.cls ≠ "java/lang/invoke/MethodHandle" ∧ y.cls ≠ "java/lang/invoke/VarHandle")
    (hB : Back l R p e below s args y 3 W (fun A b => b = (Value.ref a :: argsL).toArray ∧ A.U.heap = h ∧ A.cells + kc ≤ R.cells ∧ A.slots + ks ≤ R.slots) (fun A _ v B => ∃ L, Q v B.U.heap L ∧ B.locs = A.locs ++ L ∧ B.cells = A.cells + kc ∧ B.slots = A.slots + ks))
    (hg : g.method = m) (hsize : g.locals.size = c.maxLocals) (hlen : ∀ sig, parseMethodDescriptor y.desc = some sig → argsL.length = sig.parameters.length) (hstack : g.stack = argsL.reverse ++ .ref a :: rest) (hW : 2 * g.monitorRoom + (rest.map fun v => v.category).sum ≤ W)
    (hd : decode c.code g.pc = .ok (.invokespecial index, 3)) (eT : T.heap = h) (hc : cells + kc ≤ R.cells) (hs : slots + ks ≤ R.slots) :
    ∃ v T' L, Stand p l e R s m args below meth c T' (locs ++ L) (cells + kc) (slots + ks) ∧ Q v T'.heap L ∧ ∀ t, Steps p.tables e below (T'.setTop { g with pc := g.pc + 3, stack := v.toList ++ rest }) t → Steps p.tables e below (T.setTop g) t := by
  obtain ⟨v, _, ⟨T1, L1, k1, n1⟩, -, X1, ⟨L, hQ, hl, hk, hn⟩, st⟩ := X.specialBack hx hy1 hown (mvT hZ w1) (mvT hZ w2) (mvT hZ w4) hy hB hg hsize (Steps.refl _) hlen hstack hW hd (fun _ _ => ⟨rfl, eT, hc, hs⟩)
  dsimp only [Pt.U, Pt.locs, Pt.cells, Pt.slots] at X1 hl hk hn st hQ
  subst hl hk hn
  exact ⟨v, T1, L, X1, hQ, fun t k => st.trans k⟩
theorem callV {a : Addr} (X : Stand p l e R s m args below meth c T locs cells slots) (hx : p.tables.exec = Jvm.exec) (hZ : Z.Warmed39 s.vm) (hown : s.vm.findClass own = some m.cls)
    (w1 : (Jvm.Cond.methodLink own index y).before a0 Z = true) (w2 : (Jvm.Cond.declares y).before a0 Z = true) (nf : NotFace s y) (w3 : (Jvm.Cond.selects C y z).before a0 Z = true) (w4 : (Jvm.Cond.instanceMethod z).before a0 Z = true)
    (hy : y.cls ≠ "java/lang/invoke/MethodHandle" ∧ y.cls ≠ "java/lang/invoke/VarHandle")
    (hB : Back l R p e below s args z 3 W (fun A b => b = (Value.ref a :: argsL).toArray ∧ A.U.heap = h ∧ A.cells + kc ≤ R.cells ∧ A.slots + ks ≤ R.slots) (fun A _ v B => ∃ L, Q v B.U.heap L ∧ B.locs = A.locs ++ L ∧ B.cells = A.cells + kc ∧ B.slots = A.slots + ks))
    (E : Exa Z h a C) (hg : g.method = m) (hsize : g.locals.size = c.maxLocals) (hlen : ∀ sig, parseMethodDescriptor y.desc = some sig → argsL.length = sig.parameters.length) (hstack : g.stack = argsL.reverse ++ .ref a :: rest) (hW : 2 * g.monitorRoom + (rest.map fun v => v.category).sum ≤ W)
    (hd : decode c.code g.pc = .ok (.invokevirtual index, 3)) (eT : T.heap = h) (hc : cells + kc ≤ R.cells) (hs : slots + ks ≤ R.slots) :
    ∃ v T' L, Stand p l e R s m args below meth c T' (locs ++ L) (cells + kc) (slots + ks) ∧ Q v T'.heap L ∧ ∀ t, Steps p.tables e below (T'.setTop { g with pc := g.pc + 3, stack := v.toList ++ rest }) t → Steps p.tables e below (T.setTop g) t := by
  obtain ⟨cq, kq, qa, qb, qc⟩ := isOf hZ eT E
  obtain ⟨v, _, ⟨T1, L1, k1, n1⟩, -, X1, ⟨L, hQ, hl, hk, hn⟩, st⟩ := X.virtualBack hx hown (mvT hZ w1) (mvT hZ w2) nf (mvT hZ w3) (mvT hZ w4) hy hB qa qc hg hsize (Steps.refl _) hlen hstack hW hd (fun _ _ => ⟨rfl, eT, hc, hs⟩)
  dsimp only [Pt.U, Pt.locs, Pt.cells, Pt.slots] at X1 hl hk hn st hQ
  subst hl hk hn
  exact ⟨v, T1, L, X1, hQ, fun t k => st.trans k⟩
theorem nsRoot {O K : String} {n : Nat} (w : (Jvm.Cond.noSuperclass O).before a0 Z = true) (wk : (Jvm.Cond.instantiable K n).before a0 Z = true) (hn : O ≠ K) : NS Z O K := by
  obtain ⟨c, k, h1, h2, h3, -, -⟩ := Cond.noSuperclass_spec w
  obtain ⟨t, kt, g1, -⟩ := Cond.instantiable_spec wk
  have ne := ids_ne h1 g1 hn
  refine ⟨c, t, h1, g1, fun fuel => ?_⟩
  cases fuel with
  | zero => rfl
  | succ f => simp [Vm.isSubclassAux, ne, h2, h3]
theorem nsNo {C S K : String} {n : Nat} (w : (Jvm.Cond.superclass C S).before a0 Z = true) (wk : (Jvm.Cond.instantiable K n).before a0 Z = true) (n : NS Z C K) (hn : C ≠ K) : ∃ c t, Z.vm.findClass C = some c ∧ Z.vm.findClass K = some t ∧ Z.vm.assignable c t = false := by
  obtain ⟨c, t, h0, g0, n3⟩ := n
  obtain ⟨p, k, kp, h1, h2, h3, h4, h5, -, h7⟩ := Cond.superclass_spec h0 w
  obtain ⟨t', kt, g1, g2, g3, g4, -⟩ := Cond.instantiable_spec wk
  cases g0.symm.trans g1
  have g7 : kt.isInterface = false := (Bool.or_eq_false_iff.mp g4).1
  have ne := ids_ne h0 g0 hn
  refine ⟨c, t, h0, g0, ?_⟩
  show Z.vm.assignableAux (255 + 1) c t = false
  simp [Vm.assignableAux, ne, h2, g2, h5, g3, g7, Vm.isSubclass, n3]
theorem lsw {tb : Tables} [Ours tb] {target : State} {g : JFrame} (h : At T m c below) (hx : tb.exec = Jvm.exec) (hg : g.method = m) {dflt : Int} {pairs : Array (Int × Int)} {len : Nat} {pc0 pc' : Nat} (hpc : g.pc = pc0) (hd : decode c.code g.pc = .ok (.lookupswitch dflt pairs, len)) {i : Int32} {rest : List Value} (hs : g.stack = .int i :: rest)
    (hsrt : (pairs.toList.zip pairs.toList.tail).all (fun z => decide (z.1.1 < z.2.1)) = true) (ho : 0 ≤ (pc0 : Int) + lookupswitch.offset pairs.toList dflt i.toInt) (hp : ((pc0 : Int) + lookupswitch.offset pairs.toList dflt i.toInt).toNat = pc') (hr : Steps tb e below (T.setTop { g with pc := pc', stack := rest }) target) : Steps tb e below (T.setTop g) target := by
  subst hg hpc hp
  jvm_step h [h.top, hx, hd, hs, ho, lookupswitch.wp_chain]
  exact ⟨fun a b a1 b1 q => of_decide_eq_true (List.all_eq_true.mp hsrt _ q), hr⟩
theorem eqInt_v {t : Term} {n : Int32} (h : (Jvm.Cond.eq t (.int n)).value args s none s [] = some true) : t.eval args s none [] s = some (.int n) := by
  obtain ⟨x, y, hx, hy, k1, -⟩ := cmp_v (Or.inl h)
  have hy' : (Term.int n).eval args s none [] s = some (.int n) := Term.int_eval n
  have e : y = .int n := Option.some.inj (hy.symm.trans hy')
  subst e
  cases x <;> simp [Kin, Value.isRef] at k1
  rw [gotT (Cond.eq_ints hx hy') h] at hx
  exact hx
theorem putC (X : Stand p l e R s m args below meth c T locs cells slots) (hx : p.tables.exec = Jvm.exec) (hZ : Z.Warmed39 s.vm) (eT : T.heap = h) {b : Addr} {kB : ClassId} {nB : Int32} {vB : List Value} {dB : Value} (B : Arv Z h b kB .char nB vB dB) {j x : Int32} {i : Nat} (hn : nar .char x = x) (hj : ¬ j < 0 ∧ j < nB) (hi : j.toNatClampNeg = i) (hl : i < vB.length) (hg : g.method = m) (hs : g.stack = .int x :: .int j :: .ref b :: rest) (hd : decode c.code g.pc = .ok (.castore, 1)) :
    ∃ T' h', Stand p l e R s m args below meth c T' (locs ++ [⟨b, j.toNatClampNeg⟩]) cells slots ∧ T'.heap = h' ∧ Wr h h' b j.toNatClampNeg (.int x) ∧ Arv Z h' b kB .char nB (vB.set i (.int x)) dB ∧ ∀ t, Steps p.tables e below (T'.setTop { g with pc := g.pc + 1, stack := rest }) t → Steps p.tables e below (T.setTop g) t := by
  obtain ⟨cl, A, q1, S1, M1, H1, G1⟩ := B
  obtain ⟨T', h', X', e', W, st⟩ := stC X hx hZ eT A (inb_of S1 hj) hg hs hd
  rw [hn] at W
  exact ⟨T', h', X', e', W, Arv.set A q1 S1 M1 H1 G1 (by rw [← hn]; exact fits_nar_char _) W i hi hl, st⟩
theorem getC (X : Stand p l e R s m args below meth c T locs cells slots) (hx : p.tables.exec = Jvm.exec) (hZ : Z.Warmed39 s.vm) (eT : T.heap = h) {b : Addr} {kB : ClassId} {nB : Int32} {vB : List Value} {dB v : Value} (B : Arv Z h b kB .char nB vB dB) {j : Int32} (hj : ¬ j < 0 ∧ j < nB) (hv : vB.getD j.toNatClampNeg dB = v) (hg : g.method = m) (hs : g.stack = .int j :: .ref b :: rest) (hd : decode c.code g.pc = .ok (.caload, 1)) {t : State} (hr : Steps p.tables e below (T.setTop { g with pc := g.pc + 1, stack := v :: rest }) t) : Steps p.tables e below (T.setTop g) t := by
  obtain ⟨cl, A, q1, S1, M1, H1, G1⟩ := B
  have hin := inb_of S1 hj
  exact X.caload hx (j := j) (v := v) (by rw [eT]; exact A.1) (State.isArrayOf_alike hZ.alike A.2.1) A.2.2 hin (Has.at H1 hin hv) hg hs hd _ hr
theorem narc (x : Int32) : nar .char x.toUInt32.toUInt16.toUInt32.toInt32 = x.toUInt32.toUInt16.toUInt32.toInt32 := by
  have h1 := c_i2c x
  have h2 := c_i2c x.toUInt32.toUInt16.toUInt32.toInt32
  apply Int32.toInt_inj.mp
  show (x.toUInt32.toUInt16.toUInt32.toInt32).toUInt32.toUInt16.toUInt32.toInt32.toInt = _
  omega
end Own
end Jvm.Pilot.@@N@@
namespace Jvm.Pilot.@@N@@
open Jvm Jvm.ClassFile Sem Op Lib Jvm.Free Jvm.Stand Jvm.LawKit Jvm.RoadKit Bundle Jvm.Pilot.@@N@@.Jvm.D
theorem allI {P : Int32 → Prop} {y : Int32} {L : List Int32} (q : P y) (r : ∀ x ∈ L, P x) : ∀ x ∈ y :: L, P x := fun x z => (List.mem_cons.mp z).elim (fun u => u ▸ q) (r x)
theorem own_sub {L : List Jvm.Cond} {a0 : Array Value} {Z : State} (hs : ∀ d ∈ L, d ∈ tables_1) (hw : ∀ d ∈ tables_1, d.before a0 Z = true) : ∀ d ∈ L, d.before a0 Z = true := fun d hd => hw d (hs d hd)
set_option maxRecDepth 65536 in
theorem StrChars_words : ∀ d ∈ StrChars.Road.words, d ∈ tables_1 := by decide +kernel
set_option maxRecDepth 65536 in
theorem StrChars_wordsEq : ∀ d ∈ StrChars.Road.wordsEq, d ∈ tables_1 := by decide +kernel
end Jvm.Pilot.@@N@@
namespace Jvm.Pilot.@@N@@
open Jvm Jvm.ClassFile Sem Op Lib Jvm.Free Jvm.Stand Jvm.LawKit Jvm.RoadKit Bundle Jvm.Pilot.@@N@@.Jvm.D
section OwnW
variable {p : Program} {l : Launch} {e : Env} {R : Room} {s : State} {vm0 : Vm} {k0 : Nat} {m : MethodId} {args : Array Value} {below : List Frame} {meth : Method} {c : Code} {T : State} {locs : List Loc} {cells slots : Nat} {Z : State} {a0 : Array Value} {h : Heap} {EL : List (String × Nat)}
/-- the end of a body that may intern -/
def EndW (Z : State) (EL : List (String × Nat)) (s : State) (below : List Frame) (Q : Option Value → Heap → List Loc → Prop) (kc ks : Nat) (s₂ : State) (o : Outcome) : Prop :=
  s₂.status = .running ∧ Ended s₂ below o ∧ ∃ v L, o = .returned v ∧ Q v s₂.heap L ∧ CHr Z EL s.vm s.heap s₂.vm s₂.heap ∧ ReturnedEndW s o s₂ L kc ks
variable {Q : Option Value → Heap → List Loc → Prop} {kc ks : Nat}
theorem finGW {g : JFrame} (X : Stand p l e R (s.setVm vm0) m args below meth c T locs cells slots) (hk : meth.locks = false) (hS : s.Since vm0 k0) (hkS : k0 ≤ h.size) (hZ : Z.Warmed39 vm0) (hEL : EW Z a0 EL) (hC : CHr Z EL s.vm s.heap vm0 h) (eT : T.heap = h) (v : Option Value) (hv : meth.sig.returnType = none → v = none)
    (st : ∀ fs, (∀ (f : JFrame) (acts : List Action), f.method = m → f.locked = none → f.entered = [] → (doReturn e (T.setTop f) acts v).1 = T.setFrames fs) → Steps p.tables e below (T.setTop g) (T.setFrames fs))
    (hc : cells ≤ kc) (hs : slots ≤ ks) (hQ : Q v h locs) : Goes p.tables e below (EndW Z EL s below Q kc ks) (T.setTop g) := by
  subst eT
  obtain ⟨fs, hr, hrun, hended, hW⟩ := X.leaveW hS hkS (v := v) hv hk
  have q : CHr Z EL s.vm s.heap T.vm T.heap := hC.trans (CHv.at X hZ hEL hC.1)
  exact ⟨_, _, st fs hr, hrun, hended, v, locs, rfl, hQ, q, hW.1, hW.2.1, hW.2.2.1, hW.2.2.2.mono hc hs⟩
theorem finVW (X : Stand p l e R (s.setVm vm0) m args below meth c T locs cells slots) (hx : p.tables.exec = Jvm.exec) (hk : meth.locks = false) (hret : meth.sig.returnType = none) (hS : s.Since vm0 k0) (hkS : k0 ≤ h.size) (hZ : Z.Warmed39 vm0) (hEL : EW Z a0 EL) (hC : CHr Z EL s.vm s.heap vm0 h) (eT : T.heap = h) {pc : Nat} {Ls : Array Slot} (hd : decode c.code pc = .ok (.return_, 1)) (hc : cells ≤ kc) (hs : slots ≤ ks) (hQ : Q none h locs) :
    Goes p.tables e below (EndW Z EL s below Q kc ks) (T.setTop (mkF m pc Ls [])) := finGW X hk hS hkS hZ hEL hC eT none (fun _ => rfl) (fun _ hr => X.returnOut hx hret hd hr) hc hs hQ
theorem finIW (X : Stand p l e R (s.setVm vm0) m args below meth c T locs cells slots) (hx : p.tables.exec = Jvm.exec) (hk : meth.locks = false) (hret : meth.sig.returnType = some .int) (hS : s.Since vm0 k0) (hkS : k0 ≤ h.size) (hZ : Z.Warmed39 vm0) (hEL : EW Z a0 EL) (hC : CHr Z EL s.vm s.heap vm0 h) (eT : T.heap = h) {pc : Nat} {Ls : Array Slot} {z : Int32} {rest : List Value} (hd : decode c.code pc = .ok (.ireturn, 1)) (hc : cells ≤ kc) (hs : slots ≤ ks) (hQ : Q (some (.int z)) h locs) :
    Goes p.tables e below (EndW Z EL s below Q kc ks) (T.setTop (mkF m pc Ls (.int z :: rest))) := finGW X hk hS hkS hZ hEL hC eT _ (fun q => by rw [hret] at q; cases q) (fun _ hr => retI X hx hret hd hr) hc hs hQ
theorem finNW (X : Stand p l e R (s.setVm vm0) m args below meth c T locs cells slots) (hx : p.tables.exec = Jvm.exec) (hk : meth.locks = false) {t : FieldType} (hret : meth.sig.returnType = some t) (ht : t = .boolean ∨ t = .byte ∨ t = .char ∨ t = .short) (hS : s.Since vm0 k0) (hkS : k0 ≤ h.size) (hZ : Z.Warmed39 vm0) (hEL : EW Z a0 EL) (hC : CHr Z EL s.vm s.heap vm0 h) (eT : T.heap = h) {pc : Nat} {Ls : Array Slot} {z : Int32} {rest : List Value} (hd : decode c.code pc = .ok (.ireturn, 1)) (hc : cells ≤ kc) (hs : slots ≤ ks) (hQ : Q (some (.int (nar t z))) h locs) :
    Goes p.tables e below (EndW Z EL s below Q kc ks) (T.setTop (mkF m pc Ls (.int z :: rest))) := finGW X hk hS hkS hZ hEL hC eT _ (fun q => by rw [hret] at q; cases q) (fun _ hr => retN X hx hret ht hd hr) hc hs hQ
theorem finRW (X : Stand p l e R (s.setVm vm0) m args below meth c T locs cells slots) (hx : p.tables.exec = Jvm.exec) (hk : meth.locks = false) {t : FieldType} (hret : meth.sig.returnType = some t) (ht : t.isReference = true) {w : Value} (hw : w.isRef = true) (hS : s.Since vm0 k0) (hkS : k0 ≤ h.size) (hZ : Z.Warmed39 vm0) (hEL : EW Z a0 EL) (hC : CHr Z EL s.vm s.heap vm0 h) (eT : T.heap = h) {pc : Nat} {Ls : Array Slot} (hd : decode c.code pc = .ok (.areturn, 1)) (hc : cells ≤ kc) (hs : slots ≤ ks) (hQ : Q (some w) h locs) :
    Goes p.tables e below (EndW Z EL s below Q kc ks) (T.setTop (mkF m pc Ls [w])) := finGW X hk hS hkS hZ hEL hC eT _ (fun q => by rw [hret] at q; cases q) (fun _ hr => X.areturnOut hx hw hret ht hd hr) hc hs hQ
theorem bodyOfW {xs : List Addr} {y : MethodName} {bytes : ByteArray} {maxL : Nat} {ret : Option FieldType} {ws : List Jvm.Cond} {rm : Room} {as' : Array Value} {Ls : Array Slot} {h0 : Heap}
    (pn : plainFor y = true) (ef : ∀ m, entryFrame m as' maxL = mkF m 0 Ls [])
    (body : ∀ (p : Program) (e : Env) (s : State) (m : MethodId) (below : List Frame) (meth : Method) (c : Code) (T : State), Stand p l e rm (s.setVm s.vm) m as' below meth c T [] 0 0 → p.tables.exec = Jvm.exec → c.code = bytes → c.maxLocals = maxL →
      s.vm.findClass y.cls = some m.cls → meth.name = y.name → meth.sig.returnType = ret → meth.locks = false → Z.Warmed39 s.vm → T.heap = h0 → s.Since s.vm h0.size → CHr Z EL s.vm s.heap s.vm h0 → (∀ x ∈ xs, Safe Z EL s.vm h0 x) → Goes p.tables e below (EndW Z EL s below Q rm.cells rm.slots) (T.setTop (mkF m 0 Ls []))) :
    MetFree l y (head1 (Jvm.Cond.code y bytes maxL ret :: ws) rm) (fun a U => a = as' ∧ Z.Warmed39 U.vm ∧ U.heap = h0 ∧ CHv Z EL U.vm h0 ∧ ∀ x ∈ xs, Safe Z EL U.vm h0 x) (fun _ _ _ _ _ => True) (fun _ U o U' => ∃ v L, o = .returned v ∧ Q v U'.heap L ∧ CHr Z EL U.vm U.heap U'.vm U'.heap ∧ ReturnedEndW U o U' L rm.cells rm.slots) := by
  refine MetFree.of_bodySF pn hisR ?_
  intro p e s m args below meth c s₁ Bd hml0 hP hK
  obtain ⟨rfl, hZ, hh, hH, hsf⟩ := hP
  have e0 : s₁.heap = h0 := by rw [← hh, Bd.state]; rfl
  have hC : CHr Z EL s.vm s.heap s.vm h0 := by rw [hh]; exact CHr.refl hH
  obtain ⟨s₂, o, st, hrun, hend, hq⟩ := body p e s m below meth c s₁ (Stand.of_body Bd) Bd.exec Bd.bytes hml0 (findClass_of_methodNamed Bd.named) (name_of_methodNamed Bd.named Bd.method).1 Bd.returns Bd.notSynchronized hZ e0 ((State.WarmedH.refl s).since _) hC hsf
  exact ⟨s₂, o, castTop (ef m) st, hrun, hend, hq⟩
variable {y z : MethodName} {own C : String} {index W len : Nat} {bytes : ByteArray} {maxL : Nat} {ret : Option FieldType} {as' : Array Value} {argsL rest : List Value} {g : JFrame}
/-- what pays a call of a body that may intern; xs: cells that no booked String has -/
theorem backW {rm : Room} {xs : List Addr}
    (hM : MetFree l y (head1 [Jvm.Cond.code y bytes maxL ret] rm) (fun a U => a = as' ∧ Z.Warmed39 U.vm ∧ U.heap = h ∧ CHv Z EL U.vm h ∧ ∀ x ∈ xs, Safe Z EL U.vm h x) (fun _ _ _ _ _ => True) (fun _ U o U' => ∃ v L, o = .returned v ∧ Q v U'.heap L ∧ CHr Z EL U.vm U.heap U'.vm U'.heap ∧ ReturnedEndW U o U' L rm.cells rm.slots))
    (hZ : Z.Warmed39 vm0) (wc : (Jvm.Cond.code y bytes maxL ret).before a0 Z = true) (wz : (Jvm.Cond.initialized y.cls).before a0 Z = true) (hf : rm.frames + 1 ≤ R.frames) (hl : W + (maxL + 11) + rm.locals ≤ R.locals) (hEL : EW Z a0 EL) (H : CHv Z EL vm0 h) (hsf : ∀ x ∈ xs, Safe Z EL vm0 h x ∧ x < h.size) :
    BackS l R p e below (s.setVm vm0) args y len W (fun A a => a = as' ∧ A.U.heap = h ∧ A.cells + rm.cells ≤ R.cells ∧ A.slots + rm.slots ≤ R.slots)
      (fun A _ v B => ∃ L, Q v B.U.heap L ∧ B.locs = A.locs ++ L ∧ B.cells = A.cells + rm.cells ∧ B.slots = A.slots + rm.slots ∧ CHr Z EL vm0 h B.U.vm B.U.heap) := by
  refine BackS.of_freeW (bytes := bytes) (maxL := maxL) (ret := ret) (E := fun _ first o t L k n => k = rm.cells ∧ n = rm.slots ∧ (∃ v, o = .returned v ∧ Q v t.heap L) ∧ CHr Z EL first.vm first.heap t.vm t.heap) hM hf hl ?_ ?_ (fun _ _ _ _ _ _ _ _ _ => trivial) ?_ ?_
  · intro m meth c A a Y hp
    have hU : Z.Warmed39 A.U.vm := wtrans (s := s.setVm vm0) hZ Y.warmed
    exact ⟨by show (Jvm.Cond.and _ .tt).before a A.U = true; rw [Cond.before_and, mv hU wc]; rfl, mv hU wc, mv hU wz, hp.2.2.1, hp.2.2.2⟩
  · intro m meth c A a g mk Y hp
    have hC := CHv.at Y hZ hEL H
    exact ⟨hp.1, wtrans (s := s.setVm vm0) hZ Y.warmed, hp.2.1, hC.1, fun x hx => hC.safe (hsf x hx).2 (hsf x hx).1⟩
  · rintro a first o t ⟨v, L, h1, h2, h3, h4⟩
    exact ⟨L, _, _, h4, rfl, rfl, ⟨v, h1, h2⟩, h3⟩
  · rintro m meth c A a g mk v t L k n Y hp _ _ ⟨e1, e2, ⟨v', e3, e4⟩, e5⟩
    cases e3
    subst e1 e2
    refine ⟨L, e4, rfl, rfl, rfl, (CHv.at Y hZ hEL H).trans ?_⟩
    rw [← hp.2.1]; exact e5
theorem callStW (X : Stand p l e R (s.setVm vm0) m args below meth c T locs cells slots) (hx : p.tables.exec = Jvm.exec) (hZ : Z.Warmed39 vm0) (hown : vm0.findClass own = some m.cls)
    (w1 : (Jvm.Cond.methodLink own index y).before a0 Z = true) (w2 : (Jvm.Cond.static y).before a0 Z = true) (w3 : (Jvm.Cond.initialized y.cls).before a0 Z = true) (w4 : (Jvm.Cond.code y bytes maxL ret).before a0 Z = true)
    (hy : y.cls ≠ "java/lang/invoke/MethodHandle" ∧ y.cls ≠ "java/lang/invoke/VarHandle")
    (hB : BackS l R p e below (s.setVm vm0) args y 3 W (fun A a => a = argsL.toArray ∧ A.U.heap = h ∧ A.cells + kc ≤ R.cells ∧ A.slots + ks ≤ R.slots) (fun A _ v B => ∃ L, Q v B.U.heap L ∧ B.locs = A.locs ++ L ∧ B.cells = A.cells + kc ∧ B.slots = A.slots + ks ∧ CHr Z EL vm0 h B.U.vm B.U.heap))
    (hg : g.method = m) (hsize : g.locals.size = c.maxLocals) (hlen : ∀ sig, parseMethodDescriptor y.desc = some sig → argsL.length = sig.parameters.length) (hstack : g.stack = argsL.reverse ++ rest) (hW : 2 * g.monitorRoom + (rest.map fun v => v.category).sum ≤ W)
    (hd : decode c.code g.pc = .ok (.invokestatic index, 3)) (eT : T.heap = h) (hc : cells + kc ≤ R.cells) (hs : slots + ks ≤ R.slots) (hS : s.Since vm0 k0) (hkS : k0 ≤ h.size) :
    ∃ v T' L, Stand p l e R (s.setVm T'.vm) m args below meth c T' (locs ++ L) (cells + kc) (slots + ks) ∧ Q v T'.heap L ∧ s.Since T'.vm T'.heap.size ∧ Z.Warmed39 T'.vm ∧ T'.vm.findClass own = some m.cls ∧ CHr Z EL vm0 h T'.vm T'.heap ∧ ∀ t, Steps p.tables e below (T'.setTop { g with pc := g.pc + 3, stack := v.toList ++ rest }) t → Steps p.tables e below (T.setTop g) t := by
  obtain ⟨v, _, ⟨T1, L1, k1, n1⟩, -, X1, h2, hgr, ⟨L, hQ, hl, hk, hn, hC⟩, st⟩ := callSS X hx (s := s.setVm vm0) hown (mvT (s := s.setVm vm0) hZ w1) (mvT (s := s.setVm vm0) hZ w2) (mvT (s := s.setVm vm0) hZ w3) (mvT (s := s.setVm vm0) hZ w4) hy hB hg hsize hlen hstack hW hd (fun _ _ => ⟨rfl, eT, hc, hs⟩)
  dsimp only [Pt.U, Pt.locs, Pt.cells, Pt.slots] at X1 hl hk hn st hQ h2 hgr hC
  subst hl hk hn
  obtain ⟨X2, hS2, hZ2, hown2⟩ := rebS hS hkS X1 h2 (by rw [← eT]; exact hgr) hZ hown
  exact ⟨v, T1, L, X2, hQ, hS2, hZ2, hown2, hC, fun t k => st.trans k⟩
theorem callSpW {a : Addr} (X : Stand p l e R (s.setVm vm0) m args below meth c T locs cells slots) (hx : p.tables.exec = Jvm.exec) (hZ : Z.Warmed39 vm0) (hy1 : y.name = "<init>") (hown : vm0.findClass own = some m.cls)
    (w1 : (Jvm.Cond.methodLink own index y).before a0 Z = true) (w2 : (Jvm.Cond.instanceMethod y).before a0 Z = true) (w4 : (Jvm.Cond.code y bytes maxL none).before a0 Z = true)
    (hy : y.cls ≠ "java/lang/invoke/MethodHandle" ∧ y.cls ≠ "java/lang/invoke/VarHandle")
    (hB : BackS l R p e below (s.setVm vm0) args y 3 W (fun A b => b = (Value.ref a :: argsL).toArray ∧ A.U.heap = h ∧ A.cells + kc ≤ R.cells ∧ A.slots + ks ≤ R.slots) (fun A _ v B => ∃ L, Q v B.U.heap L ∧ B.locs = A.locs ++ L ∧ B.cells = A.cells + kc ∧ B.slots = A.slots + ks ∧ CHr Z EL vm0 h B.U.vm B.U.heap))
    (hg : g.method = m) (hsize : g.locals.size = c.maxLocals) (hlen : ∀ sig, parseMethodDescriptor y.desc = some sig → argsL.length = sig.parameters.length) (hstack : g.stack = argsL.reverse ++ .ref a :: rest) (hW : 2 * g.monitorRoom + (rest.map fun v => v.category).sum ≤ W)
    (hd : decode c.code g.pc = .ok (.invokespecial index, 3)) (eT : T.heap = h) (hc : cells + kc ≤ R.cells) (hs : slots + ks ≤ R.slots) (hS : s.Since vm0 k0) (hkS : k0 ≤ h.size) :
    ∃ v T' L, Stand p l e R (s.setVm T'.vm) m args below meth c T' (locs ++ L) (cells + kc) (slots + ks) ∧ Q v T'.heap L ∧ s.Since T'.vm T'.heap.size ∧ Z.Warmed39 T'.vm ∧ T'.vm.findClass own = some m.cls ∧ CHr Z EL vm0 h T'.vm T'.heap ∧ ∀ t, Steps p.tables e below (T'.setTop { g with pc := g.pc + 3, stack := v.toList ++ rest }) t → Steps p.tables e below (T.setTop g) t := by
  obtain ⟨v, _, ⟨T1, L1, k1, n1⟩, -, X1, h2, hgr, ⟨L, hQ, hl, hk, hn, hC⟩, st⟩ := X.specialBackS hx hy1 hown (mvT (s := s.setVm vm0) hZ w1) (mvT (s := s.setVm vm0) hZ w2) (mvT (s := s.setVm vm0) hZ w4) hy hB hg hsize (Steps.refl _) hlen hstack hW hd (fun _ _ => ⟨rfl, eT, hc, hs⟩)
  dsimp only [Pt.U, Pt.locs, Pt.cells, Pt.slots] at X1 hl hk hn st hQ h2 hgr hC
  subst hl hk hn
  obtain ⟨X2, hS2, hZ2, hown2⟩ := rebS hS hkS X1 h2 (by rw [← eT]; exact hgr) hZ hown
  exact ⟨v, T1, L, X2, hQ, hS2, hZ2, hown2, hC, fun t k => st.trans k⟩
theorem callVW {a : Addr} (X : Stand p l e R (s.setVm vm0) m args below meth c T locs cells slots) (hx : p.tables.exec = Jvm.exec) (hZ : Z.Warmed39 vm0) (hown : vm0.findClass own = some m.cls)
    (w1 : (Jvm.Cond.methodLink own index y).before a0 Z = true) (w2 : (Jvm.Cond.declares y).before a0 Z = true) (nf : NotFace (s.setVm vm0) y) (w3 : (Jvm.Cond.selects C y z).before a0 Z = true) (w4 : (Jvm.Cond.instanceMethod z).before a0 Z = true)
    (hy : y.cls ≠ "java/lang/invoke/MethodHandle" ∧ y.cls ≠ "java/lang/invoke/VarHandle")
    (hB : BackS l R p e below (s.setVm vm0) args z 3 W (fun A b => b = (Value.ref a :: argsL).toArray ∧ A.U.heap = h ∧ A.cells + kc ≤ R.cells ∧ A.slots + ks ≤ R.slots) (fun A _ v B => ∃ L, Q v B.U.heap L ∧ B.locs = A.locs ++ L ∧ B.cells = A.cells + kc ∧ B.slots = A.slots + ks ∧ CHr Z EL vm0 h B.U.vm B.U.heap))
    (E : Exa Z h a C) (hg : g.method = m) (hsize : g.locals.size = c.maxLocals) (hlen : ∀ sig, parseMethodDescriptor y.desc = some sig → argsL.length = sig.parameters.length) (hstack : g.stack = argsL.reverse ++ .ref a :: rest) (hW : 2 * g.monitorRoom + (rest.map fun v => v.category).sum ≤ W)
    (hd : decode c.code g.pc = .ok (.invokevirtual index, 3)) (eT : T.heap = h) (hc : cells + kc ≤ R.cells) (hs : slots + ks ≤ R.slots) (hS : s.Since vm0 k0) (hkS : k0 ≤ h.size) :
    ∃ v T' L, Stand p l e R (s.setVm T'.vm) m args below meth c T' (locs ++ L) (cells + kc) (slots + ks) ∧ Q v T'.heap L ∧ s.Since T'.vm T'.heap.size ∧ Z.Warmed39 T'.vm ∧ T'.vm.findClass own = some m.cls ∧ CHr Z EL vm0 h T'.vm T'.heap ∧ ∀ t, Steps p.tables e below (T'.setTop { g with pc := g.pc + 3, stack := v.toList ++ rest }) t → Steps p.tables e below (T.setTop g) t := by
  obtain ⟨cq, kq, qa, qb, qc⟩ := isOf (s := s.setVm vm0) hZ eT E
  obtain ⟨v, _, ⟨T1, L1, k1, n1⟩, -, X1, h2, hgr, ⟨L, hQ, hl, hk, hn, hC⟩, st⟩ := X.virtualBackS hx hown (mvT (s := s.setVm vm0) hZ w1) (mvT (s := s.setVm vm0) hZ w2) nf (mvT (s := s.setVm vm0) hZ w3) (mvT (s := s.setVm vm0) hZ w4) hy hB qa qc hg hsize (Steps.refl _) hlen hstack hW hd (fun _ _ => ⟨rfl, eT, hc, hs⟩)
  dsimp only [Pt.U, Pt.locs, Pt.cells, Pt.slots] at X1 hl hk hn st hQ h2 hgr hC
  subst hl hk hn
  obtain ⟨X2, hS2, hZ2, hown2⟩ := rebS hS hkS X1 h2 (by rw [← eT]; exact hgr) hZ hown
  exact ⟨v, T1, L, X2, hQ, hS2, hZ2, hown2, hC, fun t k => st.trans k⟩
theorem safeArv {vm : Vm} {x : Addr} {k : ClassId} {ty : FieldType} {n : Int32} {vs : List Value} {d : Value} (hal : Z.vm.Alike vm) (V : Arv Z h x k ty n vs d) (ht : ty ≠ .byte) : Safe Z EL vm h x := by
  obtain ⟨_, A, -⟩ := V
  exact Safe.arr hal A ht
end OwnW
end Jvm.Pilot.@@N@@
namespace Jvm.Pilot.@@N@@
open Jvm Jvm.ClassFile Sem Op Lib Jvm.Free Jvm.Stand Jvm.LawKit Jvm.RoadKit Bundle Jvm.Pilot.@@N@@.Jvm.D
theorem own_EW {a0 : Array Value} {Z : State} (hw : ∀ d ∈ tables_1, d.before a0 Z = true) : EW Z a0 consts_1 := (EW.cons (ww hw 69 rfl) (by decide) EW.nil)
set_option maxRecDepth 65536 in
theorem own_strAtoms : ∀ d ∈ Bundle.stringAtoms, d ∈ tables_1 := by decide +kernel
theorem safeBlank {Z : State} {EL : List (String × Nat)} {vm : Vm} {h : Heap} {x : Addr} (hal : Z.vm.Alike vm) (E : Exa Z h x "java/lang/String") (F : Fld Z h x "java/lang/String" "value" "[B" .null) : Safe Z EL vm h x := fun B => by
  obtain ⟨cell, k, e1, e2, e3, -, -⟩ := E
  obtain ⟨p, -, u, a, -, q, -, G, rfl | rfl⟩ := B
  · obtain ⟨cell', cf, kf, i, f, g1, g2, -, -, -, -, g7⟩ := F
    cases e1.symm.trans g1
    cases (show h[q.sa]? = some q.sC from G.ha).symm.trans e1
    obtain ⟨cS, ⟨⟨-, -, -, ⟨c1, k1, i1, f1, -⟩, -, -, -, v1, -⟩, -⟩, -⟩ := G
    obtain ⟨k3, e5, -⟩ := State.fieldFound?_setVm (s := Z) hal g2
    have e4 := (show (Wst Z vm h).fieldFound? _ _ _ = _ from e5).symm.trans f1
    simp only [Option.some.injEq, Prod.mk.injEq] at e4
    rw [← e4.2.2.2, g7] at v1
    simp at v1
  · cases (show h[q.sd]? = some q.SA from G.hd).symm.trans e1
    obtain ⟨cS, -, -, f, -⟩ := G
    have f' : Z.vm.findClass "[B" = some q.SA.cls := by rw [← hal.findClass]; exact f
    obtain ⟨k1, q1, q2⟩ := Vm.findClass_spec f'
    obtain ⟨k2, q3, q4⟩ := Vm.findClass_spec e2
    cases q1.symm.trans q3
    exact absurd (q2.symm.trans q4) (by decide)
end Jvm.Pilot.@@N@@
namespace Jvm.Pilot.@@N@@
open Jvm Jvm.ClassFile Sem Op Lib Jvm.Free Jvm.Stand Jvm.LawKit Jvm.RoadKit Bundle Jvm.Pilot.@@N@@.Jvm.D
/-- x is a String whose bytes, at t, spell the chars cs by the coder cd -/
def Str (Z : State) (h : Heap) (x t : Addr) (cd : Int32) (cs : List Int32) : Prop := ∃ (kb : ClassId) (N2 : Int32) (vs : List Value), Exa Z h x "java/lang/String" ∧ Fld Z h x "java/lang/String" "value" "[B" (.ref t) ∧ Fld Z h x "java/lang/String" "coder" "B" (.int cd) ∧ Arv Z h t kb .byte N2 vs (.int 0) ∧ StrChars.Road.CodA cs cd N2 vs ∧ (∀ c ∈ cs, ¬ c < 0 ∧ ¬ (65535 : Int32) < c) ∧ cs.length ≤ 4000
theorem own_codOf {cs : List Int32} {n : Nat} (hn : cs.length = n) (hb : ∀ c ∈ cs, ¬ (255 : Int32) < c) : StrChars.Road.CodA cs 0 (Int32.ofNat n) ((cs.map StrChars.lo8).map Value.int) := Or.inl ⟨rfl, by rw [hn], by simp [List.map_map, Function.comp_def], hb⟩
section StrF
variable {Z : State} {h h' : Heap} {x t a : Addr} {cd : Int32} {cs : List Int32} {sl : Nat} {v : Value} {ws : List Addr}
theorem Str.exa (F : Str Z h x t cd cs) : Exa Z h x "java/lang/String" := by obtain ⟨_, _, _, q, -⟩ := F; exact q
theorem Str.val (F : Str Z h x t cd cs) : Fld Z h x "java/lang/String" "value" "[B" (.ref t) := by obtain ⟨_, _, _, -, q, -⟩ := F; exact q
theorem Str.cod (F : Str Z h x t cd cs) : Fld Z h x "java/lang/String" "coder" "B" (.int cd) := by obtain ⟨_, _, _, -, -, q, -⟩ := F; exact q
theorem Str.lt1 (F : Str Z h x t cd cs) : x < h.size := F.exa.lt
theorem Str.lt2 (F : Str Z h x t cd cs) : t < h.size := by obtain ⟨_, _, _, -, -, -, q, -⟩ := F; exact q.lt
theorem Str.ext (F : Str Z h x t cd cs) (E : Ext h h') : Str Z h' x t cd cs := by obtain ⟨k, n, vs, a1, a2, a3, a4, r⟩ := F; exact ⟨k, n, vs, a1.ext E, a2.ext E, a3.ext E, a4.ext E, r⟩
theorem Str.keep (F : Str Z h x t cd cs) (K : Keep h h' ws) (q1 : x ∉ ws) (q2 : t ∉ ws) : Str Z h' x t cd cs := by obtain ⟨k, n, vs, a1, a2, a3, a4, r⟩ := F; exact ⟨k, n, vs, a1.keep K, a2.keep K q1, a3.keep K q1, a4.keep K q2, r⟩
theorem Str.wr (F : Str Z h x t cd cs) (W : Wr h h' a sl v) (q1 : x ≠ a) (q2 : t ≠ a) : Str Z h' x t cd cs := by obtain ⟨k, n, vs, a1, a2, a3, a4, r⟩ := F; exact ⟨k, n, vs, a1.wr W, Fld.other W a2 (Or.inl q1), Fld.other W a3 (Or.inl q1), a4.other W q2, r⟩
theorem Str.ne1 {b : Addr} {C : String} (F : Str Z h x t cd cs) (E : Exa Z h b C) (hC : "java/lang/String" ≠ C) : x ≠ b := F.exa.ne E hC
theorem Str.ne2 {b : Addr} {C : String} {n : Nat} {a0 : Array Value} (F : Str Z h x t cd cs) (E : Exa Z h b C) (w : (Jvm.Cond.instantiable C n).before a0 Z = true) : t ≠ b := by obtain ⟨_, _, _, -, -, -, q, -⟩ := F; exact Ne.symm (E.neArv q w)
end StrF
theorem up16 (cs : List Int32) (h : ∀ c ∈ cs, ¬ c < 0 ∧ ¬ (255 : Int32) < c) : ∀ c ∈ cs, ¬ c < 0 ∧ ¬ (65535 : Int32) < c := fun c hc => ⟨(h c hc).1, fun q => (h c hc).2 (by rw [Int32.lt_iff_toInt_lt] at q ⊢; have e1 : (65535 : Int32).toInt = 65535 := rfl; have e2 : (255 : Int32).toInt = 255 := rfl; omega)⟩
theorem oj_c16 {c : Int32} (h : ¬ c < 0 ∧ ¬ (65535 : Int32) < c) : nar .char c = c := by
  show c.toUInt32.toUInt16.toUInt32.toInt32 = c
  have q := c_i2c c
  have r := rng32 c
  obtain ⟨h0, h1⟩ := h
  rw [Int32.lt_iff_toInt_lt] at h0 h1
  have e0 : (0 : Int32).toInt = 0 := rfl
  have e1 : (65535 : Int32).toInt = 65535 := rfl
  apply Int32.toInt_inj.mp
  omega
theorem own_c255 (x : Int32) : ¬ ((x &&& (255 : Int32)).toUInt32.toUInt16.toUInt32.toInt32) < 0 ∧ ¬ (255 : Int32) < ((x &&& (255 : Int32)).toUInt32.toUInt16.toUInt32.toInt32) := by
  have e := i2c_mask x
  have h := c_mask x 255 8 (by decide) (by decide)
  rw [e]
  simp only [Int32.lt_iff_toInt_lt]
  have e0 : (0 : Int32).toInt = 0 := rfl
  have e1 : (255 : Int32).toInt = 255 := rfl
  omega
theorem own_three (x : Int32) : (x &&& (2147483647 : Int32)) % (3 : Int32) = 0 ∨ (x &&& (2147483647 : Int32)) % (3 : Int32) = 1 ∨ (x &&& (2147483647 : Int32)) % (3 : Int32) = 2 := by
  have h := c_mask x 2147483647 31 (by decide) (by decide)
  have r := (c_irem (x &&& 2147483647) 3 3 rfl).1 (by omega)
  have e0 : (0 : Int32).toInt = 0 := rfl
  have e1 : (1 : Int32).toInt = 1 := rfl
  have e2 : (2 : Int32).toInt = 2 := rfl
  simp only [← Int32.toInt_inj, e0, e1, e2]
  omega
/-- the chars that make gives -/
def own_mk (n a b : Int32) : List Int32 := if n = 0 then [] else if n = 1 then [a] else [a, b]
theorem own_lat16 {c : Int32} (h : ¬ c < 0 ∧ ¬ (255 : Int32) < c) : nar .char c = c := oj_c16 ⟨h.1, fun q => h.2 (by rw [Int32.lt_iff_toInt_lt] at q ⊢; have e1 : (65535 : Int32).toInt = 65535 := rfl; have e2 : (255 : Int32).toInt = 255 := rfl; omega)⟩

theorem d3_0 : decode jdk_42_method_149_code 0 = .ok (.aload_n 0, 1) := by decide +kernel
theorem d3_1 : decode jdk_42_method_149_code 1 = .ok (.invokespecial 1, 3) := by decide +kernel
theorem d3_4 : decode jdk_42_method_149_code 4 = .ok (.iload_n 3, 1) := by decide +kernel
theorem d3_5 : decode jdk_42_method_149_code 5 = .ok (.ifCond .ne 22, 3) := by decide +kernel
theorem d3_8 : decode jdk_42_method_149_code 8 = .ok (.aload_n 0, 1) := by decide +kernel
theorem d3_9 : decode jdk_42_method_149_code 9 = .ok (.ldc 7, 2) := by decide +kernel
theorem d3_11 : decode jdk_42_method_149_code 11 = .ok (.getfield 9, 3) := by decide +kernel
theorem d3_14 : decode jdk_42_method_149_code 14 = .ok (.putfield 9, 3) := by decide +kernel
theorem d3_17 : decode jdk_42_method_149_code 17 = .ok (.aload_n 0, 1) := by decide +kernel
theorem d3_18 : decode jdk_42_method_149_code 18 = .ok (.ldc 7, 2) := by decide +kernel
theorem d3_20 : decode jdk_42_method_149_code 20 = .ok (.getfield 15, 3) := by decide +kernel
theorem d3_23 : decode jdk_42_method_149_code 23 = .ok (.putfield 15, 3) := by decide +kernel
theorem d3_26 : decode jdk_42_method_149_code 26 = .ok (.return_, 1) := by decide +kernel
abbrev y_0 : MethodName := ⟨"java/lang/String", "<init>", "([CIILjava/lang/Void;)V"⟩
theorem pn_0 : plainFor y_0 = true := by first | exact plainFor_of_name (by first | (simp [plainName, overriddenIn]; done) | decide +kernel) | decide +kernel
theorem ef_rmE4 (m : MethodId) (x1 : Addr) (b1 : Addr) : entryFrame m #[(.ref x1), (.ref b1), (.int 0), (.int 0), .null] 6 = mkF m 0 #[sr x1, sr b1, si 0, si 0, .val .null, .unset] [] := by first | (simp [entryFrame, mkF, argsToLocals, Value.category]; done) | rfl
def Q_rmE4 (Z : State) (x1 : Addr) (b1 : Addr) (h0 : Heap) (n0 : Nat) (v : Option Value) (h : Heap) (L : List Loc) : Prop := ∃ (t : Addr), v = none ∧ Fr n0 L ∧ Keep h0 h [x1] ∧ (Str Z h x1 t (0 : Int32) ([] : List Int32))
set_option maxRecDepth 65536 in
set_option maxHeartbeats 40000000 in
theorem rmE4 (l : Launch) (Z : State) (a0 : Array Value) (hw : ∀ d ∈ tables_1, d.before a0 Z = true) (ws : List Jvm.Cond) (x1 : Addr) (b1 : Addr) (h0 : Heap) (n0 : Nat) (Z0 : n0 ≤ h0.size) (hp0 : Exa Z h0 x1 "java/lang/String") (hp1 : Fld Z h0 x1 "java/lang/String" "value" "[B" .null) (hp2 : Fld Z h0 x1 "java/lang/String" "coder" "B" (.int 0)) (hp3 : n0 ≤ x1) (hp4 : Old Z n0 h0) :
    MetFree l y_0 (head1 (Jvm.Cond.code y_0 jdk_42_method_149_code 6 none :: ws) ({ frames := 1, cells := 4, slots := 8, locals := 12 } : Room)) (fun a U => a = #[(.ref x1), (.ref b1), (.int 0), (.int 0), .null] ∧ Z.Warmed39 U.vm ∧ U.heap = h0 ∧ CHv Z consts_1 U.vm h0 ∧ ∀ x ∈ ([] : List Addr), Safe Z consts_1 U.vm h0 x) (fun _ _ _ _ _ => True) (fun _ U o U' => ∃ v L, o = .returned v ∧ Q_rmE4 Z x1 b1 h0 n0 v U'.heap L ∧ CHr Z consts_1 U.vm U.heap U'.vm U'.heap ∧ ReturnedEndW U o U' L ({ frames := 1, cells := 4, slots := 8, locals := 12 } : Room).cells ({ frames := 1, cells := 4, slots := 8, locals := 12 } : Room).slots) := by
 refine bodyOfW pn_0 (fun m => ef_rmE4 m x1 b1) ?_
 intro p e s m below meth c T0 X0 hx hby hml hown hnm hret hk hZ e0 hS C0 hsf
 have hkS := Nat.le_refl h0.size
 have N0 := Fr.nil n0
 have K0 : Keep h0 h0 [x1] := Keep.refl _ _
 have O0 := hp4
 have sf1 : Safe Z consts_1 _ h0 x1 := safeBlank hZ.alike hp0 hp1
 refine go (S' := T0.setTop (mkF m 1 #[sr x1, sr b1, si 0, si 0, .val .null, .unset] [(.ref x1)])) (fun t k => XS.aloadN X0.here hx rfl (hb hby d3_0) rfl rfl k) ?_
 obtain ⟨T2, X2, e2, st2⟩ := initO X0 hx hZ hown (ww hw 19 rfl) (ww hw 20 rfl) (ww hw 21 rfl) e0 (g := (mkF m 1 #[sr x1, sr b1, si 0, si 0, .val .null, .unset] [(.ref x1)])) rfl (by rw [hml]; rfl) rfl (hb hby d3_1) (by decide) (W := 0) (mr0 rfl) (by decide)
 refine go (S' := T2.setTop (mkF m 5 #[sr x1, sr b1, si 0, si 0, .val .null, .unset] [(.int 0)])) (fun t k => st2 _ (XS.iloadN X2.here hx rfl (hb hby d3_4) rfl k)) ?_
 have hc3 : (0 : Int32) = (0 : Int32) := by decide
 refine go (S' := T2.setTop (mkF m 9 #[sr x1, sr b1, si 0, si 0, .val .null, .unset] [(.ref x1)])) (fun t k => XS.ifNo X2.here hx rfl (hb hby d3_5) rfl ((if0 _ _).trans (teq hc3).2) (XS.aloadN X2.here hx rfl (hb hby d3_8) rfl rfl k)) ?_
 obtain ⟨la4, T4, h4, k4, lb4, lk4, X4, e4, E4, hS, hkS, hZ, hown, lE4, lC4, lV4, lA4, la4_lt, lb4_lt, Cq4, lit4, lne4, st4⟩ := ldcCH X2 hx hZ hown (ww hw 69 rfl) (own_sub own_strAtoms hw) e2 hS hkS (own_EW hw) (by decide) C0.1 (vs := []) (z := (0 : Int32)) ⟨by decide, by decide⟩ (by decide) (by decide) (g := (mkF m 9 #[sr x1, sr b1, si 0, si 0, .val .null, .unset] [(.ref x1)])) rfl (hb hby d3_9) (n := 0) (by decide) (by decide) (by decide) (by decide)
 have K5 : Keep h0 h4 [x1] := K0.ext E4
 have C6 := C0.trans Cq4
 have sf7 := CHr.safe Cq4 hp0.lt sf1
 have ne_x1_la4 := (lne4 x1 sf7).1
 have ne_x1_lb4 := (lne4 x1 sf7).2
 have lstr4 : Str Z h4 la4 lb4 (0 : Int32) ([] : List Int32) := ⟨_, _, _, lE4, lV4, lC4, lA4, own_codOf rfl (by decide), by decide, Nat.le_of_ble_eq_true rfl⟩
 refine go (S' := T4.setTop (mkF m 11 #[sr x1, sr b1, si 0, si 0, .val .null, .unset] [(.ref la4), (.ref x1)])) st4 ?_
 obtain ⟨T8, X8, e8, st8⟩ := getF X4 hx hZ hown (host := "") (Or.inl (ww hw 36 rfl)) Via.refl e4 lstr4.val (g := (mkF m 11 #[sr x1, sr b1, si 0, si 0, .val .null, .unset] [(.ref la4), (.ref x1)])) rfl rfl (hb hby d3_11)
 refine go (S' := T8.setTop (mkF m 14 #[sr x1, sr b1, si 0, si 0, .val .null, .unset] [(.ref lb4), (.ref x1)])) st8 ?_
 have f9 : Fld Z h4 x1 "java/lang/String" "value" "[B" .null := (hp1.ext E4)
 obtain ⟨T10, h10, X10, e10, W10, st10⟩ := putF X8 hx hZ hown (host := "") (Or.inl (ww hw 36 rfl)) Via.refl e8 f9 (hp0.keep K5) (Or.inr ⟨(ww hw 37 rfl), rfl, hnm⟩) (ww hw 9 rfl) (ty := (.array .byte)) (by decide) rfl rfl (g := (mkF m 14 #[sr x1, sr b1, si 0, si 0, .val .null, .unset] [(.ref lb4), (.ref x1)])) rfl rfl (hb hby d3_14)
 have K11 : Keep h0 h10 [x1] := K5.wr W10 (Or.inl (List.mem_of_getElem? (i := 0) rfl))
 have N12 := Fr.snoc X10 N0 hp3
 have hkS := Nat.le_trans hkS (Keep.of_wr W10).1
 have C13 := C6.trans (CHr.wr W10 sf7 C6.1)
 have sf14 := Safe.wr W10 sf7 C6.1 sf7
 have f15 : Fld Z h10 x1 "java/lang/String" "value" "[B" (.ref lb4) := (Fld.same W10 f9)
 refine go (S' := T10.setTop (mkF m 18 #[sr x1, sr b1, si 0, si 0, .val .null, .unset] [(.ref x1)])) (fun t k => st10 _ (XS.aloadN X10.here hx rfl (hb hby d3_17) rfl rfl k)) ?_
 have f17 : Str Z h10 la4 lb4 (0 : Int32) ([] : List Int32) := (lstr4.wr W10 (Ne.symm ne_x1_la4) (Ne.symm ne_x1_lb4))
 obtain ⟨la16, T16, h16, k16, lb16, lk16, X16, e16, E16, hS, hkS, hZ, hown, lE16, lC16, lV16, lA16, la16_lt, lb16_lt, Cq16, lit16, lne16, st16⟩ := ldcCH X10 hx hZ hown (ww hw 69 rfl) (own_sub own_strAtoms hw) e10 hS hkS (own_EW hw) (by decide) C13.1 (vs := []) (z := (0 : Int32)) ⟨by decide, by decide⟩ (by decide) (by decide) (g := (mkF m 18 #[sr x1, sr b1, si 0, si 0, .val .null, .unset] [(.ref x1)])) rfl (hb hby d3_18) (n := 0) (by decide) (by decide) (by decide) (by decide)
 have K18 : Keep h0 h16 [x1] := K11.ext E16
 have C19 := C13.trans Cq16
 have sf20 := CHr.safe Cq16 (hp0.keep K11).lt sf14
 have ne_x1_la16 := (lne16 x1 sf20).1
 have ne_x1_lb16 := (lne16 x1 sf20).2
 have lstr16 : Str Z h16 la16 lb16 (0 : Int32) ([] : List Int32) := ⟨_, _, _, lE16, lV16, lC16, lA16, own_codOf rfl (by decide), by decide, Nat.le_of_ble_eq_true rfl⟩
 refine go (S' := T16.setTop (mkF m 20 #[sr x1, sr b1, si 0, si 0, .val .null, .unset] [(.ref la16), (.ref x1)])) st16 ?_
 obtain ⟨T21, X21, e21, st21⟩ := getF X16 hx hZ hown (host := "") (Or.inl (ww hw 34 rfl)) Via.refl e16 lstr16.cod (g := (mkF m 20 #[sr x1, sr b1, si 0, si 0, .val .null, .unset] [(.ref la16), (.ref x1)])) rfl rfl (hb hby d3_20)
 refine go (S' := T21.setTop (mkF m 23 #[sr x1, sr b1, si 0, si 0, .val .null, .unset] [(.int 0), (.ref x1)])) st21 ?_
 have f22 : Fld Z h16 x1 "java/lang/String" "coder" "B" (.int 0) := ((Fld.other W10 (hp2.ext E4) (Or.inr (slot_ne (Or.inr (ww hw 35 rfl)) (Or.inr (ww hw 37 rfl)) (by decide) (t := .byte) (t' := (.array .byte)) (by decide) (by decide)))).ext E16)
 obtain ⟨T23, h23, X23, e23, W23, st23⟩ := putF X21 hx hZ hown (host := "") (Or.inl (ww hw 34 rfl)) Via.refl e21 f22 (hp0.keep K18) (Or.inr ⟨(ww hw 35 rfl), rfl, hnm⟩) (ww hw 9 rfl) (ty := .byte) (by decide) (by decide) (by decide) (g := (mkF m 23 #[sr x1, sr b1, si 0, si 0, .val .null, .unset] [(.int 0), (.ref x1)])) rfl rfl (hb hby d3_23)
 have K24 : Keep h0 h23 [x1] := K18.wr W23 (Or.inl (List.mem_of_getElem? (i := 0) rfl))
 have N25 := Fr.snoc X23 N12 hp3
 have hkS := Nat.le_trans hkS (Keep.of_wr W23).1
 have C26 := C19.trans (CHr.wr W23 sf20 C19.1)
 have sf27 := Safe.wr W23 sf20 C19.1 sf20
 have f28 : Fld Z h23 x1 "java/lang/String" "coder" "B" (.int 0) := (Fld.same W23 f22)
 refine go (S' := T23.setTop (mkF m 26 #[sr x1, sr b1, si 0, si 0, .val .null, .unset] [])) st23 ?_
 refine finVW X23 hx hk hret hS hkS hZ (own_EW hw) C26 e23 (hb hby d3_26) (by decide) (by decide) ?_
 have f29 : Fld Z h23 x1 "java/lang/String" "value" "[B" (.ref lb4) := (Fld.other W23 (f15.ext E16) (Or.inr (slot_ne (Or.inr (ww hw 37 rfl)) (Or.inr (ww hw 35 rfl)) (by decide) (t := (.array .byte)) (t' := .byte) (by decide) (by decide))))
 have f30 : Str Z h23 la4 lb4 (0 : Int32) ([] : List Int32) := ((f17.ext E16).wr W23 (Ne.symm ne_x1_la4) (Ne.symm ne_x1_lb4))
 obtain ⟨kbz, N2z, vsz, -, -, -, qAz, qcdz, qbdz, qlz⟩ := id f30
 exact ⟨lb4, rfl, N25, K24, ⟨_, _, _, (hp0.keep K24), f29, f28, qAz, qcdz, qbdz, qlz⟩⟩
theorem d2_0 : decode jdk_42_method_3_code 0 = .ok (.aload_n 0, 1) := by decide +kernel
theorem d2_1 : decode jdk_42_method_3_code 1 = .ok (.aload_n 1, 1) := by decide +kernel
theorem d2_2 : decode jdk_42_method_3_code 2 = .ok (.iconst 0, 1) := by decide +kernel
theorem d2_3 : decode jdk_42_method_3_code 3 = .ok (.aload_n 1, 1) := by decide +kernel
theorem d2_4 : decode jdk_42_method_3_code 4 = .ok (.arraylength, 1) := by decide +kernel
theorem d2_5 : decode jdk_42_method_3_code 5 = .ok (.aconst_null, 1) := by decide +kernel
theorem d2_6 : decode jdk_42_method_3_code 6 = .ok (.invokespecial 27, 3) := by decide +kernel
theorem pd_0 : parseMethodDescriptor "([CIILjava/lang/Void;)V" = some ⟨[(.array .char), .int, .int, (.object "java/lang/Void")], none⟩ := by decide +kernel
theorem d2_9 : decode jdk_42_method_3_code 9 = .ok (.return_, 1) := by decide +kernel
abbrev y_1 : MethodName := ⟨"java/lang/String", "<init>", "([C)V"⟩
theorem pn_1 : plainFor y_1 = true := by first | exact plainFor_of_name (by first | (simp [plainName, overriddenIn]; done) | decide +kernel) | decide +kernel
theorem ef_rmE1 (m : MethodId) (x1 : Addr) (b1 : Addr) : entryFrame m #[(.ref x1), (.ref b1)] 2 = mkF m 0 #[sr x1, sr b1] [] := by first | (simp [entryFrame, mkF, argsToLocals, Value.category]; done) | rfl
def Q_rmE1 (Z : State) (x1 : Addr) (b1 : Addr) (kC : ClassId) (vC : List Value) (dC : Value) (h0 : Heap) (n0 : Nat) (v : Option Value) (h : Heap) (L : List Loc) : Prop := ∃ (t : Addr), v = none ∧ Fr n0 L ∧ Keep h0 h [x1] ∧ (Str Z h x1 t (0 : Int32) ([] : List Int32))
set_option maxRecDepth 65536 in
set_option maxHeartbeats 40000000 in
theorem rmE1 (l : Launch) (Z : State) (a0 : Array Value) (hw : ∀ d ∈ tables_1, d.before a0 Z = true) (ws : List Jvm.Cond) (x1 : Addr) (b1 : Addr) (kC : ClassId) (vC : List Value) (dC : Value) (h0 : Heap) (n0 : Nat) (Z0 : n0 ≤ h0.size) (hp0 : Exa Z h0 x1 "java/lang/String") (hp1 : Fld Z h0 x1 "java/lang/String" "value" "[B" .null) (hp2 : Fld Z h0 x1 "java/lang/String" "coder" "B" (.int 0)) (hp3 : n0 ≤ x1) (hp4 : Arv Z h0 b1 kC .char (0 : Int32) vC dC) (hp5 : Old Z n0 h0) :
    MetFree l y_1 (head1 (Jvm.Cond.code y_1 jdk_42_method_3_code 2 none :: ws) ({ frames := 2, cells := 4, slots := 8, locals := 29 } : Room)) (fun a U => a = #[(.ref x1), (.ref b1)] ∧ Z.Warmed39 U.vm ∧ U.heap = h0 ∧ CHv Z consts_1 U.vm h0 ∧ ∀ x ∈ ([] : List Addr), Safe Z consts_1 U.vm h0 x) (fun _ _ _ _ _ => True) (fun _ U o U' => ∃ v L, o = .returned v ∧ Q_rmE1 Z x1 b1 kC vC dC h0 n0 v U'.heap L ∧ CHr Z consts_1 U.vm U.heap U'.vm U'.heap ∧ ReturnedEndW U o U' L ({ frames := 2, cells := 4, slots := 8, locals := 29 } : Room).cells ({ frames := 2, cells := 4, slots := 8, locals := 29 } : Room).slots) := by
 refine bodyOfW pn_1 (fun m => ef_rmE1 m x1 b1) ?_
 intro p e s m below meth c T0 X0 hx hby hml hown hnm hret hk hZ e0 hS C0 hsf
 have hkS := Nat.le_refl h0.size
 have N0 := Fr.nil n0
 have K0 : Keep h0 h0 [x1] := Keep.refl _ _
 have O0 := hp5
 have sf31 : Safe Z consts_1 _ h0 x1 := safeBlank hZ.alike hp0 hp1
 refine go (S' := T0.setTop (mkF m 4 #[sr x1, sr b1] [(.ref b1), (.int 0), (.ref b1), (.ref x1)])) (fun t k => XS.aloadN X0.here hx rfl (hb hby d2_0) rfl rfl (XS.aloadN X0.here hx rfl (hb hby d2_1) rfl rfl (XS.iconst X0.here hx rfl (hb hby d2_2) (XS.aloadN X0.here hx rfl (hb hby d2_3) rfl rfl k)))) ?_
 obtain ⟨cl32, Ar32, -, S32, M32, -, -⟩ := id hp4
 refine go (S' := T0.setTop (mkF m 6 #[sr x1, sr b1] [.null, (.int 0), (.int 0), (.ref b1), (.ref x1)])) (fun t k => X0.arraylength hx (by rw [e0]; exact Ar32.1) (State.isArrayOf_alike hZ.alike Ar32.2.1) (g := (mkF m 4 #[sr x1, sr b1] [(.ref b1), (.int 0), (.ref b1), (.ref x1)])) rfl rfl (hb hby d2_4) _ (by rw [len_of S32 M32]; exact (XS.aconstNull X0.here hx rfl (hb hby d2_5) k))) ?_
 have O33 : Old Z n0 h0 := O0.keep K0 (allS hp3 all0)
 obtain ⟨v34, T34, L34, X34, hQ34, hS, hZ, hown, Cq34, st34⟩ := callSpW X0 hx hZ (y := y_0) rfl hown (ww hw 15 rfl) (ww hw 16 rfl) (ww hw 18 rfl) (by decide) (backW (W := 0) (rmE4 l Z a0 hw [] x1 b1 h0 n0 (Nat.le_trans Z0 K0.1) hp0 hp1 hp2 hp3 O33) hZ (ww hw 18 rfl) (ww hw 10 rfl) (by decide) (by decide) (own_EW hw) C0.1 all0) (g := (mkF m 6 #[sr x1, sr b1] [.null, (.int 0), (.int 0), (.ref b1), (.ref x1)])) rfl (by rw [hml]; rfl) (a := x1) (kc := 4) (ks := 8) (argsL := [(.ref b1), (.int 0), (.int 0), .null]) (rest := []) (lenOf pd_0 rfl) rfl (mr0 rfl) (hb hby d2_6) e0 (by decide) (by decide) hS hkS
 obtain ⟨t_34, rfl, N34q, Kq34, q34_0⟩ := hQ34
 have N34 := Fr.app N0 N34q
 have hkS := Nat.le_refl T34.heap.size
 have C35 := C0.trans Cq34
 have sf36 := CHr.safe Cq34 hp0.lt sf31
 have K37 : Keep h0 T34.heap [x1] := K0.trans Kq34 (allS (P := fun x => x ∈ [x1] ∨ h0.size ≤ x) (Or.inl (List.mem_of_getElem? (i := 0) rfl)) all0)
 refine go (S' := T34.setTop (mkF m 9 #[sr x1, sr b1] [])) st34 ?_
 refine finVW X34 hx hk hret hS hkS hZ (own_EW hw) C35 rfl (hb hby d2_9) (by decide) (by decide) ?_
 exact ⟨t_34, rfl, N34, K37, q34_0⟩
theorem d1_0 : decode method_3_code 0 = .ok (.iload_n 0, 1) := by decide +kernel
theorem d1_1 : decode method_3_code 1 = .ok (.ifCond .ne 14, 3) := by decide +kernel
theorem d1_4 : decode method_3_code 4 = .ok (.new 36, 3) := by decide +kernel
theorem d1_7 : decode method_3_code 7 = .ok (.dup, 1) := by decide +kernel
theorem d1_8 : decode method_3_code 8 = .ok (.iconst 0, 1) := by decide +kernel
theorem d1_9 : decode method_3_code 9 = .ok (.newarray .char, 2) := by decide +kernel
theorem d1_11 : decode method_3_code 11 = .ok (.invokespecial 38, 3) := by decide +kernel
theorem pd_1 : parseMethodDescriptor "([C)V" = some ⟨[(.array .char)], none⟩ := by decide +kernel
theorem d1_14 : decode method_3_code 14 = .ok (.areturn, 1) := by decide +kernel
theorem d1_15 : decode method_3_code 15 = .ok (.iload_n 0, 1) := by decide +kernel
theorem d1_16 : decode method_3_code 16 = .ok (.iconst 1, 1) := by decide +kernel
theorem d1_17 : decode method_3_code 17 = .ok (.if_icmp .ne 18, 3) := by decide +kernel
theorem d1_20 : decode method_3_code 20 = .ok (.new 36, 3) := by decide +kernel
theorem d1_23 : decode method_3_code 23 = .ok (.dup, 1) := by decide +kernel
theorem d1_24 : decode method_3_code 24 = .ok (.iconst 1, 1) := by decide +kernel
theorem d1_25 : decode method_3_code 25 = .ok (.newarray .char, 2) := by decide +kernel
theorem d1_27 : decode method_3_code 27 = .ok (.dup, 1) := by decide +kernel
theorem d1_28 : decode method_3_code 28 = .ok (.iconst 0, 1) := by decide +kernel
theorem d1_29 : decode method_3_code 29 = .ok (.iload_n 1, 1) := by decide +kernel
theorem d1_30 : decode method_3_code 30 = .ok (.castore, 1) := by decide +kernel
theorem d1_31 : decode method_3_code 31 = .ok (.invokespecial 38, 3) := by decide +kernel
theorem d1_34 : decode method_3_code 34 = .ok (.areturn, 1) := by decide +kernel
theorem d1_35 : decode method_3_code 35 = .ok (.new 36, 3) := by decide +kernel
theorem d1_38 : decode method_3_code 38 = .ok (.dup, 1) := by decide +kernel
theorem d1_39 : decode method_3_code 39 = .ok (.iconst 2, 1) := by decide +kernel
theorem d1_40 : decode method_3_code 40 = .ok (.newarray .char, 2) := by decide +kernel
theorem d1_42 : decode method_3_code 42 = .ok (.dup, 1) := by decide +kernel
theorem d1_43 : decode method_3_code 43 = .ok (.iconst 0, 1) := by decide +kernel
theorem d1_44 : decode method_3_code 44 = .ok (.iload_n 1, 1) := by decide +kernel
theorem d1_45 : decode method_3_code 45 = .ok (.castore, 1) := by decide +kernel
theorem d1_46 : decode method_3_code 46 = .ok (.dup, 1) := by decide +kernel
theorem d1_47 : decode method_3_code 47 = .ok (.iconst 1, 1) := by decide +kernel
theorem d1_48 : decode method_3_code 48 = .ok (.iload_n 2, 1) := by decide +kernel
theorem d1_49 : decode method_3_code 49 = .ok (.castore, 1) := by decide +kernel
theorem d1_50 : decode method_3_code 50 = .ok (.invokespecial 38, 3) := by decide +kernel
theorem d1_53 : decode method_3_code 53 = .ok (.areturn, 1) := by decide +kernel
abbrev y_2 : MethodName := ⟨"com/example/sallyport/sallyport/PolicyReferenceEqualsPinLaw", "make", "(ICC)Ljava/lang/String;"⟩
theorem pn_2 : plainFor y_2 = true := by first | exact plainFor_of_name (by first | (simp [plainName, overriddenIn]; done) | decide +kernel) | decide +kernel
theorem ef_rmMk (m : MethodId) (p1 : Int32) (p2 : Int32) (p3 : Int32) : entryFrame m #[(.int p1), (.int p2), (.int p3)] 3 = mkF m 0 #[si p1, si p2, si p3] [] := by first | (simp [entryFrame, mkF, argsToLocals, Value.category]; done) | rfl
def Q_rmMk (Z : State) (p1 : Int32) (p2 : Int32) (p3 : Int32) (G1 : Int32) (h0 : Heap) (n0 : Nat) (v : Option Value) (h : Heap) (L : List Loc) : Prop := ∃ (x : Addr), ∃ (t : Addr), v = some (.ref x) ∧ Fr n0 L ∧ Keep h0 h [] ∧ (h0.size ≤ x) ∧ (Str Z h x t (0 : Int32) (own_mk p1 p2 p3))
set_option maxRecDepth 65536 in
set_option maxHeartbeats 40000000 in
theorem rmMk (l : Launch) (Z : State) (a0 : Array Value) (hw : ∀ d ∈ tables_1, d.before a0 Z = true) (ws : List Jvm.Cond) (p1 : Int32) (p2 : Int32) (p3 : Int32) (G1 : Int32) (h0 : Heap) (n0 : Nat) (Z0 : n0 ≤ h0.size) (h2 : ¬ p2 < 0 ∧ ¬ (255 : Int32) < p2) (h3 : ¬ p3 < 0 ∧ ¬ (255 : Int32) < p3) (hp2 : Sta Z Z.heap "java/lang/String" "COMPACT_STRINGS" "Z" (.int G1)) (hG1 : ¬ (G1 = (0 : Int32))) (hp4 : Old Z n0 h0) :
    MetFree l y_2 (head1 (Jvm.Cond.code y_2 method_3_code 3 (some (.object "java/lang/String")) :: ws) ({ frames := 4, cells := 6, slots := 12, locals := 66 } : Room)) (fun a U => a = #[(.int p1), (.int p2), (.int p3)] ∧ Z.Warmed39 U.vm ∧ U.heap = h0 ∧ CHv Z consts_1 U.vm h0 ∧ ∀ x ∈ ([] : List Addr), Safe Z consts_1 U.vm h0 x) (fun _ _ _ _ _ => True) (fun _ U o U' => ∃ v L, o = .returned v ∧ Q_rmMk Z p1 p2 p3 G1 h0 n0 v U'.heap L ∧ CHr Z consts_1 U.vm U.heap U'.vm U'.heap ∧ ReturnedEndW U o U' L ({ frames := 4, cells := 6, slots := 12, locals := 66 } : Room).cells ({ frames := 4, cells := 6, slots := 12, locals := 66 } : Room).slots) := by
 refine bodyOfW pn_2 (fun m => ef_rmMk m p1 p2 p3) ?_
 intro p e s m below meth c T0 X0 hx hby hml hown hnm hret hk hZ e0 hS C0 hsf
 have hkS := Nat.le_refl h0.size
 have N0 := Fr.nil n0
 have K0 : Keep h0 h0 [] := Keep.refl _ _
 have O0 := hp4
 refine go (S' := T0.setTop (mkF m 1 #[si p1, si p2, si p3] [(.int p1)])) (fun t k => XS.iloadN X0.here hx rfl (hb hby d1_0) rfl k) ?_
 by_cases hc38 : p1 = (0 : Int32)
 ·
  refine go (S' := T0.setTop (mkF m 4 #[si p1, si p2, si p3] [])) (fun t k => XS.ifNo X0.here hx rfl (hb hby d1_1) rfl ((if0 _ _).trans (teq hc38).2) k) ?_
  obtain ⟨T39, h39, X39, e39, E39, A39, D39, -, st39⟩ := newO X0 hx hZ hown (ww hw 8 rfl) (ww hw 9 rfl) (ww hw 10 rfl) e0 (g := (mkF m 4 #[si p1, si p2, si p3] [])) rfl (hb hby d1_4) (by decide) (by decide)
  obtain ⟨b39, g39⟩ : ∃ z, z = h0.size := ⟨_, rfl⟩
  rw [← g39] at A39 D39 st39
  have ge_b39 : n0 ≤ b39 := by rw [g39]; exact (Nat.le_trans Z0 K0.1)
  have sz_b39 : h0.size ≤ b39 := by rw [g39]; exact K0.1
  have K40 : Keep h0 h39 [] := K0.ext E39
  have hkS := Nat.le_trans hkS E39.1
  have C41 := C0.trans (CHr.ext E39 C0.1)
  have sf42 := Safe.ext E39 C0.1 (Safe.new (Nat.le_of_eq g39.symm))
  refine go (S' := T39.setTop (mkF m 9 #[si p1, si p2, si p3] [(.int 0), (.ref b39), (.ref b39)])) (fun t k => st39 _ (XS.dup X39.here hx rfl (hb hby d1_7) rfl rfl (XS.iconst X39.here hx rfl (hb hby d1_8) k))) ?_
  obtain ⟨T43, h43, k43, X43, e43, E43, A43, st43⟩ := newP X39 hx hZ (ww hw 11 rfl) e39 (g := (mkF m 9 #[si p1, si p2, si p3] [(.int 0), (.ref b39), (.ref b39)])) rfl (hb hby d1_9) rfl (by decide) (cap := 0) (by decide) (by decide) (by decide) (by decide)
  obtain ⟨b43, g43⟩ : ∃ z, z = h39.size := ⟨_, rfl⟩
  rw [← g43] at A43 st43
  have lt_b39_b43 : b39 < b43 := by rw [g43]; exact A39.lt
  have ge_b43 : n0 ≤ b43 := by rw [g43]; exact (Nat.le_trans Z0 K40.1)
  have sz_b43 : h0.size ≤ b43 := by rw [g43]; exact K40.1
  have K44 : Keep h0 h43 [] := K40.ext E43
  have hkS := Nat.le_trans hkS E43.1
  have C45 := C41.trans (CHr.ext E43 C41.1)
  have sf46 := Safe.ext E43 C41.1 sf42
  have V43 : Arv Z h43 b43 k43 .char (0 : Int32) [] (.int 0) := (Arv.new A43 (by decide)).pad (pad_rep [] (.int 0) 0)
  refine go (S' := T43.setTop (mkF m 11 #[si p1, si p2, si p3] [(.ref b43), (.ref b39), (.ref b39)])) st43 ?_
  have f47 : Exa Z h43 b39 "java/lang/String" := (A39.ext E43)
  have f48 : Fld Z h43 b39 "java/lang/String" "value" "[B" .null := ((D39 (Or.inr (ww hw 37 rfl)) (ty := (.array .byte)) (by decide)).ext E43)
  have f49 : Fld Z h43 b39 "java/lang/String" "coder" "B" (.int 0) := ((D39 (Or.inr (ww hw 35 rfl)) (ty := .byte) (by decide)).ext E43)
  have O50 : Old Z n0 h43 := O0.keep K44 all0
  obtain ⟨v51, T51, L51, X51, hQ51, hS, hZ, hown, Cq51, st51⟩ := callSpW X43 hx hZ (y := y_1) rfl hown (ww hw 12 rfl) (ww hw 13 rfl) (ww hw 14 rfl) (by decide) (backW (W := 1) (rmE1 l Z a0 hw [] b39 b43 k43 [] (.int 0) h43 n0 (Nat.le_trans Z0 K44.1) f47 f48 f49 ge_b39 V43 O50) hZ (ww hw 14 rfl) (ww hw 10 rfl) (by decide) (by decide) (own_EW hw) C45.1 all0) (g := (mkF m 11 #[si p1, si p2, si p3] [(.ref b43), (.ref b39), (.ref b39)])) rfl (by rw [hml]; rfl) (a := b39) (kc := 4) (ks := 8) (argsL := [(.ref b43)]) (rest := [(.ref b39)]) (lenOf pd_1 rfl) rfl (mr0 rfl) (hb hby d1_11) e43 (by decide) (by decide) hS hkS
  obtain ⟨t_51, rfl, N51q, Kq51, q51_0⟩ := hQ51
  have N51 := Fr.app N0 N51q
  have hkS := Nat.le_refl T51.heap.size
  have C52 := C45.trans Cq51
  have sf53 := CHr.safe Cq51 f47.lt sf46
  have K54 : Keep h0 T51.heap [] := K44.trans Kq51 (allS (P := fun x => x ∈ [] ∨ h0.size ≤ x) (Or.inr sz_b39) all0)
  refine go (S' := T51.setTop (mkF m 14 #[si p1, si p2, si p3] [(.ref b39)])) st51 ?_
  refine finRW X51 hx hk hret rfl rfl hS hkS hZ (own_EW hw) C52 rfl (hb hby d1_14) (by decide) (by decide) ?_
  have hm : own_mk p1 p2 p3 = ([] : List Int32) := by rw [own_mk, if_pos hc38]
  exact ⟨b39, t_51, rfl, N51, K54, sz_b39, by rw [hm]; exact q51_0⟩
 ·
  refine go (S' := T0.setTop (mkF m 17 #[si p1, si p2, si p3] [(.int 1), (.int p1)])) (fun t k => XS.ifYes X0.here hx rfl (pc0 := 1) (pc' := 15) rfl (hb hby d1_1) rfl ((if0 _ _).trans (feq hc38).2) (by decide) (by decide) (XS.iloadN X0.here hx rfl (hb hby d1_15) rfl (XS.iconst X0.here hx rfl (hb hby d1_16) k))) ?_
  by_cases hc55 : p1 = (1 : Int32)
  ·
   refine go (S' := T0.setTop (mkF m 20 #[si p1, si p2, si p3] [])) (fun t k => XS.icmpNo X0.here hx rfl (hb hby d1_17) rfl (teq hc55).2 k) ?_
   obtain ⟨T56, h56, X56, e56, E56, A56, D56, -, st56⟩ := newO X0 hx hZ hown (ww hw 8 rfl) (ww hw 9 rfl) (ww hw 10 rfl) e0 (g := (mkF m 20 #[si p1, si p2, si p3] [])) rfl (hb hby d1_20) (by decide) (by decide)
   obtain ⟨b56, g56⟩ : ∃ z, z = h0.size := ⟨_, rfl⟩
   rw [← g56] at A56 D56 st56
   have ge_b56 : n0 ≤ b56 := by rw [g56]; exact (Nat.le_trans Z0 K0.1)
   have sz_b56 : h0.size ≤ b56 := by rw [g56]; exact K0.1
   have K57 : Keep h0 h56 [] := K0.ext E56
   have hkS := Nat.le_trans hkS E56.1
   have C58 := C0.trans (CHr.ext E56 C0.1)
   have sf59 := Safe.ext E56 C0.1 (Safe.new (Nat.le_of_eq g56.symm))
   refine go (S' := T56.setTop (mkF m 25 #[si p1, si p2, si p3] [(.int 1), (.ref b56), (.ref b56)])) (fun t k => st56 _ (XS.dup X56.here hx rfl (hb hby d1_23) rfl rfl (XS.iconst X56.here hx rfl (hb hby d1_24) k))) ?_
   obtain ⟨T60, h60, k60, X60, e60, E60, A60, st60⟩ := newP X56 hx hZ (ww hw 11 rfl) e56 (g := (mkF m 25 #[si p1, si p2, si p3] [(.int 1), (.ref b56), (.ref b56)])) rfl (hb hby d1_25) rfl (by decide) (cap := 1) (by decide) (by decide) (by decide) (by decide)
   obtain ⟨b60, g60⟩ : ∃ z, z = h56.size := ⟨_, rfl⟩
   rw [← g60] at A60 st60
   have lt_b56_b60 : b56 < b60 := by rw [g60]; exact A56.lt
   have ge_b60 : n0 ≤ b60 := by rw [g60]; exact (Nat.le_trans Z0 K57.1)
   have sz_b60 : h0.size ≤ b60 := by rw [g60]; exact K57.1
   have K61 : Keep h0 h60 [] := K57.ext E60
   have hkS := Nat.le_trans hkS E60.1
   have C62 := C58.trans (CHr.ext E60 C58.1)
   have sf63 := Safe.ext E60 C58.1 sf59
   have V60 : Arv Z h60 b60 k60 .char (1 : Int32) [(.int 0)] (.int 0) := (Arv.new A60 (by decide)).pad (pad_rep [] (.int 0) 1)
   refine go (S' := T60.setTop (mkF m 30 #[si p1, si p2, si p3] [(.int p2), (.int 0), (.ref b60), (.ref b60), (.ref b56), (.ref b56)])) (fun t k => st60 _ (XS.dup X60.here hx rfl (hb hby d1_27) rfl rfl (XS.iconst X60.here hx rfl (hb hby d1_28) (XS.iloadN X60.here hx rfl (hb hby d1_29) rfl k)))) ?_
   obtain ⟨T64, h64, X64, e64, W64, V64, st64⟩ := putC X60 hx hZ e60 V60 (j := (0 : Int32)) (x := p2) (own_lat16 h2) ⟨by decide, by decide⟩ (i := 0) rfl (Nat.le_of_ble_eq_true rfl) (g := (mkF m 30 #[si p1, si p2, si p3] [(.int p2), (.int 0), (.ref b60), (.ref b60), (.ref b56), (.ref b56)])) rfl rfl (hb hby d1_30)
   have K65 : Keep h0 h64 [] := K61.wr W64 (Or.inr sz_b60)
   have N66 := Fr.snoc X64 N0 ge_b60
   have hkS := Nat.le_trans hkS (Keep.of_wr W64).1
   have C67 := C62.trans (CHr.wr W64 (safeArv hZ.alike V60 (by decide)) C62.1)
   have sf68 := Safe.wr W64 (safeArv hZ.alike V60 (by decide)) C62.1 sf63
   refine go (S' := T64.setTop (mkF m 31 #[si p1, si p2, si p3] [(.ref b60), (.ref b56), (.ref b56)])) st64 ?_
   have f69 : Exa Z h64 b56 "java/lang/String" := ((A56.ext E60).wr W64)
   have f70 : Fld Z h64 b56 "java/lang/String" "value" "[B" .null := (Fld.other W64 ((D56 (Or.inr (ww hw 37 rfl)) (ty := (.array .byte)) (by decide)).ext E60) (Or.inl (Nat.ne_of_lt lt_b56_b60)))
   have f71 : Fld Z h64 b56 "java/lang/String" "coder" "B" (.int 0) := (Fld.other W64 ((D56 (Or.inr (ww hw 35 rfl)) (ty := .byte) (by decide)).ext E60) (Or.inl (Nat.ne_of_lt lt_b56_b60)))
   have hp72 : ∀ c ∈ ([p2] : List Int32), ¬ c < 0 ∧ ¬ (255 : Int32) < c := (allI h2 (fun _ q => nomatch q))
   have O73 : Old Z n0 h64 := O0.keep K65 all0
   obtain ⟨v74, T74, L74, X74, hQ74, st74⟩ := callSp X64 hx hZ (y := y_1) rfl hown (ww hw 12 rfl) (ww hw 13 rfl) (ww hw 14 rfl) (by decide) (StrChars.Road.backV (W := 1) hZ (own_sub StrChars_words hw) (kI := 4) (ww hw 9 rfl) (cs := ([p2] : List Int32)) (bs := ([p2] : List Int32).map (fun c => c.toInt8.toInt32)) (n := 1) ge_b56 (Nat.le_trans Z0 K65.1) f69 f70 f71 V64 (hp2.ext O73.2) hG1 rfl rfl (by decide) (by decide) hp72 rfl (by decide) (by decide)) (g := (mkF m 31 #[si p1, si p2, si p3] [(.ref b60), (.ref b56), (.ref b56)])) rfl (by rw [hml]; rfl) (a := b56) (kc := 1) (ks := 1) (argsL := [(.ref b60)]) (rest := [(.ref b56)]) (lenOf pd_1 rfl) rfl (mr0 rfl) (hb hby d1_31) e64 (by decide) (by decide)
   obtain ⟨rfl, N74q, Kq74, q74_e, q74_c, t74, kb74, ge_t74, new_t74, ne_t74_b56, q74_v, q74_a⟩ := hQ74
   have N74 := Fr.app N66 N74q
   have K75 : Keep h0 T74.heap [] := K65.trans Kq74 (allS (P := fun x => x ∈ [] ∨ h0.size ≤ x) (Or.inr sz_b56) all0)
   have hkS := Nat.le_trans hkS Kq74.1
   have C76 := C67.trans (CHr.keep Kq74 (allS sf68 all0) C67.1)
   have sf77 := Safe.keep Kq74 (allS sf68 all0) C67.1 sf68
   have lt_b56_t74 : b56 < t74 := Nat.lt_of_lt_of_le f69.lt new_t74
   have lt_b60_t74 : b60 < t74 := Nat.lt_of_lt_of_le V64.lt new_t74
   have sz_t74 : h0.size ≤ t74 := Nat.le_trans K65.1 new_t74
   refine go (S' := T74.setTop (mkF m 34 #[si p1, si p2, si p3] [(.ref b56)])) st74 ?_
   have f79 : Exa Z T74.heap b56 "java/lang/String" := (f69.keep Kq74)
   have str78 : Str Z T74.heap b56 t74 (0 : Int32) ([p2] : List Int32) := ⟨_, _, _, f79, q74_v, q74_c, q74_a, own_codOf rfl (fun c hc => (hp72 c hc).2), up16 _ hp72, Nat.le_of_ble_eq_true rfl⟩
   refine finRW X74 hx hk hret rfl rfl hS hkS hZ (own_EW hw) C76 rfl (hb hby d1_34) (by decide) (by decide) ?_
   have hm : own_mk p1 p2 p3 = ([p2] : List Int32) := by rw [own_mk, if_neg hc38, if_pos hc55]
   exact ⟨b56, t74, rfl, N74, K75, sz_b56, by rw [hm]; exact str78⟩
  ·
   refine go (S' := T0.setTop (mkF m 35 #[si p1, si p2, si p3] [])) (fun t k => XS.icmpYes X0.here hx rfl (pc0 := 17) (pc' := 35) rfl (hb hby d1_17) rfl (feq hc55).2 (by decide) (by decide) k) ?_
   obtain ⟨T80, h80, X80, e80, E80, A80, D80, -, st80⟩ := newO X0 hx hZ hown (ww hw 8 rfl) (ww hw 9 rfl) (ww hw 10 rfl) e0 (g := (mkF m 35 #[si p1, si p2, si p3] [])) rfl (hb hby d1_35) (by decide) (by decide)
   obtain ⟨b80, g80⟩ : ∃ z, z = h0.size := ⟨_, rfl⟩
   rw [← g80] at A80 D80 st80
   have ge_b80 : n0 ≤ b80 := by rw [g80]; exact (Nat.le_trans Z0 K0.1)
   have sz_b80 : h0.size ≤ b80 := by rw [g80]; exact K0.1
   have K81 : Keep h0 h80 [] := K0.ext E80
   have hkS := Nat.le_trans hkS E80.1
   have C82 := C0.trans (CHr.ext E80 C0.1)
   have sf83 := Safe.ext E80 C0.1 (Safe.new (Nat.le_of_eq g80.symm))
   refine go (S' := T80.setTop (mkF m 40 #[si p1, si p2, si p3] [(.int 2), (.ref b80), (.ref b80)])) (fun t k => st80 _ (XS.dup X80.here hx rfl (hb hby d1_38) rfl rfl (XS.iconst X80.here hx rfl (hb hby d1_39) k))) ?_
   obtain ⟨T84, h84, k84, X84, e84, E84, A84, st84⟩ := newP X80 hx hZ (ww hw 11 rfl) e80 (g := (mkF m 40 #[si p1, si p2, si p3] [(.int 2), (.ref b80), (.ref b80)])) rfl (hb hby d1_40) rfl (by decide) (cap := 2) (by decide) (by decide) (by decide) (by decide)
   obtain ⟨b84, g84⟩ : ∃ z, z = h80.size := ⟨_, rfl⟩
   rw [← g84] at A84 st84
   have lt_b80_b84 : b80 < b84 := by rw [g84]; exact A80.lt
   have ge_b84 : n0 ≤ b84 := by rw [g84]; exact (Nat.le_trans Z0 K81.1)
   have sz_b84 : h0.size ≤ b84 := by rw [g84]; exact K81.1
   have K85 : Keep h0 h84 [] := K81.ext E84
   have hkS := Nat.le_trans hkS E84.1
   have C86 := C82.trans (CHr.ext E84 C82.1)
   have sf87 := Safe.ext E84 C82.1 sf83
   have V84 : Arv Z h84 b84 k84 .char (2 : Int32) [(.int 0), (.int 0)] (.int 0) := (Arv.new A84 (by decide)).pad (pad_rep [] (.int 0) 2)
   refine go (S' := T84.setTop (mkF m 45 #[si p1, si p2, si p3] [(.int p2), (.int 0), (.ref b84), (.ref b84), (.ref b80), (.ref b80)])) (fun t k => st84 _ (XS.dup X84.here hx rfl (hb hby d1_42) rfl rfl (XS.iconst X84.here hx rfl (hb hby d1_43) (XS.iloadN X84.here hx rfl (hb hby d1_44) rfl k)))) ?_
   obtain ⟨T88, h88, X88, e88, W88, V88, st88⟩ := putC X84 hx hZ e84 V84 (j := (0 : Int32)) (x := p2) (own_lat16 h2) ⟨by decide, by decide⟩ (i := 0) rfl (Nat.le_of_ble_eq_true rfl) (g := (mkF m 45 #[si p1, si p2, si p3] [(.int p2), (.int 0), (.ref b84), (.ref b84), (.ref b80), (.ref b80)])) rfl rfl (hb hby d1_45)
   have K89 : Keep h0 h88 [] := K85.wr W88 (Or.inr sz_b84)
   have N90 := Fr.snoc X88 N0 ge_b84
   have hkS := Nat.le_trans hkS (Keep.of_wr W88).1
   have C91 := C86.trans (CHr.wr W88 (safeArv hZ.alike V84 (by decide)) C86.1)
   have sf92 := Safe.wr W88 (safeArv hZ.alike V84 (by decide)) C86.1 sf87
   refine go (S' := T88.setTop (mkF m 49 #[si p1, si p2, si p3] [(.int p3), (.int 1), (.ref b84), (.ref b84), (.ref b80), (.ref b80)])) (fun t k => st88 _ (XS.dup X88.here hx rfl (hb hby d1_46) rfl rfl (XS.iconst X88.here hx rfl (hb hby d1_47) (XS.iloadN X88.here hx rfl (hb hby d1_48) rfl k)))) ?_
   obtain ⟨T93, h93, X93, e93, W93, V93, st93⟩ := putC X88 hx hZ e88 V88 (j := (1 : Int32)) (x := p3) (own_lat16 h3) ⟨by decide, by decide⟩ (i := 1) rfl (Nat.le_of_ble_eq_true rfl) (g := (mkF m 49 #[si p1, si p2, si p3] [(.int p3), (.int 1), (.ref b84), (.ref b84), (.ref b80), (.ref b80)])) rfl rfl (hb hby d1_49)
   have K94 : Keep h0 h93 [] := K89.wr W93 (Or.inr sz_b84)
   have N95 := Fr.snoc X93 N90 ge_b84
   have hkS := Nat.le_trans hkS (Keep.of_wr W93).1
   have C96 := C91.trans (CHr.wr W93 (safeArv hZ.alike V88 (by decide)) C91.1)
   have sf97 := Safe.wr W93 (safeArv hZ.alike V88 (by decide)) C91.1 sf92
   refine go (S' := T93.setTop (mkF m 50 #[si p1, si p2, si p3] [(.ref b84), (.ref b80), (.ref b80)])) st93 ?_
   have f98 : Exa Z h93 b80 "java/lang/String" := (((A80.ext E84).wr W88).wr W93)
   have f99 : Fld Z h93 b80 "java/lang/String" "value" "[B" .null := (Fld.other W93 (Fld.other W88 ((D80 (Or.inr (ww hw 37 rfl)) (ty := (.array .byte)) (by decide)).ext E84) (Or.inl (Nat.ne_of_lt lt_b80_b84))) (Or.inl (Nat.ne_of_lt lt_b80_b84)))
   have f100 : Fld Z h93 b80 "java/lang/String" "coder" "B" (.int 0) := (Fld.other W93 (Fld.other W88 ((D80 (Or.inr (ww hw 35 rfl)) (ty := .byte) (by decide)).ext E84) (Or.inl (Nat.ne_of_lt lt_b80_b84))) (Or.inl (Nat.ne_of_lt lt_b80_b84)))
   have hp101 : ∀ c ∈ ([p2, p3] : List Int32), ¬ c < 0 ∧ ¬ (255 : Int32) < c := (allI h2 (allI h3 (fun _ q => nomatch q)))
   have O102 : Old Z n0 h93 := O0.keep K94 all0
   obtain ⟨v103, T103, L103, X103, hQ103, st103⟩ := callSp X93 hx hZ (y := y_1) rfl hown (ww hw 12 rfl) (ww hw 13 rfl) (ww hw 14 rfl) (by decide) (StrChars.Road.backV (W := 1) hZ (own_sub StrChars_words hw) (kI := 4) (ww hw 9 rfl) (cs := ([p2, p3] : List Int32)) (bs := ([p2, p3] : List Int32).map (fun c => c.toInt8.toInt32)) (n := 2) ge_b80 (Nat.le_trans Z0 K94.1) f98 f99 f100 V93 (hp2.ext O102.2) hG1 rfl rfl (by decide) (by decide) hp101 rfl (by decide) (by decide)) (g := (mkF m 50 #[si p1, si p2, si p3] [(.ref b84), (.ref b80), (.ref b80)])) rfl (by rw [hml]; rfl) (a := b80) (kc := 1) (ks := 2) (argsL := [(.ref b84)]) (rest := [(.ref b80)]) (lenOf pd_1 rfl) rfl (mr0 rfl) (hb hby d1_50) e93 (by decide) (by decide)
   obtain ⟨rfl, N103q, Kq103, q103_e, q103_c, t103, kb103, ge_t103, new_t103, ne_t103_b80, q103_v, q103_a⟩ := hQ103
   have N103 := Fr.app N95 N103q
   have K104 : Keep h0 T103.heap [] := K94.trans Kq103 (allS (P := fun x => x ∈ [] ∨ h0.size ≤ x) (Or.inr sz_b80) all0)
   have hkS := Nat.le_trans hkS Kq103.1
   have C105 := C96.trans (CHr.keep Kq103 (allS sf97 all0) C96.1)
   have sf106 := Safe.keep Kq103 (allS sf97 all0) C96.1 sf97
   have lt_b80_t103 : b80 < t103 := Nat.lt_of_lt_of_le f98.lt new_t103
   have lt_b84_t103 : b84 < t103 := Nat.lt_of_lt_of_le V93.lt new_t103
   have sz_t103 : h0.size ≤ t103 := Nat.le_trans K94.1 new_t103
   refine go (S' := T103.setTop (mkF m 53 #[si p1, si p2, si p3] [(.ref b80)])) st103 ?_
   have f108 : Exa Z T103.heap b80 "java/lang/String" := (f98.keep Kq103)
   have str107 : Str Z T103.heap b80 t103 (0 : Int32) ([p2, p3] : List Int32) := ⟨_, _, _, f108, q103_v, q103_c, q103_a, own_codOf rfl (fun c hc => (hp101 c hc).2), up16 _ hp101, Nat.le_of_ble_eq_true rfl⟩
   refine finRW X103 hx hk hret rfl rfl hS hkS hZ (own_EW hw) C105 rfl (hb hby d1_53) (by decide) (by decide) ?_
   have hm : own_mk p1 p2 p3 = ([p2, p3] : List Int32) := by rw [own_mk, if_neg hc38, if_neg hc55]
   exact ⟨b80, t103, rfl, N103, K104, sz_b80, by rw [hm]; exact str107⟩
theorem d8_0 : decode prog_83_method_1_code 0 = .ok (.aload_n 0, 1) := by decide +kernel
theorem d8_1 : decode prog_83_method_1_code 1 = .ok (.invokespecial 1, 3) := by decide +kernel
theorem d8_4 : decode prog_83_method_1_code 4 = .ok (.aload_n 0, 1) := by decide +kernel
theorem d8_5 : decode prog_83_method_1_code 5 = .ok (.aload_n 1, 1) := by decide +kernel
theorem d8_6 : decode prog_83_method_1_code 6 = .ok (.putfield 7, 3) := by decide +kernel
theorem d8_9 : decode prog_83_method_1_code 9 = .ok (.aload_n 0, 1) := by decide +kernel
theorem d8_10 : decode prog_83_method_1_code 10 = .ok (.aload_n 2, 1) := by decide +kernel
theorem d8_11 : decode prog_83_method_1_code 11 = .ok (.putfield 13, 3) := by decide +kernel
theorem d8_14 : decode prog_83_method_1_code 14 = .ok (.return_, 1) := by decide +kernel
abbrev y_3 : MethodName := ⟨"com/example/sallyport/sallyport/PolicyReference", "<init>", "(Lcom/example/sallyport/sallyport/PolicyKind;Ljava/lang/String;)V"⟩
theorem pn_3 : plainFor y_3 = true := by first | exact plainFor_of_name (by first | (simp [plainName, overriddenIn]; done) | decide +kernel) | decide +kernel
theorem ef_rmPi (m : MethodId) (a1 : Addr) (k1 : Addr) (x1 : Addr) : entryFrame m #[(.ref a1), (.ref k1), (.ref x1)] 3 = mkF m 0 #[sr a1, sr k1, sr x1] [] := by first | (simp [entryFrame, mkF, argsToLocals, Value.category]; done) | rfl
def Q_rmPi (Z : State) (a1 : Addr) (k1 : Addr) (x1 : Addr) (h0 : Heap) (n0 : Nat) (v : Option Value) (h : Heap) (L : List Loc) : Prop := v = none ∧ Fr n0 L ∧ Keep h0 h [a1] ∧ (Fld Z h a1 "com/example/sallyport/sallyport/PolicyReference" "kind" "Lcom/example/sallyport/sallyport/PolicyKind;" (.ref k1)) ∧ (Fld Z h a1 "com/example/sallyport/sallyport/PolicyReference" "id" "Ljava/lang/String;" (.ref x1))
set_option maxRecDepth 65536 in
set_option maxHeartbeats 40000000 in
theorem rmPi (l : Launch) (Z : State) (a0 : Array Value) (hw : ∀ d ∈ tables_1, d.before a0 Z = true) (ws : List Jvm.Cond) (a1 : Addr) (k1 : Addr) (x1 : Addr) (h0 : Heap) (n0 : Nat) (Z0 : n0 ≤ h0.size) (hp0 : Exa Z h0 a1 "com/example/sallyport/sallyport/PolicyReference") (hp1 : Fld Z h0 a1 "com/example/sallyport/sallyport/PolicyReference" "kind" "Lcom/example/sallyport/sallyport/PolicyKind;" .null) (hp2 : Fld Z h0 a1 "com/example/sallyport/sallyport/PolicyReference" "id" "Ljava/lang/String;" .null) (hp3 : n0 ≤ a1) :
    MetFree l y_3 (head1 (Jvm.Cond.code y_3 prog_83_method_1_code 3 none :: ws) ({ frames := 1, cells := 0, slots := 0, locals := 12 } : Room)) (fun a U => a = #[(.ref a1), (.ref k1), (.ref x1)] ∧ Z.Warmed39 U.vm ∧ U.heap = h0) (fun _ _ _ _ _ => True) (fun _ U o U' => ∃ v L, o = .returned v ∧ Q_rmPi Z a1 k1 x1 h0 n0 v U'.heap L ∧ FrameEnd U o U' L ({ frames := 1, cells := 0, slots := 0, locals := 12 } : Room).cells ({ frames := 1, cells := 0, slots := 0, locals := 12 } : Room).slots) := by
 refine bodyOf pn_3 (fun m => ef_rmPi m a1 k1 x1) ?_
 intro p e s m below meth c T0 X0 hx hby hml hown hnm hret hk hZ e0
 have N0 := Fr.nil n0
 have K0 : Keep h0 h0 [a1] := Keep.refl _ _
 refine go (S' := T0.setTop (mkF m 1 #[sr a1, sr k1, sr x1] [(.ref a1)])) (fun t k => XS.aloadN X0.here hx rfl (hb hby d8_0) rfl rfl k) ?_
 obtain ⟨T109, X109, e109, st109⟩ := initO X0 hx hZ hown (ww hw 44 rfl) (ww hw 20 rfl) (ww hw 21 rfl) e0 (g := (mkF m 1 #[sr a1, sr k1, sr x1] [(.ref a1)])) rfl (by rw [hml]; rfl) rfl (hb hby d8_1) (by decide) (W := 0) (mr0 rfl) (by decide)
 refine go (S' := T109.setTop (mkF m 6 #[sr a1, sr k1, sr x1] [(.ref k1), (.ref a1)])) (fun t k => st109 _ (XS.aloadN X109.here hx rfl (hb hby d8_4) rfl rfl (XS.aloadN X109.here hx rfl (hb hby d8_5) rfl rfl k))) ?_
 obtain ⟨T110, h110, X110, e110, W110, st110⟩ := putF X109 hx hZ hown (host := "") (Or.inl (ww hw 45 rfl)) Via.refl e109 hp1 hp0 (Or.inr ⟨(ww hw 46 rfl), rfl, hnm⟩) (ww hw 39 rfl) (ty := (.object "com/example/sallyport/sallyport/PolicyKind")) (by decide) rfl rfl (g := (mkF m 6 #[sr a1, sr k1, sr x1] [(.ref k1), (.ref a1)])) rfl rfl (hb hby d8_6)
 have K111 : Keep h0 h110 [a1] := K0.wr W110 (Or.inl (List.mem_of_getElem? (i := 0) rfl))
 have N112 := Fr.snoc X110 N0 hp3
 have f113 : Fld Z h110 a1 "com/example/sallyport/sallyport/PolicyReference" "kind" "Lcom/example/sallyport/sallyport/PolicyKind;" (.ref k1) := (Fld.same W110 hp1)
 refine go (S' := T110.setTop (mkF m 11 #[sr a1, sr k1, sr x1] [(.ref x1), (.ref a1)])) (fun t k => st110 _ (XS.aloadN X110.here hx rfl (hb hby d8_9) rfl rfl (XS.aloadN X110.here hx rfl (hb hby d8_10) rfl rfl k))) ?_
 have f114 : Fld Z h110 a1 "com/example/sallyport/sallyport/PolicyReference" "id" "Ljava/lang/String;" .null := (Fld.other W110 hp2 (Or.inr (slot_ne (Or.inr (ww hw 48 rfl)) (Or.inr (ww hw 46 rfl)) (by decide) (t := (.object "java/lang/String")) (t' := (.object "com/example/sallyport/sallyport/PolicyKind")) (by decide) (by decide))))
 obtain ⟨T115, h115, X115, e115, W115, st115⟩ := putF X110 hx hZ hown (host := "") (Or.inl (ww hw 47 rfl)) Via.refl e110 f114 (hp0.keep K111) (Or.inr ⟨(ww hw 48 rfl), rfl, hnm⟩) (ww hw 39 rfl) (ty := (.object "java/lang/String")) (by decide) rfl rfl (g := (mkF m 11 #[sr a1, sr k1, sr x1] [(.ref x1), (.ref a1)])) rfl rfl (hb hby d8_11)
 have K116 : Keep h0 h115 [a1] := K111.wr W115 (Or.inl (List.mem_of_getElem? (i := 0) rfl))
 have N117 := Fr.snoc X115 N112 hp3
 have f118 : Fld Z h115 a1 "com/example/sallyport/sallyport/PolicyReference" "id" "Ljava/lang/String;" (.ref x1) := (Fld.same W115 f114)
 refine go (S' := T115.setTop (mkF m 14 #[sr a1, sr k1, sr x1] [])) st115 ?_
 refine finV X115 hx hk hret (hb hby d8_14) (by decide) (by decide) ?_
 have f119 : Fld Z h115 a1 "com/example/sallyport/sallyport/PolicyReference" "kind" "Lcom/example/sallyport/sallyport/PolicyKind;" (.ref k1) := (Fld.other W115 f113 (Or.inr (slot_ne (Or.inr (ww hw 46 rfl)) (Or.inr (ww hw 48 rfl)) (by decide) (t := (.object "com/example/sallyport/sallyport/PolicyKind")) (t' := (.object "java/lang/String")) (by decide) (by decide))))
 rw [e115]
 exact ⟨rfl, N117, K116, f119, f118⟩
theorem d9_0 : decode method_4_code 0 = .ok (.iload_n 0, 1) := by decide +kernel
theorem d9_1 : decode method_4_code 1 = .ok (.iload_n 3, 1) := by decide +kernel
theorem d9_2 : decode method_4_code 2 = .ok (.if_icmp .eq 5, 3) := by decide +kernel
theorem d9_7 : decode method_4_code 7 = .ok (.iload_n 0, 1) := by decide +kernel
theorem d9_8 : decode method_4_code 8 = .ok (.iconst 1, 1) := by decide +kernel
theorem d9_9 : decode method_4_code 9 = .ok (.if_icmp .lt 11, 3) := by decide +kernel
theorem d9_20 : decode method_4_code 20 = .ok (.iload_n 0, 1) := by decide +kernel
theorem d9_21 : decode method_4_code 21 = .ok (.iconst 2, 1) := by decide +kernel
theorem d9_22 : decode method_4_code 22 = .ok (.if_icmp .lt 11, 3) := by decide +kernel
theorem d9_33 : decode method_4_code 33 = .ok (.iconst 1, 1) := by decide +kernel
theorem d9_34 : decode method_4_code 34 = .ok (.ireturn, 1) := by decide +kernel
theorem d9_25 : decode method_4_code 25 = .ok (.iload_n 2, 1) := by decide +kernel
theorem d9_26 : decode method_4_code 26 = .ok (.iload 5, 2) := by decide +kernel
theorem d9_28 : decode method_4_code 28 = .ok (.if_icmp .eq 5, 3) := by decide +kernel
theorem d9_31 : decode method_4_code 31 = .ok (.iconst 0, 1) := by decide +kernel
theorem d9_32 : decode method_4_code 32 = .ok (.ireturn, 1) := by decide +kernel
theorem d9_12 : decode method_4_code 12 = .ok (.iload_n 1, 1) := by decide +kernel
theorem d9_13 : decode method_4_code 13 = .ok (.iload 4, 2) := by decide +kernel
theorem d9_15 : decode method_4_code 15 = .ok (.if_icmp .eq 5, 3) := by decide +kernel
theorem d9_18 : decode method_4_code 18 = .ok (.iconst 0, 1) := by decide +kernel
theorem d9_19 : decode method_4_code 19 = .ok (.ireturn, 1) := by decide +kernel
theorem d9_5 : decode method_4_code 5 = .ok (.iconst 0, 1) := by decide +kernel
theorem d9_6 : decode method_4_code 6 = .ok (.ireturn, 1) := by decide +kernel
abbrev y_4 : MethodName := ⟨"com/example/sallyport/sallyport/PolicyReferenceEqualsPinLaw", "sameText", "(ICCICC)Z"⟩
theorem pn_4 : plainFor y_4 = true := by first | exact plainFor_of_name (by first | (simp [plainName, overriddenIn]; done) | decide +kernel) | decide +kernel
theorem ef_rmSs (m : MethodId) (p1 : Int32) (p2 : Int32) (p3 : Int32) (p4 : Int32) (p5 : Int32) (p6 : Int32) : entryFrame m #[(.int p1), (.int p2), (.int p3), (.int p4), (.int p5), (.int p6)] 6 = mkF m 0 #[si p1, si p2, si p3, si p4, si p5, si p6] [] := by first | (simp [entryFrame, mkF, argsToLocals, Value.category]; done) | rfl
def Q_rmSs (Z : State) (p1 : Int32) (p2 : Int32) (p3 : Int32) (p4 : Int32) (p5 : Int32) (p6 : Int32) (h0 : Heap) (n0 : Nat) (v : Option Value) (h : Heap) (L : List Loc) : Prop := v = some (.int (if (own_mk p1 p2 p3) = (own_mk p4 p5 p6) then (1 : Int32) else (0 : Int32))) ∧ Fr n0 L ∧ h = h0
set_option maxRecDepth 65536 in
set_option maxHeartbeats 40000000 in
theorem rmSs (l : Launch) (Z : State) (a0 : Array Value) (hw : ∀ d ∈ tables_1, d.before a0 Z = true) (ws : List Jvm.Cond) (p1 : Int32) (p2 : Int32) (p3 : Int32) (p4 : Int32) (p5 : Int32) (p6 : Int32) (h0 : Heap) (n0 : Nat) (Z0 : n0 ≤ h0.size) (h1 : p1 = 0 ∨ p1 = 1 ∨ p1 = 2) (h4 : p4 = 0 ∨ p4 = 1 ∨ p4 = 2) :
    MetFree l y_4 (head1 (Jvm.Cond.code y_4 method_4_code 6 (some .boolean) :: ws) ({ frames := 0, cells := 0, slots := 0, locals := 0 } : Room)) (fun a U => a = #[(.int p1), (.int p2), (.int p3), (.int p4), (.int p5), (.int p6)] ∧ Z.Warmed39 U.vm ∧ U.heap = h0) (fun _ _ _ _ _ => True) (fun _ U o U' => ∃ v L, o = .returned v ∧ Q_rmSs Z p1 p2 p3 p4 p5 p6 h0 n0 v U'.heap L ∧ FrameEnd U o U' L ({ frames := 0, cells := 0, slots := 0, locals := 0 } : Room).cells ({ frames := 0, cells := 0, slots := 0, locals := 0 } : Room).slots) := by
 refine bodyOf pn_4 (fun m => ef_rmSs m p1 p2 p3 p4 p5 p6) ?_
 intro p e s m below meth c T0 X0 hx hby hml hown hnm hret hk hZ e0
 have N0 := Fr.nil n0
 have K0 : Keep h0 h0 [] := Keep.refl _ _
 refine go (S' := T0.setTop (mkF m 2 #[si p1, si p2, si p3, si p4, si p5, si p6] [(.int p4), (.int p1)])) (fun t k => XS.iloadN X0.here hx rfl (hb hby d9_0) rfl (XS.iloadN X0.here hx rfl (hb hby d9_1) rfl k)) ?_
 by_cases hc120 : p1 = p4
 ·
  refine go (S' := T0.setTop (mkF m 9 #[si p1, si p2, si p3, si p4, si p5, si p6] [(.int 1), (.int p1)])) (fun t k => XS.icmpYes X0.here hx rfl (pc0 := 2) (pc' := 7) rfl (hb hby d9_2) rfl (teq hc120).1 (by decide) (by decide) (XS.iloadN X0.here hx rfl (hb hby d9_7) rfl (XS.iconst X0.here hx rfl (hb hby d9_8) k))) ?_
  by_cases hc121 : p1 < (1 : Int32)
  ·
   refine go (S' := T0.setTop (mkF m 22 #[si p1, si p2, si p3, si p4, si p5, si p6] [(.int 2), (.int p1)])) (fun t k => XS.icmpYes X0.here hx rfl (pc0 := 9) (pc' := 20) rfl (hb hby d9_9) rfl (tlt hc121).1 (by decide) (by decide) (XS.iloadN X0.here hx rfl (hb hby d9_20) rfl (XS.iconst X0.here hx rfl (hb hby d9_21) k))) ?_
   by_cases hc122 : p1 < (2 : Int32)
   ·
    refine go (S' := T0.setTop (mkF m 34 #[si p1, si p2, si p3, si p4, si p5, si p6] [(.int 1)])) (fun t k => XS.icmpYes X0.here hx rfl (pc0 := 22) (pc' := 33) rfl (hb hby d9_22) rfl (tlt hc122).1 (by decide) (by decide) (XS.iconst X0.here hx rfl (hb hby d9_33) k)) ?_
    refine finN X0 hx hk (t := .boolean) hret (by simp) (hb hby d9_34) (by decide) (by decide) ?_
    rw [e0]
    exact ⟨(by rcases h1 with rfl | rfl | rfl <;> rcases h4 with rfl | rfl | rfl <;> simp_all +decide [own_mk, nar]), N0, rfl⟩
   ·
    refine go (S' := T0.setTop (mkF m 28 #[si p1, si p2, si p3, si p4, si p5, si p6] [(.int p6), (.int p3)])) (fun t k => XS.icmpNo X0.here hx rfl (hb hby d9_22) rfl (flt hc122).1 (XS.iloadN X0.here hx rfl (hb hby d9_25) rfl (XS.iload X0.here hx rfl (hb hby d9_26) rfl k))) ?_
    by_cases hc123 : p3 = p6
    ·
     refine go (S' := T0.setTop (mkF m 34 #[si p1, si p2, si p3, si p4, si p5, si p6] [(.int 1)])) (fun t k => XS.icmpYes X0.here hx rfl (pc0 := 28) (pc' := 33) rfl (hb hby d9_28) rfl (teq hc123).1 (by decide) (by decide) (XS.iconst X0.here hx rfl (hb hby d9_33) k)) ?_
     refine finN X0 hx hk (t := .boolean) hret (by simp) (hb hby d9_34) (by decide) (by decide) ?_
     rw [e0]
     exact ⟨(by rcases h1 with rfl | rfl | rfl <;> rcases h4 with rfl | rfl | rfl <;> simp_all +decide [own_mk, nar]), N0, rfl⟩
    ·
     refine go (S' := T0.setTop (mkF m 32 #[si p1, si p2, si p3, si p4, si p5, si p6] [(.int 0)])) (fun t k => XS.icmpNo X0.here hx rfl (hb hby d9_28) rfl (feq hc123).1 (XS.iconst X0.here hx rfl (hb hby d9_31) k)) ?_
     refine finN X0 hx hk (t := .boolean) hret (by simp) (hb hby d9_32) (by decide) (by decide) ?_
     rw [e0]
     exact ⟨(by rcases h1 with rfl | rfl | rfl <;> rcases h4 with rfl | rfl | rfl <;> simp_all +decide [own_mk, nar]), N0, rfl⟩
  ·
   refine go (S' := T0.setTop (mkF m 15 #[si p1, si p2, si p3, si p4, si p5, si p6] [(.int p5), (.int p2)])) (fun t k => XS.icmpNo X0.here hx rfl (hb hby d9_9) rfl (flt hc121).1 (XS.iloadN X0.here hx rfl (hb hby d9_12) rfl (XS.iload X0.here hx rfl (hb hby d9_13) rfl k))) ?_
   by_cases hc124 : p2 = p5
   ·
    refine go (S' := T0.setTop (mkF m 22 #[si p1, si p2, si p3, si p4, si p5, si p6] [(.int 2), (.int p1)])) (fun t k => XS.icmpYes X0.here hx rfl (pc0 := 15) (pc' := 20) rfl (hb hby d9_15) rfl (teq hc124).1 (by decide) (by decide) (XS.iloadN X0.here hx rfl (hb hby d9_20) rfl (XS.iconst X0.here hx rfl (hb hby d9_21) k))) ?_
    by_cases hc125 : p1 < (2 : Int32)
    ·
     refine go (S' := T0.setTop (mkF m 34 #[si p1, si p2, si p3, si p4, si p5, si p6] [(.int 1)])) (fun t k => XS.icmpYes X0.here hx rfl (pc0 := 22) (pc' := 33) rfl (hb hby d9_22) rfl (tlt hc125).1 (by decide) (by decide) (XS.iconst X0.here hx rfl (hb hby d9_33) k)) ?_
     refine finN X0 hx hk (t := .boolean) hret (by simp) (hb hby d9_34) (by decide) (by decide) ?_
     rw [e0]
     exact ⟨(by rcases h1 with rfl | rfl | rfl <;> rcases h4 with rfl | rfl | rfl <;> simp_all +decide [own_mk, nar]), N0, rfl⟩
    ·
     refine go (S' := T0.setTop (mkF m 28 #[si p1, si p2, si p3, si p4, si p5, si p6] [(.int p6), (.int p3)])) (fun t k => XS.icmpNo X0.here hx rfl (hb hby d9_22) rfl (flt hc125).1 (XS.iloadN X0.here hx rfl (hb hby d9_25) rfl (XS.iload X0.here hx rfl (hb hby d9_26) rfl k))) ?_
     by_cases hc126 : p3 = p6
     ·
      refine go (S' := T0.setTop (mkF m 34 #[si p1, si p2, si p3, si p4, si p5, si p6] [(.int 1)])) (fun t k => XS.icmpYes X0.here hx rfl (pc0 := 28) (pc' := 33) rfl (hb hby d9_28) rfl (teq hc126).1 (by decide) (by decide) (XS.iconst X0.here hx rfl (hb hby d9_33) k)) ?_
      refine finN X0 hx hk (t := .boolean) hret (by simp) (hb hby d9_34) (by decide) (by decide) ?_
      rw [e0]
      exact ⟨(by rcases h1 with rfl | rfl | rfl <;> rcases h4 with rfl | rfl | rfl <;> simp_all +decide [own_mk, nar]), N0, rfl⟩
     ·
      refine go (S' := T0.setTop (mkF m 32 #[si p1, si p2, si p3, si p4, si p5, si p6] [(.int 0)])) (fun t k => XS.icmpNo X0.here hx rfl (hb hby d9_28) rfl (feq hc126).1 (XS.iconst X0.here hx rfl (hb hby d9_31) k)) ?_
      refine finN X0 hx hk (t := .boolean) hret (by simp) (hb hby d9_32) (by decide) (by decide) ?_
      rw [e0]
      exact ⟨(by rcases h1 with rfl | rfl | rfl <;> rcases h4 with rfl | rfl | rfl <;> simp_all +decide [own_mk, nar]), N0, rfl⟩
   ·
    refine go (S' := T0.setTop (mkF m 19 #[si p1, si p2, si p3, si p4, si p5, si p6] [(.int 0)])) (fun t k => XS.icmpNo X0.here hx rfl (hb hby d9_15) rfl (feq hc124).1 (XS.iconst X0.here hx rfl (hb hby d9_18) k)) ?_
    refine finN X0 hx hk (t := .boolean) hret (by simp) (hb hby d9_19) (by decide) (by decide) ?_
    rw [e0]
    exact ⟨(by rcases h1 with rfl | rfl | rfl <;> rcases h4 with rfl | rfl | rfl <;> simp_all +decide [own_mk, nar]), N0, rfl⟩
 ·
  refine go (S' := T0.setTop (mkF m 6 #[si p1, si p2, si p3, si p4, si p5, si p6] [(.int 0)])) (fun t k => XS.icmpNo X0.here hx rfl (hb hby d9_2) rfl (feq hc120).1 (XS.iconst X0.here hx rfl (hb hby d9_5) k)) ?_
  refine finN X0 hx hk (t := .boolean) hret (by simp) (hb hby d9_6) (by decide) (by decide) ?_
  rw [e0]
  exact ⟨(by rcases h1 with rfl | rfl | rfl <;> rcases h4 with rfl | rfl | rfl <;> simp_all +decide [own_mk, nar]), N0, rfl⟩
theorem d10_0 : decode prog_83_method_5_code 0 = .ok (.aload_n 1, 1) := by decide +kernel
theorem d10_1 : decode prog_83_method_5_code 1 = .ok (.instanceof 8, 3) := by decide +kernel
theorem d10_4 : decode prog_83_method_5_code 4 = .ok (.ifCond .eq 38, 3) := by decide +kernel
theorem d10_7 : decode prog_83_method_5_code 7 = .ok (.aload_n 0, 1) := by decide +kernel
theorem d10_8 : decode prog_83_method_5_code 8 = .ok (.getfield 7, 3) := by decide +kernel
theorem d10_11 : decode prog_83_method_5_code 11 = .ok (.aload_n 1, 1) := by decide +kernel
theorem d10_12 : decode prog_83_method_5_code 12 = .ok (.checkcast 8, 3) := by decide +kernel
theorem d10_15 : decode prog_83_method_5_code 15 = .ok (.getfield 7, 3) := by decide +kernel
theorem d10_18 : decode prog_83_method_5_code 18 = .ok (.if_acmp .ne 24, 3) := by decide +kernel
theorem d10_21 : decode prog_83_method_5_code 21 = .ok (.aload_n 0, 1) := by decide +kernel
theorem d10_22 : decode prog_83_method_5_code 22 = .ok (.getfield 13, 3) := by decide +kernel
theorem d10_25 : decode prog_83_method_5_code 25 = .ok (.aload_n 1, 1) := by decide +kernel
theorem d10_26 : decode prog_83_method_5_code 26 = .ok (.checkcast 8, 3) := by decide +kernel
theorem d10_29 : decode prog_83_method_5_code 29 = .ok (.getfield 13, 3) := by decide +kernel
theorem d10_32 : decode prog_83_method_5_code 32 = .ok (.invokevirtual 58, 3) := by decide +kernel
theorem pd_2 : parseMethodDescriptor "(Ljava/lang/Object;)Z" = some ⟨[(.object "java/lang/Object")], some .boolean⟩ := by decide +kernel
abbrev y_5 : MethodName := ⟨"java/lang/String", "equals", "(Ljava/lang/Object;)Z"⟩
theorem d10_35 : decode prog_83_method_5_code 35 = .ok (.ifCond .eq 7, 3) := by decide +kernel
theorem d10_42 : decode prog_83_method_5_code 42 = .ok (.iconst 0, 1) := by decide +kernel
theorem d10_43 : decode prog_83_method_5_code 43 = .ok (.ireturn, 1) := by decide +kernel
theorem d10_38 : decode prog_83_method_5_code 38 = .ok (.iconst 1, 1) := by decide +kernel
theorem d10_39 : decode prog_83_method_5_code 39 = .ok (.goto 4, 3) := by decide +kernel
abbrev y_6 : MethodName := ⟨"com/example/sallyport/sallyport/PolicyReference", "equals", "(Ljava/lang/Object;)Z"⟩
theorem pn_5 : plainFor y_6 = true := by first | exact plainFor_of_name (by first | (simp [plainName, overriddenIn]; done) | decide +kernel) | decide +kernel
theorem ef_rmEq (m : MethodId) (a1 : Addr) (a2 : Addr) : entryFrame m #[(.ref a1), (.ref a2)] 2 = mkF m 0 #[sr a1, sr a2] [] := by first | (simp [entryFrame, mkF, argsToLocals, Value.category]; done) | rfl
def Q_rmEq (Z : State) (a1 : Addr) (a2 : Addr) (k1 : Addr) (x1 : Addr) (k2 : Addr) (x2 : Addr) (t1 : Addr) (t2 : Addr) (cs : List Int32) (ds : List Int32) (G1 : Int32) (h0 : Heap) (n0 : Nat) (v : Option Value) (h : Heap) (L : List Loc) : Prop := v = some (.int (if k1 = k2 then (if cs = ds then (1 : Int32) else (0 : Int32)) else (0 : Int32))) ∧ Fr n0 L ∧ h = h0
set_option maxRecDepth 65536 in
set_option maxHeartbeats 40000000 in
theorem rmEq (l : Launch) (Z : State) (a0 : Array Value) (hw : ∀ d ∈ tables_1, d.before a0 Z = true) (ws : List Jvm.Cond) (a1 : Addr) (a2 : Addr) (k1 : Addr) (x1 : Addr) (k2 : Addr) (x2 : Addr) (t1 : Addr) (t2 : Addr) (cs : List Int32) (ds : List Int32) (G1 : Int32) (h0 : Heap) (n0 : Nat) (Z0 : n0 ≤ h0.size) (hp0 : Exa Z h0 a2 "com/example/sallyport/sallyport/PolicyReference") (hp1 : Fld Z h0 a1 "com/example/sallyport/sallyport/PolicyReference" "kind" "Lcom/example/sallyport/sallyport/PolicyKind;" (.ref k1)) (hp2 : Fld Z h0 a1 "com/example/sallyport/sallyport/PolicyReference" "id" "Ljava/lang/String;" (.ref x1)) (hp3 : Fld Z h0 a2 "com/example/sallyport/sallyport/PolicyReference" "kind" "Lcom/example/sallyport/sallyport/PolicyKind;" (.ref k2)) (hp4 : Fld Z h0 a2 "com/example/sallyport/sallyport/PolicyReference" "id" "Ljava/lang/String;" (.ref x2)) (hp5 : Str Z h0 x1 t1 (0 : Int32) cs) (hp6 : Str Z h0 x2 t2 (0 : Int32) ds) (hp7 : Sta Z Z.heap "java/lang/String" "COMPACT_STRINGS" "Z" (.int G1)) (hG1 : ¬ (G1 = (0 : Int32))) (hp9 : Old Z n0 h0) :
    MetFree l y_6 (head1 (Jvm.Cond.code y_6 prog_83_method_5_code 2 (some .boolean) :: ws) ({ frames := 2, cells := 0, slots := 0, locals := 28 } : Room)) (fun a U => a = #[(.ref a1), (.ref a2)] ∧ Z.Warmed39 U.vm ∧ U.heap = h0) (fun _ _ _ _ _ => True) (fun _ U o U' => ∃ v L, o = .returned v ∧ Q_rmEq Z a1 a2 k1 x1 k2 x2 t1 t2 cs ds G1 h0 n0 v U'.heap L ∧ FrameEnd U o U' L ({ frames := 2, cells := 0, slots := 0, locals := 28 } : Room).cells ({ frames := 2, cells := 0, slots := 0, locals := 28 } : Room).slots) := by
 refine bodyOf pn_5 (fun m => ef_rmEq m a1 a2) ?_
 intro p e s m below meth c T0 X0 hx hby hml hown hnm hret hk hZ e0
 have N0 := Fr.nil n0
 have K0 : Keep h0 h0 [] := Keep.refl _ _
 have O0 := hp9
 refine go (S' := T0.setTop (mkF m 1 #[sr a1, sr a2] [(.ref a2)])) (fun t k => XS.aloadN X0.here hx rfl (hb hby d10_0) rfl rfl k) ?_
 obtain ⟨T127, X127, e127, st127⟩ := instY X0 hx hZ hown (ww hw 57 rfl) e0 (Ins.self hp0) (g := (mkF m 1 #[sr a1, sr a2] [(.ref a2)])) rfl rfl (hb hby d10_1)
 refine go (S' := T127.setTop (mkF m 4 #[sr a1, sr a2] [(.int 1)])) st127 ?_
 have hc128 : ¬ ((1 : Int32) = (0 : Int32)) := by decide
 refine go (S' := T127.setTop (mkF m 8 #[sr a1, sr a2] [(.ref a1)])) (fun t k => XS.ifNo X127.here hx rfl (hb hby d10_4) rfl ((if0 _ _).trans (feq hc128).1) (XS.aloadN X127.here hx rfl (hb hby d10_7) rfl rfl k)) ?_
 obtain ⟨T129, X129, e129, st129⟩ := getF X127 hx hZ hown (host := "") (Or.inl (ww hw 45 rfl)) Via.refl e127 hp1 (g := (mkF m 8 #[sr a1, sr a2] [(.ref a1)])) rfl rfl (hb hby d10_8)
 refine go (S' := T129.setTop (mkF m 12 #[sr a1, sr a2] [(.ref a2), (.ref k1)])) (fun t k => st129 _ (XS.aloadN X129.here hx rfl (hb hby d10_11) rfl rfl k)) ?_
 obtain ⟨T130, X130, e130, st130⟩ := castY X129 hx hZ hown (ww hw 57 rfl) e129 (Ins.self hp0) (g := (mkF m 12 #[sr a1, sr a2] [(.ref a2), (.ref k1)])) rfl rfl (hb hby d10_12)
 refine go (S' := T130.setTop (mkF m 15 #[sr a1, sr a2] [(.ref a2), (.ref k1)])) st130 ?_
 obtain ⟨T131, X131, e131, st131⟩ := getF X130 hx hZ hown (host := "") (Or.inl (ww hw 45 rfl)) Via.refl e130 hp3 (g := (mkF m 15 #[sr a1, sr a2] [(.ref a2), (.ref k1)])) rfl rfl (hb hby d10_15)
 refine go (S' := T131.setTop (mkF m 18 #[sr a1, sr a2] [(.ref k2), (.ref k1)])) st131 ?_
 by_cases hc132 : k1 = k2
 ·
  refine go (S' := T131.setTop (mkF m 22 #[sr a1, sr a2] [(.ref a1)])) (fun t k => Jvm.RoadKit.acmp (g := (mkF m 18 #[sr a1, sr a2] [(.ref k2), (.ref k1)])) X131 hx rfl rfl rfl (pc0 := 18) (pc' := 21) (same := true) rfl (hb hby d10_18) rfl (decide_eq_true (congrArg Value.ref hc132)) (by decide) (by decide) (XS.aloadN X131.here hx rfl (hb hby d10_21) rfl rfl k)) ?_
  obtain ⟨T133, X133, e133, st133⟩ := getF X131 hx hZ hown (host := "") (Or.inl (ww hw 47 rfl)) Via.refl e131 hp2 (g := (mkF m 22 #[sr a1, sr a2] [(.ref a1)])) rfl rfl (hb hby d10_22)
  refine go (S' := T133.setTop (mkF m 26 #[sr a1, sr a2] [(.ref a2), (.ref x1)])) (fun t k => st133 _ (XS.aloadN X133.here hx rfl (hb hby d10_25) rfl rfl k)) ?_
  obtain ⟨T134, X134, e134, st134⟩ := castY X133 hx hZ hown (ww hw 57 rfl) e133 (Ins.self hp0) (g := (mkF m 26 #[sr a1, sr a2] [(.ref a2), (.ref x1)])) rfl rfl (hb hby d10_26)
  refine go (S' := T134.setTop (mkF m 29 #[sr a1, sr a2] [(.ref a2), (.ref x1)])) st134 ?_
  obtain ⟨T135, X135, e135, st135⟩ := getF X134 hx hZ hown (host := "") (Or.inl (ww hw 47 rfl)) Via.refl e134 hp4 (g := (mkF m 29 #[sr a1, sr a2] [(.ref a2), (.ref x1)])) rfl rfl (hb hby d10_29)
  refine go (S' := T135.setTop (mkF m 32 #[sr a1, sr a2] [(.ref x2), (.ref x1)])) st135 ?_
  have O136 : Old Z n0 h0 := O0.keep K0 all0
  obtain ⟨kb137, N2137, vs137, qE137, qV137, qC137, qA137, qcd137, qbd137, ql137⟩ := id hp5
  obtain ⟨kb138, N2138, vs138, qE138, qV138, qC138, qA138, qcd138, qbd138, ql138⟩ := id hp6
  obtain ⟨v139, T139, L139, X139, hQ139, st139⟩ := callV X135 hx hZ (y := y_5) (z := y_5) hown (ww hw 59 rfl) (ww hw 60 rfl) (notFace_of_selects (args := #[]) (mvT hZ (ww hw 62 rfl))) (ww hw 62 rfl) (ww hw 61 rfl) (by decide) (StrChars.Road.eqW (W := 0) hZ (own_sub StrChars_wordsEq hw) (kI := 4) (ww hw 9 rfl) qE137 qV137 qC137 qA137 qcd137 qbd137 ql137 qE138 qV138 qC138 qA138 qcd138 qbd138 ql138 (hp7.ext O136.2) hG1 (by decide) (by decide)) hp5.exa (g := (mkF m 32 #[sr a1, sr a2] [(.ref x2), (.ref x1)])) rfl (by rw [hml]; rfl) (Q := (fun v h' L => ((v = some (.int 1) ∧ cs = ds) ∨ (v = some (.int 0) ∧ ¬ cs = ds)) ∧ L = [] ∧ h' = h0)) (kc := 0) (ks := 0) (argsL := [(.ref x2)]) (rest := []) (lenOf pd_2 rfl) rfl (mr0 rfl) (hb hby d10_32) e135 (by decide) (by decide)
  obtain ⟨hv139, rfl, e139⟩ := hQ139
  have hw139 : v139 = some (.int (if cs = ds then (1 : Int32) else (0 : Int32))) := by rcases hv139 with ⟨a, b⟩ | ⟨a, b⟩; rw [a, if_pos b]; rw [a, if_neg b]
  subst hw139
  have N139 := Fr.app N0 (Fr.nil n0)
  refine go (S' := T139.setTop (mkF m 35 #[sr a1, sr a2] [(.int (if cs = ds then (1 : Int32) else (0 : Int32)))])) st139 ?_
  by_cases hc140 : (if cs = ds then (1 : Int32) else (0 : Int32)) = (0 : Int32)
  ·
   refine go (S' := T139.setTop (mkF m 43 #[sr a1, sr a2] [(.int 0)])) (fun t k => XS.ifYes X139.here hx rfl (pc0 := 35) (pc' := 42) rfl (hb hby d10_35) rfl ((if0 _ _).trans (teq hc140).1) (by decide) (by decide) (XS.iconst X139.here hx rfl (hb hby d10_42) k)) ?_
   refine finN X139 hx hk (t := .boolean) hret (by simp) (hb hby d10_43) (by decide) (by decide) ?_
   rw [e139]
   exact ⟨(by rw [if_pos hc132]; by_cases z : cs = ds; rw [if_pos z] at hc140 ⊢; (first | rfl | exact absurd hc140 (by decide)); rw [if_neg z] at hc140 ⊢; first | rfl | exact absurd rfl hc140), N139, rfl⟩
  ·
   refine go (S' := T139.setTop (mkF m 43 #[sr a1, sr a2] [(.int 1)])) (fun t k => XS.ifNo X139.here hx rfl (hb hby d10_35) rfl ((if0 _ _).trans (feq hc140).1) (XS.iconst X139.here hx rfl (hb hby d10_38) (XS.goto X139.here hx rfl (pc0 := 39) (pc' := 43) rfl (hb hby d10_39) (by decide) (by decide) k))) ?_
   refine finN X139 hx hk (t := .boolean) hret (by simp) (hb hby d10_43) (by decide) (by decide) ?_
   rw [e139]
   exact ⟨(by rw [if_pos hc132]; by_cases z : cs = ds; rw [if_pos z] at hc140 ⊢; (first | rfl | exact absurd hc140 (by decide)); rw [if_neg z] at hc140 ⊢; first | rfl | exact absurd rfl hc140), N139, rfl⟩
 ·
  refine go (S' := T131.setTop (mkF m 43 #[sr a1, sr a2] [(.int 0)])) (fun t k => Jvm.RoadKit.acmp (g := (mkF m 18 #[sr a1, sr a2] [(.ref k2), (.ref k1)])) X131 hx rfl rfl rfl (pc0 := 18) (pc' := 42) (same := false) rfl (hb hby d10_18) rfl (decide_eq_false fun q => hc132 (Value.ref.inj q)) (by decide) (by decide) (XS.iconst X131.here hx rfl (hb hby d10_42) k)) ?_
  refine finN X131 hx hk (t := .boolean) hret (by simp) (hb hby d10_43) (by decide) (by decide) ?_
  rw [e131]
  exact ⟨(by rw [if_neg hc132]; rfl), N0, rfl⟩
theorem ef_rmEn (m : MethodId) (a1 : Addr) : entryFrame m #[(.ref a1), .null] 2 = mkF m 0 #[sr a1, .val .null] [] := by first | (simp [entryFrame, mkF, argsToLocals, Value.category]; done) | rfl
def Q_rmEn (Z : State) (a1 : Addr) (h0 : Heap) (n0 : Nat) (v : Option Value) (h : Heap) (L : List Loc) : Prop := v = some (.int 0) ∧ Fr n0 L ∧ h = h0
set_option maxRecDepth 65536 in
set_option maxHeartbeats 40000000 in
theorem rmEn (l : Launch) (Z : State) (a0 : Array Value) (hw : ∀ d ∈ tables_1, d.before a0 Z = true) (ws : List Jvm.Cond) (a1 : Addr) (h0 : Heap) (n0 : Nat) (Z0 : n0 ≤ h0.size)  :
    MetFree l y_6 (head1 (Jvm.Cond.code y_6 prog_83_method_5_code 2 (some .boolean) :: ws) ({ frames := 0, cells := 0, slots := 0, locals := 0 } : Room)) (fun a U => a = #[(.ref a1), .null] ∧ Z.Warmed39 U.vm ∧ U.heap = h0) (fun _ _ _ _ _ => True) (fun _ U o U' => ∃ v L, o = .returned v ∧ Q_rmEn Z a1 h0 n0 v U'.heap L ∧ FrameEnd U o U' L ({ frames := 0, cells := 0, slots := 0, locals := 0 } : Room).cells ({ frames := 0, cells := 0, slots := 0, locals := 0 } : Room).slots) := by
 refine bodyOf pn_5 (fun m => ef_rmEn m a1) ?_
 intro p e s m below meth c T0 X0 hx hby hml hown hnm hret hk hZ e0
 have N0 := Fr.nil n0
 have K0 : Keep h0 h0 [] := Keep.refl _ _
 refine go (S' := T0.setTop (mkF m 4 #[sr a1, .val .null] [(.int 0)])) (fun t k => XS.aloadN X0.here hx rfl (hb hby d10_0) rfl rfl (X0.instanceofNull hx (g := (mkF m 1 #[sr a1, .val .null] [.null])) rfl rfl (hb hby d10_1) _ k)) ?_
 have hc141 : (0 : Int32) = (0 : Int32) := by decide
 refine go (S' := T0.setTop (mkF m 43 #[sr a1, .val .null] [(.int 0)])) (fun t k => XS.ifYes X0.here hx rfl (pc0 := 4) (pc' := 42) rfl (hb hby d10_4) rfl ((if0 _ _).trans (teq hc141).1) (by decide) (by decide) (XS.iconst X0.here hx rfl (hb hby d10_42) k)) ?_
 refine finN X0 hx hk (t := .boolean) hret (by simp) (hb hby d10_43) (by decide) (by decide) ?_
 rw [e0]
 exact ⟨rfl, N0, rfl⟩
theorem ef_rmEs (m : MethodId) (a1 : Addr) (a2 : Addr) : entryFrame m #[(.ref a1), (.ref a2)] 2 = mkF m 0 #[sr a1, sr a2] [] := by first | (simp [entryFrame, mkF, argsToLocals, Value.category]; done) | rfl
def Q_rmEs (Z : State) (a1 : Addr) (a2 : Addr) (h0 : Heap) (n0 : Nat) (v : Option Value) (h : Heap) (L : List Loc) : Prop := v = some (.int 0) ∧ Fr n0 L ∧ h = h0
set_option maxRecDepth 65536 in
set_option maxHeartbeats 40000000 in
theorem rmEs (l : Launch) (Z : State) (a0 : Array Value) (hw : ∀ d ∈ tables_1, d.before a0 Z = true) (ws : List Jvm.Cond) (a1 : Addr) (a2 : Addr) (h0 : Heap) (n0 : Nat) (Z0 : n0 ≤ h0.size) (hp0 : Exa Z h0 a2 "java/lang/String") :
    MetFree l y_6 (head1 (Jvm.Cond.code y_6 prog_83_method_5_code 2 (some .boolean) :: ws) ({ frames := 0, cells := 0, slots := 0, locals := 0 } : Room)) (fun a U => a = #[(.ref a1), (.ref a2)] ∧ Z.Warmed39 U.vm ∧ U.heap = h0) (fun _ _ _ _ _ => True) (fun _ U o U' => ∃ v L, o = .returned v ∧ Q_rmEs Z a1 a2 h0 n0 v U'.heap L ∧ FrameEnd U o U' L ({ frames := 0, cells := 0, slots := 0, locals := 0 } : Room).cells ({ frames := 0, cells := 0, slots := 0, locals := 0 } : Room).slots) := by
 refine bodyOf pn_5 (fun m => ef_rmEs m a1 a2) ?_
 intro p e s m below meth c T0 X0 hx hby hml hown hnm hret hk hZ e0
 have N0 := Fr.nil n0
 have K0 : Keep h0 h0 [] := Keep.refl _ _
 refine go (S' := T0.setTop (mkF m 1 #[sr a1, sr a2] [(.ref a2)])) (fun t k => XS.aloadN X0.here hx rfl (hb hby d10_0) rfl rfl k) ?_
 obtain ⟨T142, X142, e142, st142⟩ := instNo X0 hx hZ hown (ww hw 57 rfl) e0 hp0 (nsNo (ww hw 74 rfl) (ww hw 39 rfl) (NS.step (ww hw 74 rfl) (nsRoot (ww hw 75 rfl) (ww hw 39 rfl) (by decide)) (by decide)) (by decide)) (g := (mkF m 1 #[sr a1, sr a2] [(.ref a2)])) rfl rfl (hb hby d10_1)
 refine go (S' := T142.setTop (mkF m 4 #[sr a1, sr a2] [(.int 0)])) st142 ?_
 have hc143 : (0 : Int32) = (0 : Int32) := by decide
 refine go (S' := T142.setTop (mkF m 43 #[sr a1, sr a2] [(.int 0)])) (fun t k => XS.ifYes X142.here hx rfl (pc0 := 4) (pc' := 42) rfl (hb hby d10_4) rfl ((if0 _ _).trans (teq hc143).1) (by decide) (by decide) (XS.iconst X142.here hx rfl (hb hby d10_42) k)) ?_
 refine finN X142 hx hk (t := .boolean) hret (by simp) (hb hby d10_43) (by decide) (by decide) ?_
 rw [e142]
 exact ⟨rfl, N0, rfl⟩
theorem pd_3 : parseMethodDescriptor "(ICC)Ljava/lang/String;" = some ⟨[.int, .char, .char], some (.object "java/lang/String")⟩ := by decide +kernel
theorem pd_4 : parseMethodDescriptor "(Lcom/example/sallyport/sallyport/PolicyKind;Ljava/lang/String;)V" = some ⟨[(.object "com/example/sallyport/sallyport/PolicyKind"), (.object "java/lang/String")], none⟩ := by decide +kernel
theorem pd_5 : parseMethodDescriptor "(ICCICC)Z" = some ⟨[.int, .char, .char, .int, .char, .char], some .boolean⟩ := by decide +kernel
abbrev y_7 : MethodName := ⟨"com/example/sallyport/sallyport/PolicyReferenceEqualsPinLaw", "law", "(IIIIII)Z"⟩
theorem pn_6 : plainFor y_7 = true := by first | exact plainFor_of_name (by first | (simp [plainName, overriddenIn]; done) | decide +kernel) | decide +kernel
theorem ef_rmLaw (m : MethodId) (p1 : Int32) (p2 : Int32) (p3 : Int32) (p4 : Int32) (p5 : Int32) (p6 : Int32) : entryFrame m #[(.int p1), (.int p2), (.int p3), (.int p4), (.int p5), (.int p6)] maxLocals = mkF m 0 #[si p1, si p2, si p3, si p4, si p5, si p6, .unset, .unset, .unset, .unset, .unset, .unset, .unset, .unset, .unset, .unset, .unset, .unset, .unset, .unset] [] := by first | (simp [entryFrame, mkF, argsToLocals, Value.category, maxLocals]; done) | rfl
def Q_rmLaw (Z : State) (p1 : Int32) (p2 : Int32) (p3 : Int32) (p4 : Int32) (p5 : Int32) (p6 : Int32) (G1 : Int32) (pa : Addr) (pb : Addr) (h0 : Heap) (n0 : Nat) (v : Option Value) (h : Heap) (L : List Loc) : Prop := v = some (.int 1) ∧ Fr n0 L ∧ Keep h0 h []
set_option maxRecDepth 65536 in
set_option maxHeartbeats 40000000 in
theorem rmLaw (l : Launch) (Z : State) (a0 : Array Value) (hw : ∀ d ∈ tables_1, d.before a0 Z = true) (ws : List Jvm.Cond) (p1 : Int32) (p2 : Int32) (p3 : Int32) (p4 : Int32) (p5 : Int32) (p6 : Int32) (G1 : Int32) (pa : Addr) (pb : Addr) (h0 : Heap) (n0 : Nat) (Z0 : n0 ≤ h0.size) (hp0 : Sta Z Z.heap "java/lang/String" "COMPACT_STRINGS" "Z" (.int G1)) (hG1 : ¬ (G1 = (0 : Int32))) (hp2 : Sta Z Z.heap "com/example/sallyport/sallyport/PolicyKind" "POLICY" "Lcom/example/sallyport/sallyport/PolicyKind;" (.ref pa)) (hp3 : Sta Z Z.heap "com/example/sallyport/sallyport/PolicyKind" "POLICY_SET" "Lcom/example/sallyport/sallyport/PolicyKind;" (.ref pb)) (hp4 : Old Z n0 h0) :
    MetFree l x (head1 (Jvm.Cond.code x code maxLocals ret :: ws) room_1) (fun a U => a = #[(.int p1), (.int p2), (.int p3), (.int p4), (.int p5), (.int p6)] ∧ Z.Warmed39 U.vm ∧ U.heap = h0 ∧ CHv Z consts_1 U.vm h0 ∧ ∀ x ∈ ([] : List Addr), Safe Z consts_1 U.vm h0 x) (fun _ _ _ _ _ => True) (fun _ U o U' => ∃ v L, o = .returned v ∧ Q_rmLaw Z p1 p2 p3 p4 p5 p6 G1 pa pb h0 n0 v U'.heap L ∧ CHr Z consts_1 U.vm U.heap U'.vm U'.heap ∧ ReturnedEndW U o U' L room_1.cells room_1.slots) := by
 refine bodyOfW pn_6 (fun m => ef_rmLaw m p1 p2 p3 p4 p5 p6) ?_
 intro p e s m below meth c T0 X0 hx hby hml hown hnm hret hk hZ e0 hS C0 hsf
 have hkS := Nat.le_refl h0.size
 have N0 := Fr.nil n0
 have K0 : Keep h0 h0 [] := Keep.refl _ _
 have O0 := hp4
 refine go (S' := T0.setTop (mkF m 3 #[si p1, si p2, si p3, si p4, si p5, si p6, .unset, .unset, .unset, .unset, .unset, .unset, .unset, .unset, .unset, .unset, .unset, .unset, .unset, .unset] [(.int (p1 &&& (1 : Int32)))])) (fun t k => XS.iloadN X0.here hx rfl (hb hby at_0) rfl (XS.iconst X0.here hx rfl (hb hby at_1) (XS.iand X0.here hx rfl (hb hby at_2) rfl k))) ?_
 obtain ⟨T144, ⟨ls144, X144, N144, e144⟩, st144⟩ : Reach p.tables e below (mkF m 15 #[si p1, si p2, si p3, si p4, si p5, si p6, .unset, .unset, .unset, .unset, .unset, .unset, .unset, .unset, .unset, .unset, .unset, .unset, .unset, .unset] [(.ref (if (p1 &&& (1 : Int32)) = (0 : Int32) then pa else pb))]) (Same X0 n0 h0) (T0.setTop (mkF m 3 #[si p1, si p2, si p3, si p4, si p5, si p6, .unset, .unset, .unset, .unset, .unset, .unset, .unset, .unset, .unset, .unset, .unset, .unset, .unset, .unset] [(.int (p1 &&& (1 : Int32)))])) := by
  by_cases hc145 : (p1 &&& (1 : Int32)) = (0 : Int32)
  ·
   simp only [if_pos hc145]
   refine goR (S' := T0.setTop (mkF m 6 #[si p1, si p2, si p3, si p4, si p5, si p6, .unset, .unset, .unset, .unset, .unset, .unset, .unset, .unset, .unset, .unset, .unset, .unset, .unset, .unset] [])) (fun t k => XS.ifNo X0.here hx rfl (hb hby at_3) rfl ((if0 _ _).trans (teq hc145).2) k) ?_
   have O147 : Old Z n0 h0 := O0.keep K0 all0
   obtain ⟨T146, X146, e146, st146⟩ := getS2 X0 hx hZ hown (host := "") (Or.inl (ww hw 0 rfl)) Via.refl e0 (hp2.ext O147.2) (g := (mkF m 6 #[si p1, si p2, si p3, si p4, si p5, si p6, .unset, .unset, .unset, .unset, .unset, .unset, .unset, .unset, .unset, .unset, .unset, .unset, .unset, .unset] [])) rfl (hb hby at_6)
   refine goR (S' := T146.setTop (mkF m 15 #[si p1, si p2, si p3, si p4, si p5, si p6, .unset, .unset, .unset, .unset, .unset, .unset, .unset, .unset, .unset, .unset, .unset, .unset, .unset, .unset] [(.ref pa)])) (fun t k => st146 _ (XS.goto X146.here hx rfl (pc0 := 9) (pc' := 15) rfl (hb hby at_9) (by decide) (by decide) k)) ?_
   exact ⟨T146, ⟨_, X146, N0, e146⟩, fun t k => k⟩
  ·
   simp only [if_neg hc145]
   refine goR (S' := T0.setTop (mkF m 12 #[si p1, si p2, si p3, si p4, si p5, si p6, .unset, .unset, .unset, .unset, .unset, .unset, .unset, .unset, .unset, .unset, .unset, .unset, .unset, .unset] [])) (fun t k => XS.ifYes X0.here hx rfl (pc0 := 3) (pc' := 12) rfl (hb hby at_3) rfl ((if0 _ _).trans (feq hc145).2) (by decide) (by decide) k) ?_
   have O149 : Old Z n0 h0 := O0.keep K0 all0
   obtain ⟨T148, X148, e148, st148⟩ := getS2 X0 hx hZ hown (host := "") (Or.inl (ww hw 72 rfl)) Via.refl e0 (hp3.ext O149.2) (g := (mkF m 12 #[si p1, si p2, si p3, si p4, si p5, si p6, .unset, .unset, .unset, .unset, .unset, .unset, .unset, .unset, .unset, .unset, .unset, .unset, .unset, .unset] [])) rfl (hb hby at_12)
   refine goR (S' := T148.setTop (mkF m 15 #[si p1, si p2, si p3, si p4, si p5, si p6, .unset, .unset, .unset, .unset, .unset, .unset, .unset, .unset, .unset, .unset, .unset, .unset, .unset, .unset] [(.ref pb)])) st148 ?_
   exact ⟨T148, ⟨_, X148, N0, e148⟩, fun t k => k⟩
 refine go (S' := T144.setTop (mkF m 17 #[si p1, si p2, si p3, si p4, si p5, si p6, sr (if (p1 &&& (1 : Int32)) = (0 : Int32) then pa else pb), .unset, .unset, .unset, .unset, .unset, .unset, .unset, .unset, .unset, .unset, .unset, .unset, .unset] [])) (fun t k => st144 _ (XS.astore X144.here hx rfl (hb hby at_15) rfl rfl (l' := #[si p1, si p2, si p3, si p4, si p5, si p6, sr (if (p1 &&& (1 : Int32)) = (0 : Int32) then pa else pb), .unset, .unset, .unset, .unset, .unset, .unset, .unset, .unset, .unset, .unset, .unset, .unset, .unset]) rfl k)) ?_
 obtain ⟨k1, hk1⟩ : ∃ z : Addr, z = (if (p1 &&& (1 : Int32)) = (0 : Int32) then pa else pb) := ⟨_, rfl⟩
 rw [← hk1]
 refine go (S' := T144.setTop (mkF m 20 #[si p1, si p2, si p3, si p4, si p5, si p6, sr k1, .unset, .unset, .unset, .unset, .unset, .unset, .unset, .unset, .unset, .unset, .unset, .unset, .unset] [(.int (p1 &&& (2 : Int32)))])) (fun t k => XS.iloadN X144.here hx rfl (hb hby at_17) rfl (XS.iconst X144.here hx rfl (hb hby at_18) (XS.iand X144.here hx rfl (hb hby at_19) rfl k))) ?_
 obtain ⟨T150, ⟨ls150, X150, N150, e150⟩, st150⟩ : Reach p.tables e below (mkF m 32 #[si p1, si p2, si p3, si p4, si p5, si p6, sr k1, .unset, .unset, .unset, .unset, .unset, .unset, .unset, .unset, .unset, .unset, .unset, .unset, .unset] [(.ref (if (p1 &&& (2 : Int32)) = (0 : Int32) then pa else pb))]) (Same X144 n0 h0) (T144.setTop (mkF m 20 #[si p1, si p2, si p3, si p4, si p5, si p6, sr k1, .unset, .unset, .unset, .unset, .unset, .unset, .unset, .unset, .unset, .unset, .unset, .unset, .unset] [(.int (p1 &&& (2 : Int32)))])) := by
  by_cases hc151 : (p1 &&& (2 : Int32)) = (0 : Int32)
  ·
   simp only [if_pos hc151]
   refine goR (S' := T144.setTop (mkF m 23 #[si p1, si p2, si p3, si p4, si p5, si p6, sr k1, .unset, .unset, .unset, .unset, .unset, .unset, .unset, .unset, .unset, .unset, .unset, .unset, .unset] [])) (fun t k => XS.ifNo X144.here hx rfl (hb hby at_20) rfl ((if0 _ _).trans (teq hc151).2) k) ?_
   have O153 : Old Z n0 h0 := O0.keep K0 all0
   obtain ⟨T152, X152, e152, st152⟩ := getS2 X144 hx hZ hown (host := "") (Or.inl (ww hw 0 rfl)) Via.refl e144 (hp2.ext O153.2) (g := (mkF m 23 #[si p1, si p2, si p3, si p4, si p5, si p6, sr k1, .unset, .unset, .unset, .unset, .unset, .unset, .unset, .unset, .unset, .unset, .unset, .unset, .unset] [])) rfl (hb hby at_23)
   refine goR (S' := T152.setTop (mkF m 32 #[si p1, si p2, si p3, si p4, si p5, si p6, sr k1, .unset, .unset, .unset, .unset, .unset, .unset, .unset, .unset, .unset, .unset, .unset, .unset, .unset] [(.ref pa)])) (fun t k => st152 _ (XS.goto X152.here hx rfl (pc0 := 26) (pc' := 32) rfl (hb hby at_26) (by decide) (by decide) k)) ?_
   exact ⟨T152, ⟨_, X152, N144, e152⟩, fun t k => k⟩
  ·
   simp only [if_neg hc151]
   refine goR (S' := T144.setTop (mkF m 29 #[si p1, si p2, si p3, si p4, si p5, si p6, sr k1, .unset, .unset, .unset, .unset, .unset, .unset, .unset, .unset, .unset, .unset, .unset, .unset, .unset] [])) (fun t k => XS.ifYes X144.here hx rfl (pc0 := 20) (pc' := 29) rfl (hb hby at_20) rfl ((if0 _ _).trans (feq hc151).2) (by decide) (by decide) k) ?_
   have O155 : Old Z n0 h0 := O0.keep K0 all0
   obtain ⟨T154, X154, e154, st154⟩ := getS2 X144 hx hZ hown (host := "") (Or.inl (ww hw 72 rfl)) Via.refl e144 (hp3.ext O155.2) (g := (mkF m 29 #[si p1, si p2, si p3, si p4, si p5, si p6, sr k1, .unset, .unset, .unset, .unset, .unset, .unset, .unset, .unset, .unset, .unset, .unset, .unset, .unset] [])) rfl (hb hby at_29)
   refine goR (S' := T154.setTop (mkF m 32 #[si p1, si p2, si p3, si p4, si p5, si p6, sr k1, .unset, .unset, .unset, .unset, .unset, .unset, .unset, .unset, .unset, .unset, .unset, .unset, .unset] [(.ref pb)])) st154 ?_
   exact ⟨T154, ⟨_, X154, N144, e154⟩, fun t k => k⟩
 refine go (S' := T150.setTop (mkF m 34 #[si p1, si p2, si p3, si p4, si p5, si p6, sr k1, sr (if (p1 &&& (2 : Int32)) = (0 : Int32) then pa else pb), .unset, .unset, .unset, .unset, .unset, .unset, .unset, .unset, .unset, .unset, .unset, .unset] [])) (fun t k => st150 _ (XS.astore X150.here hx rfl (hb hby at_32) rfl rfl (l' := #[si p1, si p2, si p3, si p4, si p5, si p6, sr k1, sr (if (p1 &&& (2 : Int32)) = (0 : Int32) then pa else pb), .unset, .unset, .unset, .unset, .unset, .unset, .unset, .unset, .unset, .unset, .unset, .unset]) rfl k)) ?_
 obtain ⟨k2, hk2⟩ : ∃ z : Addr, z = (if (p1 &&& (2 : Int32)) = (0 : Int32) then pa else pb) := ⟨_, rfl⟩
 rw [← hk2]
 refine go (S' := T150.setTop (mkF m 42 #[si p1, si p2, si p3, si p4, si p5, si p6, sr k1, sr k2, si ((p4 &&& (2147483647 : Int32)) % (3 : Int32)), .unset, .unset, .unset, .unset, .unset, .unset, .unset, .unset, .unset, .unset, .unset] [])) (fun t k => XS.iloadN X150.here hx rfl (hb hby at_34) rfl (X150.ldcInt hx hown (mvT hZ (ww hw 3 rfl)) (g := (mkF m 35 #[si p1, si p2, si p3, si p4, si p5, si p6, sr k1, sr k2, .unset, .unset, .unset, .unset, .unset, .unset, .unset, .unset, .unset, .unset, .unset, .unset] [(.int p4)])) rfl (hb hby at_35) _ (XS.iand X150.here hx rfl (hb hby at_37) rfl (XS.iconst X150.here hx rfl (hb hby at_38) (iremM X150 hx rfl (hb hby at_39) rfl (by decide) (XS.istore X150.here hx rfl (hb hby at_40) rfl (l' := #[si p1, si p2, si p3, si p4, si p5, si p6, sr k1, sr k2, si ((p4 &&& (2147483647 : Int32)) % (3 : Int32)), .unset, .unset, .unset, .unset, .unset, .unset, .unset, .unset, .unset, .unset, .unset]) rfl k)))))) ?_
 obtain ⟨n1, hn1⟩ : ∃ z : Int32, z = ((p4 &&& (2147483647 : Int32)) % (3 : Int32)) := ⟨_, rfl⟩
 rw [← hn1]
 have h3n1 : n1 = 0 ∨ n1 = 1 ∨ n1 = 2 := by rw [hn1]; first | (split; exact h3n1; exact own_three _) | exact own_three _
 refine go (S' := T150.setTop (mkF m 47 #[si p1, si p2, si p3, si p4, si p5, si p6, sr k1, sr k2, si n1, .unset, .unset, .unset, .unset, .unset, .unset, .unset, .unset, .unset, .unset, .unset] [(.int (p5 &&& (8 : Int32)))])) (fun t k => XS.iload X150.here hx rfl (hb hby at_42) rfl (XS.bipush X150.here hx rfl (hb hby at_44) (XS.iand X150.here hx rfl (hb hby at_46) rfl k))) ?_
 obtain ⟨T156, ⟨ls156, X156, N156, e156⟩, st156⟩ : Reach p.tables e below (mkF m 64 #[si p1, si p2, si p3, si p4, si p5, si p6, sr k1, sr k2, si n1, .unset, .unset, .unset, .unset, .unset, .unset, .unset, .unset, .unset, .unset, .unset] [(.int (if (p5 &&& (8 : Int32)) = (0 : Int32) then n1 else ((((p4.toUInt32 >>> ((8 : Int32) &&& 31).toUInt32).toInt32) &&& (2147483647 : Int32)) % (3 : Int32))))]) (Same X150 n0 h0) (T150.setTop (mkF m 47 #[si p1, si p2, si p3, si p4, si p5, si p6, sr k1, sr k2, si n1, .unset, .unset, .unset, .unset, .unset, .unset, .unset, .unset, .unset, .unset, .unset] [(.int (p5 &&& (8 : Int32)))])) := by
  by_cases hc157 : (p5 &&& (8 : Int32)) = (0 : Int32)
  ·
   simp only [if_pos hc157]
   refine goR (S' := T150.setTop (mkF m 64 #[si p1, si p2, si p3, si p4, si p5, si p6, sr k1, sr k2, si n1, .unset, .unset, .unset, .unset, .unset, .unset, .unset, .unset, .unset, .unset, .unset] [(.int n1)])) (fun t k => XS.ifNo X150.here hx rfl (hb hby at_47) rfl ((if0 _ _).trans (teq hc157).2) (XS.iload X150.here hx rfl (hb hby at_50) rfl (XS.goto X150.here hx rfl (pc0 := 52) (pc' := 64) rfl (hb hby at_52) (by decide) (by decide) k))) ?_
   exact ⟨T150, ⟨_, X150, N150, e150⟩, fun t k => k⟩
  ·
   simp only [if_neg hc157]
   refine goR (S' := T150.setTop (mkF m 64 #[si p1, si p2, si p3, si p4, si p5, si p6, sr k1, sr k2, si n1, .unset, .unset, .unset, .unset, .unset, .unset, .unset, .unset, .unset, .unset, .unset] [(.int ((((p4.toUInt32 >>> ((8 : Int32) &&& 31).toUInt32).toInt32) &&& (2147483647 : Int32)) % (3 : Int32)))])) (fun t k => XS.ifYes X150.here hx rfl (pc0 := 47) (pc' := 55) rfl (hb hby at_47) rfl ((if0 _ _).trans (feq hc157).2) (by decide) (by decide) (XS.iloadN X150.here hx rfl (hb hby at_55) rfl (XS.bipush X150.here hx rfl (hb hby at_56) (XS.iushr X150.here hx rfl (hb hby at_58) rfl (X150.ldcInt hx hown (mvT hZ (ww hw 3 rfl)) (g := (mkF m 59 #[si p1, si p2, si p3, si p4, si p5, si p6, sr k1, sr k2, si n1, .unset, .unset, .unset, .unset, .unset, .unset, .unset, .unset, .unset, .unset, .unset] [(.int ((p4.toUInt32 >>> ((8 : Int32) &&& 31).toUInt32).toInt32))])) rfl (hb hby at_59) _ (XS.iand X150.here hx rfl (hb hby at_61) rfl (XS.iconst X150.here hx rfl (hb hby at_62) (iremM X150 hx rfl (hb hby at_63) rfl (by decide) k)))))))) ?_
   exact ⟨T150, ⟨_, X150, N150, e150⟩, fun t k => k⟩
 refine go (S' := T156.setTop (mkF m 66 #[si p1, si p2, si p3, si p4, si p5, si p6, sr k1, sr k2, si n1, si (if (p5 &&& (8 : Int32)) = (0 : Int32) then n1 else ((((p4.toUInt32 >>> ((8 : Int32) &&& 31).toUInt32).toInt32) &&& (2147483647 : Int32)) % (3 : Int32))), .unset, .unset, .unset, .unset, .unset, .unset, .unset, .unset, .unset, .unset] [])) (fun t k => st156 _ (XS.istore X156.here hx rfl (hb hby at_64) rfl (l' := #[si p1, si p2, si p3, si p4, si p5, si p6, sr k1, sr k2, si n1, si (if (p5 &&& (8 : Int32)) = (0 : Int32) then n1 else ((((p4.toUInt32 >>> ((8 : Int32) &&& 31).toUInt32).toInt32) &&& (2147483647 : Int32)) % (3 : Int32))), .unset, .unset, .unset, .unset, .unset, .unset, .unset, .unset, .unset, .unset]) rfl k)) ?_
 obtain ⟨n2, hn2⟩ : ∃ z : Int32, z = (if (p5 &&& (8 : Int32)) = (0 : Int32) then n1 else ((((p4.toUInt32 >>> ((8 : Int32) &&& 31).toUInt32).toInt32) &&& (2147483647 : Int32)) % (3 : Int32))) := ⟨_, rfl⟩
 rw [← hn2]
 have h3n2 : n2 = 0 ∨ n2 = 1 ∨ n2 = 2 := by rw [hn2]; first | (split; exact h3n1; exact own_three _) | exact own_three _
 refine go (S' := T156.setTop (mkF m 74 #[si p1, si p2, si p3, si p4, si p5, si p6, sr k1, sr k2, si n1, si n2, si ((p2 &&& (255 : Int32)).toUInt32.toUInt16.toUInt32.toInt32), .unset, .unset, .unset, .unset, .unset, .unset, .unset, .unset, .unset] [])) (fun t k => XS.iloadN X156.here hx rfl (hb hby at_66) rfl (XS.sipush X156.here hx rfl (hb hby at_67) (XS.iand X156.here hx rfl (hb hby at_70) rfl (XS.i2c X156.here hx rfl (hb hby at_71) rfl (XS.istore X156.here hx rfl (hb hby at_72) rfl (l' := #[si p1, si p2, si p3, si p4, si p5, si p6, sr k1, sr k2, si n1, si n2, si ((p2 &&& (255 : Int32)).toUInt32.toUInt16.toUInt32.toInt32), .unset, .unset, .unset, .unset, .unset, .unset, .unset, .unset, .unset]) rfl k))))) ?_
 obtain ⟨x0, hx0⟩ : ∃ z : Int32, z = ((p2 &&& (255 : Int32)).toUInt32.toUInt16.toUInt32.toInt32) := ⟨_, rfl⟩
 rw [← hx0]
 have hlx0 : ¬ x0 < 0 ∧ ¬ (255 : Int32) < x0 := by rw [hx0]; first | (split <;> first | exact hlx0 | exact hlx1 | exact own_c255 _) | exact own_c255 _
 refine go (S' := T156.setTop (mkF m 85 #[si p1, si p2, si p3, si p4, si p5, si p6, sr k1, sr k2, si n1, si n2, si x0, si ((((p2.toUInt32 >>> ((8 : Int32) &&& 31).toUInt32).toInt32) &&& (255 : Int32)).toUInt32.toUInt16.toUInt32.toInt32), .unset, .unset, .unset, .unset, .unset, .unset, .unset, .unset] [])) (fun t k => XS.iloadN X156.here hx rfl (hb hby at_74) rfl (XS.bipush X156.here hx rfl (hb hby at_75) (XS.iushr X156.here hx rfl (hb hby at_77) rfl (XS.sipush X156.here hx rfl (hb hby at_78) (XS.iand X156.here hx rfl (hb hby at_81) rfl (XS.i2c X156.here hx rfl (hb hby at_82) rfl (XS.istore X156.here hx rfl (hb hby at_83) rfl (l' := #[si p1, si p2, si p3, si p4, si p5, si p6, sr k1, sr k2, si n1, si n2, si x0, si ((((p2.toUInt32 >>> ((8 : Int32) &&& 31).toUInt32).toInt32) &&& (255 : Int32)).toUInt32.toUInt16.toUInt32.toInt32), .unset, .unset, .unset, .unset, .unset, .unset, .unset, .unset]) rfl k))))))) ?_
 obtain ⟨x1, hx1⟩ : ∃ z : Int32, z = ((((p2.toUInt32 >>> ((8 : Int32) &&& 31).toUInt32).toInt32) &&& (255 : Int32)).toUInt32.toUInt16.toUInt32.toInt32) := ⟨_, rfl⟩
 rw [← hx1]
 have hlx1 : ¬ x1 < 0 ∧ ¬ (255 : Int32) < x1 := by rw [hx1]; first | (split <;> first | exact hlx0 | exact hlx1 | exact own_c255 _) | exact own_c255 _
 refine go (S' := T156.setTop (mkF m 89 #[si p1, si p2, si p3, si p4, si p5, si p6, sr k1, sr k2, si n1, si n2, si x0, si x1, .unset, .unset, .unset, .unset, .unset, .unset, .unset, .unset] [(.int (p5 &&& (2 : Int32)))])) (fun t k => XS.iload X156.here hx rfl (hb hby at_85) rfl (XS.iconst X156.here hx rfl (hb hby at_87) (XS.iand X156.here hx rfl (hb hby at_88) rfl k))) ?_
 obtain ⟨T158, ⟨ls158, X158, N158, e158⟩, st158⟩ : Reach p.tables e below (mkF m 103 #[si p1, si p2, si p3, si p4, si p5, si p6, sr k1, sr k2, si n1, si n2, si x0, si x1, .unset, .unset, .unset, .unset, .unset, .unset, .unset, .unset] [(.int (if (p5 &&& (2 : Int32)) = (0 : Int32) then x0 else ((p3 &&& (255 : Int32)).toUInt32.toUInt16.toUInt32.toInt32)))]) (Same X156 n0 h0) (T156.setTop (mkF m 89 #[si p1, si p2, si p3, si p4, si p5, si p6, sr k1, sr k2, si n1, si n2, si x0, si x1, .unset, .unset, .unset, .unset, .unset, .unset, .unset, .unset] [(.int (p5 &&& (2 : Int32)))])) := by
  by_cases hc159 : (p5 &&& (2 : Int32)) = (0 : Int32)
  ·
   simp only [if_pos hc159]
   refine goR (S' := T156.setTop (mkF m 103 #[si p1, si p2, si p3, si p4, si p5, si p6, sr k1, sr k2, si n1, si n2, si x0, si x1, .unset, .unset, .unset, .unset, .unset, .unset, .unset, .unset] [(.int x0)])) (fun t k => XS.ifNo X156.here hx rfl (hb hby at_89) rfl ((if0 _ _).trans (teq hc159).2) (XS.iload X156.here hx rfl (hb hby at_92) rfl (XS.goto X156.here hx rfl (pc0 := 94) (pc' := 103) rfl (hb hby at_94) (by decide) (by decide) k))) ?_
   exact ⟨T156, ⟨_, X156, N156, e156⟩, fun t k => k⟩
  ·
   simp only [if_neg hc159]
   refine goR (S' := T156.setTop (mkF m 103 #[si p1, si p2, si p3, si p4, si p5, si p6, sr k1, sr k2, si n1, si n2, si x0, si x1, .unset, .unset, .unset, .unset, .unset, .unset, .unset, .unset] [(.int ((p3 &&& (255 : Int32)).toUInt32.toUInt16.toUInt32.toInt32))])) (fun t k => XS.ifYes X156.here hx rfl (pc0 := 89) (pc' := 97) rfl (hb hby at_89) rfl ((if0 _ _).trans (feq hc159).2) (by decide) (by decide) (XS.iloadN X156.here hx rfl (hb hby at_97) rfl (XS.sipush X156.here hx rfl (hb hby at_98) (XS.iand X156.here hx rfl (hb hby at_101) rfl (XS.i2c X156.here hx rfl (hb hby at_102) rfl k))))) ?_
   exact ⟨T156, ⟨_, X156, N156, e156⟩, fun t k => k⟩
 refine go (S' := T158.setTop (mkF m 105 #[si p1, si p2, si p3, si p4, si p5, si p6, sr k1, sr k2, si n1, si n2, si x0, si x1, si (if (p5 &&& (2 : Int32)) = (0 : Int32) then x0 else ((p3 &&& (255 : Int32)).toUInt32.toUInt16.toUInt32.toInt32)), .unset, .unset, .unset, .unset, .unset, .unset, .unset] [])) (fun t k => st158 _ (XS.istore X158.here hx rfl (hb hby at_103) rfl (l' := #[si p1, si p2, si p3, si p4, si p5, si p6, sr k1, sr k2, si n1, si n2, si x0, si x1, si (if (p5 &&& (2 : Int32)) = (0 : Int32) then x0 else ((p3 &&& (255 : Int32)).toUInt32.toUInt16.toUInt32.toInt32)), .unset, .unset, .unset, .unset, .unset, .unset, .unset]) rfl k)) ?_
 obtain ⟨y0, hy0⟩ : ∃ z : Int32, z = (if (p5 &&& (2 : Int32)) = (0 : Int32) then x0 else ((p3 &&& (255 : Int32)).toUInt32.toUInt16.toUInt32.toInt32)) := ⟨_, rfl⟩
 rw [← hy0]
 have hly0 : ¬ y0 < 0 ∧ ¬ (255 : Int32) < y0 := by rw [hy0]; first | (split <;> first | exact hlx0 | exact hlx1 | exact own_c255 _) | exact own_c255 _
 refine go (S' := T158.setTop (mkF m 109 #[si p1, si p2, si p3, si p4, si p5, si p6, sr k1, sr k2, si n1, si n2, si x0, si x1, si y0, .unset, .unset, .unset, .unset, .unset, .unset, .unset] [(.int (p5 &&& (4 : Int32)))])) (fun t k => XS.iload X158.here hx rfl (hb hby at_105) rfl (XS.iconst X158.here hx rfl (hb hby at_107) (XS.iand X158.here hx rfl (hb hby at_108) rfl k))) ?_
 obtain ⟨T160, ⟨ls160, X160, N160, e160⟩, st160⟩ : Reach p.tables e below (mkF m 126 #[si p1, si p2, si p3, si p4, si p5, si p6, sr k1, sr k2, si n1, si n2, si x0, si x1, si y0, .unset, .unset, .unset, .unset, .unset, .unset, .unset] [(.int (if (p5 &&& (4 : Int32)) = (0 : Int32) then x1 else ((((p3.toUInt32 >>> ((8 : Int32) &&& 31).toUInt32).toInt32) &&& (255 : Int32)).toUInt32.toUInt16.toUInt32.toInt32)))]) (Same X158 n0 h0) (T158.setTop (mkF m 109 #[si p1, si p2, si p3, si p4, si p5, si p6, sr k1, sr k2, si n1, si n2, si x0, si x1, si y0, .unset, .unset, .unset, .unset, .unset, .unset, .unset] [(.int (p5 &&& (4 : Int32)))])) := by
  by_cases hc161 : (p5 &&& (4 : Int32)) = (0 : Int32)
  ·
   simp only [if_pos hc161]
   refine goR (S' := T158.setTop (mkF m 126 #[si p1, si p2, si p3, si p4, si p5, si p6, sr k1, sr k2, si n1, si n2, si x0, si x1, si y0, .unset, .unset, .unset, .unset, .unset, .unset, .unset] [(.int x1)])) (fun t k => XS.ifNo X158.here hx rfl (hb hby at_109) rfl ((if0 _ _).trans (teq hc161).2) (XS.iload X158.here hx rfl (hb hby at_112) rfl (XS.goto X158.here hx rfl (pc0 := 114) (pc' := 126) rfl (hb hby at_114) (by decide) (by decide) k))) ?_
   exact ⟨T158, ⟨_, X158, N158, e158⟩, fun t k => k⟩
  ·
   simp only [if_neg hc161]
   refine goR (S' := T158.setTop (mkF m 126 #[si p1, si p2, si p3, si p4, si p5, si p6, sr k1, sr k2, si n1, si n2, si x0, si x1, si y0, .unset, .unset, .unset, .unset, .unset, .unset, .unset] [(.int ((((p3.toUInt32 >>> ((8 : Int32) &&& 31).toUInt32).toInt32) &&& (255 : Int32)).toUInt32.toUInt16.toUInt32.toInt32))])) (fun t k => XS.ifYes X158.here hx rfl (pc0 := 109) (pc' := 117) rfl (hb hby at_109) rfl ((if0 _ _).trans (feq hc161).2) (by decide) (by decide) (XS.iloadN X158.here hx rfl (hb hby at_117) rfl (XS.bipush X158.here hx rfl (hb hby at_118) (XS.iushr X158.here hx rfl (hb hby at_120) rfl (XS.sipush X158.here hx rfl (hb hby at_121) (XS.iand X158.here hx rfl (hb hby at_124) rfl (XS.i2c X158.here hx rfl (hb hby at_125) rfl k))))))) ?_
   exact ⟨T158, ⟨_, X158, N158, e158⟩, fun t k => k⟩
 refine go (S' := T160.setTop (mkF m 128 #[si p1, si p2, si p3, si p4, si p5, si p6, sr k1, sr k2, si n1, si n2, si x0, si x1, si y0, si (if (p5 &&& (4 : Int32)) = (0 : Int32) then x1 else ((((p3.toUInt32 >>> ((8 : Int32) &&& 31).toUInt32).toInt32) &&& (255 : Int32)).toUInt32.toUInt16.toUInt32.toInt32)), .unset, .unset, .unset, .unset, .unset, .unset] [])) (fun t k => st160 _ (XS.istore X160.here hx rfl (hb hby at_126) rfl (l' := #[si p1, si p2, si p3, si p4, si p5, si p6, sr k1, sr k2, si n1, si n2, si x0, si x1, si y0, si (if (p5 &&& (4 : Int32)) = (0 : Int32) then x1 else ((((p3.toUInt32 >>> ((8 : Int32) &&& 31).toUInt32).toInt32) &&& (255 : Int32)).toUInt32.toUInt16.toUInt32.toInt32)), .unset, .unset, .unset, .unset, .unset, .unset]) rfl k)) ?_
 obtain ⟨y1, hy1⟩ : ∃ z : Int32, z = (if (p5 &&& (4 : Int32)) = (0 : Int32) then x1 else ((((p3.toUInt32 >>> ((8 : Int32) &&& 31).toUInt32).toInt32) &&& (255 : Int32)).toUInt32.toUInt16.toUInt32.toInt32)) := ⟨_, rfl⟩
 rw [← hy1]
 have hly1 : ¬ y1 < 0 ∧ ¬ (255 : Int32) < y1 := by rw [hy1]; first | (split <;> first | exact hlx0 | exact hlx1 | exact own_c255 _) | exact own_c255 _
 refine go (S' := T160.setTop (mkF m 134 #[si p1, si p2, si p3, si p4, si p5, si p6, sr k1, sr k2, si n1, si n2, si x0, si x1, si y0, si y1, .unset, .unset, .unset, .unset, .unset, .unset] [(.int x1), (.int x0), (.int n1)])) (fun t k => XS.iload X160.here hx rfl (hb hby at_128) rfl (XS.iload X160.here hx rfl (hb hby at_130) rfl (XS.iload X160.here hx rfl (hb hby at_132) rfl k))) ?_
 have O162 : Old Z n0 h0 := O0.keep K0 all0
 obtain ⟨v163, T163, L163, X163, hQ163, hS, hZ, hown, Cq163, st163⟩ := callStW X160 hx hZ (y := y_2) hown (ww hw 4 rfl) (ww hw 5 rfl) (ww hw 6 rfl) (ww hw 7 rfl) (by decide) (backW (W := 0) (rmMk l Z a0 hw [] n1 x0 x1 G1 h0 n0 (Nat.le_trans Z0 K0.1) hlx0 hlx1 hp0 hG1 O162) hZ (ww hw 7 rfl) (ww hw 6 rfl) (by decide) (by decide) (own_EW hw) C0.1 all0) (g := (mkF m 134 #[si p1, si p2, si p3, si p4, si p5, si p6, sr k1, sr k2, si n1, si n2, si x0, si x1, si y0, si y1, .unset, .unset, .unset, .unset, .unset, .unset] [(.int x1), (.int x0), (.int n1)])) rfl (by rw [hml]; rfl) (kc := 6) (ks := 12) (argsL := [(.int n1), (.int x0), (.int x1)]) (rest := []) (lenOf pd_3 rfl) rfl (mr0 rfl) (hb hby at_134) e160 (by decide) (by decide) hS hkS
 obtain ⟨x_163, t_163, rfl, N163q, Kq163, q163_0, q163_1⟩ := hQ163
 have N163 := Fr.app N160 N163q
 have hkS := Nat.le_refl T163.heap.size
 have C164 := C0.trans Cq163
 have K165 : Keep h0 T163.heap [] := K0.trans Kq163 all0
 have sz_x_163 : h0.size ≤ x_163 := Nat.le_trans K0.1 q163_0
 have ge_x_163 : n0 ≤ x_163 := Nat.le_trans Z0 sz_x_163
 refine go (S' := T163.setTop (mkF m 145 #[si p1, si p2, si p3, si p4, si p5, si p6, sr k1, sr k2, si n1, si n2, si x0, si x1, si y0, si y1, sr x_163, .unset, .unset, .unset, .unset, .unset] [(.int y1), (.int y0), (.int n2)])) (fun t k => st163 _ (XS.astore X163.here hx rfl (hb hby at_137) rfl rfl (l' := #[si p1, si p2, si p3, si p4, si p5, si p6, sr k1, sr k2, si n1, si n2, si x0, si x1, si y0, si y1, sr x_163, .unset, .unset, .unset, .unset, .unset]) rfl (XS.iload X163.here hx rfl (hb hby at_139) rfl (XS.iload X163.here hx rfl (hb hby at_141) rfl (XS.iload X163.here hx rfl (hb hby at_143) rfl k))))) ?_
 have O166 : Old Z n0 T163.heap := O0.keep K165 all0
 obtain ⟨v167, T167, L167, X167, hQ167, hS, hZ, hown, Cq167, st167⟩ := callStW X163 hx hZ (y := y_2) hown (ww hw 4 rfl) (ww hw 5 rfl) (ww hw 6 rfl) (ww hw 7 rfl) (by decide) (backW (W := 0) (rmMk l Z a0 hw [] n2 y0 y1 G1 T163.heap n0 (Nat.le_trans Z0 K165.1) hly0 hly1 hp0 hG1 O166) hZ (ww hw 7 rfl) (ww hw 6 rfl) (by decide) (by decide) (own_EW hw) C164.1 all0) (g := (mkF m 145 #[si p1, si p2, si p3, si p4, si p5, si p6, sr k1, sr k2, si n1, si n2, si x0, si x1, si y0, si y1, sr x_163, .unset, .unset, .unset, .unset, .unset] [(.int y1), (.int y0), (.int n2)])) rfl (by rw [hml]; rfl) (kc := 6) (ks := 12) (argsL := [(.int n2), (.int y0), (.int y1)]) (rest := []) (lenOf pd_3 rfl) rfl (mr0 rfl) (hb hby at_145) rfl (by decide) (by decide) hS hkS
 obtain ⟨x_167, t_167, rfl, N167q, Kq167, q167_0, q167_1⟩ := hQ167
 have N167 := Fr.app N163 N167q
 have hkS := Nat.le_refl T167.heap.size
 have C168 := C164.trans Cq167
 have K169 : Keep h0 T167.heap [] := K165.trans Kq167 all0
 have lt_x_163_x_167 : x_163 < x_167 := Nat.lt_of_lt_of_le q163_1.lt1 q167_0
 have lt_t_163_x_167 : t_163 < x_167 := Nat.lt_of_lt_of_le q163_1.lt2 q167_0
 have sz_x_167 : h0.size ≤ x_167 := Nat.le_trans K165.1 q167_0
 have ge_x_167 : n0 ≤ x_167 := Nat.le_trans Z0 sz_x_167
 refine go (S' := T167.setTop (mkF m 150 #[si p1, si p2, si p3, si p4, si p5, si p6, sr k1, sr k2, si n1, si n2, si x0, si x1, si y0, si y1, sr x_163, sr x_167, .unset, .unset, .unset, .unset] [])) (fun t k => st167 _ (XS.astore X167.here hx rfl (hb hby at_148) rfl rfl (l' := #[si p1, si p2, si p3, si p4, si p5, si p6, sr k1, sr k2, si n1, si n2, si x0, si x1, si y0, si y1, sr x_163, sr x_167, .unset, .unset, .unset, .unset]) rfl k)) ?_
 obtain ⟨T170, h170, X170, e170, E170, A170, D170, -, st170⟩ := newO X167 hx hZ hown (ww hw 38 rfl) (ww hw 39 rfl) (ww hw 40 rfl) rfl (g := (mkF m 150 #[si p1, si p2, si p3, si p4, si p5, si p6, sr k1, sr k2, si n1, si n2, si x0, si x1, si y0, si y1, sr x_163, sr x_167, .unset, .unset, .unset, .unset] [])) rfl (hb hby at_150) (by decide) (by decide)
 obtain ⟨b170, g170⟩ : ∃ z, z = T167.heap.size := ⟨_, rfl⟩
 rw [← g170] at A170 D170 st170
 have f171 : Str Z T167.heap x_163 t_163 (0 : Int32) (own_mk n1 x0 x1) := (q163_1.keep Kq167 nin0 nin0)
 have lt_x_163_b170 : x_163 < b170 := by rw [g170]; exact f171.lt1
 have lt_t_163_b170 : t_163 < b170 := by rw [g170]; exact f171.lt2
 have lt_x_167_b170 : x_167 < b170 := by rw [g170]; exact q167_1.lt1
 have lt_t_167_b170 : t_167 < b170 := by rw [g170]; exact q167_1.lt2
 have ge_b170 : n0 ≤ b170 := by rw [g170]; exact (Nat.le_trans Z0 K169.1)
 have sz_b170 : h0.size ≤ b170 := by rw [g170]; exact K169.1
 have K172 : Keep h0 h170 [] := K169.ext E170
 have hkS := Nat.le_trans hkS E170.1
 have C173 := C168.trans (CHr.ext E170 C168.1)
 refine go (S' := T170.setTop (mkF m 158 #[si p1, si p2, si p3, si p4, si p5, si p6, sr k1, sr k2, si n1, si n2, si x0, si x1, si y0, si y1, sr x_163, sr x_167, .unset, .unset, .unset, .unset] [(.ref x_163), (.ref k1), (.ref b170), (.ref b170)])) (fun t k => st170 _ (XS.dup X170.here hx rfl (hb hby at_153) rfl rfl (XS.aload X170.here hx rfl (hb hby at_154) rfl rfl (XS.aload X170.here hx rfl (hb hby at_156) rfl rfl k)))) ?_
 obtain ⟨v174, T174, L174, X174, hQ174, st174⟩ := callSp X170 hx hZ (y := y_3) rfl hown (ww hw 41 rfl) (ww hw 42 rfl) (ww hw 43 rfl) (by decide) (backOf (W := 1) (rmPi l Z a0 hw [] b170 k1 x_163 h170 n0 (Nat.le_trans Z0 K172.1) A170 (D170 (Or.inr (ww hw 46 rfl)) (ty := (.object "com/example/sallyport/sallyport/PolicyKind")) (by decide)) (D170 (Or.inr (ww hw 48 rfl)) (ty := (.object "java/lang/String")) (by decide)) ge_b170) hZ (ww hw 43 rfl) (ww hw 40 rfl) (by decide) (by decide)) (g := (mkF m 158 #[si p1, si p2, si p3, si p4, si p5, si p6, sr k1, sr k2, si n1, si n2, si x0, si x1, si y0, si y1, sr x_163, sr x_167, .unset, .unset, .unset, .unset] [(.ref x_163), (.ref k1), (.ref b170), (.ref b170)])) rfl (by rw [hml]; rfl) (a := b170) (kc := 0) (ks := 0) (argsL := [(.ref k1), (.ref x_163)]) (rest := [(.ref b170)]) (lenOf pd_4 rfl) rfl (mr0 rfl) (hb hby at_158) e170 (by decide) (by decide)
 obtain ⟨rfl, N174q, Kq174, q174_0, q174_1⟩ := hQ174
 have N174 := Fr.app N167 N174q
 have hkS := Nat.le_trans hkS Kq174.1
 have C175 := C173.trans (CHr.keep Kq174 (allS (Safe.exa hZ.alike A170 (by decide) (by decide)) all0) C173.1)
 have K176 : Keep h0 T174.heap [] := K172.trans Kq174 (allS (P := fun x => x ∈ [] ∨ h0.size ≤ x) (Or.inr sz_b170) all0)
 refine go (S' := T174.setTop (mkF m 172 #[si p1, si p2, si p3, si p4, si p5, si p6, sr k1, sr k2, si n1, si n2, si x0, si x1, si y0, si y1, sr x_163, sr x_167, sr b170, si ((p6 &&& (2147483647 : Int32)) % (3 : Int32)), .unset, .unset] [])) (fun t k => st174 _ (XS.astore X174.here hx rfl (hb hby at_161) rfl rfl (l' := #[si p1, si p2, si p3, si p4, si p5, si p6, sr k1, sr k2, si n1, si n2, si x0, si x1, si y0, si y1, sr x_163, sr x_167, sr b170, .unset, .unset, .unset]) rfl (XS.iload X174.here hx rfl (hb hby at_163) rfl (X174.ldcInt hx hown (mvT hZ (ww hw 3 rfl)) (g := (mkF m 165 #[si p1, si p2, si p3, si p4, si p5, si p6, sr k1, sr k2, si n1, si n2, si x0, si x1, si y0, si y1, sr x_163, sr x_167, sr b170, .unset, .unset, .unset] [(.int p6)])) rfl (hb hby at_165) _ (XS.iand X174.here hx rfl (hb hby at_167) rfl (XS.iconst X174.here hx rfl (hb hby at_168) (iremM X174 hx rfl (hb hby at_169) rfl (by decide) (XS.istore X174.here hx rfl (hb hby at_170) rfl (l' := #[si p1, si p2, si p3, si p4, si p5, si p6, sr k1, sr k2, si n1, si n2, si x0, si x1, si y0, si y1, sr x_163, sr x_167, sr b170, si ((p6 &&& (2147483647 : Int32)) % (3 : Int32)), .unset, .unset]) rfl k)))))))) ?_
 refine go (S' := T174.setTop (mkF m 175 #[si p1, si p2, si p3, si p4, si p5, si p6, sr k1, sr k2, si n1, si n2, si x0, si x1, si y0, si y1, sr x_163, sr x_167, sr b170, si ((p6 &&& (2147483647 : Int32)) % (3 : Int32)), .unset, .unset] [(.int 1), (.int ((p6 &&& (2147483647 : Int32)) % (3 : Int32)))])) (fun t k => XS.iload X174.here hx rfl (hb hby at_172) rfl (XS.iconst X174.here hx rfl (hb hby at_174) k)) ?_
 by_cases hc177 : ((p6 &&& (2147483647 : Int32)) % (3 : Int32)) = (1 : Int32)
 ·
  refine go (S' := T174.setTop (mkF m 182 #[si p1, si p2, si p3, si p4, si p5, si p6, sr k1, sr k2, si n1, si n2, si x0, si x1, si y0, si y1, sr x_163, sr x_167, sr b170, si ((p6 &&& (2147483647 : Int32)) % (3 : Int32)), .unset, .unset] [(.ref x_163), (.ref b170)])) (fun t k => XS.icmpNo X174.here hx rfl (hb hby at_175) rfl (teq hc177).2 (XS.aload X174.here hx rfl (hb hby at_178) rfl rfl (XS.aload X174.here hx rfl (hb hby at_180) rfl rfl k))) ?_
  have f178 : Str Z T174.heap x_163 t_163 (0 : Int32) (own_mk n1 x0 x1) := ((f171.ext E170).keep Kq174 (ninS (Nat.ne_of_lt lt_x_163_b170) nin0) (ninS (Nat.ne_of_lt lt_t_163_b170) nin0))
  have f180 : Exa Z T174.heap b170 "com/example/sallyport/sallyport/PolicyReference" := (A170.keep Kq174)
  obtain ⟨v179, T179, L179, X179, hQ179, st179⟩ := callV X174 hx hZ (y := y_6) (z := y_6) hown (ww hw 52 rfl) (ww hw 53 rfl) (notFace_of_selects (args := #[]) (mvT hZ (ww hw 55 rfl))) (ww hw 55 rfl) (ww hw 54 rfl) (by decide) (backOf (W := 0) (rmEs l Z a0 hw [] b170 x_163 T174.heap n0 (Nat.le_trans Z0 K176.1) f178.exa) hZ (ww hw 56 rfl) (ww hw 40 rfl) (by decide) (by decide)) f180 (g := (mkF m 182 #[si p1, si p2, si p3, si p4, si p5, si p6, sr k1, sr k2, si n1, si n2, si x0, si x1, si y0, si y1, sr x_163, sr x_167, sr b170, si ((p6 &&& (2147483647 : Int32)) % (3 : Int32)), .unset, .unset] [(.ref x_163), (.ref b170)])) rfl (by rw [hml]; rfl) (kc := 0) (ks := 0) (argsL := [(.ref x_163)]) (rest := []) (lenOf pd_2 rfl) rfl (mr0 rfl) (hb hby at_182) rfl (by decide) (by decide)
  obtain ⟨rfl, N179q, e179⟩ := hQ179
  have N179 := Fr.app N174 N179q
  refine go (S' := T179.setTop (mkF m 185 #[si p1, si p2, si p3, si p4, si p5, si p6, sr k1, sr k2, si n1, si n2, si x0, si x1, si y0, si y1, sr x_163, sr x_167, sr b170, si ((p6 &&& (2147483647 : Int32)) % (3 : Int32)), .unset, .unset] [(.int 0)])) st179 ?_
  have hc181 : (0 : Int32) = (0 : Int32) := by decide
  refine go (S' := T179.setTop (mkF m 193 #[si p1, si p2, si p3, si p4, si p5, si p6, sr k1, sr k2, si n1, si n2, si x0, si x1, si y0, si y1, sr x_163, sr x_167, sr b170, si ((p6 &&& (2147483647 : Int32)) % (3 : Int32)), .unset, .unset] [(.int 1)])) (fun t k => XS.ifNo X179.here hx rfl (hb hby at_185) rfl ((if0 _ _).trans (teq hc181).2) (XS.iconst X179.here hx rfl (hb hby at_188) (XS.goto X179.here hx rfl (pc0 := 189) (pc' := 193) rfl (hb hby at_189) (by decide) (by decide) k))) ?_
  refine finNW X179 hx hk (t := .boolean) hret (by simp) hS hkS hZ (own_EW hw) C175 e179 (hb hby at_193) (by decide) (by decide) ?_
  exact ⟨rfl, N179, K176⟩
 ·
  refine go (S' := T174.setTop (mkF m 197 #[si p1, si p2, si p3, si p4, si p5, si p6, sr k1, sr k2, si n1, si n2, si x0, si x1, si y0, si y1, sr x_163, sr x_167, sr b170, si ((p6 &&& (2147483647 : Int32)) % (3 : Int32)), .unset, .unset] [(.int 2), (.int ((p6 &&& (2147483647 : Int32)) % (3 : Int32)))])) (fun t k => XS.icmpYes X174.here hx rfl (pc0 := 175) (pc' := 194) rfl (hb hby at_175) rfl (feq hc177).2 (by decide) (by decide) (XS.iload X174.here hx rfl (hb hby at_194) rfl (XS.iconst X174.here hx rfl (hb hby at_196) k))) ?_
  by_cases hc182 : ((p6 &&& (2147483647 : Int32)) % (3 : Int32)) = (2 : Int32)
  ·
   refine go (S' := T174.setTop (mkF m 203 #[si p1, si p2, si p3, si p4, si p5, si p6, sr k1, sr k2, si n1, si n2, si x0, si x1, si y0, si y1, sr x_163, sr x_167, sr b170, si ((p6 &&& (2147483647 : Int32)) % (3 : Int32)), .unset, .unset] [.null, (.ref b170)])) (fun t k => XS.icmpNo X174.here hx rfl (hb hby at_197) rfl (teq hc182).2 (XS.aload X174.here hx rfl (hb hby at_200) rfl rfl (XS.aconstNull X174.here hx rfl (hb hby at_202) k))) ?_
   have f184 : Exa Z T174.heap b170 "com/example/sallyport/sallyport/PolicyReference" := (A170.keep Kq174)
   obtain ⟨v183, T183, L183, X183, hQ183, st183⟩ := callV X174 hx hZ (y := y_6) (z := y_6) hown (ww hw 52 rfl) (ww hw 53 rfl) (notFace_of_selects (args := #[]) (mvT hZ (ww hw 55 rfl))) (ww hw 55 rfl) (ww hw 54 rfl) (by decide) (backOf (W := 0) (rmEn l Z a0 hw [] b170 T174.heap n0 (Nat.le_trans Z0 K176.1) ) hZ (ww hw 56 rfl) (ww hw 40 rfl) (by decide) (by decide)) f184 (g := (mkF m 203 #[si p1, si p2, si p3, si p4, si p5, si p6, sr k1, sr k2, si n1, si n2, si x0, si x1, si y0, si y1, sr x_163, sr x_167, sr b170, si ((p6 &&& (2147483647 : Int32)) % (3 : Int32)), .unset, .unset] [.null, (.ref b170)])) rfl (by rw [hml]; rfl) (kc := 0) (ks := 0) (argsL := [.null]) (rest := []) (lenOf pd_2 rfl) rfl (mr0 rfl) (hb hby at_203) rfl (by decide) (by decide)
   obtain ⟨rfl, N183q, e183⟩ := hQ183
   have N183 := Fr.app N174 N183q
   refine go (S' := T183.setTop (mkF m 206 #[si p1, si p2, si p3, si p4, si p5, si p6, sr k1, sr k2, si n1, si n2, si x0, si x1, si y0, si y1, sr x_163, sr x_167, sr b170, si ((p6 &&& (2147483647 : Int32)) % (3 : Int32)), .unset, .unset] [(.int 0)])) st183 ?_
   have hc185 : (0 : Int32) = (0 : Int32) := by decide
   refine go (S' := T183.setTop (mkF m 214 #[si p1, si p2, si p3, si p4, si p5, si p6, sr k1, sr k2, si n1, si n2, si x0, si x1, si y0, si y1, sr x_163, sr x_167, sr b170, si ((p6 &&& (2147483647 : Int32)) % (3 : Int32)), .unset, .unset] [(.int 1)])) (fun t k => XS.ifNo X183.here hx rfl (hb hby at_206) rfl ((if0 _ _).trans (teq hc185).2) (XS.iconst X183.here hx rfl (hb hby at_209) (XS.goto X183.here hx rfl (pc0 := 210) (pc' := 214) rfl (hb hby at_210) (by decide) (by decide) k))) ?_
   refine finNW X183 hx hk (t := .boolean) hret (by simp) hS hkS hZ (own_EW hw) C175 e183 (hb hby at_214) (by decide) (by decide) ?_
   exact ⟨rfl, N183, K176⟩
  ·
   refine go (S' := T174.setTop (mkF m 215 #[si p1, si p2, si p3, si p4, si p5, si p6, sr k1, sr k2, si n1, si n2, si x0, si x1, si y0, si y1, sr x_163, sr x_167, sr b170, si ((p6 &&& (2147483647 : Int32)) % (3 : Int32)), .unset, .unset] [])) (fun t k => XS.icmpYes X174.here hx rfl (pc0 := 197) (pc' := 215) rfl (hb hby at_197) rfl (feq hc182).2 (by decide) (by decide) k) ?_
   obtain ⟨T186, h186, X186, e186, E186, A186, D186, -, st186⟩ := newO X174 hx hZ hown (ww hw 38 rfl) (ww hw 39 rfl) (ww hw 40 rfl) rfl (g := (mkF m 215 #[si p1, si p2, si p3, si p4, si p5, si p6, sr k1, sr k2, si n1, si n2, si x0, si x1, si y0, si y1, sr x_163, sr x_167, sr b170, si ((p6 &&& (2147483647 : Int32)) % (3 : Int32)), .unset, .unset] [])) rfl (hb hby at_215) (by decide) (by decide)
   obtain ⟨b186, g186⟩ : ∃ z, z = T174.heap.size := ⟨_, rfl⟩
   rw [← g186] at A186 D186 st186
   have f187 : Str Z T174.heap x_163 t_163 (0 : Int32) (own_mk n1 x0 x1) := ((f171.ext E170).keep Kq174 (ninS (Nat.ne_of_lt lt_x_163_b170) nin0) (ninS (Nat.ne_of_lt lt_t_163_b170) nin0))
   have lt_x_163_b186 : x_163 < b186 := by rw [g186]; exact f187.lt1
   have lt_t_163_b186 : t_163 < b186 := by rw [g186]; exact f187.lt2
   have f188 : Str Z T174.heap x_167 t_167 (0 : Int32) (own_mk n2 y0 y1) := ((q167_1.ext E170).keep Kq174 (ninS (Nat.ne_of_lt lt_x_167_b170) nin0) (ninS (Nat.ne_of_lt lt_t_167_b170) nin0))
   have lt_x_167_b186 : x_167 < b186 := by rw [g186]; exact f188.lt1
   have lt_t_167_b186 : t_167 < b186 := by rw [g186]; exact f188.lt2
   have f189 : Exa Z T174.heap b170 "com/example/sallyport/sallyport/PolicyReference" := (A170.keep Kq174)
   have lt_b170_b186 : b170 < b186 := by rw [g186]; exact f189.lt
   have ge_b186 : n0 ≤ b186 := by rw [g186]; exact (Nat.le_trans Z0 K176.1)
   have sz_b186 : h0.size ≤ b186 := by rw [g186]; exact K176.1
   have K190 : Keep h0 h186 [] := K176.ext E186
   have hkS := Nat.le_trans hkS E186.1
   have C191 := C175.trans (CHr.ext E186 C175.1)
   refine go (S' := T186.setTop (mkF m 223 #[si p1, si p2, si p3, si p4, si p5, si p6, sr k1, sr k2, si n1, si n2, si x0, si x1, si y0, si y1, sr x_163, sr x_167, sr b170, si ((p6 &&& (2147483647 : Int32)) % (3 : Int32)), .unset, .unset] [(.ref x_167), (.ref k2), (.ref b186), (.ref b186)])) (fun t k => st186 _ (XS.dup X186.here hx rfl (hb hby at_218) rfl rfl (XS.aload X186.here hx rfl (hb hby at_219) rfl rfl (XS.aload X186.here hx rfl (hb hby at_221) rfl rfl k)))) ?_
   obtain ⟨v192, T192, L192, X192, hQ192, st192⟩ := callSp X186 hx hZ (y := y_3) rfl hown (ww hw 41 rfl) (ww hw 42 rfl) (ww hw 43 rfl) (by decide) (backOf (W := 1) (rmPi l Z a0 hw [] b186 k2 x_167 h186 n0 (Nat.le_trans Z0 K190.1) A186 (D186 (Or.inr (ww hw 46 rfl)) (ty := (.object "com/example/sallyport/sallyport/PolicyKind")) (by decide)) (D186 (Or.inr (ww hw 48 rfl)) (ty := (.object "java/lang/String")) (by decide)) ge_b186) hZ (ww hw 43 rfl) (ww hw 40 rfl) (by decide) (by decide)) (g := (mkF m 223 #[si p1, si p2, si p3, si p4, si p5, si p6, sr k1, sr k2, si n1, si n2, si x0, si x1, si y0, si y1, sr x_163, sr x_167, sr b170, si ((p6 &&& (2147483647 : Int32)) % (3 : Int32)), .unset, .unset] [(.ref x_167), (.ref k2), (.ref b186), (.ref b186)])) rfl (by rw [hml]; rfl) (a := b186) (kc := 0) (ks := 0) (argsL := [(.ref k2), (.ref x_167)]) (rest := [(.ref b186)]) (lenOf pd_4 rfl) rfl (mr0 rfl) (hb hby at_223) e186 (by decide) (by decide)
   obtain ⟨rfl, N192q, Kq192, q192_0, q192_1⟩ := hQ192
   have N192 := Fr.app N174 N192q
   have hkS := Nat.le_trans hkS Kq192.1
   have C193 := C191.trans (CHr.keep Kq192 (allS (Safe.exa hZ.alike A186 (by decide) (by decide)) all0) C191.1)
   have K194 : Keep h0 T192.heap [] := K190.trans Kq192 (allS (P := fun x => x ∈ [] ∨ h0.size ≤ x) (Or.inr sz_b186) all0)
   refine go (S' := T192.setTop (mkF m 232 #[si p1, si p2, si p3, si p4, si p5, si p6, sr k1, sr k2, si n1, si n2, si x0, si x1, si y0, si y1, sr x_163, sr x_167, sr b170, si ((p6 &&& (2147483647 : Int32)) % (3 : Int32)), sr b186, .unset] [(.ref k2), (.ref k1)])) (fun t k => st192 _ (XS.astore X192.here hx rfl (hb hby at_226) rfl rfl (l' := #[si p1, si p2, si p3, si p4, si p5, si p6, sr k1, sr k2, si n1, si n2, si x0, si x1, si y0, si y1, sr x_163, sr x_167, sr b170, si ((p6 &&& (2147483647 : Int32)) % (3 : Int32)), sr b186, .unset]) rfl (XS.aload X192.here hx rfl (hb hby at_228) rfl rfl (XS.aload X192.here hx rfl (hb hby at_230) rfl rfl k)))) ?_
   by_cases hc195 : k1 = k2
   ·
    refine go (S' := T192.setTop (mkF m 247 #[si p1, si p2, si p3, si p4, si p5, si p6, sr k1, sr k2, si n1, si n2, si x0, si x1, si y0, si y1, sr x_163, sr x_167, sr b170, si ((p6 &&& (2147483647 : Int32)) % (3 : Int32)), sr b186, .unset] [(.int y1), (.int y0), (.int n2), (.int x1), (.int x0), (.int n1)])) (fun t k => Jvm.RoadKit.acmp (g := (mkF m 232 #[si p1, si p2, si p3, si p4, si p5, si p6, sr k1, sr k2, si n1, si n2, si x0, si x1, si y0, si y1, sr x_163, sr x_167, sr b170, si ((p6 &&& (2147483647 : Int32)) % (3 : Int32)), sr b186, .unset] [(.ref k2), (.ref k1)])) X192 hx rfl rfl rfl (pc0 := 232) (pc' := 235) (same := true) rfl (hb hby at_232) rfl (decide_eq_true (congrArg Value.ref hc195)) (by decide) (by decide) (XS.iload X192.here hx rfl (hb hby at_235) rfl (XS.iload X192.here hx rfl (hb hby at_237) rfl (XS.iload X192.here hx rfl (hb hby at_239) rfl (XS.iload X192.here hx rfl (hb hby at_241) rfl (XS.iload X192.here hx rfl (hb hby at_243) rfl (XS.iload X192.here hx rfl (hb hby at_245) rfl k))))))) ?_
    obtain ⟨v196, T196, L196, X196, hQ196, st196⟩ := callSt X192 hx hZ (y := y_4) hown (ww hw 49 rfl) (ww hw 50 rfl) (ww hw 6 rfl) (ww hw 51 rfl) (by decide) (backOf (W := 0) (rmSs l Z a0 hw [] n1 x0 x1 n2 y0 y1 T192.heap n0 (Nat.le_trans Z0 K194.1) h3n1 h3n2) hZ (ww hw 51 rfl) (ww hw 6 rfl) (by decide) (by decide)) (g := (mkF m 247 #[si p1, si p2, si p3, si p4, si p5, si p6, sr k1, sr k2, si n1, si n2, si x0, si x1, si y0, si y1, sr x_163, sr x_167, sr b170, si ((p6 &&& (2147483647 : Int32)) % (3 : Int32)), sr b186, .unset] [(.int y1), (.int y0), (.int n2), (.int x1), (.int x0), (.int n1)])) rfl (by rw [hml]; rfl) (kc := 0) (ks := 0) (argsL := [(.int n1), (.int x0), (.int x1), (.int n2), (.int y0), (.int y1)]) (rest := []) (lenOf pd_5 rfl) rfl (mr0 rfl) (hb hby at_247) rfl (by decide) (by decide)
    obtain ⟨rfl, N196q, e196⟩ := hQ196
    have N196 := Fr.app N192 N196q
    refine go (S' := T196.setTop (mkF m 250 #[si p1, si p2, si p3, si p4, si p5, si p6, sr k1, sr k2, si n1, si n2, si x0, si x1, si y0, si y1, sr x_163, sr x_167, sr b170, si ((p6 &&& (2147483647 : Int32)) % (3 : Int32)), sr b186, .unset] [(.int (if (own_mk n1 x0 x1) = (own_mk n2 y0 y1) then (1 : Int32) else (0 : Int32)))])) st196 ?_
    by_cases hc197 : (if (own_mk n1 x0 x1) = (own_mk n2 y0 y1) then (1 : Int32) else (0 : Int32)) = (0 : Int32)
    ·
     refine go (S' := T196.setTop (mkF m 264 #[si p1, si p2, si p3, si p4, si p5, si p6, sr k1, sr k2, si n1, si n2, si x0, si x1, si y0, si y1, sr x_163, sr x_167, sr b170, si ((p6 &&& (2147483647 : Int32)) % (3 : Int32)), sr b186, si 0] [(.ref b186), (.ref b170)])) (fun t k => XS.ifYes X196.here hx rfl (pc0 := 250) (pc' := 257) rfl (hb hby at_250) rfl ((if0 _ _).trans (teq hc197).1) (by decide) (by decide) (XS.iconst X196.here hx rfl (hb hby at_257) (XS.istore X196.here hx rfl (hb hby at_258) rfl (l' := #[si p1, si p2, si p3, si p4, si p5, si p6, sr k1, sr k2, si n1, si n2, si x0, si x1, si y0, si y1, sr x_163, sr x_167, sr b170, si ((p6 &&& (2147483647 : Int32)) % (3 : Int32)), sr b186, si 0]) rfl (XS.aload X196.here hx rfl (hb hby at_260) rfl rfl (XS.aload X196.here hx rfl (hb hby at_262) rfl rfl k))))) ?_
     have f198 : Exa Z T192.heap b186 "com/example/sallyport/sallyport/PolicyReference" := (A186.keep Kq192)
     have f199 : Fld Z T192.heap b170 "com/example/sallyport/sallyport/PolicyReference" "kind" "Lcom/example/sallyport/sallyport/PolicyKind;" (.ref k1) := ((q174_0.ext E186).keep Kq192 (ninS (Nat.ne_of_lt lt_b170_b186) nin0))
     have f200 : Fld Z T192.heap b170 "com/example/sallyport/sallyport/PolicyReference" "id" "Ljava/lang/String;" (.ref x_163) := ((q174_1.ext E186).keep Kq192 (ninS (Nat.ne_of_lt lt_b170_b186) nin0))
     have f201 : Str Z T192.heap x_163 t_163 (0 : Int32) (own_mk n1 x0 x1) := ((f187.ext E186).keep Kq192 (ninS (Nat.ne_of_lt lt_x_163_b186) nin0) (ninS (Nat.ne_of_lt lt_t_163_b186) nin0))
     have f202 : Str Z T192.heap x_167 t_167 (0 : Int32) (own_mk n2 y0 y1) := ((f188.ext E186).keep Kq192 (ninS (Nat.ne_of_lt lt_x_167_b186) nin0) (ninS (Nat.ne_of_lt lt_t_167_b186) nin0))
     have O203 : Old Z n0 T192.heap := O0.keep K194 all0
     have f205 : Exa Z T192.heap b170 "com/example/sallyport/sallyport/PolicyReference" := ((f189.ext E186).keep Kq192)
     obtain ⟨v204, T204, L204, X204, hQ204, st204⟩ := callV X196 hx hZ (y := y_6) (z := y_6) hown (ww hw 52 rfl) (ww hw 53 rfl) (notFace_of_selects (args := #[]) (mvT hZ (ww hw 55 rfl))) (ww hw 55 rfl) (ww hw 54 rfl) (by decide) (backOf (W := 0) (rmEq l Z a0 hw [] b170 b186 k1 x_163 k2 x_167 t_163 t_167 (own_mk n1 x0 x1) (own_mk n2 y0 y1) G1 T192.heap n0 (Nat.le_trans Z0 K194.1) f198 f199 f200 q192_0 q192_1 f201 f202 hp0 hG1 O203) hZ (ww hw 56 rfl) (ww hw 40 rfl) (by decide) (by decide)) f205 (g := (mkF m 264 #[si p1, si p2, si p3, si p4, si p5, si p6, sr k1, sr k2, si n1, si n2, si x0, si x1, si y0, si y1, sr x_163, sr x_167, sr b170, si ((p6 &&& (2147483647 : Int32)) % (3 : Int32)), sr b186, si 0] [(.ref b186), (.ref b170)])) rfl (by rw [hml]; rfl) (kc := 0) (ks := 0) (argsL := [(.ref b186)]) (rest := []) (lenOf pd_2 rfl) rfl (mr0 rfl) (hb hby at_264) e196 (by decide) (by decide)
     obtain ⟨rfl, N204q, e204⟩ := hQ204
     have N204 := Fr.app N196 N204q
     refine go (S' := T204.setTop (mkF m 269 #[si p1, si p2, si p3, si p4, si p5, si p6, sr k1, sr k2, si n1, si n2, si x0, si x1, si y0, si y1, sr x_163, sr x_167, sr b170, si ((p6 &&& (2147483647 : Int32)) % (3 : Int32)), sr b186, si 0] [(.int 0), (.int (if k1 = k2 then (if (own_mk n1 x0 x1) = (own_mk n2 y0 y1) then (1 : Int32) else (0 : Int32)) else (0 : Int32)))])) (fun t k => st204 _ (XS.iload X204.here hx rfl (hb hby at_267) rfl k)) ?_
     have hcs206 : ¬ ((own_mk n1 x0 x1) = (own_mk n2 y0 y1)) := by by_cases z : (own_mk n1 x0 x1) = (own_mk n2 y0 y1); exact absurd ((if_pos z).symm.trans hc197) (by decide); exact z
     have hc207 : (if k1 = k2 then (if (own_mk n1 x0 x1) = (own_mk n2 y0 y1) then (1 : Int32) else (0 : Int32)) else (0 : Int32)) = (0 : Int32) := by rw [if_pos hc195, if_neg hcs206]
     refine go (S' := T204.setTop (mkF m 276 #[si p1, si p2, si p3, si p4, si p5, si p6, sr k1, sr k2, si n1, si n2, si x0, si x1, si y0, si y1, sr x_163, sr x_167, sr b170, si ((p6 &&& (2147483647 : Int32)) % (3 : Int32)), sr b186, si 0] [(.ref b170), (.ref b186)])) (fun t k => XS.icmpNo X204.here hx rfl (hb hby at_269) rfl (teq hc207).2 (XS.aload X204.here hx rfl (hb hby at_272) rfl rfl (XS.aload X204.here hx rfl (hb hby at_274) rfl rfl k))) ?_
     obtain ⟨v208, T208, L208, X208, hQ208, st208⟩ := callV X204 hx hZ (y := y_6) (z := y_6) hown (ww hw 52 rfl) (ww hw 53 rfl) (notFace_of_selects (args := #[]) (mvT hZ (ww hw 55 rfl))) (ww hw 55 rfl) (ww hw 54 rfl) (by decide) (backOf (W := 0) (rmEq l Z a0 hw [] b186 b170 k2 x_167 k1 x_163 t_167 t_163 (own_mk n2 y0 y1) (own_mk n1 x0 x1) G1 T192.heap n0 (Nat.le_trans Z0 K194.1) f205 q192_0 q192_1 f199 f200 f202 f201 hp0 hG1 O203) hZ (ww hw 56 rfl) (ww hw 40 rfl) (by decide) (by decide)) f198 (g := (mkF m 276 #[si p1, si p2, si p3, si p4, si p5, si p6, sr k1, sr k2, si n1, si n2, si x0, si x1, si y0, si y1, sr x_163, sr x_167, sr b170, si ((p6 &&& (2147483647 : Int32)) % (3 : Int32)), sr b186, si 0] [(.ref b170), (.ref b186)])) rfl (by rw [hml]; rfl) (kc := 0) (ks := 0) (argsL := [(.ref b170)]) (rest := []) (lenOf pd_2 rfl) rfl (mr0 rfl) (hb hby at_276) e204 (by decide) (by decide)
     obtain ⟨rfl, N208q, e208⟩ := hQ208
     have N208 := Fr.app N204 N208q
     refine go (S' := T208.setTop (mkF m 281 #[si p1, si p2, si p3, si p4, si p5, si p6, sr k1, sr k2, si n1, si n2, si x0, si x1, si y0, si y1, sr x_163, sr x_167, sr b170, si ((p6 &&& (2147483647 : Int32)) % (3 : Int32)), sr b186, si 0] [(.int 0), (.int (if k2 = k1 then (if (own_mk n2 y0 y1) = (own_mk n1 x0 x1) then (1 : Int32) else (0 : Int32)) else (0 : Int32)))])) (fun t k => st208 _ (XS.iload X208.here hx rfl (hb hby at_279) rfl k)) ?_
     have hcs209 : ¬ ((own_mk n1 x0 x1) = (own_mk n2 y0 y1)) := by by_cases z : (own_mk n1 x0 x1) = (own_mk n2 y0 y1); exact absurd ((if_pos z).symm.trans hc197) (by decide); exact z
     have hc210 : (if k2 = k1 then (if (own_mk n2 y0 y1) = (own_mk n1 x0 x1) then (1 : Int32) else (0 : Int32)) else (0 : Int32)) = (0 : Int32) := by rw [if_pos hc195.symm, if_neg (fun q => hcs209 q.symm)]
     refine go (S' := T208.setTop (mkF m 288 #[si p1, si p2, si p3, si p4, si p5, si p6, sr k1, sr k2, si n1, si n2, si x0, si x1, si y0, si y1, sr x_163, sr x_167, sr b170, si ((p6 &&& (2147483647 : Int32)) % (3 : Int32)), sr b186, si 0] [(.ref b170), (.ref b170)])) (fun t k => XS.icmpNo X208.here hx rfl (hb hby at_281) rfl (teq hc210).2 (XS.aload X208.here hx rfl (hb hby at_284) rfl rfl (XS.aload X208.here hx rfl (hb hby at_286) rfl rfl k))) ?_
     obtain ⟨v211, T211, L211, X211, hQ211, st211⟩ := callV X208 hx hZ (y := y_6) (z := y_6) hown (ww hw 52 rfl) (ww hw 53 rfl) (notFace_of_selects (args := #[]) (mvT hZ (ww hw 55 rfl))) (ww hw 55 rfl) (ww hw 54 rfl) (by decide) (backOf (W := 0) (rmEq l Z a0 hw [] b170 b170 k1 x_163 k1 x_163 t_163 t_163 (own_mk n1 x0 x1) (own_mk n1 x0 x1) G1 T192.heap n0 (Nat.le_trans Z0 K194.1) f205 f199 f200 f199 f200 f201 f201 hp0 hG1 O203) hZ (ww hw 56 rfl) (ww hw 40 rfl) (by decide) (by decide)) f205 (g := (mkF m 288 #[si p1, si p2, si p3, si p4, si p5, si p6, sr k1, sr k2, si n1, si n2, si x0, si x1, si y0, si y1, sr x_163, sr x_167, sr b170, si ((p6 &&& (2147483647 : Int32)) % (3 : Int32)), sr b186, si 0] [(.ref b170), (.ref b170)])) rfl (by rw [hml]; rfl) (kc := 0) (ks := 0) (argsL := [(.ref b170)]) (rest := []) (lenOf pd_2 rfl) rfl (mr0 rfl) (hb hby at_288) e208 (by decide) (by decide)
     obtain ⟨rfl, N211q, e211⟩ := hQ211
     have N211 := Fr.app N208 N211q
     refine go (S' := T211.setTop (mkF m 291 #[si p1, si p2, si p3, si p4, si p5, si p6, sr k1, sr k2, si n1, si n2, si x0, si x1, si y0, si y1, sr x_163, sr x_167, sr b170, si ((p6 &&& (2147483647 : Int32)) % (3 : Int32)), sr b186, si 0] [(.int (if k1 = k1 then (if (own_mk n1 x0 x1) = (own_mk n1 x0 x1) then (1 : Int32) else (0 : Int32)) else (0 : Int32)))])) st211 ?_
     have hc212 : ¬ ((if k1 = k1 then (if (own_mk n1 x0 x1) = (own_mk n1 x0 x1) then (1 : Int32) else (0 : Int32)) else (0 : Int32)) = (0 : Int32)) := by rw [if_pos rfl, if_pos rfl]; decide
     refine go (S' := T211.setTop (mkF m 299 #[si p1, si p2, si p3, si p4, si p5, si p6, sr k1, sr k2, si n1, si n2, si x0, si x1, si y0, si y1, sr x_163, sr x_167, sr b170, si ((p6 &&& (2147483647 : Int32)) % (3 : Int32)), sr b186, si 0] [(.int 1)])) (fun t k => XS.ifNo X211.here hx rfl (hb hby at_291) rfl ((if0 _ _).trans (feq hc212).1) (XS.iconst X211.here hx rfl (hb hby at_294) (XS.goto X211.here hx rfl (pc0 := 295) (pc' := 299) rfl (hb hby at_295) (by decide) (by decide) k))) ?_
     refine finNW X211 hx hk (t := .boolean) hret (by simp) hS hkS hZ (own_EW hw) C193 e211 (hb hby at_299) (by decide) (by decide) ?_
     exact ⟨rfl, N211, K194⟩
    ·
     refine go (S' := T196.setTop (mkF m 264 #[si p1, si p2, si p3, si p4, si p5, si p6, sr k1, sr k2, si n1, si n2, si x0, si x1, si y0, si y1, sr x_163, sr x_167, sr b170, si ((p6 &&& (2147483647 : Int32)) % (3 : Int32)), sr b186, si 1] [(.ref b186), (.ref b170)])) (fun t k => XS.ifNo X196.here hx rfl (hb hby at_250) rfl ((if0 _ _).trans (feq hc197).1) (XS.iconst X196.here hx rfl (hb hby at_253) (XS.goto X196.here hx rfl (pc0 := 254) (pc' := 258) rfl (hb hby at_254) (by decide) (by decide) (XS.istore X196.here hx rfl (hb hby at_258) rfl (l' := #[si p1, si p2, si p3, si p4, si p5, si p6, sr k1, sr k2, si n1, si n2, si x0, si x1, si y0, si y1, sr x_163, sr x_167, sr b170, si ((p6 &&& (2147483647 : Int32)) % (3 : Int32)), sr b186, si 1]) rfl (XS.aload X196.here hx rfl (hb hby at_260) rfl rfl (XS.aload X196.here hx rfl (hb hby at_262) rfl rfl k)))))) ?_
     have f213 : Exa Z T192.heap b186 "com/example/sallyport/sallyport/PolicyReference" := (A186.keep Kq192)
     have f214 : Fld Z T192.heap b170 "com/example/sallyport/sallyport/PolicyReference" "kind" "Lcom/example/sallyport/sallyport/PolicyKind;" (.ref k1) := ((q174_0.ext E186).keep Kq192 (ninS (Nat.ne_of_lt lt_b170_b186) nin0))
     have f215 : Fld Z T192.heap b170 "com/example/sallyport/sallyport/PolicyReference" "id" "Ljava/lang/String;" (.ref x_163) := ((q174_1.ext E186).keep Kq192 (ninS (Nat.ne_of_lt lt_b170_b186) nin0))
     have f216 : Str Z T192.heap x_163 t_163 (0 : Int32) (own_mk n1 x0 x1) := ((f187.ext E186).keep Kq192 (ninS (Nat.ne_of_lt lt_x_163_b186) nin0) (ninS (Nat.ne_of_lt lt_t_163_b186) nin0))
     have f217 : Str Z T192.heap x_167 t_167 (0 : Int32) (own_mk n2 y0 y1) := ((f188.ext E186).keep Kq192 (ninS (Nat.ne_of_lt lt_x_167_b186) nin0) (ninS (Nat.ne_of_lt lt_t_167_b186) nin0))
     have O218 : Old Z n0 T192.heap := O0.keep K194 all0
     have f220 : Exa Z T192.heap b170 "com/example/sallyport/sallyport/PolicyReference" := ((f189.ext E186).keep Kq192)
     obtain ⟨v219, T219, L219, X219, hQ219, st219⟩ := callV X196 hx hZ (y := y_6) (z := y_6) hown (ww hw 52 rfl) (ww hw 53 rfl) (notFace_of_selects (args := #[]) (mvT hZ (ww hw 55 rfl))) (ww hw 55 rfl) (ww hw 54 rfl) (by decide) (backOf (W := 0) (rmEq l Z a0 hw [] b170 b186 k1 x_163 k2 x_167 t_163 t_167 (own_mk n1 x0 x1) (own_mk n2 y0 y1) G1 T192.heap n0 (Nat.le_trans Z0 K194.1) f213 f214 f215 q192_0 q192_1 f216 f217 hp0 hG1 O218) hZ (ww hw 56 rfl) (ww hw 40 rfl) (by decide) (by decide)) f220 (g := (mkF m 264 #[si p1, si p2, si p3, si p4, si p5, si p6, sr k1, sr k2, si n1, si n2, si x0, si x1, si y0, si y1, sr x_163, sr x_167, sr b170, si ((p6 &&& (2147483647 : Int32)) % (3 : Int32)), sr b186, si 1] [(.ref b186), (.ref b170)])) rfl (by rw [hml]; rfl) (kc := 0) (ks := 0) (argsL := [(.ref b186)]) (rest := []) (lenOf pd_2 rfl) rfl (mr0 rfl) (hb hby at_264) e196 (by decide) (by decide)
     obtain ⟨rfl, N219q, e219⟩ := hQ219
     have N219 := Fr.app N196 N219q
     refine go (S' := T219.setTop (mkF m 269 #[si p1, si p2, si p3, si p4, si p5, si p6, sr k1, sr k2, si n1, si n2, si x0, si x1, si y0, si y1, sr x_163, sr x_167, sr b170, si ((p6 &&& (2147483647 : Int32)) % (3 : Int32)), sr b186, si 1] [(.int 1), (.int (if k1 = k2 then (if (own_mk n1 x0 x1) = (own_mk n2 y0 y1) then (1 : Int32) else (0 : Int32)) else (0 : Int32)))])) (fun t k => st219 _ (XS.iload X219.here hx rfl (hb hby at_267) rfl k)) ?_
     have hcs221 : (own_mk n1 x0 x1) = (own_mk n2 y0 y1) := by by_cases z : (own_mk n1 x0 x1) = (own_mk n2 y0 y1); exact z; exact absurd (if_neg z) hc197
     have hc222 : (if k1 = k2 then (if (own_mk n1 x0 x1) = (own_mk n2 y0 y1) then (1 : Int32) else (0 : Int32)) else (0 : Int32)) = (1 : Int32) := by rw [if_pos hc195, if_pos hcs221]
     refine go (S' := T219.setTop (mkF m 276 #[si p1, si p2, si p3, si p4, si p5, si p6, sr k1, sr k2, si n1, si n2, si x0, si x1, si y0, si y1, sr x_163, sr x_167, sr b170, si ((p6 &&& (2147483647 : Int32)) % (3 : Int32)), sr b186, si 1] [(.ref b170), (.ref b186)])) (fun t k => XS.icmpNo X219.here hx rfl (hb hby at_269) rfl (teq hc222).2 (XS.aload X219.here hx rfl (hb hby at_272) rfl rfl (XS.aload X219.here hx rfl (hb hby at_274) rfl rfl k))) ?_
     obtain ⟨v223, T223, L223, X223, hQ223, st223⟩ := callV X219 hx hZ (y := y_6) (z := y_6) hown (ww hw 52 rfl) (ww hw 53 rfl) (notFace_of_selects (args := #[]) (mvT hZ (ww hw 55 rfl))) (ww hw 55 rfl) (ww hw 54 rfl) (by decide) (backOf (W := 0) (rmEq l Z a0 hw [] b186 b170 k2 x_167 k1 x_163 t_167 t_163 (own_mk n2 y0 y1) (own_mk n1 x0 x1) G1 T192.heap n0 (Nat.le_trans Z0 K194.1) f220 q192_0 q192_1 f214 f215 f217 f216 hp0 hG1 O218) hZ (ww hw 56 rfl) (ww hw 40 rfl) (by decide) (by decide)) f213 (g := (mkF m 276 #[si p1, si p2, si p3, si p4, si p5, si p6, sr k1, sr k2, si n1, si n2, si x0, si x1, si y0, si y1, sr x_163, sr x_167, sr b170, si ((p6 &&& (2147483647 : Int32)) % (3 : Int32)), sr b186, si 1] [(.ref b170), (.ref b186)])) rfl (by rw [hml]; rfl) (kc := 0) (ks := 0) (argsL := [(.ref b170)]) (rest := []) (lenOf pd_2 rfl) rfl (mr0 rfl) (hb hby at_276) e219 (by decide) (by decide)
     obtain ⟨rfl, N223q, e223⟩ := hQ223
     have N223 := Fr.app N219 N223q
     refine go (S' := T223.setTop (mkF m 281 #[si p1, si p2, si p3, si p4, si p5, si p6, sr k1, sr k2, si n1, si n2, si x0, si x1, si y0, si y1, sr x_163, sr x_167, sr b170, si ((p6 &&& (2147483647 : Int32)) % (3 : Int32)), sr b186, si 1] [(.int 1), (.int (if k2 = k1 then (if (own_mk n2 y0 y1) = (own_mk n1 x0 x1) then (1 : Int32) else (0 : Int32)) else (0 : Int32)))])) (fun t k => st223 _ (XS.iload X223.here hx rfl (hb hby at_279) rfl k)) ?_
     have hcs224 : (own_mk n1 x0 x1) = (own_mk n2 y0 y1) := by by_cases z : (own_mk n1 x0 x1) = (own_mk n2 y0 y1); exact z; exact absurd (if_neg z) hc197
     have hc225 : (if k2 = k1 then (if (own_mk n2 y0 y1) = (own_mk n1 x0 x1) then (1 : Int32) else (0 : Int32)) else (0 : Int32)) = (1 : Int32) := by rw [if_pos hc195.symm, if_pos hcs224.symm]
     refine go (S' := T223.setTop (mkF m 288 #[si p1, si p2, si p3, si p4, si p5, si p6, sr k1, sr k2, si n1, si n2, si x0, si x1, si y0, si y1, sr x_163, sr x_167, sr b170, si ((p6 &&& (2147483647 : Int32)) % (3 : Int32)), sr b186, si 1] [(.ref b170), (.ref b170)])) (fun t k => XS.icmpNo X223.here hx rfl (hb hby at_281) rfl (teq hc225).2 (XS.aload X223.here hx rfl (hb hby at_284) rfl rfl (XS.aload X223.here hx rfl (hb hby at_286) rfl rfl k))) ?_
     obtain ⟨v226, T226, L226, X226, hQ226, st226⟩ := callV X223 hx hZ (y := y_6) (z := y_6) hown (ww hw 52 rfl) (ww hw 53 rfl) (notFace_of_selects (args := #[]) (mvT hZ (ww hw 55 rfl))) (ww hw 55 rfl) (ww hw 54 rfl) (by decide) (backOf (W := 0) (rmEq l Z a0 hw [] b170 b170 k1 x_163 k1 x_163 t_163 t_163 (own_mk n1 x0 x1) (own_mk n1 x0 x1) G1 T192.heap n0 (Nat.le_trans Z0 K194.1) f220 f214 f215 f214 f215 f216 f216 hp0 hG1 O218) hZ (ww hw 56 rfl) (ww hw 40 rfl) (by decide) (by decide)) f220 (g := (mkF m 288 #[si p1, si p2, si p3, si p4, si p5, si p6, sr k1, sr k2, si n1, si n2, si x0, si x1, si y0, si y1, sr x_163, sr x_167, sr b170, si ((p6 &&& (2147483647 : Int32)) % (3 : Int32)), sr b186, si 1] [(.ref b170), (.ref b170)])) rfl (by rw [hml]; rfl) (kc := 0) (ks := 0) (argsL := [(.ref b170)]) (rest := []) (lenOf pd_2 rfl) rfl (mr0 rfl) (hb hby at_288) e223 (by decide) (by decide)
     obtain ⟨rfl, N226q, e226⟩ := hQ226
     have N226 := Fr.app N223 N226q
     refine go (S' := T226.setTop (mkF m 291 #[si p1, si p2, si p3, si p4, si p5, si p6, sr k1, sr k2, si n1, si n2, si x0, si x1, si y0, si y1, sr x_163, sr x_167, sr b170, si ((p6 &&& (2147483647 : Int32)) % (3 : Int32)), sr b186, si 1] [(.int (if k1 = k1 then (if (own_mk n1 x0 x1) = (own_mk n1 x0 x1) then (1 : Int32) else (0 : Int32)) else (0 : Int32)))])) st226 ?_
     have hc227 : ¬ ((if k1 = k1 then (if (own_mk n1 x0 x1) = (own_mk n1 x0 x1) then (1 : Int32) else (0 : Int32)) else (0 : Int32)) = (0 : Int32)) := by rw [if_pos rfl, if_pos rfl]; decide
     refine go (S' := T226.setTop (mkF m 299 #[si p1, si p2, si p3, si p4, si p5, si p6, sr k1, sr k2, si n1, si n2, si x0, si x1, si y0, si y1, sr x_163, sr x_167, sr b170, si ((p6 &&& (2147483647 : Int32)) % (3 : Int32)), sr b186, si 1] [(.int 1)])) (fun t k => XS.ifNo X226.here hx rfl (hb hby at_291) rfl ((if0 _ _).trans (feq hc227).1) (XS.iconst X226.here hx rfl (hb hby at_294) (XS.goto X226.here hx rfl (pc0 := 295) (pc' := 299) rfl (hb hby at_295) (by decide) (by decide) k))) ?_
     refine finNW X226 hx hk (t := .boolean) hret (by simp) hS hkS hZ (own_EW hw) C193 e226 (hb hby at_299) (by decide) (by decide) ?_
     exact ⟨rfl, N226, K194⟩
   ·
    refine go (S' := T192.setTop (mkF m 264 #[si p1, si p2, si p3, si p4, si p5, si p6, sr k1, sr k2, si n1, si n2, si x0, si x1, si y0, si y1, sr x_163, sr x_167, sr b170, si ((p6 &&& (2147483647 : Int32)) % (3 : Int32)), sr b186, si 0] [(.ref b186), (.ref b170)])) (fun t k => Jvm.RoadKit.acmp (g := (mkF m 232 #[si p1, si p2, si p3, si p4, si p5, si p6, sr k1, sr k2, si n1, si n2, si x0, si x1, si y0, si y1, sr x_163, sr x_167, sr b170, si ((p6 &&& (2147483647 : Int32)) % (3 : Int32)), sr b186, .unset] [(.ref k2), (.ref k1)])) X192 hx rfl rfl rfl (pc0 := 232) (pc' := 257) (same := false) rfl (hb hby at_232) rfl (decide_eq_false fun q => hc195 (Value.ref.inj q)) (by decide) (by decide) (XS.iconst X192.here hx rfl (hb hby at_257) (XS.istore X192.here hx rfl (hb hby at_258) rfl (l' := #[si p1, si p2, si p3, si p4, si p5, si p6, sr k1, sr k2, si n1, si n2, si x0, si x1, si y0, si y1, sr x_163, sr x_167, sr b170, si ((p6 &&& (2147483647 : Int32)) % (3 : Int32)), sr b186, si 0]) rfl (XS.aload X192.here hx rfl (hb hby at_260) rfl rfl (XS.aload X192.here hx rfl (hb hby at_262) rfl rfl k))))) ?_
    have f228 : Exa Z T192.heap b186 "com/example/sallyport/sallyport/PolicyReference" := (A186.keep Kq192)
    have f229 : Fld Z T192.heap b170 "com/example/sallyport/sallyport/PolicyReference" "kind" "Lcom/example/sallyport/sallyport/PolicyKind;" (.ref k1) := ((q174_0.ext E186).keep Kq192 (ninS (Nat.ne_of_lt lt_b170_b186) nin0))
    have f230 : Fld Z T192.heap b170 "com/example/sallyport/sallyport/PolicyReference" "id" "Ljava/lang/String;" (.ref x_163) := ((q174_1.ext E186).keep Kq192 (ninS (Nat.ne_of_lt lt_b170_b186) nin0))
    have f231 : Str Z T192.heap x_163 t_163 (0 : Int32) (own_mk n1 x0 x1) := ((f187.ext E186).keep Kq192 (ninS (Nat.ne_of_lt lt_x_163_b186) nin0) (ninS (Nat.ne_of_lt lt_t_163_b186) nin0))
    have f232 : Str Z T192.heap x_167 t_167 (0 : Int32) (own_mk n2 y0 y1) := ((f188.ext E186).keep Kq192 (ninS (Nat.ne_of_lt lt_x_167_b186) nin0) (ninS (Nat.ne_of_lt lt_t_167_b186) nin0))
    have O233 : Old Z n0 T192.heap := O0.keep K194 all0
    have f235 : Exa Z T192.heap b170 "com/example/sallyport/sallyport/PolicyReference" := ((f189.ext E186).keep Kq192)
    obtain ⟨v234, T234, L234, X234, hQ234, st234⟩ := callV X192 hx hZ (y := y_6) (z := y_6) hown (ww hw 52 rfl) (ww hw 53 rfl) (notFace_of_selects (args := #[]) (mvT hZ (ww hw 55 rfl))) (ww hw 55 rfl) (ww hw 54 rfl) (by decide) (backOf (W := 0) (rmEq l Z a0 hw [] b170 b186 k1 x_163 k2 x_167 t_163 t_167 (own_mk n1 x0 x1) (own_mk n2 y0 y1) G1 T192.heap n0 (Nat.le_trans Z0 K194.1) f228 f229 f230 q192_0 q192_1 f231 f232 hp0 hG1 O233) hZ (ww hw 56 rfl) (ww hw 40 rfl) (by decide) (by decide)) f235 (g := (mkF m 264 #[si p1, si p2, si p3, si p4, si p5, si p6, sr k1, sr k2, si n1, si n2, si x0, si x1, si y0, si y1, sr x_163, sr x_167, sr b170, si ((p6 &&& (2147483647 : Int32)) % (3 : Int32)), sr b186, si 0] [(.ref b186), (.ref b170)])) rfl (by rw [hml]; rfl) (kc := 0) (ks := 0) (argsL := [(.ref b186)]) (rest := []) (lenOf pd_2 rfl) rfl (mr0 rfl) (hb hby at_264) rfl (by decide) (by decide)
    obtain ⟨rfl, N234q, e234⟩ := hQ234
    have N234 := Fr.app N192 N234q
    refine go (S' := T234.setTop (mkF m 269 #[si p1, si p2, si p3, si p4, si p5, si p6, sr k1, sr k2, si n1, si n2, si x0, si x1, si y0, si y1, sr x_163, sr x_167, sr b170, si ((p6 &&& (2147483647 : Int32)) % (3 : Int32)), sr b186, si 0] [(.int 0), (.int (if k1 = k2 then (if (own_mk n1 x0 x1) = (own_mk n2 y0 y1) then (1 : Int32) else (0 : Int32)) else (0 : Int32)))])) (fun t k => st234 _ (XS.iload X234.here hx rfl (hb hby at_267) rfl k)) ?_
    have hc236 : (if k1 = k2 then (if (own_mk n1 x0 x1) = (own_mk n2 y0 y1) then (1 : Int32) else (0 : Int32)) else (0 : Int32)) = (0 : Int32) := by rw [if_neg hc195]
    refine go (S' := T234.setTop (mkF m 276 #[si p1, si p2, si p3, si p4, si p5, si p6, sr k1, sr k2, si n1, si n2, si x0, si x1, si y0, si y1, sr x_163, sr x_167, sr b170, si ((p6 &&& (2147483647 : Int32)) % (3 : Int32)), sr b186, si 0] [(.ref b170), (.ref b186)])) (fun t k => XS.icmpNo X234.here hx rfl (hb hby at_269) rfl (teq hc236).2 (XS.aload X234.here hx rfl (hb hby at_272) rfl rfl (XS.aload X234.here hx rfl (hb hby at_274) rfl rfl k))) ?_
    obtain ⟨v237, T237, L237, X237, hQ237, st237⟩ := callV X234 hx hZ (y := y_6) (z := y_6) hown (ww hw 52 rfl) (ww hw 53 rfl) (notFace_of_selects (args := #[]) (mvT hZ (ww hw 55 rfl))) (ww hw 55 rfl) (ww hw 54 rfl) (by decide) (backOf (W := 0) (rmEq l Z a0 hw [] b186 b170 k2 x_167 k1 x_163 t_167 t_163 (own_mk n2 y0 y1) (own_mk n1 x0 x1) G1 T192.heap n0 (Nat.le_trans Z0 K194.1) f235 q192_0 q192_1 f229 f230 f232 f231 hp0 hG1 O233) hZ (ww hw 56 rfl) (ww hw 40 rfl) (by decide) (by decide)) f228 (g := (mkF m 276 #[si p1, si p2, si p3, si p4, si p5, si p6, sr k1, sr k2, si n1, si n2, si x0, si x1, si y0, si y1, sr x_163, sr x_167, sr b170, si ((p6 &&& (2147483647 : Int32)) % (3 : Int32)), sr b186, si 0] [(.ref b170), (.ref b186)])) rfl (by rw [hml]; rfl) (kc := 0) (ks := 0) (argsL := [(.ref b170)]) (rest := []) (lenOf pd_2 rfl) rfl (mr0 rfl) (hb hby at_276) e234 (by decide) (by decide)
    obtain ⟨rfl, N237q, e237⟩ := hQ237
    have N237 := Fr.app N234 N237q
    refine go (S' := T237.setTop (mkF m 281 #[si p1, si p2, si p3, si p4, si p5, si p6, sr k1, sr k2, si n1, si n2, si x0, si x1, si y0, si y1, sr x_163, sr x_167, sr b170, si ((p6 &&& (2147483647 : Int32)) % (3 : Int32)), sr b186, si 0] [(.int 0), (.int (if k2 = k1 then (if (own_mk n2 y0 y1) = (own_mk n1 x0 x1) then (1 : Int32) else (0 : Int32)) else (0 : Int32)))])) (fun t k => st237 _ (XS.iload X237.here hx rfl (hb hby at_279) rfl k)) ?_
    have hc238 : (if k2 = k1 then (if (own_mk n2 y0 y1) = (own_mk n1 x0 x1) then (1 : Int32) else (0 : Int32)) else (0 : Int32)) = (0 : Int32) := by rw [if_neg (fun q => hc195 q.symm)]
    refine go (S' := T237.setTop (mkF m 288 #[si p1, si p2, si p3, si p4, si p5, si p6, sr k1, sr k2, si n1, si n2, si x0, si x1, si y0, si y1, sr x_163, sr x_167, sr b170, si ((p6 &&& (2147483647 : Int32)) % (3 : Int32)), sr b186, si 0] [(.ref b170), (.ref b170)])) (fun t k => XS.icmpNo X237.here hx rfl (hb hby at_281) rfl (teq hc238).2 (XS.aload X237.here hx rfl (hb hby at_284) rfl rfl (XS.aload X237.here hx rfl (hb hby at_286) rfl rfl k))) ?_
    obtain ⟨v239, T239, L239, X239, hQ239, st239⟩ := callV X237 hx hZ (y := y_6) (z := y_6) hown (ww hw 52 rfl) (ww hw 53 rfl) (notFace_of_selects (args := #[]) (mvT hZ (ww hw 55 rfl))) (ww hw 55 rfl) (ww hw 54 rfl) (by decide) (backOf (W := 0) (rmEq l Z a0 hw [] b170 b170 k1 x_163 k1 x_163 t_163 t_163 (own_mk n1 x0 x1) (own_mk n1 x0 x1) G1 T192.heap n0 (Nat.le_trans Z0 K194.1) f235 f229 f230 f229 f230 f231 f231 hp0 hG1 O233) hZ (ww hw 56 rfl) (ww hw 40 rfl) (by decide) (by decide)) f235 (g := (mkF m 288 #[si p1, si p2, si p3, si p4, si p5, si p6, sr k1, sr k2, si n1, si n2, si x0, si x1, si y0, si y1, sr x_163, sr x_167, sr b170, si ((p6 &&& (2147483647 : Int32)) % (3 : Int32)), sr b186, si 0] [(.ref b170), (.ref b170)])) rfl (by rw [hml]; rfl) (kc := 0) (ks := 0) (argsL := [(.ref b170)]) (rest := []) (lenOf pd_2 rfl) rfl (mr0 rfl) (hb hby at_288) e237 (by decide) (by decide)
    obtain ⟨rfl, N239q, e239⟩ := hQ239
    have N239 := Fr.app N237 N239q
    refine go (S' := T239.setTop (mkF m 291 #[si p1, si p2, si p3, si p4, si p5, si p6, sr k1, sr k2, si n1, si n2, si x0, si x1, si y0, si y1, sr x_163, sr x_167, sr b170, si ((p6 &&& (2147483647 : Int32)) % (3 : Int32)), sr b186, si 0] [(.int (if k1 = k1 then (if (own_mk n1 x0 x1) = (own_mk n1 x0 x1) then (1 : Int32) else (0 : Int32)) else (0 : Int32)))])) st239 ?_
    have hc240 : ¬ ((if k1 = k1 then (if (own_mk n1 x0 x1) = (own_mk n1 x0 x1) then (1 : Int32) else (0 : Int32)) else (0 : Int32)) = (0 : Int32)) := by rw [if_pos rfl, if_pos rfl]; decide
    refine go (S' := T239.setTop (mkF m 299 #[si p1, si p2, si p3, si p4, si p5, si p6, sr k1, sr k2, si n1, si n2, si x0, si x1, si y0, si y1, sr x_163, sr x_167, sr b170, si ((p6 &&& (2147483647 : Int32)) % (3 : Int32)), sr b186, si 0] [(.int 1)])) (fun t k => XS.ifNo X239.here hx rfl (hb hby at_291) rfl ((if0 _ _).trans (feq hc240).1) (XS.iconst X239.here hx rfl (hb hby at_294) (XS.goto X239.here hx rfl (pc0 := 295) (pc' := 299) rfl (hb hby at_295) (by decide) (by decide) k))) ?_
    refine finNW X239 hx hk (t := .boolean) hret (by simp) hS hkS hZ (own_EW hw) C193 e239 (hb hby at_299) (by decide) (by decide) ?_
    exact ⟨rfl, N239, K194⟩
set_option maxRecDepth 65536 in
set_option maxHeartbeats 40000000 in
theorem comes_1 {Post : Tables → Env → Array Value → State → Outcome → State → Prop} (hpost : ∀ tb e args s v u, (limb_1_1.after args s (.returned v) u = true ∧ limb_1_2.after args s (.returned v) u = true ∧ True) → ReturnedEndW s (.returned v) u (Jvm.fieldLocs frame_1_writes args s ++ Jvm.arrayLocs frame_1_arrays args s ++ Jvm.staticLocs frame_1_statics s) 32 1152 → Post tb e args s (.returned v) u) :
    ArmFor flags0 classFile x code maxLocals ret World_1 tables_1 room_1 Calls_1 rest_1 Pre_1 Post := by
  intro l hfl _ _ p e ha hc hk s m args below hf hA hF happ hP
  obtain ⟨hcalls, hrest, hpre⟩ := hP
  obtain ⟨-, -, -, hnamed, -, -, -, hat⟩ := (Spec.applies_iff hf).mp happ
  obtain ⟨hg, hn⟩ := and_e (Cond.before_iff.mp (show (Jvm.Cond.and given_1 narrow_1).before args s = true from hpre))
  obtain ⟨hcount, hg0⟩ := and_e hg
  obtain ⟨ha0, hg1⟩ := and_e hg0
  obtain ⟨ha1, hg2⟩ := and_e hg1
  obtain ⟨ha2, hg3⟩ := and_e hg2
  obtain ⟨ha3, hg4⟩ := and_e hg3
  obtain ⟨ha4, hg5⟩ := and_e hg4
  have ha5 := hg5
  obtain ⟨w0, w1, w2, w3, w4, w5, rfl⟩ : ∃ w0 w1 w2 w3 w4 w5 : Value, args = #[w0, w1, w2, w3, w4, w5] := by
    have hs : args.size = 6 := by simpa [Cond.value, given_1] using hcount
    obtain ⟨L⟩ := args
    match L, hs with
    | [w0, w1, w2, w3, w4, w5], _ => exact ⟨w0, w1, w2, w3, w4, w5, rfl⟩
  have hw := fun d (hd : d ∈ tables_1) => atoms_spec (ws := Jvm.Cond.code x code maxLocals ret :: tables_1) hat d (List.mem_cons_of_mem _ hd)
  obtain ⟨hsets, hown0⟩ := atoms_of _ (rest_1_c_eq ▸ (show rest_1_c.before _ s = true from hrest))
  obtain ⟨i0, ei0⟩ := is_v ha0
  obtain rfl : w0 = (.int i0) := Option.some.inj ei0
  obtain ⟨i1, ei1⟩ := is_v ha1
  obtain rfl : w1 = (.int i1) := Option.some.inj ei1
  obtain ⟨i2, ei2⟩ := is_v ha2
  obtain rfl : w2 = (.int i2) := Option.some.inj ei2
  obtain ⟨i3, ei3⟩ := is_v ha3
  obtain rfl : w3 = (.int i3) := Option.some.inj ei3
  obtain ⟨i4, ei4⟩ := is_v ha4
  obtain rfl : w4 = (.int i4) := Option.some.inj ei4
  obtain ⟨i5, ei5⟩ := is_v ha5
  obtain rfl : w5 = (.int i5) := Option.some.inj ei5
  obtain ⟨hn_0, hr_0⟩ := and_e hn
  obtain ⟨hn_1, hr_1⟩ := and_e hr_0
  obtain ⟨hn_2, hr_2⟩ := and_e hr_1
  have hn_3 := hr_2
  obtain ⟨g241, eg241⟩ := is_v (Cond.before_iff.mp (hsets _ (List.mem_of_getElem? (i := 1) rfl)))
  have sg241 : Sta s s.heap "java/lang/String" "COMPACT_STRINGS" "Z" (.int g241) := Sta.start eg241 (Or.inl (hsets _ (List.mem_of_getElem? (i := 0) rfl)))
  obtain ⟨g242, eg242⟩ := exa_v hn_0
  have xg242 := Exa.start eg242 hn_0
  have sg242 : Sta s s.heap "com/example/sallyport/sallyport/PolicyKind" "POLICY" "Lcom/example/sallyport/sallyport/PolicyKind;" (.ref g242) := Sta.start eg242 (Or.inr ⟨(ww hw 1 rfl), (ww hw 2 rfl)⟩)
  obtain ⟨g243, eg243⟩ := exa_v hn_1
  have xg243 := Exa.start eg243 hn_1
  have sg243 : Sta s s.heap "com/example/sallyport/sallyport/PolicyKind" "POLICY_SET" "Lcom/example/sallyport/sallyport/PolicyKind;" (.ref g243) := Sta.start eg243 (Or.inr ⟨(ww hw 1 rfl), (ww hw 73 rfl)⟩)
  have c244 : ¬ (g241 = (0 : Int32)) := gotF (Cond.eq_ints eg241 (Term.int_eval (0))) (not_v (Cond.before_iff.mp (hsets _ (List.mem_of_getElem? (i := 2) rfl))))
  have hCH : CHv s consts_1 s.vm s.heap := CHv.start (own_EW hw) (fun p hp => hcalls.1 p hp) (show Jvm.Lit.compactW.before _ s = true from hsets _ (List.mem_of_getElem? (i := 2) rfl)) (ww hw 27 rfl) (ww hw 9 rfl)
  obtain ⟨n, o, h1, h2, h3, _, L, rfl, ⟨rfl, N, -⟩, -, hq⟩ := rmLaw l s _ hw tables_1 i0 i1 i2 i3 i4 i5 g241 g242 g243 s.heap s.heap.size (Nat.le_refl _) sg241 c244 sg242 sg243 (Old.start s) p e ha hc hk s m _ below hf ((Spec.applies_iff_loose hf).mp happ).1 ⟨rfl, State.Warmed39.refl s, rfl, hCH, all0⟩ trivial
  refine ⟨n, _, h1, h2, h3, hpost _ _ _ _ _ _ ⟨Cond.after_iff.mpr rfl, Cond.after_iff.mpr (eq_i res_at (Term.int_eval (1)) rfl), trivial⟩ ⟨hq.1, hq.2.1, hq.2.2.1, (hq.2.2.2.sift fun y hy => Or.inr (N y hy)).mono (by decide) (by decide)⟩⟩
theorem main_1_1 : Claimed_1_1 := comes_1 fun _ _ _ _ _ _ h hF => ⟨h.1, hF⟩
theorem main_1_2 : Claimed_1_2 := comes_1 fun _ _ _ _ _ _ h hF => ⟨h.2.1, hF⟩
end Jvm.Pilot.@@N@@
namespace Jvm.Pilot.@@N@@
open Jvm Jvm.ClassFile Sem Op Lib Jvm.Free Jvm.Stand Jvm.Pilot.@@N@@.Jvm.D
/-! MADE BY PROGRAM (witnessworld.py) out of the Statement's table words and the real class files: 23 classes; the members and pool entries that the words name. The judged class is class 1, her method 1. -/
namespace start1
open Jvm.ClassFile
def u (s : String) : CpInfo := .utf8 (stringToUtf16 s)
/-- a pool by its gaps: so many unusable entries, then the entry; so many at the end -/
def gap : Nat → List CpInfo → List CpInfo
  | 0, r => r
  | n + 1, r => .unusable :: gap n r
def poolList (es : List (Nat × CpInfo)) (last : Nat) : List CpInfo := es.foldr (fun e r => gap e.1 (e.2 :: r)) (gap last [])
def pool (es : List (Nat × CpInfo)) (last : Nat) : Array CpInfo := ⟨poolList es last⟩
def fileOf (pool : Array CpInfo) (this : Nat) (attrs : Array Attribute := #[]) (ms : Array MethodInfo := #[]) (fl : Nat := 33) (sup : Nat := 0) (ifs : Array Nat := #[]) (fds : Array FieldInfo := #[]) : ClassFile where
  minorVersion := 0
  majorVersion := 65
  constantPool := pool
  accessFlags := fl
  thisClass := this
  superClass := sup
  interfaces := ifs
  fields := fds
  methods := ms
  attributes := attrs
def plain (name : String) (sup : Option ClassId) : Class where
  name := name
  kind := .ordinary
  loader := none
  accessFlags := 33
  super := sup
  interfaces := #[]
  cf := none
  fields := #[]
  methods := #[]
  instanceTypes := #[]
  staticTypes := #[]
  resolved := #[]
  callSites := []
  init := .initialized
  statics := none
  mirror := none

def pool0 : Array CpInfo := pool [(5, u "<init>"), (0, u "()V"), (1, .class_ 10), (1, u "java/lang/Object")] 113

def k0c0 : Code := { maxStack := 0, maxLocals := 1, code := object_method_1_code, exceptionTable := #[], attributes := #[] }
def k0m0 : Method := { name := "<init>", desc := "()V", sig := { parameters := [], returnType := none }, accessFlags := 1, code := some k0c0 }
/-- java/lang/Object -/
def k0 : Class := { plain "java/lang/Object" none with
  accessFlags := 33
  interfaces := #[]
  cf := some (fileOf pool0 8 #[] #[{ accessFlags := 1, nameIndex := 5, descriptorIndex := 6, attributes := #[] }] 33 0 #[] #[])
  fields := #[]
  methods := #[k0m0]
  instanceTypes := #[]
  staticTypes := #[]
  resolved := Array.replicate 124 none
  statics := none }

def pool1 : Array CpInfo := pool [(2, .class_ 4), (1, u "java/lang/Object"), (0, u "<init>"), (0, u "()V"), (0, .fieldref 8 9), (0, .class_ 10), (0, .nameAndType 11 12), (0, u "com/example/sallyport/sallyport/PolicyKind"), (0, u "POLICY"), (0, u "Lcom/example/sallyport/sallyport/PolicyKind;"), (0, .fieldref 8 14), (0, .nameAndType 15 12), (0, u "POLICY_SET"), (0, .integer 2147483647), (0, .methodref 18 19), (0, .class_ 20), (0, .nameAndType 21 22), (0, u "com/example/sallyport/sallyport/PolicyReferenceEqualsPinLaw"), (0, u "make"), (0, u "(ICC)Ljava/lang/String;"), (0, .class_ 24), (0, u "com/example/sallyport/sallyport/PolicyReference"), (0, .methodref 23 26), (0, .nameAndType 5 27), (0, u "(Lcom/example/sallyport/sallyport/PolicyKind;Ljava/lang/String;)V"), (0, .methodref 23 29), (0, .nameAndType 30 31), (0, u "equals"), (0, u "(Ljava/lang/Object;)Z"), (0, .methodref 18 33), (0, .nameAndType 34 35), (0, u "sameText"), (0, u "(ICCICC)Z"), (0, .class_ 37), (0, u "java/lang/String"), (0, .methodref 36 39), (0, .nameAndType 5 40), (0, u "([C)V"), (2, u "law"), (0, u "(IIIIII)Z")] 3

def k1m0 : Method := { name := "<init>", desc := "()V", sig := { parameters := [], returnType := none }, accessFlags := 2, code := none }
def k1c1 : Code := { maxStack := 6, maxLocals := 20, code := code, exceptionTable := #[], attributes := #[] }
def k1m1 : Method := { name := "law", desc := "(IIIIII)Z", sig := { parameters := [.int, .int, .int, .int, .int, .int], returnType := some .boolean }, accessFlags := 9, code := some k1c1 }
def k1c2 : Code := { maxStack := 6, maxLocals := 3, code := method_3_code, exceptionTable := #[], attributes := #[] }
def k1m2 : Method := { name := "make", desc := "(ICC)Ljava/lang/String;", sig := { parameters := [.int, .char, .char], returnType := some (.object "java/lang/String") }, accessFlags := 10, code := some k1c2 }
def k1c3 : Code := { maxStack := 2, maxLocals := 6, code := method_4_code, exceptionTable := #[], attributes := #[] }
def k1m3 : Method := { name := "sameText", desc := "(ICCICC)Z", sig := { parameters := [.int, .char, .char, .int, .char, .char], returnType := some .boolean }, accessFlags := 10, code := some k1c3 }
/-- com/example/sallyport/sallyport/PolicyReferenceEqualsPinLaw -/
def k1 : Class := { plain "com/example/sallyport/sallyport/PolicyReferenceEqualsPinLaw" (some 0) with
  accessFlags := 49
  interfaces := #[]
  cf := some (fileOf pool1 18 #[] #[{ accessFlags := 2, nameIndex := 5, descriptorIndex := 6, attributes := #[] }, { accessFlags := 9, nameIndex := 43, descriptorIndex := 44, attributes := #[] }, { accessFlags := 10, nameIndex := 21, descriptorIndex := 22, attributes := #[] }, { accessFlags := 10, nameIndex := 34, descriptorIndex := 35, attributes := #[] }] 49 2 #[] #[])
  fields := #[]
  methods := #[k1m0, k1m1, k1m2, k1m3]
  instanceTypes := #[]
  staticTypes := #[]
  resolved := Array.replicate 48 none
  statics := none }

def pool2 : Array CpInfo := pool [(1, .class_ 2), (0, u "java/lang/constant/Constable"), (0, .class_ 4), (0, u "java/lang/Object")] 6

/-- java/lang/constant/Constable -/
def k2 : Class := { plain "java/lang/constant/Constable" (some 0) with
  accessFlags := 1537
  interfaces := #[]
  cf := some (fileOf pool2 1 #[] #[] 1537 3 #[] #[])
  fields := #[]
  methods := #[]
  instanceTypes := #[]
  staticTypes := #[]
  resolved := Array.replicate 11 none
  statics := none }

def pool3 : Array CpInfo := pool [(1, .class_ 2), (0, u "java/lang/Comparable"), (0, .class_ 4), (0, u "java/lang/Object")] 7

/-- java/lang/Comparable -/
def k3 : Class := { plain "java/lang/Comparable" (some 0) with
  accessFlags := 1537
  interfaces := #[]
  cf := some (fileOf pool3 1 #[] #[] 1537 3 #[] #[])
  fields := #[]
  methods := #[]
  instanceTypes := #[]
  staticTypes := #[]
  resolved := Array.replicate 12 none
  statics := none }

def pool4 : Array CpInfo := pool [(1, .class_ 2), (0, u "java/io/Serializable"), (0, .class_ 4), (0, u "java/lang/Object")] 2

/-- java/io/Serializable -/
def k4 : Class := { plain "java/io/Serializable" (some 0) with
  accessFlags := 1537
  interfaces := #[]
  cf := some (fileOf pool4 1 #[] #[] 1537 3 #[] #[])
  fields := #[]
  methods := #[]
  instanceTypes := #[]
  staticTypes := #[]
  resolved := Array.replicate 7 none
  statics := none }

def pool5 : Array CpInfo := pool [(2, .class_ 4), (1, u "java/lang/Enum"), (0, u "name"), (0, u "Ljava/lang/String;"), (2, u "ordinal"), (0, u "I"), (1, .class_ 14), (1, u "java/lang/Object"), (4, u "hash"), (86, .class_ 108), (1, u "java/lang/Enum$EnumDesc"), (2, .class_ 112), (0, u "java/lang/constant/Constable"), (0, .class_ 114), (0, u "java/lang/Comparable"), (0, .class_ 116), (0, u "java/io/Serializable")] 87

/-- java/lang/Enum -/
def k5 : Class := { plain "java/lang/Enum" (some 0) with
  accessFlags := 1057
  interfaces := #[2, 3, 4]
  cf := some (fileOf pool5 2 #[.nestMembers #[106]] #[] 1057 12 #[111, 113, 115] #[{ accessFlags := 18, nameIndex := 5, descriptorIndex := 6, attributes := #[] }, { accessFlags := 18, nameIndex := 9, descriptorIndex := 10, attributes := #[] }, { accessFlags := 2, nameIndex := 19, descriptorIndex := 10, attributes := #[] }])
  fields := #[{ name := "name", type := (.object "java/lang/String"), accessFlags := 18, slot := 0, constantValue := 0 }, { name := "ordinal", type := .int, accessFlags := 18, slot := 1, constantValue := 0 }, { name := "hash", type := .int, accessFlags := 2, slot := 2, constantValue := 0 }]
  methods := #[]
  instanceTypes := #[(.object "java/lang/String"), .int, .int]
  staticTypes := #[]
  resolved := Array.replicate 204 none
  statics := none }

def pool6 : Array CpInfo := pool [(1, .class_ 2), (0, u "com/example/sallyport/sallyport/PolicyKind"), (2, u "POLICY"), (0, u "Lcom/example/sallyport/sallyport/PolicyKind;"), (2, u "POLICY_SET"), (2, u "$VALUES"), (0, u "[Lcom/example/sallyport/sallyport/PolicyKind;"), (6, .class_ 22), (1, u "java/lang/Enum"), (8, u "elementName"), (0, u "Ljava/lang/String;"), (2, u "idAttribute"), (2, u "referenceName")] 72

/-- com/example/sallyport/sallyport/PolicyKind -/
def k6 : Class := { plain "com/example/sallyport/sallyport/PolicyKind" (some 5) with
  accessFlags := 16432
  interfaces := #[]
  cf := some (fileOf pool6 1 #[] #[] 16432 20 #[] #[{ accessFlags := 16409, nameIndex := 5, descriptorIndex := 6, attributes := #[] }, { accessFlags := 16409, nameIndex := 9, descriptorIndex := 6, attributes := #[] }, { accessFlags := 18, nameIndex := 31, descriptorIndex := 32, attributes := #[] }, { accessFlags := 18, nameIndex := 35, descriptorIndex := 32, attributes := #[] }, { accessFlags := 18, nameIndex := 38, descriptorIndex := 32, attributes := #[] }, { accessFlags := 4122, nameIndex := 12, descriptorIndex := 13, attributes := #[] }])
  fields := #[{ name := "POLICY", type := (.object "com/example/sallyport/sallyport/PolicyKind"), accessFlags := 16409, slot := 0, constantValue := 0 }, { name := "POLICY_SET", type := (.object "com/example/sallyport/sallyport/PolicyKind"), accessFlags := 16409, slot := 1, constantValue := 0 }, { name := "elementName", type := (.object "java/lang/String"), accessFlags := 18, slot := 3, constantValue := 0 }, { name := "idAttribute", type := (.object "java/lang/String"), accessFlags := 18, slot := 4, constantValue := 0 }, { name := "referenceName", type := (.object "java/lang/String"), accessFlags := 18, slot := 5, constantValue := 0 }, { name := "$VALUES", type := (.array (.object "com/example/sallyport/sallyport/PolicyKind")), accessFlags := 4122, slot := 2, constantValue := 0 }]
  methods := #[]
  instanceTypes := #[(.object "java/lang/String"), .int, .int, (.object "java/lang/String"), (.object "java/lang/String"), (.object "java/lang/String")]
  staticTypes := #[(.object "com/example/sallyport/sallyport/PolicyKind"), (.object "com/example/sallyport/sallyport/PolicyKind"), (.array (.object "com/example/sallyport/sallyport/PolicyKind"))]
  resolved := Array.replicate 111 none
  statics := some 0 }

def pool7 : Array CpInfo := pool [(2, .class_ 4), (1, u "java/lang/CharSequence"), (42, .class_ 48), (0, u "java/lang/CharSequence$1CodePointIterator"), (10, .class_ 60), (0, u "java/lang/CharSequence$1CharIterator"), (5, .class_ 67), (0, u "java/lang/Object")] 63

/-- java/lang/CharSequence -/
def k7 : Class := { plain "java/lang/CharSequence" (some 0) with
  accessFlags := 1537
  interfaces := #[]
  cf := some (fileOf pool7 2 #[.nestMembers #[47, 59]] #[] 1537 66 #[] #[])
  fields := #[]
  methods := #[]
  instanceTypes := #[]
  staticTypes := #[]
  resolved := Array.replicate 131 none
  statics := none }

def pool8 : Array CpInfo := pool [(1, .class_ 2), (0, u "java/lang/constant/ConstantDesc"), (0, .class_ 4), (0, u "java/lang/Object")] 32

/-- java/lang/constant/ConstantDesc -/
def k8 : Class := { plain "java/lang/constant/ConstantDesc" (some 0) with
  accessFlags := 1537
  interfaces := #[]
  cf := some (fileOf pool8 1 #[] #[] 1537 3 #[] #[])
  fields := #[]
  methods := #[]
  instanceTypes := #[]
  staticTypes := #[]
  resolved := Array.replicate 37 none
  statics := none }

def pool9 : Array CpInfo := pool [(1, .methodref 2 3), (0, .class_ 4), (0, .nameAndType 5 6), (0, u "java/lang/Object"), (0, u "<init>"), (0, u "()V"), (0, .string 8), (0, u ""), (0, .fieldref 10 11), (0, .class_ 12), (0, .nameAndType 13 14), (0, u "java/lang/String"), (0, u "value"), (0, u "[B"), (0, .fieldref 10 16), (0, .nameAndType 17 18), (0, u "coder"), (0, u "B"), (2, u "hash"), (0, u "I"), (2, u "hashIsZero"), (0, u "Z"), (0, .methodref 10 28), (0, .nameAndType 5 29), (0, u "([CIILjava/lang/Void;)V"), (8, .fieldref 10 39), (0, .nameAndType 40 26), (0, u "COMPACT_STRINGS"), (1, .class_ 44), (1, u "java/lang/StringUTF16"), (0, u "compress"), (1, .methodref 42 48), (0, .nameAndType 49 50), (0, u "coderFromArrayLen"), (0, u "([BI)B"), (56, .class_ 109), (1, u "java/lang/StringLatin1"), (67, .methodref 42 178), (0, .nameAndType 45 179), (0, u "([CII)[B"), (361, .methodref 107 542), (0, .nameAndType 543 544), (0, u "equals"), (0, u "([B[B)Z"), (28, u "(Ljava/lang/Object;)Z"), (1, .class_ 576), (0, u "java/lang/CharSequence"), (22, u "CASE_INSENSITIVE_ORDER"), (0, u "Ljava/util/Comparator;"), (409, u "([C)V"), (90, u "serialPersistentFields"), (0, u "[Ljava/io/ObjectStreamField;"), (0, .class_ 1104), (0, u "java/lang/String$CaseInsensitiveComparator"), (1, .class_ 1107), (0, u "java/io/Serializable"), (0, .class_ 1109), (0, u "java/lang/Comparable"), (0, .class_ 1111), (0, u "java/lang/constant/Constable"), (0, .class_ 1113), (0, u "java/lang/constant/ConstantDesc"), (2, u "serialVersionUID"), (0, u "J"), (3, u "REPL"), (0, u "C"), (2, u "LATIN1"), (1, u "UTF16")] 323

def k9m0 : Method := { name := "<init>", desc := "()V", sig := { parameters := [], returnType := none }, accessFlags := 1, code := none }
def k9c1 : Code := { maxStack := 5, maxLocals := 2, code := jdk_42_method_3_code, exceptionTable := #[], attributes := #[] }
def k9m1 : Method := { name := "<init>", desc := "([C)V", sig := { parameters := [(.array .char)], returnType := none }, accessFlags := 1, code := some k9c1 }
def k9c2 : Code := { maxStack := 2, maxLocals := 3, code := jdk_42_method_66_code, exceptionTable := #[], attributes := #[] }
def k9m2 : Method := { name := "equals", desc := "(Ljava/lang/Object;)Z", sig := { parameters := [(.object "java/lang/Object")], returnType := some .boolean }, accessFlags := 1, code := some k9c2 }
def k9c3 : Code := { maxStack := 4, maxLocals := 6, code := jdk_42_method_149_code, exceptionTable := #[], attributes := #[] }
def k9m3 : Method := { name := "<init>", desc := "([CIILjava/lang/Void;)V", sig := { parameters := [(.array .char), .int, .int, (.object "java/lang/Void")], returnType := none }, accessFlags := 2, code := some k9c3 }
/-- java/lang/String -/
def k9 : Class := { plain "java/lang/String" (some 0) with
  accessFlags := 49
  interfaces := #[4, 3, 7, 2, 8]
  cf := some (fileOf pool9 10 #[.nestMembers #[1103]] #[{ accessFlags := 1, nameIndex := 5, descriptorIndex := 6, attributes := #[] }, { accessFlags := 1, nameIndex := 5, descriptorIndex := 1010, attributes := #[] }, { accessFlags := 1, nameIndex := 543, descriptorIndex := 573, attributes := #[] }, { accessFlags := 2, nameIndex := 5, descriptorIndex := 29, attributes := #[] }] 49 2 #[1106, 1108, 575, 1110, 1112] #[{ accessFlags := 18, nameIndex := 13, descriptorIndex := 14, attributes := #[] }, { accessFlags := 18, nameIndex := 17, descriptorIndex := 18, attributes := #[] }, { accessFlags := 2, nameIndex := 21, descriptorIndex := 22, attributes := #[] }, { accessFlags := 2, nameIndex := 25, descriptorIndex := 26, attributes := #[] }, { accessFlags := 26, nameIndex := 1116, descriptorIndex := 1117, attributes := #[] }, { accessFlags := 24, nameIndex := 40, descriptorIndex := 26, attributes := #[] }, { accessFlags := 26, nameIndex := 1101, descriptorIndex := 1102, attributes := #[] }, { accessFlags := 26, nameIndex := 1121, descriptorIndex := 1122, attributes := #[] }, { accessFlags := 25, nameIndex := 599, descriptorIndex := 600, attributes := #[] }, { accessFlags := 24, nameIndex := 1125, descriptorIndex := 18, attributes := #[] }, { accessFlags := 24, nameIndex := 1127, descriptorIndex := 18, attributes := #[] }])
  fields := #[{ name := "value", type := (.array .byte), accessFlags := 18, slot := 0, constantValue := 0 }, { name := "coder", type := .byte, accessFlags := 18, slot := 1, constantValue := 0 }, { name := "hash", type := .int, accessFlags := 2, slot := 2, constantValue := 0 }, { name := "hashIsZero", type := .boolean, accessFlags := 2, slot := 3, constantValue := 0 }, { name := "serialVersionUID", type := .long, accessFlags := 26, slot := 0, constantValue := 0 }, { name := "COMPACT_STRINGS", type := .boolean, accessFlags := 24, slot := 1, constantValue := 0 }, { name := "serialPersistentFields", type := (.array (.object "java/io/ObjectStreamField")), accessFlags := 26, slot := 2, constantValue := 0 }, { name := "REPL", type := .char, accessFlags := 26, slot := 3, constantValue := 0 }, { name := "CASE_INSENSITIVE_ORDER", type := (.object "java/util/Comparator"), accessFlags := 25, slot := 4, constantValue := 0 }, { name := "LATIN1", type := .byte, accessFlags := 24, slot := 5, constantValue := 0 }, { name := "UTF16", type := .byte, accessFlags := 24, slot := 6, constantValue := 0 }]
  methods := #[k9m0, k9m1, k9m2, k9m3]
  instanceTypes := #[(.array .byte), .byte, .int, .boolean]
  staticTypes := #[.long, .boolean, (.array (.object "java/io/ObjectStreamField")), .char, (.object "java/util/Comparator"), .byte, .byte]
  resolved := Array.replicate 1451 none
  statics := some 1 }

def pool10 : Array CpInfo := pool [(6, .class_ 8), (1, u "java/lang/Object"), (0, u "<init>"), (0, u "()V"), (1, .class_ 14), (1, u "java/lang/StringUTF16"), (31, u "$assertionsDisabled"), (0, u "Z"), (13, u "HI_BYTE_SHIFT"), (0, u "I"), (2, u "LO_BYTE_SHIFT"), (49, .methodref 12 116), (0, .nameAndType 117 118), (0, u "compress"), (0, u "([CI[BII)I"), (3, u "([CII)[B"), (138, u "coderFromArrayLen"), (0, u "([BI)B"), (106, .class_ 371), (1, u "java/lang/StringUTF16$LinesSpliterator"), (58, u "MAX_LENGTH"), (196, .class_ 628), (0, u "java/lang/StringUTF16$CodePointsSpliterator"), (0, .class_ 630), (0, u "java/lang/StringUTF16$CharsSpliterator")] 4

def k10m0 : Method := { name := "<init>", desc := "()V", sig := { parameters := [], returnType := none }, accessFlags := 0, code := none }
def k10c1 : Code := { maxStack := 2, maxLocals := 2, code := jdk_52_method_15_code, exceptionTable := #[], attributes := #[] }
def k10m1 : Method := { name := "coderFromArrayLen", desc := "([BI)B", sig := { parameters := [(.array .byte), .int], returnType := some .byte }, accessFlags := 8, code := some k10c1 }
def k10c2 : Code := { maxStack := 5, maxLocals := 6, code := jdk_52_method_16_code, exceptionTable := #[], attributes := #[] }
def k10m2 : Method := { name := "compress", desc := "([CII)[B", sig := { parameters := [(.array .char), .int, .int], returnType := some (.array .byte) }, accessFlags := 9, code := some k10c2 }
def k10c3 : Code := { maxStack := 3, maxLocals := 7, code := jdk_52_method_21_code, exceptionTable := #[], attributes := #[] }
def k10m3 : Method := { name := "compress", desc := "([CI[BII)I", sig := { parameters := [(.array .char), .int, (.array .byte), .int, .int], returnType := some .int }, accessFlags := 9, code := some k10c3 }
/-- java/lang/StringUTF16 -/
def k10 : Class := { plain "java/lang/StringUTF16" (some 0) with
  accessFlags := 48
  interfaces := #[]
  cf := some (fileOf pool10 12 #[.nestMembers #[627, 629, 369]] #[{ accessFlags := 0, nameIndex := 9, descriptorIndex := 10, attributes := #[] }, { accessFlags := 8, nameIndex := 261, descriptorIndex := 262, attributes := #[] }, { accessFlags := 9, nameIndex := 117, descriptorIndex := 122, attributes := #[] }, { accessFlags := 9, nameIndex := 117, descriptorIndex := 118, attributes := #[] }] 48 6 #[] #[{ accessFlags := 26, nameIndex := 61, descriptorIndex := 62, attributes := #[] }, { accessFlags := 26, nameIndex := 65, descriptorIndex := 62, attributes := #[] }, { accessFlags := 24, nameIndex := 430, descriptorIndex := 62, attributes := #[] }, { accessFlags := 4120, nameIndex := 46, descriptorIndex := 47, attributes := #[] }])
  fields := #[{ name := "HI_BYTE_SHIFT", type := .int, accessFlags := 26, slot := 0, constantValue := 0 }, { name := "LO_BYTE_SHIFT", type := .int, accessFlags := 26, slot := 1, constantValue := 0 }, { name := "MAX_LENGTH", type := .int, accessFlags := 24, slot := 2, constantValue := 0 }, { name := "$assertionsDisabled", type := .boolean, accessFlags := 4120, slot := 3, constantValue := 0 }]
  methods := #[k10m0, k10m1, k10m2, k10m3]
  instanceTypes := #[]
  staticTypes := #[.int, .int, .int, .boolean]
  resolved := Array.replicate 635 none
  statics := none }

def pool11 : Array CpInfo := pool [(1, .class_ 2), (0, u "com/example/sallyport/sallyport/PolicyNode"), (0, .class_ 4), (0, u "java/lang/Object")] 9

/-- com/example/sallyport/sallyport/PolicyNode -/
def k11 : Class := { plain "com/example/sallyport/sallyport/PolicyNode" (some 0) with
  accessFlags := 1536
  interfaces := #[]
  cf := some (fileOf pool11 1 #[] #[] 1536 3 #[] #[])
  fields := #[]
  methods := #[]
  instanceTypes := #[]
  staticTypes := #[]
  resolved := Array.replicate 14 none
  statics := none }

def pool12 : Array CpInfo := pool [(1, .methodref 2 3), (0, .class_ 4), (0, .nameAndType 5 6), (0, u "java/lang/Object"), (0, u "<init>"), (0, u "()V"), (0, .fieldref 8 9), (0, .class_ 10), (0, .nameAndType 11 12), (0, u "com/example/sallyport/sallyport/PolicyReference"), (0, u "kind"), (0, u "Lcom/example/sallyport/sallyport/PolicyKind;"), (0, .fieldref 8 14), (0, .nameAndType 15 16), (0, u "id"), (0, u "Ljava/lang/String;"), (7, .class_ 26), (1, u "com/example/sallyport/sallyport/PolicyNode"), (31, .methodref 59 60), (0, .class_ 61), (0, .nameAndType 62 63), (0, u "java/lang/String"), (0, u "equals"), (0, u "(Ljava/lang/Object;)Z"), (6, u "(Lcom/example/sallyport/sallyport/PolicyKind;Ljava/lang/String;)V")] 26

def k12c0 : Code := { maxStack := 2, maxLocals := 3, code := prog_83_method_1_code, exceptionTable := #[], attributes := #[] }
def k12m0 : Method := { name := "<init>", desc := "(Lcom/example/sallyport/sallyport/PolicyKind;Ljava/lang/String;)V", sig := { parameters := [(.object "com/example/sallyport/sallyport/PolicyKind"), (.object "java/lang/String")], returnType := none }, accessFlags := 0, code := some k12c0 }
def k12c1 : Code := { maxStack := 2, maxLocals := 2, code := prog_83_method_5_code, exceptionTable := #[], attributes := #[] }
def k12m1 : Method := { name := "equals", desc := "(Ljava/lang/Object;)Z", sig := { parameters := [(.object "java/lang/Object")], returnType := some .boolean }, accessFlags := 1, code := some k12c1 }
/-- com/example/sallyport/sallyport/PolicyReference -/
def k12 : Class := { plain "com/example/sallyport/sallyport/PolicyReference" (some 0) with
  accessFlags := 48
  interfaces := #[11]
  cf := some (fileOf pool12 8 #[] #[{ accessFlags := 0, nameIndex := 5, descriptorIndex := 70, attributes := #[] }, { accessFlags := 1, nameIndex := 62, descriptorIndex := 63, attributes := #[] }] 48 2 #[24] #[{ accessFlags := 18, nameIndex := 11, descriptorIndex := 12, attributes := #[] }, { accessFlags := 18, nameIndex := 15, descriptorIndex := 16, attributes := #[] }])
  fields := #[{ name := "kind", type := (.object "com/example/sallyport/sallyport/PolicyKind"), accessFlags := 18, slot := 0, constantValue := 0 }, { name := "id", type := (.object "java/lang/String"), accessFlags := 18, slot := 1, constantValue := 0 }]
  methods := #[k12m0, k12m1]
  instanceTypes := #[(.object "com/example/sallyport/sallyport/PolicyKind"), (.object "java/lang/String")]
  staticTypes := #[]
  resolved := Array.replicate 97 none
  statics := none }

def pool13 : Array CpInfo := pool [(4, .class_ 6), (1, u "java/lang/Object"), (0, u "<init>"), (0, u "()V"), (5, .class_ 16), (1, u "java/lang/StringLatin1"), (104, u "$assertionsDisabled"), (0, u "Z"), (98, .class_ 223), (1, u "java/lang/StringLatin1$LinesSpliterator"), (57, u "equals"), (0, u "([B[B)Z"), (107, .class_ 391), (0, u "java/lang/StringLatin1$CharsSpliterator")] 3

def k13m0 : Method := { name := "<init>", desc := "()V", sig := { parameters := [], returnType := none }, accessFlags := 0, code := none }
def k13c1 : Code := { maxStack := 3, maxLocals := 3, code := jdk_43_method_13_code, exceptionTable := #[], attributes := #[] }
def k13m1 : Method := { name := "equals", desc := "([B[B)Z", sig := { parameters := [(.array .byte), (.array .byte)], returnType := some .boolean }, accessFlags := 9, code := some k13c1 }
/-- java/lang/StringLatin1 -/
def k13 : Class := { plain "java/lang/StringLatin1" (some 0) with
  accessFlags := 48
  interfaces := #[]
  cf := some (fileOf pool13 14 #[.nestMembers #[390, 221]] #[{ accessFlags := 0, nameIndex := 7, descriptorIndex := 8, attributes := #[] }, { accessFlags := 9, nameIndex := 281, descriptorIndex := 282, attributes := #[] }] 48 4 #[] #[{ accessFlags := 4120, nameIndex := 121, descriptorIndex := 122, attributes := #[] }])
  fields := #[{ name := "$assertionsDisabled", type := .boolean, accessFlags := 4120, slot := 0, constantValue := 0 }]
  methods := #[k13m0, k13m1]
  instanceTypes := #[]
  staticTypes := #[.boolean]
  resolved := Array.replicate 395 none
  statics := none }

def pool14 : Array CpInfo := pool [(2, .class_ 4), (1, u "java/lang/Object"), (0, u "<init>"), (0, u "()V"), (17, .class_ 26), (1, u "jdk/internal/util/Preconditions"), (28, .class_ 56), (0, u "jdk/internal/util/Preconditions$4"), (57, .class_ 115), (0, u "jdk/internal/util/Preconditions$1"), (7, u "SIOOBE_FORMATTER"), (0, u "Ljava/util/function/BiFunction;"), (0, .class_ 126), (0, u "jdk/internal/util/Preconditions$2"), (3, u "AIOOBE_FORMATTER"), (0, .class_ 132), (0, u "jdk/internal/util/Preconditions$3"), (3, u "IOOBE_FORMATTER")] 57

def k14m0 : Method := { name := "<init>", desc := "()V", sig := { parameters := [], returnType := none }, accessFlags := 1, code := none }
/-- jdk/internal/util/Preconditions -/
def k14 : Class := { plain "jdk/internal/util/Preconditions" (some 0) with
  accessFlags := 33
  interfaces := #[]
  cf := some (fileOf pool14 24 #[.nestMembers #[55, 131, 125, 114]] #[{ accessFlags := 1, nameIndex := 5, descriptorIndex := 6, attributes := #[] }] 33 2 #[] #[{ accessFlags := 25, nameIndex := 123, descriptorIndex := 124, attributes := #[] }, { accessFlags := 25, nameIndex := 130, descriptorIndex := 124, attributes := #[] }, { accessFlags := 25, nameIndex := 136, descriptorIndex := 124, attributes := #[] }])
  fields := #[{ name := "SIOOBE_FORMATTER", type := (.object "java/util/function/BiFunction"), accessFlags := 25, slot := 0, constantValue := 0 }, { name := "AIOOBE_FORMATTER", type := (.object "java/util/function/BiFunction"), accessFlags := 25, slot := 1, constantValue := 0 }, { name := "IOOBE_FORMATTER", type := (.object "java/util/function/BiFunction"), accessFlags := 25, slot := 2, constantValue := 0 }]
  methods := #[k14m0]
  instanceTypes := #[]
  staticTypes := #[(.object "java/util/function/BiFunction"), (.object "java/util/function/BiFunction"), (.object "java/util/function/BiFunction")]
  resolved := Array.replicate 194 none
  statics := some 2 }

def pool15 : Array CpInfo := pool [(9, u "<init>"), (6, .class_ 18), (1, u "java/lang/Object"), (0, u "()V"), (1, .class_ 23), (1, u "jdk/internal/util/ArraysSupport"), (0, u "LOG2_ARRAY_LONG_INDEX_SCALE"), (0, u "I"), (2, u "U"), (0, u "Ljdk/internal/misc/Unsafe;"), (8, u "BIG_ENDIAN"), (0, u "Z"), (8, u "LOG2_BYTE_BIT_SIZE"), (4, u "LOG2_ARRAY_INT_INDEX_SCALE"), (54, u "JLA"), (0, u "Ljdk/internal/access/JavaLangAccess;"), (11, u "LOG2_ARRAY_BOOLEAN_INDEX_SCALE"), (9, u "LOG2_ARRAY_BYTE_INDEX_SCALE"), (5, u "LOG2_ARRAY_CHAR_INDEX_SCALE"), (5, u "LOG2_ARRAY_SHORT_INDEX_SCALE"), (18, u "LOG2_ARRAY_FLOAT_INDEX_SCALE"), (24, u "LOG2_ARRAY_DOUBLE_INDEX_SCALE"), (89, u "T_BOOLEAN"), (2, u "T_CHAR"), (1, u "T_FLOAT"), (1, u "T_DOUBLE"), (1, u "T_BYTE"), (1, u "T_SHORT"), (1, u "T_INT"), (1, u "T_LONG"), (1, u "SOFT_MAX_ARRAY_LENGTH")] 83

def k15m0 : Method := { name := "<init>", desc := "()V", sig := { parameters := [], returnType := none }, accessFlags := 2, code := none }
/-- jdk/internal/util/ArraysSupport -/
def k15 : Class := { plain "jdk/internal/util/ArraysSupport" (some 0) with
  accessFlags := 33
  interfaces := #[]
  cf := some (fileOf pool15 21 #[] #[{ accessFlags := 2, nameIndex := 9, descriptorIndex := 19, attributes := #[] }] 33 16 #[] #[{ accessFlags := 24, nameIndex := 28, descriptorIndex := 29, attributes := #[] }, { accessFlags := 26, nameIndex := 38, descriptorIndex := 39, attributes := #[] }, { accessFlags := 25, nameIndex := 121, descriptorIndex := 25, attributes := #[] }, { accessFlags := 25, nameIndex := 131, descriptorIndex := 25, attributes := #[] }, { accessFlags := 25, nameIndex := 137, descriptorIndex := 25, attributes := #[] }, { accessFlags := 25, nameIndex := 143, descriptorIndex := 25, attributes := #[] }, { accessFlags := 25, nameIndex := 53, descriptorIndex := 25, attributes := #[] }, { accessFlags := 25, nameIndex := 24, descriptorIndex := 25, attributes := #[] }, { accessFlags := 25, nameIndex := 162, descriptorIndex := 25, attributes := #[] }, { accessFlags := 25, nameIndex := 187, descriptorIndex := 25, attributes := #[] }, { accessFlags := 26, nameIndex := 48, descriptorIndex := 25, attributes := #[] }, { accessFlags := 25, nameIndex := 277, descriptorIndex := 25, attributes := #[] }, { accessFlags := 25, nameIndex := 280, descriptorIndex := 25, attributes := #[] }, { accessFlags := 25, nameIndex := 282, descriptorIndex := 25, attributes := #[] }, { accessFlags := 25, nameIndex := 284, descriptorIndex := 25, attributes := #[] }, { accessFlags := 25, nameIndex := 286, descriptorIndex := 25, attributes := #[] }, { accessFlags := 25, nameIndex := 288, descriptorIndex := 25, attributes := #[] }, { accessFlags := 25, nameIndex := 290, descriptorIndex := 25, attributes := #[] }, { accessFlags := 25, nameIndex := 292, descriptorIndex := 25, attributes := #[] }, { accessFlags := 26, nameIndex := 108, descriptorIndex := 109, attributes := #[] }, { accessFlags := 25, nameIndex := 294, descriptorIndex := 25, attributes := #[] }])
  fields := #[{ name := "U", type := (.object "jdk/internal/misc/Unsafe"), accessFlags := 24, slot := 0, constantValue := 0 }, { name := "BIG_ENDIAN", type := .boolean, accessFlags := 26, slot := 1, constantValue := 0 }, { name := "LOG2_ARRAY_BOOLEAN_INDEX_SCALE", type := .int, accessFlags := 25, slot := 2, constantValue := 0 }, { name := "LOG2_ARRAY_BYTE_INDEX_SCALE", type := .int, accessFlags := 25, slot := 3, constantValue := 0 }, { name := "LOG2_ARRAY_CHAR_INDEX_SCALE", type := .int, accessFlags := 25, slot := 4, constantValue := 0 }, { name := "LOG2_ARRAY_SHORT_INDEX_SCALE", type := .int, accessFlags := 25, slot := 5, constantValue := 0 }, { name := "LOG2_ARRAY_INT_INDEX_SCALE", type := .int, accessFlags := 25, slot := 6, constantValue := 0 }, { name := "LOG2_ARRAY_LONG_INDEX_SCALE", type := .int, accessFlags := 25, slot := 7, constantValue := 0 }, { name := "LOG2_ARRAY_FLOAT_INDEX_SCALE", type := .int, accessFlags := 25, slot := 8, constantValue := 0 }, { name := "LOG2_ARRAY_DOUBLE_INDEX_SCALE", type := .int, accessFlags := 25, slot := 9, constantValue := 0 }, { name := "LOG2_BYTE_BIT_SIZE", type := .int, accessFlags := 26, slot := 10, constantValue := 0 }, { name := "T_BOOLEAN", type := .int, accessFlags := 25, slot := 11, constantValue := 0 }, { name := "T_CHAR", type := .int, accessFlags := 25, slot := 12, constantValue := 0 }, { name := "T_FLOAT", type := .int, accessFlags := 25, slot := 13, constantValue := 0 }, { name := "T_DOUBLE", type := .int, accessFlags := 25, slot := 14, constantValue := 0 }, { name := "T_BYTE", type := .int, accessFlags := 25, slot := 15, constantValue := 0 }, { name := "T_SHORT", type := .int, accessFlags := 25, slot := 16, constantValue := 0 }, { name := "T_INT", type := .int, accessFlags := 25, slot := 17, constantValue := 0 }, { name := "T_LONG", type := .int, accessFlags := 25, slot := 18, constantValue := 0 }, { name := "JLA", type := (.object "jdk/internal/access/JavaLangAccess"), accessFlags := 26, slot := 19, constantValue := 0 }, { name := "SOFT_MAX_ARRAY_LENGTH", type := .int, accessFlags := 25, slot := 20, constantValue := 0 }]
  methods := #[k15m0]
  instanceTypes := #[]
  staticTypes := #[(.object "jdk/internal/misc/Unsafe"), .boolean, .int, .int, .int, .int, .int, .int, .int, .int, .int, .int, .int, .int, .int, .int, .int, .int, .int, (.object "jdk/internal/access/JavaLangAccess"), .int]
  resolved := Array.replicate 378 none
  statics := none }

def pool16 : Array CpInfo := pool [(1, u "java/lang/Cloneable"), (0, .class_ 1), (0, u "java/lang/Object"), (0, .class_ 3)] 3

/-- java/lang/Cloneable -/
def k16 : Class := { plain "java/lang/Cloneable" (some 0) with
  accessFlags := 1537
  interfaces := #[]
  cf := some (fileOf pool16 2 #[] #[] 1537 4 #[] #[])
  fields := #[]
  methods := #[]
  instanceTypes := #[]
  staticTypes := #[]
  resolved := Array.replicate 8 none
  statics := none }

/-- the primitive byte -/
def k17 : Class := { plain "byte" none with kind := .primitive 'B', accessFlags := 0x411 }
/-- [B -/
def k18 : Class := { plain "[B" (some 0) with kind := .array 17 .byte, interfaces := #[16, 4], accessFlags := 1041 }

/-- the primitive char -/
def k19 : Class := { plain "char" none with kind := .primitive 'C', accessFlags := 0x411 }
/-- [C -/
def k20 : Class := { plain "[C" (some 0) with kind := .array 19 .char, interfaces := #[16, 4], accessFlags := 1041 }

/-- the primitive int -/
def k21 : Class := { plain "int" none with kind := .primitive 'I', accessFlags := 0x411 }
/-- [I -/
def k22 : Class := { plain "[I" (some 0) with kind := .array 21 .int, interfaces := #[16, 4], accessFlags := 1041 }

def heap : Heap := #[{ cls := 6, slots := #[.ref 3, .ref 4, .null], vm := .statics 6 },
  { cls := 9, slots := #[.long 0, .int 1, .null, .int 0, .null, .int 0, .int 0], vm := .statics 9 },
  { cls := 14, slots := #[.null, .null, .null], vm := .statics 14 },
  { cls := 6, slots := #[.null, .int 0, .int 0, .null, .null, .null], vm := .none },
  { cls := 6, slots := #[.null, .int 1, .int 0, .null, .null, .null], vm := .none }]
def classes : Array Class := #[k0, k1, k2, k3, k4, k5, k6, k7, k8, k9, k10, k11, k12, k13, k14, k15, k16, k17, k18, k19, k20, k21, k22]
def interned : List (Array UInt16 × Addr) := []
def slotsUsed : Nat := 25
def theMethod : MethodId := ⟨1, 1⟩
def args0 : Array Value := #[.int 5, .int 7, .int 5, .int 1, .int 2, .int 3]
def aboutOver (below : List Frame) : State where
  vm := { classes := classes, interned := interned.toArray }
  heap := heap
  slotsUsed := slotsUsed
  threads := #[{ frames := .invoking theMethod args0 :: below }]
def below0 : List Frame := [.native { method := ⟨0, 0⟩, args := #[] }]
def about1 : State := aboutOver below0
def p0 : Program := .bare "" "" ""
def e0 : Env := launch0.env 0 0 0
theorem w_frames : about1.frames = Frame.invoking theMethod args0 :: below0 := rfl
set_option maxRecDepth 65536 in
theorem w_args : argsFit about1.vm theMethod args0 = true := by decide +kernel
set_option maxRecDepth 65536 in
theorem w_heap : heapFits about1 = true := by decide +kernel
set_option maxRecDepth 65536 in
theorem w_runnable : about1.curStatus? = some .runnable := by decide +kernel
set_option maxRecDepth 65536 in
theorem w_alone : about1.alone = true := by decide +kernel
set_option maxRecDepth 65536 in
theorem w_named : about1.methodNamed? x = some theMethod := by decide +kernel
set_option maxRecDepth 65536 in
theorem w_hears : about1.hears theMethod below0 = true := by decide +kernel
set_option maxRecDepth 65536 in
theorem w_ripe : about1.ripe theMethod args0 below0 = true := by decide +kernel
theorem w_running : about1.status = .running := rfl
set_option maxRecDepth 65536 in
theorem w_room : about1.hasRoom e0.platform room_1 = true :=
  launch0.hasRoom_least _ room_1 (by decide +kernel) (by decide +kernel) (by decide +kernel) (by decide +kernel) (by decide +kernel) (by decide +kernel)
theorem allAtoms_all (ts : List Jvm.Cond) (a : Array Jvm.Value) (st : Jvm.State) : (allAtoms ts).before a st = ts.all (fun c => c.before a st) := by
  induction ts with
  | nil => rfl
  | cons c t ih =>
    show (Jvm.Cond.and c (allAtoms t)).before a st = _
    rw [Jvm.Cond.before_and, ih, List.all_cons]
def words1 : List Jvm.Cond := Jvm.Cond.code x code maxLocals ret :: tables_1
/-- a 'code' word, met by the world's own term for the bytes: nothing is compared byte by byte -/
theorem code_word {y : MethodName} {bytes : ByteArray} {mx : Nat} {rt : Option FieldType} {a : Array Value} {s : State} {m : MethodId} {meth : Method} {c : Code} (h1 : s.methodNamed? y = some m) (h2 : s.vm.method? m = some meth) (h3 : meth.code = some c) (h4 : c.code = bytes)
    (h5 : (c.maxLocals == mx && c.exceptionTable.isEmpty && decide (c.maxStack ≤ mostOperands) && decide (meth.sig.returnType = rt) && !meth.locks && decide (parseMethodDescriptor y.desc = some meth.sig)) = true) : (Jvm.Cond.code y bytes mx rt).before a s = true := by
  simp only [Bool.and_eq_true, beq_iff_eq, Bool.not_eq_true', decide_eq_true_eq] at h5
  obtain ⟨⟨⟨⟨⟨g1, g2⟩, g3⟩, g4⟩, g5⟩, g6⟩ := h5
  simp [Cond.before, Cond.holds, Cond.value, h1, h2, h3, h4, g1, g2, g3, g4, g5, g6]
def isCode : Jvm.Cond → Bool
  | .code _ _ _ _ => true
  | _ => false
theorem all_split {L : List Jvm.Cond} {P : Jvm.Cond → Bool} (h1 : L.all (fun c => isCode c || P c) = true) (h2 : ∀ c ∈ L.filter isCode, P c = true) : L.all P = true := by
  refine List.all_eq_true.mpr fun c hc => ?_
  have h := List.all_eq_true.mp h1 c hc
  rcases Bool.eq_false_or_eq_true (isCode c) with hi | hi
  · exact h2 c (List.mem_filter.mpr ⟨hc, hi⟩)
  · simpa [hi] using h
set_option maxRecDepth 65536 in
theorem w_c0 : (Jvm.Cond.code x code maxLocals ret).before args0 about1 = true := code_word (m := ⟨1, 1⟩) (meth := k1m1) (c := k1c1) (by decide +kernel) rfl rfl rfl (by decide +kernel)
set_option maxRecDepth 65536 in
theorem w_c1 : (Jvm.Cond.code ({ cls := "com/example/sallyport/sallyport/PolicyReferenceEqualsPinLaw", name := "make", desc := "(ICC)Ljava/lang/String;" } : Jvm.MethodName) method_3_code (3 : Nat) (Option.some (Jvm.ClassFile.FieldType.object "java/lang/String"))).before args0 about1 = true := code_word (m := ⟨1, 2⟩) (meth := k1m2) (c := k1c2) (by decide +kernel) rfl rfl rfl (by decide +kernel)
set_option maxRecDepth 65536 in
theorem w_c2 : (Jvm.Cond.code ({ cls := "java/lang/String", name := "<init>", desc := "([C)V" } : Jvm.MethodName) jdk_42_method_3_code (2 : Nat) (Option.none : Option Jvm.ClassFile.FieldType)).before args0 about1 = true := code_word (m := ⟨9, 1⟩) (meth := k9m1) (c := k9c1) (by decide +kernel) rfl rfl rfl (by decide +kernel)
set_option maxRecDepth 65536 in
theorem w_c3 : (Jvm.Cond.code ({ cls := "java/lang/String", name := "<init>", desc := "([CIILjava/lang/Void;)V" } : Jvm.MethodName) jdk_42_method_149_code (6 : Nat) (Option.none : Option Jvm.ClassFile.FieldType)).before args0 about1 = true := code_word (m := ⟨9, 3⟩) (meth := k9m3) (c := k9c3) (by decide +kernel) rfl rfl rfl (by decide +kernel)
set_option maxRecDepth 65536 in
theorem w_c4 : (Jvm.Cond.code ({ cls := "java/lang/Object", name := "<init>", desc := "()V" } : Jvm.MethodName) object_method_1_code (1 : Nat) (Option.none : Option Jvm.ClassFile.FieldType)).before args0 about1 = true := code_word (m := ⟨0, 0⟩) (meth := k0m0) (c := k0c0) (by decide +kernel) rfl rfl rfl (by decide +kernel)
set_option maxRecDepth 65536 in
theorem w_c5 : (Jvm.Cond.code ({ cls := "java/lang/StringUTF16", name := "compress", desc := "([CII)[B" } : Jvm.MethodName) jdk_52_method_16_code (6 : Nat) (Option.some (Jvm.ClassFile.FieldType.array Jvm.ClassFile.FieldType.byte))).before args0 about1 = true := code_word (m := ⟨10, 2⟩) (meth := k10m2) (c := k10c2) (by decide +kernel) rfl rfl rfl (by decide +kernel)
set_option maxRecDepth 65536 in
theorem w_c6 : (Jvm.Cond.code ({ cls := "java/lang/StringUTF16", name := "compress", desc := "([CI[BII)I" } : Jvm.MethodName) jdk_52_method_21_code (7 : Nat) (Option.some Jvm.ClassFile.FieldType.int)).before args0 about1 = true := code_word (m := ⟨10, 3⟩) (meth := k10m3) (c := k10c3) (by decide +kernel) rfl rfl rfl (by decide +kernel)
set_option maxRecDepth 65536 in
theorem w_c7 : (Jvm.Cond.code ({ cls := "java/lang/StringUTF16", name := "coderFromArrayLen", desc := "([BI)B" } : Jvm.MethodName) jdk_52_method_15_code (2 : Nat) (Option.some Jvm.ClassFile.FieldType.byte)).before args0 about1 = true := code_word (m := ⟨10, 1⟩) (meth := k10m1) (c := k10c1) (by decide +kernel) rfl rfl rfl (by decide +kernel)
set_option maxRecDepth 65536 in
theorem w_c8 : (Jvm.Cond.code ({ cls := "com/example/sallyport/sallyport/PolicyReference", name := "<init>", desc := "(Lcom/example/sallyport/sallyport/PolicyKind;Ljava/lang/String;)V" } : Jvm.MethodName) prog_83_method_1_code (3 : Nat) (Option.none : Option Jvm.ClassFile.FieldType)).before args0 about1 = true := code_word (m := ⟨12, 0⟩) (meth := k12m0) (c := k12c0) (by decide +kernel) rfl rfl rfl (by decide +kernel)
set_option maxRecDepth 65536 in
theorem w_c9 : (Jvm.Cond.code ({ cls := "com/example/sallyport/sallyport/PolicyReferenceEqualsPinLaw", name := "sameText", desc := "(ICCICC)Z" } : Jvm.MethodName) method_4_code (6 : Nat) (Option.some Jvm.ClassFile.FieldType.boolean)).before args0 about1 = true := code_word (m := ⟨1, 3⟩) (meth := k1m3) (c := k1c3) (by decide +kernel) rfl rfl rfl (by decide +kernel)
set_option maxRecDepth 65536 in
theorem w_c10 : (Jvm.Cond.code ({ cls := "com/example/sallyport/sallyport/PolicyReference", name := "equals", desc := "(Ljava/lang/Object;)Z" } : Jvm.MethodName) prog_83_method_5_code (2 : Nat) (Option.some Jvm.ClassFile.FieldType.boolean)).before args0 about1 = true := code_word (m := ⟨12, 1⟩) (meth := k12m1) (c := k12c1) (by decide +kernel) rfl rfl rfl (by decide +kernel)
set_option maxRecDepth 65536 in
theorem w_c11 : (Jvm.Cond.code ({ cls := "java/lang/String", name := "equals", desc := "(Ljava/lang/Object;)Z" } : Jvm.MethodName) jdk_42_method_66_code (3 : Nat) (Option.some Jvm.ClassFile.FieldType.boolean)).before args0 about1 = true := code_word (m := ⟨9, 2⟩) (meth := k9m2) (c := k9c2) (by decide +kernel) rfl rfl rfl (by decide +kernel)
set_option maxRecDepth 65536 in
theorem w_c12 : (Jvm.Cond.code ({ cls := "java/lang/StringLatin1", name := "equals", desc := "([B[B)Z" } : Jvm.MethodName) jdk_43_method_13_code (3 : Nat) (Option.some Jvm.ClassFile.FieldType.boolean)).before args0 about1 = true := code_word (m := ⟨13, 1⟩) (meth := k13m1) (c := k13c1) (by decide +kernel) rfl rfl rfl (by decide +kernel)
def codes1 : List Jvm.Cond := [Jvm.Cond.code x code maxLocals ret, Jvm.Cond.code ({ cls := "com/example/sallyport/sallyport/PolicyReferenceEqualsPinLaw", name := "make", desc := "(ICC)Ljava/lang/String;" } : Jvm.MethodName) method_3_code (3 : Nat) (Option.some (Jvm.ClassFile.FieldType.object "java/lang/String")), Jvm.Cond.code ({ cls := "java/lang/String", name := "<init>", desc := "([C)V" } : Jvm.MethodName) jdk_42_method_3_code (2 : Nat) (Option.none : Option Jvm.ClassFile.FieldType), Jvm.Cond.code ({ cls := "java/lang/String", name := "<init>", desc := "([CIILjava/lang/Void;)V" } : Jvm.MethodName) jdk_42_method_149_code (6 : Nat) (Option.none : Option Jvm.ClassFile.FieldType), Jvm.Cond.code ({ cls := "java/lang/Object", name := "<init>", desc := "()V" } : Jvm.MethodName) object_method_1_code (1 : Nat) (Option.none : Option Jvm.ClassFile.FieldType), Jvm.Cond.code ({ cls := "java/lang/StringUTF16", name := "compress", desc := "([CII)[B" } : Jvm.MethodName) jdk_52_method_16_code (6 : Nat) (Option.some (Jvm.ClassFile.FieldType.array Jvm.ClassFile.FieldType.byte)), Jvm.Cond.code ({ cls := "java/lang/StringUTF16", name := "compress", desc := "([CI[BII)I" } : Jvm.MethodName) jdk_52_method_21_code (7 : Nat) (Option.some Jvm.ClassFile.FieldType.int), Jvm.Cond.code ({ cls := "java/lang/StringUTF16", name := "coderFromArrayLen", desc := "([BI)B" } : Jvm.MethodName) jdk_52_method_15_code (2 : Nat) (Option.some Jvm.ClassFile.FieldType.byte), Jvm.Cond.code ({ cls := "com/example/sallyport/sallyport/PolicyReference", name := "<init>", desc := "(Lcom/example/sallyport/sallyport/PolicyKind;Ljava/lang/String;)V" } : Jvm.MethodName) prog_83_method_1_code (3 : Nat) (Option.none : Option Jvm.ClassFile.FieldType), Jvm.Cond.code ({ cls := "com/example/sallyport/sallyport/PolicyReferenceEqualsPinLaw", name := "sameText", desc := "(ICCICC)Z" } : Jvm.MethodName) method_4_code (6 : Nat) (Option.some Jvm.ClassFile.FieldType.boolean), Jvm.Cond.code ({ cls := "com/example/sallyport/sallyport/PolicyReference", name := "equals", desc := "(Ljava/lang/Object;)Z" } : Jvm.MethodName) prog_83_method_5_code (2 : Nat) (Option.some Jvm.ClassFile.FieldType.boolean), Jvm.Cond.code ({ cls := "java/lang/String", name := "equals", desc := "(Ljava/lang/Object;)Z" } : Jvm.MethodName) jdk_42_method_66_code (3 : Nat) (Option.some Jvm.ClassFile.FieldType.boolean), Jvm.Cond.code ({ cls := "java/lang/StringLatin1", name := "equals", desc := "([B[B)Z" } : Jvm.MethodName) jdk_43_method_13_code (3 : Nat) (Option.some Jvm.ClassFile.FieldType.boolean)]
set_option maxRecDepth 65536 in
theorem codes_eq : words1.filter isCode = codes1 := rfl
theorem w_codes : ∀ c ∈ words1.filter isCode, c.before args0 about1 = true := by
  rw [codes_eq]
  intro c hc
  simp only [codes1, List.mem_cons, List.not_mem_nil, or_false] at hc
  rcases hc with rfl | rfl | rfl | rfl | rfl | rfl | rfl | rfl | rfl | rfl | rfl | rfl | rfl
  · exact w_c0
  · exact w_c1
  · exact w_c2
  · exact w_c3
  · exact w_c4
  · exact w_c5
  · exact w_c6
  · exact w_c7
  · exact w_c8
  · exact w_c9
  · exact w_c10
  · exact w_c11
  · exact w_c12
set_option maxRecDepth 65536 in
theorem w_t1 : (words1.take 24).all (fun c => isCode c || c.before args0 about1) = true := by decide +kernel
set_option maxRecDepth 65536 in
theorem w_t2 : ((words1.drop 24).take 24).all (fun c => isCode c || c.before args0 about1) = true := by decide +kernel
set_option maxRecDepth 65536 in
theorem w_t3 : (((words1.drop 24).drop 24).take 24).all (fun c => isCode c || c.before args0 about1) = true := by decide +kernel
set_option maxRecDepth 65536 in
theorem w_t4 : (((words1.drop 24).drop 24).drop 24).all (fun c => isCode c || c.before args0 about1) = true := by decide +kernel
theorem w_tables : (allAtoms (Jvm.Cond.code x code maxLocals ret :: tables_1)).before args0 about1 = true := by
  rw [allAtoms_all]
  show words1.all (fun c => c.before args0 about1) = true
  refine all_split ?_ w_codes
  rw [← List.take_append_drop 24 words1, List.all_append, w_t1, ← List.take_append_drop 24 (words1.drop 24), List.all_append, w_t2, ← List.take_append_drop 24 ((words1.drop 24).drop 24), List.all_append, w_t3, w_t4]
  rfl
set_option maxRecDepth 65536 in
theorem w_rest : rest_1_c.before args0 about1 = true := by decide +kernel
set_option maxRecDepth 65536 in
theorem w_case : (Jvm.Cond.and given_1 narrow_1).before args0 about1 = true := by decide +kernel
set_option maxRecDepth 65536 in
theorem w_consts : constsHeld consts_1 about1 := Jvm.Lit.constsHeldB_iff.mp (by decide +kernel)
theorem w_applies : (headSpec (Jvm.Cond.code x code maxLocals ret :: tables_1) room_1).applies x e0.platform about1 = true :=
  (Spec.applies_iff w_frames).mpr ⟨w_running, w_runnable, w_alone, w_named, w_hears, w_ripe, w_room, w_tables⟩
theorem atStart : AtStart classFile x code maxLocals ret World_1 tables_1 room_1 Calls_1 rest_1 Pre_1 launch0 p0 e0 about1 theMethod args0 below0 :=
  ⟨lists_1, trivial, launch0.admits_env _ _ _, launch0.least_env, fairChoices_fair.cas, fairChoices_fair.clock, w_frames, w_args, w_heap, w_applies, ⟨w_consts, trivial⟩, w_rest, w_case⟩
end start1
theorem witness_1 : WitnessClaimed_1 := ⟨start1.p0, start1.e0, start1.about1, start1.theMethod, start1.args0, start1.below0, start1.atStart⟩
end Jvm.Pilot.@@N@@
