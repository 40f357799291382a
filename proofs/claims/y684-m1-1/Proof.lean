import JvmDerived
import JvmDerived.Pilot.@@N@@Statement
import JvmDerived.Pilot.@@N@@Code
set_option linter.unusedVariables false
set_option linter.unusedSimpArgs false
/- laws to paste: Road.backV, Road.codOf, Road.chN (cut by pick.py; bodies as the Statement names them) -/
namespace Jvm.Pilot.@@N@@
namespace StrChars
open Jvm Sem ClassFile Op Lib Jvm.Stand Jvm.Free.XT Jvm.Free.ALB Jvm.Free.JM Jvm.Free
open Jvm.Lib.Cold (StaticIs)
/-- a char array whose places are chars -/
def Ch (a : Addr) (A : Cell) (U : State) : Prop := Arr .char a A U ∧ Typed .char A
theorem Ch.mv {a : Addr} {A : Cell} {U U' : State} (h : Ch a A U) (hal : U.vm.Alike U'.vm) (hh : U'.heap = U.heap) : Ch a A U' := ⟨h.1.mv hal hh, h.2⟩
theorem Ch.keep {a : Addr} {A : Cell} {U U' : State} (h : Ch a A U) (hal : U.vm.Alike U'.vm) (hk : U'.heap[a]? = some A) : Ch a A U' := ⟨h.1.keep hal hk, h.2⟩
/-- what place i of a char[]'s cell holds -/
def cv (A : Cell) (i : Nat) : Int32 := match A.slots[i]? with | some (.int x) => x | _ => 0
theorem Ch.get {a : Addr} {A : Cell} {U : State} (h : Ch a A U) {i : Nat} (hi : i < A.slots.size) : A.slots[i]? = some (.int (cv A i)) := by
  have e := Array.getElem?_eq_getElem hi
  have f := h.2 i _ e
  unfold cv; rw [e]
  generalize A.slots[i] = v at f
  cases v <;> simp [fits] at f ⊢
/-- the byte that i2b leaves of a char -/
def lo8 (x : Int32) : Int32 := x.toInt8.toInt32
theorem fits_lo8 (y : Int32) : fits .byte (.int (lo8 y)) = true := by
  have h1 := y.toInt8.le_toInt
  have h2 := y.toInt8.toInt_lt
  simp only [lo8, fits, Bool.and_eq_true, decide_eq_true_eq, Int32.le_iff_toInt_le, Int8.toInt_toInt32, show (-128 : Int32).toInt = -128 from by decide, show (127 : Int32).toInt = 127 from by decide]
  omega
/-- A' is A but that each place j of lo .. hi - 1 holds f j -/
def Laid (A A' : Cell) (lo hi : Nat) (f : Nat → Value) : Prop := A'.cls = A.cls ∧ A'.vm = A.vm ∧ A'.slots.size = A.slots.size ∧ ∀ i, A'.slots[i]? = if lo ≤ i ∧ i < hi then some (f i) else A.slots[i]?
theorem Laid.zero (A : Cell) (lo : Nat) (f : Nat → Value) : Laid A A lo (lo + 0) f := ⟨rfl, rfl, rfl, fun i => by rw [if_neg (by omega)]⟩
theorem Laid.step {A Ak : Cell} {lo k : Nat} {f : Nat → Value} {v : Value} (h : Laid A Ak lo k f) (hlo : lo ≤ k) (hk : k < Ak.slots.size) (hv : v = f k) : Laid A (Ak.setSlot k v) lo (k + 1) f := by
  refine ⟨h.1, h.2.1, by simpa [Cell.setSlot] using h.2.2.1, fun i => ?_⟩
  by_cases e : k = i
  · subst e; rw [Cell.slots_setSlot_self v hk, if_pos (by omega), hv]
  · rw [Cell.slots_setSlot_ne v e, h.2.2.2 i]
    by_cases q : lo ≤ i ∧ i < k
    · rw [if_pos q, if_pos (by omega)]
    · rw [if_neg q, if_neg (by omega)]
def U16 : String := "java/lang/StringUTF16"
namespace Cmp5
def yN : MethodName := ⟨"java/lang/StringUTF16", "compress", "([CI[BII)I"⟩
abbrev yB : ByteArray := jdk_52_method_21_code
theorem d0 : decode yB 0 = .ok (.iconst 0, 1) := by decide +kernel
theorem d1 : decode yB 1 = .ok (.istore 5, 2) := by decide +kernel
theorem d3 : decode yB 3 = .ok (.iload 5, 2) := by decide +kernel
theorem d5 : decode yB 5 = .ok (.iload 4, 2) := by decide +kernel
theorem d7 : decode yB 7 = .ok (.if_icmp (.ge) 37, 3) := by decide +kernel
theorem d10 : decode yB 10 = .ok (.aload_n 0, 1) := by decide +kernel
theorem d11 : decode yB 11 = .ok (.iload_n 1, 1) := by decide +kernel
theorem d12 : decode yB 12 = .ok (.caload, 1) := by decide +kernel
theorem d13 : decode yB 13 = .ok (.istore 6, 2) := by decide +kernel
theorem d15 : decode yB 15 = .ok (.iload 6, 2) := by decide +kernel
theorem d17 : decode yB 17 = .ok (.sipush 255, 3) := by decide +kernel
theorem d20 : decode yB 20 = .ok (.if_icmp (.le) 6, 3) := by decide +kernel
theorem d26 : decode yB 26 = .ok (.aload_n 2, 1) := by decide +kernel
theorem d27 : decode yB 27 = .ok (.iload_n 3, 1) := by decide +kernel
theorem d28 : decode yB 28 = .ok (.iload 6, 2) := by decide +kernel
theorem d30 : decode yB 30 = .ok (.i2b, 1) := by decide +kernel
theorem d31 : decode yB 31 = .ok (.bastore, 1) := by decide +kernel
theorem d32 : decode yB 32 = .ok (.iinc 1 1, 3) := by decide +kernel
theorem d35 : decode yB 35 = .ok (.iinc 3 1, 3) := by decide +kernel
theorem d38 : decode yB 38 = .ok (.iinc 5 1, 3) := by decide +kernel
theorem d41 : decode yB 41 = .ok (.goto (-38), 3) := by decide +kernel
theorem d44 : decode yB 44 = .ok (.iload 4, 2) := by decide +kernel
theorem d46 : decode yB 46 = .ok (.ireturn, 1) := by decide +kernel
def site : List Cond := []
def tab : Cond := tabOf yN yB 7 (some .int) site
def P (b : Addr) (A : Cell) (d : Addr) (B : Cell) (o q len : Nat) (args : Array Value) (s : State) : Prop := args = #[.ref b, .int (Int32.ofNat o), .ref d, .int (Int32.ofNat q), .int (Int32.ofNat len)] ∧ Ch b A s ∧ Arr .byte d B s ∧ b ≠ d ∧ o + len ≤ A.slots.size ∧ q + len ≤ B.slots.size ∧ ∀ i, i < len → ¬ 255 < cv A (o + i)
def E (b : Addr) (A : Cell) (d : Addr) (B : Cell) (o q len : Nat) (r : Option Value) (s u : State) : Prop := r = some (.int (Int32.ofNat len)) ∧ ∃ B', Put d B' s u ∧ Laid B B' q (q + len) (fun j => Value.int (lo8 (cv A (o + (j - q)))))
/-- no char of the range above 255: len; the places written hold each char's low byte -/
theorem law (l : Launch) (b : Addr) (A : Cell) (d : Addr) (B : Cell) (o q len : Nat) : Law l yN 5 5 0 0 yB 7 (some .int) site (P b A d B o q len) (E b A d B o q len) (copyLocs d q len) 0 0 := by
  refine Law.of_walk (plainFor_of_name (by decide +kernel)) (by decide +kernel) (by decide +kernel) (by decide) (fun _ _ h => by rw [h.1]; rfl) (fun _ U U' hal hh h => ⟨h.1, h.2.1.mv hal hh, h.2.2.1.mv hal hh, h.2.2.2⟩) (fun r U U' V V' h1 hal h2 h => ⟨h.1, h.2.elim fun B' q => ⟨B', q.1.mv h1 h2, q.2⟩⟩) ?_
  intro p e s m args below meth c s₁ X0 hexec hbytes hml hret hlk hnm hown hh0 W hP
  obtain ⟨rfl, hA, hB, hne, l1, l2, hp⟩ := hP
  have c1 : Steps p.tables e below (s₁.setTop (entryFrame m #[.ref b, .int (Int32.ofNat o), .ref d, .int (Int32.ofNat q), .int (Int32.ofNat len)] 7)) (s₁.setTop (mkF m 0 #[.val (.ref b), .val (.int (Int32.ofNat o)), .val (.ref d), .val (.int (Int32.ofNat q)), .val (.int (Int32.ofNat len)), .unset, .unset] [])) := entry rfl
  have hA0 := hA.1.mv X0.warmed.alike hh0
  have hB0 := hB.mv X0.warmed.alike hh0
  have a31 := hA.1.2.2.2
  have c2 : Steps p.tables e below (s₁.setTop (entryFrame m #[.ref b, .int (Int32.ofNat o), .ref d, .int (Int32.ofNat q), .int (Int32.ofNat len)] 7)) (s₁.setTop (mkF m 3 #[.val (.ref b), .val (.int (Int32.ofNat o)), .val (.ref d), .val (.int (Int32.ofNat q)), .val (.int (Int32.ofNat len)), .val (.int 0), .unset] [])) := c1.trans (by
    refine iconstV X0.here hexec rfl 0 (hb hbytes d0) (by decide) ?_
    refine XS.istore X0.here hexec rfl (hb hbytes d1) rfl rfl ?_
    exact Steps.refl _)
  have loop : ∀ (r i : Nat), i + r = len → ∀ (z : Slot), (z = .unset ∨ ∃ w, z = .val w ∧ w.category = 1) → ∀ (Tl : State) (Bk : Cell), Stand p l e { frames := 0, locals := 0, cells := 0, slots := 0 } s m #[.ref b, .int (Int32.ofNat o), .ref d, .int (Int32.ofNat q), .int (Int32.ofNat len)] below meth c Tl ([] ++ copyLocs d q i) 0 0 → Put d Bk s₁ Tl → Laid B Bk q (q + i) (fun j => Value.int (lo8 (cv A (o + (j - q))))) →
      Steps p.tables e below (s₁.setTop (entryFrame m #[.ref b, .int (Int32.ofNat o), .ref d, .int (Int32.ofNat q), .int (Int32.ofNat len)] 7)) (Tl.setTop (mkF m 3 #[.val (.ref b), .val (.int (Int32.ofNat (o + i))), .val (.ref d), .val (.int (Int32.ofNat (q + i))), .val (.int (Int32.ofNat len)), .val (.int (Int32.ofNat i)), z] [])) → ∃ (T' : State) (B' : Cell) (z' : Slot), Stand p l e { frames := 0, locals := 0, cells := 0, slots := 0 } s m #[.ref b, .int (Int32.ofNat o), .ref d, .int (Int32.ofNat q), .int (Int32.ofNat len)] below meth c T' ([] ++ copyLocs d q len) 0 0 ∧ Put d B' s₁ T' ∧ Laid B B' q (q + len) (fun j => Value.int (lo8 (cv A (o + (j - q))))) ∧
      Steps p.tables e below (s₁.setTop (entryFrame m #[.ref b, .int (Int32.ofNat o), .ref d, .int (Int32.ofNat q), .int (Int32.ofNat len)] 7)) (T'.setTop (mkF m 3 #[.val (.ref b), .val (.int (Int32.ofNat (o + len))), .val (.ref d), .val (.int (Int32.ofNat (q + len))), .val (.int (Int32.ofNat len)), .val (.int (Int32.ofNat len)), z'] [])) := by
    intro r
    induction r with
    | zero =>
      intro i hi z hz Tl Bk Xl pl fl cl
      have hil : i = len := by omega
      rw [hil] at Xl fl cl
      exact ⟨Tl, Bk, z, Xl, pl, fl, cl⟩
    | succ r ih =>
      intro i hi z hz Tl Bk Xl pl fl cl
      have all := X0.warmed.alike.symm.trans Xl.warmed.alike
      have hAl := hA0.keep all (pl.other hne hA0.1)
      have hBk := hB0.like all pl.1 fl.1 fl.2.1 fl.2.2.1
      have hlt : q + i < Bk.slots.size := by rw [fl.2.2.1]; omega
      have c3 : Steps p.tables e below (s₁.setTop (entryFrame m #[.ref b, .int (Int32.ofNat o), .ref d, .int (Int32.ofNat q), .int (Int32.ofNat len)] 7)) (Tl.setTop (mkF m 12 #[.val (.ref b), .val (.int (Int32.ofNat (o + i))), .val (.ref d), .val (.int (Int32.ofNat (q + i))), .val (.int (Int32.ofNat len)), .val (.int (Int32.ofNat i)), z] [.int (Int32.ofNat (o + i)), .ref b])) := cl.trans (by
        refine XS.iload Xl.here hexec rfl (hb hbytes d3) rfl ?_
        refine XS.iload Xl.here hexec rfl (hb hbytes d5) rfl ?_
        refine XS.icmpNo Xl.here hexec rfl (hb hbytes d7) rfl (ii_ge_f (lt32 (by omega) (by omega))) ?_
        refine XS.aloadN Xl.here hexec rfl (hb hbytes d10) rfl rfl ?_
        refine XS.iloadN Xl.here hexec rfl (hb hbytes d11) rfl ?_
        exact Steps.refl _)
      have c4 : Steps p.tables e below (s₁.setTop (entryFrame m #[.ref b, .int (Int32.ofNat o), .ref d, .int (Int32.ofNat q), .int (Int32.ofNat len)] 7)) (Tl.setTop (mkF m 13 #[.val (.ref b), .val (.int (Int32.ofNat (o + i))), .val (.ref d), .val (.int (Int32.ofNat (q + i))), .val (.int (Int32.ofNat len)), .val (.int (Int32.ofNat i)), z] [.int (cv A (o + i))])) := c3.trans (by
        refine Xl.aget hexec hAl rfl (hA.get (i := o + i) (by omega)) rfl rfl (hb hbytes d12) ?_
        exact Steps.refl _)
      have c5 : Steps p.tables e below (s₁.setTop (entryFrame m #[.ref b, .int (Int32.ofNat o), .ref d, .int (Int32.ofNat q), .int (Int32.ofNat len)] 7)) (Tl.setTop (mkF m 15 #[.val (.ref b), .val (.int (Int32.ofNat (o + i))), .val (.ref d), .val (.int (Int32.ofNat (q + i))), .val (.int (Int32.ofNat len)), .val (.int (Int32.ofNat i)), .val (.int (cv A (o + i)))] [])) := c4.trans (by
        refine XS.istoreS Xl.here hexec rfl (hb hbytes d13) rfl rfl hz ?_
        exact Steps.refl _)
      have c6 : Steps p.tables e below (s₁.setTop (entryFrame m #[.ref b, .int (Int32.ofNat o), .ref d, .int (Int32.ofNat q), .int (Int32.ofNat len)] 7)) (Tl.setTop (mkF m 31 #[.val (.ref b), .val (.int (Int32.ofNat (o + i))), .val (.ref d), .val (.int (Int32.ofNat (q + i))), .val (.int (Int32.ofNat len)), .val (.int (Int32.ofNat i)), .val (.int (cv A (o + i)))] [.int (lo8 (cv A (o + i))), .int (Int32.ofNat (q + i)), .ref d])) := c5.trans (by
        refine XS.iload Xl.here hexec rfl (hb hbytes d15) rfl ?_
        refine sipushV Xl.here hexec rfl 255 (hb hbytes d17) (by decide) ?_
        refine XS.icmpYes Xl.here hexec rfl (pc0 := 20) rfl (hb hbytes d20) rfl (ii_le_t (hp i (by omega))) (by decide) rfl ?_
        refine XS.aloadN Xl.here hexec rfl (hb hbytes d26) rfl rfl ?_
        refine XS.iloadN Xl.here hexec rfl (hb hbytes d27) rfl ?_
        refine XS.iload Xl.here hexec rfl (hb hbytes d28) rfl ?_
        refine i2b Xl.here hexec rfl (hb hbytes d30) rfl ?_
        exact Steps.refl _)
      obtain ⟨T7, X7, p7, st7⟩ := Xl.aput hexec hBk rfl hlt rfl (fits_lo8 (cv A (o + i))) (g := (mkF m 31 #[.val (.ref b), .val (.int (Int32.ofNat (o + i))), .val (.ref d), .val (.int (Int32.ofNat (q + i))), .val (.int (Int32.ofNat len)), .val (.int (Int32.ofNat i)), .val (.int (cv A (o + i)))] [.int (lo8 (cv A (o + i))), .int (Int32.ofNat (q + i)), .ref d])) rfl (rest := []) rfl (hb hbytes d31)
      have c8 : Steps p.tables e below (s₁.setTop (entryFrame m #[.ref b, .int (Int32.ofNat o), .ref d, .int (Int32.ofNat q), .int (Int32.ofNat len)] 7)) (T7.setTop (mkF m 32 #[.val (.ref b), .val (.int (Int32.ofNat (o + i))), .val (.ref d), .val (.int (Int32.ofNat (q + i))), .val (.int (Int32.ofNat len)), .val (.int (Int32.ofNat i)), .val (.int (cv A (o + i)))] [])) := c6.trans (st7 _ (Steps.refl _))
      have c9 : Steps p.tables e below (s₁.setTop (entryFrame m #[.ref b, .int (Int32.ofNat o), .ref d, .int (Int32.ofNat q), .int (Int32.ofNat len)] 7)) (T7.setTop (mkF m 3 #[.val (.ref b), .val (.int (Int32.ofNat (o + i) + 1)), .val (.ref d), .val (.int (Int32.ofNat (q + i) + 1)), .val (.int (Int32.ofNat len)), .val (.int (Int32.ofNat i + 1)), .val (.int (cv A (o + i)))] [])) := c8.trans (by
        refine iincV X7.here hexec rfl 1 (hb hbytes d32) (by decide) rfl rfl ?_
        refine iincV X7.here hexec rfl 1 (hb hbytes d35) (by decide) rfl rfl ?_
        refine iincV X7.here hexec rfl 1 (hb hbytes d38) (by decide) rfl rfl ?_
        refine XS.goto X7.here hexec rfl (pc0 := 41) rfl (hb hbytes d41) (by decide) rfl ?_
        exact Steps.refl _)
      have c10 : Steps p.tables e below (s₁.setTop (entryFrame m #[.ref b, .int (Int32.ofNat o), .ref d, .int (Int32.ofNat q), .int (Int32.ofNat len)] 7)) (T7.setTop (mkF m 3 #[.val (.ref b), .val (.int (Int32.ofNat (o + (i + 1)))), .val (.ref d), .val (.int (Int32.ofNat (q + (i + 1)))), .val (.int (Int32.ofNat len)), .val (.int (Int32.ofNat (i + 1))), .val (.int (cv A (o + i)))] [])) := by
        have := c9
        rw [succ32, succ32, succ32] at this
        exact this
      exact ih (i + 1) (by omega) _ (Or.inr ⟨_, rfl, rfl⟩) T7 _ (by rw [copyLocs_step, ← List.append_assoc]; exact X7) (pl.trans p7) (fl.step (by omega) hlt (by simp)) c10
  obtain ⟨T9, B9, z9, X9, p9, f9, g9⟩ := loop len 0 (by omega) .unset (Or.inl rfl) s₁ B (by simpa [copyLocs] using X0) ⟨hB0.1, fun _ _ => rfl, rfl⟩ (Laid.zero _ _ _) c2
  have c11 : Steps p.tables e below (s₁.setTop (entryFrame m #[.ref b, .int (Int32.ofNat o), .ref d, .int (Int32.ofNat q), .int (Int32.ofNat len)] 7)) (T9.setTop (mkF m 46 #[.val (.ref b), .val (.int (Int32.ofNat (o + len))), .val (.ref d), .val (.int (Int32.ofNat (q + len))), .val (.int (Int32.ofNat len)), .val (.int (Int32.ofNat len)), z9] [.int (Int32.ofNat len)])) := g9.trans (by
    refine XS.iload X9.here hexec rfl (hb hbytes d3) rfl ?_
    refine XS.iload X9.here hexec rfl (hb hbytes d5) rfl ?_
    refine XS.icmpYes X9.here hexec rfl (pc0 := 7) rfl (hb hbytes d7) rfl (ii_ge_t (nlt32 (by omega) (Nat.le_refl _))) (by decide) rfl ?_
    refine XS.iload X9.here hexec rfl (hb hbytes d44) rfl ?_
    exact Steps.refl _)
  exact ⟨T9, some (.int (Int32.ofNat len)), _, _, _, X9, by simp, rfl, rfl, (fun h => by cases h), ⟨rfl, B9, p9.from hh0, f9⟩, fun fs hl => c11.trans (X9.ireturnOut hexec hret rfl (Or.inl rfl) (hb hbytes d46) hl)⟩
end Cmp5
namespace Cmp3
def yN : MethodName := ⟨"java/lang/StringUTF16", "compress", "([CII)[B"⟩
abbrev yB : ByteArray := jdk_52_method_16_code
theorem d0 : decode yB 0 = .ok (.iload_n 2, 1) := by decide +kernel
theorem d1 : decode yB 1 = .ok (.newarray .byte, 2) := by decide +kernel
theorem d3 : decode yB 3 = .ok (.astore_n 3, 1) := by decide +kernel
theorem d4 : decode yB 4 = .ok (.aload_n 0, 1) := by decide +kernel
theorem d5 : decode yB 5 = .ok (.iload_n 1, 1) := by decide +kernel
theorem d6 : decode yB 6 = .ok (.aload_n 3, 1) := by decide +kernel
theorem d7 : decode yB 7 = .ok (.iconst 0, 1) := by decide +kernel
theorem d8 : decode yB 8 = .ok (.iload_n 2, 1) := by decide +kernel
theorem d9 : decode yB 9 = .ok (.invokestatic 115, 3) := by decide +kernel
theorem d12 : decode yB 12 = .ok (.istore 4, 2) := by decide +kernel
theorem d14 : decode yB 14 = .ok (.iload 4, 2) := by decide +kernel
theorem d16 : decode yB 16 = .ok (.iload_n 2, 1) := by decide +kernel
theorem d17 : decode yB 17 = .ok (.if_icmp (.eq) 40, 3) := by decide +kernel
theorem d57 : decode yB 57 = .ok (.aload_n 3, 1) := by decide +kernel
theorem d58 : decode yB 58 = .ok (.areturn, 1) := by decide +kernel
def site : List Cond := [.arrayClass .byte, Cmp5.tab] ++ staticW U16 115 Cmp5.yN
def tab : Cond := tabOf yN yB 6 (some (.array .byte)) site
def P (b : Addr) (A : Cell) (o len : Nat) (args : Array Value) (s : State) : Prop := args = #[.ref b, .int (Int32.ofNat o), .int (Int32.ofNat len)] ∧ Ch b A s ∧ o + len ≤ A.slots.size ∧ len ≤ 536870912 ∧ ∀ i, i < len → ¬ 255 < cv A (o + i)
def E (b : Addr) (A : Cell) (o len : Nat) (r : Option Value) (s u : State) : Prop := NewArr .byte "[B" len (fun j => .int (lo8 (cv A (o + j)))) r s u ∧ u.heap.size = s.heap.size + 1
/-- no char of the range above 255: a new byte[] of their low bytes -/
theorem law (l : Launch) (b : Addr) (A : Cell) (o len : Nat) : Law l yN 3 3 1 18 yB 6 (some (.array .byte)) site (P b A o len) (E b A o len) [] 1 len := by
  refine Law.of_walk (plainFor_of_name (by decide +kernel)) (by decide +kernel) (by decide +kernel) (by decide) (fun _ _ h => by rw [h.1]; rfl) (fun _ U U' hal hh h => ⟨h.1, h.2.1.mv hal hh, h.2.2⟩) (fun r U U' V V' h1 hal h2 h => ⟨NewArr.mv r U U' V V' h1 hal h2 h.1, by rw [h1, h2]; exact h.2⟩) ?_
  intro p e s m args below meth c s₁ X0 hexec hbytes hml hret hlk hnm hown hh0 W hP
  obtain ⟨rfl, hA, l1, l2, hp⟩ := hP
  have a31 := hA.1.2.2.2
  have c1 : Steps p.tables e below (s₁.setTop (entryFrame m #[.ref b, .int (Int32.ofNat o), .int (Int32.ofNat len)] 6)) (s₁.setTop (mkF m 0 #[.val (.ref b), .val (.int (Int32.ofNat o)), .val (.int (Int32.ofNat len)), .unset, .unset, .unset] [])) := entry rfl
  have c2 : Steps p.tables e below (s₁.setTop (entryFrame m #[.ref b, .int (Int32.ofNat o), .int (Int32.ofNat len)] 6)) (s₁.setTop (mkF m 1 #[.val (.ref b), .val (.int (Int32.ofNat o)), .val (.int (Int32.ofNat len)), .unset, .unset, .unset] [.int (Int32.ofNat len)])) := c1.trans (by
    refine XS.iloadN X0.here hexec rfl (hb hbytes d0) rfl ?_
    exact Steps.refl _)
  obtain ⟨T3, B3, X3, ba3, bs3, bv3, bh3, bf3, st3⟩ := X0.anew hexec (atype := .byte) (wk W (.arrayClass .byte)) rfl (by show len * 1 ≤ _; omega) (by omega) (g := (mkF m 1 #[.val (.ref b), .val (.int (Int32.ofNat o)), .val (.int (Int32.ofNat len)), .unset, .unset, .unset] [.int (Int32.ofNat len)])) rfl (hb hbytes d1) (rest := []) rfl (Nat.le_refl _) (by show 0 + len ≤ len; omega)
  rw [hh0] at ba3 st3
  have kp3 : XT.Kept s T3 := (XT.Kept.of_eq hh0).push bh3
  have hA3 := hA.keep X3.warmed.alike (kp3 _ _ hA.1.1)
  have hne : b ≠ s.heap.size := hA.1.ne
  have c4 : Steps p.tables e below (s₁.setTop (entryFrame m #[.ref b, .int (Int32.ofNat o), .int (Int32.ofNat len)] 6)) (T3.setTop (mkF m 3 #[.val (.ref b), .val (.int (Int32.ofNat o)), .val (.int (Int32.ofNat len)), .unset, .unset, .unset] [.ref s.heap.size])) := c2.trans (st3 _ (Steps.refl _))
  have c5 : Steps p.tables e below (s₁.setTop (entryFrame m #[.ref b, .int (Int32.ofNat o), .int (Int32.ofNat len)] 6)) (T3.setTop (mkF m 9 #[.val (.ref b), .val (.int (Int32.ofNat o)), .val (.int (Int32.ofNat len)), .val (.ref s.heap.size), .unset, .unset] [.int (Int32.ofNat len), .int 0, .ref s.heap.size, .int (Int32.ofNat o), .ref b])) := c4.trans (by
    refine XS.astoreN X3.here hexec rfl (hb hbytes d3) rfl rfl rfl ?_
    refine XS.aloadN X3.here hexec rfl (hb hbytes d4) rfl rfl ?_
    refine XS.iloadN X3.here hexec rfl (hb hbytes d5) rfl ?_
    refine XS.aloadN X3.here hexec rfl (hb hbytes d6) rfl rfl ?_
    refine iconstV X3.here hexec rfl 0 (hb hbytes d7) (by decide) ?_
    refine XS.iloadN X3.here hexec rfl (hb hbytes d8) rfl ?_
    exact Steps.refl _)
  obtain ⟨v6, T6, X6, E6, g6⟩ := X3.callS hexec (Cmp5.law l b A s.heap.size B3 o 0 len) hown (wks W (staticW U16 115 Cmp5.yN)) (wk W Cmp5.tab) (W := 0) (Nat.le_of_ble_eq_true rfl) (Nat.le_of_ble_eq_true rfl) (Nat.le_refl _) (by show 0 + len + 0 ≤ len; omega) (g := (mkF m 9 #[.val (.ref b), .val (.int (Int32.ofNat o)), .val (.int (Int32.ofNat len)), .val (.ref s.heap.size), .unset, .unset] [.int (Int32.ofNat len), .int (Int32.ofNat 0), .ref s.heap.size, .int (Int32.ofNat o), .ref b])) rfl (by rw [hml]; rfl) c5 (argsL := [.ref b, .int (Int32.ofNat o), .ref s.heap.size, .int (Int32.ofNat 0), .int (Int32.ofNat len)]) (rest := []) rfl rfl (by show 2 * 0 + 0 ≤ _; decide) (hb hbytes d9) (⟨rfl, hA3, ba3, hne, l1, by rw [bs3]; simp, hp⟩)
  obtain ⟨rfl, B6, p6, f6⟩ := E6
  have c7 : Steps p.tables e below (s₁.setTop (entryFrame m #[.ref b, .int (Int32.ofNat o), .int (Int32.ofNat len)] 6)) (T6.setTop (mkF m 12 #[.val (.ref b), .val (.int (Int32.ofNat o)), .val (.int (Int32.ofNat len)), .val (.ref s.heap.size), .unset, .unset] [.int (Int32.ofNat len)])) := g6
  have c8 : Steps p.tables e below (s₁.setTop (entryFrame m #[.ref b, .int (Int32.ofNat o), .int (Int32.ofNat len)] 6)) (T6.setTop (mkF m 58 #[.val (.ref b), .val (.int (Int32.ofNat o)), .val (.int (Int32.ofNat len)), .val (.ref s.heap.size), .val (.int (Int32.ofNat len)), .unset] [.ref s.heap.size])) := c7.trans (by
    refine XS.istore X6.here hexec rfl (hb hbytes d12) rfl rfl ?_
    refine XS.iload X6.here hexec rfl (hb hbytes d14) rfl ?_
    refine XS.iloadN X6.here hexec rfl (hb hbytes d16) rfl ?_
    refine XS.icmpYes X6.here hexec rfl (pc0 := 17) rfl (hb hbytes d17) rfl (ii_eq_t rfl) (by decide) rfl ?_
    refine XS.aloadN X6.here hexec rfl (hb hbytes d57) rfl rfl ?_
    exact Steps.refl _)
  have X8 := X6.wide (L' := []) (cells' := 1) (slots' := len) (fun x hx hlt => by
    simp only [List.nil_append, copyLocs, List.mem_map, List.mem_range] at hx
    obtain ⟨i, -, rfl⟩ := hx
    exact absurd hlt (Nat.lt_irrefl _)) (Nat.le_refl _) (by omega)
  exact ⟨T6, some (.ref s.heap.size), _, _, _, X8, rfl, rfl, rfl, (fun h => by cases h), ⟨⟨rfl, B6, ba3.like (X3.warmed.alike.symm.trans X6.warmed.alike) p6.1 f6.1 f6.2.1 f6.2.2.1, f6.2.1.trans bv3, by rw [X6.warmed.alike.findClass, f6.1]; exact bf3, by rw [f6.2.2.1, bs3]; simp, fun j hj => by rw [f6.2.2.2 j, if_pos (by omega)]; rfl, kp3.put p6 (Nat.le_refl _)⟩, by rw [p6.2.2, bh3, hh0]; simp⟩, fun fs hl => c8.trans (X8.areturnOut hexec rfl hret rfl (hb hbytes d58) hl)⟩
end Cmp3
namespace CodL
def yN : MethodName := ⟨"java/lang/StringUTF16", "coderFromArrayLen", "([BI)B"⟩
abbrev yB : ByteArray := jdk_52_method_15_code
theorem d0 : decode yB 0 = .ok (.iload_n 1, 1) := by decide +kernel
theorem d1 : decode yB 1 = .ok (.aload_n 0, 1) := by decide +kernel
theorem d2 : decode yB 2 = .ok (.arraylength, 1) := by decide +kernel
theorem d3 : decode yB 3 = .ok (.isub, 1) := by decide +kernel
theorem d4 : decode yB 4 = .ok (.bipush 31, 2) := by decide +kernel
theorem d6 : decode yB 6 = .ok (.iushr, 1) := by decide +kernel
theorem d7 : decode yB 7 = .ok (.i2b, 1) := by decide +kernel
theorem d8 : decode yB 8 = .ok (.ireturn, 1) := by decide +kernel
def site : List Cond := []
def tab : Cond := tabOf yN yB 2 (some .byte) site
def P (d : Addr) (B : Cell) (args : Array Value) (s : State) : Prop := args = #[.ref d, .int (Int32.ofNat B.slots.size)] ∧ Arr .byte d B s
def E (r : Option Value) (s u : State) : Prop := XT.PureE (some (.int 0)) r s u
/-- an array as long as the number of chars: LATIN1 -/
theorem law (l : Launch) (d : Addr) (B : Cell) : Law l yN 2 2 0 0 yB 2 (some .byte) site (P d B) E [] 0 0 := by
  refine Law.of_walk (plainFor_of_name (by decide +kernel)) (by decide +kernel) (by decide +kernel) (by decide) (fun _ _ h => by rw [h.1]; rfl) (fun _ U U' hal hh h => ⟨h.1, h.2.mv hal hh⟩) (fun r U U' V V' h1 hal h2 h => XT.PureE.mv r U U' V V' h1 hal h2 h) ?_
  intro p e s m args below meth c s₁ X0 hexec hbytes hml hret hlk hnm hown hh0 W hP
  obtain ⟨rfl, hB⟩ := hP
  have hB0 := hB.mv X0.warmed.alike hh0
  have c1 : Steps p.tables e below (s₁.setTop (entryFrame m #[.ref d, .int (Int32.ofNat B.slots.size)] 2)) (s₁.setTop (mkF m 0 #[.val (.ref d), .val (.int (Int32.ofNat B.slots.size))] [])) := entry rfl
  have c2 : Steps p.tables e below (s₁.setTop (entryFrame m #[.ref d, .int (Int32.ofNat B.slots.size)] 2)) (s₁.setTop (mkF m 2 #[.val (.ref d), .val (.int (Int32.ofNat B.slots.size))] [.ref d, .int (Int32.ofNat B.slots.size)])) := c1.trans (by
    refine XS.iloadN X0.here hexec rfl (hb hbytes d0) rfl ?_
    refine XS.aloadN X0.here hexec rfl (hb hbytes d1) rfl rfl ?_
    exact Steps.refl _)
  have c3 : Steps p.tables e below (s₁.setTop (entryFrame m #[.ref d, .int (Int32.ofNat B.slots.size)] 2)) (s₁.setTop (mkF m 8 #[.val (.ref d), .val (.int (Int32.ofNat B.slots.size))] [.int (lo8 (ushr (Int32.ofNat B.slots.size - Int32.ofNat B.slots.size) 31))])) := c2.trans (by
    refine X0.alen hexec hB0 rfl rfl (hb hbytes d2) ?_
    refine XS.isub X0.here hexec rfl (hb hbytes d3) rfl ?_
    refine bipushV X0.here hexec rfl 31 (hb hbytes d4) (by decide) ?_
    refine iushr X0.here hexec rfl (hb hbytes d6) rfl ?_
    refine i2b X0.here hexec rfl (hb hbytes d7) rfl ?_
    exact Steps.refl _)
  have e0 : lo8 (ushr (Int32.ofNat B.slots.size - Int32.ofNat B.slots.size) 31) = 0 := by rw [Int32.sub_self]; decide
  rw [e0] at c3
  exact ⟨s₁, some (.int 0), _, _, _, X0, rfl, rfl, rfl, (fun h => by cases h), ⟨rfl, hh0⟩, fun fs hl => c3.trans (X0.ireturnOut hexec hret rfl (Or.inr (Or.inr (Or.inl rfl))) (hb hbytes d8) hl)⟩
end CodL
/-- the String at a is Latin-1 over a new byte[] (the heap's one new cell): the low bytes of the len chars of A from o on; every cell but a is kept -/
def Got (a : Addr) (D : Cell) (fV fC : Field) (A : Cell) (o len : Nat) (r : Option Value) (s u : State) : Prop := r = none ∧ ∃ D' V : Cell, Blank "java/lang/String" a D' u ∧ Same D D' [fV.slot, fC.slot] ∧ D'.slots[fV.slot]? = some (.ref s.heap.size) ∧ D'.slots[fC.slot]? = some (.int 0) ∧ Arr .byte s.heap.size V u ∧ V.vm = .none ∧ u.vm.findClass "[B" = some V.cls ∧ V.slots.size = len ∧ (∀ j, j < len → V.slots[j]? = some (.int (lo8 (cv A (o + j))))) ∧ (∀ (y : Addr) (c : Cell), y ≠ a → s.heap[y]? = some c → u.heap[y]? = some c) ∧ u.heap.size = s.heap.size + 1
theorem Got.mv {a : Addr} {D A : Cell} {fV fC : Field} {o len : Nat} : ∀ r (U U' V V' : State), U'.heap = U.heap → V.vm.Alike V'.vm → V'.heap = V.heap → Got a D fV fC A o len r U V → Got a D fV fC A o len r U' V' :=
  fun r U U' V V' h1 hal h2 ⟨e0, D', X, a1, a2, a3, a4, a5, a6, a7, a8, a9, a10, a11⟩ => ⟨e0, D', X, a1.mv hal h2, a2, by rw [h1]; exact a3, a4, by rw [h1]; exact a5.mv hal h2, a6, by rw [hal.findClass]; exact a7, a8, a9, by rw [h1, h2]; exact a10, by rw [h1, h2]; exact a11⟩
namespace New4
def yN : MethodName := ⟨"java/lang/String", "<init>", "([CIILjava/lang/Void;)V"⟩
abbrev yB : ByteArray := jdk_42_method_149_code
theorem d0 : decode yB 0 = .ok (.aload_n 0, 1) := by decide +kernel
theorem d1 : decode yB 1 = .ok (.invokespecial 1, 3) := by decide +kernel
theorem d4 : decode yB 4 = .ok (.iload_n 3, 1) := by decide +kernel
theorem d5 : decode yB 5 = .ok (.ifCond (.ne) 22, 3) := by decide +kernel
theorem d27 : decode yB 27 = .ok (.getstatic 38, 3) := by decide +kernel
theorem d30 : decode yB 30 = .ok (.ifCond (.eq) 28, 3) := by decide +kernel
theorem d33 : decode yB 33 = .ok (.aload_n 1, 1) := by decide +kernel
theorem d34 : decode yB 34 = .ok (.iload_n 2, 1) := by decide +kernel
theorem d35 : decode yB 35 = .ok (.iload_n 3, 1) := by decide +kernel
theorem d36 : decode yB 36 = .ok (.invokestatic 177, 3) := by decide +kernel
theorem d39 : decode yB 39 = .ok (.astore 5, 2) := by decide +kernel
theorem d41 : decode yB 41 = .ok (.aload_n 0, 1) := by decide +kernel
theorem d42 : decode yB 42 = .ok (.aload 5, 2) := by decide +kernel
theorem d44 : decode yB 44 = .ok (.iload_n 3, 1) := by decide +kernel
theorem d45 : decode yB 45 = .ok (.invokestatic 47, 3) := by decide +kernel
theorem d48 : decode yB 48 = .ok (.putfield 15, 3) := by decide +kernel
theorem d51 : decode yB 51 = .ok (.aload_n 0, 1) := by decide +kernel
theorem d52 : decode yB 52 = .ok (.aload 5, 2) := by decide +kernel
theorem d54 : decode yB 54 = .ok (.putfield 9, 3) := by decide +kernel
theorem d57 : decode yB 57 = .ok (.return_, 1) := by decide +kernel
def site : List Cond := [.fieldLink "java/lang/String" 38 "java/lang/String" "COMPACT_STRINGS" "Z", Cmp3.tab, CodL.tab, .laysFinal "java/lang/String" "java/lang/String" "value" "[B", .fieldLink "java/lang/String" 9 "java/lang/String" "value" "[B", .laysFinal "java/lang/String" "java/lang/String" "coder" "B", .fieldLink "java/lang/String" 15 "java/lang/String" "coder" "B"] ++ objW "java/lang/String" 1 ++ staticW "java/lang/String" 177 Cmp3.yN ++ staticW "java/lang/String" 47 CodL.yN
def tab : Cond := tabOf yN yB 6 none site
def P (a : Addr) (D : Cell) (fV fC : Field) (b : Addr) (A : Cell) (z : Int32) (o len : Nat) (args : Array Value) (s : State) : Prop := args = #[.ref a, .ref b, .int (Int32.ofNat o), .int (Int32.ofNat len), .null] ∧ Blank "java/lang/String" a D s ∧ Found "java/lang/String" "value" "[B" fV s ∧ Found "java/lang/String" "coder" "B" fC s ∧ Ch b A s ∧ StaticIs s "java/lang/String" "COMPACT_STRINGS" "Z" (.int z) ∧ ¬ z = 0 ∧ 0 < len ∧ o + len ≤ A.slots.size ∧ len ≤ 536870912 ∧ ∀ i, i < len → ¬ 255 < cv A (o + i)
def E (a : Addr) (D : Cell) (fV fC : Field) (A : Cell) (o len : Nat) (r : Option Value) (s u : State) : Prop := Got a D fV fC A o len r s u
/-- len > 0, no char of the range above 255: a Latin-1 String of their low bytes -/
theorem law (l : Launch) (a : Addr) (D : Cell) (fV fC : Field) (b : Addr) (A : Cell) (z : Int32) (o len : Nat) : Law l yN 5 4 2 35 yB 6 none site (P a D fV fC b A z o len) (E a D fV fC A o len) [⟨a, fC.slot⟩, ⟨a, fV.slot⟩] 1 len := by
  refine Law.of_walk (plainFor_of_name (by decide +kernel)) (by decide +kernel) (by decide +kernel) (by decide) (fun _ _ h => by rw [h.1]; rfl) (fun _ U U' hal hh h => ⟨h.1, h.2.1.mv hal hh, h.2.2.1.al hal, h.2.2.2.1.al hal, h.2.2.2.2.1.mv hal hh, h.2.2.2.2.2.1.there hal hh, h.2.2.2.2.2.2⟩) (fun r U U' V V' h1 hal h2 h => Got.mv r U U' V V' h1 hal h2 h) ?_
  intro p e s m args below meth c s₁ X0 hexec hbytes hml hret hlk hnm hown hh0 W hP
  obtain ⟨rfl, hB, f1, f2, hA, s1, hz, l0, l1, l2, hp⟩ := hP
  have a31 := hA.1.2.2.2
  have c1 : Steps p.tables e below (s₁.setTop (entryFrame m #[.ref a, .ref b, .int (Int32.ofNat o), .int (Int32.ofNat len), .null] 6)) (s₁.setTop (mkF m 0 #[.val (.ref a), .val (.ref b), .val (.int (Int32.ofNat o)), .val (.int (Int32.ofNat len)), .val .null, .unset] [])) := entry rfl
  have c2 : Steps p.tables e below (s₁.setTop (entryFrame m #[.ref a, .ref b, .int (Int32.ofNat o), .int (Int32.ofNat len), .null] 6)) (s₁.setTop (mkF m 1 #[.val (.ref a), .val (.ref b), .val (.int (Int32.ofNat o)), .val (.int (Int32.ofNat len)), .val .null, .unset] [.ref a])) := c1.trans (by
    refine XS.aloadN X0.here hexec rfl (hb hbytes d0) rfl rfl ?_
    exact Steps.refl _)
  obtain ⟨T3, X3, q3, st3⟩ := X0.oinit hexec hown (wks W (objW "java/lang/String" 1)) (g := (mkF m 1 #[.val (.ref a), .val (.ref b), .val (.int (Int32.ofNat o)), .val (.int (Int32.ofNat len)), .val .null, .unset] [.ref a])) rfl (by rw [hml]; rfl) (rest := []) rfl (hb hbytes d1) (W := 0) (by show 2 * 0 + 0 ≤ _; decide) (Nat.le_of_ble_eq_true rfl) (Nat.le_of_ble_eq_true rfl)
  have hh3 := q3.trans hh0
  have c4 : Steps p.tables e below (s₁.setTop (entryFrame m #[.ref a, .ref b, .int (Int32.ofNat o), .int (Int32.ofNat len), .null] 6)) (T3.setTop (mkF m 27 #[.val (.ref a), .val (.ref b), .val (.int (Int32.ofNat o)), .val (.int (Int32.ofNat len)), .val .null, .unset] [])) := (c2.trans (st3 _ (Steps.refl _))).trans (by
    refine XS.iloadN X3.here hexec rfl (hb hbytes d4) rfl ?_
    refine XS.ifYes X3.here hexec rfl (pc0 := 5) rfl (hb hbytes d5) rfl (i0_ne_t (nz32 (by omega) l0)) (by decide) rfl ?_
    exact Steps.refl _)
  obtain ⟨T5, X5, q5, st5⟩ := X3.sget hexec hown (wk W (.fieldLink "java/lang/String" 38 "java/lang/String" "COMPACT_STRINGS" "Z")) s1 (fun _ _ h => by rw [hh3]; exact h) (g := (mkF m 27 #[.val (.ref a), .val (.ref b), .val (.int (Int32.ofNat o)), .val (.int (Int32.ofNat len)), .val .null, .unset] [])) rfl (hb hbytes d27)
  have hh5 := q5.trans hh3
  have c6 : Steps p.tables e below (s₁.setTop (entryFrame m #[.ref a, .ref b, .int (Int32.ofNat o), .int (Int32.ofNat len), .null] 6)) (T5.setTop (mkF m 30 #[.val (.ref a), .val (.ref b), .val (.int (Int32.ofNat o)), .val (.int (Int32.ofNat len)), .val .null, .unset] [.int z])) := c4.trans (st5 _ (Steps.refl _))
  have c7 : Steps p.tables e below (s₁.setTop (entryFrame m #[.ref a, .ref b, .int (Int32.ofNat o), .int (Int32.ofNat len), .null] 6)) (T5.setTop (mkF m 36 #[.val (.ref a), .val (.ref b), .val (.int (Int32.ofNat o)), .val (.int (Int32.ofNat len)), .val .null, .unset] [.int (Int32.ofNat len), .int (Int32.ofNat o), .ref b])) := c6.trans (by
    refine XS.ifNo X5.here hexec rfl (hb hbytes d30) rfl (i0_eq_f hz) ?_
    refine XS.aloadN X5.here hexec rfl (hb hbytes d33) rfl rfl ?_
    refine XS.iloadN X5.here hexec rfl (hb hbytes d34) rfl ?_
    refine XS.iloadN X5.here hexec rfl (hb hbytes d35) rfl ?_
    exact Steps.refl _)
  obtain ⟨v8, T8, X8, E8, g8⟩ := X5.callS hexec (Cmp3.law l b A o len) hown (wks W (staticW "java/lang/String" 177 Cmp3.yN)) (wk W Cmp3.tab) (W := 0) (Nat.le_of_ble_eq_true rfl) (Nat.le_of_ble_eq_true rfl) (Nat.le_refl _) (by show 0 + len ≤ len; omega) (g := (mkF m 36 #[.val (.ref a), .val (.ref b), .val (.int (Int32.ofNat o)), .val (.int (Int32.ofNat len)), .val .null, .unset] [.int (Int32.ofNat len), .int (Int32.ofNat o), .ref b])) rfl (by rw [hml]; rfl) c7 (argsL := [.ref b, .int (Int32.ofNat o), .int (Int32.ofNat len)]) (rest := []) rfl rfl (by show 2 * 0 + 0 ≤ _; decide) (hb hbytes d36) (⟨rfl, hA.mv X5.warmed.alike hh5, l1, l2, hp⟩)
  obtain ⟨e8, z8⟩ := E8
  obtain ⟨rfl, N, n1, n2, n3, n4, n5, n6⟩ := NewArr.mv _ T5 s _ _ hh5.symm (Vm.Alike.refl _) rfl e8
  rw [hh5] at z8
  have hB1 := hB.keep X8.warmed.alike (n6 _ _ hB.1)
  have hne : s.heap.size ≠ a := (Nat.ne_of_lt (Array.getElem?_eq_some_iff.mp hB.1).1).symm
  have c9 : Steps p.tables e below (s₁.setTop (entryFrame m #[.ref a, .ref b, .int (Int32.ofNat o), .int (Int32.ofNat len), .null] 6)) (T8.setTop (mkF m 39 #[.val (.ref a), .val (.ref b), .val (.int (Int32.ofNat o)), .val (.int (Int32.ofNat len)), .val .null, .unset] [.ref s.heap.size])) := g8
  have c10 : Steps p.tables e below (s₁.setTop (entryFrame m #[.ref a, .ref b, .int (Int32.ofNat o), .int (Int32.ofNat len), .null] 6)) (T8.setTop (mkF m 45 #[.val (.ref a), .val (.ref b), .val (.int (Int32.ofNat o)), .val (.int (Int32.ofNat len)), .val .null, .val (.ref s.heap.size)] [.int (Int32.ofNat N.slots.size), .ref s.heap.size, .ref a])) := by
    have hc : Steps p.tables e below (s₁.setTop (entryFrame m #[.ref a, .ref b, .int (Int32.ofNat o), .int (Int32.ofNat len), .null] 6)) (T8.setTop (mkF m 45 #[.val (.ref a), .val (.ref b), .val (.int (Int32.ofNat o)), .val (.int (Int32.ofNat len)), .val .null, .val (.ref s.heap.size)] [.int (Int32.ofNat len), .ref s.heap.size, .ref a])) := c9.trans (by
      refine XS.astore X8.here hexec rfl (hb hbytes d39) rfl rfl rfl ?_
      refine XS.aloadN X8.here hexec rfl (hb hbytes d41) rfl rfl ?_
      refine XS.aload X8.here hexec rfl (hb hbytes d42) rfl rfl ?_
      refine XS.iloadN X8.here hexec rfl (hb hbytes d44) rfl ?_
      exact Steps.refl _)
    rw [n4]; exact hc
  obtain ⟨v11, T11, X11, E11, g11⟩ := X8.callS hexec (CodL.law l s.heap.size N) hown (wks W (staticW "java/lang/String" 47 CodL.yN)) (wk W CodL.tab) (W := 1) (Nat.le_of_ble_eq_true rfl) (Nat.le_of_ble_eq_true rfl) (Nat.le_refl _) (by show 0 + len + 0 ≤ len; omega) (g := (mkF m 45 #[.val (.ref a), .val (.ref b), .val (.int (Int32.ofNat o)), .val (.int (Int32.ofNat len)), .val .null, .val (.ref s.heap.size)] [.int (Int32.ofNat N.slots.size), .ref s.heap.size, .ref a])) rfl (by rw [hml]; rfl) c10 (argsL := [.ref s.heap.size, .int (Int32.ofNat N.slots.size)]) (rest := [.ref a]) rfl rfl (by show 2 * 0 + (1 + 0) ≤ _; decide) (hb hbytes d45) (⟨rfl, n1⟩)
  obtain ⟨rfl, q11⟩ := E11
  have hB11 := hB1.mv (X8.warmed.alike.symm.trans X11.warmed.alike) q11
  have c12 : Steps p.tables e below (s₁.setTop (entryFrame m #[.ref a, .ref b, .int (Int32.ofNat o), .int (Int32.ofNat len), .null] 6)) (T11.setTop (mkF m 48 #[.val (.ref a), .val (.ref b), .val (.int (Int32.ofNat o)), .val (.int (Int32.ofNat len)), .val .null, .val (.ref s.heap.size)] [.int 0, .ref a])) := g11
  obtain ⟨T13, X13, p13, bl13, sl13, st13⟩ := X11.finit hexec hown (wk W (.fieldLink "java/lang/String" 15 "java/lang/String" "coder" "B")) (Or.inr ⟨_, (wk W (.laysFinal "java/lang/String" "java/lang/String" "coder" "B"))⟩) (Or.inl ⟨rfl, hnm⟩) f2 (Or.inl rfl) hB11 (t := .byte) (by decide +kernel) rfl (g := (mkF m 48 #[.val (.ref a), .val (.ref b), .val (.int (Int32.ofNat o)), .val (.int (Int32.ofNat len)), .val .null, .val (.ref s.heap.size)] [.int 0, .ref a])) rfl (rest := []) rfl (hb hbytes d48)
  have c14 : Steps p.tables e below (s₁.setTop (entryFrame m #[.ref a, .ref b, .int (Int32.ofNat o), .int (Int32.ofNat len), .null] 6)) (T13.setTop (mkF m 54 #[.val (.ref a), .val (.ref b), .val (.int (Int32.ofNat o)), .val (.int (Int32.ofNat len)), .val .null, .val (.ref s.heap.size)] [.ref s.heap.size, .ref a])) := (c12.trans (st13 _ (Steps.refl _))).trans (by
    refine XS.aloadN X13.here hexec rfl (hb hbytes d51) rfl rfl ?_
    refine XS.aload X13.here hexec rfl (hb hbytes d52) rfl rfl ?_
    exact Steps.refl _)
  obtain ⟨T15, X15, p15, bl15, sl15, st15⟩ := X13.finit hexec hown (wk W (.fieldLink "java/lang/String" 9 "java/lang/String" "value" "[B")) (Or.inr ⟨_, (wk W (.laysFinal "java/lang/String" "java/lang/String" "value" "[B"))⟩) (Or.inl ⟨rfl, hnm⟩) f1 (Or.inl rfl) bl13 (t := (.array .byte)) (by decide +kernel) rfl (g := (mkF m 54 #[.val (.ref a), .val (.ref b), .val (.int (Int32.ofNat o)), .val (.int (Int32.ofNat len)), .val .null, .val (.ref s.heap.size)] [.ref s.heap.size, .ref a])) rfl (rest := []) rfl (hb hbytes d54)
  have c16 : Steps p.tables e below (s₁.setTop (entryFrame m #[.ref a, .ref b, .int (Int32.ofNat o), .int (Int32.ofNat len), .null] 6)) (T15.setTop (mkF m 57 #[.val (.ref a), .val (.ref b), .val (.int (Int32.ofNat o)), .val (.int (Int32.ofNat len)), .val .null, .val (.ref s.heap.size)] [])) := c14.trans (st15 _ (Steps.refl _))
  have ap := apart (Or.inr ⟨_, (wk W (.laysFinal "java/lang/String" "java/lang/String" "value" "[B"))⟩) (Or.inr ⟨_, (wk W (.laysFinal "java/lang/String" "java/lang/String" "coder" "B"))⟩) f1 f2 (t₁ := .array .byte) (t₂ := .byte) (by decide +kernel) (by decide +kernel) (by decide)
  have al := X8.warmed.alike.symm.trans X15.warmed.alike
  have n7 : T11.heap[s.heap.size]? = some N := by rw [q11]; exact n1.1
  exact ⟨T15, none, _, _, _, X15, by simp, rfl, by omega, (fun _ => rfl), ⟨rfl, _, N, bl15, ((Same.refl D _).set _ (by simp)).set _ (by simp), sl15, (Cell.slots_setSlot_ne _ ap).trans sl13, n1.keep al (p15.other hne (p13.other hne n7)), n2, by rw [al.findClass]; exact n3, n4, n5, fun y c h1 h2 => p15.other h1 (p13.other h1 (by rw [q11]; exact n6 y c h2)), by rw [p15.2.2, p13.2.2, q11]; exact z8⟩, fun fs hl => c16.trans (X15.returnOut hexec hret (hb hbytes d57) hl)⟩
end New4
namespace New1
def yN : MethodName := ⟨"java/lang/String", "<init>", "([C)V"⟩
abbrev yB : ByteArray := jdk_42_method_3_code
theorem d0 : decode yB 0 = .ok (.aload_n 0, 1) := by decide +kernel
theorem d1 : decode yB 1 = .ok (.aload_n 1, 1) := by decide +kernel
theorem d2 : decode yB 2 = .ok (.iconst 0, 1) := by decide +kernel
theorem d3 : decode yB 3 = .ok (.aload_n 1, 1) := by decide +kernel
theorem d4 : decode yB 4 = .ok (.arraylength, 1) := by decide +kernel
theorem d5 : decode yB 5 = .ok (.aconst_null, 1) := by decide +kernel
theorem d6 : decode yB 6 = .ok (.invokespecial 27, 3) := by decide +kernel
theorem d9 : decode yB 9 = .ok (.return_, 1) := by decide +kernel
def site : List Cond := [New4.tab] ++ initW "java/lang/String" 27 New4.yN
def tab : Cond := tabOf yN yB 2 none site
def P (a : Addr) (D : Cell) (fV fC : Field) (b : Addr) (A : Cell) (z : Int32) (args : Array Value) (s : State) : Prop := args = #[.ref a, .ref b] ∧ Blank "java/lang/String" a D s ∧ Found "java/lang/String" "value" "[B" fV s ∧ Found "java/lang/String" "coder" "B" fC s ∧ Ch b A s ∧ StaticIs s "java/lang/String" "COMPACT_STRINGS" "Z" (.int z) ∧ ¬ z = 0 ∧ 0 < A.slots.size ∧ A.slots.size ≤ 536870912 ∧ ∀ i, i < A.slots.size → ¬ 255 < cv A i
def E (a : Addr) (D : Cell) (fV fC : Field) (A : Cell) (r : Option Value) (s u : State) : Prop := Got a D fV fC A 0 A.slots.size r s u
/-- new String(chars), not empty, no char above 255: a Latin-1 String of their low bytes -/
theorem law (l : Launch) (a : Addr) (D : Cell) (fV fC : Field) (b : Addr) (A : Cell) (z : Int32) : Law l yN 2 1 3 52 yB 2 none site (P a D fV fC b A z) (E a D fV fC A) [⟨a, fC.slot⟩, ⟨a, fV.slot⟩] 1 A.slots.size := by
  refine Law.of_walk (plainFor_of_name (by decide +kernel)) (by decide +kernel) (by decide +kernel) (by decide) (fun _ _ h => by rw [h.1]; rfl) (fun _ U U' hal hh h => ⟨h.1, h.2.1.mv hal hh, h.2.2.1.al hal, h.2.2.2.1.al hal, h.2.2.2.2.1.mv hal hh, h.2.2.2.2.2.1.there hal hh, h.2.2.2.2.2.2⟩) (fun r U U' V V' h1 hal h2 h => Got.mv r U U' V V' h1 hal h2 h) ?_
  intro p e s m args below meth c s₁ X0 hexec hbytes hml hret hlk hnm hown hh0 W hP
  obtain ⟨rfl, hB, f1, f2, hA, s1, hz, l0, l2, hp⟩ := hP
  have c1 : Steps p.tables e below (s₁.setTop (entryFrame m #[.ref a, .ref b] 2)) (s₁.setTop (mkF m 0 #[.val (.ref a), .val (.ref b)] [])) := entry rfl
  have c2 : Steps p.tables e below (s₁.setTop (entryFrame m #[.ref a, .ref b] 2)) (s₁.setTop (mkF m 6 #[.val (.ref a), .val (.ref b)] [.null, .int (Int32.ofNat A.slots.size), .int 0, .ref b, .ref a])) := c1.trans (by
    refine XS.aloadN X0.here hexec rfl (hb hbytes d0) rfl rfl ?_
    refine XS.aloadN X0.here hexec rfl (hb hbytes d1) rfl rfl ?_
    refine iconstV X0.here hexec rfl 0 (hb hbytes d2) (by decide) ?_
    refine XS.aloadN X0.here hexec rfl (hb hbytes d3) rfl rfl ?_
    refine X0.alen hexec (hA.1.mv X0.warmed.alike hh0) rfl rfl (hb hbytes d4) ?_
    refine XS.aconstNull X0.here hexec rfl (hb hbytes d5) ?_
    exact Steps.refl _)
  obtain ⟨v3, T3, X3, E3, g3⟩ := X0.callN hexec (New4.law l a D fV fC b A z 0 A.slots.size) rfl hown (wks W (initW "java/lang/String" 27 New4.yN)) (W New4.tab (by simp only [site, List.mem_cons, List.mem_append, true_or, or_true])) (W := 0) (Nat.le_of_ble_eq_true rfl) (Nat.le_of_ble_eq_true rfl) (Nat.le_refl _) (by show 0 + A.slots.size ≤ A.slots.size; omega) (g := (mkF m 6 #[.val (.ref a), .val (.ref b)] [.null, .int (Int32.ofNat A.slots.size), .int (Int32.ofNat 0), .ref b, .ref a])) rfl (by rw [hml]; rfl) c2 (argsL := [.ref b, .int (Int32.ofNat 0), .int (Int32.ofNat A.slots.size), .null]) (rest := []) rfl rfl (by show 2 * 0 + 0 ≤ _; decide) (hb hbytes d6) (⟨rfl, hB.mv X0.warmed.alike hh0, f1.al X0.warmed.alike, f2.al X0.warmed.alike, hA.mv X0.warmed.alike hh0, s1.there X0.warmed.alike hh0, hz, l0, by omega, l2, fun i hi => by rw [Nat.zero_add]; exact hp i hi⟩)
  have e0 := Got.mv _ s₁ s _ _ hh0.symm (Vm.Alike.refl _) rfl E3
  obtain rfl := e0.1
  have c4 : Steps p.tables e below (s₁.setTop (entryFrame m #[.ref a, .ref b] 2)) (T3.setTop (mkF m 9 #[.val (.ref a), .val (.ref b)] [])) := g3
  exact ⟨T3, none, _, _, _, X3, by simp, rfl, by omega, (fun _ => rfl), e0, fun fs hl => c4.trans (X3.returnOut hexec hret (hb hbytes d9) hl)⟩
theorem pays {l : Launch} {R : Room} {p : Program} {e : Env} {below : List Frame} {s : State} {sargs : Array Value} {len W : Nat} (a : Addr) (D : Cell) (fV fC : Field) (b : Addr) (A : Cell) (z : Int32) (htab : tab.before sargs s = true) (hfr : 4 ≤ R.frames) (hlo : W + 65 ≤ R.locals) :
    Back l R p e below s sargs yN len W (fun A₁ a₁ => A₁.cells + 1 ≤ R.cells ∧ A₁.slots + A.slots.size ≤ R.slots ∧ P a D fV fC b A z a₁ A₁.U) (fun A₁ _ v₁ B₁ => E a D fV fC A v₁ A₁.U B₁.U ∧ B₁.locs = A₁.locs ++ [⟨a, fC.slot⟩, ⟨a, fV.slot⟩] ∧ B₁.cells = A₁.cells + 1 ∧ B₁.slots = A₁.slots + A.slots.size) :=
  (law l a D fV fC b A z).pays htab hfr (by omega)
end New1
/-- the byte, read back as charAt reads it, is the char -/
theorem lo8_mask {x : Int32} (h0 : ¬ x < 0) (h1 : ¬ 255 < x) : lo8 x &&& 255 = x := by
  have t : ∀ k : Fin 256, lo8 (Int32.ofNat k.val) &&& 255 = Int32.ofNat k.val := by decide +kernel
  rw [Int32.lt_iff_toInt_lt] at h0 h1
  have e0 : (0 : Int32).toInt = 0 := rfl
  have e1 : (255 : Int32).toInt = 255 := rfl
  obtain ⟨k, hk⟩ : ∃ k : Nat, x.toInt = k := ⟨x.toInt.toNat, by omega⟩
  have hx : x = Int32.ofNat k := Int32.toInt_inj.mp (by rw [hk, Int32.toInt_ofNat_small (by omega)])
  rw [hx]
  exact t ⟨k, by omega⟩
end StrChars
namespace StrChars.Road
open Jvm Sem ClassFile Op Lib Jvm.Stand Jvm.Free Jvm.Free.XT
open Jvm.Lib.Cold (StaticIs)
abbrev ST : String := "java/lang/String"
/-- every table word that New1's law asks, flat -/
abbrev words : List Jvm.Cond := [.code New1.yN New1.yB 2 none, .initialized ST, .methodLink ST 27 New4.yN, .instanceMethod New4.yN,
  .code New4.yN New4.yB 6 none, .fieldLink ST 38 ST "COMPACT_STRINGS" "Z", .laysFinal ST ST "value" "[B", .fieldLink ST 9 ST "value" "[B", .laysFinal ST ST "coder" "B", .fieldLink ST 15 ST "coder" "B",
  .methodLink ST 1 Lib.objectInit, .instanceMethod Lib.objectInit, .code Lib.objectInit ⟨#[0xb1]⟩ 1 none, .methodLink ST 177 Cmp3.yN, .static Cmp3.yN, .methodLink ST 47 CodL.yN, .static CodL.yN,
  .code Cmp3.yN Cmp3.yB 6 (some (.array .byte)), .initialized U16, .arrayClass .byte, .methodLink U16 115 Cmp5.yN, .static Cmp5.yN, .code Cmp5.yN Cmp5.yB 7 (some .int), .code CodL.yN CodL.yB 2 (some .byte)]
theorem tab_of {a : Array Value} {s : State} (h : ∀ w ∈ words, w.before a s = true) : New1.tab.before a s = true := by
  have h5 : Cmp5.tab.before a s = true := unparts (wk h (.code Cmp5.yN Cmp5.yB 7 (some .int))) (wks h (.initialized Cmp5.yN.cls :: Cmp5.site))
  have hc : CodL.tab.before a s = true := unparts (wk h (.code CodL.yN CodL.yB 2 (some .byte))) (wks h (.initialized CodL.yN.cls :: CodL.site))
  have q5 : ∀ w ∈ Cmp5.tab :: words, w.before a s = true := fun w hw => (List.mem_cons.mp hw).elim (fun e => e ▸ h5) (h w)
  have h3 : Cmp3.tab.before a s = true := unparts (wk q5 (.code Cmp3.yN Cmp3.yB 6 (some (.array .byte)))) (wks q5 (.initialized Cmp3.yN.cls :: Cmp3.site))
  have q3 : ∀ w ∈ Cmp3.tab :: CodL.tab :: words, w.before a s = true := fun w hw => (List.mem_cons.mp hw).elim (fun e => e ▸ h3) fun hw => (List.mem_cons.mp hw).elim (fun e => e ▸ hc) (h w)
  have h4 : New4.tab.before a s = true := unparts (wk q3 (.code New4.yN New4.yB 6 none)) (wks q3 (.initialized New4.yN.cls :: New4.site))
  have q4 : ∀ w ∈ New4.tab :: words, w.before a s = true := fun w hw => (List.mem_cons.mp hw).elim (fun e => e ▸ h4) (h w)
  exact unparts (wk q4 (.code New1.yN New1.yB 2 none)) (wks q4 (.initialized New1.yN.cls :: New1.site))
/-- the words ride from the start Z to the walk's own state -/
theorem moved {Z s : State} {a0 args : Array Value} (hZ : Z.Warmed39 s.vm) (hw : ∀ d ∈ words, d.before a0 Z = true) : ∀ d ∈ words, d.before args s = true := fun d hd => by
  have q := hw d hd
  have t : ∀ d ∈ words, d = .arrayClass .byte ∨ (d.onTables && d.keepsFace) = true := by decide +kernel
  rcases t d hd with rfl | t
  · exact RoadKit.mvA hZ q
  · exact RoadKit.mv hZ q t
/-- WHAT COMES BACK, over the tables of the start Z: h the heap at the call, h' behind it -/
def Q (Z : State) (x : Addr) (A : Cell) (h : Heap) (v : Option Value) (h' : Heap) (L : List Loc) : Prop := v = none ∧ (∀ y ∈ L, y.base = x) ∧ RoadKit.Keep h h' [x] ∧ h'.size = h.size + 1 ∧ RoadKit.Exa Z h' x ST ∧ RoadKit.Fld Z h' x ST "value" "[B" (.ref h.size) ∧ RoadKit.Fld Z h' x ST "coder" "B" (.int 0) ∧
  (∃ V : Cell, RoadKit.Arr Z h' h.size V .byte ∧ V.vm = .none ∧ Z.vm.findClass "[B" = some V.cls ∧ V.slots.size = A.slots.size ∧ ∀ j, j < A.slots.size → V.slots[j]? = some (.int (lo8 (cv A j)))) ∧
  ∀ (O n d : String) (w : Value), RoadKit.Fld Z h x O n d w → RoadKit.slotOf Z O n d ≠ RoadKit.slotOf Z ST "value" "[B" → RoadKit.slotOf Z O n d ≠ RoadKit.slotOf Z ST "coder" "B" → RoadKit.Fld Z h' x O n d w
/-- **new String(chars) AT A CALL, IN THE ROAD'S FORM**: for specialBack behind newO: x the fresh String, b the char[] with the cell A -/
theorem back {p : Program} {l : Launch} {e : Env} {R : Room} {s : State} {args : Array Value} {below : List Frame} {len W : Nat} {Z : State} {a0 : Array Value} {h : Heap} (hZ : Z.Warmed39 s.vm) (hw : ∀ d ∈ words, d.before a0 Z = true) {kI : Nat} (wi : (Jvm.Cond.instantiable ST kI).before a0 Z = true)
    {x b : Addr} {A : Cell} {z : Int32} {v0 c0 : Value} (E : RoadKit.Exa Z h x ST) (V : RoadKit.Fld Z h x ST "value" "[B" v0) (C : RoadKit.Fld Z h x ST "coder" "B" c0) (K : RoadKit.Arr Z h b A .char) (hty : Typed .char A) (S : RoadKit.Sta Z h ST "COMPACT_STRINGS" "Z" (.int z)) (hz : ¬ z = 0)
    (l0 : 0 < A.slots.size) (l2 : A.slots.size ≤ 536870912) (hp : ∀ i, i < A.slots.size → ¬ 255 < cv A i) (hfr : 4 ≤ R.frames) (hlo : W + 65 ≤ R.locals) :
    Back l R p e below s args New1.yN len W (fun P a => a = #[.ref x, .ref b] ∧ P.U.heap = h ∧ P.cells + 1 ≤ R.cells ∧ P.slots + A.slots.size ≤ R.slots)
      (fun P _ v B => ∃ L, Q Z x A h v B.U.heap L ∧ B.locs = P.locs ++ L ∧ B.cells = P.cells + 1 ∧ B.slots = P.slots + A.slots.size) := by
  intro m meth c P g ig mk a X hg hsize hdg hW hn hp'
  obtain ⟨rfl, rfl, r1, r2⟩ := hp'
  have al : Z.vm.Alike P.U.vm := hZ.alike.trans X.warmed.alike
  obtain ⟨D, cfV, kV, iV, fV, hD, gV, stV, knV, obV, asV, slV⟩ := id V
  obtain ⟨D', cfC, kC, iC, fC, hD', gC, stC, -, -, asC, slC⟩ := id C
  cases hD.symm.trans hD'
  obtain ⟨D2, kD, e1, e2, e3, e4, e5⟩ := id E
  cases hD.symm.trans e1
  obtain ⟨c2, k2, i1, i2, i3, -⟩ := Cond.instantiable_spec wi
  cases e2.symm.trans i1
  cases e3.symm.trans i2
  obtain ⟨kU, u1, u2⟩ := al.2.2 _ _ e3
  have hB : Blank ST x D P.U := ⟨hD, ⟨knV, fun q hq => by rw [hq] at obV; cases obV⟩, by rw [al.findClass]; exact e2, kU, u1, by rw [u2]; exact i3, by rw [u2]; exact e5 i3⟩
  have F1 : Found ST "value" "[B" fV P.U := ⟨SBG.found_only al ⟨cfV, kV, iV, gV⟩, stV⟩
  have F2 : Found ST "coder" "B" fC P.U := ⟨SBG.found_only al ⟨cfC, kC, iC, gC⟩, stC⟩
  have hA : Ch b A P.U := ⟨⟨K.1, State.isArrayOf_alike al K.2.1, K.2.2, by omega⟩, hty⟩
  have hS : StaticIs P.U ST "COMPACT_STRINGS" "Z" (.int z) := by
    obtain ⟨cfS, iS, kS, fS, st, cS, t1, t2, t3, t4, t5, t6, t7⟩ := S
    exact StaticIs.there (s := { Z with heap := P.U.heap }) ⟨cfS, iS, kS, fS, st, cS, t1, t2, t3, t4, t5, (fun q => by rw [q] at t6; cases t6), t7⟩ al rfl
  obtain ⟨v, B, X', ⟨⟨hv, E', V', q1, q2, q3, q4, q5, q6, q7, q8, q9, q10, q11⟩, hl, hc, hs⟩, st⟩ := New1.pays x D fV fC b A z (tab_of (moved hZ hw)) hfr hlo m meth c P g ig mk _ X hg hsize hdg hW hn ⟨r1, r2, rfl, hB, F1, F2, hA, hS, hz, l0, l2, hp⟩
  have al' : Z.vm.Alike B.U.vm := hZ.alike.trans X'.warmed.alike
  have hsz : E'.slots.size = D.slots.size := by
    obtain ⟨-, -, -, kB, w1, w2, w3⟩ := q1
    obtain ⟨kB', y1, y2⟩ := al'.2.2 _ _ e3
    rw [q2.2.1] at w1
    cases w1.symm.trans y1
    rw [w3, e5 i3, y2]
  refine ⟨v, B, X', ⟨_, ⟨hv, ?_, ⟨by omega, fun y cy hy hn' => q10 y cy (by simpa using hn') hy, fun y cy hy => ?_⟩, q11, ⟨E', _, q1.1, by rw [q2.2.1]; exact e2, by rw [q2.2.1]; exact e3, by rw [q2.1]; exact obV, fun _ => by rw [hsz]; exact e5 i3⟩,
    ⟨E', cfV, kV, iV, fV, q1.1, gV, stV, by rw [q2.1]; exact knV, by rw [q2.1]; exact obV, by rw [q2.2.1]; exact asV, q3⟩, ⟨E', cfC, kC, iC, fC, q1.1, gC, stC, by rw [q2.1]; exact knV, by rw [q2.1]; exact obV, by rw [q2.2.1]; exact asC, q4⟩,
    ⟨V', ⟨q5.1, State.isArrayOf_alike al'.symm q5.2.1, q5.2.2.1⟩, q6, by rw [← al'.findClass]; exact q7, q8, fun j hj => by have := q9 j hj; rwa [Nat.zero_add] at this⟩, fun O n d w F n1 n2 => ?_⟩, hl, hc, hs⟩, st⟩
  · intro y hy
    simp only [List.mem_cons, List.not_mem_nil, or_false] at hy
    rcases hy with rfl | rfl <;> rfl
  · by_cases q : y = x
    · subst q
      cases hD.symm.trans hy
      exact ⟨E', q1.1, q2.2.1, q2.1, hsz⟩
    · exact ⟨cy, q10 y cy q hy, rfl, rfl, rfl⟩
  · obtain ⟨D3, cf, k, i, f, g1, g2, g3, g4, g5, g6, g7⟩ := F
    cases hD.symm.trans g1
    simp only [RoadKit.slotOf, g2, gV, gC, Option.map_some, Option.getD_some] at n1 n2
    exact ⟨E', cf, k, i, f, q1.1, g2, g3, by rw [q2.1]; exact g4, by rw [q2.1]; exact g5, by rw [q2.2.1]; exact g6, by rw [q2.2.2 f.slot (by simp [n1, n2])]; exact g7⟩
end StrChars.Road
namespace StrChars.Road
open Jvm Sem ClassFile Op Lib Jvm.Stand Jvm.Free Jvm.Free.XT
/-- WHAT COMES BACK, the byte[] as a list of values -/
def QA (Z : State) (x : Addr) (zn : Int32) (cs : List Int32) (h : Heap) (v : Option Value) (h' : Heap) (L : List Loc) : Prop := v = none ∧ (∀ y ∈ L, y.base = x) ∧ RoadKit.Keep h h' [x] ∧ h'.size = h.size + 1 ∧ RoadKit.Exa Z h' x ST ∧ RoadKit.Fld Z h' x ST "value" "[B" (.ref h.size) ∧ RoadKit.Fld Z h' x ST "coder" "B" (.int 0) ∧
  (∃ kb, Z.vm.findClass "[B" = some kb ∧ RoadKit.Arv Z h' h.size kb .byte zn (cs.map fun c => .int (lo8 c)) (.int 0)) ∧
  ∀ (O n d : String) (w : Value), RoadKit.Fld Z h x O n d w → RoadKit.slotOf Z O n d ≠ RoadKit.slotOf Z ST "value" "[B" → RoadKit.slotOf Z O n d ≠ RoadKit.slotOf Z ST "coder" "B" → RoadKit.Fld Z h' x O n d w
/-- **new String(chars) AT A CALL, THE ARRAYS AS LISTS**: the char[] at b holds cs, not empty, no char above 255 -/
theorem backArv {p : Program} {l : Launch} {e : Env} {R : Room} {s : State} {args : Array Value} {below : List Frame} {len W : Nat} {Z : State} {a0 : Array Value} {h : Heap} (hZ : Z.Warmed39 s.vm) (hw : ∀ d ∈ words, d.before a0 Z = true) {kI : Nat} (wi : (Jvm.Cond.instantiable ST kI).before a0 Z = true)
    {x b : Addr} {k : ClassId} {zn z : Int32} {cs : List Int32} {dv v0 c0 : Value} (E : RoadKit.Exa Z h x ST) (V : RoadKit.Fld Z h x ST "value" "[B" v0) (C : RoadKit.Fld Z h x ST "coder" "B" c0) (K : RoadKit.Arv Z h b k .char zn (cs.map Value.int) dv) (S : RoadKit.Sta Z h ST "COMPACT_STRINGS" "Z" (.int z)) (hz : ¬ z = 0)
    (hlen : zn.toNatClampNeg = cs.length) (h0 : 0 < cs.length) (hbig : cs.length ≤ 536870912) (hall : ∀ c ∈ cs, ¬ 255 < c) (hfr : 4 ≤ R.frames) (hlo : W + 65 ≤ R.locals) :
    Back l R p e below s args New1.yN len W (fun P a => a = #[.ref x, .ref b] ∧ P.U.heap = h ∧ P.cells + 1 ≤ R.cells ∧ P.slots + cs.length ≤ R.slots)
      (fun P _ v B => ∃ L, QA Z x zn cs h v B.U.heap L ∧ B.locs = P.locs ++ L ∧ B.cells = P.cells + 1 ∧ B.slots = P.slots + cs.length) := by
  obtain ⟨A, K1, K2, K3, K4, K5, K6⟩ := K
  have e : A.slots.size = cs.length := K3.trans hlen
  have hat : ∀ (i : Nat) (hi : i < cs.length), A.slots[i]? = some (.int cs[i]) := fun i hi => by rw [K5 i (by omega)]; simp [List.getD_eq_getElem?_getD, hi]
  have hcv : ∀ (i : Nat) (hi : i < cs.length), cv A i = cs[i] := fun i hi => by unfold cv; rw [hat i hi]
  have hty : Typed .char A := fun i v hv => by
    have hi : i < A.slots.size := (Array.getElem?_eq_some_iff.mp hv).1
    have q := K5 i hi
    rw [hv] at q
    rw [Option.some.inj q]
    exact K6 i hi
  refine Back.mono (back hZ hw wi E V C K1 hty S hz (by omega) (by omega) (fun i hi => by rw [hcv i (by omega)]; exact hall _ (List.getElem_mem _)) hfr hlo) (fun P a hp => ⟨hp.1, hp.2.1, hp.2.2.1, by rw [e]; exact hp.2.2.2⟩) (fun P a v B hp hq => ?_)
  obtain ⟨L, ⟨q1, q2, q3, q4, q5, q6, q7, ⟨V', v1, v2, v3, v4, v5⟩, q9⟩, hl, hc, hs⟩ := hq
  refine ⟨L, ⟨q1, q2, q3, q4, q5, q6, q7, ⟨V'.cls, v3, V', v1, rfl, by rw [v4, e, hlen], K4, fun i hi => ?_, fun i hi => ?_⟩, q9⟩, hl, hc, by rw [hs, e]⟩
  · have hi' : i < cs.length := by omega
    rw [v5 i (by omega), hcv i hi']; simp [List.getD_eq_getElem?_getD, hi']
  · have hi' : i < cs.length := by omega
    simp only [List.getD_eq_getElem?_getD, List.getElem?_map, List.getElem?_eq_getElem hi', Option.map_some, Option.getD_some]
    exact fits_lo8 _
end StrChars.Road
namespace StrChars.Road
open Jvm Sem ClassFile Op Lib Jvm.Stand Jvm.Free Jvm.Free.XT
/-- WHAT COMES BACK, in the writer's own shape -/
def QV (Z : State) (x : Addr) (N : Int32) (bs : List Int32) (h : Heap) (n0 : Nat) (v : Option Value) (h' : Heap) (L : List Loc) : Prop := v = none ∧ RoadKit.Fr n0 L ∧ RoadKit.Keep h h' [x] ∧ RoadKit.Exa Z h' x ST ∧ RoadKit.Fld Z h' x ST "coder" "B" (.int 0) ∧
  ∃ (t : Addr) (kb : ClassId), n0 ≤ t ∧ h.size ≤ t ∧ ¬ t = x ∧ RoadKit.Fld Z h' x ST "value" "[B" (.ref t) ∧ RoadKit.Arv Z h' t kb .byte N (bs.map Value.int) (.int 0)
/-- **new String(chars) AT A CALL, FOR THE WRITER**: a char[] of n known ints, each 0 to 255 -/
theorem backV {p : Program} {l : Launch} {e : Env} {R : Room} {s : State} {args : Array Value} {below : List Frame} {len W : Nat} {Z : State} {a0 : Array Value} {h : Heap} (hZ : Z.Warmed39 s.vm) (hw : ∀ d ∈ words, d.before a0 Z = true) {kI : Nat} (wi : (Jvm.Cond.instantiable ST kI).before a0 Z = true)
    {x b : Addr} {kC : ClassId} {cs bs : List Int32} {d v0 c0 : Value} {z N : Int32} {n n0 : Nat} (hx0 : n0 ≤ x) (hh0 : n0 ≤ h.size) (E : RoadKit.Exa Z h x ST) (V : RoadKit.Fld Z h x ST "value" "[B" v0) (C : RoadKit.Fld Z h x ST "coder" "B" c0) (K : RoadKit.Arv Z h b kC .char N (cs.map Value.int) d) (S : RoadKit.Sta Z h ST "COMPACT_STRINGS" "Z" (.int z)) (hz : ¬ z = 0)
    (hn : cs.length = n) (hN : N = Int32.ofNat n) (l0 : 0 < n) (l2 : n ≤ 4000) (hp : ∀ c ∈ cs, ¬ c < 0 ∧ ¬ (255 : Int32) < c) (hb : bs = cs.map (fun c => c.toInt8.toInt32)) (hfr : 4 ≤ R.frames) (hlo : W + 65 ≤ R.locals) :
    Back l R p e below s args (⟨"java/lang/String", "<init>", "([C)V"⟩ : MethodName) len W (fun P a => a = #[.ref x, .ref b] ∧ P.U.heap = h ∧ P.cells + 1 ≤ R.cells ∧ P.slots + n ≤ R.slots)
      (fun P _ v B => ∃ L, QV Z x N bs h n0 v B.U.heap L ∧ B.locs = P.locs ++ L ∧ B.cells = P.cells + 1 ∧ B.slots = P.slots + n) := by
  subst hn hN hb
  refine Back.mono (backArv hZ hw wi E V C K S hz (n32 (by omega)) l0 (by omega) (fun c hc => (hp c hc).2) hfr hlo) (fun P a hp => hp) (fun P a v B hp hq => ?_)
  obtain ⟨L, ⟨q1, q2, q3, q4, q5, q6, q7, ⟨kb, v1, v2⟩, q9⟩, hl, hc, hs⟩ := hq
  exact ⟨L, ⟨q1, fun y hy => by rw [q2 y hy]; exact hx0, q3, q5, q7, h.size, kb, hh0, Nat.le_refl _, Nat.ne_of_gt E.lt, q6, by rw [List.map_map]; exact v2⟩, hl, hc, hs⟩
end StrChars.Road
namespace StrChars
open Jvm Sem ClassFile Op Lib Jvm.Stand Jvm.Free.XT Jvm.Free.ALB Jvm.Free.JM Jvm.Free
open Jvm.Lib.Cold (StaticIs)
def hi8 (x : Int32) : Int32 := lo8 (x >>> ((8 : Int32) &&& 31))
/-- what StringUTF16.getChar makes of two bytes -/
def pairCh (u v : Int32) : Int32 := (((u &&& 255) <<< ((0 : Int32) &&& 31)) ||| ((v &&& 255) <<< ((8 : Int32) &&& 31))).toUInt32.toUInt16.toUInt32.toInt32
theorem lo8_and (x : Int32) : (lo8 x &&& 255).toBitVec.toNat = x.toBitVec.toNat % 256 := by
  have h : (lo8 x).toBitVec = (x.toBitVec.signExtend 8).signExtend 32 := by rw [lo8, Int8.toBitVec_toInt32, Int32.toBitVec_toInt8]
  rw [Int32.toBitVec_and, BitVec.toNat_and, h]
  have e : ((x.toBitVec.signExtend 8).signExtend 32).toNat % 256 = x.toBitVec.toNat % 256 := by
    rw [BitVec.toNat_signExtend]
    have hlt := x.toBitVec.isLt
    simp only [BitVec.toNat_setWidth, BitVec.toNat_signExtend]
    split <;> split <;> omega
  rw [← e]
  exact Nat.and_two_pow_sub_one_eq_mod _ 8
theorem pair_says {c : Int32} (h0 : ¬ c < 0) (h1 : ¬ 65535 < c) : pairCh (lo8 c) (hi8 c) = c := by
  rw [Int32.lt_iff_toInt_lt] at h0 h1
  have e0 : (0 : Int32).toInt = 0 := rfl
  have e1 : (65535 : Int32).toInt = 65535 := rfl
  have hc : c.toInt = c.toBitVec.toNat := by
    have := c.toBitVec.isLt
    have e : c.toInt = c.toBitVec.toInt := rfl
    rw [e] at h0 h1
    rw [e]
    rw [BitVec.toInt_eq_toNat_cond] at h0 h1 ⊢
    split at h0 <;> split <;> omega
  have hn : c.toBitVec.toNat < 65536 := by omega
  have a1 := lo8_and c
  have a2 : (hi8 c &&& 255).toBitVec.toNat = c.toBitVec.toNat / 256 := by
    rw [hi8, lo8_and]
    have e : ((8 : Int32) &&& 31) = 8 := by decide
    rw [e, Int32.toBitVec_shiftRight]
    have e2 : ((8 : Int32).toBitVec.smod 32) = 8#32 := by decide
    rw [e2, BitVec.sshiftRight_eq', BitVec.toNat_sshiftRight_of_msb_false (by rw [BitVec.msb_eq_false_iff_two_mul_lt]; omega)]
    show c.toBitVec.toNat >>> 8 % 256 = _
    rw [Nat.shiftRight_eq_div_pow]
    omega
  unfold pairCh
  apply Int32.toBitVec_inj.mp
  apply BitVec.eq_of_toNat_eq
  have f0 : ((0 : Int32) &&& 31) = 0 := by decide
  have f8 : ((8 : Int32) &&& 31) = 8 := by decide
  rw [f0, f8]
  have g : (((lo8 c &&& 255) <<< (0 : Int32)) ||| ((hi8 c &&& 255) <<< (8 : Int32))).toBitVec.toNat = c.toBitVec.toNat := by
    rw [Int32.toBitVec_or, Int32.toBitVec_shiftLeft, Int32.toBitVec_shiftLeft]
    have s0 : ((0 : Int32).toBitVec.smod 32) = 0#32 := by decide
    have s8 : ((8 : Int32).toBitVec.smod 32) = 8#32 := by decide
    rw [s0, s8, BitVec.toNat_or]
    simp only [BitVec.shiftLeft_eq', BitVec.toNat_shiftLeft, a1, a2]
    show (c.toBitVec.toNat % 256) <<< 0 % 2 ^ 32 ||| (c.toBitVec.toNat / 256) <<< 8 % 2 ^ 32 = _
    rw [Nat.shiftLeft_zero, Nat.mod_eq_of_lt (show c.toBitVec.toNat % 256 < 2 ^ 32 by omega), Nat.mod_eq_of_lt (show (c.toBitVec.toNat / 256) <<< 8 < 2 ^ 32 by rw [Nat.shiftLeft_eq]; omega), Nat.or_comm, ← Nat.shiftLeft_add_eq_or_of_lt (by omega), Nat.shiftLeft_eq]
    omega
  show BitVec.toNat (((((lo8 c &&& 255) <<< (0 : Int32)) ||| ((hi8 c &&& 255) <<< (8 : Int32))).toBitVec.setWidth 16).setWidth 32) = _
  rw [BitVec.toNat_setWidth, BitVec.toNat_setWidth, g]
  omega
end StrChars
namespace StrChars
open Jvm Sem ClassFile Op Lib Jvm.Stand Jvm.Free.XT Jvm.Free.ALB Jvm.Free.JM Jvm.Free
open Jvm.Lib.Cold (StaticIs)
/-- charAt's cast of a byte read back -/
def chr8 (u : Int32) : Int32 := (u &&& 255).toUInt32.toUInt16.toUInt32.toInt32
theorem chr8_lo8 {c : Int32} (h0 : ¬ c < 0) (h1 : ¬ 255 < c) : chr8 (lo8 c) = c := by
  have t : ∀ k : Fin 256, (Int32.ofNat k.val).toUInt32.toUInt16.toUInt32.toInt32 = Int32.ofNat k.val := by decide +kernel
  unfold chr8
  rw [lo8_mask h0 h1]
  rw [Int32.lt_iff_toInt_lt] at h0 h1
  have e0 : (0 : Int32).toInt = 0 := rfl
  have e1 : (255 : Int32).toInt = 255 := rfl
  obtain ⟨k, hk⟩ : ∃ k : Nat, c.toInt = k := ⟨c.toInt.toNat, by omega⟩
  have hx : c = Int32.ofNat k := Int32.toInt_inj.mp (by rw [hk, Int32.toInt_ofNat_small (by omega)])
  rw [hx]
  exact t ⟨k, by omega⟩
theorem narrow_ch {c : Int32} (h0 : ¬ c < 0) (h1 : ¬ 65535 < c) : narrow .char (.int c) = .int c := by
  have q : narrow .char (.int (pairCh (lo8 c) (hi8 c))) = .int (pairCh (lo8 c) (hi8 c)) := narrow_c _
  rwa [pair_says h0 h1] at q
/-- the array's cell V codes the n chars f 0 .. f (n - 1) by the coder cd, as the JDK does: coder 1 just where some char is above 255 -/
def Cod (cd : Int32) (n : Nat) (f : Nat → Int32) (V : Cell) : Prop := (cd = 0 ∧ V.slots.size = n ∧ ∀ j, j < n → V.slots[j]? = some (.int (lo8 (f j))) ∧ ¬ 255 < f j) ∨ (cd = 1 ∧ V.slots.size = 2 * n ∧ (∀ j, j < n → V.slots[2 * j]? = some (.int (lo8 (f j))) ∧ V.slots[2 * j + 1]? = some (.int (hi8 (f j)))) ∧ ∃ j, j < n ∧ 255 < f j)
theorem Cod.cd {cd : Int32} {n : Nat} {f : Nat → Int32} {V : Cell} (h : Cod cd n f V) : cd = 0 ∨ cd = 1 := h.imp (fun q => q.1) fun q => q.1
/-- **x is a String of the n chars f 0 .. f (n - 1)**, Latin-1 or UTF-16; its array at t has the cell V -/
def Txt (x t : Addr) (V : Cell) (cd : Int32) (n : Nat) (f : Nat → Int32) (U : State) : Prop := Exact "java/lang/String" x U ∧ Has x "java/lang/String" "value" "[B" (.ref t) U ∧ Has x "java/lang/String" "coder" "B" (.int cd) U ∧ XT.Arr .byte t V U ∧ Cod cd n f V ∧ ∀ j, j < n → ¬ f j < 0 ∧ ¬ 65535 < f j
theorem Txt.mv {x t : Addr} {V : Cell} {cd : Int32} {n : Nat} {f : Nat → Int32} {U U' : State} (h : Txt x t V cd n f U) (hal : U.vm.Alike U'.vm) (hh : U'.heap = U.heap) : Txt x t V cd n f U' := ⟨h.1.mv hal hh, h.2.1.mv hal hh, h.2.2.1.mv hal hh, h.2.2.2.1.mv hal hh, h.2.2.2.2⟩
namespace IsL
def yN : MethodName := ⟨"java/lang/String", "isLatin1", "()Z"⟩
abbrev yB : ByteArray := jdk_42_method_154_code
theorem d0 : decode yB 0 = .ok (.getstatic 38, 3) := by decide +kernel
theorem d3 : decode yB 3 = .ok (.ifCond (.eq) 14, 3) := by decide +kernel
theorem d6 : decode yB 6 = .ok (.aload_n 0, 1) := by decide +kernel
theorem d7 : decode yB 7 = .ok (.getfield 15, 3) := by decide +kernel
theorem d10 : decode yB 10 = .ok (.ifCond (.ne) 7, 3) := by decide +kernel
theorem d13 : decode yB 13 = .ok (.iconst 1, 1) := by decide +kernel
theorem d14 : decode yB 14 = .ok (.goto 4, 3) := by decide +kernel
theorem d17 : decode yB 17 = .ok (.iconst 0, 1) := by decide +kernel
theorem d18 : decode yB 18 = .ok (.ireturn, 1) := by decide +kernel
def site : List Cond := [.fieldLink "java/lang/String" 38 "java/lang/String" "COMPACT_STRINGS" "Z", .fieldLink "java/lang/String" 15 "java/lang/String" "coder" "B"]
def tab : Cond := tabOf yN yB 1 (some .boolean) site
def P (x : Addr) (cd z : Int32) (args : Array Value) (s : State) : Prop := args = #[.ref x] ∧ Has x "java/lang/String" "coder" "B" (.int cd) s ∧ (cd = 0 ∨ cd = 1) ∧ StaticIs s "java/lang/String" "COMPACT_STRINGS" "Z" (.int z) ∧ ¬ z = 0
def E (cd : Int32) (r : Option Value) (s u : State) : Prop := XT.PureE (some (.int (1 - cd))) r s u
theorem law (l : Launch) (x : Addr) (cd z : Int32) : Law l yN 1 0 0 0 yB 1 (some .boolean) site (P x cd z) (E cd) [] 0 0 := by
  refine Law.of_walk (plainFor_of_name (by decide +kernel)) (by decide +kernel) (by decide +kernel) (by decide) (fun _ _ h => by rw [h.1]; rfl) (fun _ U U' hal hh h => ⟨h.1, h.2.1.mv hal hh, h.2.2.1, h.2.2.2.1.there hal hh, h.2.2.2.2⟩) (fun r U U' V V' h1 hal h2 h => XT.PureE.mv r U U' V V' h1 hal h2 h) ?_
  intro p e s m args below meth c s₁ X0 hexec hbytes hml hret hlk hnm hown hh0 W hP
  obtain ⟨rfl, hx, hc, s1, hz⟩ := hP
  have c1 : Steps p.tables e below (s₁.setTop (entryFrame m #[.ref x] 1)) (s₁.setTop (mkF m 0 #[.val (.ref x)] [])) := entry rfl
  obtain ⟨T2, X2, q2, st2⟩ := X0.sget hexec hown (wk W (.fieldLink "java/lang/String" 38 "java/lang/String" "COMPACT_STRINGS" "Z")) s1 (fun _ _ h => by rw [hh0]; exact h) (g := (mkF m 0 #[.val (.ref x)] [])) rfl (hb hbytes d0)
  have hh2 := q2.trans hh0
  have c3 : Steps p.tables e below (s₁.setTop (entryFrame m #[.ref x] 1)) (T2.setTop (mkF m 7 #[.val (.ref x)] [.ref x])) := (c1.trans (st2 _ (Steps.refl _))).trans (by
    refine XS.ifNo X2.here hexec rfl (hb hbytes d3) rfl (i0_eq_f hz) ?_
    refine XS.aloadN X2.here hexec rfl (hb hbytes d6) rfl rfl ?_
    exact Steps.refl _)
  obtain ⟨T4, X4, q4, st4⟩ := X2.hget hexec hown (wk W (.fieldLink "java/lang/String" 15 "java/lang/String" "coder" "B")) (hx.mv X2.warmed.alike hh2) (g := (mkF m 7 #[.val (.ref x)] [.ref x])) rfl (rest := []) rfl (hb hbytes d7)
  have c5 : Steps p.tables e below (s₁.setTop (entryFrame m #[.ref x] 1)) (T4.setTop (mkF m 10 #[.val (.ref x)] [.int cd])) := c3.trans (st4 _ (Steps.refl _))
  have c6 : Steps p.tables e below (s₁.setTop (entryFrame m #[.ref x] 1)) (T4.setTop (mkF m 18 #[.val (.ref x)] [.int (1 - cd)])) := by
    rcases hc with rfl | rfl
    · exact c5.trans (by
        refine XS.ifNo X4.here hexec rfl (hb hbytes d10) rfl (i0_ne_f rfl) ?_
        refine iconstV X4.here hexec rfl 1 (hb hbytes d13) (by decide) ?_
        refine XS.goto X4.here hexec rfl (pc0 := 14) rfl (hb hbytes d14) (by decide) rfl ?_
        exact Steps.refl _)
    · exact c5.trans (by
        refine XS.ifYes X4.here hexec rfl (pc0 := 10) rfl (hb hbytes d10) rfl (i0_ne_t (by decide)) (by decide) rfl ?_
        refine iconstV X4.here hexec rfl 0 (hb hbytes d17) (by decide) ?_
        exact Steps.refl _)
  exact ⟨T4, some (.int (1 - cd)), _, _, _, X4, rfl, rfl, rfl, (fun h => by cases h), ⟨rfl, q4.trans hh2⟩, fun fs hl => c6.trans (X4.ireturnOut hexec hret (by rcases hc with rfl | rfl <;> rfl) (Or.inr (Or.inl rfl)) (hb hbytes d18) hl)⟩
end IsL
namespace LChA
def yN : MethodName := ⟨"java/lang/StringLatin1", "charAt", "([BI)C"⟩
abbrev yB : ByteArray := jdk_43_method_2_code
theorem d0 : decode yB 0 = .ok (.iload_n 1, 1) := by decide +kernel
theorem d1 : decode yB 1 = .ok (.aload_n 0, 1) := by decide +kernel
theorem d2 : decode yB 2 = .ok (.arraylength, 1) := by decide +kernel
theorem d3 : decode yB 3 = .ok (.invokestatic 9, 3) := by decide +kernel
theorem d6 : decode yB 6 = .ok (.aload_n 0, 1) := by decide +kernel
theorem d7 : decode yB 7 = .ok (.iload_n 1, 1) := by decide +kernel
theorem d8 : decode yB 8 = .ok (.baload, 1) := by decide +kernel
theorem d9 : decode yB 9 = .ok (.sipush 255, 3) := by decide +kernel
theorem d12 : decode yB 12 = .ok (.iand, 1) := by decide +kernel
theorem d13 : decode yB 13 = .ok (.i2c, 1) := by decide +kernel
theorem d14 : decode yB 14 = .ok (.ireturn, 1) := by decide +kernel
def site : List Cond := [JO.Str_checkIndex.tab] ++ staticW "java/lang/StringLatin1" 9 JO.Str_checkIndex.yN
def tab : Cond := tabOf yN yB 2 (some .char) site
def P (t : Addr) (V : Cell) (i : Nat) (u : Int32) (fm : Value) (args : Array Value) (s : State) : Prop := args = #[.ref t, .int (Int32.ofNat i)] ∧ XT.Arr .byte t V s ∧ V.slots[i]? = some (.int u) ∧ (StaticIs s "jdk/internal/util/Preconditions" "SIOOBE_FORMATTER" "Ljava/util/function/BiFunction;" fm ∧ fm.isRef = true)
def E (u : Int32) (r : Option Value) (s w : State) : Prop := XT.PureE (some (.int (chr8 u))) r s w
theorem law (l : Launch) (t : Addr) (V : Cell) (i : Nat) (u : Int32) (fm : Value) : Law l yN 2 2 2 27 yB 2 (some .char) site (P t V i u fm) (E u) [] 0 0 := by
  refine Law.of_walk (plainFor_of_name (by decide +kernel)) (by decide +kernel) (by decide +kernel) (by decide) (fun _ _ h => by rw [h.1]; rfl) (fun _ U U' hal hh h => ⟨h.1, h.2.1.mv hal hh, h.2.2.1, h.2.2.2.1.there hal hh, h.2.2.2.2⟩) (fun r U U' V V' h1 hal h2 h => XT.PureE.mv r U U' V V' h1 hal h2 h) ?_
  intro p e s m args below meth c s₁ X0 hexec hbytes hml hret hlk hnm hown hh0 W hP
  obtain ⟨rfl, hV, hu, s1, rf⟩ := hP
  have v31 := hV.2.2.2
  have hi : i < V.slots.size := (Array.getElem?_eq_some_iff.mp hu).1
  have c1 : Steps p.tables e below (s₁.setTop (entryFrame m #[.ref t, .int (Int32.ofNat i)] 2)) (s₁.setTop (mkF m 0 #[.val (.ref t), .val (.int (Int32.ofNat i))] [])) := entry rfl
  have c2 : Steps p.tables e below (s₁.setTop (entryFrame m #[.ref t, .int (Int32.ofNat i)] 2)) (s₁.setTop (mkF m 3 #[.val (.ref t), .val (.int (Int32.ofNat i))] [.int (Int32.ofNat V.slots.size), .int (Int32.ofNat i)])) := c1.trans (by
    refine XS.iloadN X0.here hexec rfl (hb hbytes d0) rfl ?_
    refine XS.aloadN X0.here hexec rfl (hb hbytes d1) rfl rfl ?_
    refine X0.alen hexec (hV.mv X0.warmed.alike hh0) rfl rfl (hb hbytes d2) ?_
    exact Steps.refl _)
  obtain ⟨v3, T3, X3, E3, g3⟩ := X0.callS hexec (JO.Str_checkIndex.law l (Int32.ofNat i) (Int32.ofNat V.slots.size) fm) hown (wks W (staticW "java/lang/StringLatin1" 9 JO.Str_checkIndex.yN)) (wk W JO.Str_checkIndex.tab) (W := 0) (Nat.le_of_ble_eq_true rfl) (Nat.le_of_ble_eq_true rfl) (Nat.le_refl _) (Nat.le_refl _) (g := (mkF m 3 #[.val (.ref t), .val (.int (Int32.ofNat i))] [.int (Int32.ofNat V.slots.size), .int (Int32.ofNat i)])) rfl (by rw [hml]; rfl) c2 (argsL := [.int (Int32.ofNat i), .int (Int32.ofNat V.slots.size)]) (rest := []) rfl rfl (by show 2 * 0 + 0 ≤ _; decide) (hb hbytes d3) (⟨rfl, rf, s1.there X0.warmed.alike hh0, Int32.ofNat_not_neg (by omega), lt32 v31 hi⟩)
  obtain ⟨rfl, q3⟩ := E3
  have hh3 := q3.trans hh0
  have c4 : Steps p.tables e below (s₁.setTop (entryFrame m #[.ref t, .int (Int32.ofNat i)] 2)) (T3.setTop (mkF m 14 #[.val (.ref t), .val (.int (Int32.ofNat i))] [.int (chr8 u)])) := Steps.trans g3 (by
    refine XS.aloadN X3.here hexec rfl (hb hbytes d6) rfl rfl ?_
    refine XS.iloadN X3.here hexec rfl (hb hbytes d7) rfl ?_
    refine X3.aget hexec (hV.mv X3.warmed.alike hh3) rfl hu rfl rfl (hb hbytes d8) ?_
    refine sipushV X3.here hexec rfl 255 (hb hbytes d9) (by decide) ?_
    refine XS.iand X3.here hexec rfl (hb hbytes d12) rfl ?_
    refine i2c X3.here hexec rfl (hb hbytes d13) rfl ?_
    exact Steps.refl _)
  exact ⟨T3, some (.int (chr8 u)), _, _, _, X3, rfl, rfl, rfl, (fun h => by cases h), ⟨rfl, hh3⟩, fun fs hl => c4.trans (X3.ireturnOut hexec hret (narrow_c _) (Or.inr (Or.inr (Or.inr (Or.inl rfl)))) (hb hbytes d14) hl)⟩
end LChA
end StrChars
namespace StrChars.Road
open Jvm Sem ClassFile Op Lib Jvm.Stand Jvm.Free Jvm.Free.XT
open Jvm.Lib.Cold (StaticIs)
theorem consq {a : Array Value} {s : State} {c : Jvm.Cond} {L : List Jvm.Cond} (h0 : c.before a s = true) (h : ∀ w ∈ L, w.before a s = true) : ∀ w ∈ c :: L, w.before a s = true := fun w hw => (List.mem_cons.mp hw).elim (fun e => e ▸ h0) (h w)
/-- the bytes of the chars cs, low before high -/
def wideBytes : List Int32 → List Value
  | [] => []
  | c :: cs => .int (lo8 c) :: .int (hi8 c) :: wideBytes cs
theorem wide_lo (d : Value) : ∀ (cs : List Int32) (j : Nat), j < cs.length → (wideBytes cs).getD (2 * j) d = .int (lo8 (cs.getD j 0))
  | [], j, h => absurd h (Nat.not_lt_zero j)
  | c :: cs, 0, _ => rfl
  | c :: cs, j + 1, h => by
    have q := wide_lo d cs j (by simpa using h)
    rw [show 2 * (j + 1) = 2 * j + 1 + 1 from by omega]
    simpa [wideBytes] using q
theorem wide_hi (d : Value) : ∀ (cs : List Int32) (j : Nat), j < cs.length → (wideBytes cs).getD (2 * j + 1) d = .int (hi8 (cs.getD j 0))
  | [], j, h => absurd h (Nat.not_lt_zero j)
  | c :: cs, 0, _ => rfl
  | c :: cs, j + 1, h => by
    have q := wide_hi d cs j (by simpa using h)
    rw [show 2 * (j + 1) + 1 = 2 * j + 1 + 1 + 1 from by omega]
    simpa [wideBytes] using q
theorem low_at (d : Value) (cs : List Int32) (j : Nat) (h : j < cs.length) : (cs.map fun c => Value.int (lo8 c)).getD j d = .int (lo8 (cs.getD j 0)) := by
  simp [List.getD_eq_getElem?_getD, h]
/-- an array of N2 bytes vs codes the chars cs by the coder cd -/
def CodA (cs : List Int32) (cd N2 : Int32) (vs : List Value) : Prop := (cd = 0 ∧ N2 = Int32.ofNat cs.length ∧ vs = (cs.map fun c => Value.int (lo8 c)) ∧ ∀ c ∈ cs, ¬ 255 < c) ∨ (cd = 1 ∧ N2 = Int32.ofNat (2 * cs.length) ∧ vs = wideBytes cs ∧ ∃ c ∈ cs, 255 < c)
theorem CodA.cod {cs : List Int32} {cd N2 : Int32} {vs : List Value} {V : Cell} (h : CodA cs cd N2 vs) (hn : 2 * cs.length < 2 ^ 31) (hs : V.slots.size = N2.toNatClampNeg) (hv : RoadKit.Has V vs (.int 0)) : Cod cd cs.length (fun j => cs.getD j 0) V := by
  rcases h with ⟨rfl, rfl, rfl, h⟩ | ⟨rfl, rfl, rfl, c, hc, hw⟩
  · rw [n32 (by omega)] at hs
    exact Or.inl ⟨rfl, hs, fun j hj => ⟨by rw [hv j (by omega), low_at _ _ _ hj], by
      have e : cs.getD j 0 = cs[j] := by simp [List.getD_eq_getElem?_getD, hj]
      show ¬ 255 < cs.getD j 0
      rw [e]; exact h _ (List.getElem_mem _)⟩⟩
  · rw [n32 (by omega)] at hs
    obtain ⟨j, hj, rfl⟩ := List.getElem_of_mem hc
    exact Or.inr ⟨rfl, hs, fun j hj => ⟨by rw [hv _ (by omega), wide_lo _ _ _ hj], by rw [hv _ (by omega), wide_hi _ _ _ hj]⟩, j, hj, by
      have e : cs.getD j 0 = cs[j] := by simp [List.getD_eq_getElem?_getD, hj]
      show 255 < cs.getD j 0
      rw [e]; exact hw⟩
/-- an object of exactly java/lang/String, its two fields found: as the laws ask it -/
theorem strObj {Z U : State} {a0 : Array Value} {kI : Nat} (wi : (Jvm.Cond.instantiable ST kI).before a0 Z = true) (al : Z.vm.Alike U.vm) {x : Addr} {v0 c0 : Value} (E : RoadKit.Exa Z U.heap x ST) (V : RoadKit.Fld Z U.heap x ST "value" "[B" v0) (C : RoadKit.Fld Z U.heap x ST "coder" "B" c0) :
    ∃ (D : Cell) (fV fC : Field), Blank ST x D U ∧ Found ST "value" "[B" fV U ∧ Found ST "coder" "B" fC U ∧ D.slots[fV.slot]? = some v0 ∧ D.slots[fC.slot]? = some c0 ∧ RoadKit.slotOf Z ST "value" "[B" = fV.slot ∧ RoadKit.slotOf Z ST "coder" "B" = fC.slot := by
  obtain ⟨D, cfV, kV, iV, fV, hD, gV, stV, knV, obV, asV, slV⟩ := V
  obtain ⟨D', cfC, kC, iC, fC, hD', gC, stC, -, -, asC, slC⟩ := C
  cases hD.symm.trans hD'
  obtain ⟨D2, kD, e1, e2, e3, e4, e5⟩ := E
  cases hD.symm.trans e1
  obtain ⟨c2, k2, i1, i2, i3, -⟩ := Cond.instantiable_spec wi
  cases e2.symm.trans i1
  cases e3.symm.trans i2
  obtain ⟨kU, u1, u2⟩ := al.2.2 _ _ e3
  exact ⟨D, fV, fC, ⟨hD, ⟨knV, fun q hq => by rw [hq] at obV; cases obV⟩, by rw [al.findClass]; exact e2, kU, u1, by rw [u2]; exact i3, by rw [u2]; exact e5 i3⟩, ⟨SBG.found_only al ⟨cfV, kV, iV, gV⟩, stV⟩, ⟨SBG.found_only al ⟨cfC, kC, iC, gC⟩, stC⟩, slV, slC, by simp [RoadKit.slotOf, gV], by simp [RoadKit.slotOf, gC]⟩
theorem sta_is {Z U : State} (al : Z.vm.Alike U.vm) {C n d : String} {v : Value} (S : RoadKit.Sta Z U.heap C n d v) : StaticIs U C n d v := by
  obtain ⟨cfS, iS, kS, fS, st, cS, t1, t2, t3, t4, t5, t6, t7⟩ := S
  exact StaticIs.there (s := { Z with heap := U.heap }) ⟨cfS, iS, kS, fS, st, cS, t1, t2, t3, t4, t5, (fun q => by rw [q] at t6; cases t6), t7⟩ al rfl
end StrChars.Road
namespace StrChars.Road
open Jvm Sem ClassFile Op Lib Jvm.Stand Jvm.Free Jvm.Free.XT
open Jvm.Lib.Cold (StaticIs)
/-- the road's facts of a String, as the laws ask it -/
theorem txt_of {Z U : State} {a0 : Array Value} {kI : Nat} (wi : (Jvm.Cond.instantiable ST kI).before a0 Z = true) (al : Z.vm.Alike U.vm) {x t : Addr} {kb : ClassId} {cs : List Int32} {cd N2 : Int32} {vs : List Value} (E : RoadKit.Exa Z U.heap x ST) (V : RoadKit.Fld Z U.heap x ST "value" "[B" (.ref t)) (C : RoadKit.Fld Z U.heap x ST "coder" "B" (.int cd)) (K : RoadKit.Arv Z U.heap t kb .byte N2 vs (.int 0)) (hc : CodA cs cd N2 vs) (hb : ∀ c ∈ cs, ¬ c < 0 ∧ ¬ (65535 : Int32) < c) (l2 : cs.length ≤ 4000) :
    ∃ A, Txt x t A cd cs.length (fun j => cs.getD j 0) U := by
  obtain ⟨A, K1, K2, K3, K4, K5, K6⟩ := K
  have hcod := hc.cod (by omega) K3 K5
  obtain ⟨D, fV, fC, hB, F1, F2, g1, g2, -, -⟩ := strObj wi al E V C
  exact ⟨A, ⟨_, hB.2.2.1, D, hB.1, rfl, by cases q : D.vm <;> first | rfl | exact absurd q (hB.2.1.2 _)⟩, Has.of hB F1 g1, Has.of hB F2 g2, ⟨K1.1, State.isArrayOf_alike al K1.2.1, K1.2.2, by rcases hcod with ⟨-, q, -⟩ | ⟨-, q, -⟩ <;> omega⟩, hcod, fun j hj => by
    have e : cs.getD j 0 = cs[j] := by simp [List.getD_eq_getElem?_getD, hj]
    show ¬ cs.getD j 0 < 0 ∧ ¬ 65535 < cs.getD j 0
    rw [e]; exact hb _ (List.getElem_mem _)⟩
end StrChars.Road
namespace StrChars
open Jvm Sem ClassFile Op Lib Jvm.Stand Jvm.Free.XT Jvm.Free.ALB Jvm.Free.JM Jvm.Free
open Jvm.Lib.Cold (StaticIs)
namespace ChN
def yN : MethodName := ⟨"java/lang/String", "charAt", "(I)C"⟩
abbrev yB : ByteArray := jdk_42_method_56_code
theorem d0 : decode yB 0 = .ok (.aload_n 0, 1) := by decide +kernel
theorem d1 : decode yB 1 = .ok (.invokevirtual 492, 3) := by decide +kernel
theorem d4 : decode yB 4 = .ok (.ifCond (.eq) 12, 3) := by decide +kernel
theorem d7 : decode yB 7 = .ok (.aload_n 0, 1) := by decide +kernel
theorem d8 : decode yB 8 = .ok (.getfield 9, 3) := by decide +kernel
theorem d11 : decode yB 11 = .ok (.iload_n 1, 1) := by decide +kernel
theorem d12 : decode yB 12 = .ok (.invokestatic 495, 3) := by decide +kernel
theorem d15 : decode yB 15 = .ok (.ireturn, 1) := by decide +kernel
def site : List Cond := [.fieldLink "java/lang/String" 9 "java/lang/String" "value" "[B", IsL.tab, LChA.tab] ++ virtW "java/lang/String" 492 "java/lang/String" IsL.yN IsL.yN ++ staticW "java/lang/String" 495 LChA.yN
def tab : Cond := tabOf yN yB 2 (some .char) site
def P (x t : Addr) (V : Cell) (n : Nat) (f : Nat → Int32) (z : Int32) (fm : Value) (i : Nat) (args : Array Value) (s : State) : Prop := args = #[.ref x, .int (Int32.ofNat i)] ∧ Txt x t V 0 n f s ∧ i < n ∧ StaticIs s "java/lang/String" "COMPACT_STRINGS" "Z" (.int z) ∧ ¬ z = 0 ∧ StaticIs s "jdk/internal/util/Preconditions" "SIOOBE_FORMATTER" "Ljava/util/function/BiFunction;" fm ∧ fm.isRef = true
def E (f : Nat → Int32) (i : Nat) (r : Option Value) (s u : State) : Prop := XT.PureE (some (.int (f i))) r s u
/-- charAt(i) of a Latin-1 String of n chars, i < n: f i -/
theorem law (l : Launch) (x t : Addr) (V : Cell) (n : Nat) (f : Nat → Int32) (z : Int32) (fm : Value) (i : Nat) : Law l yN 2 1 3 40 yB 2 (some .char) site (P x t V n f z fm i) (E f i) [] 0 0 := by
  refine Law.of_walk (plainFor_of_name (by decide +kernel)) (by decide +kernel) (by decide +kernel) (by decide) (fun _ _ h => by rw [h.1]; rfl) (fun _ U U' hal hh h => ⟨h.1, h.2.1.mv hal hh, h.2.2.1, h.2.2.2.1.there hal hh, h.2.2.2.2.1, h.2.2.2.2.2.1.there hal hh, h.2.2.2.2.2.2⟩) (fun r U U' V V' h1 hal h2 h => XT.PureE.mv r U U' V V' h1 hal h2 h) ?_
  intro p e s m args below meth c s₁ X0 hexec hbytes hml hret hlk hnm hown hh0 W hP
  obtain ⟨rfl, hx, hi, s1, hz, s3, rf⟩ := hP
  have v31 := hx.2.2.2.1.2.2.2
  have hr := hx.2.2.2.2.2 i hi
  have hx0 := hx.mv X0.warmed.alike hh0
  have c1 : Steps p.tables e below (s₁.setTop (entryFrame m #[.ref x, .int (Int32.ofNat i)] 2)) (s₁.setTop (mkF m 1 #[.val (.ref x), .val (.int (Int32.ofNat i))] [.ref x])) := Steps.trans (entry rfl) (by
    show Steps p.tables e below (s₁.setTop (mkF m 0 #[.val (.ref x), .val (.int (Int32.ofNat i))] [])) _
    refine XS.aloadN X0.here hexec rfl (hb hbytes d0) rfl rfl ?_
    exact Steps.refl _)
  obtain ⟨v2, T2, X2, E2, g2⟩ := X0.callV hexec (IsL.law l x 0 z) hown (wks W (virtW "java/lang/String" 492 "java/lang/String" IsL.yN IsL.yN)) rfl (by decide) (wk W IsL.tab) (W := 0) (Nat.le_of_ble_eq_true rfl) (Nat.le_of_ble_eq_true rfl) (Nat.le_refl _) (Nat.le_refl _) (hx0.1.fc X0.warmed.alike) hx0.1.is (g := (mkF m 1 #[.val (.ref x), .val (.int (Int32.ofNat i))] [.ref x])) rfl (by rw [hml]; rfl) c1 (argsL := []) (rest := []) rfl rfl (by show 2 * 0 + 0 ≤ _; decide) (hb hbytes d1) (⟨rfl, hx0.2.2.1, hx.2.2.2.2.1.cd, s1.there X0.warmed.alike hh0, hz⟩)
  obtain ⟨rfl, q2⟩ := E2
  have hh2 := q2.trans hh0
  have hx2 := hx.mv X2.warmed.alike hh2
  obtain ⟨-, k1, k2⟩ | ⟨k0, -⟩ := hx.2.2.2.2.1
  · have c3 : Steps p.tables e below (s₁.setTop (entryFrame m #[.ref x, .int (Int32.ofNat i)] 2)) (T2.setTop (mkF m 8 #[.val (.ref x), .val (.int (Int32.ofNat i))] [.ref x])) := Steps.trans g2 (by
      refine XS.ifNo X2.here hexec rfl (hb hbytes d4) rfl (i0_eq_f (by decide)) ?_
      refine XS.aloadN X2.here hexec rfl (hb hbytes d7) rfl rfl ?_
      exact Steps.refl _)
    obtain ⟨T4, X4, q4, st4⟩ := X2.hget hexec hown (wk W (.fieldLink "java/lang/String" 9 "java/lang/String" "value" "[B")) hx2.2.1 (g := (mkF m 8 #[.val (.ref x), .val (.int (Int32.ofNat i))] [.ref x])) rfl (rest := []) rfl (hb hbytes d8)
    have hh4 := q4.trans hh2
    have c5 : Steps p.tables e below (s₁.setTop (entryFrame m #[.ref x, .int (Int32.ofNat i)] 2)) (T4.setTop (mkF m 12 #[.val (.ref x), .val (.int (Int32.ofNat i))] [.int (Int32.ofNat i), .ref t])) := (c3.trans (st4 _ (Steps.refl _))).trans (by
      refine XS.iloadN X4.here hexec rfl (hb hbytes d11) rfl ?_
      exact Steps.refl _)
    obtain ⟨v6, T6, X6, E6, g6⟩ := X4.callS hexec (LChA.law l t V i (lo8 (f i)) fm) hown (wks W (staticW "java/lang/String" 495 LChA.yN)) (wk W LChA.tab) (W := 0) (Nat.le_of_ble_eq_true rfl) (Nat.le_of_ble_eq_true rfl) (Nat.le_refl _) (Nat.le_refl _) (g := (mkF m 12 #[.val (.ref x), .val (.int (Int32.ofNat i))] [.int (Int32.ofNat i), .ref t])) rfl (by rw [hml]; rfl) c5 (argsL := [.ref t, .int (Int32.ofNat i)]) (rest := []) rfl rfl (by show 2 * 0 + 0 ≤ _; decide) (hb hbytes d12) (⟨rfl, hx.2.2.2.1.mv X4.warmed.alike hh4, (k2 i hi).1, s3.there X4.warmed.alike hh4, rf⟩)
    obtain ⟨rfl, q6⟩ := E6
    rw [chr8_lo8 hr.1 (k2 i hi).2] at g6
    exact ⟨T6, some (.int (f i)), _, _, _, X6, rfl, rfl, rfl, (fun h => by cases h), ⟨rfl, q6.trans hh4⟩, fun fs hl => Steps.trans g6 (X6.ireturnOut hexec hret (narrow_ch hr.1 hr.2) (Or.inr (Or.inr (Or.inr (Or.inl rfl)))) (hb hbytes d15) hl)⟩
  · exact absurd k0 (by decide)
theorem pays {l : Launch} {R : Room} {p : Program} {e : Env} {below : List Frame} {s : State} {sargs : Array Value} {len W : Nat} (x t : Addr) (V : Cell) (n : Nat) (f : Nat → Int32) (z : Int32) (fm : Value) (i : Nat) (htab : tab.before sargs s = true) (hfr : 4 ≤ R.frames) (hlo : W + 53 ≤ R.locals) :
    Back l R p e below s sargs yN len W (fun A₁ a₁ => A₁.cells + 0 ≤ R.cells ∧ A₁.slots + 0 ≤ R.slots ∧ P x t V n f z fm i a₁ A₁.U) (fun A₁ _ v₁ B₁ => E f i v₁ A₁.U B₁.U ∧ B₁.locs = A₁.locs ++ [] ∧ B₁.cells = A₁.cells + 0 ∧ B₁.slots = A₁.slots + 0) :=
  (law l x t V n f z fm i).pays htab hfr (by omega)
end ChN
end StrChars
namespace StrChars.Road
open Jvm Sem ClassFile Op Lib Jvm.Stand Jvm.Free Jvm.Free.XT
open Jvm.Lib.Cold (StaticIs)
/-- the words of String.charAt(int), the Latin-1 road alone -/
abbrev wordsChN : List Jvm.Cond := [.code ChN.yN ChN.yB 2 (some .char), .initialized ST, .fieldLink ST 9 ST "value" "[B", .fieldLink ST 38 ST "COMPACT_STRINGS" "Z", .fieldLink ST 15 ST "coder" "B", .code IsL.yN IsL.yB 1 (some .boolean), .methodLink ST 492 IsL.yN, .declares IsL.yN, .selects ST IsL.yN IsL.yN, .instanceMethod IsL.yN,
  .methodLink ST 495 LChA.yN, .static LChA.yN, .code LChA.yN LChA.yB 2 (some .char), .initialized "java/lang/StringLatin1", .methodLink "java/lang/StringLatin1" 9 JO.Str_checkIndex.yN, .static JO.Str_checkIndex.yN, .code JO.Str_checkIndex.yN JO.Str_checkIndex.yB 2 none,
  .fieldLink ST 1053 "jdk/internal/util/Preconditions" "SIOOBE_FORMATTER" "Ljava/util/function/BiFunction;", .methodLink ST 1059 JC.PreCheck.yN, .static JC.PreCheck.yN, .code JC.PreCheck.yN JC.PreCheck.yB 3 (some .int), .initialized "jdk/internal/util/Preconditions"]
theorem tabChN_of {a : Array Value} {s : State} (h : ∀ w ∈ wordsChN, w.before a s = true) : ChN.tab.before a s = true := by
  have hp : JC.PreCheck.tab.before a s = true := unparts (wk h (.code JC.PreCheck.yN JC.PreCheck.yB 3 (some .int))) (wks h (.initialized JC.PreCheck.yN.cls :: JC.PreCheck.site))
  have qk := consq hp h
  have hk : JO.Str_checkIndex.tab.before a s = true := unparts (wk qk (.code JO.Str_checkIndex.yN JO.Str_checkIndex.yB 2 none)) (wks qk (.initialized JO.Str_checkIndex.yN.cls :: JO.Str_checkIndex.site))
  have ql := consq hk h
  have hl : LChA.tab.before a s = true := unparts (wk ql (.code LChA.yN LChA.yB 2 (some .char))) (wks ql (.initialized LChA.yN.cls :: LChA.site))
  have hi : IsL.tab.before a s = true := unparts (wk h (.code IsL.yN IsL.yB 1 (some .boolean))) (wks h (.initialized IsL.yN.cls :: IsL.site))
  have q := consq hi (consq hl h)
  exact unparts (wk q (.code ChN.yN ChN.yB 2 (some .char))) (wks q (.initialized ChN.yN.cls :: ChN.site))
theorem movedChN {Z s : State} {a0 args : Array Value} (hZ : Z.Warmed39 s.vm) (hw : ∀ d ∈ wordsChN, d.before a0 Z = true) : ∀ d ∈ wordsChN, d.before args s = true := fun d hd => by
  have t : ∀ d ∈ wordsChN, (d.onTables && d.keepsFace) = true := by decide +kernel
  exact RoadKit.mv hZ (hw d hd) (t d hd)
/-- **charAt(i) OF A LATIN-1 STRING**, i < n: the char -/
theorem chN {p : Program} {l : Launch} {e : Env} {R : Room} {s : State} {args : Array Value} {below : List Frame} {len W : Nat} {Z : State} {a0 : Array Value} {h : Heap} (hZ : Z.Warmed39 s.vm) (hw : ∀ d ∈ wordsChN, d.before a0 Z = true) {kI : Nat} (wi : (Jvm.Cond.instantiable ST kI).before a0 Z = true)
    {x t : Addr} {kb : ClassId} {cs : List Int32} {N2 z : Int32} {vs : List Value} {fm : Value} {i : Nat} {j : Int32} (E : RoadKit.Exa Z h x ST) (V : RoadKit.Fld Z h x ST "value" "[B" (.ref t)) (C : RoadKit.Fld Z h x ST "coder" "B" (.int 0)) (K : RoadKit.Arv Z h t kb .byte N2 vs (.int 0)) (hc : CodA cs 0 N2 vs) (hb : ∀ c ∈ cs, ¬ c < 0 ∧ ¬ (65535 : Int32) < c)
    (S : RoadKit.Sta Z h ST "COMPACT_STRINGS" "Z" (.int z)) (hz : ¬ z = 0) (F : RoadKit.Sta Z h "jdk/internal/util/Preconditions" "SIOOBE_FORMATTER" "Ljava/util/function/BiFunction;" fm) (rf : fm.isRef = true) (l2 : cs.length ≤ 4000) (hi : i < cs.length) (hj : j = Int32.ofNat i) (hfr : 4 ≤ R.frames) (hlo : W + 53 ≤ R.locals) :
    Back l R p e below s args (⟨"java/lang/String", "charAt", "(I)C"⟩ : MethodName) len W (fun P a => a = #[.ref x, .int j] ∧ P.U.heap = h ∧ P.cells + 0 ≤ R.cells ∧ P.slots + 0 ≤ R.slots)
      (fun P _ v B => ∃ L, (v = some (.int (cs.getD i 0)) ∧ L = [] ∧ B.U.heap = h) ∧ B.locs = P.locs ++ L ∧ B.cells = P.cells + 0 ∧ B.slots = P.slots + 0) := by
  subst hj
  intro m meth c P g ig mk a X hg hsize hdg hW hn hp'
  obtain ⟨rfl, rfl, r1, r2⟩ := hp'
  have al : Z.vm.Alike P.U.vm := hZ.alike.trans X.warmed.alike
  obtain ⟨A, hx⟩ := txt_of wi al E V C K hc hb l2
  obtain ⟨v, B, X', ⟨⟨hv, hh⟩, hl, hk, hs⟩, st⟩ := ChN.pays x t A cs.length (fun j => cs.getD j 0) z fm i (tabChN_of (movedChN hZ hw)) hfr hlo m meth c P g ig mk _ X hg hsize hdg hW hn ⟨r1, r2, rfl, hx, hi, sta_is al S, hz, sta_is al F, rf⟩
  exact ⟨v, B, X', ⟨[], ⟨hv, rfl, hh⟩, hl, hk, hs⟩, st⟩
/-- what backV says of its String, as the contracts of this text ask it: cs's low bytes, coder 0 -/
theorem codOf {cs : List Int32} {n : Nat} (hn : cs.length = n) (hb : ∀ c ∈ cs, ¬ 255 < c) : CodA cs 0 (Int32.ofNat n) ((cs.map lo8).map Value.int) := Or.inl ⟨rfl, by rw [hn], by simp [List.map_map, Function.comp_def], hb⟩
end StrChars.Road
end Jvm.Pilot.@@N@@

namespace Jvm.Pilot.@@N@@
namespace OK
open Jvm Jvm.ClassFile Sem Op Lib Bundle Jvm.Stand Jvm.Free Jvm.LawKit Jvm.RoadKit
/-! own layer: one predicate for "the walk stands here" (Wk), one for the goal (Go), one for contracts (Ct narrow, Cw wide) -/
def Go (p : Program) (e : Env) (below : List Frame) (Fin : State → Outcome → Prop) (U : State) : Prop := ∃ t o, Steps p.tables e below U t ∧ t.status = .running ∧ Ended t below o ∧ Fin t o
theorem Go.by {p : Program} {e : Env} {below : List Frame} {Fin : State → Outcome → Prop} {U U' : State} (st : ∀ t, Steps p.tables e below U' t → Steps p.tables e below U t) (k : Go p e below Fin U') : Go p e below Fin U := by
  obtain ⟨t, o, h1, h2⟩ := k
  exact ⟨t, o, st _ h1, h2⟩
theorem Go.tr {p : Program} {e : Env} {below : List Frame} {Fin : State → Outcome → Prop} {U U' : State} (st : Steps p.tables e below U U') (k : Go p e below Fin U') : Go p e below Fin U := by
  obtain ⟨t, o, h1, h2⟩ := k
  exact ⟨t, o, st.trans h1, h2⟩
def Cst (p : Program) (meth : Method) (c : Code) (y : MethodName) (bytes : ByteArray) (maxL : Nat) (ret : Option FieldType) : Prop := p.tables.exec = Jvm.exec ∧ c.code = bytes ∧ c.maxLocals = maxL ∧ meth.name = y.name ∧ meth.sig.returnType = ret ∧ meth.locks = false
def Sfs (Z : State) (EL : List (String × Nat)) (n0 : Nat) (vm : Vm) (h : Heap) (sf : List Addr) : Prop := ∀ x ∈ sf, n0 ≤ x ∧ x < h.size ∧ Safe Z EL vm h x
theorem Sfs.go {Z : State} {EL : List (String × Nat)} {n0 : Nat} {vm vm1 : Vm} {h h' : Heap} {sf : List Addr} (S : Sfs Z EL n0 vm h sf) (D : CHr Z EL vm h vm1 h') : Sfs Z EL n0 vm1 h' sf := fun x hx =>
  ⟨(S x hx).1, Nat.lt_of_lt_of_le (S x hx).2.1 D.2.1, D.safe (S x hx).2.1 (S x hx).2.2⟩
def Ende (b : Bool) (s : State) (o : Outcome) (t : State) (L : List Loc) (k n : Nat) : Prop := match b with | true => ReturnedEndW s o t L k n | false => FrameEnd s o t L k n
def Wk (b : Bool) (p : Program) (l : Launch) (e : Env) (R : Room) (s : State) (m : MethodId) (args : Array Value) (below : List Frame) (meth : Method) (c : Code) (Z : State) (EL : List (String × Nat)) (y : MethodName) (bytes : ByteArray) (maxL : Nat) (ret : Option FieldType) (n0 : Nat) (h0 : Heap) (T : State) (h : Heap) (sf : List Addr) (cells slots : Nat) : Prop :=
  ∃ (vm0 : Vm) (k0 : Nat) (locs : List Loc) (a0 : Array Value), Stand p l e R (s.setVm vm0) m args below meth c T locs cells slots ∧ T.heap = h ∧ (b = false → vm0 = s.vm) ∧ s.Since vm0 k0 ∧ k0 ≤ h.size ∧ Z.Warmed39 vm0 ∧ vm0.findClass y.cls = some m.cls ∧ Fr n0 locs ∧ CHr Z EL s.vm h0 vm0 h ∧ Sfs Z EL n0 vm0 h sf ∧ EW Z a0 EL ∧ Old Z n0 h ∧ Cst p meth c y bytes maxL ret
def Fi (b : Bool) (R : Room) (s : State) (Z : State) (EL : List (String × Nat)) (n0 : Nat) (h0 : Heap) (ws : List Addr) (Q : Option Value → Heap → Prop) (t : State) (o : Outcome) : Prop :=
  ∃ v L, o = .returned v ∧ Keep h0 t.heap ws ∧ Q v t.heap ∧ Fr n0 L ∧ CHr Z EL s.vm h0 t.vm t.heap ∧ Ende b s o t L R.cells R.slots
section Walk
variable {b : Bool} {p : Program} {l : Launch} {e : Env} {R : Room} {s : State} {m : MethodId} {args : Array Value} {below : List Frame} {meth : Method} {c : Code} {Z : State} {EL : List (String × Nat)} {y : MethodName} {bytes : ByteArray} {maxL : Nat} {ret : Option FieldType} {n0 : Nat} {h0 : Heap} {T : State} {h h' : Heap} {sf ws : List Addr} {cells slots : Nat} {a0 : Array Value} {Q : Option Value → Heap → Prop}
theorem Wk.here (X : Wk b p l e R s m args below meth c Z EL y bytes maxL ret n0 h0 T h sf cells slots) : At T m c below := by obtain ⟨_, _, _, _, X, -⟩ := X; exact X.here
theorem Wk.cst (X : Wk b p l e R s m args below meth c Z EL y bytes maxL ret n0 h0 T h sf cells slots) : Cst p meth c y bytes maxL ret := by obtain ⟨_, _, _, _, _, _, _, _, _, _, _, _, _, _, _, _, C⟩ := X; exact C
theorem Wk.hx (X : Wk b p l e R s m args below meth c Z EL y bytes maxL ret n0 h0 T h sf cells slots) : p.tables.exec = Jvm.exec := X.cst.1
theorem Wk.cd (X : Wk b p l e R s m args below meth c Z EL y bytes maxL ret n0 h0 T h sf cells slots) {pc : Nat} {r : Except DecodeError (Instr × Nat)} (d : decode bytes pc = r) : decode c.code pc = r := by rw [X.cst.2.1]; exact d
theorem Wk.eh (X : Wk b p l e R s m args below meth c Z EL y bytes maxL ret n0 h0 T h sf cells slots) : T.heap = h := by obtain ⟨_, _, _, _, _, q, -⟩ := X; exact q
theorem Wk.old (X : Wk b p l e R s m args below meth c Z EL y bytes maxL ret n0 h0 T h sf cells slots) : Old Z n0 h := by obtain ⟨_, _, _, _, _, _, _, _, _, _, _, _, _, _, _, O, -⟩ := X; exact O
theorem Wk.nle (X : Wk b p l e R s m args below meth c Z EL y bytes maxL ret n0 h0 T h sf cells slots) : n0 ≤ h.size := by have := X.old; rw [← this.1]; exact this.2.1
theorem Wk.sz (X : Wk b p l e R s m args below meth c Z EL y bytes maxL ret n0 h0 T h sf cells slots) : h0.size ≤ h.size := by obtain ⟨_, _, _, _, _, _, _, _, _, _, _, _, A, -⟩ := X; exact A.2.1
theorem Wk.ge (X : Wk b p l e R s m args below meth c Z EL y bytes maxL ret n0 h0 T h sf cells slots) {x : Addr} (hx : x ∈ sf) : n0 ≤ x := by obtain ⟨_, _, _, _, _, _, _, _, _, _, _, _, _, S, -⟩ := X; exact (S x hx).1
theorem Wk.lt (X : Wk b p l e R s m args below meth c Z EL y bytes maxL ret n0 h0 T h sf cells slots) {x : Addr} (hx : x ∈ sf) : x < h.size := by obtain ⟨_, _, _, _, _, _, _, _, _, _, _, _, _, S, -⟩ := X; exact (S x hx).2.1
theorem Wk.sub (X : Wk b p l e R s m args below meth c Z EL y bytes maxL ret n0 h0 T h sf cells slots) {sf' : List Addr} (q : ∀ x ∈ sf', x ∈ sf) : Wk b p l e R s m args below meth c Z EL y bytes maxL ret n0 h0 T h sf' cells slots := by
  obtain ⟨vm0, k0, locs, a0, x1, x2, x3, x4, x5, x6, x7, x8, x9, x10, x11⟩ := X
  exact ⟨vm0, k0, locs, a0, x1, x2, x3, x4, x5, x6, x7, x8, x9, fun z hz => x10 z (q z hz), x11⟩
/-- the core: from the parts at (vm0, h) to the parts at (vm1, h') -/
theorem Wk.up {vm0 vm1 : Vm} {k1 cells' slots' : Nat} {locs' : List Loc} {T' : State} (X' : Stand p l e R (s.setVm vm1) m args below meth c T' locs' cells' slots') (e' : T'.heap = h') (hb : b = false → vm1 = s.vm) (hS : s.Since vm1 k1) (hk : k1 ≤ h'.size) (hZ : Z.Warmed39 vm1) (ho : vm1.findClass y.cls = some m.cls) (N : Fr n0 locs')
    (A : CHr Z EL s.vm h0 vm0 h) (D : CHr Z EL vm0 h vm1 h') (S : Sfs Z EL n0 vm0 h sf) (hE : EW Z a0 EL) (O : Old Z n0 h') (C : Cst p meth c y bytes maxL ret) : Wk b p l e R s m args below meth c Z EL y bytes maxL ret n0 h0 T' h' sf cells' slots' :=
  ⟨vm1, k1, locs', a0, X', e', hb, hS, hk, hZ, ho, N, A.trans D, S.go D, hE, O, C⟩
theorem Sfs.new {vm0 : Vm} {a : Addr} (S : Sfs Z EL n0 vm0 h sf) (H : CHv Z EL vm0 h) (E : Ext h h') (hn : n0 ≤ h.size) (ha : a = h.size) (hl : a < h'.size) : Sfs Z EL n0 vm0 h' (a :: sf) := fun z hz => by
  subst ha
  rcases List.mem_cons.mp hz with rfl | hz
  · exact ⟨hn, hl, Safe.ext E H (Safe.new (Nat.le_refl _))⟩
  · exact (S.go (CHr.ext E H)) z hz
/-! ### the end -/
theorem Wk.fin (X : Wk b p l e R s m args below meth c Z EL y bytes maxL ret n0 h0 T h sf cells slots) {v : Option Value} (hv : ret = none → v = none) (K : Keep h0 h ws) (q : Q v h) (hc : cells ≤ R.cells) (hs : slots ≤ R.slots) {U : State}
    (st : ∀ fs, (∀ (f : JFrame) (acts : List Action), f.method = m → f.locked = none → f.entered = [] → (doReturn e (T.setTop f) acts v).1 = T.setFrames fs) → Steps p.tables e below U (T.setFrames fs)) : Go p e below (Fi b R s Z EL n0 h0 ws Q) U := by
  obtain ⟨vm0, k0, locs, a0, x1, rfl, x3, x4, x5, x6, x7, x8, x9, x10, x11, x12, C⟩ := X
  obtain ⟨c1, c2, c3, c4, c5, c6⟩ := C
  have A := x9.trans (CHv.at x1 x6 x11 x9.1)
  cases b with
  | true =>
    obtain ⟨fs, r1, r2, r3, r4⟩ := x1.leaveW x4 x5 (v := v) (fun q => hv (c5.symm.trans q)) c6
    exact ⟨_, _, st fs r1, r2, r3, v, locs, rfl, K, q, x8, A, r4.1, r4.2.1, r4.2.2.1, r4.2.2.2.mono hc hs⟩
  | false =>
    obtain rfl := x3 rfl
    obtain ⟨fs, r1, r2, r3, r4, r5⟩ := x1.leave (v := v) (fun q => hv (c5.symm.trans q)) c6
    exact ⟨_, _, st fs r1, r2, r3, v, locs, rfl, K, q, x8, A, ⟨_, rfl⟩, r4, r5.mono hc hs⟩
theorem Wk.retV (X : Wk b p l e R s m args below meth c Z EL y bytes maxL none n0 h0 T h sf cells slots) {pc : Nat} {Ls : Array Slot} (d : decode bytes pc = .ok (.return_, 1)) (K : Keep h0 h ws) (q : Q none h) (hc : cells ≤ R.cells) (hs : slots ≤ R.slots) :
    Go p e below (Fi b R s Z EL n0 h0 ws Q) (T.setTop (mkF m pc Ls [])) := by
  refine X.fin (v := none) (fun _ => rfl) K q hc hs fun fs hr => ?_
  have d := X.cd d
  obtain ⟨vm0, k0, locs, a0, x1, rfl, x3, x4, x5, x6, x7, x8, x9, x10, x11, x12, c1, c2, c3, c4, c5, c6⟩ := X
  exact x1.returnOut c1 c5 d hr
theorem Wk.retO (X : Wk b p l e R s m args below meth c Z EL y bytes maxL ret n0 h0 T h sf cells slots) {pc : Nat} {Ls : Array Slot} {w : Value} {t : FieldType} {i : Instr} {rest : List Value} (ht : ret = some t) (hn : narrow t w = w)
    (hi : (i = .ireturn ∧ (t = .int ∨ t = .boolean ∨ t = .byte ∨ t = .char ∨ t = .short) ∧ ∃ z, w = .int z) ∨ (i = .lreturn ∧ t = .long ∧ ∃ z, w = .long z) ∨ (i = .dreturn ∧ t = .double ∧ ∃ z, w = .double z) ∨ (i = .freturn ∧ t = .float ∧ ∃ z, w = .float z) ∨ (i = .areturn ∧ t.isReference = true ∧ w.isRef = true))
    (d : decode bytes pc = .ok (i, 1)) (K : Keep h0 h ws) (q : Q (some w) h) (hc : cells ≤ R.cells) (hs : slots ≤ R.slots) :
    Go p e below (Fi b R s Z EL n0 h0 ws Q) (T.setTop (mkF m pc Ls (w :: rest))) := by
  refine X.fin (v := some w) (fun z => by rw [ht] at z; cases z) K q hc hs fun fs hr => ?_
  have d := X.cd d
  obtain ⟨vm0, k0, locs, a0, x1, rfl, x3, x4, x5, x6, x7, x8, x9, x10, x11, x12, c1, c2, c3, c4, c5, c6⟩ := X
  exact retOut x1 c1 (c5.trans ht) hn hi d hr
theorem Wk.retI (X : Wk b p l e R s m args below meth c Z EL y bytes maxL (some .int) n0 h0 T h sf cells slots) {pc : Nat} {Ls : Array Slot} {z : Int32} {rest : List Value} (d : decode bytes pc = .ok (.ireturn, 1)) (K : Keep h0 h ws) (q : Q (some (.int z)) h) (hc : cells ≤ R.cells) (hs : slots ≤ R.slots) :
    Go p e below (Fi b R s Z EL n0 h0 ws Q) (T.setTop (mkF m pc Ls (.int z :: rest))) := X.retO rfl rfl (Or.inl ⟨rfl, Or.inl rfl, z, rfl⟩) d K q hc hs
theorem Wk.retJ (X : Wk b p l e R s m args below meth c Z EL y bytes maxL (some .long) n0 h0 T h sf cells slots) {pc : Nat} {Ls : Array Slot} {z : Int64} {rest : List Value} (d : decode bytes pc = .ok (.lreturn, 1)) (K : Keep h0 h ws) (q : Q (some (.long z)) h) (hc : cells ≤ R.cells) (hs : slots ≤ R.slots) :
    Go p e below (Fi b R s Z EL n0 h0 ws Q) (T.setTop (mkF m pc Ls (.long z :: rest))) := X.retO rfl rfl (Or.inr (Or.inl ⟨rfl, rfl, z, rfl⟩)) d K q hc hs
/-- boolean, byte, char, short: the value fits already -/
theorem Wk.retN {t : FieldType} (X : Wk b p l e R s m args below meth c Z EL y bytes maxL (some t) n0 h0 T h sf cells slots) {pc : Nat} {Ls : Array Slot} {z : Int32} {rest : List Value} (ht : t = .boolean ∨ t = .byte ∨ t = .char ∨ t = .short) (hz : nar t z = z) (d : decode bytes pc = .ok (.ireturn, 1)) (K : Keep h0 h ws) (q : Q (some (.int z)) h) (hc : cells ≤ R.cells) (hs : slots ≤ R.slots) :
    Go p e below (Fi b R s Z EL n0 h0 ws Q) (T.setTop (mkF m pc Ls (.int z :: rest))) := by
  have hn : narrow t (.int z) = .int z := by
    have : narrow t (.int z) = .int (nar t z) := by rcases ht with rfl | rfl | rfl | rfl <;> rfl
    rw [this, hz]
  exact X.retO rfl hn (Or.inl ⟨rfl, Or.inr ht, z, rfl⟩) d K q hc hs
theorem Wk.retR {t : FieldType} (X : Wk b p l e R s m args below meth c Z EL y bytes maxL (some t) n0 h0 T h sf cells slots) {pc : Nat} {Ls : Array Slot} {w : Value} {rest : List Value} (ht : t.isReference = true) (hw : w.isRef = true) (d : decode bytes pc = .ok (.areturn, 1)) (K : Keep h0 h ws) (q : Q (some w) h) (hc : cells ≤ R.cells) (hs : slots ≤ R.slots) :
    Go p e below (Fi b R s Z EL n0 h0 ws Q) (T.setTop (mkF m pc Ls (w :: rest))) := by
  have hn : narrow t w = w := by cases w <;> simp [Value.isRef] at hw <;> cases t <;> rfl
  exact X.retO rfl hn (Or.inr (Or.inr (Or.inr (Or.inr ⟨rfl, ht, hw⟩)))) d K q hc hs
/-! ### steps on the heap -/
theorem Wk.new (X : Wk b p l e R s m args below meth c Z EL y bytes maxL ret n0 h0 T h sf cells slots) {a1 : Array Value} {C : String} {index n : Nat} (w : (Cond.classLink y.cls index C).before a1 Z = true) (wi : (Cond.instantiable C n).before a1 Z = true) (wz : (Cond.initialized C).before a1 Z = true) {g : JFrame} (hg : g.method = m) (hd : decode bytes g.pc = .ok (.new index, 3)) (hc : cells + 1 ≤ R.cells) (hl : slots + n ≤ R.slots) :
    ∃ (T' : State) (h' : Heap) (a : Addr), a = h.size ∧ Wk b p l e R s m args below meth c Z EL y bytes maxL ret n0 h0 T' h' (a :: sf) (cells + 1) (slots + n) ∧ Ext h h' ∧ Exa Z h' a C ∧ (∀ {O nm d : String} {ty : FieldType}, Laid Z a1 C O nm d → parseFieldDescriptor d = some ty → Fld Z h' a O nm d (defaultValue ty)) ∧
      ∀ t, Steps p.tables e below (T'.setTop { g with pc := g.pc + 3, stack := .ref a :: g.stack }) t → Steps p.tables e below (T.setTop g) t := by
  have hd := X.cd hd
  have hn := X.nle
  obtain ⟨vm0, k0, locs, a0, x1, rfl, x3, x4, x5, x6, x7, x8, x9, x10, x11, x12, C⟩ := X
  obtain ⟨T', h', X', e', E, F, D, -, st⟩ := newO x1 C.1 (s := s.setVm vm0) x6 x7 w wi wz rfl hg hd hc hl
  exact ⟨T', h', _, rfl, ⟨vm0, k0, locs, a0, X', e', x3, x4, Nat.le_trans x5 E.1, x6, x7, x8, x9.trans (CHr.ext E x9.1), x10.new x9.1 E hn rfl F.lt, x11, x12.ext E, C⟩, E, F, D, st⟩
theorem rep_get (d : Value) (n i : Nat) : (List.replicate n d).getD i d = ([] : List Value).getD i d := by
  simp only [List.getD_eq_getElem?_getD, List.getElem?_nil, Option.getD_none]
  rw [List.getElem?_replicate]
  split <;> rfl
theorem Wk.newP (X : Wk b p l e R s m args below meth c Z EL y bytes maxL ret n0 h0 T h sf cells slots) {a1 : Array Value} {aty : ArrayType} (w : (Cond.arrayClass (newarray.typeOf aty)).before a1 Z = true) {g : JFrame} (hg : g.method = m) (hd : decode bytes g.pc = .ok (.newarray aty, 2)) {n : Int32} {rest : List Value} (hs : g.stack = .int n :: rest)
    (hn : ¬ n < 0) {cap : Nat} (hcap : n.toNatClampNeg ≤ cap) (hb : cap * 8 ≤ 536870912) (hc : cells + 1 ≤ R.cells) (hl : slots + cap ≤ R.slots) {vs : List Value} (hv : List.replicate n.toNatClampNeg (defaultValue (newarray.typeOf aty)) = vs) :
    ∃ (T' : State) (h' : Heap) (a : Addr) (k : ClassId), a = h.size ∧ Wk b p l e R s m args below meth c Z EL y bytes maxL ret n0 h0 T' h' (a :: sf) (cells + 1) (slots + cap) ∧ Ext h h' ∧ Arv Z h' a k (newarray.typeOf aty) n vs (defaultValue (newarray.typeOf aty)) ∧
      ∀ t, Steps p.tables e below (T'.setTop { g with pc := g.pc + 2, stack := .ref a :: rest }) t → Steps p.tables e below (T.setTop g) t := by
  have hd := X.cd hd
  have hnl := X.nle
  obtain ⟨vm0, k0, locs, a0, x1, rfl, x3, x4, x5, x6, x7, x8, x9, x10, x11, x12, C⟩ := X
  obtain ⟨T', h', k, X', e', E, F, st⟩ := RoadKit.newP x1 C.1 (s := s.setVm vm0) x6 w rfl hg hd hs hn hcap hb hc hl
  have G := (Arv.new F hn).pad (vs' := vs) (fun i => by rw [← hv]; exact rep_get _ _ _)
  exact ⟨T', h', _, k, rfl, ⟨vm0, k0, locs, a0, X', e', x3, x4, Nat.le_trans x5 E.1, x6, x7, x8, x9.trans (CHr.ext E x9.1), x10.new x9.1 E hnl rfl F.lt, x11, x12.ext E, C⟩, E, G, st⟩
theorem Wk.newR (X : Wk b p l e R s m args below meth c Z EL y bytes maxL ret n0 h0 T h sf cells slots) {a1 : Array Value} {C : String} {index : Nat} (w : (Cond.classLink y.cls index C).before a1 Z = true) (w2 : (Cond.arrayOver (.object C)).before a1 Z = true) {g : JFrame} (hg : g.method = m) (hd : decode bytes g.pc = .ok (.anewarray index, 3)) {n : Int32} {rest : List Value} (hs : g.stack = .int n :: rest)
    (hn : ¬ n < 0) {cap : Nat} (hcap : n.toNatClampNeg ≤ cap) (hb : cap * 8 ≤ 536870912) (hc : cells + 1 ≤ R.cells) (hl : slots + cap ≤ R.slots) {vs : List Value} (hv : List.replicate n.toNatClampNeg Value.null = vs) {ad : String} (had : "[" ++ (FieldType.object C).toString = ad) :
    ∃ (T' : State) (h' : Heap) (a : Addr) (k : ClassId), a = h.size ∧ Wk b p l e R s m args below meth c Z EL y bytes maxL ret n0 h0 T' h' (a :: sf) (cells + 1) (slots + cap) ∧ Ext h h' ∧ Arv Z h' a k (.object C) n vs .null ∧ Exa Z h' a ad ∧ Ovr Z k C ∧
      ∀ t, Steps p.tables e below (T'.setTop { g with pc := g.pc + 3, stack := .ref a :: rest }) t → Steps p.tables e below (T.setTop g) t := by
  have hd := X.cd hd
  have hnl := X.nle
  obtain ⟨vm0, k0, locs, a0, x1, rfl, x3, x4, x5, x6, x7, x8, x9, x10, x11, x12, CC⟩ := X
  obtain ⟨T', h', k, X', e', E, F, F2, O, st⟩ := newRE x1 CC.1 (s := s.setVm vm0) x6 x7 w w2 rfl hg hd hs hn hcap hb hc hl had
  have G := (Arv.new F hn).pad (vs' := vs) (fun i => by rw [← hv]; exact rep_get _ _ _)
  exact ⟨T', h', _, k, rfl, ⟨vm0, k0, locs, a0, X', e', x3, x4, Nat.le_trans x5 E.1, x6, x7, x8, x9.trans (CHr.ext E x9.1), x10.new x9.1 E hnl rfl F.lt, x11, x12.ext E, CC⟩, E, G, F2, O, st⟩
theorem Wk.getF (X : Wk b p l e R s m args below meth c Z EL y bytes maxL ret n0 h0 T h sf cells slots) {a1 : Array Value} {R0 O n d host : String} {index : Nat} (w : (Cond.fieldLink y.cls index R0 n d).before a1 Z = true ∨ (Cond.fieldLinkNest y.cls index R0 n d host).before a1 Z = true) (via : Via Z R0 O n d) {a : Addr} {v : Value} (F : Fld Z h a O n d v)
    {g : JFrame} (hg : g.method = m) {rest : List Value} (hs : g.stack = .ref a :: rest) (hd : decode bytes g.pc = .ok (.getfield index, 3)) :
    ∃ T' : State, Wk b p l e R s m args below meth c Z EL y bytes maxL ret n0 h0 T' h sf cells slots ∧ ∀ t, Steps p.tables e below (T'.setTop { g with pc := g.pc + 3, stack := v :: rest }) t → Steps p.tables e below (T.setTop g) t := by
  have hd := X.cd hd
  obtain ⟨vm0, k0, locs, a0, x1, rfl, x3, x4, x5, x6, x7, x8, x9, x10, x11, x12, C⟩ := X
  obtain ⟨T', X', e', st⟩ := RoadKit.getF x1 C.1 (s := s.setVm vm0) x6 x7 w via rfl F hg hs hd
  exact ⟨T', ⟨vm0, k0, locs, a0, X', e', x3, x4, x5, x6, x7, x8, x9, x10, x11, x12, C⟩, st⟩
theorem Wk.getS (X : Wk b p l e R s m args below meth c Z EL y bytes maxL ret n0 h0 T h sf cells slots) {a1 : Array Value} {R0 O n d : String} {index : Nat} (w : (Cond.fieldLink y.cls index R0 n d).before a1 Z = true) (via : Via Z R0 O n d) {v : Value} (F : Sta Z Z.heap O n d v)
    {g : JFrame} (hg : g.method = m) (hd : decode bytes g.pc = .ok (.getstatic index, 3)) :
    ∃ T' : State, Wk b p l e R s m args below meth c Z EL y bytes maxL ret n0 h0 T' h sf cells slots ∧ ∀ t, Steps p.tables e below (T'.setTop { g with pc := g.pc + 3, stack := v :: g.stack }) t → Steps p.tables e below (T.setTop g) t := by
  have hd := X.cd hd
  obtain ⟨vm0, k0, locs, a0, x1, rfl, x3, x4, x5, x6, x7, x8, x9, x10, x11, x12, C⟩ := X
  obtain ⟨T', X', e', st⟩ := RoadKit.getS x1 C.1 (s := s.setVm vm0) (host := "") x6 x7 w via rfl (F.ext x12.2) hg hd
  exact ⟨T', ⟨vm0, k0, locs, a0, X', e', x3, x4, x5, x6, x7, x8, x9, x10, x11, x12, C⟩, st⟩
theorem Wk.wr {vm0 : Vm} {k0 : Nat} {locs : List Loc} {T' : State} {a : Addr} {sl sl' : Nat} {v : Value} (x1' : Stand p l e R (s.setVm vm0) m args below meth c T' (locs ++ [⟨a, sl'⟩]) cells slots) (e' : T'.heap = h') (W : Wr h h' a sl v) (x3 : b = false → vm0 = s.vm) (x4 : s.Since vm0 k0) (x5 : k0 ≤ h.size) (x6 : Z.Warmed39 vm0) (x7 : vm0.findClass y.cls = some m.cls) (x8 : Fr n0 locs) (x9 : CHr Z EL s.vm h0 vm0 h) (x10 : Sfs Z EL n0 vm0 h sf) (x11 : EW Z a0 EL) (x12 : Old Z n0 h) (C : Cst p meth c y bytes maxL ret) (hm : a ∈ sf) :
    Wk b p l e R s m args below meth c Z EL y bytes maxL ret n0 h0 T' h' sf cells slots := by
  have D : CHr Z EL vm0 h vm0 h' := CHr.wr W (x10 a hm).2.2 x9.1
  exact ⟨vm0, k0, _, a0, x1', e', x3, x4, by rw [W.size]; exact x5, x6, x7, x8.snoc x1' (x10 a hm).1, x9.trans D, x10.go D, x11, x12.wr W (x10 a hm).1, C⟩
theorem Wk.putF (X : Wk b p l e R s m args below meth c Z EL y bytes maxL ret n0 h0 T h sf cells slots) {a1 : Array Value} {R0 O n d host C : String} {index kk : Nat} {ty : FieldType} (w : (Cond.fieldLink y.cls index R0 n d).before a1 Z = true ∨ (Cond.fieldLinkNest y.cls index R0 n d host).before a1 Z = true) (via : Via Z R0 O n d) {a : Addr} {v old : Value} (F : Fld Z h a O n d old) (E : Exa Z h a C)
    (L : (Cond.lays C O n d).before a1 Z = true ∨ ((Cond.laysFinal C O n d).before a1 Z = true ∧ y.cls = O ∧ y.name = "<init>")) (wi : (Cond.instantiable C kk).before a1 Z = true) (hm : a ∈ sf)
    (hty : parseFieldDescriptor d = some ty) (hn : narrow ty v = v) (hf : fits ty v = true) {g : JFrame} (hg : g.method = m) {rest : List Value} (hs : g.stack = v :: .ref a :: rest) (hd : decode bytes g.pc = .ok (.putfield index, 3)) :
    ∃ (T' : State) (h' : Heap), Wk b p l e R s m args below meth c Z EL y bytes maxL ret n0 h0 T' h' sf cells slots ∧ Wr h h' a (RoadKit.slotOf Z O n d) v ∧ ∀ t, Steps p.tables e below (T'.setTop { g with pc := g.pc + 3, stack := rest }) t → Steps p.tables e below (T.setTop g) t := by
  have hd := X.cd hd
  obtain ⟨vm0, k0, locs, a0, x1, rfl, x3, x4, x5, x6, x7, x8, x9, x10, x11, x12, CC⟩ := X
  obtain ⟨T', h', X', e', W, st⟩ := RoadKit.putF x1 CC.1 (s := s.setVm vm0) x6 x7 w via rfl F E (L.imp id fun q => ⟨q.1, q.2.1, CC.2.2.2.1.trans q.2.2⟩) wi hty hn hf hg hs hd
  exact ⟨T', h', Wk.wr X' e' W x3 x4 x5 x6 x7 x8 x9 x10 x11 x12 CC hm, W, st⟩
theorem Wk.putFN (X : Wk b p l e R s m args below meth c Z EL y bytes maxL ret n0 h0 T h sf cells slots) {a1 : Array Value} {R0 O n d C : String} {index kk : Nat} {ty : FieldType} (w : (Cond.fieldLink y.cls index R0 n d).before a1 Z = true) (via : Via Z R0 O n d) {a : Addr} {v v' old : Value} (F : Fld Z h a O n d old) (E : Exa Z h a C)
    (L : (Cond.lays C O n d).before a1 Z = true ∨ ((Cond.laysFinal C O n d).before a1 Z = true ∧ y.cls = O ∧ y.name = "<init>")) (wi : (Cond.instantiable C kk).before a1 Z = true) (hm : a ∈ sf)
    (hty : parseFieldDescriptor d = some ty) (hn : narrow ty v = v') (hf : fits ty v' = true) {g : JFrame} (hg : g.method = m) {rest : List Value} (hs : g.stack = v :: .ref a :: rest) (hd : decode bytes g.pc = .ok (.putfield index, 3)) :
    ∃ (T' : State) (h' : Heap), Wk b p l e R s m args below meth c Z EL y bytes maxL ret n0 h0 T' h' sf cells slots ∧ Wr h h' a (RoadKit.slotOf Z O n d) v' ∧ ∀ t, Steps p.tables e below (T'.setTop { g with pc := g.pc + 3, stack := rest }) t → Steps p.tables e below (T.setTop g) t := by
  have hd := X.cd hd
  obtain ⟨vm0, k0, locs, a0, x1, rfl, x3, x4, x5, x6, x7, x8, x9, x10, x11, x12, CC⟩ := X
  obtain ⟨T', h', X', e', W, st⟩ := RoadKit.putFN x1 CC.1 (s := s.setVm vm0) x6 x7 w via rfl F E (L.imp id fun q => ⟨q.1, q.2.1, CC.2.2.2.1.trans q.2.2⟩) wi hty hn hf hg hs hd
  exact ⟨T', h', Wk.wr X' e' W x3 x4 x5 x6 x7 x8 x9 x10 x11 x12 CC hm, W, st⟩
theorem Wk.stC (X : Wk b p l e R s m args below meth c Z EL y bytes maxL ret n0 h0 T h sf cells slots) {a : Addr} {k : ClassId} {n : Int32} {vs vs' : List Value} {dv : Value} (F : Arv Z h a k .char n vs dv) (hm : a ∈ sf) {j x x' : Int32} (hj : ¬ j < 0 ∧ j < n) {i : Nat} (hi : j.toNatClampNeg = i) (hl : i < vs.length) (hx : nar .char x = x') (hv : vs.set i (.int x') = vs')
    {g : JFrame} (hg : g.method = m) {rest : List Value} (hs : g.stack = .int x :: .int j :: .ref a :: rest) (hd : decode bytes g.pc = .ok (.castore, 1)) :
    ∃ (T' : State) (h' : Heap), Wk b p l e R s m args below meth c Z EL y bytes maxL ret n0 h0 T' h' sf cells slots ∧ Keep h h' [a] ∧ Arv Z h' a k .char n vs' dv ∧ ∀ t, Steps p.tables e below (T'.setTop { g with pc := g.pc + 1, stack := rest }) t → Steps p.tables e below (T.setTop g) t := by
  have hd := X.cd hd
  obtain ⟨vm0, k0, locs, a0, x1, rfl, x3, x4, x5, x6, x7, x8, x9, x10, x11, x12, CC⟩ := X
  obtain ⟨cl, A, q1, q2, q3, q4, q5⟩ := F
  obtain ⟨T', h', X', e', W, st⟩ := RoadKit.stC x1 CC.1 (s := s.setVm vm0) x6 rfl A (inb_of q2 hj) hg hs hd
  subst hx hv
  exact ⟨T', h', Wk.wr X' e' W x3 x4 x5 x6 x7 x8 x9 x10 x11 x12 CC hm, Keep.of_wr W, Arv.set A q1 q2 q3 q4 q5 (fits_nar_char x) W i hi hl, st⟩
theorem Wk.stB (X : Wk b p l e R s m args below meth c Z EL y bytes maxL ret n0 h0 T h sf cells slots) {a : Addr} {k : ClassId} {n : Int32} {vs vs' : List Value} {dv : Value} (F : Arv Z h a k .byte n vs dv) (hm : a ∈ sf) {j x x' : Int32} (hj : ¬ j < 0 ∧ j < n) {i : Nat} (hi : j.toNatClampNeg = i) (hl : i < vs.length) (hx : x.toInt8.toInt32 = x') (hv : vs.set i (.int x') = vs')
    {g : JFrame} (hg : g.method = m) {rest : List Value} (hs : g.stack = .int x :: .int j :: .ref a :: rest) (hd : decode bytes g.pc = .ok (.bastore, 1)) :
    ∃ (T' : State) (h' : Heap), Wk b p l e R s m args below meth c Z EL y bytes maxL ret n0 h0 T' h' sf cells slots ∧ Keep h h' [a] ∧ Arv Z h' a k .byte n vs' dv ∧ ∀ t, Steps p.tables e below (T'.setTop { g with pc := g.pc + 1, stack := rest }) t → Steps p.tables e below (T.setTop g) t := by
  have hd := X.cd hd
  obtain ⟨vm0, k0, locs, a0, x1, rfl, x3, x4, x5, x6, x7, x8, x9, x10, x11, x12, CC⟩ := X
  obtain ⟨cl, A, q1, q2, q3, q4, q5⟩ := F
  obtain ⟨T', h', X', e', W, st⟩ := RoadKit.stB x1 CC.1 (s := s.setVm vm0) x6 rfl A (inb_of q2 hj) hg hs hd
  subst hx hv
  exact ⟨T', h', Wk.wr X' e' W x3 x4 x5 x6 x7 x8 x9 x10 x11 x12 CC hm, Keep.of_wr W, Arv.set A q1 q2 q3 q4 q5 (fits_nar_byte x) W i hi hl, st⟩
theorem Wk.stI (X : Wk b p l e R s m args below meth c Z EL y bytes maxL ret n0 h0 T h sf cells slots) {a : Addr} {k : ClassId} {n : Int32} {vs vs' : List Value} {dv : Value} (F : Arv Z h a k .int n vs dv) (hm : a ∈ sf) {j x : Int32} (hj : ¬ j < 0 ∧ j < n) {i : Nat} (hi : j.toNatClampNeg = i) (hl : i < vs.length) (hv : vs.set i (.int x) = vs')
    {g : JFrame} (hg : g.method = m) {rest : List Value} (hs : g.stack = .int x :: .int j :: .ref a :: rest) (hd : decode bytes g.pc = .ok (.iastore, 1)) :
    ∃ (T' : State) (h' : Heap), Wk b p l e R s m args below meth c Z EL y bytes maxL ret n0 h0 T' h' sf cells slots ∧ Keep h h' [a] ∧ Arv Z h' a k .int n vs' dv ∧ ∀ t, Steps p.tables e below (T'.setTop { g with pc := g.pc + 1, stack := rest }) t → Steps p.tables e below (T.setTop g) t := by
  have hd := X.cd hd
  obtain ⟨vm0, k0, locs, a0, x1, rfl, x3, x4, x5, x6, x7, x8, x9, x10, x11, x12, CC⟩ := X
  obtain ⟨cl, A, q1, q2, q3, q4, q5⟩ := F
  obtain ⟨T', h', X', e', W, st⟩ := RoadKit.stI x1 CC.1 (s := s.setVm vm0) x6 rfl A (inb_of q2 hj) hg hs hd
  subst hv
  exact ⟨T', h', Wk.wr X' e' W x3 x4 x5 x6 x7 x8 x9 x10 x11 x12 CC hm, Keep.of_wr W, Arv.set A q1 q2 q3 q4 q5 rfl W i hi hl, st⟩
theorem Wk.stR (X : Wk b p l e R s m args below meth c Z EL y bytes maxL ret n0 h0 T h sf cells slots) {a : Addr} {k : ClassId} {n : Int32} {vs vs' : List Value} {dv : Value} {ty : FieldType} (F : Arv Z h a k ty n vs dv) (hm : a ∈ sf) {C : String} (O : Ovr Z k C) {r : Addr} (I : Ins Z h r C true) (hty : ty.isReference = true) (hfit : fits ty (.ref r) = true) {j : Int32} (hj : ¬ j < 0 ∧ j < n) {i : Nat} (hi : j.toNatClampNeg = i) (hl : i < vs.length) (hv : vs.set i (.ref r) = vs')
    {g : JFrame} (hg : g.method = m) {rest : List Value} (hs : g.stack = .ref r :: .int j :: .ref a :: rest) (hd : decode bytes g.pc = .ok (.aastore, 1)) :
    ∃ (T' : State) (h' : Heap), Wk b p l e R s m args below meth c Z EL y bytes maxL ret n0 h0 T' h' sf cells slots ∧ Keep h h' [a] ∧ Arv Z h' a k ty n vs' dv ∧ ∀ t, Steps p.tables e below (T'.setTop { g with pc := g.pc + 1, stack := rest }) t → Steps p.tables e below (T.setTop g) t := by
  have hd := X.cd hd
  obtain ⟨vm0, k0, locs, a0, x1, rfl, x3, x4, x5, x6, x7, x8, x9, x10, x11, x12, CC⟩ := X
  obtain ⟨cl, A, q1, q2, q3, q4, q5⟩ := F
  obtain ⟨T', h', X', e', W, st⟩ := RoadKit.stR x1 CC.1 (s := s.setVm vm0) x6 rfl A (inb_of q2 hj) hty (Sto.ofV A q1 O I) hg hs hd
  subst hv
  exact ⟨T', h', Wk.wr X' e' W x3 x4 x5 x6 x7 x8 x9 x10 x11 x12 CC hm, Keep.of_wr W, Arv.set A q1 q2 q3 q4 q5 hfit W i hi hl, st⟩
theorem Wk.len (X : Wk b p l e R s m args below meth c Z EL y bytes maxL ret n0 h0 T h sf cells slots) {a : Addr} {k : ClassId} {n : Int32} {vs : List Value} {dv : Value} {ty : FieldType} (F : Arv Z h a k ty n vs dv)
    {g : JFrame} (hg : g.method = m) {rest : List Value} (hs : g.stack = .ref a :: rest) (hd : decode bytes g.pc = .ok (.arraylength, 1)) :
    ∀ t, Steps p.tables e below (T.setTop { g with pc := g.pc + 1, stack := .int n :: rest }) t → Steps p.tables e below (T.setTop g) t := by
  have hd := X.cd hd
  obtain ⟨vm0, k0, locs, a0, x1, rfl, x3, x4, x5, x6, x7, x8, x9, x10, x11, x12, CC⟩ := X
  obtain ⟨cl, A, q1, q2, q3, q4, q5⟩ := F
  intro t ht
  refine x1.arraylength CC.1 (cell := cl) A.1 (State.isArrayOf_alike (T := s.setVm vm0) x6.alike A.2.1) (g := g) hg (rest := rest) hs hd _ ?_
  rw [len_of q2 q3]; exact ht
theorem Wk.ldA (X : Wk b p l e R s m args below meth c Z EL y bytes maxL ret n0 h0 T h sf cells slots) {a : Addr} {k : ClassId} {n : Int32} {vs : List Value} {dv : Value} {ty : FieldType} (F : Arv Z h a k ty n vs dv) {j : Int32} (hj : ¬ j < 0 ∧ j < n) {v : Value} (hv : vs.getD j.toNatClampNeg dv = v)
    {i : Instr} (hi : (i = .iaload ∧ ty = .int) ∨ (i = .caload ∧ ty = .char) ∨ (i = .baload ∧ ty = .byte) ∨ (i = .aaload ∧ ty.isReference = true)) {g : JFrame} (hg : g.method = m) {rest : List Value} (hs : g.stack = .int j :: .ref a :: rest) (hd : decode bytes g.pc = .ok (i, 1)) :
    ∀ t, Steps p.tables e below (T.setTop { g with pc := g.pc + 1, stack := v :: rest }) t → Steps p.tables e below (T.setTop g) t := by
  have hd := X.cd hd
  obtain ⟨vm0, k0, locs, a0, x1, rfl, x3, x4, x5, x6, x7, x8, x9, x10, x11, x12, CC⟩ := X
  obtain ⟨cl, A, q1, q2, q3, q4, q5⟩ := F
  intro t ht
  have hin := inb_of q2 hj
  have hA := State.isArrayOf_alike (T := s.setVm vm0) x6.alike A.2.1
  rcases hi with ⟨rfl, rfl⟩ | ⟨rfl, rfl⟩ | ⟨rfl, rfl⟩ | ⟨rfl, hr⟩
  · exact x1.iaload CC.1 (j := j) (v := v) A.1 hA A.2.2 hin (q4.at hin hv) hg hs hd _ ht
  · exact x1.caload CC.1 (j := j) (v := v) A.1 hA A.2.2 hin (q4.at hin hv) hg hs hd _ ht
  · exact x1.baloadBytes CC.1 (j := j) (v := v) A.1 hA A.2.2 hin (q4.at hin hv) hg hs hd _ ht
  · exact x1.aaload CC.1 (j := j) (v := v) A.1 hA hr A.2.2 hin (q4.at hin hv) hg hs hd _ ht
theorem Wk.ldcI (X : Wk b p l e R s m args below meth c Z EL y bytes maxL ret n0 h0 T h sf cells slots) {a1 : Array Value} {index : Nat} {v : Int32} (w : (Cond.constant y.cls index v).before a1 Z = true) {g : JFrame} (hg : g.method = m) (hd : decode bytes g.pc = .ok (.ldc index, 2)) :
    ∀ t, Steps p.tables e below (T.setTop { g with pc := g.pc + 2, stack := .int v :: g.stack }) t → Steps p.tables e below (T.setTop g) t := by
  have hd := X.cd hd
  obtain ⟨vm0, k0, locs, a0, x1, rfl, x3, x4, x5, x6, x7, x8, x9, x10, x11, x12, CC⟩ := X
  exact x1.ldcInt CC.1 x7 (mvT (s := s.setVm vm0) x6 w) hg hd
theorem Wk.ldc2 (X : Wk b p l e R s m args below meth c Z EL y bytes maxL ret n0 h0 T h sf cells slots) {a1 : Array Value} {index : Nat} {v : Int64} (w : (Cond.constantLong y.cls index v).before a1 Z = true) {g : JFrame} (hg : g.method = m) (hd : decode bytes g.pc = .ok (.ldc2_w index, 3)) :
    ∀ t, Steps p.tables e below (T.setTop { g with pc := g.pc + 3, stack := .long v :: g.stack }) t → Steps p.tables e below (T.setTop g) t := by
  have hd := X.cd hd
  obtain ⟨vm0, k0, locs, a0, x1, rfl, x3, x4, x5, x6, x7, x8, x9, x10, x11, x12, CC⟩ := X
  exact x1.ldc2Long CC.1 x7 (mvT (s := s.setVm vm0) x6 w) hg hd
theorem Wk.irem (X : Wk b p l e R s m args below meth c Z EL y bytes maxL ret n0 h0 T h sf cells slots) {x y' : Int32} {g : JFrame} (hg : g.method = m) {rest : List Value} (hs : g.stack = .int y' :: .int x :: rest) (hy : y' ≠ 0) (hd : decode bytes g.pc = .ok (.irem, 1)) :
    ∀ t, Steps p.tables e below (T.setTop { g with pc := g.pc + 1, stack := .int (x % y') :: rest }) t → Steps p.tables e below (T.setTop g) t := by
  have hd := X.cd hd
  obtain ⟨vm0, k0, locs, a0, x1, rfl, x3, x4, x5, x6, x7, x8, x9, x10, x11, x12, CC⟩ := X
  exact fun t ht => iremM x1 CC.1 hg hd hs hy ht
theorem Wk.acmp (X : Wk b p l e R s m args below meth c Z EL y bytes maxL ret n0 h0 T h sf cells slots) {cd : ACond} {x y' : Value} (h1 : x.isRef = true) (h2 : y'.isRef = true) {g : JFrame} (hg : g.method = m) {rest : List Value} {o : Int} {pc0 pc' : Nat} {same : Bool} (hpc : g.pc = pc0) (hd : decode bytes g.pc = .ok (.if_acmp cd o, 3)) (hs : g.stack = y' :: x :: rest) (hq : decide (x = y') = same) (ho : 0 ≤ (pc0 : Int) + o) (hp : pc' = if acV cd same = true then ((pc0 : Int) + o).toNat else pc0 + 3) :
    ∀ t, Steps p.tables e below (T.setTop { g with pc := pc', stack := rest }) t → Steps p.tables e below (T.setTop g) t := by
  have hd := X.cd hd
  obtain ⟨vm0, k0, locs, a0, x1, rfl, x3, x4, x5, x6, x7, x8, x9, x10, x11, x12, CC⟩ := X
  exact fun t ht => Jvm.RoadKit.acmp x1 CC.1 hg h1 h2 hpc hd hs hq ho hp ht
theorem Wk.initO (X : Wk b p l e R s m args below meth c Z EL y bytes maxL ret n0 h0 T h sf cells slots) {a1 : Array Value} {idx : Nat} (w1 : (Cond.methodLink y.cls idx Lib.objectInit).before a1 Z = true) (w2 : (Cond.instanceMethod Lib.objectInit).before a1 Z = true) (w3 : (Cond.code Lib.objectInit ⟨#[0xb1]⟩ 1 none).before a1 Z = true) {g : JFrame} (hg : g.method = m) (hsize : g.locals.size = maxL) {a : Addr} {rest : List Value} (hs : g.stack = .ref a :: rest) (hd : decode bytes g.pc = .ok (.invokespecial idx, 3))
    (hf : 1 ≤ R.frames) {W : Nat} (hW : 2 * g.monitorRoom + (rest.map fun v => v.category).sum ≤ W) (hl : W + 12 ≤ R.locals) :
    ∃ T' : State, Wk b p l e R s m args below meth c Z EL y bytes maxL ret n0 h0 T' h sf cells slots ∧ ∀ t, Steps p.tables e below (T'.setTop { g with pc := g.pc + 3, stack := rest }) t → Steps p.tables e below (T.setTop g) t := by
  have hd := X.cd hd
  obtain ⟨vm0, k0, locs, a0, x1, rfl, x3, x4, x5, x6, x7, x8, x9, x10, x11, x12, CC⟩ := X
  obtain ⟨T', X', e', st⟩ := RoadKit.initO x1 CC.1 (s := s.setVm vm0) x6 x7 w1 w2 w3 rfl hg (hsize.trans CC.2.2.1.symm) hs hd hf hW hl
  exact ⟨T', ⟨vm0, k0, locs, a0, X', e', x3, x4, x5, x6, x7, x8, x9, x10, x11, x12, CC⟩, st⟩
theorem Wk.castY (X : Wk b p l e R s m args below meth c Z EL y bytes maxL ret n0 h0 T h sf cells slots) {a1 : Array Value} {K : String} {index : Nat} (w : (Cond.classLink y.cls index K).before a1 Z = true) {a : Addr} (F : Ins Z h a K true) {g : JFrame} (hg : g.method = m) {rest : List Value} (hs : g.stack = .ref a :: rest) (hd : decode bytes g.pc = .ok (.checkcast index, 3)) :
    ∃ T' : State, Wk b p l e R s m args below meth c Z EL y bytes maxL ret n0 h0 T' h sf cells slots ∧ ∀ t, Steps p.tables e below (T'.setTop { g with pc := g.pc + 3 }) t → Steps p.tables e below (T.setTop g) t := by
  have hd := X.cd hd
  obtain ⟨vm0, k0, locs, a0, x1, rfl, x3, x4, x5, x6, x7, x8, x9, x10, x11, x12, CC⟩ := X
  obtain ⟨T', X', e', st⟩ := RoadKit.castY x1 CC.1 (s := s.setVm vm0) x6 x7 w rfl F hg hs hd
  exact ⟨T', ⟨vm0, k0, locs, a0, X', e', x3, x4, x5, x6, x7, x8, x9, x10, x11, x12, CC⟩, st⟩
theorem Wk.instY (X : Wk b p l e R s m args below meth c Z EL y bytes maxL ret n0 h0 T h sf cells slots) {a1 : Array Value} {K : String} {index : Nat} (w : (Cond.classLink y.cls index K).before a1 Z = true) {a : Addr} (F : Ins Z h a K true) {g : JFrame} (hg : g.method = m) {rest : List Value} (hs : g.stack = .ref a :: rest) (hd : decode bytes g.pc = .ok (.instanceof index, 3)) :
    ∃ T' : State, Wk b p l e R s m args below meth c Z EL y bytes maxL ret n0 h0 T' h sf cells slots ∧ ∀ t, Steps p.tables e below (T'.setTop { g with pc := g.pc + 3, stack := .int 1 :: rest }) t → Steps p.tables e below (T.setTop g) t := by
  have hd := X.cd hd
  obtain ⟨vm0, k0, locs, a0, x1, rfl, x3, x4, x5, x6, x7, x8, x9, x10, x11, x12, CC⟩ := X
  obtain ⟨T', X', e', st⟩ := RoadKit.instY x1 CC.1 (s := s.setVm vm0) x6 x7 w rfl F hg hs hd
  exact ⟨T', ⟨vm0, k0, locs, a0, X', e', x3, x4, x5, x6, x7, x8, x9, x10, x11, x12, CC⟩, st⟩
theorem Wk.instNo (X : Wk b p l e R s m args below meth c Z EL y bytes maxL ret n0 h0 T h sf cells slots) {a1 : Array Value} {K C : String} {index : Nat} (w : (Cond.classLink y.cls index K).before a1 Z = true) {a : Addr} (E : Exa Z h a C) (F : ∃ c t, Z.vm.findClass C = some c ∧ Z.vm.findClass K = some t ∧ Z.vm.assignable c t = false) {g : JFrame} (hg : g.method = m) {rest : List Value} (hs : g.stack = .ref a :: rest) (hd : decode bytes g.pc = .ok (.instanceof index, 3)) :
    ∃ T' : State, Wk b p l e R s m args below meth c Z EL y bytes maxL ret n0 h0 T' h sf cells slots ∧ ∀ t, Steps p.tables e below (T'.setTop { g with pc := g.pc + 3, stack := .int 0 :: rest }) t → Steps p.tables e below (T.setTop g) t := by
  have hd := X.cd hd
  obtain ⟨vm0, k0, locs, a0, x1, rfl, x3, x4, x5, x6, x7, x8, x9, x10, x11, x12, CC⟩ := X
  obtain ⟨T', X', e', st⟩ := RoadKit.instNo x1 CC.1 (s := s.setVm vm0) x6 x7 w rfl E F hg hs hd
  exact ⟨T', ⟨vm0, k0, locs, a0, X', e', x3, x4, x5, x6, x7, x8, x9, x10, x11, x12, CC⟩, st⟩
theorem Wk.instNull (X : Wk b p l e R s m args below meth c Z EL y bytes maxL ret n0 h0 T h sf cells slots) {index : Nat} {g : JFrame} (hg : g.method = m) {rest : List Value} (hs : g.stack = .null :: rest) (hd : decode bytes g.pc = .ok (.instanceof index, 3)) :
    ∀ t, Steps p.tables e below (T.setTop { g with pc := g.pc + 3, stack := .int 0 :: rest }) t → Steps p.tables e below (T.setTop g) t := by
  have hd := X.cd hd
  obtain ⟨vm0, k0, locs, a0, x1, rfl, x3, x4, x5, x6, x7, x8, x9, x10, x11, x12, CC⟩ := X
  exact Stand.instanceofNull x1 CC.1 hg hs hd
/-! ### String constants (a wide walk alone) -/
theorem Wk.ldcS (X : Wk true p l e R s m args below meth c Z EL y bytes maxL ret n0 h0 T h sf cells slots) {a1 : Array Value} {text : String} {index : Nat} (w : (Cond.stringLink y.cls index text).before a1 Z = true) (wS : ∀ a ∈ Bundle.stringAtoms, a.before a1 Z = true)
    {g : JFrame} (hg : g.method = m) (hd : decode bytes g.pc = .ok (.ldc index, 2)) {n : Nat} (hn : 4 * text.toList.length ≤ n) (hbig : n ≤ 536870912) (hc : cells + 2 ≤ R.cells) (hl : slots + (n + 4) ≤ R.slots) :
    ∃ (a : Addr) (T' : State) (h' : Heap), Wk true p l e R s m args below meth c Z EL y bytes maxL ret n0 h0 T' h' sf (cells + 2) (slots + (n + 4)) ∧ Ext h h' ∧ ∀ t, Steps p.tables e below (T'.setTop { g with pc := g.pc + 2, stack := .ref a :: g.stack }) t → Steps p.tables e below (T.setTop g) t := by
  have hd := X.cd hd
  obtain ⟨vm0, k0, locs, a0, x1, rfl, x3, x4, x5, x6, x7, x8, x9, x10, x11, x12, CC⟩ := X
  obtain ⟨a, T', h', k1, X', e', E, hS, hk, hZ, ho, D, -, st⟩ := ldcOH (a0 := a1) (EL := EL) x1 CC.1 x6 x7 w wS rfl x4 x5 (by intro q hq; obtain ⟨t, t1, t2⟩ := x11 q hq; exact ⟨t, by simpa only [Cond.before, Cond.holds, Cond.value] using t1, t2⟩) x9.1 hg hd hn hbig hc hl
  exact ⟨a, T', h', ⟨T'.vm, k1, locs, a0, X', e', fun q => (nomatch q), hS, hk, hZ, ho, x8, x9.trans D, x10.go D, x11, x12.ext E, CC⟩, E, st⟩
theorem Wk.ldcR (X : Wk true p l e R s m args below meth c Z EL y bytes maxL ret n0 h0 T h sf cells slots) {a1 : Array Value} {text : String} {index : Nat} (w : (Cond.stringLink y.cls index text).before a1 Z = true) (wS : ∀ a ∈ Bundle.stringAtoms, a.before a1 Z = true) (hmem : (y.cls, index) ∈ EL)
    {vs : List Value} {z : Int32} (ht : (∀ c ∈ text.toList, c.toNat < 256) ∧ text.toList.map (fun c => Value.int (Jvm.Lit.byteI c.toNat.toUInt16)) = vs) (hz : ¬ z < 0) (hl : z.toNatClampNeg = vs.length)
    {g : JFrame} (hg : g.method = m) (hd : decode bytes g.pc = .ok (.ldc index, 2)) {n : Nat} (hn : 4 * text.toList.length ≤ n) (hbig : n ≤ 536870912) (hc : cells + 2 ≤ R.cells) (hl' : slots + (n + 4) ≤ R.slots) :
    ∃ (a bb : Addr) (k : ClassId) (T' : State) (h' : Heap), Wk true p l e R s m args below meth c Z EL y bytes maxL ret n0 h0 T' h' sf (cells + 2) (slots + (n + 4)) ∧ Ext h h' ∧ Exa Z h' a "java/lang/String" ∧ Fld Z h' a "java/lang/String" "coder" "B" (.int 0) ∧ Fld Z h' a "java/lang/String" "value" "[B" (.ref bb) ∧ Arv Z h' bb k .byte z vs (.int 0) ∧ (∀ x ∈ sf, x ≠ a ∧ x ≠ bb) ∧
      ∀ t, Steps p.tables e below (T'.setTop { g with pc := g.pc + 2, stack := .ref a :: g.stack }) t → Steps p.tables e below (T.setTop g) t := by
  have hd := X.cd hd
  obtain ⟨vm0, k0, locs, a0, x1, rfl, x3, x4, x5, x6, x7, x8, x9, x10, x11, x12, CC⟩ := X
  obtain ⟨a, T', h', k1, bb, k, X', e', E, hS, hk, hZ, ho, F1, F2, F3, F4, -, -, D, -, hne, st⟩ := ldcCH (a0 := a1) (EL := EL) x1 CC.1 x6 x7 w wS rfl x4 x5 (by intro q hq; obtain ⟨t, t1, t2⟩ := x11 q hq; exact ⟨t, by simpa only [Cond.before, Cond.holds, Cond.value] using t1, t2⟩) hmem x9.1 ht hz hl hg hd hn hbig hc hl'
  have S' := x10.go D
  exact ⟨a, bb, k, T', h', ⟨T'.vm, k1, locs, a0, X', e', fun q => (nomatch q), hS, hk, hZ, ho, x8, x9.trans D, S', x11, x12.ext E, CC⟩, E, F1, F2, F3, F4, fun x hx => hne x (S' x hx).2.2, st⟩
end Walk
/-! ### contracts -/
def Ct (l : Launch) (y : MethodName) (bytes : ByteArray) (maxL : Nat) (ret : Option FieldType) (wl : List Cond) (rm : Room) (Z : State) (n0 : Nat) (as' : Array Value) (h : Heap) (ws : List Addr) (Q : Option Value → Heap → Prop) : Prop :=
  MetFree l y (head1 (Cond.code y bytes maxL ret :: wl) rm) (fun a U => a = as' ∧ Z.Warmed39 U.vm ∧ U.heap = h) (fun _ _ _ _ _ => True) (fun _ U o U' => ∃ v L, o = .returned v ∧ (Keep h U'.heap ws ∧ Q v U'.heap ∧ Fr n0 L) ∧ FrameEnd U o U' L rm.cells rm.slots)
def Cw (l : Launch) (y : MethodName) (bytes : ByteArray) (maxL : Nat) (ret : Option FieldType) (wl : List Cond) (rm : Room) (Z : State) (EL : List (String × Nat)) (n0 : Nat) (as' : Array Value) (h : Heap) (ws sv : List Addr) (Q : Option Value → Heap → Prop) : Prop :=
  MetFree l y (head1 (Cond.code y bytes maxL ret :: wl) rm) (fun a U => a = as' ∧ Z.Warmed39 U.vm ∧ U.heap = h ∧ CHv Z EL U.vm h ∧ ∀ x ∈ sv, Safe Z EL U.vm h x) (fun _ _ _ _ _ => True) (fun _ U o U' => ∃ v L, o = .returned v ∧ (Keep h U'.heap ws ∧ Q v U'.heap ∧ Fr n0 L) ∧ CHr Z EL U.vm h U'.vm U'.heap ∧ ReturnedEndW U o U' L rm.cells rm.slots)
section Con
variable {l : Launch} {y : MethodName} {bytes : ByteArray} {maxL : Nat} {ret : Option FieldType} {wl : List Cond} {rm : Room} {Z : State} {EL : List (String × Nat)} {n0 : Nat} {as' : Array Value} {h : Heap} {ws sv : List Addr} {Q : Option Value → Heap → Prop} {a0 : Array Value}
theorem Ct.of_walk (hp : plainFor y = true) (hO : Old Z n0 h) (hws : ∀ x ∈ ws, n0 ≤ x ∧ x < h.size)
    (body : ∀ (p : Program) (e : Env) (s : State) (m : MethodId) (below : List Frame) (meth : Method) (c : Code) (T : State), Wk false p l e rm s m as' below meth c Z [] y bytes maxL ret n0 h T h ws 0 0 → Go p e below (Fi false rm s Z [] n0 h ws Q) (T.setTop (entryFrame m as' maxL))) : Ct l y bytes maxL ret wl rm Z n0 as' h ws Q := by
  refine MetFree.of_bodySF hp hisR ?_
  intro p e s m args below meth c s₁ Bd hml0 hP hK
  obtain ⟨rfl, hZ, hh⟩ := hP
  have X0 : Stand p l e rm s m args below meth c s₁ [] 0 0 := Stand.of_body Bd
  have e0 : s₁.heap = h := by rw [← hh, Bd.state]; rfl
  have H0 : CHv Z [] s.vm h := fun q hq => nomatch hq
  have W0 : Wk false p l e rm s m args below meth c Z [] y bytes maxL ret n0 h s₁ h ws 0 0 :=
    ⟨s.vm, 0, [], #[], X0, e0, fun _ => rfl, (State.WarmedH.refl s).since 0, Nat.zero_le _, hZ, findClass_of_methodNamed Bd.named, Fr.nil n0, CHr.refl H0, fun x hx => ⟨(hws x hx).1, (hws x hx).2, fun B => by obtain ⟨q, hq, -⟩ := B; cases hq⟩, EW.nil, hO, Bd.exec, Bd.bytes, hml0, (name_of_methodNamed Bd.named Bd.method).1, Bd.returns, Bd.notSynchronized⟩
  obtain ⟨t, o, h1, h2, h3, v, L, rfl, K, q, N, A, E⟩ := body p e s m below meth c s₁ W0
  exact ⟨t, _, h1, h2, h3, v, L, rfl, ⟨K, q, N⟩, E⟩
theorem Cw.of_walk (hp : plainFor y = true) (hO : Old Z n0 h) (hE : EW Z a0 EL) (hws : ∀ x ∈ sv, n0 ≤ x ∧ x < h.size)
    (body : ∀ (p : Program) (e : Env) (s : State) (m : MethodId) (below : List Frame) (meth : Method) (c : Code) (T : State), Wk true p l e rm s m as' below meth c Z EL y bytes maxL ret n0 h T h sv 0 0 → Go p e below (Fi true rm s Z EL n0 h ws Q) (T.setTop (entryFrame m as' maxL))) : Cw l y bytes maxL ret wl rm Z EL n0 as' h ws sv Q := by
  refine MetFree.of_bodySF hp hisR ?_
  intro p e s m args below meth c s₁ Bd hml0 hP hK
  obtain ⟨rfl, hZ, hh, H0, hS⟩ := hP
  have X0 : Stand p l e rm s m args below meth c s₁ [] 0 0 := Stand.of_body Bd
  have e0 : s₁.heap = h := by rw [← hh, Bd.state]; rfl
  have W0 : Wk true p l e rm s m args below meth c Z EL y bytes maxL ret n0 h s₁ h sv 0 0 :=
    ⟨s.vm, 0, [], a0, X0, e0, fun _ => rfl, (State.WarmedH.refl s).since 0, Nat.zero_le _, hZ, findClass_of_methodNamed Bd.named, Fr.nil n0, CHr.refl H0, fun x hx => ⟨(hws x hx).1, (hws x hx).2, hS x hx⟩, hE, hO, Bd.exec, Bd.bytes, hml0, (name_of_methodNamed Bd.named Bd.method).1, Bd.returns, Bd.notSynchronized⟩
  obtain ⟨t, o, h1, h2, h3, v, L, rfl, K, q, N, A, E⟩ := body p e s m below meth c s₁ W0
  exact ⟨t, _, h1, h2, h3, v, L, rfl, ⟨K, q, N⟩, A, E⟩
variable {R : Room} {p : Program} {e : Env} {below : List Frame} {s : State} {args : Array Value} {len W : Nat}
def Pay (l : Launch) (R : Room) (p : Program) (e : Env) (below : List Frame) (s : State) (args : Array Value) (Z : State) (n0 : Nat) (y : MethodName) (len W : Nat) (as' : Array Value) (h : Heap) (kc ks : Nat) (ws : List Addr) (Q : Option Value → Heap → Prop) : Prop :=
  ∀ vm0, Z.Warmed39 vm0 → Back l R p e below (s.setVm vm0) args y len W (fun A a => a = as' ∧ A.U.heap = h ∧ A.cells + kc ≤ R.cells ∧ A.slots + ks ≤ R.slots) (fun A _ v B => ∃ L, (Keep h B.U.heap ws ∧ Q v B.U.heap ∧ Fr n0 L) ∧ B.locs = A.locs ++ L ∧ B.cells = A.cells + kc ∧ B.slots = A.slots + ks)
def PayW (l : Launch) (R : Room) (p : Program) (e : Env) (below : List Frame) (s : State) (args : Array Value) (Z : State) (EL : List (String × Nat)) (n0 : Nat) (y : MethodName) (len W : Nat) (as' : Array Value) (h : Heap) (kc ks : Nat) (ws sv : List Addr) (Q : Option Value → Heap → Prop) : Prop :=
  ∀ vm0, Z.Warmed39 vm0 → CHv Z EL vm0 h → (∀ x ∈ sv, x < h.size ∧ Safe Z EL vm0 h x) → BackS l R p e below (s.setVm vm0) args y len W (fun A a => a = as' ∧ A.U.heap = h ∧ A.cells + kc ≤ R.cells ∧ A.slots + ks ≤ R.slots) (fun A _ v B => ∃ L, (Keep h B.U.heap ws ∧ Q v B.U.heap ∧ Fr n0 L) ∧ B.locs = A.locs ++ L ∧ B.cells = A.cells + kc ∧ B.slots = A.slots + ks ∧ CHr Z EL vm0 h B.U.vm B.U.heap)
theorem Ct.pay (hM : Ct l y bytes maxL ret [] rm Z n0 as' h ws Q) (wc : (Cond.code y bytes maxL ret).before a0 Z = true) (wz : (Cond.initialized y.cls).before a0 Z = true) (hf : rm.frames + 1 ≤ R.frames) (hl : W + (maxL + 11) + rm.locals ≤ R.locals) :
    Pay l R p e below s args Z n0 y len W as' h rm.cells rm.slots ws Q := fun vm0 hZ => backOf (s := s.setVm vm0) (Q := fun v h' L => Keep h h' ws ∧ Q v h' ∧ Fr n0 L) hM hZ wc wz hf hl
theorem Cw.pay (hM : Cw l y bytes maxL ret [] rm Z EL n0 as' h ws sv Q) (wc : (Cond.code y bytes maxL ret).before a0 Z = true) (wz : (Cond.initialized y.cls).before a0 Z = true) (hE : EW Z a0 EL) (hf : rm.frames + 1 ≤ R.frames) (hl : W + (maxL + 11) + rm.locals ≤ R.locals) :
    PayW l R p e below s args Z EL n0 y len W as' h rm.cells rm.slots ws sv Q := fun vm0 hZ H hS =>
  BackS.of_freeW (bytes := bytes) (maxL := maxL) (ret := ret) (E := fun _ first o t L k n => k = rm.cells ∧ n = rm.slots ∧ (∃ v, o = .returned v ∧ (Keep h t.heap ws ∧ Q v t.heap ∧ Fr n0 L)) ∧ CHr Z EL first.vm h t.vm t.heap) hM hf hl
    (fun m meth c A a Y hp => by
      have hU : Z.Warmed39 A.U.vm := wtrans (s := s.setVm vm0) hZ Y.warmed
      exact ⟨by show (Cond.and _ .tt).before a A.U = true; rw [Cond.before_and, mv hU wc]; rfl, mv hU wc, mv hU wz, hp.2.2.1, hp.2.2.2⟩)
    (fun m meth c A a g mk Y hp => by
      have q := CHv.at Y hZ hE H
      exact ⟨hp.1, wtrans (s := s.setVm vm0) hZ Y.warmed, hp.2.1, q.1, fun x hx => q.safe (hS x hx).1 (hS x hx).2⟩)
    (fun _ _ _ _ _ _ _ _ _ => trivial)
    (fun _ _ _ _ ⟨v, L, h1, h2, h3, h4⟩ => ⟨L, _, _, h4, rfl, rfl, ⟨v, h1, h2⟩, h3⟩)
    (fun m meth c A a g mk v t L k n Y hp _ _ ⟨e1, e2, ⟨v', e3, e4⟩, e5⟩ => by
      cases e3; subst e1 e2
      exact ⟨L, e4, rfl, rfl, rfl, (CHv.at Y hZ hE H).trans e5⟩)
end Con
/-! ### calls -/
section Calls
variable {b : Bool} {p : Program} {l : Launch} {e : Env} {R : Room} {s : State} {m : MethodId} {args : Array Value} {below : List Frame} {meth : Method} {c : Code} {Z : State} {EL : List (String × Nat)} {y : MethodName} {bytes : ByteArray} {maxL : Nat} {ret : Option FieldType} {n0 : Nat} {h0 : Heap} {T : State} {h h' : Heap} {sf ws sv : List Addr} {cells slots : Nat} {a1 : Array Value} {Q : Option Value → Heap → Prop} {y' z' : MethodName} {index W kc ks : Nat} {as' : Array Value}
theorem Wk.aftN {vm0 : Vm} {k0 : Nat} {locs : List Loc} {a0 : Array Value} {v : Option Value} {B : Pt} (X' : Stand p l e R (s.setVm vm0) m args below meth c B.U B.locs B.cells B.slots) (po : ∃ L, (Keep h B.U.heap ws ∧ Q v B.U.heap ∧ Fr n0 L) ∧ B.locs = locs ++ L ∧ B.cells = cells + kc ∧ B.slots = slots + ks)
    (x3 : b = false → vm0 = s.vm) (x4 : s.Since vm0 k0) (x5 : k0 ≤ h.size) (x6 : Z.Warmed39 vm0) (x7 : vm0.findClass y.cls = some m.cls) (x8 : Fr n0 locs) (x9 : CHr Z EL s.vm h0 vm0 h) (x10 : Sfs Z EL n0 vm0 h sf) (x11 : EW Z a0 EL) (x12 : Old Z n0 h) (C : Cst p meth c y bytes maxL ret) (hm : ∀ x ∈ ws, x ∈ sf) :
    Wk b p l e R s m args below meth c Z EL y bytes maxL ret n0 h0 B.U B.U.heap sf (cells + kc) (slots + ks) ∧ Keep h B.U.heap ws ∧ Q v B.U.heap := by
  obtain ⟨L, ⟨K, q, N⟩, l1, l2, l3⟩ := po
  have D : CHr Z EL vm0 h vm0 B.U.heap := CHr.keep K (fun x hx => (x10 x (hm x hx)).2.2) x9.1
  rw [l1, l2, l3] at X'
  exact ⟨⟨vm0, k0, _, a0, X', rfl, x3, x4, Nat.le_trans x5 K.1, x6, x7, x8.app N, x9.trans D, x10.go D, x11, x12.keep K (fun x hx => (x10 x (hm x hx)).1), C⟩, K, q⟩
theorem Wk.aftW {vm0 : Vm} {k0 : Nat} {locs : List Loc} {a0 : Array Value} {v : Option Value} {B : Pt} (X' : Stand p l e R ((s.setVm vm0).setVm B.U.vm) m args below meth c B.U B.locs B.cells B.slots) (hS : (s.setVm vm0).Since B.U.vm B.U.heap.size) (po : ∃ L, (Keep h B.U.heap ws ∧ Q v B.U.heap ∧ Fr n0 L) ∧ B.locs = locs ++ L ∧ B.cells = cells + kc ∧ B.slots = slots + ks ∧ CHr Z EL vm0 h B.U.vm B.U.heap)
    (x4 : s.Since vm0 k0) (x5 : k0 ≤ h.size) (x6 : Z.Warmed39 vm0) (x7 : vm0.findClass y.cls = some m.cls) (x8 : Fr n0 locs) (x9 : CHr Z EL s.vm h0 vm0 h) (x10 : Sfs Z EL n0 vm0 h sf) (x11 : EW Z a0 EL) (x12 : Old Z n0 h) (C : Cst p meth c y bytes maxL ret) (hm : ∀ x ∈ ws, x ∈ sf) :
    Wk true p l e R s m args below meth c Z EL y bytes maxL ret n0 h0 B.U B.U.heap sf (cells + kc) (slots + ks) ∧ Keep h B.U.heap ws ∧ Q v B.U.heap := by
  obtain ⟨L, ⟨K, q, N⟩, l1, l2, l3, D⟩ := po
  rw [l1, l2, l3] at X'
  have hk : k0 ≤ B.U.heap.size := Nat.le_trans x5 K.1
  exact ⟨⟨B.U.vm, _, _, a0, X', rfl, fun q => (by cases q), x4.trans hS hk, Nat.le_refl _, State.Warmed39.trans (t := s.setVm vm0) x6 hS.1, (hS.1.alike.findClass _ _).trans x7, x8.app N, x9.trans D, x10.go D, x11, x12.keep K (fun x hx => (x10 x (hm x hx)).1), C⟩, K, q⟩
theorem Wk.spN (X : Wk b p l e R s m args below meth c Z EL y bytes maxL ret n0 h0 T h sf cells slots) (hy1 : y'.name = "<init>") (w1 : (Cond.methodLink y.cls index y').before a1 Z = true) (w2 : (Cond.instanceMethod y').before a1 Z = true) {bytes' : ByteArray} {maxL' : Nat} (w3 : (Cond.code y' bytes' maxL' none).before a1 Z = true) (hy : y'.cls ≠ "java/lang/invoke/MethodHandle" ∧ y'.cls ≠ "java/lang/invoke/VarHandle")
    (hK : Pay l R p e below s args Z n0 y' 3 W as' h kc ks ws Q) (hm : ∀ x ∈ ws, x ∈ sf) {g : JFrame} (hg : g.method = m) (hsize : g.locals.size = maxL) {a : Addr} {argsL rest : List Value} (hlen : ∀ sig, parseMethodDescriptor y'.desc = some sig → argsL.length = sig.parameters.length) (hstack : g.stack = argsL.reverse ++ .ref a :: rest) (hW : 2 * g.monitorRoom + (rest.map fun v => v.category).sum ≤ W)
    (hd : decode bytes g.pc = .ok (.invokespecial index, 3)) (ha : (.ref a :: argsL).toArray = as') (hc : cells + kc ≤ R.cells) (hs : slots + ks ≤ R.slots) :
    ∃ (v : Option Value) (T' : State) (h' : Heap), Wk b p l e R s m args below meth c Z EL y bytes maxL ret n0 h0 T' h' sf (cells + kc) (slots + ks) ∧ Keep h h' ws ∧ Q v h' ∧ Steps p.tables e below (T.setTop g) (T'.setTop { g with pc := g.pc + 3, stack := v.toList ++ rest }) := by
  have hd := X.cd hd
  obtain ⟨vm0, k0, locs, a0, x1, rfl, x3, x4, x5, x6, x7, x8, x9, x10, x11, x12, CC⟩ := X
  obtain ⟨v, vm₁, B, hW1, X', po, st⟩ := x1.specialBack CC.1 hy1 x7 (mvT (s := s.setVm vm0) x6 w1) (mvT (s := s.setVm vm0) x6 w2) (mvT (s := s.setVm vm0) x6 w3) hy (hK vm0 x6) hg (hsize.trans CC.2.2.1.symm) (Steps.refl _) hlen hstack hW hd (fun _ _ => ⟨ha, rfl, hc, hs⟩)
  obtain ⟨q1, q2, q3⟩ := Wk.aftN X' po x3 x4 x5 x6 x7 x8 x9 x10 x11 x12 CC hm
  exact ⟨v, _, _, q1, q2, q3, st⟩
theorem Wk.spW (X : Wk true p l e R s m args below meth c Z EL y bytes maxL ret n0 h0 T h sf cells slots) (hy1 : y'.name = "<init>") (w1 : (Cond.methodLink y.cls index y').before a1 Z = true) (w2 : (Cond.instanceMethod y').before a1 Z = true) {bytes' : ByteArray} {maxL' : Nat} (w3 : (Cond.code y' bytes' maxL' none).before a1 Z = true) (hy : y'.cls ≠ "java/lang/invoke/MethodHandle" ∧ y'.cls ≠ "java/lang/invoke/VarHandle")
    (hK : PayW l R p e below s args Z EL n0 y' 3 W as' h kc ks ws sv Q) (hm : ∀ x ∈ ws, x ∈ sf) (hv : ∀ x ∈ sv, x ∈ sf) {g : JFrame} (hg : g.method = m) (hsize : g.locals.size = maxL) {a : Addr} {argsL rest : List Value} (hlen : ∀ sig, parseMethodDescriptor y'.desc = some sig → argsL.length = sig.parameters.length) (hstack : g.stack = argsL.reverse ++ .ref a :: rest) (hW : 2 * g.monitorRoom + (rest.map fun v => v.category).sum ≤ W)
    (hd : decode bytes g.pc = .ok (.invokespecial index, 3)) (ha : (.ref a :: argsL).toArray = as') (hc : cells + kc ≤ R.cells) (hs : slots + ks ≤ R.slots) :
    ∃ (v : Option Value) (T' : State) (h' : Heap), Wk true p l e R s m args below meth c Z EL y bytes maxL ret n0 h0 T' h' sf (cells + kc) (slots + ks) ∧ Keep h h' ws ∧ Q v h' ∧ Steps p.tables e below (T.setTop g) (T'.setTop { g with pc := g.pc + 3, stack := v.toList ++ rest }) := by
  have hd := X.cd hd
  obtain ⟨vm0, k0, locs, a0, x1, rfl, x3, x4, x5, x6, x7, x8, x9, x10, x11, x12, CC⟩ := X
  obtain ⟨v, vm₁, B, hW1, X', hS, -, po, st⟩ := x1.specialBackS CC.1 hy1 x7 (mvT (s := s.setVm vm0) x6 w1) (mvT (s := s.setVm vm0) x6 w2) (mvT (s := s.setVm vm0) x6 w3) hy (hK vm0 x6 x9.1 (fun x hx => (x10 x (hv x hx)).2)) hg (hsize.trans CC.2.2.1.symm) (Steps.refl _) hlen hstack hW hd (fun _ _ => ⟨ha, rfl, hc, hs⟩)
  obtain ⟨q1, q2, q3⟩ := Wk.aftW X' hS po x4 x5 x6 x7 x8 x9 x10 x11 x12 CC hm
  exact ⟨v, _, _, q1, q2, q3, st⟩
theorem Wk.stN (X : Wk b p l e R s m args below meth c Z EL y bytes maxL ret n0 h0 T h sf cells slots) (w1 : (Cond.methodLink y.cls index y').before a1 Z = true) (w2 : (Cond.static y').before a1 Z = true) (wz : (Cond.initialized y'.cls).before a1 Z = true) {bytes' : ByteArray} {maxL' : Nat} {ret' : Option FieldType} (w3 : (Cond.code y' bytes' maxL' ret').before a1 Z = true) (hy : y'.cls ≠ "java/lang/invoke/MethodHandle" ∧ y'.cls ≠ "java/lang/invoke/VarHandle")
    (hK : Pay l R p e below s args Z n0 y' 3 W as' h kc ks ws Q) (hm : ∀ x ∈ ws, x ∈ sf) {g : JFrame} (hg : g.method = m) (hsize : g.locals.size = maxL) {argsL rest : List Value} (hlen : ∀ sig, parseMethodDescriptor y'.desc = some sig → argsL.length = sig.parameters.length) (hstack : g.stack = argsL.reverse ++ rest) (hW : 2 * g.monitorRoom + (rest.map fun v => v.category).sum ≤ W)
    (hd : decode bytes g.pc = .ok (.invokestatic index, 3)) (ha : argsL.toArray = as') (hc : cells + kc ≤ R.cells) (hs : slots + ks ≤ R.slots) :
    ∃ (v : Option Value) (T' : State) (h' : Heap), Wk b p l e R s m args below meth c Z EL y bytes maxL ret n0 h0 T' h' sf (cells + kc) (slots + ks) ∧ Keep h h' ws ∧ Q v h' ∧ Steps p.tables e below (T.setTop g) (T'.setTop { g with pc := g.pc + 3, stack := v.toList ++ rest }) := by
  have hd := X.cd hd
  obtain ⟨vm0, k0, locs, a0, x1, rfl, x3, x4, x5, x6, x7, x8, x9, x10, x11, x12, CC⟩ := X
  obtain ⟨v, vm₁, B, hW1, X', po, st⟩ := Jvm.LawKit.callS x1 CC.1 x7 (mvT (s := s.setVm vm0) x6 w1) (mvT (s := s.setVm vm0) x6 w2) (mvT (s := s.setVm vm0) x6 wz) (mvT (s := s.setVm vm0) x6 w3) hy (hK vm0 x6) hg (hsize.trans CC.2.2.1.symm) hlen hstack hW hd (fun _ _ => ⟨ha, rfl, hc, hs⟩)
  obtain ⟨q1, q2, q3⟩ := Wk.aftN X' po x3 x4 x5 x6 x7 x8 x9 x10 x11 x12 CC hm
  exact ⟨v, _, _, q1, q2, q3, st _ (Steps.refl _)⟩
theorem Wk.stW (X : Wk true p l e R s m args below meth c Z EL y bytes maxL ret n0 h0 T h sf cells slots) (w1 : (Cond.methodLink y.cls index y').before a1 Z = true) (w2 : (Cond.static y').before a1 Z = true) (wz : (Cond.initialized y'.cls).before a1 Z = true) {bytes' : ByteArray} {maxL' : Nat} {ret' : Option FieldType} (w3 : (Cond.code y' bytes' maxL' ret').before a1 Z = true) (hy : y'.cls ≠ "java/lang/invoke/MethodHandle" ∧ y'.cls ≠ "java/lang/invoke/VarHandle")
    (hK : PayW l R p e below s args Z EL n0 y' 3 W as' h kc ks ws sv Q) (hm : ∀ x ∈ ws, x ∈ sf) (hv : ∀ x ∈ sv, x ∈ sf) {g : JFrame} (hg : g.method = m) (hsize : g.locals.size = maxL) {argsL rest : List Value} (hlen : ∀ sig, parseMethodDescriptor y'.desc = some sig → argsL.length = sig.parameters.length) (hstack : g.stack = argsL.reverse ++ rest) (hW : 2 * g.monitorRoom + (rest.map fun v => v.category).sum ≤ W)
    (hd : decode bytes g.pc = .ok (.invokestatic index, 3)) (ha : argsL.toArray = as') (hc : cells + kc ≤ R.cells) (hs : slots + ks ≤ R.slots) :
    ∃ (v : Option Value) (T' : State) (h' : Heap), Wk true p l e R s m args below meth c Z EL y bytes maxL ret n0 h0 T' h' sf (cells + kc) (slots + ks) ∧ Keep h h' ws ∧ Q v h' ∧ Steps p.tables e below (T.setTop g) (T'.setTop { g with pc := g.pc + 3, stack := v.toList ++ rest }) := by
  have hd := X.cd hd
  obtain ⟨vm0, k0, locs, a0, x1, rfl, x3, x4, x5, x6, x7, x8, x9, x10, x11, x12, CC⟩ := X
  obtain ⟨v, vm₁, B, hW1, X', hS, -, po, st⟩ := callSS x1 CC.1 x7 (mvT (s := s.setVm vm0) x6 w1) (mvT (s := s.setVm vm0) x6 w2) (mvT (s := s.setVm vm0) x6 wz) (mvT (s := s.setVm vm0) x6 w3) hy (hK vm0 x6 x9.1 (fun x hx => (x10 x (hv x hx)).2)) hg (hsize.trans CC.2.2.1.symm) hlen hstack hW hd (fun _ _ => ⟨ha, rfl, hc, hs⟩)
  obtain ⟨q1, q2, q3⟩ := Wk.aftW X' hS po x4 x5 x6 x7 x8 x9 x10 x11 x12 CC hm
  exact ⟨v, _, _, q1, q2, q3, st⟩
theorem Wk.viN (X : Wk b p l e R s m args below meth c Z EL y bytes maxL ret n0 h0 T h sf cells slots) {C : String} (w1 : (Cond.methodLink y.cls index y').before a1 Z = true) (w2 : (Cond.declares y').before a1 Z = true) (w3 : (Cond.selects C y' y').before a1 Z = true) (w4 : (Cond.instanceMethod y').before a1 Z = true) (hy : y'.cls ≠ "java/lang/invoke/MethodHandle" ∧ y'.cls ≠ "java/lang/invoke/VarHandle")
    (hK : Pay l R p e below s args Z n0 y' 3 W as' h kc ks ws Q) (hm : ∀ x ∈ ws, x ∈ sf) {a : Addr} (E : Exa Z h a C) {g : JFrame} (hg : g.method = m) (hsize : g.locals.size = maxL) {argsL rest : List Value} (hlen : ∀ sig, parseMethodDescriptor y'.desc = some sig → argsL.length = sig.parameters.length) (hstack : g.stack = argsL.reverse ++ .ref a :: rest) (hW : 2 * g.monitorRoom + (rest.map fun v => v.category).sum ≤ W)
    (hd : decode bytes g.pc = .ok (.invokevirtual index, 3)) (ha : (.ref a :: argsL).toArray = as') (hc : cells + kc ≤ R.cells) (hs : slots + ks ≤ R.slots) :
    ∃ (v : Option Value) (T' : State) (h' : Heap), Wk b p l e R s m args below meth c Z EL y bytes maxL ret n0 h0 T' h' sf (cells + kc) (slots + ks) ∧ Keep h h' ws ∧ Q v h' ∧ Steps p.tables e below (T.setTop g) (T'.setTop { g with pc := g.pc + 3, stack := v.toList ++ rest }) := by
  have hd := X.cd hd
  obtain ⟨vm0, k0, locs, a0, x1, rfl, x3, x4, x5, x6, x7, x8, x9, x10, x11, x12, CC⟩ := X
  obtain ⟨cq, kq, q1, q2, q3⟩ := isOf (s := s.setVm vm0) (T := T) x6 rfl E
  obtain ⟨v, vm₁, B, hW1, X', po, st⟩ := x1.virtualBack CC.1 x7 (mvT (s := s.setVm vm0) x6 w1) (mvT (s := s.setVm vm0) x6 w2) (notFace_of_selects (args := #[]) (mvT (s := s.setVm vm0) x6 w3)) (mvT (s := s.setVm vm0) x6 w3) (mvT (s := s.setVm vm0) x6 w4) hy (hK vm0 x6) q1 q3 hg (hsize.trans CC.2.2.1.symm) (Steps.refl _) hlen hstack hW hd (fun _ _ => ⟨ha, rfl, hc, hs⟩)
  obtain ⟨q1, q2, q3⟩ := Wk.aftN X' po x3 x4 x5 x6 x7 x8 x9 x10 x11 x12 CC hm
  exact ⟨v, _, _, q1, q2, q3, st⟩
theorem Wk.viW (X : Wk true p l e R s m args below meth c Z EL y bytes maxL ret n0 h0 T h sf cells slots) {C : String} (w1 : (Cond.methodLink y.cls index y').before a1 Z = true) (w2 : (Cond.declares y').before a1 Z = true) (w3 : (Cond.selects C y' y').before a1 Z = true) (w4 : (Cond.instanceMethod y').before a1 Z = true) (hy : y'.cls ≠ "java/lang/invoke/MethodHandle" ∧ y'.cls ≠ "java/lang/invoke/VarHandle")
    (hK : PayW l R p e below s args Z EL n0 y' 3 W as' h kc ks ws sv Q) (hm : ∀ x ∈ ws, x ∈ sf) (hv : ∀ x ∈ sv, x ∈ sf) {a : Addr} (E : Exa Z h a C) {g : JFrame} (hg : g.method = m) (hsize : g.locals.size = maxL) {argsL rest : List Value} (hlen : ∀ sig, parseMethodDescriptor y'.desc = some sig → argsL.length = sig.parameters.length) (hstack : g.stack = argsL.reverse ++ .ref a :: rest) (hW : 2 * g.monitorRoom + (rest.map fun v => v.category).sum ≤ W)
    (hd : decode bytes g.pc = .ok (.invokevirtual index, 3)) (ha : (.ref a :: argsL).toArray = as') (hc : cells + kc ≤ R.cells) (hs : slots + ks ≤ R.slots) :
    ∃ (v : Option Value) (T' : State) (h' : Heap), Wk true p l e R s m args below meth c Z EL y bytes maxL ret n0 h0 T' h' sf (cells + kc) (slots + ks) ∧ Keep h h' ws ∧ Q v h' ∧ Steps p.tables e below (T.setTop g) (T'.setTop { g with pc := g.pc + 3, stack := v.toList ++ rest }) := by
  have hd := X.cd hd
  obtain ⟨vm0, k0, locs, a0, x1, rfl, x3, x4, x5, x6, x7, x8, x9, x10, x11, x12, CC⟩ := X
  obtain ⟨cq, kq, q1, q2, q3⟩ := isOf (s := s.setVm vm0) (T := T) x6 rfl E
  obtain ⟨v, vm₁, B, hW1, X', hS, -, po, st⟩ := x1.virtualBackS CC.1 x7 (mvT (s := s.setVm vm0) x6 w1) (mvT (s := s.setVm vm0) x6 w2) (notFace_of_selects (args := #[]) (mvT (s := s.setVm vm0) x6 w3)) (mvT (s := s.setVm vm0) x6 w3) (mvT (s := s.setVm vm0) x6 w4) hy (hK vm0 x6 x9.1 (fun x hx => (x10 x (hv x hx)).2)) q1 q3 hg (hsize.trans CC.2.2.1.symm) (Steps.refl _) hlen hstack hW hd (fun _ _ => ⟨ha, rfl, hc, hs⟩)
  obtain ⟨q1, q2, q3⟩ := Wk.aftW X' hS po x4 x5 x6 x7 x8 x9 x10 x11 x12 CC hm
  exact ⟨v, _, _, q1, q2, q3, st⟩
end Calls
end OK
end Jvm.Pilot.@@N@@
namespace Jvm.Pilot.@@N@@
namespace OK
open Jvm Jvm.ClassFile Sem Op Lib Bundle Jvm.Stand Jvm.Free Jvm.LawKit Jvm.RoadKit
theorem ne_new {b a n : Nat} (l : b < n) (g : a = n) : b ≠ a := by omega
theorem ne_ge {b t n : Nat} (l : b < n) (g : n ≤ t) : b ≠ t := by omega
theorem own_nar_ref {v : Value} (hv : v.isRef = true) {t : FieldType} (ht : t.isReference = true) : narrow t v = v := by cases v <;> simp [Value.isRef] at hv <;> cases t <;> rfl
theorem own_fit_ref {v : Value} (hv : v.isRef = true) {t : FieldType} (ht : t.isReference = true) : fits t v = true := by cases v <;> simp [Value.isRef] at hv <;> cases t <;> simp [FieldType.isReference] at ht <;> rfl
theorem up255 (cs : List Int32) (h : ∀ c ∈ cs, ¬ c < 0 ∧ ¬ (255 : Int32) < c) : ∀ c ∈ cs, ¬ c < 0 ∧ ¬ (65535 : Int32) < c := fun c hc => ⟨(h c hc).1, fun q => (h c hc).2 (by rw [Int32.lt_iff_toInt_lt] at q ⊢; have e1 : (65535 : Int32).toInt = 65535 := rfl; have e2 : (255 : Int32).toInt = 255 := rfl; omega)⟩
theorem and255 (x : Int32) : ¬ (x &&& (255 : Int32)) < 0 ∧ ¬ (255 : Int32) < (x &&& (255 : Int32)) := by
  have t : ∀ k : Fin 256, ¬ (Int32.ofNat k.val) < 0 ∧ ¬ (255 : Int32) < (Int32.ofNat k.val) := by decide +kernel
  have h : (x &&& 255).toBitVec.toNat < 256 := by
    simp only [Int32.toBitVec_and, BitVec.toNat_and]
    exact Nat.lt_succ_of_le Nat.and_le_right
  have e : (x &&& 255) = Int32.ofNat (x &&& 255).toBitVec.toNat := by
    apply Int32.toBitVec_inj.mp
    show _ = BitVec.ofNat 32 _
    rw [BitVec.ofNat_toNat]; simp
  rw [e]
  exact t ⟨_, h⟩
theorem c255 (x : Int32) : ¬ (x &&& (255 : Int32)).toUInt32.toUInt16.toUInt32.toInt32 < 0 ∧ ¬ (255 : Int32) < (x &&& (255 : Int32)).toUInt32.toUInt16.toUInt32.toInt32 := by rw [i2c_mask]; exact and255 x
theorem nar_i2c (x : Int32) : nar .char x.toUInt32.toUInt16.toUInt32.toInt32 = x.toUInt32.toUInt16.toUInt32.toInt32 := by simp only [nar, UInt32.toUInt32_toInt32, UInt16.toUInt16_toUInt32]
theorem i2b_idem (c : Int32) : c.toInt8.toInt32.toInt8.toInt32 = c.toInt8.toInt32 := by simp
theorem all1 {P : Int32 → Prop} {a : Int32} {L : List Int32} (q : P a) (r : ∀ x ∈ L, P x) : ∀ x ∈ a :: L, P x := fun x z => (List.mem_cons.mp z).elim (fun u => u ▸ q) (r x)
theorem alln {P : Int32 → Prop} : ∀ x ∈ ([] : List Int32), P x := fun _ q => nomatch q
theorem z01_no {A B : Prop} {r : Int32} (h : (r = 1 ∧ A) ∨ (r = 0 ∧ B)) (z : r = 0) : B := by
  rcases h with ⟨q, _⟩ | ⟨_, q⟩
  · rw [z] at q; exact absurd q (by decide)
  · exact q
theorem z01_yes {A B : Prop} {r : Int32} (h : (r = 1 ∧ A) ∨ (r = 0 ∧ B)) (z : ¬ r = 0) : A := by
  rcases h with ⟨_, q⟩ | ⟨q, _⟩
  · exact q
  · exact absurd q z
theorem z01_b {A B : Prop} {p : Int32} (h : (p = 1 ∧ A) ∨ (p = 0 ∧ B)) : nar .boolean p = p := by rcases h with ⟨rfl, _⟩ | ⟨rfl, _⟩ <;> rfl
theorem z01_eq {A B : Prop} {r q : Int32} (h : A ↔ B) (h1 : (r = 1 ∧ A) ∨ (r = 0 ∧ ¬ A)) (h2 : (q = 1 ∧ B) ∨ (q = 0 ∧ ¬ B)) : r = q := by
  rcases h1 with ⟨rfl, a⟩ | ⟨rfl, a⟩ <;> rcases h2 with ⟨rfl, b⟩ | ⟨rfl, b⟩ <;> first | rfl | exact absurd (h.mp a) b | exact absurd (h.mpr b) a
/-- an object of C, a direct heir of Object, is no K, K another ordinary class -/
theorem notInst {Z : State} {a0 : Array Value} {C K : String} {n : Nat} (w : (Jvm.Cond.superclass C "java/lang/Object").before a0 Z = true) (w0 : (Jvm.Cond.noSuperclass "java/lang/Object").before a0 Z = true) (wi : (Jvm.Cond.instantiable K n).before a0 Z = true) (hn : C ≠ K) (hk : "java/lang/Object" ≠ K) : ∃ c t, Z.vm.findClass C = some c ∧ Z.vm.findClass K = some t ∧ Z.vm.assignable c t = false := by
  obtain ⟨c0, k0, a1, a2, a3, -, -⟩ := Cond.noSuperclass_spec w0
  obtain ⟨t, kt, b1, b2, b3, b4, -⟩ := Cond.instantiable_spec wi
  have ne0 := ids_ne a1 b1 hk
  have N0 : NS Z "java/lang/Object" K := ⟨c0, t, a1, b1, fun fuel => by
    cases fuel with
    | zero => rfl
    | succ f => simp [Vm.isSubclassAux, ne0, a2, a3]⟩
  obtain ⟨c, t', h0, g0, n3⟩ := NS.step w N0 hn
  cases b1.symm.trans g0
  obtain ⟨p, k, kp, h1, h2, h3, h4, h5, -, h7⟩ := Cond.superclass_spec h0 w
  have ne := ids_ne h0 g0 hn
  have b5 : kt.isInterface = false := by cases hq : kt.isInterface <;> simp [hq] at b4 ⊢
  refine ⟨c, t, h0, g0, ?_⟩
  show Z.vm.assignableAux (255 + 1) c t = false
  simp [Vm.assignableAux, ne, h2, b2, h5, b3, b5, Vm.isSubclass, n3]
/-- a String object at x whose byte[] lies at t and that spells cs -/
def Str (Z : State) (h : Heap) (x t : Addr) (cs : List Int32) : Prop := ∃ (kb : ClassId) (cd N : Int32) (vs : List Value), Exa Z h x "java/lang/String" ∧ Fld Z h x "java/lang/String" "value" "[B" (.ref t) ∧ Fld Z h x "java/lang/String" "coder" "B" (.int cd) ∧ Arv Z h t kb .byte N vs (.int 0) ∧ StrChars.Road.CodA cs cd N vs ∧ (∀ c ∈ cs, ¬ c < 0 ∧ ¬ (65535 : Int32) < c) ∧ cs.length ≤ 4000
section Strs
variable {Z : State} {h h' : Heap} {x t : Addr} {cs : List Int32} {ws : List Addr} {n0 : Nat} {a0 : Array Value} {l : Launch} {R : Room} {p : Program} {e : Env} {below : List Frame} {s : State} {args : Array Value} {len W : Nat}
theorem Str.ext (F : Str Z h x t cs) (E : Ext h h') : Str Z h' x t cs := by obtain ⟨kb, cd, N, vs, f1, f2, f3, f4, r⟩ := F; exact ⟨kb, cd, N, vs, f1.ext E, f2.ext E, f3.ext E, f4.ext E, r⟩
theorem Str.keep (F : Str Z h x t cs) (K : Keep h h' ws) (q1 : x ∉ ws) (q2 : t ∉ ws) : Str Z h' x t cs := by obtain ⟨kb, cd, N, vs, f1, f2, f3, f4, r⟩ := F; exact ⟨kb, cd, N, vs, f1.keep K, f2.keep K q1, f3.keep K q1, f4.keep K q2, r⟩
theorem Str.other {a : Addr} {sl : Nat} {v : Value} (F : Str Z h x t cs) (W : Wr h h' a sl v) (q1 : x ≠ a) (q2 : t ≠ a) : Str Z h' x t cs := F.keep (Keep.of_wr W) (ninS q1 nin0) (ninS q2 nin0)
theorem Str.exa (F : Str Z h x t cs) : Exa Z h x "java/lang/String" := by obtain ⟨kb, cd, N, vs, f1, -⟩ := F; exact f1
theorem Str.lt (F : Str Z h x t cs) : x < h.size := F.exa.lt
theorem Str.ltT (F : Str Z h x t cs) : t < h.size := by obtain ⟨kb, cd, N, vs, f1, f2, f3, f4, r⟩ := F; exact f4.lt
theorem Str.lit {kb : ClassId} {N : Int32} {vs : List Value} (f1 : Exa Z h x "java/lang/String") (f3 : Fld Z h x "java/lang/String" "coder" "B" (.int 0)) (f2 : Fld Z h x "java/lang/String" "value" "[B" (.ref t)) (f4 : Arv Z h t kb .byte N vs (.int 0)) (hN : N = Int32.ofNat cs.length) (hv : vs = cs.map fun c => Value.int (StrChars.lo8 c)) (hp : ∀ c ∈ cs, ¬ c < 0 ∧ ¬ (255 : Int32) < c) (hl : cs.length ≤ 4000) : Str Z h x t cs :=
  ⟨kb, 0, N, vs, f1, f2, f3, f4, Or.inl ⟨rfl, hN, hv, fun c hc => (hp c hc).2⟩, up255 cs hp, hl⟩
theorem payNew (hw : ∀ d ∈ StrChars.Road.words, d.before a0 Z = true) (wi : (Jvm.Cond.instantiable "java/lang/String" 4).before a0 Z = true) {bb : Addr} {kC : ClassId} {d v0 c0 : Value} {z N : Int32} {n : Nat} (hO : Old Z n0 h) (hx0 : n0 ≤ x) (E : Exa Z h x "java/lang/String") (V : Fld Z h x "java/lang/String" "value" "[B" v0) (C : Fld Z h x "java/lang/String" "coder" "B" c0) (K : Arv Z h bb kC .char N (cs.map Value.int) d) (S : Sta Z Z.heap "java/lang/String" "COMPACT_STRINGS" "Z" (.int z)) (hz : ¬ z = 0)
    (hn : cs.length = n) (hN : N = Int32.ofNat n) (l0 : 0 < n) (l2 : n ≤ 4000) (hp : ∀ c ∈ cs, ¬ c < 0 ∧ ¬ (255 : Int32) < c) (hfr : 4 ≤ R.frames) (hlo : W + 65 ≤ R.locals) :
    Pay l R p e below s args Z n0 (⟨"java/lang/String", "<init>", "([C)V"⟩ : MethodName) len W #[.ref x, .ref bb] h 1 n [x] (fun v h' => ∃ t : Addr, v = none ∧ h.size ≤ t ∧ t < h'.size ∧ Str Z h' x t cs) := fun vm0 hZ =>
  Back.mono (StrChars.Road.backV (s := s.setVm vm0) hZ hw wi hx0 (by rw [← hO.1]; exact hO.2.1) E V C K (S.ext hO.2) hz hn hN l0 l2 hp rfl hfr hlo) (fun P a hp => hp) (fun P a v B _ hq => by
    obtain ⟨L, ⟨q1, q2, q3, q4, q5, t, kb, t1, t2, t3, q6, q7⟩, hl, hc, hs⟩ := hq
    exact ⟨L, ⟨q3, ⟨t, q1, t2, q7.lt, kb, 0, N, _, q4, q6, q5, q7, hN ▸ StrChars.Road.codOf hn (fun c hc => (hp c hc).2), up255 cs hp, by omega⟩, q2⟩, hl, hc, hs⟩)
end Strs
end OK
end Jvm.Pilot.@@N@@
namespace Jvm.Pilot.@@N@@
namespace OK
open Jvm Jvm.ClassFile Sem Op Lib Bundle Jvm.Stand Jvm.Free Jvm.LawKit Jvm.RoadKit
theorem on_toInt {k : Nat} (h : k ≤ 100000) : (Int32.ofNat k).toInt = k := len_toInt (by omega)
theorem on_lt {a b : Nat} (ha : a ≤ 100000) (hb : b ≤ 100000) : Int32.ofNat a < Int32.ofNat b ↔ a < b := by rw [Int32.lt_iff_toInt_lt, on_toInt ha, on_toInt hb]; omega
theorem on_nn {a : Nat} (ha : a ≤ 100000) : ¬ Int32.ofNat a < 0 := by rw [Int32.lt_iff_toInt_lt, on_toInt ha]; have e : (0 : Int32).toInt = 0 := rfl; omega
theorem on_clamp {a : Nat} (ha : a ≤ 100000) : (Int32.ofNat a).toNatClampNeg = a := by simp only [Int32.toNatClampNeg, on_toInt ha]; omega
theorem on_succ (a : Nat) : Int32.ofNat a + (1 : Int32) = Int32.ofNat (a + 1) := by rw [Int32.ofNat_add]; rfl
theorem on_inj {a b : Nat} (ha : a ≤ 100000) (hb : b ≤ 100000) (h : Int32.ofNat a = Int32.ofNat b) : a = b := by have := congrArg Int32.toInt h; rw [on_toInt ha, on_toInt hb] at this; omega
theorem of255 {x : Int32} (h0 : ¬ x < 0) (h1 : ¬ 255 < x) : ∃ k : Fin 256, x = Int32.ofNat k.val := by
  rw [Int32.lt_iff_toInt_lt] at h0 h1
  have e0 : (0 : Int32).toInt = 0 := rfl
  have e1 : (255 : Int32).toInt = 255 := rfl
  exact ⟨⟨x.toInt.toNat, by omega⟩, by apply Int32.toInt_inj.mp; rw [on_toInt (by show x.toInt.toNat ≤ 100000; omega)]; show x.toInt = (x.toInt.toNat : Int); omega⟩
theorem lo8_back {x : Int32} (h0 : ¬ x < 0) (h1 : ¬ 255 < x) : x.toInt8.toInt32 &&& 255 = x := by
  have t : ∀ k : Fin 256, (Int32.ofNat k.val).toInt8.toInt32 &&& 255 = Int32.ofNat k.val := by decide +kernel
  obtain ⟨k, rfl⟩ := of255 h0 h1
  exact t k
theorem nar255 {x : Int32} (h : ¬ x < 0 ∧ ¬ (255 : Int32) < x) : nar .char x = x := by
  have t : ∀ k : Fin 256, nar .char (Int32.ofNat k.val) = Int32.ofNat k.val := by decide +kernel
  obtain ⟨k, rfl⟩ := of255 h.1 h.2
  exact t k
theorem lo8_inj' {x y : Int32} (h0 : ¬ x < 0) (h1 : ¬ 255 < x) (k0 : ¬ y < 0) (k1 : ¬ 255 < y) (h : x.toInt8.toInt32 = y.toInt8.toInt32) : x = y := by
  rw [← lo8_back h0 h1, ← lo8_back k0 k1, h]
theorem getD_lo8 (cs : List Int32) {k : Nat} (hk : k < cs.length) : (cs.map fun c => Value.int (StrChars.lo8 c)).getD k (.int 0) = .int ((cs.getD k 0).toInt8.toInt32) := by
  simp [List.getD_eq_getElem?_getD, hk, StrChars.lo8]
theorem getD_mem' {cs : List Int32} {k : Nat} (hk : k < cs.length) : cs.getD k 0 ∈ cs := by simp [List.getD_eq_getElem?_getD, hk]
theorem mem_getD' {cs : List Int32} {c : Int32} (h : c ∈ cs) : ∃ k, k < cs.length ∧ cs.getD k 0 = c := by
  obtain ⟨k, hk, e⟩ := List.mem_iff_getElem.mp h
  exact ⟨k, hk, by simp [List.getD_eq_getElem?_getD, hk, e]⟩
theorem nomore {cs : List Int32} {ci : Int32} {kk : Nat} (hno : ∀ j, j < kk → cs.getD j 0 ≠ ci) (hk : cs.getD kk 0 ≠ ci) : ∀ j, j < kk + 1 → cs.getD j 0 ≠ ci := fun j hj => by
  by_cases q : j < kk
  · exact hno j q
  · have z : j = kk := by omega
    subst z; exact hk
section StrL
variable {Z : State} {h h' : Heap} {x t : Addr} {cs : List Int32} {ws : List Addr} {n0 : Nat} {a0 : Array Value} {l : Launch} {R : Room} {p : Program} {e : Env} {below : List Frame} {s : State} {args : Array Value} {len W : Nat}
/-- a Latin-1 String, opened -/
theorem Str.lat (F : Str Z h x t cs) (hp : ∀ c ∈ cs, ¬ (255 : Int32) < c) : ∃ kb : ClassId, Fld Z h x "java/lang/String" "value" "[B" (.ref t) ∧ Fld Z h x "java/lang/String" "coder" "B" (.int (0 : Int32)) ∧ Arv Z h t kb .byte (Int32.ofNat cs.length) (cs.map fun c => Value.int (StrChars.lo8 c)) (.int (0 : Int32)) ∧ cs.length ≤ 4000 := by
  obtain ⟨kb, cd, N, vs, f1, f2, f3, f4, f5, f6, f7⟩ := F
  rcases f5 with ⟨rfl, rfl, rfl, -⟩ | ⟨-, -, -, c, hc, hw⟩
  · exact ⟨kb, f2, f3, f4, f7⟩
  · exact absurd hw (hp c hc)
theorem Str.lenLe (F : Str Z h x t cs) : cs.length ≤ 4000 := by obtain ⟨kb, cd, N, vs, f1, f2, f3, f4, f5, f6, f7⟩ := F; exact f7
end StrL
end OK
end Jvm.Pilot.@@N@@
namespace Jvm.Pilot.@@N@@
namespace OK
open Jvm Jvm.ClassFile Sem Op Lib Bundle Jvm.Stand Jvm.Free Jvm.LawKit Jvm.RoadKit
section StrC
variable {Z : State} {h h' : Heap} {x t : Addr} {cs : List Int32} {ws : List Addr} {n0 : Nat} {a0 : Array Value} {l : Launch} {R : Room} {p : Program} {e : Env} {below : List Frame} {s : State} {args : Array Value} {len W : Nat}
theorem payCh (hw : ∀ d ∈ StrChars.Road.wordsChN, d.before a0 Z = true) (wi : (Jvm.Cond.instantiable "java/lang/String" 4).before a0 Z = true) (hO : Old Z n0 h) {z : Int32} {fm : Value} {i : Nat} (F : Str Z h x t cs) (hp : ∀ c ∈ cs, ¬ (255 : Int32) < c) (S : Sta Z Z.heap "java/lang/String" "COMPACT_STRINGS" "Z" (.int z)) (hz : ¬ z = 0) (G : Sta Z Z.heap "jdk/internal/util/Preconditions" "SIOOBE_FORMATTER" "Ljava/util/function/BiFunction;" fm) (rf : fm.isRef = true) (hi : i < cs.length) (hfr : 4 ≤ R.frames) (hlo : W + 53 ≤ R.locals) :
    Pay l R p e below s args Z n0 (⟨"java/lang/String", "charAt", "(I)C"⟩ : MethodName) len W #[.ref x, .int (Int32.ofNat i)] h 0 0 [] (fun v h' => v = some (.int (cs.getD i 0)) ∧ h = h') := fun vm0 hZ => by
  obtain ⟨kb, f2, f3, f4, f7⟩ := F.lat hp
  obtain ⟨kb', cd, N, vs, f1, g2, g3, g4, g5, g6, -⟩ := F
  refine Back.mono (StrChars.Road.chN (s := s.setVm vm0) hZ hw wi f1 f2 f3 f4 (Or.inl ⟨rfl, rfl, rfl, hp⟩) g6 (S.ext hO.2) hz (G.ext hO.2) rf f7 hi rfl hfr hlo) (fun P a hp => hp) (fun P a v B _ hq => ?_)
  obtain ⟨L, ⟨q1, q2, q3⟩, hl, hc, hs⟩ := hq
  subst q2
  exact ⟨[], ⟨by rw [q3]; exact Keep.refl _ _, ⟨q1, q3.symm⟩, Fr.nil _⟩, hl, hc, hs⟩
end StrC
end OK
end Jvm.Pilot.@@N@@
namespace Jvm.Pilot.@@N@@
open Jvm Jvm.ClassFile Sem Op Lib Jvm.Free Jvm.Stand Jvm.LawKit Jvm.RoadKit Bundle Jvm.Pilot.@@N@@.Jvm.D Jvm.Pilot.@@N@@.OK
theorem own_rem (k : Int32) {n : Int32} {N : Nat} (hn : n.toInt = N) (h0 : 0 < N) : ∃ j, j < N ∧ (k &&& (2147483647 : Int32)) % n = Int32.ofNat j := by
  have h1 : ¬ (k &&& (2147483647 : Int32)) < 0 := fun q => absurd ((XT.and_neg32 _ _).mp q).2 (by decide)
  generalize k &&& (2147483647 : Int32) = x at h1
  rw [Int32.lt_iff_toInt_lt] at h1
  have e0 : (0 : Int32).toInt = 0 := rfl
  rw [e0] at h1
  have h2 : (x % n).toInt = x.toInt % (N : Int) := by rw [Int32.toInt_mod, hn, Int.tmod_eq_emod_of_nonneg (by omega)]
  have h3 := Int.emod_nonneg x.toInt (show (N : Int) ≠ 0 by omega)
  have h4 := Int.emod_lt_of_pos x.toInt (show (0 : Int) < N by omega)
  have h5 := Int32.toInt_lt n
  refine ⟨(x.toInt % (N : Int)).toNat, by omega, Int32.toInt_inj.mp ?_⟩
  rw [h2, show (Int32.ofNat (x.toInt % (N : Int)).toNat).toInt = ((x.toInt % (N : Int)).toNat : Int) from len_toInt (by omega)]; omega
def own_nl (a i o : Int32) : Int32 := if i < o then (if a = 10 then 1 else 0) else 0
def own_ln (cs : List Int32) : Nat → Int32
  | 0 => 1
  | k + 1 => own_ln cs k + (if cs.getD k 0 = 10 then 1 else 0)
theorem own_ln_y {cs : List Int32} {k : Nat} (h : cs.getD k 0 = 10) : own_ln cs k + (1 : Int32) = own_ln cs (k + 1) := by show _ = own_ln cs k + (if cs.getD k 0 = 10 then 1 else 0); rw [if_pos h]
theorem own_ln_n {cs : List Int32} {k : Nat} (h : ¬ cs.getD k 0 = 10) : own_ln cs k = own_ln cs (k + 1) := by show _ = own_ln cs k + (if cs.getD k 0 = 10 then 1 else 0); rw [if_neg h]; simp
theorem own_fin (a b c d e : Int32) {j : Nat} (hj : j < 6) : own_ln [a, b, c, d, e] j = ((((((1 : Int32) + own_nl a (0 : Int32) (Int32.ofNat j)) + own_nl b (1 : Int32) (Int32.ofNat j)) + own_nl c (2 : Int32) (Int32.ofNat j)) + own_nl d (3 : Int32) (Int32.ofNat j)) + own_nl e (4 : Int32) (Int32.ofNat j)) := by
  rcases (show j = 0 ∨ j = 1 ∨ j = 2 ∨ j = 3 ∨ j = 4 ∨ j = 5 by omega) with rfl | rfl | rfl | rfl | rfl | rfl <;> simp +decide [own_ln, own_nl]
theorem ef_rm_ch (m : MethodId) (x0 : Int32) : entryFrame m #[(.int x0)] 1 = mkF m 0 #[.val (.int x0)] [] := by first | (simp [entryFrame, mkF, argsToLocals, Value.category]; done) | rfl
def Q_rm_ch (Z : State) (v : Int32) (h0 : Heap) (ov : Option Value) (hz : Heap) : Prop := ∃ (r : Int32), ov = some (.int r) ∧ h0 = hz ∧ (¬ r < 0 ∧ ¬ (255 : Int32) < r)
theorem pn_0 : plainName "com/example/rivulet/rivulet/SourceLinePinLaw" = true := by first | (simp [plainName, overriddenIn]; done) | decide +kernel
theorem d_method_2_0 : decode method_2_code 0 = .ok (.iload_n 0, 1) := by decide +kernel
theorem d_method_2_1 : decode method_2_code 1 = .ok (.iconst 3, 1) := by decide +kernel
theorem d_method_2_2 : decode method_2_code 2 = .ok (.iand, 1) := by decide +kernel
theorem d_method_2_3 : decode method_2_code 3 = .ok (.ifCond .ne 6, 3) := by decide +kernel
theorem d_method_2_6 : decode method_2_code 6 = .ok (.bipush 10, 2) := by decide +kernel
theorem d_method_2_8 : decode method_2_code 8 = .ok (.ireturn, 1) := by decide +kernel
theorem d_method_2_9 : decode method_2_code 9 = .ok (.iload_n 0, 1) := by decide +kernel
theorem d_method_2_10 : decode method_2_code 10 = .ok (.iconst 2, 1) := by decide +kernel
theorem d_method_2_11 : decode method_2_code 11 = .ok (.iushr, 1) := by decide +kernel
theorem d_method_2_12 : decode method_2_code 12 = .ok (.sipush 255, 3) := by decide +kernel
theorem d_method_2_15 : decode method_2_code 15 = .ok (.iand, 1) := by decide +kernel
theorem d_method_2_16 : decode method_2_code 16 = .ok (.i2c, 1) := by decide +kernel
theorem d_method_2_17 : decode method_2_code 17 = .ok (.ireturn, 1) := by decide +kernel
abbrev RM_rm_ch : Room := { frames := 0, cells := 0, slots := 0, locals := 0 }
set_option maxRecDepth 65536 in
set_option maxHeartbeats 40000000 in
theorem rm_ch (l : Launch) (Z : State) (a0 : Array Value) (hw : ∀ d ∈ tables_1, d.before a0 Z = true) (n0 : Nat) (v : Int32) (h0 : Heap) (hO : Old Z n0 h0)  :
    Ct l (⟨"com/example/rivulet/rivulet/SourceLinePinLaw", "ch", "(I)C"⟩ : MethodName) method_2_code 1 (some .char) [] RM_rm_ch Z n0 #[(.int v)] h0 [] (Q_rm_ch Z v h0) := by
  refine Ct.of_walk (plainFor_of_name pn_0) hO all0 ?_
  intro p e s m below meth c T0 X0
  rw [ef_rm_ch m v]
  show Go _ _ _ _ (T0.setTop (mkF m 0 #[.val (.int v)] []))
  refine Go.by (fun _ k => XS.iloadN X0.here X0.hx rfl (X0.cd d_method_2_0) rfl  k) ?_
  show Go _ _ _ _ (T0.setTop (mkF m 1 #[.val (.int v)] [(.int v)]))
  refine Go.by (fun _ k => XS.iconst X0.here X0.hx rfl (X0.cd d_method_2_1)  k) ?_
  show Go _ _ _ _ (T0.setTop (mkF m 2 #[.val (.int v)] [(.int (3 : Int32)), (.int v)]))
  refine Go.by (fun _ k => XS.iand X0.here X0.hx rfl (X0.cd d_method_2_2) rfl k) ?_
  show Go _ _ _ _ (T0.setTop (mkF m 3 #[.val (.int v)] [(.int (v &&& (3 : Int32)))]))
  by_cases c0 : (v &&& (3 : Int32)) = 0
  · refine Go.by (fun _ k => XS.ifNo X0.here X0.hx rfl (X0.cd d_method_2_3) rfl (XT.i0_ne_f c0) k) ?_
    show Go _ _ _ _ (T0.setTop (mkF m 6 #[.val (.int v)] []))
    refine Go.by (fun _ k => XS.bipush X0.here X0.hx rfl (X0.cd d_method_2_6)  k) ?_
    show Go _ _ _ _ (T0.setTop (mkF m 8 #[.val (.int v)] [(.int (10 : Int32))]))
    exact X0.retN (by simp) rfl d_method_2_8 (Keep.refl h0 []) ⟨(10 : Int32), rfl, rfl, ⟨by decide, by decide⟩⟩ (by decide) (by decide)
  · refine Go.by (fun _ k => XS.ifYes X0.here X0.hx rfl (pc0 := 3) (pc' := 9) rfl (X0.cd d_method_2_3) rfl (XT.i0_ne_t c0) (by decide) (by decide) k) ?_
    show Go _ _ _ _ (T0.setTop (mkF m 9 #[.val (.int v)] []))
    refine Go.by (fun _ k => XS.iloadN X0.here X0.hx rfl (X0.cd d_method_2_9) rfl  k) ?_
    show Go _ _ _ _ (T0.setTop (mkF m 10 #[.val (.int v)] [(.int v)]))
    refine Go.by (fun _ k => XS.iconst X0.here X0.hx rfl (X0.cd d_method_2_10)  k) ?_
    show Go _ _ _ _ (T0.setTop (mkF m 11 #[.val (.int v)] [(.int (2 : Int32)), (.int v)]))
    refine Go.by (fun _ k => XS.iushr X0.here X0.hx rfl (X0.cd d_method_2_11) rfl k) ?_
    show Go _ _ _ _ (T0.setTop (mkF m 12 #[.val (.int v)] [(.int (XT.ushr v (2 : Int32)))]))
    refine Go.by (fun _ k => XS.sipush X0.here X0.hx rfl (X0.cd d_method_2_12)  k) ?_
    show Go _ _ _ _ (T0.setTop (mkF m 15 #[.val (.int v)] [(.int (255 : Int32)), (.int (XT.ushr v (2 : Int32)))]))
    refine Go.by (fun _ k => XS.iand X0.here X0.hx rfl (X0.cd d_method_2_15) rfl k) ?_
    show Go _ _ _ _ (T0.setTop (mkF m 16 #[.val (.int v)] [(.int ((XT.ushr v (2 : Int32)) &&& (255 : Int32)))]))
    refine Go.by (fun _ k => XS.i2c X0.here X0.hx rfl (X0.cd d_method_2_16) rfl k) ?_
    show Go _ _ _ _ (T0.setTop (mkF m 17 #[.val (.int v)] [(.int ((((XT.ushr v (2 : Int32)) &&& (255 : Int32))).toUInt32.toUInt16.toUInt32.toInt32))]))
    exact X0.retN (by simp) (nar_i2c _) d_method_2_17 (Keep.refl h0 []) ⟨(((XT.ushr v (2 : Int32)) &&& (255 : Int32))).toUInt32.toUInt16.toUInt32.toInt32, rfl, rfl, c255 _⟩ (by decide) (by decide)
theorem ef_rm_ini (m : MethodId) (x0 : Addr) (x1 : Addr) : entryFrame m #[(.ref x0), (.ref x1)] 2 = mkF m 0 #[.val (.ref x0), .val (.ref x1)] [] := by first | (simp [entryFrame, mkF, argsToLocals, Value.category]; done) | rfl
def Q_rm_ini (Z : State) (a1 : Addr) (a2 : Addr) (u0 : Value) (h0 : Heap) (ov : Option Value) (hz : Heap) : Prop := ov = none ∧ Fld Z hz a1 "com/example/rivulet/rivulet/Source" "text" "Ljava/lang/String;" (.ref a2)
theorem pn_1 : plainName "com/example/rivulet/rivulet/Source" = true := by first | (simp [plainName, overriddenIn]; done) | decide +kernel
theorem d_prog_7_method_1_0 : decode prog_7_method_1_code 0 = .ok (.aload_n 0, 1) := by decide +kernel
theorem d_prog_7_method_1_1 : decode prog_7_method_1_code 1 = .ok (.invokespecial 1, 3) := by decide +kernel
theorem d_prog_7_method_1_4 : decode prog_7_method_1_code 4 = .ok (.aload_n 0, 1) := by decide +kernel
theorem d_prog_7_method_1_5 : decode prog_7_method_1_code 5 = .ok (.aload_n 1, 1) := by decide +kernel
theorem d_prog_7_method_1_6 : decode prog_7_method_1_code 6 = .ok (.putfield 7, 3) := by decide +kernel
theorem d_prog_7_method_1_9 : decode prog_7_method_1_code 9 = .ok (.return_, 1) := by decide +kernel
abbrev RM_rm_ini : Room := { frames := 1, cells := 0, slots := 0, locals := 12 }
set_option maxRecDepth 65536 in
set_option maxHeartbeats 40000000 in
theorem rm_ini (l : Launch) (Z : State) (a0 : Array Value) (hw : ∀ d ∈ tables_1, d.before a0 Z = true) (n0 : Nat) (a1 : Addr) (a2 : Addr) (u0 : Value) (h0 : Heap) (hO : Old Z n0 h0) (pr0 : Exa Z h0 a1 "com/example/rivulet/rivulet/Source") (pr1 : Fld Z h0 a1 "com/example/rivulet/rivulet/Source" "text" "Ljava/lang/String;" u0) (g_a1 : n0 ≤ a1) (l_a1 : a1 < h0.size) :
    Ct l (⟨"com/example/rivulet/rivulet/Source", "<init>", "(Ljava/lang/String;)V"⟩ : MethodName) prog_7_method_1_code 2 none [] RM_rm_ini Z n0 #[(.ref a1), (.ref a2)] h0 [a1] (Q_rm_ini Z a1 a2 u0 h0) := by
  refine Ct.of_walk (plainFor_of_name pn_1) hO (allS ⟨g_a1, l_a1⟩ all0) ?_
  intro p e s m below meth c T0 X0
  rw [ef_rm_ini m a1 a2]
  show Go _ _ _ _ (T0.setTop (mkF m 0 #[.val (.ref a1), .val (.ref a2)] []))
  refine Go.by (fun _ k => XS.aloadN X0.here X0.hx rfl (X0.cd d_prog_7_method_1_0) rfl rfl k) ?_
  show Go _ _ _ _ (T0.setTop (mkF m 1 #[.val (.ref a1), .val (.ref a2)] [(.ref a1)]))
  obtain ⟨T1, X1, st1⟩ := X0.initO (hw _ (List.mem_of_getElem? (i := 41) rfl)) (hw _ (List.mem_of_getElem? (i := 20) rfl)) (hw _ (List.mem_of_getElem? (i := 21) rfl)) (g := (mkF m 1 #[.val (.ref a1), .val (.ref a2)] [(.ref a1)])) rfl rfl rfl d_prog_7_method_1_1 (by decide) (W := 0) (by exact Nat.le_of_eq rfl) (by decide)
  refine Go.by st1 ?_
  show Go _ _ _ _ (T1.setTop (mkF m 4 #[.val (.ref a1), .val (.ref a2)] []))
  refine Go.by (fun _ k => XS.aloadN X1.here X1.hx rfl (X1.cd d_prog_7_method_1_4) rfl rfl k) ?_
  show Go _ _ _ _ (T1.setTop (mkF m 5 #[.val (.ref a1), .val (.ref a2)] [(.ref a1)]))
  refine Go.by (fun _ k => XS.aloadN X1.here X1.hx rfl (X1.cd d_prog_7_method_1_5) rfl rfl k) ?_
  show Go _ _ _ _ (T1.setTop (mkF m 6 #[.val (.ref a1), .val (.ref a2)] [(.ref a2), (.ref a1)]))
  obtain ⟨T2, h2, X2, W2, st2⟩ := X1.putF (host := "") (Or.inl (hw _ (List.mem_of_getElem? (i := 42) rfl))) Via.refl pr1 pr0 (Or.inr ⟨(hw _ (List.mem_of_getElem? (i := 43) rfl)), rfl, rfl⟩) (hw _ (List.mem_of_getElem? (i := 7) rfl)) (.head _) (ty := (.object "java/lang/String")) (by decide) rfl rfl (g := (mkF m 6 #[.val (.ref a1), .val (.ref a2)] [(.ref a2), (.ref a1)])) rfl rfl d_prog_7_method_1_6
  refine Go.by st2 ?_
  have K0_h2 : Keep h0 h2 [a1] := (Keep.refl h0 [a1]).wr W2 (Or.inl (.head _))
  have F2 : Fld Z h2 a1 "com/example/rivulet/rivulet/Source" "text" "Ljava/lang/String;" (.ref a2) := pr1.same W2
  show Go _ _ _ _ (T2.setTop (mkF m 9 #[.val (.ref a1), .val (.ref a2)] []))
  exact X2.retV d_prog_7_method_1_9 K0_h2 ⟨rfl, F2⟩ (by decide) (by decide)
theorem ef_rm_nl (m : MethodId) (x0 : Int32) (x1 : Int32) (x2 : Int32) : entryFrame m #[(.int x0), (.int x1), (.int x2)] 3 = mkF m 0 #[.val (.int x0), .val (.int x1), .val (.int x2)] [] := by first | (simp [entryFrame, mkF, argsToLocals, Value.category]; done) | rfl
def Q_rm_nl (Z : State) (d0 : Int32) (d1 : Int32) (d2 : Int32) (h0 : Heap) (ov : Option Value) (hz : Heap) : Prop := ov = some (.int (own_nl d0 d1 d2)) ∧ h0 = hz
theorem d_method_3_0 : decode method_3_code 0 = .ok (.iload_n 1, 1) := by decide +kernel
theorem d_method_3_1 : decode method_3_code 1 = .ok (.iload_n 2, 1) := by decide +kernel
theorem d_method_3_2 : decode method_3_code 2 = .ok (.if_icmp .ge 11, 3) := by decide +kernel
theorem d_method_3_5 : decode method_3_code 5 = .ok (.iload_n 0, 1) := by decide +kernel
theorem d_method_3_6 : decode method_3_code 6 = .ok (.bipush 10, 2) := by decide +kernel
theorem d_method_3_8 : decode method_3_code 8 = .ok (.if_icmp .ne 5, 3) := by decide +kernel
theorem d_method_3_11 : decode method_3_code 11 = .ok (.iconst 1, 1) := by decide +kernel
theorem d_method_3_12 : decode method_3_code 12 = .ok (.ireturn, 1) := by decide +kernel
theorem d_method_3_13 : decode method_3_code 13 = .ok (.iconst 0, 1) := by decide +kernel
theorem d_method_3_14 : decode method_3_code 14 = .ok (.ireturn, 1) := by decide +kernel
abbrev RM_rm_nl : Room := { frames := 0, cells := 0, slots := 0, locals := 0 }
set_option maxRecDepth 65536 in
set_option maxHeartbeats 40000000 in
theorem rm_nl (l : Launch) (Z : State) (a0 : Array Value) (hw : ∀ d ∈ tables_1, d.before a0 Z = true) (n0 : Nat) (d0 : Int32) (d1 : Int32) (d2 : Int32) (h0 : Heap) (hO : Old Z n0 h0)  :
    Ct l (⟨"com/example/rivulet/rivulet/SourceLinePinLaw", "nl", "(CII)I"⟩ : MethodName) method_3_code 3 (some .int) [] RM_rm_nl Z n0 #[(.int d0), (.int d1), (.int d2)] h0 [] (Q_rm_nl Z d0 d1 d2 h0) := by
  refine Ct.of_walk (plainFor_of_name pn_0) hO all0 ?_
  intro p e s m below meth c T0 X0
  rw [ef_rm_nl m d0 d1 d2]
  show Go _ _ _ _ (T0.setTop (mkF m 0 #[.val (.int d0), .val (.int d1), .val (.int d2)] []))
  refine Go.by (fun _ k => XS.iloadN X0.here X0.hx rfl (X0.cd d_method_3_0) rfl  k) ?_
  show Go _ _ _ _ (T0.setTop (mkF m 1 #[.val (.int d0), .val (.int d1), .val (.int d2)] [(.int d1)]))
  refine Go.by (fun _ k => XS.iloadN X0.here X0.hx rfl (X0.cd d_method_3_1) rfl  k) ?_
  show Go _ _ _ _ (T0.setTop (mkF m 2 #[.val (.int d0), .val (.int d1), .val (.int d2)] [(.int d2), (.int d1)]))
  by_cases c0 : d1 < d2
  · refine Go.by (fun _ k => XS.icmpNo X0.here X0.hx rfl (X0.cd d_method_3_2) rfl (XT.ii_ge_f c0) k) ?_
    show Go _ _ _ _ (T0.setTop (mkF m 5 #[.val (.int d0), .val (.int d1), .val (.int d2)] []))
    refine Go.by (fun _ k => XS.iloadN X0.here X0.hx rfl (X0.cd d_method_3_5) rfl  k) ?_
    show Go _ _ _ _ (T0.setTop (mkF m 6 #[.val (.int d0), .val (.int d1), .val (.int d2)] [(.int d0)]))
    refine Go.by (fun _ k => XS.bipush X0.here X0.hx rfl (X0.cd d_method_3_6)  k) ?_
    show Go _ _ _ _ (T0.setTop (mkF m 8 #[.val (.int d0), .val (.int d1), .val (.int d2)] [(.int (10 : Int32)), (.int d0)]))
    by_cases c1 : d0 = (10 : Int32)
    · refine Go.by (fun _ k => XS.icmpNo X0.here X0.hx rfl (X0.cd d_method_3_8) rfl (XT.ii_ne_f c1) k) ?_
      show Go _ _ _ _ (T0.setTop (mkF m 11 #[.val (.int d0), .val (.int d1), .val (.int d2)] []))
      refine Go.by (fun _ k => XS.iconst X0.here X0.hx rfl (X0.cd d_method_3_11)  k) ?_
      show Go _ _ _ _ (T0.setTop (mkF m 12 #[.val (.int d0), .val (.int d1), .val (.int d2)] [(.int (1 : Int32))]))
      exact X0.retI d_method_3_12 (Keep.refl h0 []) ⟨(congrArg (fun z => some (Value.int z)) (((if_pos c0).trans (if_pos c1)).symm)), rfl⟩ (by decide) (by decide)
    · refine Go.by (fun _ k => XS.icmpYes X0.here X0.hx rfl (pc0 := 8) (pc' := 13) rfl (X0.cd d_method_3_8) rfl (XT.ii_ne_t c1) (by decide) (by decide) k) ?_
      show Go _ _ _ _ (T0.setTop (mkF m 13 #[.val (.int d0), .val (.int d1), .val (.int d2)] []))
      refine Go.by (fun _ k => XS.iconst X0.here X0.hx rfl (X0.cd d_method_3_13)  k) ?_
      show Go _ _ _ _ (T0.setTop (mkF m 14 #[.val (.int d0), .val (.int d1), .val (.int d2)] [(.int (0 : Int32))]))
      exact X0.retI d_method_3_14 (Keep.refl h0 []) ⟨(congrArg (fun z => some (Value.int z)) (((if_pos c0).trans (if_neg c1)).symm)), rfl⟩ (by decide) (by decide)
  · refine Go.by (fun _ k => XS.icmpYes X0.here X0.hx rfl (pc0 := 2) (pc' := 13) rfl (X0.cd d_method_3_2) rfl (XT.ii_ge_t c0) (by decide) (by decide) k) ?_
    show Go _ _ _ _ (T0.setTop (mkF m 13 #[.val (.int d0), .val (.int d1), .val (.int d2)] []))
    refine Go.by (fun _ k => XS.iconst X0.here X0.hx rfl (X0.cd d_method_3_13)  k) ?_
    show Go _ _ _ _ (T0.setTop (mkF m 14 #[.val (.int d0), .val (.int d1), .val (.int d2)] [(.int (0 : Int32))]))
    exact X0.retI d_method_3_14 (Keep.refl h0 []) ⟨(congrArg (fun z => some (Value.int z)) ((if_neg c0).symm)), rfl⟩ (by decide) (by decide)
theorem ef_rm_line (m : MethodId) (x0 : Addr) (x1 : Int32) : entryFrame m #[(.ref x0), (.int x1)] 4 = mkF m 0 #[.val (.ref x0), .val (.int x1), .unset, .unset] [] := by first | (simp [entryFrame, mkF, argsToLocals, Value.category]; done) | rfl
def Q_rm_line (Z : State) (a1 : Addr) (N : Nat) (x : Addr) (t : Addr) (cs : List Int32) (zc : Int32) (vf : Value) (h0 : Heap) (ov : Option Value) (hz : Heap) : Prop := ov = some (.int (own_ln cs N)) ∧ h0 = hz
theorem d_prog_7_method_3_0 : decode prog_7_method_3_code 0 = .ok (.iconst 1, 1) := by decide +kernel
theorem d_prog_7_method_3_1 : decode prog_7_method_3_code 1 = .ok (.istore_n 2, 1) := by decide +kernel
theorem d_prog_7_method_3_2 : decode prog_7_method_3_code 2 = .ok (.iconst 0, 1) := by decide +kernel
theorem d_prog_7_method_3_3 : decode prog_7_method_3_code 3 = .ok (.istore_n 3, 1) := by decide +kernel
theorem d_prog_7_method_3_4 : decode prog_7_method_3_code 4 = .ok (.iload_n 3, 1) := by decide +kernel
theorem d_prog_7_method_3_5 : decode prog_7_method_3_code 5 = .ok (.iload_n 1, 1) := by decide +kernel
theorem d_prog_7_method_3_6 : decode prog_7_method_3_code 6 = .ok (.if_icmp .ge 25, 3) := by decide +kernel
theorem d_prog_7_method_3_31 : decode prog_7_method_3_code 31 = .ok (.iload_n 2, 1) := by decide +kernel
theorem d_prog_7_method_3_32 : decode prog_7_method_3_code 32 = .ok (.ireturn, 1) := by decide +kernel
theorem d_prog_7_method_3_9 : decode prog_7_method_3_code 9 = .ok (.aload_n 0, 1) := by decide +kernel
theorem d_prog_7_method_3_10 : decode prog_7_method_3_code 10 = .ok (.getfield 7, 3) := by decide +kernel
theorem d_prog_7_method_3_13 : decode prog_7_method_3_code 13 = .ok (.iload_n 3, 1) := by decide +kernel
theorem pd_0 : parseMethodDescriptor "(I)C" = some ⟨[.int], some .char⟩ := by decide +kernel
theorem d_prog_7_method_3_14 : decode prog_7_method_3_code 14 = .ok (.invokevirtual 13, 3) := by decide +kernel
theorem d_prog_7_method_3_17 : decode prog_7_method_3_code 17 = .ok (.bipush 10, 2) := by decide +kernel
theorem d_prog_7_method_3_19 : decode prog_7_method_3_code 19 = .ok (.if_icmp .ne 6, 3) := by decide +kernel
theorem d_prog_7_method_3_22 : decode prog_7_method_3_code 22 = .ok (.iinc 2 1, 3) := by decide +kernel
theorem d_prog_7_method_3_25 : decode prog_7_method_3_code 25 = .ok (.iinc 3 1, 3) := by decide +kernel
theorem d_prog_7_method_3_28 : decode prog_7_method_3_code 28 = .ok (.goto (-24), 3) := by decide +kernel
abbrev RM_rm_line : Room := { frames := 4, cells := 0, slots := 0, locals := 53 }
set_option maxRecDepth 65536 in
set_option maxHeartbeats 40000000 in
theorem rm_line (l : Launch) (Z : State) (a0 : Array Value) (hw : ∀ d ∈ tables_1, d.before a0 Z = true) (n0 : Nat) (a1 : Addr) (N : Nat) (x : Addr) (t : Addr) (cs : List Int32) (zc : Int32) (vf : Value) (h0 : Heap) (hO : Old Z n0 h0) (pr0 : Fld Z h0 a1 "com/example/rivulet/rivulet/Source" "text" "Ljava/lang/String;" (.ref x)) (pr1 : Str Z h0 x t cs) (Sc : Sta Z Z.heap "java/lang/String" "COMPACT_STRINGS" "Z" (.int zc)) (nc : ¬ (zc = (0 : Int32))) (Sf : Sta Z Z.heap "jdk/internal/util/Preconditions" "SIOOBE_FORMATTER" "Ljava/util/function/BiFunction;" vf) (rf : vf.isRef = true) (hp : ∀ c ∈ cs, ¬ (255 : Int32) < c) (hN : N ≤ cs.length) :
    Ct l (⟨"com/example/rivulet/rivulet/Source", "line", "(I)I"⟩ : MethodName) prog_7_method_3_code 4 (some .int) [] RM_rm_line Z n0 #[(.ref a1), (.int (Int32.ofNat N))] h0 [] (Q_rm_line Z a1 N x t cs zc vf h0) := by
  refine Ct.of_walk (plainFor_of_name pn_1) hO all0 ?_
  intro p e s m below meth c T0 X0
  rw [ef_rm_line m a1 (Int32.ofNat N)]
  show Go _ _ _ _ (T0.setTop (mkF m 0 #[.val (.ref a1), .val (.int (Int32.ofNat N)), .unset, .unset] []))
  have f1 : Exa Z h0 x "java/lang/String" := pr1.exa
  refine Go.by (fun _ k => XS.iconst X0.here X0.hx rfl (X0.cd d_prog_7_method_3_0)  k) ?_
  show Go _ _ _ _ (T0.setTop (mkF m 1 #[.val (.ref a1), .val (.int (Int32.ofNat N)), .unset, .unset] [(.int (1 : Int32))]))
  refine Go.by (fun _ k => XS.istoreN X0.here X0.hx rfl (X0.cd d_prog_7_method_3_1) rfl (l' := #[.val (.ref a1), .val (.int (Int32.ofNat N)), .val (.int (1 : Int32)), .unset]) rfl k) ?_
  show Go _ _ _ _ (T0.setTop (mkF m 2 #[.val (.ref a1), .val (.int (Int32.ofNat N)), .val (.int (1 : Int32)), .unset] []))
  refine Go.by (fun _ k => XS.iconst X0.here X0.hx rfl (X0.cd d_prog_7_method_3_2)  k) ?_
  show Go _ _ _ _ (T0.setTop (mkF m 3 #[.val (.ref a1), .val (.int (Int32.ofNat N)), .val (.int (1 : Int32)), .unset] [(.int (0 : Int32))]))
  refine Go.by (fun _ k => XS.istoreN X0.here X0.hx rfl (X0.cd d_prog_7_method_3_3) rfl (l' := #[.val (.ref a1), .val (.int (Int32.ofNat N)), .val (.int (1 : Int32)), .val (.int (0 : Int32))]) rfl k) ?_
  show Go _ _ _ _ (T0.setTop (mkF m 4 #[.val (.ref a1), .val (.int (Int32.ofNat N)), .val (.int (1 : Int32)), .val (.int (0 : Int32))] []))
  have hl := pr1.lenLe
  have loop : ∀ (mm kk : Nat) (TL : State), kk + mm = N → Wk false p l e RM_rm_line s m #[(.ref a1), (.int (Int32.ofNat N))] below meth c Z [] (⟨"com/example/rivulet/rivulet/Source", "line", "(I)I"⟩ : MethodName) prog_7_method_3_code 4 (some .int) n0 h0 TL h0 [] 0 0 → Go p e below (Fi false RM_rm_line s Z [] n0 h0 [] (Q_rm_line Z a1 N x t cs zc vf h0)) (TL.setTop (mkF m 4 #[.val (.ref a1), .val (.int (Int32.ofNat N)), .val (.int (own_ln cs kk)), .val (.int (Int32.ofNat kk))] [])) := by
    intro mm
    induction mm with
    | zero =>
      intro kk TL hk XL
      refine Go.by (fun _ k => XS.iloadN XL.here XL.hx rfl (XL.cd d_prog_7_method_3_4) rfl  k) ?_
      show Go _ _ _ _ (TL.setTop (mkF m 5 #[.val (.ref a1), .val (.int (Int32.ofNat N)), .val (.int (own_ln cs kk)), .val (.int (Int32.ofNat kk))] [(.int (Int32.ofNat kk))]))
      refine Go.by (fun _ k => XS.iloadN XL.here XL.hx rfl (XL.cd d_prog_7_method_3_5) rfl  k) ?_
      show Go _ _ _ _ (TL.setTop (mkF m 6 #[.val (.ref a1), .val (.int (Int32.ofNat N)), .val (.int (own_ln cs kk)), .val (.int (Int32.ofNat kk))] [(.int (Int32.ofNat N)), (.int (Int32.ofNat kk))]))
      refine Go.by (fun _ k => XS.icmpYes XL.here XL.hx rfl (pc0 := 6) (pc' := 31) rfl (XL.cd d_prog_7_method_3_6) rfl (XT.ii_ge_t (fun q => by have := (on_lt (by omega) (by omega)).mp q; omega)) (by decide) (by decide) k) ?_
      show Go _ _ _ _ (TL.setTop (mkF m 31 #[.val (.ref a1), .val (.int (Int32.ofNat N)), .val (.int (own_ln cs kk)), .val (.int (Int32.ofNat kk))] []))
      refine Go.by (fun _ k => XS.iloadN XL.here XL.hx rfl (XL.cd d_prog_7_method_3_31) rfl  k) ?_
      show Go _ _ _ _ (TL.setTop (mkF m 32 #[.val (.ref a1), .val (.int (Int32.ofNat N)), .val (.int (own_ln cs kk)), .val (.int (Int32.ofNat kk))] [(.int (own_ln cs kk))]))
      have hkN : kk = N := by omega
      subst hkN
      exact XL.retI d_prog_7_method_3_32 (Keep.refl h0 []) ⟨rfl, rfl⟩ (by decide) (by decide)
    | succ mm ih =>
      intro kk TL hk XL
      refine Go.by (fun _ k => XS.iloadN XL.here XL.hx rfl (XL.cd d_prog_7_method_3_4) rfl  k) ?_
      show Go _ _ _ _ (TL.setTop (mkF m 5 #[.val (.ref a1), .val (.int (Int32.ofNat N)), .val (.int (own_ln cs kk)), .val (.int (Int32.ofNat kk))] [(.int (Int32.ofNat kk))]))
      refine Go.by (fun _ k => XS.iloadN XL.here XL.hx rfl (XL.cd d_prog_7_method_3_5) rfl  k) ?_
      show Go _ _ _ _ (TL.setTop (mkF m 6 #[.val (.ref a1), .val (.int (Int32.ofNat N)), .val (.int (own_ln cs kk)), .val (.int (Int32.ofNat kk))] [(.int (Int32.ofNat N)), (.int (Int32.ofNat kk))]))
      refine Go.by (fun _ k => XS.icmpNo XL.here XL.hx rfl (XL.cd d_prog_7_method_3_6) rfl (XT.ii_ge_f ((on_lt (by omega) (by omega)).mpr (by omega))) k) ?_
      show Go _ _ _ _ (TL.setTop (mkF m 9 #[.val (.ref a1), .val (.int (Int32.ofNat N)), .val (.int (own_ln cs kk)), .val (.int (Int32.ofNat kk))] []))
      refine Go.by (fun _ k => XS.aloadN XL.here XL.hx rfl (XL.cd d_prog_7_method_3_9) rfl rfl k) ?_
      show Go _ _ _ _ (TL.setTop (mkF m 10 #[.val (.ref a1), .val (.int (Int32.ofNat N)), .val (.int (own_ln cs kk)), .val (.int (Int32.ofNat kk))] [(.ref a1)]))
      obtain ⟨T2, X2, st2⟩ := XL.getF (host := "") (Or.inl (hw _ (List.mem_of_getElem? (i := 42) rfl))) Via.refl pr0 (g := (mkF m 10 #[.val (.ref a1), .val (.int (Int32.ofNat N)), .val (.int (own_ln cs kk)), .val (.int (Int32.ofNat kk))] [(.ref a1)])) rfl rfl d_prog_7_method_3_10
      refine Go.by st2 ?_
      show Go _ _ _ _ (T2.setTop (mkF m 13 #[.val (.ref a1), .val (.int (Int32.ofNat N)), .val (.int (own_ln cs kk)), .val (.int (Int32.ofNat kk))] [(.ref x)]))
      refine Go.by (fun _ k => XS.iloadN X2.here X2.hx rfl (X2.cd d_prog_7_method_3_13) rfl  k) ?_
      show Go _ _ _ _ (T2.setTop (mkF m 14 #[.val (.ref a1), .val (.int (Int32.ofNat N)), .val (.int (own_ln cs kk)), .val (.int (Int32.ofNat kk))] [(.int (Int32.ofNat kk)), (.ref x)]))
      obtain ⟨_, T3, h3, X3, K3, ⟨rfl, rfl⟩, st3⟩ := X2.viN (W := 0) (hw _ (List.mem_of_getElem? (i := 52) rfl)) (hw _ (List.mem_of_getElem? (i := 53) rfl)) (hw _ (List.mem_of_getElem? (i := 55) rfl)) (hw _ (List.mem_of_getElem? (i := 54) rfl)) (by decide) (payCh (i := kk) (fun d hd => hw d ((by decide +kernel : ∀ d ∈ StrChars.Road.wordsChN, d ∈ tables_1) d hd)) (hw _ (List.mem_of_getElem? (i := 10) rfl)) X2.old pr1 hp Sc nc Sf rf (by omega) (by decide) (by decide)) all0 f1 (g := (mkF m 14 #[.val (.ref a1), .val (.int (Int32.ofNat N)), .val (.int (own_ln cs kk)), .val (.int (Int32.ofNat kk))] [(.int (Int32.ofNat kk)), (.ref x)])) rfl rfl (argsL := [(.int (Int32.ofNat kk))]) (rest := []) (lenOf pd_0 rfl) rfl (by exact Nat.le_of_eq rfl) d_prog_7_method_3_14 rfl (by decide) (by decide)
      refine Go.tr st3 ?_
      show Go _ _ _ _ (T3.setTop (mkF m 17 #[.val (.ref a1), .val (.int (Int32.ofNat N)), .val (.int (own_ln cs kk)), .val (.int (Int32.ofNat kk))] [(.int ((cs).getD kk 0))]))
      refine Go.by (fun _ k => XS.bipush X3.here X3.hx rfl (X3.cd d_prog_7_method_3_17)  k) ?_
      show Go _ _ _ _ (T3.setTop (mkF m 19 #[.val (.ref a1), .val (.int (Int32.ofNat N)), .val (.int (own_ln cs kk)), .val (.int (Int32.ofNat kk))] [(.int (10 : Int32)), (.int ((cs).getD kk 0))]))
      by_cases ce : ((cs).getD kk 0) = (10 : Int32)
      · refine Go.by (fun _ k => XS.icmpNo X3.here X3.hx rfl (X3.cd d_prog_7_method_3_19) rfl (XT.ii_ne_f ce) k) ?_
        show Go _ _ _ _ (T3.setTop (mkF m 22 #[.val (.ref a1), .val (.int (Int32.ofNat N)), .val (.int (own_ln cs kk)), .val (.int (Int32.ofNat kk))] []))
        refine Go.by (fun _ k => XS.iinc X3.here X3.hx rfl (X3.cd d_prog_7_method_3_22) rfl (l' := #[.val (.ref a1), .val (.int (Int32.ofNat N)), .val (.int ((own_ln cs kk) + (1 : Int32))), .val (.int (Int32.ofNat kk))]) rfl k) ?_
        show Go _ _ _ _ (T3.setTop (mkF m 25 #[.val (.ref a1), .val (.int (Int32.ofNat N)), .val (.int ((own_ln cs kk) + (1 : Int32))), .val (.int (Int32.ofNat kk))] []))
        refine Go.by (fun _ k => XS.iinc X3.here X3.hx rfl (X3.cd d_prog_7_method_3_25) rfl (l' := #[.val (.ref a1), .val (.int (Int32.ofNat N)), .val (.int ((own_ln cs kk) + (1 : Int32))), .val (.int ((Int32.ofNat kk) + (1 : Int32)))]) rfl k) ?_
        show Go _ _ _ _ (T3.setTop (mkF m 28 #[.val (.ref a1), .val (.int (Int32.ofNat N)), .val (.int ((own_ln cs kk) + (1 : Int32))), .val (.int ((Int32.ofNat kk) + (1 : Int32)))] []))
        refine Go.by (fun _ k => XS.goto X3.here X3.hx rfl (pc0 := 28) (pc' := 4) rfl (X3.cd d_prog_7_method_3_28) (by decide) (by decide) k) ?_
        show Go _ _ _ _ (T3.setTop (mkF m 4 #[.val (.ref a1), .val (.int (Int32.ofNat N)), .val (.int ((own_ln cs kk) + (1 : Int32))), .val (.int ((Int32.ofNat kk) + (1 : Int32)))] []))
        rw [on_succ, own_ln_y ce]
        exact ih (kk + 1) _ (by omega) X3
      · refine Go.by (fun _ k => XS.icmpYes X3.here X3.hx rfl (pc0 := 19) (pc' := 25) rfl (X3.cd d_prog_7_method_3_19) rfl (XT.ii_ne_t ce) (by decide) (by decide) k) ?_
        show Go _ _ _ _ (T3.setTop (mkF m 25 #[.val (.ref a1), .val (.int (Int32.ofNat N)), .val (.int (own_ln cs kk)), .val (.int (Int32.ofNat kk))] []))
        refine Go.by (fun _ k => XS.iinc X3.here X3.hx rfl (X3.cd d_prog_7_method_3_25) rfl (l' := #[.val (.ref a1), .val (.int (Int32.ofNat N)), .val (.int (own_ln cs kk)), .val (.int ((Int32.ofNat kk) + (1 : Int32)))]) rfl k) ?_
        show Go _ _ _ _ (T3.setTop (mkF m 28 #[.val (.ref a1), .val (.int (Int32.ofNat N)), .val (.int (own_ln cs kk)), .val (.int ((Int32.ofNat kk) + (1 : Int32)))] []))
        refine Go.by (fun _ k => XS.goto X3.here X3.hx rfl (pc0 := 28) (pc' := 4) rfl (X3.cd d_prog_7_method_3_28) (by decide) (by decide) k) ?_
        show Go _ _ _ _ (T3.setTop (mkF m 4 #[.val (.ref a1), .val (.int (Int32.ofNat N)), .val (.int (own_ln cs kk)), .val (.int ((Int32.ofNat kk) + (1 : Int32)))] []))
        rw [on_succ, own_ln_n ce]
        exact ih (kk + 1) _ (by omega) X3
  exact loop N 0 T0 (by omega) X0
theorem ef_rm_law (m : MethodId) (x0 : Int32) (x1 : Int32) (x2 : Int32) (x3 : Int32) (x4 : Int32) (x5 : Int32) : entryFrame m #[(.int x0), (.int x1), (.int x2), (.int x3), (.int x4), (.int x5)] 10 = mkF m 0 #[.val (.int x0), .val (.int x1), .val (.int x2), .val (.int x3), .val (.int x4), .val (.int x5), .unset, .unset, .unset, .unset] [] := by first | (simp [entryFrame, mkF, argsToLocals, Value.category]; done) | rfl
def Q_rm_law (Z : State) (i0 : Int32) (i1 : Int32) (i2 : Int32) (i3 : Int32) (i4 : Int32) (i5 : Int32) (zc : Int32) (vf : Value) (h0 : Heap) (ov : Option Value) (hz : Heap) : Prop := ov = some (.int (1 : Int32))
theorem pd_1 : parseMethodDescriptor "([C)V" = some ⟨[(.array .char)], none⟩ := by decide +kernel
theorem pd_2 : parseMethodDescriptor "(Ljava/lang/String;)V" = some ⟨[(.object "java/lang/String")], none⟩ := by decide +kernel
theorem pd_3 : parseMethodDescriptor "(CII)I" = some ⟨[.char, .int, .int], some .int⟩ := by decide +kernel
theorem pd_4 : parseMethodDescriptor "(I)I" = some ⟨[.int], some .int⟩ := by decide +kernel
set_option maxRecDepth 65536 in
set_option maxHeartbeats 40000000 in
theorem rm_law (l : Launch) (Z : State) (a0 : Array Value) (hw : ∀ d ∈ tables_1, d.before a0 Z = true) (n0 : Nat) (i0 : Int32) (i1 : Int32) (i2 : Int32) (i3 : Int32) (i4 : Int32) (i5 : Int32) (zc : Int32) (vf : Value) (h0 : Heap) (hO : Old Z n0 h0) (Sc : Sta Z Z.heap "java/lang/String" "COMPACT_STRINGS" "Z" (.int zc)) (nc : ¬ (zc = (0 : Int32))) (Sf : Sta Z Z.heap "jdk/internal/util/Preconditions" "SIOOBE_FORMATTER" "Ljava/util/function/BiFunction;" vf) (rf : vf.isRef = true) :
    Ct l x code maxLocals ret tables_1 room_1 Z n0 #[(.int i0), (.int i1), (.int i2), (.int i3), (.int i4), (.int i5)] h0 [] (Q_rm_law Z i0 i1 i2 i3 i4 i5 zc vf h0) := by
  refine Ct.of_walk (plainFor_of_name pn_0) hO all0 ?_
  intro p e s m below meth c T0 X0
  show Go _ _ _ _ (T0.setTop (entryFrame m #[(.int i0), (.int i1), (.int i2), (.int i3), (.int i4), (.int i5)] 10))
  rw [ef_rm_law m i0 i1 i2 i3 i4 i5]
  show Go _ _ _ _ (T0.setTop (mkF m 0 #[.val (.int i0), .val (.int i1), .val (.int i2), .val (.int i3), .val (.int i4), .val (.int i5), .unset, .unset, .unset, .unset] []))
  refine Go.by (fun _ k => XS.iconst X0.here X0.hx rfl (X0.cd at_0)  k) ?_
  show Go _ _ _ _ (T0.setTop (mkF m 1 #[.val (.int i0), .val (.int i1), .val (.int i2), .val (.int i3), .val (.int i4), .val (.int i5), .unset, .unset, .unset, .unset] [(.int (5 : Int32))]))
  obtain ⟨T1, h1, b1, k1, g_b1, X1, E1, A1, st1⟩ := X0.newP (hw _ (List.mem_of_getElem? (i := 0) rfl)) (g := (mkF m 1 #[.val (.int i0), .val (.int i1), .val (.int i2), .val (.int i3), .val (.int i4), .val (.int i5), .unset, .unset, .unset, .unset] [(.int (5 : Int32))])) rfl at_1 rfl (by decide) (cap := 5) (by decide) (by decide) (by decide) (by decide) (vs := [(.int (0 : Int32)), (.int (0 : Int32)), (.int (0 : Int32)), (.int (0 : Int32)), (.int (0 : Int32))]) rfl
  refine Go.by st1 ?_
  have sz_b1 : h0.size ≤ b1 := Nat.le_trans X0.sz (Nat.le_of_eq g_b1.symm)
  have K0_h1 : Keep h0 h1 [] := (Keep.refl h0 []).ext E1
  have F1 : Arv Z h1 b1 k1 .char (5 : Int32) [(.int (0 : Int32)), (.int (0 : Int32)), (.int (0 : Int32)), (.int (0 : Int32)), (.int (0 : Int32))] (.int (0 : Int32)) := A1
  show Go _ _ _ _ (T1.setTop (mkF m 3 #[.val (.int i0), .val (.int i1), .val (.int i2), .val (.int i3), .val (.int i4), .val (.int i5), .unset, .unset, .unset, .unset] [(.ref b1)]))
  refine Go.by (fun _ k => XS.astore X1.here X1.hx rfl (X1.cd at_3) rfl rfl (l' := #[.val (.int i0), .val (.int i1), .val (.int i2), .val (.int i3), .val (.int i4), .val (.int i5), .val (.ref b1), .unset, .unset, .unset]) rfl k) ?_
  show Go _ _ _ _ (T1.setTop (mkF m 5 #[.val (.int i0), .val (.int i1), .val (.int i2), .val (.int i3), .val (.int i4), .val (.int i5), .val (.ref b1), .unset, .unset, .unset] []))
  refine Go.by (fun _ k => XS.aload X1.here X1.hx rfl (X1.cd at_5) rfl rfl k) ?_
  show Go _ _ _ _ (T1.setTop (mkF m 7 #[.val (.int i0), .val (.int i1), .val (.int i2), .val (.int i3), .val (.int i4), .val (.int i5), .val (.ref b1), .unset, .unset, .unset] [(.ref b1)]))
  refine Go.by (fun _ k => XS.iconst X1.here X1.hx rfl (X1.cd at_7)  k) ?_
  show Go _ _ _ _ (T1.setTop (mkF m 8 #[.val (.int i0), .val (.int i1), .val (.int i2), .val (.int i3), .val (.int i4), .val (.int i5), .val (.ref b1), .unset, .unset, .unset] [(.int (0 : Int32)), (.ref b1)]))
  refine Go.by (fun _ k => XS.iloadN X1.here X1.hx rfl (X1.cd at_8) rfl  k) ?_
  show Go _ _ _ _ (T1.setTop (mkF m 9 #[.val (.int i0), .val (.int i1), .val (.int i2), .val (.int i3), .val (.int i4), .val (.int i5), .val (.ref b1), .unset, .unset, .unset] [(.int i0), (.int (0 : Int32)), (.ref b1)]))
  obtain ⟨_, T2, h2, X2, K2, ⟨r_2, rfl, rfl, p2_0⟩, st2⟩ := X1.stN (W := 2) (hw _ (List.mem_of_getElem? (i := 1) rfl)) (hw _ (List.mem_of_getElem? (i := 2) rfl)) (hw _ (List.mem_of_getElem? (i := 3) rfl)) (hw _ (List.mem_of_getElem? (i := 4) rfl)) (by decide) ((rm_ch l Z a0 hw n0 i0 h1 X1.old ).pay (hw _ (List.mem_of_getElem? (i := 4) rfl)) (hw _ (List.mem_of_getElem? (i := 3) rfl)) (by decide) (by decide)) all0 (g := (mkF m 9 #[.val (.int i0), .val (.int i1), .val (.int i2), .val (.int i3), .val (.int i4), .val (.int i5), .val (.ref b1), .unset, .unset, .unset] [(.int i0), (.int (0 : Int32)), (.ref b1)])) rfl rfl (argsL := [(.int i0)]) (rest := [(.int (0 : Int32)), (.ref b1)]) (lenOf pd_0 rfl) rfl (by exact Nat.le_of_eq rfl) at_9 rfl (by decide) (by decide)
  refine Go.tr st2 ?_
  show Go _ _ _ _ (T2.setTop (mkF m 12 #[.val (.int i0), .val (.int i1), .val (.int i2), .val (.int i3), .val (.int i4), .val (.int i5), .val (.ref b1), .unset, .unset, .unset] [(.int r_2), (.int (0 : Int32)), (.ref b1)]))
  obtain ⟨T3, h3, X3, W3, A3, st3⟩ := X2.stC (x' := r_2) F1 (.head _) ⟨by decide, by decide⟩ (i := 0) rfl (Nat.le_of_ble_eq_true rfl) (nar255 p2_0) (vs' := [(.int r_2), (.int (0 : Int32)), (.int (0 : Int32)), (.int (0 : Int32)), (.int (0 : Int32))]) rfl (g := (mkF m 12 #[.val (.int i0), .val (.int i1), .val (.int i2), .val (.int i3), .val (.int i4), .val (.int i5), .val (.ref b1), .unset, .unset, .unset] [(.int r_2), (.int (0 : Int32)), (.ref b1)])) rfl rfl at_12
  refine Go.by st3 ?_
  have K0_h3 : Keep h0 h3 [] := K0_h1.trans W3 (allS (Or.inr sz_b1) all0)
  show Go _ _ _ _ (T3.setTop (mkF m 13 #[.val (.int i0), .val (.int i1), .val (.int i2), .val (.int i3), .val (.int i4), .val (.int i5), .val (.ref b1), .unset, .unset, .unset] []))
  refine Go.by (fun _ k => XS.aload X3.here X3.hx rfl (X3.cd at_13) rfl rfl k) ?_
  show Go _ _ _ _ (T3.setTop (mkF m 15 #[.val (.int i0), .val (.int i1), .val (.int i2), .val (.int i3), .val (.int i4), .val (.int i5), .val (.ref b1), .unset, .unset, .unset] [(.ref b1)]))
  refine Go.by (fun _ k => XS.iconst X3.here X3.hx rfl (X3.cd at_15)  k) ?_
  show Go _ _ _ _ (T3.setTop (mkF m 16 #[.val (.int i0), .val (.int i1), .val (.int i2), .val (.int i3), .val (.int i4), .val (.int i5), .val (.ref b1), .unset, .unset, .unset] [(.int (1 : Int32)), (.ref b1)]))
  refine Go.by (fun _ k => XS.iloadN X3.here X3.hx rfl (X3.cd at_16) rfl  k) ?_
  show Go _ _ _ _ (T3.setTop (mkF m 17 #[.val (.int i0), .val (.int i1), .val (.int i2), .val (.int i3), .val (.int i4), .val (.int i5), .val (.ref b1), .unset, .unset, .unset] [(.int i1), (.int (1 : Int32)), (.ref b1)]))
  obtain ⟨_, T4, h4, X4, K4, ⟨r_4, rfl, rfl, p4_0⟩, st4⟩ := X3.stN (W := 2) (hw _ (List.mem_of_getElem? (i := 1) rfl)) (hw _ (List.mem_of_getElem? (i := 2) rfl)) (hw _ (List.mem_of_getElem? (i := 3) rfl)) (hw _ (List.mem_of_getElem? (i := 4) rfl)) (by decide) ((rm_ch l Z a0 hw n0 i1 h3 X3.old ).pay (hw _ (List.mem_of_getElem? (i := 4) rfl)) (hw _ (List.mem_of_getElem? (i := 3) rfl)) (by decide) (by decide)) all0 (g := (mkF m 17 #[.val (.int i0), .val (.int i1), .val (.int i2), .val (.int i3), .val (.int i4), .val (.int i5), .val (.ref b1), .unset, .unset, .unset] [(.int i1), (.int (1 : Int32)), (.ref b1)])) rfl rfl (argsL := [(.int i1)]) (rest := [(.int (1 : Int32)), (.ref b1)]) (lenOf pd_0 rfl) rfl (by exact Nat.le_of_eq rfl) at_17 rfl (by decide) (by decide)
  refine Go.tr st4 ?_
  show Go _ _ _ _ (T4.setTop (mkF m 20 #[.val (.int i0), .val (.int i1), .val (.int i2), .val (.int i3), .val (.int i4), .val (.int i5), .val (.ref b1), .unset, .unset, .unset] [(.int r_4), (.int (1 : Int32)), (.ref b1)]))
  obtain ⟨T5, h5, X5, W5, A5, st5⟩ := X4.stC (x' := r_4) A3 (.head _) ⟨by decide, by decide⟩ (i := 1) rfl (Nat.le_of_ble_eq_true rfl) (nar255 p4_0) (vs' := [(.int r_2), (.int r_4), (.int (0 : Int32)), (.int (0 : Int32)), (.int (0 : Int32))]) rfl (g := (mkF m 20 #[.val (.int i0), .val (.int i1), .val (.int i2), .val (.int i3), .val (.int i4), .val (.int i5), .val (.ref b1), .unset, .unset, .unset] [(.int r_4), (.int (1 : Int32)), (.ref b1)])) rfl rfl at_20
  refine Go.by st5 ?_
  have K0_h5 : Keep h0 h5 [] := K0_h3.trans W5 (allS (Or.inr sz_b1) all0)
  show Go _ _ _ _ (T5.setTop (mkF m 21 #[.val (.int i0), .val (.int i1), .val (.int i2), .val (.int i3), .val (.int i4), .val (.int i5), .val (.ref b1), .unset, .unset, .unset] []))
  refine Go.by (fun _ k => XS.aload X5.here X5.hx rfl (X5.cd at_21) rfl rfl k) ?_
  show Go _ _ _ _ (T5.setTop (mkF m 23 #[.val (.int i0), .val (.int i1), .val (.int i2), .val (.int i3), .val (.int i4), .val (.int i5), .val (.ref b1), .unset, .unset, .unset] [(.ref b1)]))
  refine Go.by (fun _ k => XS.iconst X5.here X5.hx rfl (X5.cd at_23)  k) ?_
  show Go _ _ _ _ (T5.setTop (mkF m 24 #[.val (.int i0), .val (.int i1), .val (.int i2), .val (.int i3), .val (.int i4), .val (.int i5), .val (.ref b1), .unset, .unset, .unset] [(.int (2 : Int32)), (.ref b1)]))
  refine Go.by (fun _ k => XS.iloadN X5.here X5.hx rfl (X5.cd at_24) rfl  k) ?_
  show Go _ _ _ _ (T5.setTop (mkF m 25 #[.val (.int i0), .val (.int i1), .val (.int i2), .val (.int i3), .val (.int i4), .val (.int i5), .val (.ref b1), .unset, .unset, .unset] [(.int i2), (.int (2 : Int32)), (.ref b1)]))
  obtain ⟨_, T6, h6, X6, K6, ⟨r_6, rfl, rfl, p6_0⟩, st6⟩ := X5.stN (W := 2) (hw _ (List.mem_of_getElem? (i := 1) rfl)) (hw _ (List.mem_of_getElem? (i := 2) rfl)) (hw _ (List.mem_of_getElem? (i := 3) rfl)) (hw _ (List.mem_of_getElem? (i := 4) rfl)) (by decide) ((rm_ch l Z a0 hw n0 i2 h5 X5.old ).pay (hw _ (List.mem_of_getElem? (i := 4) rfl)) (hw _ (List.mem_of_getElem? (i := 3) rfl)) (by decide) (by decide)) all0 (g := (mkF m 25 #[.val (.int i0), .val (.int i1), .val (.int i2), .val (.int i3), .val (.int i4), .val (.int i5), .val (.ref b1), .unset, .unset, .unset] [(.int i2), (.int (2 : Int32)), (.ref b1)])) rfl rfl (argsL := [(.int i2)]) (rest := [(.int (2 : Int32)), (.ref b1)]) (lenOf pd_0 rfl) rfl (by exact Nat.le_of_eq rfl) at_25 rfl (by decide) (by decide)
  refine Go.tr st6 ?_
  show Go _ _ _ _ (T6.setTop (mkF m 28 #[.val (.int i0), .val (.int i1), .val (.int i2), .val (.int i3), .val (.int i4), .val (.int i5), .val (.ref b1), .unset, .unset, .unset] [(.int r_6), (.int (2 : Int32)), (.ref b1)]))
  obtain ⟨T7, h7, X7, W7, A7, st7⟩ := X6.stC (x' := r_6) A5 (.head _) ⟨by decide, by decide⟩ (i := 2) rfl (Nat.le_of_ble_eq_true rfl) (nar255 p6_0) (vs' := [(.int r_2), (.int r_4), (.int r_6), (.int (0 : Int32)), (.int (0 : Int32))]) rfl (g := (mkF m 28 #[.val (.int i0), .val (.int i1), .val (.int i2), .val (.int i3), .val (.int i4), .val (.int i5), .val (.ref b1), .unset, .unset, .unset] [(.int r_6), (.int (2 : Int32)), (.ref b1)])) rfl rfl at_28
  refine Go.by st7 ?_
  have K0_h7 : Keep h0 h7 [] := K0_h5.trans W7 (allS (Or.inr sz_b1) all0)
  show Go _ _ _ _ (T7.setTop (mkF m 29 #[.val (.int i0), .val (.int i1), .val (.int i2), .val (.int i3), .val (.int i4), .val (.int i5), .val (.ref b1), .unset, .unset, .unset] []))
  refine Go.by (fun _ k => XS.aload X7.here X7.hx rfl (X7.cd at_29) rfl rfl k) ?_
  show Go _ _ _ _ (T7.setTop (mkF m 31 #[.val (.int i0), .val (.int i1), .val (.int i2), .val (.int i3), .val (.int i4), .val (.int i5), .val (.ref b1), .unset, .unset, .unset] [(.ref b1)]))
  refine Go.by (fun _ k => XS.iconst X7.here X7.hx rfl (X7.cd at_31)  k) ?_
  show Go _ _ _ _ (T7.setTop (mkF m 32 #[.val (.int i0), .val (.int i1), .val (.int i2), .val (.int i3), .val (.int i4), .val (.int i5), .val (.ref b1), .unset, .unset, .unset] [(.int (3 : Int32)), (.ref b1)]))
  refine Go.by (fun _ k => XS.iloadN X7.here X7.hx rfl (X7.cd at_32) rfl  k) ?_
  show Go _ _ _ _ (T7.setTop (mkF m 33 #[.val (.int i0), .val (.int i1), .val (.int i2), .val (.int i3), .val (.int i4), .val (.int i5), .val (.ref b1), .unset, .unset, .unset] [(.int i3), (.int (3 : Int32)), (.ref b1)]))
  obtain ⟨_, T8, h8, X8, K8, ⟨r_8, rfl, rfl, p8_0⟩, st8⟩ := X7.stN (W := 2) (hw _ (List.mem_of_getElem? (i := 1) rfl)) (hw _ (List.mem_of_getElem? (i := 2) rfl)) (hw _ (List.mem_of_getElem? (i := 3) rfl)) (hw _ (List.mem_of_getElem? (i := 4) rfl)) (by decide) ((rm_ch l Z a0 hw n0 i3 h7 X7.old ).pay (hw _ (List.mem_of_getElem? (i := 4) rfl)) (hw _ (List.mem_of_getElem? (i := 3) rfl)) (by decide) (by decide)) all0 (g := (mkF m 33 #[.val (.int i0), .val (.int i1), .val (.int i2), .val (.int i3), .val (.int i4), .val (.int i5), .val (.ref b1), .unset, .unset, .unset] [(.int i3), (.int (3 : Int32)), (.ref b1)])) rfl rfl (argsL := [(.int i3)]) (rest := [(.int (3 : Int32)), (.ref b1)]) (lenOf pd_0 rfl) rfl (by exact Nat.le_of_eq rfl) at_33 rfl (by decide) (by decide)
  refine Go.tr st8 ?_
  show Go _ _ _ _ (T8.setTop (mkF m 36 #[.val (.int i0), .val (.int i1), .val (.int i2), .val (.int i3), .val (.int i4), .val (.int i5), .val (.ref b1), .unset, .unset, .unset] [(.int r_8), (.int (3 : Int32)), (.ref b1)]))
  obtain ⟨T9, h9, X9, W9, A9, st9⟩ := X8.stC (x' := r_8) A7 (.head _) ⟨by decide, by decide⟩ (i := 3) rfl (Nat.le_of_ble_eq_true rfl) (nar255 p8_0) (vs' := [(.int r_2), (.int r_4), (.int r_6), (.int r_8), (.int (0 : Int32))]) rfl (g := (mkF m 36 #[.val (.int i0), .val (.int i1), .val (.int i2), .val (.int i3), .val (.int i4), .val (.int i5), .val (.ref b1), .unset, .unset, .unset] [(.int r_8), (.int (3 : Int32)), (.ref b1)])) rfl rfl at_36
  refine Go.by st9 ?_
  have K0_h9 : Keep h0 h9 [] := K0_h7.trans W9 (allS (Or.inr sz_b1) all0)
  show Go _ _ _ _ (T9.setTop (mkF m 37 #[.val (.int i0), .val (.int i1), .val (.int i2), .val (.int i3), .val (.int i4), .val (.int i5), .val (.ref b1), .unset, .unset, .unset] []))
  refine Go.by (fun _ k => XS.aload X9.here X9.hx rfl (X9.cd at_37) rfl rfl k) ?_
  show Go _ _ _ _ (T9.setTop (mkF m 39 #[.val (.int i0), .val (.int i1), .val (.int i2), .val (.int i3), .val (.int i4), .val (.int i5), .val (.ref b1), .unset, .unset, .unset] [(.ref b1)]))
  refine Go.by (fun _ k => XS.iconst X9.here X9.hx rfl (X9.cd at_39)  k) ?_
  show Go _ _ _ _ (T9.setTop (mkF m 40 #[.val (.int i0), .val (.int i1), .val (.int i2), .val (.int i3), .val (.int i4), .val (.int i5), .val (.ref b1), .unset, .unset, .unset] [(.int (4 : Int32)), (.ref b1)]))
  refine Go.by (fun _ k => XS.iload X9.here X9.hx rfl (X9.cd at_40) rfl  k) ?_
  show Go _ _ _ _ (T9.setTop (mkF m 42 #[.val (.int i0), .val (.int i1), .val (.int i2), .val (.int i3), .val (.int i4), .val (.int i5), .val (.ref b1), .unset, .unset, .unset] [(.int i4), (.int (4 : Int32)), (.ref b1)]))
  obtain ⟨_, T10, h10, X10, K10, ⟨r_10, rfl, rfl, p10_0⟩, st10⟩ := X9.stN (W := 2) (hw _ (List.mem_of_getElem? (i := 1) rfl)) (hw _ (List.mem_of_getElem? (i := 2) rfl)) (hw _ (List.mem_of_getElem? (i := 3) rfl)) (hw _ (List.mem_of_getElem? (i := 4) rfl)) (by decide) ((rm_ch l Z a0 hw n0 i4 h9 X9.old ).pay (hw _ (List.mem_of_getElem? (i := 4) rfl)) (hw _ (List.mem_of_getElem? (i := 3) rfl)) (by decide) (by decide)) all0 (g := (mkF m 42 #[.val (.int i0), .val (.int i1), .val (.int i2), .val (.int i3), .val (.int i4), .val (.int i5), .val (.ref b1), .unset, .unset, .unset] [(.int i4), (.int (4 : Int32)), (.ref b1)])) rfl rfl (argsL := [(.int i4)]) (rest := [(.int (4 : Int32)), (.ref b1)]) (lenOf pd_0 rfl) rfl (by exact Nat.le_of_eq rfl) at_42 rfl (by decide) (by decide)
  refine Go.tr st10 ?_
  show Go _ _ _ _ (T10.setTop (mkF m 45 #[.val (.int i0), .val (.int i1), .val (.int i2), .val (.int i3), .val (.int i4), .val (.int i5), .val (.ref b1), .unset, .unset, .unset] [(.int r_10), (.int (4 : Int32)), (.ref b1)]))
  obtain ⟨T11, h11, X11, W11, A11, st11⟩ := X10.stC (x' := r_10) A9 (.head _) ⟨by decide, by decide⟩ (i := 4) rfl (Nat.le_of_ble_eq_true rfl) (nar255 p10_0) (vs' := [(.int r_2), (.int r_4), (.int r_6), (.int r_8), (.int r_10)]) rfl (g := (mkF m 45 #[.val (.int i0), .val (.int i1), .val (.int i2), .val (.int i3), .val (.int i4), .val (.int i5), .val (.ref b1), .unset, .unset, .unset] [(.int r_10), (.int (4 : Int32)), (.ref b1)])) rfl rfl at_45
  refine Go.by st11 ?_
  have K0_h11 : Keep h0 h11 [] := K0_h9.trans W11 (allS (Or.inr sz_b1) all0)
  show Go _ _ _ _ (T11.setTop (mkF m 46 #[.val (.int i0), .val (.int i1), .val (.int i2), .val (.int i3), .val (.int i4), .val (.int i5), .val (.ref b1), .unset, .unset, .unset] []))
  refine Go.by (fun _ k => XS.iload X11.here X11.hx rfl (X11.cd at_46) rfl  k) ?_
  show Go _ _ _ _ (T11.setTop (mkF m 48 #[.val (.int i0), .val (.int i1), .val (.int i2), .val (.int i3), .val (.int i4), .val (.int i5), .val (.ref b1), .unset, .unset, .unset] [(.int i5)]))
  refine Go.by (fun _ k => X11.ldcI (hw _ (List.mem_of_getElem? (i := 5) rfl)) (g := (mkF m 48 #[.val (.int i0), .val (.int i1), .val (.int i2), .val (.int i3), .val (.int i4), .val (.int i5), .val (.ref b1), .unset, .unset, .unset] [(.int i5)])) rfl at_48 _ k) ?_
  show Go _ _ _ _ (T11.setTop (mkF m 50 #[.val (.int i0), .val (.int i1), .val (.int i2), .val (.int i3), .val (.int i4), .val (.int i5), .val (.ref b1), .unset, .unset, .unset] [(.int (2147483647 : Int32)), (.int i5)]))
  refine Go.by (fun _ k => XS.iand X11.here X11.hx rfl (X11.cd at_50) rfl k) ?_
  show Go _ _ _ _ (T11.setTop (mkF m 51 #[.val (.int i0), .val (.int i1), .val (.int i2), .val (.int i3), .val (.int i4), .val (.int i5), .val (.ref b1), .unset, .unset, .unset] [(.int (i5 &&& (2147483647 : Int32)))]))
  refine Go.by (fun _ k => XS.bipush X11.here X11.hx rfl (X11.cd at_51)  k) ?_
  show Go _ _ _ _ (T11.setTop (mkF m 53 #[.val (.int i0), .val (.int i1), .val (.int i2), .val (.int i3), .val (.int i4), .val (.int i5), .val (.ref b1), .unset, .unset, .unset] [(.int (6 : Int32)), (.int (i5 &&& (2147483647 : Int32)))]))
  refine Go.by (fun _ k => X11.irem (g := (mkF m 53 #[.val (.int i0), .val (.int i1), .val (.int i2), .val (.int i3), .val (.int i4), .val (.int i5), .val (.ref b1), .unset, .unset, .unset] [(.int (6 : Int32)), (.int (i5 &&& (2147483647 : Int32)))])) rfl rfl (by decide) at_53 _ k) ?_
  show Go _ _ _ _ (T11.setTop (mkF m 54 #[.val (.int i0), .val (.int i1), .val (.int i2), .val (.int i3), .val (.int i4), .val (.int i5), .val (.ref b1), .unset, .unset, .unset] [(.int ((i5 &&& (2147483647 : Int32)) % (6 : Int32)))]))
  obtain ⟨j, hj, ej⟩ := own_rem i5 (n := (6 : Int32)) (N := 6) rfl (by decide)
  rw [ej]
  show Go _ _ _ _ (T11.setTop (mkF m 54 #[.val (.int i0), .val (.int i1), .val (.int i2), .val (.int i3), .val (.int i4), .val (.int i5), .val (.ref b1), .unset, .unset, .unset] [(.int (Int32.ofNat j))]))
  refine Go.by (fun _ k => XS.istore X11.here X11.hx rfl (X11.cd at_54) rfl (l' := #[.val (.int i0), .val (.int i1), .val (.int i2), .val (.int i3), .val (.int i4), .val (.int i5), .val (.ref b1), .val (.int (Int32.ofNat j)), .unset, .unset]) rfl k) ?_
  show Go _ _ _ _ (T11.setTop (mkF m 56 #[.val (.int i0), .val (.int i1), .val (.int i2), .val (.int i3), .val (.int i4), .val (.int i5), .val (.ref b1), .val (.int (Int32.ofNat j)), .unset, .unset] []))
  have lt_b1_12 := (X11.lt (.head _))
  obtain ⟨T12, h12, b12, g_b12, X12, E12, A12, D12, st12⟩ := X11.new (hw _ (List.mem_of_getElem? (i := 6) rfl)) (hw _ (List.mem_of_getElem? (i := 7) rfl)) (hw _ (List.mem_of_getElem? (i := 8) rfl)) (g := (mkF m 56 #[.val (.int i0), .val (.int i1), .val (.int i2), .val (.int i3), .val (.int i4), .val (.int i5), .val (.ref b1), .val (.int (Int32.ofNat j)), .unset, .unset] [])) rfl at_56 (by decide) (by decide)
  refine Go.by st12 ?_
  have ne_b1_b12 : b1 ≠ b12 := ne_new lt_b1_12 g_b12
  have sz_b12 : h0.size ≤ b12 := Nat.le_trans X11.sz (Nat.le_of_eq g_b12.symm)
  have K0_h12 : Keep h0 h12 [] := K0_h11.ext E12
  have F12_text : Fld Z h12 b12 "com/example/rivulet/rivulet/Source" "text" "Ljava/lang/String;" .null := D12 (Or.inr (hw _ (List.mem_of_getElem? (i := 43) rfl))) (ty := (.object "java/lang/String")) (by decide)
  show Go _ _ _ _ (T12.setTop (mkF m 59 #[.val (.int i0), .val (.int i1), .val (.int i2), .val (.int i3), .val (.int i4), .val (.int i5), .val (.ref b1), .val (.int (Int32.ofNat j)), .unset, .unset] [(.ref b12)]))
  refine Go.by (fun _ k => XS.dup X12.here X12.hx rfl (X12.cd at_59) rfl rfl k) ?_
  show Go _ _ _ _ (T12.setTop (mkF m 60 #[.val (.int i0), .val (.int i1), .val (.int i2), .val (.int i3), .val (.int i4), .val (.int i5), .val (.ref b1), .val (.int (Int32.ofNat j)), .unset, .unset] [(.ref b12), (.ref b12)]))
  have lt_b1_13 := (X12.lt (.tail _ (.head _)))
  have lt_b12_13 := (X12.lt (.head _))
  obtain ⟨T13, h13, b13, g_b13, X13, E13, A13, D13, st13⟩ := X12.new (hw _ (List.mem_of_getElem? (i := 9) rfl)) (hw _ (List.mem_of_getElem? (i := 10) rfl)) (hw _ (List.mem_of_getElem? (i := 11) rfl)) (g := (mkF m 60 #[.val (.int i0), .val (.int i1), .val (.int i2), .val (.int i3), .val (.int i4), .val (.int i5), .val (.ref b1), .val (.int (Int32.ofNat j)), .unset, .unset] [(.ref b12), (.ref b12)])) rfl at_60 (by decide) (by decide)
  refine Go.by st13 ?_
  have ne_b1_b13 : b1 ≠ b13 := ne_new lt_b1_13 g_b13
  have ne_b12_b13 : b12 ≠ b13 := ne_new lt_b12_13 g_b13
  have sz_b13 : h0.size ≤ b13 := Nat.le_trans X12.sz (Nat.le_of_eq g_b13.symm)
  have K0_h13 : Keep h0 h13 [] := K0_h12.ext E13
  have F13_coder : Fld Z h13 b13 "java/lang/String" "coder" "B" (.int (0 : Int32)) := D13 (Or.inr (hw _ (List.mem_of_getElem? (i := 35) rfl))) (ty := .byte) (by decide)
  have F13_value : Fld Z h13 b13 "java/lang/String" "value" "[B" .null := D13 (Or.inr (hw _ (List.mem_of_getElem? (i := 37) rfl))) (ty := (.array .byte)) (by decide)
  show Go _ _ _ _ (T13.setTop (mkF m 63 #[.val (.int i0), .val (.int i1), .val (.int i2), .val (.int i3), .val (.int i4), .val (.int i5), .val (.ref b1), .val (.int (Int32.ofNat j)), .unset, .unset] [(.ref b13), (.ref b12), (.ref b12)]))
  refine Go.by (fun _ k => XS.dup X13.here X13.hx rfl (X13.cd at_63) rfl rfl k) ?_
  show Go _ _ _ _ (T13.setTop (mkF m 64 #[.val (.int i0), .val (.int i1), .val (.int i2), .val (.int i3), .val (.int i4), .val (.int i5), .val (.ref b1), .val (.int (Int32.ofNat j)), .unset, .unset] [(.ref b13), (.ref b13), (.ref b12), (.ref b12)]))
  refine Go.by (fun _ k => XS.aload X13.here X13.hx rfl (X13.cd at_64) rfl rfl k) ?_
  show Go _ _ _ _ (T13.setTop (mkF m 66 #[.val (.int i0), .val (.int i1), .val (.int i2), .val (.int i3), .val (.int i4), .val (.int i5), .val (.ref b1), .val (.int (Int32.ofNat j)), .unset, .unset] [(.ref b1), (.ref b13), (.ref b13), (.ref b12), (.ref b12)]))
  have f14 : Arv Z h13 b1 k1 .char (5 : Int32) [(.int r_2), (.int r_4), (.int r_6), (.int r_8), (.int r_10)] (.int (0 : Int32)) := (A11.ext E12).ext E13
  have lt_b1_15 := (X13.lt (.tail _ (.tail _ (.head _))))
  have lt_b12_15 := (X13.lt (.tail _ (.head _)))
  have lt_b13_15 := (X13.lt (.head _))
  obtain ⟨_, T15, h15, X15, K15, ⟨t_15, rfl, fr_t_15, fl_t_15, P15_0⟩, st15⟩ := X13.spN (W := 3) rfl (hw _ (List.mem_of_getElem? (i := 12) rfl)) (hw _ (List.mem_of_getElem? (i := 13) rfl)) (hw _ (List.mem_of_getElem? (i := 14) rfl)) (by decide) (payNew (fun d hd => hw d ((by decide +kernel : ∀ d ∈ StrChars.Road.words, d ∈ tables_1) d hd)) (hw _ (List.mem_of_getElem? (i := 10) rfl)) (cs := [r_2, r_4, r_6, r_8, r_10]) (n := 5) X13.old (X13.ge (.head _)) A13 F13_value F13_coder f14 Sc nc rfl rfl (by decide) (by decide) (all1 p2_0 (all1 p4_0 (all1 p6_0 (all1 p8_0 (all1 p10_0 alln))))) (by decide) (by decide)) (allS (.head _) all0) (g := (mkF m 66 #[.val (.int i0), .val (.int i1), .val (.int i2), .val (.int i3), .val (.int i4), .val (.int i5), .val (.ref b1), .val (.int (Int32.ofNat j)), .unset, .unset] [(.ref b1), (.ref b13), (.ref b13), (.ref b12), (.ref b12)])) rfl rfl (a := b13) (argsL := [(.ref b1)]) (rest := [(.ref b13), (.ref b12), (.ref b12)]) (lenOf pd_1 rfl) rfl (by exact Nat.le_of_eq rfl) at_66 rfl (by decide) (by decide)
  refine Go.tr st15 ?_
  have K0_h15 : Keep h0 h15 [] := K0_h13.trans K15 (allS (Or.inr sz_b13) all0)
  have ne_b1_t_15 : b1 ≠ t_15 := ne_ge lt_b1_15 fr_t_15
  have ne_b12_t_15 : b12 ≠ t_15 := ne_ge lt_b12_15 fr_t_15
  have ne_b13_t_15 : b13 ≠ t_15 := ne_ge lt_b13_15 fr_t_15
  have sz_t_15 : h0.size ≤ t_15 := Nat.le_trans X13.sz fr_t_15
  show Go _ _ _ _ (T15.setTop (mkF m 69 #[.val (.int i0), .val (.int i1), .val (.int i2), .val (.int i3), .val (.int i4), .val (.int i5), .val (.ref b1), .val (.int (Int32.ofNat j)), .unset, .unset] [(.ref b13), (.ref b12), (.ref b12)]))
  have f16 : Exa Z h15 b12 "com/example/rivulet/rivulet/Source" := (A12.ext E13).keep K15
  have f17 : Fld Z h15 b12 "com/example/rivulet/rivulet/Source" "text" "Ljava/lang/String;" .null := (F12_text.ext E13).keep K15 (ninS ne_b12_b13 nin0)
  obtain ⟨_, T18, h18, X18, K18, ⟨rfl, P18_0⟩, st18⟩ := X15.spN (W := 1) rfl (hw _ (List.mem_of_getElem? (i := 38) rfl)) (hw _ (List.mem_of_getElem? (i := 39) rfl)) (hw _ (List.mem_of_getElem? (i := 40) rfl)) (by decide) ((rm_ini l Z a0 hw n0 b12 b13 .null h15 X15.old f16 f17 (X15.ge (.tail _ (.head _))) (X15.lt (.tail _ (.head _)))).pay (hw _ (List.mem_of_getElem? (i := 40) rfl)) (hw _ (List.mem_of_getElem? (i := 8) rfl)) (by decide) (by decide)) (allS (.tail _ (.head _)) all0) (g := (mkF m 69 #[.val (.int i0), .val (.int i1), .val (.int i2), .val (.int i3), .val (.int i4), .val (.int i5), .val (.ref b1), .val (.int (Int32.ofNat j)), .unset, .unset] [(.ref b13), (.ref b12), (.ref b12)])) rfl rfl (a := b12) (argsL := [(.ref b13)]) (rest := [(.ref b12)]) (lenOf pd_2 rfl) rfl (by exact Nat.le_of_eq rfl) at_69 rfl (by decide) (by decide)
  refine Go.tr st18 ?_
  have K0_h18 : Keep h0 h18 [] := K0_h15.trans K18 (allS (Or.inr sz_b12) all0)
  show Go _ _ _ _ (T18.setTop (mkF m 72 #[.val (.int i0), .val (.int i1), .val (.int i2), .val (.int i3), .val (.int i4), .val (.int i5), .val (.ref b1), .val (.int (Int32.ofNat j)), .unset, .unset] [(.ref b12)]))
  refine Go.by (fun _ k => XS.astore X18.here X18.hx rfl (X18.cd at_72) rfl rfl (l' := #[.val (.int i0), .val (.int i1), .val (.int i2), .val (.int i3), .val (.int i4), .val (.int i5), .val (.ref b1), .val (.int (Int32.ofNat j)), .val (.ref b12), .unset]) rfl k) ?_
  show Go _ _ _ _ (T18.setTop (mkF m 74 #[.val (.int i0), .val (.int i1), .val (.int i2), .val (.int i3), .val (.int i4), .val (.int i5), .val (.ref b1), .val (.int (Int32.ofNat j)), .val (.ref b12), .unset] []))
  refine Go.by (fun _ k => XS.iconst X18.here X18.hx rfl (X18.cd at_74)  k) ?_
  show Go _ _ _ _ (T18.setTop (mkF m 75 #[.val (.int i0), .val (.int i1), .val (.int i2), .val (.int i3), .val (.int i4), .val (.int i5), .val (.ref b1), .val (.int (Int32.ofNat j)), .val (.ref b12), .unset] [(.int (1 : Int32))]))
  refine Go.by (fun _ k => XS.aload X18.here X18.hx rfl (X18.cd at_75) rfl rfl k) ?_
  show Go _ _ _ _ (T18.setTop (mkF m 77 #[.val (.int i0), .val (.int i1), .val (.int i2), .val (.int i3), .val (.int i4), .val (.int i5), .val (.ref b1), .val (.int (Int32.ofNat j)), .val (.ref b12), .unset] [(.ref b1), (.int (1 : Int32))]))
  refine Go.by (fun _ k => XS.iconst X18.here X18.hx rfl (X18.cd at_77)  k) ?_
  show Go _ _ _ _ (T18.setTop (mkF m 78 #[.val (.int i0), .val (.int i1), .val (.int i2), .val (.int i3), .val (.int i4), .val (.int i5), .val (.ref b1), .val (.int (Int32.ofNat j)), .val (.ref b12), .unset] [(.int (0 : Int32)), (.ref b1), (.int (1 : Int32))]))
  have f19 : Arv Z h18 b1 k1 .char (5 : Int32) [(.int r_2), (.int r_4), (.int r_6), (.int r_8), (.int r_10)] (.int (0 : Int32)) := ((f14).keep K15 (ninS ne_b1_b13 nin0)).keep K18 (ninS ne_b1_b12 nin0)
  refine Go.by (fun _ k => X18.ldA f19 ⟨by decide, by decide⟩ (v := (.int r_2)) rfl (Or.inr (Or.inl ⟨rfl, rfl⟩)) (g := (mkF m 78 #[.val (.int i0), .val (.int i1), .val (.int i2), .val (.int i3), .val (.int i4), .val (.int i5), .val (.ref b1), .val (.int (Int32.ofNat j)), .val (.ref b12), .unset] [(.int (0 : Int32)), (.ref b1), (.int (1 : Int32))])) rfl rfl at_78 _ k) ?_
  show Go _ _ _ _ (T18.setTop (mkF m 79 #[.val (.int i0), .val (.int i1), .val (.int i2), .val (.int i3), .val (.int i4), .val (.int i5), .val (.ref b1), .val (.int (Int32.ofNat j)), .val (.ref b12), .unset] [(.int r_2), (.int (1 : Int32))]))
  refine Go.by (fun _ k => XS.iconst X18.here X18.hx rfl (X18.cd at_79)  k) ?_
  show Go _ _ _ _ (T18.setTop (mkF m 80 #[.val (.int i0), .val (.int i1), .val (.int i2), .val (.int i3), .val (.int i4), .val (.int i5), .val (.ref b1), .val (.int (Int32.ofNat j)), .val (.ref b12), .unset] [(.int (0 : Int32)), (.int r_2), (.int (1 : Int32))]))
  refine Go.by (fun _ k => XS.iload X18.here X18.hx rfl (X18.cd at_80) rfl  k) ?_
  show Go _ _ _ _ (T18.setTop (mkF m 82 #[.val (.int i0), .val (.int i1), .val (.int i2), .val (.int i3), .val (.int i4), .val (.int i5), .val (.ref b1), .val (.int (Int32.ofNat j)), .val (.ref b12), .unset] [(.int (Int32.ofNat j)), (.int (0 : Int32)), (.int r_2), (.int (1 : Int32))]))
  obtain ⟨_, T20, h20, X20, K20, ⟨rfl, rfl⟩, st20⟩ := X18.stN (W := 1) (hw _ (List.mem_of_getElem? (i := 44) rfl)) (hw _ (List.mem_of_getElem? (i := 45) rfl)) (hw _ (List.mem_of_getElem? (i := 3) rfl)) (hw _ (List.mem_of_getElem? (i := 46) rfl)) (by decide) ((rm_nl l Z a0 hw n0 r_2 (0 : Int32) (Int32.ofNat j) h18 X18.old ).pay (hw _ (List.mem_of_getElem? (i := 46) rfl)) (hw _ (List.mem_of_getElem? (i := 3) rfl)) (by decide) (by decide)) all0 (g := (mkF m 82 #[.val (.int i0), .val (.int i1), .val (.int i2), .val (.int i3), .val (.int i4), .val (.int i5), .val (.ref b1), .val (.int (Int32.ofNat j)), .val (.ref b12), .unset] [(.int (Int32.ofNat j)), (.int (0 : Int32)), (.int r_2), (.int (1 : Int32))])) rfl rfl (argsL := [(.int r_2), (.int (0 : Int32)), (.int (Int32.ofNat j))]) (rest := [(.int (1 : Int32))]) (lenOf pd_3 rfl) rfl (by exact Nat.le_of_eq rfl) at_82 rfl (by decide) (by decide)
  refine Go.tr st20 ?_
  show Go _ _ _ _ (T20.setTop (mkF m 85 #[.val (.int i0), .val (.int i1), .val (.int i2), .val (.int i3), .val (.int i4), .val (.int i5), .val (.ref b1), .val (.int (Int32.ofNat j)), .val (.ref b12), .unset] [(.int (own_nl r_2 (0 : Int32) (Int32.ofNat j))), (.int (1 : Int32))]))
  refine Go.by (fun _ k => XS.iadd X20.here X20.hx rfl (X20.cd at_85) rfl k) ?_
  show Go _ _ _ _ (T20.setTop (mkF m 86 #[.val (.int i0), .val (.int i1), .val (.int i2), .val (.int i3), .val (.int i4), .val (.int i5), .val (.ref b1), .val (.int (Int32.ofNat j)), .val (.ref b12), .unset] [(.int ((1 : Int32) + (own_nl r_2 (0 : Int32) (Int32.ofNat j))))]))
  refine Go.by (fun _ k => XS.aload X20.here X20.hx rfl (X20.cd at_86) rfl rfl k) ?_
  show Go _ _ _ _ (T20.setTop (mkF m 88 #[.val (.int i0), .val (.int i1), .val (.int i2), .val (.int i3), .val (.int i4), .val (.int i5), .val (.ref b1), .val (.int (Int32.ofNat j)), .val (.ref b12), .unset] [(.ref b1), (.int ((1 : Int32) + (own_nl r_2 (0 : Int32) (Int32.ofNat j))))]))
  refine Go.by (fun _ k => XS.iconst X20.here X20.hx rfl (X20.cd at_88)  k) ?_
  show Go _ _ _ _ (T20.setTop (mkF m 89 #[.val (.int i0), .val (.int i1), .val (.int i2), .val (.int i3), .val (.int i4), .val (.int i5), .val (.ref b1), .val (.int (Int32.ofNat j)), .val (.ref b12), .unset] [(.int (1 : Int32)), (.ref b1), (.int ((1 : Int32) + (own_nl r_2 (0 : Int32) (Int32.ofNat j))))]))
  refine Go.by (fun _ k => X20.ldA f19 ⟨by decide, by decide⟩ (v := (.int r_4)) rfl (Or.inr (Or.inl ⟨rfl, rfl⟩)) (g := (mkF m 89 #[.val (.int i0), .val (.int i1), .val (.int i2), .val (.int i3), .val (.int i4), .val (.int i5), .val (.ref b1), .val (.int (Int32.ofNat j)), .val (.ref b12), .unset] [(.int (1 : Int32)), (.ref b1), (.int ((1 : Int32) + (own_nl r_2 (0 : Int32) (Int32.ofNat j))))])) rfl rfl at_89 _ k) ?_
  show Go _ _ _ _ (T20.setTop (mkF m 90 #[.val (.int i0), .val (.int i1), .val (.int i2), .val (.int i3), .val (.int i4), .val (.int i5), .val (.ref b1), .val (.int (Int32.ofNat j)), .val (.ref b12), .unset] [(.int r_4), (.int ((1 : Int32) + (own_nl r_2 (0 : Int32) (Int32.ofNat j))))]))
  refine Go.by (fun _ k => XS.iconst X20.here X20.hx rfl (X20.cd at_90)  k) ?_
  show Go _ _ _ _ (T20.setTop (mkF m 91 #[.val (.int i0), .val (.int i1), .val (.int i2), .val (.int i3), .val (.int i4), .val (.int i5), .val (.ref b1), .val (.int (Int32.ofNat j)), .val (.ref b12), .unset] [(.int (1 : Int32)), (.int r_4), (.int ((1 : Int32) + (own_nl r_2 (0 : Int32) (Int32.ofNat j))))]))
  refine Go.by (fun _ k => XS.iload X20.here X20.hx rfl (X20.cd at_91) rfl  k) ?_
  show Go _ _ _ _ (T20.setTop (mkF m 93 #[.val (.int i0), .val (.int i1), .val (.int i2), .val (.int i3), .val (.int i4), .val (.int i5), .val (.ref b1), .val (.int (Int32.ofNat j)), .val (.ref b12), .unset] [(.int (Int32.ofNat j)), (.int (1 : Int32)), (.int r_4), (.int ((1 : Int32) + (own_nl r_2 (0 : Int32) (Int32.ofNat j))))]))
  obtain ⟨_, T21, h21, X21, K21, ⟨rfl, rfl⟩, st21⟩ := X20.stN (W := 1) (hw _ (List.mem_of_getElem? (i := 44) rfl)) (hw _ (List.mem_of_getElem? (i := 45) rfl)) (hw _ (List.mem_of_getElem? (i := 3) rfl)) (hw _ (List.mem_of_getElem? (i := 46) rfl)) (by decide) ((rm_nl l Z a0 hw n0 r_4 (1 : Int32) (Int32.ofNat j) h18 X20.old ).pay (hw _ (List.mem_of_getElem? (i := 46) rfl)) (hw _ (List.mem_of_getElem? (i := 3) rfl)) (by decide) (by decide)) all0 (g := (mkF m 93 #[.val (.int i0), .val (.int i1), .val (.int i2), .val (.int i3), .val (.int i4), .val (.int i5), .val (.ref b1), .val (.int (Int32.ofNat j)), .val (.ref b12), .unset] [(.int (Int32.ofNat j)), (.int (1 : Int32)), (.int r_4), (.int ((1 : Int32) + (own_nl r_2 (0 : Int32) (Int32.ofNat j))))])) rfl rfl (argsL := [(.int r_4), (.int (1 : Int32)), (.int (Int32.ofNat j))]) (rest := [(.int ((1 : Int32) + (own_nl r_2 (0 : Int32) (Int32.ofNat j))))]) (lenOf pd_3 rfl) rfl (by exact Nat.le_of_eq rfl) at_93 rfl (by decide) (by decide)
  refine Go.tr st21 ?_
  show Go _ _ _ _ (T21.setTop (mkF m 96 #[.val (.int i0), .val (.int i1), .val (.int i2), .val (.int i3), .val (.int i4), .val (.int i5), .val (.ref b1), .val (.int (Int32.ofNat j)), .val (.ref b12), .unset] [(.int (own_nl r_4 (1 : Int32) (Int32.ofNat j))), (.int ((1 : Int32) + (own_nl r_2 (0 : Int32) (Int32.ofNat j))))]))
  refine Go.by (fun _ k => XS.iadd X21.here X21.hx rfl (X21.cd at_96) rfl k) ?_
  show Go _ _ _ _ (T21.setTop (mkF m 97 #[.val (.int i0), .val (.int i1), .val (.int i2), .val (.int i3), .val (.int i4), .val (.int i5), .val (.ref b1), .val (.int (Int32.ofNat j)), .val (.ref b12), .unset] [(.int (((1 : Int32) + (own_nl r_2 (0 : Int32) (Int32.ofNat j))) + (own_nl r_4 (1 : Int32) (Int32.ofNat j))))]))
  refine Go.by (fun _ k => XS.aload X21.here X21.hx rfl (X21.cd at_97) rfl rfl k) ?_
  show Go _ _ _ _ (T21.setTop (mkF m 99 #[.val (.int i0), .val (.int i1), .val (.int i2), .val (.int i3), .val (.int i4), .val (.int i5), .val (.ref b1), .val (.int (Int32.ofNat j)), .val (.ref b12), .unset] [(.ref b1), (.int (((1 : Int32) + (own_nl r_2 (0 : Int32) (Int32.ofNat j))) + (own_nl r_4 (1 : Int32) (Int32.ofNat j))))]))
  refine Go.by (fun _ k => XS.iconst X21.here X21.hx rfl (X21.cd at_99)  k) ?_
  show Go _ _ _ _ (T21.setTop (mkF m 100 #[.val (.int i0), .val (.int i1), .val (.int i2), .val (.int i3), .val (.int i4), .val (.int i5), .val (.ref b1), .val (.int (Int32.ofNat j)), .val (.ref b12), .unset] [(.int (2 : Int32)), (.ref b1), (.int (((1 : Int32) + (own_nl r_2 (0 : Int32) (Int32.ofNat j))) + (own_nl r_4 (1 : Int32) (Int32.ofNat j))))]))
  refine Go.by (fun _ k => X21.ldA f19 ⟨by decide, by decide⟩ (v := (.int r_6)) rfl (Or.inr (Or.inl ⟨rfl, rfl⟩)) (g := (mkF m 100 #[.val (.int i0), .val (.int i1), .val (.int i2), .val (.int i3), .val (.int i4), .val (.int i5), .val (.ref b1), .val (.int (Int32.ofNat j)), .val (.ref b12), .unset] [(.int (2 : Int32)), (.ref b1), (.int (((1 : Int32) + (own_nl r_2 (0 : Int32) (Int32.ofNat j))) + (own_nl r_4 (1 : Int32) (Int32.ofNat j))))])) rfl rfl at_100 _ k) ?_
  show Go _ _ _ _ (T21.setTop (mkF m 101 #[.val (.int i0), .val (.int i1), .val (.int i2), .val (.int i3), .val (.int i4), .val (.int i5), .val (.ref b1), .val (.int (Int32.ofNat j)), .val (.ref b12), .unset] [(.int r_6), (.int (((1 : Int32) + (own_nl r_2 (0 : Int32) (Int32.ofNat j))) + (own_nl r_4 (1 : Int32) (Int32.ofNat j))))]))
  refine Go.by (fun _ k => XS.iconst X21.here X21.hx rfl (X21.cd at_101)  k) ?_
  show Go _ _ _ _ (T21.setTop (mkF m 102 #[.val (.int i0), .val (.int i1), .val (.int i2), .val (.int i3), .val (.int i4), .val (.int i5), .val (.ref b1), .val (.int (Int32.ofNat j)), .val (.ref b12), .unset] [(.int (2 : Int32)), (.int r_6), (.int (((1 : Int32) + (own_nl r_2 (0 : Int32) (Int32.ofNat j))) + (own_nl r_4 (1 : Int32) (Int32.ofNat j))))]))
  refine Go.by (fun _ k => XS.iload X21.here X21.hx rfl (X21.cd at_102) rfl  k) ?_
  show Go _ _ _ _ (T21.setTop (mkF m 104 #[.val (.int i0), .val (.int i1), .val (.int i2), .val (.int i3), .val (.int i4), .val (.int i5), .val (.ref b1), .val (.int (Int32.ofNat j)), .val (.ref b12), .unset] [(.int (Int32.ofNat j)), (.int (2 : Int32)), (.int r_6), (.int (((1 : Int32) + (own_nl r_2 (0 : Int32) (Int32.ofNat j))) + (own_nl r_4 (1 : Int32) (Int32.ofNat j))))]))
  obtain ⟨_, T22, h22, X22, K22, ⟨rfl, rfl⟩, st22⟩ := X21.stN (W := 1) (hw _ (List.mem_of_getElem? (i := 44) rfl)) (hw _ (List.mem_of_getElem? (i := 45) rfl)) (hw _ (List.mem_of_getElem? (i := 3) rfl)) (hw _ (List.mem_of_getElem? (i := 46) rfl)) (by decide) ((rm_nl l Z a0 hw n0 r_6 (2 : Int32) (Int32.ofNat j) h18 X21.old ).pay (hw _ (List.mem_of_getElem? (i := 46) rfl)) (hw _ (List.mem_of_getElem? (i := 3) rfl)) (by decide) (by decide)) all0 (g := (mkF m 104 #[.val (.int i0), .val (.int i1), .val (.int i2), .val (.int i3), .val (.int i4), .val (.int i5), .val (.ref b1), .val (.int (Int32.ofNat j)), .val (.ref b12), .unset] [(.int (Int32.ofNat j)), (.int (2 : Int32)), (.int r_6), (.int (((1 : Int32) + (own_nl r_2 (0 : Int32) (Int32.ofNat j))) + (own_nl r_4 (1 : Int32) (Int32.ofNat j))))])) rfl rfl (argsL := [(.int r_6), (.int (2 : Int32)), (.int (Int32.ofNat j))]) (rest := [(.int (((1 : Int32) + (own_nl r_2 (0 : Int32) (Int32.ofNat j))) + (own_nl r_4 (1 : Int32) (Int32.ofNat j))))]) (lenOf pd_3 rfl) rfl (by exact Nat.le_of_eq rfl) at_104 rfl (by decide) (by decide)
  refine Go.tr st22 ?_
  show Go _ _ _ _ (T22.setTop (mkF m 107 #[.val (.int i0), .val (.int i1), .val (.int i2), .val (.int i3), .val (.int i4), .val (.int i5), .val (.ref b1), .val (.int (Int32.ofNat j)), .val (.ref b12), .unset] [(.int (own_nl r_6 (2 : Int32) (Int32.ofNat j))), (.int (((1 : Int32) + (own_nl r_2 (0 : Int32) (Int32.ofNat j))) + (own_nl r_4 (1 : Int32) (Int32.ofNat j))))]))
  refine Go.by (fun _ k => XS.iadd X22.here X22.hx rfl (X22.cd at_107) rfl k) ?_
  show Go _ _ _ _ (T22.setTop (mkF m 108 #[.val (.int i0), .val (.int i1), .val (.int i2), .val (.int i3), .val (.int i4), .val (.int i5), .val (.ref b1), .val (.int (Int32.ofNat j)), .val (.ref b12), .unset] [(.int ((((1 : Int32) + (own_nl r_2 (0 : Int32) (Int32.ofNat j))) + (own_nl r_4 (1 : Int32) (Int32.ofNat j))) + (own_nl r_6 (2 : Int32) (Int32.ofNat j))))]))
  refine Go.by (fun _ k => XS.aload X22.here X22.hx rfl (X22.cd at_108) rfl rfl k) ?_
  show Go _ _ _ _ (T22.setTop (mkF m 110 #[.val (.int i0), .val (.int i1), .val (.int i2), .val (.int i3), .val (.int i4), .val (.int i5), .val (.ref b1), .val (.int (Int32.ofNat j)), .val (.ref b12), .unset] [(.ref b1), (.int ((((1 : Int32) + (own_nl r_2 (0 : Int32) (Int32.ofNat j))) + (own_nl r_4 (1 : Int32) (Int32.ofNat j))) + (own_nl r_6 (2 : Int32) (Int32.ofNat j))))]))
  refine Go.by (fun _ k => XS.iconst X22.here X22.hx rfl (X22.cd at_110)  k) ?_
  show Go _ _ _ _ (T22.setTop (mkF m 111 #[.val (.int i0), .val (.int i1), .val (.int i2), .val (.int i3), .val (.int i4), .val (.int i5), .val (.ref b1), .val (.int (Int32.ofNat j)), .val (.ref b12), .unset] [(.int (3 : Int32)), (.ref b1), (.int ((((1 : Int32) + (own_nl r_2 (0 : Int32) (Int32.ofNat j))) + (own_nl r_4 (1 : Int32) (Int32.ofNat j))) + (own_nl r_6 (2 : Int32) (Int32.ofNat j))))]))
  refine Go.by (fun _ k => X22.ldA f19 ⟨by decide, by decide⟩ (v := (.int r_8)) rfl (Or.inr (Or.inl ⟨rfl, rfl⟩)) (g := (mkF m 111 #[.val (.int i0), .val (.int i1), .val (.int i2), .val (.int i3), .val (.int i4), .val (.int i5), .val (.ref b1), .val (.int (Int32.ofNat j)), .val (.ref b12), .unset] [(.int (3 : Int32)), (.ref b1), (.int ((((1 : Int32) + (own_nl r_2 (0 : Int32) (Int32.ofNat j))) + (own_nl r_4 (1 : Int32) (Int32.ofNat j))) + (own_nl r_6 (2 : Int32) (Int32.ofNat j))))])) rfl rfl at_111 _ k) ?_
  show Go _ _ _ _ (T22.setTop (mkF m 112 #[.val (.int i0), .val (.int i1), .val (.int i2), .val (.int i3), .val (.int i4), .val (.int i5), .val (.ref b1), .val (.int (Int32.ofNat j)), .val (.ref b12), .unset] [(.int r_8), (.int ((((1 : Int32) + (own_nl r_2 (0 : Int32) (Int32.ofNat j))) + (own_nl r_4 (1 : Int32) (Int32.ofNat j))) + (own_nl r_6 (2 : Int32) (Int32.ofNat j))))]))
  refine Go.by (fun _ k => XS.iconst X22.here X22.hx rfl (X22.cd at_112)  k) ?_
  show Go _ _ _ _ (T22.setTop (mkF m 113 #[.val (.int i0), .val (.int i1), .val (.int i2), .val (.int i3), .val (.int i4), .val (.int i5), .val (.ref b1), .val (.int (Int32.ofNat j)), .val (.ref b12), .unset] [(.int (3 : Int32)), (.int r_8), (.int ((((1 : Int32) + (own_nl r_2 (0 : Int32) (Int32.ofNat j))) + (own_nl r_4 (1 : Int32) (Int32.ofNat j))) + (own_nl r_6 (2 : Int32) (Int32.ofNat j))))]))
  refine Go.by (fun _ k => XS.iload X22.here X22.hx rfl (X22.cd at_113) rfl  k) ?_
  show Go _ _ _ _ (T22.setTop (mkF m 115 #[.val (.int i0), .val (.int i1), .val (.int i2), .val (.int i3), .val (.int i4), .val (.int i5), .val (.ref b1), .val (.int (Int32.ofNat j)), .val (.ref b12), .unset] [(.int (Int32.ofNat j)), (.int (3 : Int32)), (.int r_8), (.int ((((1 : Int32) + (own_nl r_2 (0 : Int32) (Int32.ofNat j))) + (own_nl r_4 (1 : Int32) (Int32.ofNat j))) + (own_nl r_6 (2 : Int32) (Int32.ofNat j))))]))
  obtain ⟨_, T23, h23, X23, K23, ⟨rfl, rfl⟩, st23⟩ := X22.stN (W := 1) (hw _ (List.mem_of_getElem? (i := 44) rfl)) (hw _ (List.mem_of_getElem? (i := 45) rfl)) (hw _ (List.mem_of_getElem? (i := 3) rfl)) (hw _ (List.mem_of_getElem? (i := 46) rfl)) (by decide) ((rm_nl l Z a0 hw n0 r_8 (3 : Int32) (Int32.ofNat j) h18 X22.old ).pay (hw _ (List.mem_of_getElem? (i := 46) rfl)) (hw _ (List.mem_of_getElem? (i := 3) rfl)) (by decide) (by decide)) all0 (g := (mkF m 115 #[.val (.int i0), .val (.int i1), .val (.int i2), .val (.int i3), .val (.int i4), .val (.int i5), .val (.ref b1), .val (.int (Int32.ofNat j)), .val (.ref b12), .unset] [(.int (Int32.ofNat j)), (.int (3 : Int32)), (.int r_8), (.int ((((1 : Int32) + (own_nl r_2 (0 : Int32) (Int32.ofNat j))) + (own_nl r_4 (1 : Int32) (Int32.ofNat j))) + (own_nl r_6 (2 : Int32) (Int32.ofNat j))))])) rfl rfl (argsL := [(.int r_8), (.int (3 : Int32)), (.int (Int32.ofNat j))]) (rest := [(.int ((((1 : Int32) + (own_nl r_2 (0 : Int32) (Int32.ofNat j))) + (own_nl r_4 (1 : Int32) (Int32.ofNat j))) + (own_nl r_6 (2 : Int32) (Int32.ofNat j))))]) (lenOf pd_3 rfl) rfl (by exact Nat.le_of_eq rfl) at_115 rfl (by decide) (by decide)
  refine Go.tr st23 ?_
  show Go _ _ _ _ (T23.setTop (mkF m 118 #[.val (.int i0), .val (.int i1), .val (.int i2), .val (.int i3), .val (.int i4), .val (.int i5), .val (.ref b1), .val (.int (Int32.ofNat j)), .val (.ref b12), .unset] [(.int (own_nl r_8 (3 : Int32) (Int32.ofNat j))), (.int ((((1 : Int32) + (own_nl r_2 (0 : Int32) (Int32.ofNat j))) + (own_nl r_4 (1 : Int32) (Int32.ofNat j))) + (own_nl r_6 (2 : Int32) (Int32.ofNat j))))]))
  refine Go.by (fun _ k => XS.iadd X23.here X23.hx rfl (X23.cd at_118) rfl k) ?_
  show Go _ _ _ _ (T23.setTop (mkF m 119 #[.val (.int i0), .val (.int i1), .val (.int i2), .val (.int i3), .val (.int i4), .val (.int i5), .val (.ref b1), .val (.int (Int32.ofNat j)), .val (.ref b12), .unset] [(.int (((((1 : Int32) + (own_nl r_2 (0 : Int32) (Int32.ofNat j))) + (own_nl r_4 (1 : Int32) (Int32.ofNat j))) + (own_nl r_6 (2 : Int32) (Int32.ofNat j))) + (own_nl r_8 (3 : Int32) (Int32.ofNat j))))]))
  refine Go.by (fun _ k => XS.aload X23.here X23.hx rfl (X23.cd at_119) rfl rfl k) ?_
  show Go _ _ _ _ (T23.setTop (mkF m 121 #[.val (.int i0), .val (.int i1), .val (.int i2), .val (.int i3), .val (.int i4), .val (.int i5), .val (.ref b1), .val (.int (Int32.ofNat j)), .val (.ref b12), .unset] [(.ref b1), (.int (((((1 : Int32) + (own_nl r_2 (0 : Int32) (Int32.ofNat j))) + (own_nl r_4 (1 : Int32) (Int32.ofNat j))) + (own_nl r_6 (2 : Int32) (Int32.ofNat j))) + (own_nl r_8 (3 : Int32) (Int32.ofNat j))))]))
  refine Go.by (fun _ k => XS.iconst X23.here X23.hx rfl (X23.cd at_121)  k) ?_
  show Go _ _ _ _ (T23.setTop (mkF m 122 #[.val (.int i0), .val (.int i1), .val (.int i2), .val (.int i3), .val (.int i4), .val (.int i5), .val (.ref b1), .val (.int (Int32.ofNat j)), .val (.ref b12), .unset] [(.int (4 : Int32)), (.ref b1), (.int (((((1 : Int32) + (own_nl r_2 (0 : Int32) (Int32.ofNat j))) + (own_nl r_4 (1 : Int32) (Int32.ofNat j))) + (own_nl r_6 (2 : Int32) (Int32.ofNat j))) + (own_nl r_8 (3 : Int32) (Int32.ofNat j))))]))
  refine Go.by (fun _ k => X23.ldA f19 ⟨by decide, by decide⟩ (v := (.int r_10)) rfl (Or.inr (Or.inl ⟨rfl, rfl⟩)) (g := (mkF m 122 #[.val (.int i0), .val (.int i1), .val (.int i2), .val (.int i3), .val (.int i4), .val (.int i5), .val (.ref b1), .val (.int (Int32.ofNat j)), .val (.ref b12), .unset] [(.int (4 : Int32)), (.ref b1), (.int (((((1 : Int32) + (own_nl r_2 (0 : Int32) (Int32.ofNat j))) + (own_nl r_4 (1 : Int32) (Int32.ofNat j))) + (own_nl r_6 (2 : Int32) (Int32.ofNat j))) + (own_nl r_8 (3 : Int32) (Int32.ofNat j))))])) rfl rfl at_122 _ k) ?_
  show Go _ _ _ _ (T23.setTop (mkF m 123 #[.val (.int i0), .val (.int i1), .val (.int i2), .val (.int i3), .val (.int i4), .val (.int i5), .val (.ref b1), .val (.int (Int32.ofNat j)), .val (.ref b12), .unset] [(.int r_10), (.int (((((1 : Int32) + (own_nl r_2 (0 : Int32) (Int32.ofNat j))) + (own_nl r_4 (1 : Int32) (Int32.ofNat j))) + (own_nl r_6 (2 : Int32) (Int32.ofNat j))) + (own_nl r_8 (3 : Int32) (Int32.ofNat j))))]))
  refine Go.by (fun _ k => XS.iconst X23.here X23.hx rfl (X23.cd at_123)  k) ?_
  show Go _ _ _ _ (T23.setTop (mkF m 124 #[.val (.int i0), .val (.int i1), .val (.int i2), .val (.int i3), .val (.int i4), .val (.int i5), .val (.ref b1), .val (.int (Int32.ofNat j)), .val (.ref b12), .unset] [(.int (4 : Int32)), (.int r_10), (.int (((((1 : Int32) + (own_nl r_2 (0 : Int32) (Int32.ofNat j))) + (own_nl r_4 (1 : Int32) (Int32.ofNat j))) + (own_nl r_6 (2 : Int32) (Int32.ofNat j))) + (own_nl r_8 (3 : Int32) (Int32.ofNat j))))]))
  refine Go.by (fun _ k => XS.iload X23.here X23.hx rfl (X23.cd at_124) rfl  k) ?_
  show Go _ _ _ _ (T23.setTop (mkF m 126 #[.val (.int i0), .val (.int i1), .val (.int i2), .val (.int i3), .val (.int i4), .val (.int i5), .val (.ref b1), .val (.int (Int32.ofNat j)), .val (.ref b12), .unset] [(.int (Int32.ofNat j)), (.int (4 : Int32)), (.int r_10), (.int (((((1 : Int32) + (own_nl r_2 (0 : Int32) (Int32.ofNat j))) + (own_nl r_4 (1 : Int32) (Int32.ofNat j))) + (own_nl r_6 (2 : Int32) (Int32.ofNat j))) + (own_nl r_8 (3 : Int32) (Int32.ofNat j))))]))
  obtain ⟨_, T24, h24, X24, K24, ⟨rfl, rfl⟩, st24⟩ := X23.stN (W := 1) (hw _ (List.mem_of_getElem? (i := 44) rfl)) (hw _ (List.mem_of_getElem? (i := 45) rfl)) (hw _ (List.mem_of_getElem? (i := 3) rfl)) (hw _ (List.mem_of_getElem? (i := 46) rfl)) (by decide) ((rm_nl l Z a0 hw n0 r_10 (4 : Int32) (Int32.ofNat j) h18 X23.old ).pay (hw _ (List.mem_of_getElem? (i := 46) rfl)) (hw _ (List.mem_of_getElem? (i := 3) rfl)) (by decide) (by decide)) all0 (g := (mkF m 126 #[.val (.int i0), .val (.int i1), .val (.int i2), .val (.int i3), .val (.int i4), .val (.int i5), .val (.ref b1), .val (.int (Int32.ofNat j)), .val (.ref b12), .unset] [(.int (Int32.ofNat j)), (.int (4 : Int32)), (.int r_10), (.int (((((1 : Int32) + (own_nl r_2 (0 : Int32) (Int32.ofNat j))) + (own_nl r_4 (1 : Int32) (Int32.ofNat j))) + (own_nl r_6 (2 : Int32) (Int32.ofNat j))) + (own_nl r_8 (3 : Int32) (Int32.ofNat j))))])) rfl rfl (argsL := [(.int r_10), (.int (4 : Int32)), (.int (Int32.ofNat j))]) (rest := [(.int (((((1 : Int32) + (own_nl r_2 (0 : Int32) (Int32.ofNat j))) + (own_nl r_4 (1 : Int32) (Int32.ofNat j))) + (own_nl r_6 (2 : Int32) (Int32.ofNat j))) + (own_nl r_8 (3 : Int32) (Int32.ofNat j))))]) (lenOf pd_3 rfl) rfl (by exact Nat.le_of_eq rfl) at_126 rfl (by decide) (by decide)
  refine Go.tr st24 ?_
  show Go _ _ _ _ (T24.setTop (mkF m 129 #[.val (.int i0), .val (.int i1), .val (.int i2), .val (.int i3), .val (.int i4), .val (.int i5), .val (.ref b1), .val (.int (Int32.ofNat j)), .val (.ref b12), .unset] [(.int (own_nl r_10 (4 : Int32) (Int32.ofNat j))), (.int (((((1 : Int32) + (own_nl r_2 (0 : Int32) (Int32.ofNat j))) + (own_nl r_4 (1 : Int32) (Int32.ofNat j))) + (own_nl r_6 (2 : Int32) (Int32.ofNat j))) + (own_nl r_8 (3 : Int32) (Int32.ofNat j))))]))
  refine Go.by (fun _ k => XS.iadd X24.here X24.hx rfl (X24.cd at_129) rfl k) ?_
  show Go _ _ _ _ (T24.setTop (mkF m 130 #[.val (.int i0), .val (.int i1), .val (.int i2), .val (.int i3), .val (.int i4), .val (.int i5), .val (.ref b1), .val (.int (Int32.ofNat j)), .val (.ref b12), .unset] [(.int ((((((1 : Int32) + (own_nl r_2 (0 : Int32) (Int32.ofNat j))) + (own_nl r_4 (1 : Int32) (Int32.ofNat j))) + (own_nl r_6 (2 : Int32) (Int32.ofNat j))) + (own_nl r_8 (3 : Int32) (Int32.ofNat j))) + (own_nl r_10 (4 : Int32) (Int32.ofNat j))))]))
  refine Go.by (fun _ k => XS.istore X24.here X24.hx rfl (X24.cd at_130) rfl (l' := #[.val (.int i0), .val (.int i1), .val (.int i2), .val (.int i3), .val (.int i4), .val (.int i5), .val (.ref b1), .val (.int (Int32.ofNat j)), .val (.ref b12), .val (.int ((((((1 : Int32) + (own_nl r_2 (0 : Int32) (Int32.ofNat j))) + (own_nl r_4 (1 : Int32) (Int32.ofNat j))) + (own_nl r_6 (2 : Int32) (Int32.ofNat j))) + (own_nl r_8 (3 : Int32) (Int32.ofNat j))) + (own_nl r_10 (4 : Int32) (Int32.ofNat j))))]) rfl k) ?_
  show Go _ _ _ _ (T24.setTop (mkF m 132 #[.val (.int i0), .val (.int i1), .val (.int i2), .val (.int i3), .val (.int i4), .val (.int i5), .val (.ref b1), .val (.int (Int32.ofNat j)), .val (.ref b12), .val (.int ((((((1 : Int32) + (own_nl r_2 (0 : Int32) (Int32.ofNat j))) + (own_nl r_4 (1 : Int32) (Int32.ofNat j))) + (own_nl r_6 (2 : Int32) (Int32.ofNat j))) + (own_nl r_8 (3 : Int32) (Int32.ofNat j))) + (own_nl r_10 (4 : Int32) (Int32.ofNat j))))] []))
  refine Go.by (fun _ k => XS.aload X24.here X24.hx rfl (X24.cd at_132) rfl rfl k) ?_
  show Go _ _ _ _ (T24.setTop (mkF m 134 #[.val (.int i0), .val (.int i1), .val (.int i2), .val (.int i3), .val (.int i4), .val (.int i5), .val (.ref b1), .val (.int (Int32.ofNat j)), .val (.ref b12), .val (.int ((((((1 : Int32) + (own_nl r_2 (0 : Int32) (Int32.ofNat j))) + (own_nl r_4 (1 : Int32) (Int32.ofNat j))) + (own_nl r_6 (2 : Int32) (Int32.ofNat j))) + (own_nl r_8 (3 : Int32) (Int32.ofNat j))) + (own_nl r_10 (4 : Int32) (Int32.ofNat j))))] [(.ref b12)]))
  refine Go.by (fun _ k => XS.iload X24.here X24.hx rfl (X24.cd at_134) rfl  k) ?_
  show Go _ _ _ _ (T24.setTop (mkF m 136 #[.val (.int i0), .val (.int i1), .val (.int i2), .val (.int i3), .val (.int i4), .val (.int i5), .val (.ref b1), .val (.int (Int32.ofNat j)), .val (.ref b12), .val (.int ((((((1 : Int32) + (own_nl r_2 (0 : Int32) (Int32.ofNat j))) + (own_nl r_4 (1 : Int32) (Int32.ofNat j))) + (own_nl r_6 (2 : Int32) (Int32.ofNat j))) + (own_nl r_8 (3 : Int32) (Int32.ofNat j))) + (own_nl r_10 (4 : Int32) (Int32.ofNat j))))] [(.int (Int32.ofNat j)), (.ref b12)]))
  have f25 : Str Z h18 b13 t_15 [r_2, r_4, r_6, r_8, r_10] := (P15_0).keep K18 (ninS ne_b12_b13.symm nin0) (ninS ne_b12_t_15.symm nin0)
  have f27 : Exa Z h18 b12 "com/example/rivulet/rivulet/Source" := (f16).keep K18
  obtain ⟨_, T26, h26, X26, K26, ⟨rfl, rfl⟩, st26⟩ := X24.viN (W := 0) (hw _ (List.mem_of_getElem? (i := 47) rfl)) (hw _ (List.mem_of_getElem? (i := 48) rfl)) (hw _ (List.mem_of_getElem? (i := 50) rfl)) (hw _ (List.mem_of_getElem? (i := 49) rfl)) (by decide) ((rm_line l Z a0 hw n0 b12 j b13 t_15 [r_2, r_4, r_6, r_8, r_10] zc vf h18 X24.old P18_0 f25 Sc nc Sf rf (all1 (p2_0).2 (all1 (p4_0).2 (all1 (p6_0).2 (all1 (p8_0).2 (all1 (p10_0).2 alln))))) (show j ≤ 5 by omega)).pay (hw _ (List.mem_of_getElem? (i := 51) rfl)) (hw _ (List.mem_of_getElem? (i := 8) rfl)) (by decide) (by decide)) all0 f27 (g := (mkF m 136 #[.val (.int i0), .val (.int i1), .val (.int i2), .val (.int i3), .val (.int i4), .val (.int i5), .val (.ref b1), .val (.int (Int32.ofNat j)), .val (.ref b12), .val (.int ((((((1 : Int32) + (own_nl r_2 (0 : Int32) (Int32.ofNat j))) + (own_nl r_4 (1 : Int32) (Int32.ofNat j))) + (own_nl r_6 (2 : Int32) (Int32.ofNat j))) + (own_nl r_8 (3 : Int32) (Int32.ofNat j))) + (own_nl r_10 (4 : Int32) (Int32.ofNat j))))] [(.int (Int32.ofNat j)), (.ref b12)])) rfl rfl (argsL := [(.int (Int32.ofNat j))]) (rest := []) (lenOf pd_4 rfl) rfl (by exact Nat.le_of_eq rfl) at_136 rfl (by decide) (by decide)
  refine Go.tr st26 ?_
  show Go _ _ _ _ (T26.setTop (mkF m 139 #[.val (.int i0), .val (.int i1), .val (.int i2), .val (.int i3), .val (.int i4), .val (.int i5), .val (.ref b1), .val (.int (Int32.ofNat j)), .val (.ref b12), .val (.int ((((((1 : Int32) + (own_nl r_2 (0 : Int32) (Int32.ofNat j))) + (own_nl r_4 (1 : Int32) (Int32.ofNat j))) + (own_nl r_6 (2 : Int32) (Int32.ofNat j))) + (own_nl r_8 (3 : Int32) (Int32.ofNat j))) + (own_nl r_10 (4 : Int32) (Int32.ofNat j))))] [(.int (own_ln [r_2, r_4, r_6, r_8, r_10] j))]))
  refine Go.by (fun _ k => XS.iload X26.here X26.hx rfl (X26.cd at_139) rfl  k) ?_
  show Go _ _ _ _ (T26.setTop (mkF m 141 #[.val (.int i0), .val (.int i1), .val (.int i2), .val (.int i3), .val (.int i4), .val (.int i5), .val (.ref b1), .val (.int (Int32.ofNat j)), .val (.ref b12), .val (.int ((((((1 : Int32) + (own_nl r_2 (0 : Int32) (Int32.ofNat j))) + (own_nl r_4 (1 : Int32) (Int32.ofNat j))) + (own_nl r_6 (2 : Int32) (Int32.ofNat j))) + (own_nl r_8 (3 : Int32) (Int32.ofNat j))) + (own_nl r_10 (4 : Int32) (Int32.ofNat j))))] [(.int ((((((1 : Int32) + (own_nl r_2 (0 : Int32) (Int32.ofNat j))) + (own_nl r_4 (1 : Int32) (Int32.ofNat j))) + (own_nl r_6 (2 : Int32) (Int32.ofNat j))) + (own_nl r_8 (3 : Int32) (Int32.ofNat j))) + (own_nl r_10 (4 : Int32) (Int32.ofNat j)))), (.int (own_ln [r_2, r_4, r_6, r_8, r_10] j))]))
  refine Go.by (fun _ k => XS.icmpNo X26.here X26.hx rfl (X26.cd at_141) rfl (XT.ii_ne_f (own_fin _ _ _ _ _ hj)) k) ?_
  show Go _ _ _ _ (T26.setTop (mkF m 144 #[.val (.int i0), .val (.int i1), .val (.int i2), .val (.int i3), .val (.int i4), .val (.int i5), .val (.ref b1), .val (.int (Int32.ofNat j)), .val (.ref b12), .val (.int ((((((1 : Int32) + (own_nl r_2 (0 : Int32) (Int32.ofNat j))) + (own_nl r_4 (1 : Int32) (Int32.ofNat j))) + (own_nl r_6 (2 : Int32) (Int32.ofNat j))) + (own_nl r_8 (3 : Int32) (Int32.ofNat j))) + (own_nl r_10 (4 : Int32) (Int32.ofNat j))))] []))
  refine Go.by (fun _ k => XS.iconst X26.here X26.hx rfl (X26.cd at_144)  k) ?_
  show Go _ _ _ _ (T26.setTop (mkF m 145 #[.val (.int i0), .val (.int i1), .val (.int i2), .val (.int i3), .val (.int i4), .val (.int i5), .val (.ref b1), .val (.int (Int32.ofNat j)), .val (.ref b12), .val (.int ((((((1 : Int32) + (own_nl r_2 (0 : Int32) (Int32.ofNat j))) + (own_nl r_4 (1 : Int32) (Int32.ofNat j))) + (own_nl r_6 (2 : Int32) (Int32.ofNat j))) + (own_nl r_8 (3 : Int32) (Int32.ofNat j))) + (own_nl r_10 (4 : Int32) (Int32.ofNat j))))] [(.int (1 : Int32))]))
  refine Go.by (fun _ k => XS.goto X26.here X26.hx rfl (pc0 := 145) (pc' := 149) rfl (X26.cd at_145) (by decide) (by decide) k) ?_
  show Go _ _ _ _ (T26.setTop (mkF m 149 #[.val (.int i0), .val (.int i1), .val (.int i2), .val (.int i3), .val (.int i4), .val (.int i5), .val (.ref b1), .val (.int (Int32.ofNat j)), .val (.ref b12), .val (.int ((((((1 : Int32) + (own_nl r_2 (0 : Int32) (Int32.ofNat j))) + (own_nl r_4 (1 : Int32) (Int32.ofNat j))) + (own_nl r_6 (2 : Int32) (Int32.ofNat j))) + (own_nl r_8 (3 : Int32) (Int32.ofNat j))) + (own_nl r_10 (4 : Int32) (Int32.ofNat j))))] [(.int (1 : Int32))]))
  exact X26.retN (by simp) rfl at_149 K0_h18 rfl (by decide) (by decide)
set_option maxRecDepth 65536 in
set_option maxHeartbeats 40000000 in
theorem comes_1 {Post : Tables → Env → Array Value → State → Outcome → State → Prop} (hpost : ∀ tb e args s v u, (limb_1_1.after args s (.returned v) u = true ∧ limb_1_2.after args s (.returned v) u = true ∧ True) → FrameEnd s (.returned v) u (Jvm.fieldLocs frame_1_writes args s ++ Jvm.arrayLocs frame_1_arrays args s ++ Jvm.staticLocs frame_1_statics s) 16 128 → Post tb e args s (.returned v) u) :
    ArmFor flags0 classFile x code maxLocals ret World_1 tables_1 room_1 Calls_1 rest_1 Pre_1 Post := by
  intro l hfl _ _ p e ha hc hk s m args below hf hA hF happ hP
  obtain ⟨hcalls, hrest, hpre⟩ := hP
  obtain ⟨-, -, -, hnamed, -, -, -, hat⟩ := (Spec.applies_iff hf).mp happ
  obtain ⟨hg, hn⟩ := and_e (Cond.before_iff.mp (show (Jvm.Cond.and given_1 narrow_1).before args s = true from hpre))
  obtain ⟨h1, gv0⟩ := and_e hg
  obtain ⟨gi0, gv1⟩ := and_e gv0
  obtain ⟨gi1, gv2⟩ := and_e gv1
  obtain ⟨gi2, gv3⟩ := and_e gv2
  obtain ⟨gi3, gv4⟩ := and_e gv3
  obtain ⟨gi4, gv5⟩ := and_e gv4
  obtain ⟨w0, w1, w2, w3, w4, w5, rfl⟩ : ∃ w0 w1 w2 w3 w4 w5 : Value, args = #[w0, w1, w2, w3, w4, w5] := by
    have hs : args.size = 6 := by simpa [Cond.value, given_1] using h1
    obtain ⟨L⟩ := args
    match L, hs with
    | [w0, w1, w2, w3, w4, w5], _ => exact ⟨w0, w1, w2, w3, w4, w5, rfl⟩
  have hw := fun d (hd : d ∈ tables_1) => atoms_spec (ws := Jvm.Cond.code x code maxLocals ret :: tables_1) hat d (List.mem_cons_of_mem _ hd)
  obtain ⟨hsets, hown0⟩ := atoms_of _ (rest_1_c_eq ▸ (show rest_1_c.before _ s = true from hrest))
  have hfit : Fit s := fun {y c} hc i hi => by
    obtain ⟨ha, rfl⟩ := Array.getElem?_eq_some_iff.mp hc
    have q := List.all_eq_true.mp ((Array.all_eq_true_iff_forall_mem.mp hF) _ (Array.getElem_mem ha)) i (List.mem_range.mpr hi)
    simpa [Array.getElem?_eq_getElem hi] using q
  obtain ⟨i0, e0⟩ := is_v gi0
  obtain rfl : w0 = (.int i0) := Option.some.inj e0
  obtain ⟨i1, e1⟩ := is_v gi1
  obtain rfl : w1 = (.int i1) := Option.some.inj e1
  obtain ⟨i2, e2⟩ := is_v gi2
  obtain rfl : w2 = (.int i2) := Option.some.inj e2
  obtain ⟨i3, e3⟩ := is_v gi3
  obtain rfl : w3 = (.int i3) := Option.some.inj e3
  obtain ⟨i4, e4⟩ := is_v gi4
  obtain rfl : w4 = (.int i4) := Option.some.inj e4
  obtain ⟨i5, e5⟩ := is_v gv5
  obtain rfl : w5 = (.int i5) := Option.some.inj e5
  obtain ⟨zc, ec⟩ := is_v (Cond.before_iff.mp (hsets _ (List.mem_of_getElem? (i := 1) rfl)))
  have Sc : Sta s s.heap "java/lang/String" "COMPACT_STRINGS" "Z" (.int zc) := Sta.start ec (Or.inl (hsets _ (List.mem_of_getElem? (i := 0) rfl)))
  have nc : ¬ (zc = (0 : Int32)) := gotF (Cond.eq_ints ec (Term.int_eval (0))) (not_v (Cond.before_iff.mp (hsets _ (List.mem_of_getElem? (i := 2) rfl))))
  obtain ⟨vf, ef, rf⟩ := isR_v (Cond.before_iff.mp (hsets _ (List.mem_of_getElem? (i := 8) rfl)))
  have Sf : Sta s s.heap "jdk/internal/util/Preconditions" "SIOOBE_FORMATTER" "Ljava/util/function/BiFunction;" vf := Sta.start ef (Or.inl (hsets _ (List.mem_of_getElem? (i := 7) rfl)))
  have M := rm_law l s _ hw s.heap.size i0 i1 i2 i3 i4 i5 zc vf s.heap (Old.start s) Sc nc Sf rf
  obtain ⟨n, o, h1, h2, h3, v, L, rfl, ⟨K, rfl, N⟩, hq⟩ := M p e ha hc hk s m _ below hf ((Spec.applies_iff_loose hf).mp happ).1 ⟨rfl, State.Warmed39.refl s, rfl⟩ trivial
  exact ⟨n, _, h1, h2, h3, hpost _ _ _ _ _ _ ⟨Cond.after_iff.mpr rfl, Cond.after_iff.mpr (eq_i res_at (Term.int_eval (1)) rfl), trivial⟩ ⟨hq.1, hq.2.1, (hq.2.2.sift fun y hy => Or.inr (N y hy)).mono (by decide) (by decide)⟩⟩
theorem main_1_1 : Claimed_1_1 := comes_1 fun _ _ _ _ _ _ h hF => ⟨h.1, hF⟩
theorem main_1_2 : Claimed_1_2 := comes_1 fun _ _ _ _ _ _ h hF => ⟨h.2.1, hF⟩
end Jvm.Pilot.@@N@@
namespace Jvm.Pilot.@@N@@
open Jvm Jvm.ClassFile Sem Op Lib Jvm.Free Jvm.Stand Jvm.Pilot.@@N@@.Jvm.D
/-! MADE BY PROGRAM (witnessworld.py) out of the Statement's table words and the real class files: 20 classes; the members and pool entries that the words name. The judged class is class 1, her method 3. -/
namespace start1
open Jvm.ClassFile
def u (s : String) : CpInfo := .utf8 (stringToUtf16 s)
/-- a pool by its gaps: so many unusable entries, then the entry; so many at the end -/
def gap : Nat → List CpInfo → List CpInfo
  | 0, r => r
  | n + 1, r => .unusable :: gap n r
def poolList (es : List (Nat × CpInfo)) (last : Nat) : List CpInfo := es.foldr (fun e r => gap e.1 (e.2 :: r)) (gap last [])
def pool (es : List (Nat × CpInfo)) (last : Nat) : Array CpInfo := ⟨poolList es last⟩
def fileOf (pool : Array CpInfo) (this : Nat) (attrs : Array Attribute := #[]) (ms : Array MethodInfo := #[]) (fl : Nat := 33) (sup : Nat := 0) (ifs : Array Nat := #[]) (fds : Array FieldInfo := #[]) : ClassFile where
  minorVersion := 0
  majorVersion := 65
  constantPool := pool
  accessFlags := fl
  thisClass := this
  superClass := sup
  interfaces := ifs
  fields := fds
  methods := ms
  attributes := attrs
def plain (name : String) (sup : Option ClassId) : Class where
  name := name
  kind := .ordinary
  loader := none
  accessFlags := 33
  super := sup
  interfaces := #[]
  cf := none
  fields := #[]
  methods := #[]
  instanceTypes := #[]
  staticTypes := #[]
  resolved := #[]
  callSites := []
  init := .initialized
  statics := none
  mirror := none

def pool0 : Array CpInfo := pool [(5, u "<init>"), (0, u "()V"), (1, .class_ 10), (1, u "java/lang/Object")] 113

def k0c0 : Code := { maxStack := 0, maxLocals := 1, code := object_method_1_code, exceptionTable := #[], attributes := #[] }
def k0m0 : Method := { name := "<init>", desc := "()V", sig := { parameters := [], returnType := none }, accessFlags := 1, code := some k0c0 }
/-- java/lang/Object -/
def k0 : Class := { plain "java/lang/Object" none with
  accessFlags := 33
  interfaces := #[]
  cf := some (fileOf pool0 8 #[] #[{ accessFlags := 1, nameIndex := 5, descriptorIndex := 6, attributes := #[] }] 33 0 #[] #[])
  fields := #[]
  methods := #[k0m0]
  instanceTypes := #[]
  staticTypes := #[]
  resolved := Array.replicate 124 none
  statics := none }

def pool1 : Array CpInfo := pool [(2, .class_ 4), (1, u "java/lang/Object"), (0, u "<init>"), (0, u "()V"), (0, .methodref 8 9), (0, .class_ 10), (0, .nameAndType 11 12), (0, u "com/example/rivulet/rivulet/SourceLinePinLaw"), (0, u "ch"), (0, u "(I)C"), (0, .integer 2147483647), (0, .class_ 15), (0, u "com/example/rivulet/rivulet/Source"), (0, .class_ 17), (0, u "java/lang/String"), (0, .methodref 16 19), (0, .nameAndType 5 20), (0, u "([C)V"), (0, .methodref 14 22), (0, .nameAndType 5 23), (0, u "(Ljava/lang/String;)V"), (0, .methodref 8 25), (0, .nameAndType 26 27), (0, u "nl"), (0, u "(CII)I"), (0, .methodref 14 29), (0, .nameAndType 30 31), (0, u "line"), (0, u "(I)I"), (3, u "law"), (0, u "(IIIIII)Z")] 4

def k1m0 : Method := { name := "<init>", desc := "()V", sig := { parameters := [], returnType := none }, accessFlags := 1, code := none }
def k1c1 : Code := { maxStack := 2, maxLocals := 1, code := method_2_code, exceptionTable := #[], attributes := #[] }
def k1m1 : Method := { name := "ch", desc := "(I)C", sig := { parameters := [.int], returnType := some .char }, accessFlags := 10, code := some k1c1 }
def k1c2 : Code := { maxStack := 2, maxLocals := 3, code := method_3_code, exceptionTable := #[], attributes := #[] }
def k1m2 : Method := { name := "nl", desc := "(CII)I", sig := { parameters := [.char, .int, .int], returnType := some .int }, accessFlags := 10, code := some k1c2 }
def k1c3 : Code := { maxStack := 5, maxLocals := 10, code := code, exceptionTable := #[], attributes := #[] }
def k1m3 : Method := { name := "law", desc := "(IIIIII)Z", sig := { parameters := [.int, .int, .int, .int, .int, .int], returnType := some .boolean }, accessFlags := 9, code := some k1c3 }
/-- com/example/rivulet/rivulet/SourceLinePinLaw -/
def k1 : Class := { plain "com/example/rivulet/rivulet/SourceLinePinLaw" (some 0) with
  accessFlags := 49
  interfaces := #[]
  cf := some (fileOf pool1 8 #[] #[{ accessFlags := 1, nameIndex := 5, descriptorIndex := 6, attributes := #[] }, { accessFlags := 10, nameIndex := 11, descriptorIndex := 12, attributes := #[] }, { accessFlags := 10, nameIndex := 26, descriptorIndex := 27, attributes := #[] }, { accessFlags := 9, nameIndex := 35, descriptorIndex := 36, attributes := #[] }] 49 2 #[] #[])
  fields := #[]
  methods := #[k1m0, k1m1, k1m2, k1m3]
  instanceTypes := #[]
  staticTypes := #[]
  resolved := Array.replicate 41 none
  statics := none }

def pool2 : Array CpInfo := pool [(1, .methodref 2 3), (0, .class_ 4), (0, .nameAndType 5 6), (0, u "java/lang/Object"), (0, u "<init>"), (0, u "()V"), (0, .fieldref 8 9), (0, .class_ 10), (0, .nameAndType 11 12), (0, u "com/example/rivulet/rivulet/Source"), (0, u "text"), (0, u "Ljava/lang/String;"), (0, .methodref 14 15), (0, .class_ 16), (0, .nameAndType 17 18), (0, u "java/lang/String"), (0, u "charAt"), (0, u "(I)C"), (3, u "(I)I"), (18, u "(Ljava/lang/String;)V"), (3, u "line")] 6

def k2c0 : Code := { maxStack := 2, maxLocals := 2, code := prog_7_method_1_code, exceptionTable := #[], attributes := #[] }
def k2m0 : Method := { name := "<init>", desc := "(Ljava/lang/String;)V", sig := { parameters := [(.object "java/lang/String")], returnType := none }, accessFlags := 0, code := some k2c0 }
def k2c1 : Code := { maxStack := 2, maxLocals := 4, code := prog_7_method_3_code, exceptionTable := #[], attributes := #[] }
def k2m1 : Method := { name := "line", desc := "(I)I", sig := { parameters := [.int], returnType := some .int }, accessFlags := 0, code := some k2c1 }
/-- com/example/rivulet/rivulet/Source -/
def k2 : Class := { plain "com/example/rivulet/rivulet/Source" (some 0) with
  accessFlags := 48
  interfaces := #[]
  cf := some (fileOf pool2 8 #[] #[{ accessFlags := 0, nameIndex := 5, descriptorIndex := 41, attributes := #[] }, { accessFlags := 0, nameIndex := 45, descriptorIndex := 22, attributes := #[] }] 48 2 #[] #[{ accessFlags := 18, nameIndex := 11, descriptorIndex := 12, attributes := #[] }])
  fields := #[{ name := "text", type := (.object "java/lang/String"), accessFlags := 18, slot := 0, constantValue := 0 }]
  methods := #[k2m0, k2m1]
  instanceTypes := #[(.object "java/lang/String")]
  staticTypes := #[]
  resolved := Array.replicate 52 none
  statics := none }

def pool3 : Array CpInfo := pool [(1, .class_ 2), (0, u "java/io/Serializable"), (0, .class_ 4), (0, u "java/lang/Object")] 2

/-- java/io/Serializable -/
def k3 : Class := { plain "java/io/Serializable" (some 0) with
  accessFlags := 1537
  interfaces := #[]
  cf := some (fileOf pool3 1 #[] #[] 1537 3 #[] #[])
  fields := #[]
  methods := #[]
  instanceTypes := #[]
  staticTypes := #[]
  resolved := Array.replicate 7 none
  statics := none }

def pool4 : Array CpInfo := pool [(1, .class_ 2), (0, u "java/lang/Comparable"), (0, .class_ 4), (0, u "java/lang/Object")] 7

/-- java/lang/Comparable -/
def k4 : Class := { plain "java/lang/Comparable" (some 0) with
  accessFlags := 1537
  interfaces := #[]
  cf := some (fileOf pool4 1 #[] #[] 1537 3 #[] #[])
  fields := #[]
  methods := #[]
  instanceTypes := #[]
  staticTypes := #[]
  resolved := Array.replicate 12 none
  statics := none }

def pool5 : Array CpInfo := pool [(2, .class_ 4), (1, u "java/lang/CharSequence"), (42, .class_ 48), (0, u "java/lang/CharSequence$1CodePointIterator"), (10, .class_ 60), (0, u "java/lang/CharSequence$1CharIterator"), (5, .class_ 67), (0, u "java/lang/Object")] 63

/-- java/lang/CharSequence -/
def k5 : Class := { plain "java/lang/CharSequence" (some 0) with
  accessFlags := 1537
  interfaces := #[]
  cf := some (fileOf pool5 2 #[.nestMembers #[47, 59]] #[] 1537 66 #[] #[])
  fields := #[]
  methods := #[]
  instanceTypes := #[]
  staticTypes := #[]
  resolved := Array.replicate 131 none
  statics := none }

def pool6 : Array CpInfo := pool [(1, .class_ 2), (0, u "java/lang/constant/Constable"), (0, .class_ 4), (0, u "java/lang/Object")] 6

/-- java/lang/constant/Constable -/
def k6 : Class := { plain "java/lang/constant/Constable" (some 0) with
  accessFlags := 1537
  interfaces := #[]
  cf := some (fileOf pool6 1 #[] #[] 1537 3 #[] #[])
  fields := #[]
  methods := #[]
  instanceTypes := #[]
  staticTypes := #[]
  resolved := Array.replicate 11 none
  statics := none }

def pool7 : Array CpInfo := pool [(1, .class_ 2), (0, u "java/lang/constant/ConstantDesc"), (0, .class_ 4), (0, u "java/lang/Object")] 32

/-- java/lang/constant/ConstantDesc -/
def k7 : Class := { plain "java/lang/constant/ConstantDesc" (some 0) with
  accessFlags := 1537
  interfaces := #[]
  cf := some (fileOf pool7 1 #[] #[] 1537 3 #[] #[])
  fields := #[]
  methods := #[]
  instanceTypes := #[]
  staticTypes := #[]
  resolved := Array.replicate 37 none
  statics := none }

def pool8 : Array CpInfo := pool [(1, .methodref 2 3), (0, .class_ 4), (0, .nameAndType 5 6), (0, u "java/lang/Object"), (0, u "<init>"), (0, u "()V"), (2, .fieldref 10 11), (0, .class_ 12), (0, .nameAndType 13 14), (0, u "java/lang/String"), (0, u "value"), (0, u "[B"), (0, .fieldref 10 16), (0, .nameAndType 17 18), (0, u "coder"), (0, u "B"), (2, u "hash"), (0, u "I"), (2, u "hashIsZero"), (0, u "Z"), (0, .methodref 10 28), (0, .nameAndType 5 29), (0, u "([CIILjava/lang/Void;)V"), (8, .fieldref 10 39), (0, .nameAndType 40 26), (0, u "COMPACT_STRINGS"), (1, .class_ 44), (1, u "java/lang/StringUTF16"), (0, u "compress"), (1, .methodref 42 48), (0, .nameAndType 49 50), (0, u "coderFromArrayLen"), (0, u "([BI)B"), (56, .class_ 109), (1, u "java/lang/StringLatin1"), (32, u "()Z"), (34, .methodref 42 178), (0, .nameAndType 45 179), (0, u "([CII)[B"), (183, u "([BI)C"), (27, u "(II)V"), (35, u "(I)C"), (64, .methodref 10 493), (0, .nameAndType 494 142), (0, u "isLatin1"), (0, .methodref 107 496), (0, .nameAndType 497 363), (0, u "charAt"), (3, u "checkIndex"), (73, .class_ 576), (0, u "java/lang/CharSequence"), (22, u "CASE_INSENSITIVE_ORDER"), (0, u "Ljava/util/Comparator;"), (409, u "([C)V"), (42, .fieldref 1054 1055), (0, .class_ 1056), (0, .nameAndType 1057 1058), (0, u "jdk/internal/util/Preconditions"), (0, u "SIOOBE_FORMATTER"), (0, u "Ljava/util/function/BiFunction;"), (0, .methodref 1054 1060), (0, .nameAndType 501 1061), (0, u "(IILjava/util/function/BiFunction;)I"), (39, u "serialPersistentFields"), (0, u "[Ljava/io/ObjectStreamField;"), (0, .class_ 1104), (0, u "java/lang/String$CaseInsensitiveComparator"), (1, .class_ 1107), (0, u "java/io/Serializable"), (0, .class_ 1109), (0, u "java/lang/Comparable"), (0, .class_ 1111), (0, u "java/lang/constant/Constable"), (0, .class_ 1113), (0, u "java/lang/constant/ConstantDesc"), (2, u "serialVersionUID"), (0, u "J"), (3, u "REPL"), (0, u "C"), (2, u "LATIN1"), (1, u "UTF16")] 323

def k8m0 : Method := { name := "<init>", desc := "()V", sig := { parameters := [], returnType := none }, accessFlags := 1, code := none }
def k8c1 : Code := { maxStack := 5, maxLocals := 2, code := jdk_42_method_3_code, exceptionTable := #[], attributes := #[] }
def k8m1 : Method := { name := "<init>", desc := "([C)V", sig := { parameters := [(.array .char)], returnType := none }, accessFlags := 1, code := some k8c1 }
def k8c2 : Code := { maxStack := 2, maxLocals := 2, code := jdk_42_method_56_code, exceptionTable := #[], attributes := #[] }
def k8m2 : Method := { name := "charAt", desc := "(I)C", sig := { parameters := [.int], returnType := some .char }, accessFlags := 1, code := some k8c2 }
def k8c3 : Code := { maxStack := 4, maxLocals := 6, code := jdk_42_method_149_code, exceptionTable := #[], attributes := #[] }
def k8m3 : Method := { name := "<init>", desc := "([CIILjava/lang/Void;)V", sig := { parameters := [(.array .char), .int, .int, (.object "java/lang/Void")], returnType := none }, accessFlags := 2, code := some k8c3 }
def k8c4 : Code := { maxStack := 1, maxLocals := 1, code := jdk_42_method_154_code, exceptionTable := #[], attributes := #[] }
def k8m4 : Method := { name := "isLatin1", desc := "()Z", sig := { parameters := [], returnType := some .boolean }, accessFlags := 0, code := some k8c4 }
def k8c5 : Code := { maxStack := 3, maxLocals := 2, code := jdk_42_method_155_code, exceptionTable := #[], attributes := #[] }
def k8m5 : Method := { name := "checkIndex", desc := "(II)V", sig := { parameters := [.int, .int], returnType := none }, accessFlags := 8, code := some k8c5 }
/-- java/lang/String -/
def k8 : Class := { plain "java/lang/String" (some 0) with
  accessFlags := 49
  interfaces := #[3, 4, 5, 6, 7]
  cf := some (fileOf pool8 10 #[.nestMembers #[1103]] #[{ accessFlags := 1, nameIndex := 5, descriptorIndex := 6, attributes := #[] }, { accessFlags := 1, nameIndex := 5, descriptorIndex := 1010, attributes := #[] }, { accessFlags := 1, nameIndex := 497, descriptorIndex := 427, attributes := #[] }, { accessFlags := 2, nameIndex := 5, descriptorIndex := 29, attributes := #[] }, { accessFlags := 0, nameIndex := 494, descriptorIndex := 142, attributes := #[] }, { accessFlags := 8, nameIndex := 501, descriptorIndex := 391, attributes := #[] }] 49 2 #[1106, 1108, 575, 1110, 1112] #[{ accessFlags := 18, nameIndex := 13, descriptorIndex := 14, attributes := #[] }, { accessFlags := 18, nameIndex := 17, descriptorIndex := 18, attributes := #[] }, { accessFlags := 2, nameIndex := 21, descriptorIndex := 22, attributes := #[] }, { accessFlags := 2, nameIndex := 25, descriptorIndex := 26, attributes := #[] }, { accessFlags := 26, nameIndex := 1116, descriptorIndex := 1117, attributes := #[] }, { accessFlags := 24, nameIndex := 40, descriptorIndex := 26, attributes := #[] }, { accessFlags := 26, nameIndex := 1101, descriptorIndex := 1102, attributes := #[] }, { accessFlags := 26, nameIndex := 1121, descriptorIndex := 1122, attributes := #[] }, { accessFlags := 25, nameIndex := 599, descriptorIndex := 600, attributes := #[] }, { accessFlags := 24, nameIndex := 1125, descriptorIndex := 18, attributes := #[] }, { accessFlags := 24, nameIndex := 1127, descriptorIndex := 18, attributes := #[] }])
  fields := #[{ name := "value", type := (.array .byte), accessFlags := 18, slot := 0, constantValue := 0 }, { name := "coder", type := .byte, accessFlags := 18, slot := 1, constantValue := 0 }, { name := "hash", type := .int, accessFlags := 2, slot := 2, constantValue := 0 }, { name := "hashIsZero", type := .boolean, accessFlags := 2, slot := 3, constantValue := 0 }, { name := "serialVersionUID", type := .long, accessFlags := 26, slot := 0, constantValue := 0 }, { name := "COMPACT_STRINGS", type := .boolean, accessFlags := 24, slot := 1, constantValue := 0 }, { name := "serialPersistentFields", type := (.array (.object "java/io/ObjectStreamField")), accessFlags := 26, slot := 2, constantValue := 0 }, { name := "REPL", type := .char, accessFlags := 26, slot := 3, constantValue := 0 }, { name := "CASE_INSENSITIVE_ORDER", type := (.object "java/util/Comparator"), accessFlags := 25, slot := 4, constantValue := 0 }, { name := "LATIN1", type := .byte, accessFlags := 24, slot := 5, constantValue := 0 }, { name := "UTF16", type := .byte, accessFlags := 24, slot := 6, constantValue := 0 }]
  methods := #[k8m0, k8m1, k8m2, k8m3, k8m4, k8m5]
  instanceTypes := #[(.array .byte), .byte, .int, .boolean]
  staticTypes := #[.long, .boolean, (.array (.object "java/io/ObjectStreamField")), .char, (.object "java/util/Comparator"), .byte, .byte]
  resolved := Array.replicate 1451 none
  statics := some 0 }

def pool9 : Array CpInfo := pool [(6, .class_ 8), (1, u "java/lang/Object"), (0, u "<init>"), (0, u "()V"), (1, .class_ 14), (1, u "java/lang/StringUTF16"), (31, u "$assertionsDisabled"), (0, u "Z"), (13, u "HI_BYTE_SHIFT"), (0, u "I"), (2, u "LO_BYTE_SHIFT"), (49, .methodref 12 116), (0, .nameAndType 117 118), (0, u "compress"), (0, u "([CI[BII)I"), (3, u "([CII)[B"), (138, u "coderFromArrayLen"), (0, u "([BI)B"), (106, .class_ 371), (1, u "java/lang/StringUTF16$LinesSpliterator"), (58, u "MAX_LENGTH"), (196, .class_ 628), (0, u "java/lang/StringUTF16$CodePointsSpliterator"), (0, .class_ 630), (0, u "java/lang/StringUTF16$CharsSpliterator")] 4

def k9m0 : Method := { name := "<init>", desc := "()V", sig := { parameters := [], returnType := none }, accessFlags := 0, code := none }
def k9c1 : Code := { maxStack := 2, maxLocals := 2, code := jdk_52_method_15_code, exceptionTable := #[], attributes := #[] }
def k9m1 : Method := { name := "coderFromArrayLen", desc := "([BI)B", sig := { parameters := [(.array .byte), .int], returnType := some .byte }, accessFlags := 8, code := some k9c1 }
def k9c2 : Code := { maxStack := 5, maxLocals := 6, code := jdk_52_method_16_code, exceptionTable := #[], attributes := #[] }
def k9m2 : Method := { name := "compress", desc := "([CII)[B", sig := { parameters := [(.array .char), .int, .int], returnType := some (.array .byte) }, accessFlags := 9, code := some k9c2 }
def k9c3 : Code := { maxStack := 3, maxLocals := 7, code := jdk_52_method_21_code, exceptionTable := #[], attributes := #[] }
def k9m3 : Method := { name := "compress", desc := "([CI[BII)I", sig := { parameters := [(.array .char), .int, (.array .byte), .int, .int], returnType := some .int }, accessFlags := 9, code := some k9c3 }
/-- java/lang/StringUTF16 -/
def k9 : Class := { plain "java/lang/StringUTF16" (some 0) with
  accessFlags := 48
  interfaces := #[]
  cf := some (fileOf pool9 12 #[.nestMembers #[627, 629, 369]] #[{ accessFlags := 0, nameIndex := 9, descriptorIndex := 10, attributes := #[] }, { accessFlags := 8, nameIndex := 261, descriptorIndex := 262, attributes := #[] }, { accessFlags := 9, nameIndex := 117, descriptorIndex := 122, attributes := #[] }, { accessFlags := 9, nameIndex := 117, descriptorIndex := 118, attributes := #[] }] 48 6 #[] #[{ accessFlags := 26, nameIndex := 61, descriptorIndex := 62, attributes := #[] }, { accessFlags := 26, nameIndex := 65, descriptorIndex := 62, attributes := #[] }, { accessFlags := 24, nameIndex := 430, descriptorIndex := 62, attributes := #[] }, { accessFlags := 4120, nameIndex := 46, descriptorIndex := 47, attributes := #[] }])
  fields := #[{ name := "HI_BYTE_SHIFT", type := .int, accessFlags := 26, slot := 0, constantValue := 0 }, { name := "LO_BYTE_SHIFT", type := .int, accessFlags := 26, slot := 1, constantValue := 0 }, { name := "MAX_LENGTH", type := .int, accessFlags := 24, slot := 2, constantValue := 0 }, { name := "$assertionsDisabled", type := .boolean, accessFlags := 4120, slot := 3, constantValue := 0 }]
  methods := #[k9m0, k9m1, k9m2, k9m3]
  instanceTypes := #[]
  staticTypes := #[.int, .int, .int, .boolean]
  resolved := Array.replicate 635 none
  statics := none }

def pool10 : Array CpInfo := pool [(1, .class_ 2), (0, u "java/lang/String"), (1, .class_ 6), (1, u "java/lang/Object"), (0, u "<init>"), (0, u "()V"), (0, .methodref 1 10), (0, .nameAndType 11 12), (0, u "checkIndex"), (0, u "(II)V"), (1, .class_ 16), (1, u "java/lang/StringLatin1"), (36, u "([BI)C"), (67, u "$assertionsDisabled"), (0, u "Z"), (98, .class_ 223), (1, u "java/lang/StringLatin1$LinesSpliterator"), (28, u "charAt"), (137, .class_ 391), (0, u "java/lang/StringLatin1$CharsSpliterator")] 3

def k10m0 : Method := { name := "<init>", desc := "()V", sig := { parameters := [], returnType := none }, accessFlags := 0, code := none }
def k10c1 : Code := { maxStack := 2, maxLocals := 2, code := jdk_43_method_2_code, exceptionTable := #[], attributes := #[] }
def k10m1 : Method := { name := "charAt", desc := "([BI)C", sig := { parameters := [(.array .byte), .int], returnType := some .char }, accessFlags := 9, code := some k10c1 }
/-- java/lang/StringLatin1 -/
def k10 : Class := { plain "java/lang/StringLatin1" (some 0) with
  accessFlags := 48
  interfaces := #[]
  cf := some (fileOf pool10 14 #[.nestMembers #[390, 221]] #[{ accessFlags := 0, nameIndex := 7, descriptorIndex := 8, attributes := #[] }, { accessFlags := 9, nameIndex := 252, descriptorIndex := 53, attributes := #[] }] 48 4 #[] #[{ accessFlags := 4120, nameIndex := 121, descriptorIndex := 122, attributes := #[] }])
  fields := #[{ name := "$assertionsDisabled", type := .boolean, accessFlags := 4120, slot := 0, constantValue := 0 }]
  methods := #[k10m0, k10m1]
  instanceTypes := #[]
  staticTypes := #[.boolean]
  resolved := Array.replicate 395 none
  statics := none }

def pool11 : Array CpInfo := pool [(2, .class_ 4), (1, u "java/lang/Object"), (0, u "<init>"), (0, u "()V"), (17, .class_ 26), (1, u "jdk/internal/util/Preconditions"), (6, u "checkIndex"), (21, .class_ 56), (0, u "jdk/internal/util/Preconditions$4"), (57, .class_ 115), (0, u "jdk/internal/util/Preconditions$1"), (7, u "SIOOBE_FORMATTER"), (0, u "Ljava/util/function/BiFunction;"), (0, .class_ 126), (0, u "jdk/internal/util/Preconditions$2"), (3, u "AIOOBE_FORMATTER"), (0, .class_ 132), (0, u "jdk/internal/util/Preconditions$3"), (3, u "IOOBE_FORMATTER"), (41, u "(IILjava/util/function/BiFunction;)I")] 15

def k11m0 : Method := { name := "<init>", desc := "()V", sig := { parameters := [], returnType := none }, accessFlags := 1, code := none }
def k11c1 : Code := { maxStack := 3, maxLocals := 3, code := jdk_41_method_11_code, exceptionTable := #[], attributes := #[] }
def k11m1 : Method := { name := "checkIndex", desc := "(IILjava/util/function/BiFunction;)I", sig := { parameters := [.int, .int, (.object "java/util/function/BiFunction")], returnType := some .int }, accessFlags := 9, code := some k11c1 }
/-- jdk/internal/util/Preconditions -/
def k11 : Class := { plain "jdk/internal/util/Preconditions" (some 0) with
  accessFlags := 33
  interfaces := #[]
  cf := some (fileOf pool11 24 #[.nestMembers #[55, 131, 125, 114]] #[{ accessFlags := 1, nameIndex := 5, descriptorIndex := 6, attributes := #[] }, { accessFlags := 9, nameIndex := 33, descriptorIndex := 178, attributes := #[] }] 33 2 #[] #[{ accessFlags := 25, nameIndex := 123, descriptorIndex := 124, attributes := #[] }, { accessFlags := 25, nameIndex := 130, descriptorIndex := 124, attributes := #[] }, { accessFlags := 25, nameIndex := 136, descriptorIndex := 124, attributes := #[] }])
  fields := #[{ name := "SIOOBE_FORMATTER", type := (.object "java/util/function/BiFunction"), accessFlags := 25, slot := 0, constantValue := 0 }, { name := "AIOOBE_FORMATTER", type := (.object "java/util/function/BiFunction"), accessFlags := 25, slot := 1, constantValue := 0 }, { name := "IOOBE_FORMATTER", type := (.object "java/util/function/BiFunction"), accessFlags := 25, slot := 2, constantValue := 0 }]
  methods := #[k11m0, k11m1]
  instanceTypes := #[]
  staticTypes := #[(.object "java/util/function/BiFunction"), (.object "java/util/function/BiFunction"), (.object "java/util/function/BiFunction")]
  resolved := Array.replicate 194 none
  statics := some 1 }

def pool12 : Array CpInfo := pool [(9, u "<init>"), (6, .class_ 18), (1, u "java/lang/Object"), (0, u "()V"), (1, .class_ 23), (1, u "jdk/internal/util/ArraysSupport"), (0, u "LOG2_ARRAY_LONG_INDEX_SCALE"), (0, u "I"), (2, u "U"), (0, u "Ljdk/internal/misc/Unsafe;"), (8, u "BIG_ENDIAN"), (0, u "Z"), (8, u "LOG2_BYTE_BIT_SIZE"), (4, u "LOG2_ARRAY_INT_INDEX_SCALE"), (54, u "JLA"), (0, u "Ljdk/internal/access/JavaLangAccess;"), (11, u "LOG2_ARRAY_BOOLEAN_INDEX_SCALE"), (9, u "LOG2_ARRAY_BYTE_INDEX_SCALE"), (5, u "LOG2_ARRAY_CHAR_INDEX_SCALE"), (5, u "LOG2_ARRAY_SHORT_INDEX_SCALE"), (18, u "LOG2_ARRAY_FLOAT_INDEX_SCALE"), (24, u "LOG2_ARRAY_DOUBLE_INDEX_SCALE"), (89, u "T_BOOLEAN"), (2, u "T_CHAR"), (1, u "T_FLOAT"), (1, u "T_DOUBLE"), (1, u "T_BYTE"), (1, u "T_SHORT"), (1, u "T_INT"), (1, u "T_LONG"), (1, u "SOFT_MAX_ARRAY_LENGTH")] 83

def k12m0 : Method := { name := "<init>", desc := "()V", sig := { parameters := [], returnType := none }, accessFlags := 2, code := none }
/-- jdk/internal/util/ArraysSupport -/
def k12 : Class := { plain "jdk/internal/util/ArraysSupport" (some 0) with
  accessFlags := 33
  interfaces := #[]
  cf := some (fileOf pool12 21 #[] #[{ accessFlags := 2, nameIndex := 9, descriptorIndex := 19, attributes := #[] }] 33 16 #[] #[{ accessFlags := 24, nameIndex := 28, descriptorIndex := 29, attributes := #[] }, { accessFlags := 26, nameIndex := 38, descriptorIndex := 39, attributes := #[] }, { accessFlags := 25, nameIndex := 121, descriptorIndex := 25, attributes := #[] }, { accessFlags := 25, nameIndex := 131, descriptorIndex := 25, attributes := #[] }, { accessFlags := 25, nameIndex := 137, descriptorIndex := 25, attributes := #[] }, { accessFlags := 25, nameIndex := 143, descriptorIndex := 25, attributes := #[] }, { accessFlags := 25, nameIndex := 53, descriptorIndex := 25, attributes := #[] }, { accessFlags := 25, nameIndex := 24, descriptorIndex := 25, attributes := #[] }, { accessFlags := 25, nameIndex := 162, descriptorIndex := 25, attributes := #[] }, { accessFlags := 25, nameIndex := 187, descriptorIndex := 25, attributes := #[] }, { accessFlags := 26, nameIndex := 48, descriptorIndex := 25, attributes := #[] }, { accessFlags := 25, nameIndex := 277, descriptorIndex := 25, attributes := #[] }, { accessFlags := 25, nameIndex := 280, descriptorIndex := 25, attributes := #[] }, { accessFlags := 25, nameIndex := 282, descriptorIndex := 25, attributes := #[] }, { accessFlags := 25, nameIndex := 284, descriptorIndex := 25, attributes := #[] }, { accessFlags := 25, nameIndex := 286, descriptorIndex := 25, attributes := #[] }, { accessFlags := 25, nameIndex := 288, descriptorIndex := 25, attributes := #[] }, { accessFlags := 25, nameIndex := 290, descriptorIndex := 25, attributes := #[] }, { accessFlags := 25, nameIndex := 292, descriptorIndex := 25, attributes := #[] }, { accessFlags := 26, nameIndex := 108, descriptorIndex := 109, attributes := #[] }, { accessFlags := 25, nameIndex := 294, descriptorIndex := 25, attributes := #[] }])
  fields := #[{ name := "U", type := (.object "jdk/internal/misc/Unsafe"), accessFlags := 24, slot := 0, constantValue := 0 }, { name := "BIG_ENDIAN", type := .boolean, accessFlags := 26, slot := 1, constantValue := 0 }, { name := "LOG2_ARRAY_BOOLEAN_INDEX_SCALE", type := .int, accessFlags := 25, slot := 2, constantValue := 0 }, { name := "LOG2_ARRAY_BYTE_INDEX_SCALE", type := .int, accessFlags := 25, slot := 3, constantValue := 0 }, { name := "LOG2_ARRAY_CHAR_INDEX_SCALE", type := .int, accessFlags := 25, slot := 4, constantValue := 0 }, { name := "LOG2_ARRAY_SHORT_INDEX_SCALE", type := .int, accessFlags := 25, slot := 5, constantValue := 0 }, { name := "LOG2_ARRAY_INT_INDEX_SCALE", type := .int, accessFlags := 25, slot := 6, constantValue := 0 }, { name := "LOG2_ARRAY_LONG_INDEX_SCALE", type := .int, accessFlags := 25, slot := 7, constantValue := 0 }, { name := "LOG2_ARRAY_FLOAT_INDEX_SCALE", type := .int, accessFlags := 25, slot := 8, constantValue := 0 }, { name := "LOG2_ARRAY_DOUBLE_INDEX_SCALE", type := .int, accessFlags := 25, slot := 9, constantValue := 0 }, { name := "LOG2_BYTE_BIT_SIZE", type := .int, accessFlags := 26, slot := 10, constantValue := 0 }, { name := "T_BOOLEAN", type := .int, accessFlags := 25, slot := 11, constantValue := 0 }, { name := "T_CHAR", type := .int, accessFlags := 25, slot := 12, constantValue := 0 }, { name := "T_FLOAT", type := .int, accessFlags := 25, slot := 13, constantValue := 0 }, { name := "T_DOUBLE", type := .int, accessFlags := 25, slot := 14, constantValue := 0 }, { name := "T_BYTE", type := .int, accessFlags := 25, slot := 15, constantValue := 0 }, { name := "T_SHORT", type := .int, accessFlags := 25, slot := 16, constantValue := 0 }, { name := "T_INT", type := .int, accessFlags := 25, slot := 17, constantValue := 0 }, { name := "T_LONG", type := .int, accessFlags := 25, slot := 18, constantValue := 0 }, { name := "JLA", type := (.object "jdk/internal/access/JavaLangAccess"), accessFlags := 26, slot := 19, constantValue := 0 }, { name := "SOFT_MAX_ARRAY_LENGTH", type := .int, accessFlags := 25, slot := 20, constantValue := 0 }]
  methods := #[k12m0]
  instanceTypes := #[]
  staticTypes := #[(.object "jdk/internal/misc/Unsafe"), .boolean, .int, .int, .int, .int, .int, .int, .int, .int, .int, .int, .int, .int, .int, .int, .int, .int, .int, (.object "jdk/internal/access/JavaLangAccess"), .int]
  resolved := Array.replicate 378 none
  statics := none }

def pool13 : Array CpInfo := pool [(1, u "java/lang/Cloneable"), (0, .class_ 1), (0, u "java/lang/Object"), (0, .class_ 3)] 3

/-- java/lang/Cloneable -/
def k13 : Class := { plain "java/lang/Cloneable" (some 0) with
  accessFlags := 1537
  interfaces := #[]
  cf := some (fileOf pool13 2 #[] #[] 1537 4 #[] #[])
  fields := #[]
  methods := #[]
  instanceTypes := #[]
  staticTypes := #[]
  resolved := Array.replicate 8 none
  statics := none }

/-- the primitive byte -/
def k14 : Class := { plain "byte" none with kind := .primitive 'B', accessFlags := 0x411 }
/-- [B -/
def k15 : Class := { plain "[B" (some 0) with kind := .array 14 .byte, interfaces := #[13, 3], accessFlags := 1041 }

/-- the primitive char -/
def k16 : Class := { plain "char" none with kind := .primitive 'C', accessFlags := 0x411 }
/-- [C -/
def k17 : Class := { plain "[C" (some 0) with kind := .array 16 .char, interfaces := #[13, 3], accessFlags := 1041 }

/-- the primitive int -/
def k18 : Class := { plain "int" none with kind := .primitive 'I', accessFlags := 0x411 }
/-- [I -/
def k19 : Class := { plain "[I" (some 0) with kind := .array 18 .int, interfaces := #[13, 3], accessFlags := 1041 }

def heap : Heap := #[{ cls := 8, slots := #[.long 0, .int 1, .null, .int 0, .null, .int 0, .int 0], vm := .statics 8 },
  { cls := 11, slots := #[.null, .null, .null], vm := .statics 11 }]
def classes : Array Class := #[k0, k1, k2, k3, k4, k5, k6, k7, k8, k9, k10, k11, k12, k13, k14, k15, k16, k17, k18, k19]
def interned : List (Array UInt16 × Addr) := []
def slotsUsed : Nat := 10
def theMethod : MethodId := ⟨1, 3⟩
def args0 : Array Value := #[.int 5, .int 2, .int 7, .int 3, .int 4, .int 11]
def aboutOver (below : List Frame) : State where
  vm := { classes := classes, interned := interned.toArray }
  heap := heap
  slotsUsed := slotsUsed
  threads := #[{ frames := .invoking theMethod args0 :: below }]
def below0 : List Frame := [.native { method := ⟨0, 0⟩, args := #[] }]
def about1 : State := aboutOver below0
def p0 : Program := .bare "" "" ""
def e0 : Env := launch0.env 0 0 0
theorem w_frames : about1.frames = Frame.invoking theMethod args0 :: below0 := rfl
set_option maxRecDepth 65536 in
theorem w_args : argsFit about1.vm theMethod args0 = true := by decide +kernel
set_option maxRecDepth 65536 in
theorem w_heap : heapFits about1 = true := by decide +kernel
set_option maxRecDepth 65536 in
theorem w_runnable : about1.curStatus? = some .runnable := by decide +kernel
set_option maxRecDepth 65536 in
theorem w_alone : about1.alone = true := by decide +kernel
set_option maxRecDepth 65536 in
theorem w_named : about1.methodNamed? x = some theMethod := by decide +kernel
set_option maxRecDepth 65536 in
theorem w_hears : about1.hears theMethod below0 = true := by decide +kernel
set_option maxRecDepth 65536 in
theorem w_ripe : about1.ripe theMethod args0 below0 = true := by decide +kernel
theorem w_running : about1.status = .running := rfl
set_option maxRecDepth 65536 in
theorem w_room : about1.hasRoom e0.platform room_1 = true :=
  launch0.hasRoom_least _ room_1 (by decide +kernel) (by decide +kernel) (by decide +kernel) (by decide +kernel) (by decide +kernel) (by decide +kernel)
theorem allAtoms_all (ts : List Jvm.Cond) (a : Array Jvm.Value) (st : Jvm.State) : (allAtoms ts).before a st = ts.all (fun c => c.before a st) := by
  induction ts with
  | nil => rfl
  | cons c t ih =>
    show (Jvm.Cond.and c (allAtoms t)).before a st = _
    rw [Jvm.Cond.before_and, ih, List.all_cons]
def words1 : List Jvm.Cond := Jvm.Cond.code x code maxLocals ret :: tables_1
/-- a 'code' word, met by the world's own term for the bytes: nothing is compared byte by byte -/
theorem code_word {y : MethodName} {bytes : ByteArray} {mx : Nat} {rt : Option FieldType} {a : Array Value} {s : State} {m : MethodId} {meth : Method} {c : Code} (h1 : s.methodNamed? y = some m) (h2 : s.vm.method? m = some meth) (h3 : meth.code = some c) (h4 : c.code = bytes)
    (h5 : (c.maxLocals == mx && c.exceptionTable.isEmpty && decide (c.maxStack ≤ mostOperands) && decide (meth.sig.returnType = rt) && !meth.locks && decide (parseMethodDescriptor y.desc = some meth.sig)) = true) : (Jvm.Cond.code y bytes mx rt).before a s = true := by
  simp only [Bool.and_eq_true, beq_iff_eq, Bool.not_eq_true', decide_eq_true_eq] at h5
  obtain ⟨⟨⟨⟨⟨g1, g2⟩, g3⟩, g4⟩, g5⟩, g6⟩ := h5
  simp [Cond.before, Cond.holds, Cond.value, h1, h2, h3, h4, g1, g2, g3, g4, g5, g6]
def isCode : Jvm.Cond → Bool
  | .code _ _ _ _ => true
  | _ => false
theorem all_split {L : List Jvm.Cond} {P : Jvm.Cond → Bool} (h1 : L.all (fun c => isCode c || P c) = true) (h2 : ∀ c ∈ L.filter isCode, P c = true) : L.all P = true := by
  refine List.all_eq_true.mpr fun c hc => ?_
  have h := List.all_eq_true.mp h1 c hc
  rcases Bool.eq_false_or_eq_true (isCode c) with hi | hi
  · exact h2 c (List.mem_filter.mpr ⟨hc, hi⟩)
  · simpa [hi] using h
set_option maxRecDepth 65536 in
theorem w_c0 : (Jvm.Cond.code x code maxLocals ret).before args0 about1 = true := code_word (m := ⟨1, 3⟩) (meth := k1m3) (c := k1c3) (by decide +kernel) rfl rfl rfl (by decide +kernel)
set_option maxRecDepth 65536 in
theorem w_c1 : (Jvm.Cond.code ({ cls := "com/example/rivulet/rivulet/SourceLinePinLaw", name := "ch", desc := "(I)C" } : Jvm.MethodName) method_2_code (1 : Nat) (Option.some Jvm.ClassFile.FieldType.char)).before args0 about1 = true := code_word (m := ⟨1, 1⟩) (meth := k1m1) (c := k1c1) (by decide +kernel) rfl rfl rfl (by decide +kernel)
set_option maxRecDepth 65536 in
theorem w_c2 : (Jvm.Cond.code ({ cls := "java/lang/String", name := "<init>", desc := "([C)V" } : Jvm.MethodName) jdk_42_method_3_code (2 : Nat) (Option.none : Option Jvm.ClassFile.FieldType)).before args0 about1 = true := code_word (m := ⟨8, 1⟩) (meth := k8m1) (c := k8c1) (by decide +kernel) rfl rfl rfl (by decide +kernel)
set_option maxRecDepth 65536 in
theorem w_c3 : (Jvm.Cond.code ({ cls := "java/lang/String", name := "<init>", desc := "([CIILjava/lang/Void;)V" } : Jvm.MethodName) jdk_42_method_149_code (6 : Nat) (Option.none : Option Jvm.ClassFile.FieldType)).before args0 about1 = true := code_word (m := ⟨8, 3⟩) (meth := k8m3) (c := k8c3) (by decide +kernel) rfl rfl rfl (by decide +kernel)
set_option maxRecDepth 65536 in
theorem w_c4 : (Jvm.Cond.code ({ cls := "java/lang/Object", name := "<init>", desc := "()V" } : Jvm.MethodName) object_method_1_code (1 : Nat) (Option.none : Option Jvm.ClassFile.FieldType)).before args0 about1 = true := code_word (m := ⟨0, 0⟩) (meth := k0m0) (c := k0c0) (by decide +kernel) rfl rfl rfl (by decide +kernel)
set_option maxRecDepth 65536 in
theorem w_c5 : (Jvm.Cond.code ({ cls := "java/lang/StringUTF16", name := "compress", desc := "([CII)[B" } : Jvm.MethodName) jdk_52_method_16_code (6 : Nat) (Option.some (Jvm.ClassFile.FieldType.array Jvm.ClassFile.FieldType.byte))).before args0 about1 = true := code_word (m := ⟨9, 2⟩) (meth := k9m2) (c := k9c2) (by decide +kernel) rfl rfl rfl (by decide +kernel)
set_option maxRecDepth 65536 in
theorem w_c6 : (Jvm.Cond.code ({ cls := "java/lang/StringUTF16", name := "compress", desc := "([CI[BII)I" } : Jvm.MethodName) jdk_52_method_21_code (7 : Nat) (Option.some Jvm.ClassFile.FieldType.int)).before args0 about1 = true := code_word (m := ⟨9, 3⟩) (meth := k9m3) (c := k9c3) (by decide +kernel) rfl rfl rfl (by decide +kernel)
set_option maxRecDepth 65536 in
theorem w_c7 : (Jvm.Cond.code ({ cls := "java/lang/StringUTF16", name := "coderFromArrayLen", desc := "([BI)B" } : Jvm.MethodName) jdk_52_method_15_code (2 : Nat) (Option.some Jvm.ClassFile.FieldType.byte)).before args0 about1 = true := code_word (m := ⟨9, 1⟩) (meth := k9m1) (c := k9c1) (by decide +kernel) rfl rfl rfl (by decide +kernel)
set_option maxRecDepth 65536 in
theorem w_c8 : (Jvm.Cond.code ({ cls := "com/example/rivulet/rivulet/Source", name := "<init>", desc := "(Ljava/lang/String;)V" } : Jvm.MethodName) prog_7_method_1_code (2 : Nat) (Option.none : Option Jvm.ClassFile.FieldType)).before args0 about1 = true := code_word (m := ⟨2, 0⟩) (meth := k2m0) (c := k2c0) (by decide +kernel) rfl rfl rfl (by decide +kernel)
set_option maxRecDepth 65536 in
theorem w_c9 : (Jvm.Cond.code ({ cls := "com/example/rivulet/rivulet/SourceLinePinLaw", name := "nl", desc := "(CII)I" } : Jvm.MethodName) method_3_code (3 : Nat) (Option.some Jvm.ClassFile.FieldType.int)).before args0 about1 = true := code_word (m := ⟨1, 2⟩) (meth := k1m2) (c := k1c2) (by decide +kernel) rfl rfl rfl (by decide +kernel)
set_option maxRecDepth 65536 in
theorem w_c10 : (Jvm.Cond.code ({ cls := "com/example/rivulet/rivulet/Source", name := "line", desc := "(I)I" } : Jvm.MethodName) prog_7_method_3_code (4 : Nat) (Option.some Jvm.ClassFile.FieldType.int)).before args0 about1 = true := code_word (m := ⟨2, 1⟩) (meth := k2m1) (c := k2c1) (by decide +kernel) rfl rfl rfl (by decide +kernel)
set_option maxRecDepth 65536 in
theorem w_c11 : (Jvm.Cond.code ({ cls := "java/lang/String", name := "charAt", desc := "(I)C" } : Jvm.MethodName) jdk_42_method_56_code (2 : Nat) (Option.some Jvm.ClassFile.FieldType.char)).before args0 about1 = true := code_word (m := ⟨8, 2⟩) (meth := k8m2) (c := k8c2) (by decide +kernel) rfl rfl rfl (by decide +kernel)
set_option maxRecDepth 65536 in
theorem w_c12 : (Jvm.Cond.code ({ cls := "java/lang/String", name := "isLatin1", desc := "()Z" } : Jvm.MethodName) jdk_42_method_154_code (1 : Nat) (Option.some Jvm.ClassFile.FieldType.boolean)).before args0 about1 = true := code_word (m := ⟨8, 4⟩) (meth := k8m4) (c := k8c4) (by decide +kernel) rfl rfl rfl (by decide +kernel)
set_option maxRecDepth 65536 in
theorem w_c13 : (Jvm.Cond.code ({ cls := "java/lang/StringLatin1", name := "charAt", desc := "([BI)C" } : Jvm.MethodName) jdk_43_method_2_code (2 : Nat) (Option.some Jvm.ClassFile.FieldType.char)).before args0 about1 = true := code_word (m := ⟨10, 1⟩) (meth := k10m1) (c := k10c1) (by decide +kernel) rfl rfl rfl (by decide +kernel)
set_option maxRecDepth 65536 in
theorem w_c14 : (Jvm.Cond.code ({ cls := "java/lang/String", name := "checkIndex", desc := "(II)V" } : Jvm.MethodName) jdk_42_method_155_code (2 : Nat) (Option.none : Option Jvm.ClassFile.FieldType)).before args0 about1 = true := code_word (m := ⟨8, 5⟩) (meth := k8m5) (c := k8c5) (by decide +kernel) rfl rfl rfl (by decide +kernel)
set_option maxRecDepth 65536 in
theorem w_c15 : (Jvm.Cond.code ({ cls := "jdk/internal/util/Preconditions", name := "checkIndex", desc := "(IILjava/util/function/BiFunction;)I" } : Jvm.MethodName) jdk_41_method_11_code (3 : Nat) (Option.some Jvm.ClassFile.FieldType.int)).before args0 about1 = true := code_word (m := ⟨11, 1⟩) (meth := k11m1) (c := k11c1) (by decide +kernel) rfl rfl rfl (by decide +kernel)
def codes1 : List Jvm.Cond := [Jvm.Cond.code x code maxLocals ret, Jvm.Cond.code ({ cls := "com/example/rivulet/rivulet/SourceLinePinLaw", name := "ch", desc := "(I)C" } : Jvm.MethodName) method_2_code (1 : Nat) (Option.some Jvm.ClassFile.FieldType.char), Jvm.Cond.code ({ cls := "java/lang/String", name := "<init>", desc := "([C)V" } : Jvm.MethodName) jdk_42_method_3_code (2 : Nat) (Option.none : Option Jvm.ClassFile.FieldType), Jvm.Cond.code ({ cls := "java/lang/String", name := "<init>", desc := "([CIILjava/lang/Void;)V" } : Jvm.MethodName) jdk_42_method_149_code (6 : Nat) (Option.none : Option Jvm.ClassFile.FieldType), Jvm.Cond.code ({ cls := "java/lang/Object", name := "<init>", desc := "()V" } : Jvm.MethodName) object_method_1_code (1 : Nat) (Option.none : Option Jvm.ClassFile.FieldType), Jvm.Cond.code ({ cls := "java/lang/StringUTF16", name := "compress", desc := "([CII)[B" } : Jvm.MethodName) jdk_52_method_16_code (6 : Nat) (Option.some (Jvm.ClassFile.FieldType.array Jvm.ClassFile.FieldType.byte)), Jvm.Cond.code ({ cls := "java/lang/StringUTF16", name := "compress", desc := "([CI[BII)I" } : Jvm.MethodName) jdk_52_method_21_code (7 : Nat) (Option.some Jvm.ClassFile.FieldType.int), Jvm.Cond.code ({ cls := "java/lang/StringUTF16", name := "coderFromArrayLen", desc := "([BI)B" } : Jvm.MethodName) jdk_52_method_15_code (2 : Nat) (Option.some Jvm.ClassFile.FieldType.byte), Jvm.Cond.code ({ cls := "com/example/rivulet/rivulet/Source", name := "<init>", desc := "(Ljava/lang/String;)V" } : Jvm.MethodName) prog_7_method_1_code (2 : Nat) (Option.none : Option Jvm.ClassFile.FieldType), Jvm.Cond.code ({ cls := "com/example/rivulet/rivulet/SourceLinePinLaw", name := "nl", desc := "(CII)I" } : Jvm.MethodName) method_3_code (3 : Nat) (Option.some Jvm.ClassFile.FieldType.int), Jvm.Cond.code ({ cls := "com/example/rivulet/rivulet/Source", name := "line", desc := "(I)I" } : Jvm.MethodName) prog_7_method_3_code (4 : Nat) (Option.some Jvm.ClassFile.FieldType.int), Jvm.Cond.code ({ cls := "java/lang/String", name := "charAt", desc := "(I)C" } : Jvm.MethodName) jdk_42_method_56_code (2 : Nat) (Option.some Jvm.ClassFile.FieldType.char), Jvm.Cond.code ({ cls := "java/lang/String", name := "isLatin1", desc := "()Z" } : Jvm.MethodName) jdk_42_method_154_code (1 : Nat) (Option.some Jvm.ClassFile.FieldType.boolean), Jvm.Cond.code ({ cls := "java/lang/StringLatin1", name := "charAt", desc := "([BI)C" } : Jvm.MethodName) jdk_43_method_2_code (2 : Nat) (Option.some Jvm.ClassFile.FieldType.char), Jvm.Cond.code ({ cls := "java/lang/String", name := "checkIndex", desc := "(II)V" } : Jvm.MethodName) jdk_42_method_155_code (2 : Nat) (Option.none : Option Jvm.ClassFile.FieldType), Jvm.Cond.code ({ cls := "jdk/internal/util/Preconditions", name := "checkIndex", desc := "(IILjava/util/function/BiFunction;)I" } : Jvm.MethodName) jdk_41_method_11_code (3 : Nat) (Option.some Jvm.ClassFile.FieldType.int)]
set_option maxRecDepth 65536 in
theorem codes_eq : words1.filter isCode = codes1 := rfl
theorem w_codes : ∀ c ∈ words1.filter isCode, c.before args0 about1 = true := by
  rw [codes_eq]
  intro c hc
  simp only [codes1, List.mem_cons, List.not_mem_nil, or_false] at hc
  rcases hc with rfl | rfl | rfl | rfl | rfl | rfl | rfl | rfl | rfl | rfl | rfl | rfl | rfl | rfl | rfl | rfl
  · exact w_c0
  · exact w_c1
  · exact w_c2
  · exact w_c3
  · exact w_c4
  · exact w_c5
  · exact w_c6
  · exact w_c7
  · exact w_c8
  · exact w_c9
  · exact w_c10
  · exact w_c11
  · exact w_c12
  · exact w_c13
  · exact w_c14
  · exact w_c15
set_option maxRecDepth 65536 in
theorem w_t1 : (words1.take 24).all (fun c => isCode c || c.before args0 about1) = true := by decide +kernel
set_option maxRecDepth 65536 in
theorem w_t2 : ((words1.drop 24).take 24).all (fun c => isCode c || c.before args0 about1) = true := by decide +kernel
set_option maxRecDepth 65536 in
theorem w_t3 : (((words1.drop 24).drop 24).take 24).all (fun c => isCode c || c.before args0 about1) = true := by decide +kernel
set_option maxRecDepth 65536 in
theorem w_t4 : (((words1.drop 24).drop 24).drop 24).all (fun c => isCode c || c.before args0 about1) = true := by decide +kernel
theorem w_tables : (allAtoms (Jvm.Cond.code x code maxLocals ret :: tables_1)).before args0 about1 = true := by
  rw [allAtoms_all]
  show words1.all (fun c => c.before args0 about1) = true
  refine all_split ?_ w_codes
  rw [← List.take_append_drop 24 words1, List.all_append, w_t1, ← List.take_append_drop 24 (words1.drop 24), List.all_append, w_t2, ← List.take_append_drop 24 ((words1.drop 24).drop 24), List.all_append, w_t3, w_t4]
  rfl
set_option maxRecDepth 65536 in
theorem w_rest : rest_1_c.before args0 about1 = true := by decide +kernel
set_option maxRecDepth 65536 in
theorem w_case : (Jvm.Cond.and given_1 narrow_1).before args0 about1 = true := by decide +kernel
theorem w_applies : (headSpec (Jvm.Cond.code x code maxLocals ret :: tables_1) room_1).applies x e0.platform about1 = true :=
  (Spec.applies_iff w_frames).mpr ⟨w_running, w_runnable, w_alone, w_named, w_hears, w_ripe, w_room, w_tables⟩
theorem atStart : AtStart classFile x code maxLocals ret World_1 tables_1 room_1 Calls_1 rest_1 Pre_1 launch0 p0 e0 about1 theMethod args0 below0 :=
  ⟨lists_1, trivial, launch0.admits_env _ _ _, launch0.least_env, fairChoices_fair.cas, fairChoices_fair.clock, w_frames, w_args, w_heap, w_applies, trivial, w_rest, w_case⟩
end start1
theorem witness_1 : WitnessClaimed_1 := ⟨start1.p0, start1.e0, start1.about1, start1.theMethod, start1.args0, start1.below0, start1.atStart⟩
end Jvm.Pilot.@@N@@
