import JvmDerived
import JvmDerived.Pilot.@@N@@Statement
import JvmDerived.Pilot.@@N@@Code
set_option linter.unusedVariables false
set_option linter.unusedSimpArgs false
/- laws to paste: Road.backV, Road.codOf, Road.lenW, Road.chN (cut by pick.py; bodies as the Statement names them) -/
namespace Jvm.Pilot.@@N@@
namespace StrChars
open Jvm Sem ClassFile Op Lib Jvm.Stand Jvm.Free.XT Jvm.Free.ALB Jvm.Free.JM Jvm.Free
open Jvm.Lib.Cold (StaticIs)
/-- a char array whose places are chars -/
def Ch (a : Addr) (A : Cell) (U : State) : Prop := Arr .char a A U ∧ Typed .char A
theorem Ch.mv {a : Addr} {A : Cell} {U U' : State} (h : Ch a A U) (hal : U.vm.Alike U'.vm) (hh : U'.heap = U.heap) : Ch a A U' := ⟨h.1.mv hal hh, h.2⟩
theorem Ch.keep {a : Addr} {A : Cell} {U U' : State} (h : Ch a A U) (hal : U.vm.Alike U'.vm) (hk : U'.heap[a]? = some A) : Ch a A U' := ⟨h.1.keep hal hk, h.2⟩
/-- what place i of a char[]'s cell holds -/
def cv (A : Cell) (i : Nat) : Int32 := match A.slots[i]? with | some (.int x) => x | _ => 0
theorem Ch.get {a : Addr} {A : Cell} {U : State} (h : Ch a A U) {i : Nat} (hi : i < A.slots.size) : A.slots[i]? = some (.int (cv A i)) := by
  have e := Array.getElem?_eq_getElem hi
  have f := h.2 i _ e
  unfold cv; rw [e]
  generalize A.slots[i] = v at f
  cases v <;> simp [fits] at f ⊢
/-- the byte that i2b leaves of a char -/
def lo8 (x : Int32) : Int32 := x.toInt8.toInt32
theorem fits_lo8 (y : Int32) : fits .byte (.int (lo8 y)) = true := by
  have h1 := y.toInt8.le_toInt
  have h2 := y.toInt8.toInt_lt
  simp only [lo8, fits, Bool.and_eq_true, decide_eq_true_eq, Int32.le_iff_toInt_le, Int8.toInt_toInt32, show (-128 : Int32).toInt = -128 from by decide, show (127 : Int32).toInt = 127 from by decide]
  omega
/-- A' is A but that each place j of lo .. hi - 1 holds f j -/
def Laid (A A' : Cell) (lo hi : Nat) (f : Nat → Value) : Prop := A'.cls = A.cls ∧ A'.vm = A.vm ∧ A'.slots.size = A.slots.size ∧ ∀ i, A'.slots[i]? = if lo ≤ i ∧ i < hi then some (f i) else A.slots[i]?
theorem Laid.zero (A : Cell) (lo : Nat) (f : Nat → Value) : Laid A A lo (lo + 0) f := ⟨rfl, rfl, rfl, fun i => by rw [if_neg (by omega)]⟩
theorem Laid.step {A Ak : Cell} {lo k : Nat} {f : Nat → Value} {v : Value} (h : Laid A Ak lo k f) (hlo : lo ≤ k) (hk : k < Ak.slots.size) (hv : v = f k) : Laid A (Ak.setSlot k v) lo (k + 1) f := by
  refine ⟨h.1, h.2.1, by simpa [Cell.setSlot] using h.2.2.1, fun i => ?_⟩
  by_cases e : k = i
  · subst e; rw [Cell.slots_setSlot_self v hk, if_pos (by omega), hv]
  · rw [Cell.slots_setSlot_ne v e, h.2.2.2 i]
    by_cases q : lo ≤ i ∧ i < k
    · rw [if_pos q, if_pos (by omega)]
    · rw [if_neg q, if_neg (by omega)]
def U16 : String := "java/lang/StringUTF16"
namespace Cmp5
def yN : MethodName := ⟨"java/lang/StringUTF16", "compress", "([CI[BII)I"⟩
abbrev yB : ByteArray := jdk_52_method_21_code
theorem d0 : decode yB 0 = .ok (.iconst 0, 1) := by decide +kernel
theorem d1 : decode yB 1 = .ok (.istore 5, 2) := by decide +kernel
theorem d3 : decode yB 3 = .ok (.iload 5, 2) := by decide +kernel
theorem d5 : decode yB 5 = .ok (.iload 4, 2) := by decide +kernel
theorem d7 : decode yB 7 = .ok (.if_icmp (.ge) 37, 3) := by decide +kernel
theorem d10 : decode yB 10 = .ok (.aload_n 0, 1) := by decide +kernel
theorem d11 : decode yB 11 = .ok (.iload_n 1, 1) := by decide +kernel
theorem d12 : decode yB 12 = .ok (.caload, 1) := by decide +kernel
theorem d13 : decode yB 13 = .ok (.istore 6, 2) := by decide +kernel
theorem d15 : decode yB 15 = .ok (.iload 6, 2) := by decide +kernel
theorem d17 : decode yB 17 = .ok (.sipush 255, 3) := by decide +kernel
theorem d20 : decode yB 20 = .ok (.if_icmp (.le) 6, 3) := by decide +kernel
theorem d26 : decode yB 26 = .ok (.aload_n 2, 1) := by decide +kernel
theorem d27 : decode yB 27 = .ok (.iload_n 3, 1) := by decide +kernel
theorem d28 : decode yB 28 = .ok (.iload 6, 2) := by decide +kernel
theorem d30 : decode yB 30 = .ok (.i2b, 1) := by decide +kernel
theorem d31 : decode yB 31 = .ok (.bastore, 1) := by decide +kernel
theorem d32 : decode yB 32 = .ok (.iinc 1 1, 3) := by decide +kernel
theorem d35 : decode yB 35 = .ok (.iinc 3 1, 3) := by decide +kernel
theorem d38 : decode yB 38 = .ok (.iinc 5 1, 3) := by decide +kernel
theorem d41 : decode yB 41 = .ok (.goto (-38), 3) := by decide +kernel
theorem d44 : decode yB 44 = .ok (.iload 4, 2) := by decide +kernel
theorem d46 : decode yB 46 = .ok (.ireturn, 1) := by decide +kernel
def site : List Cond := []
def tab : Cond := tabOf yN yB 7 (some .int) site
def P (b : Addr) (A : Cell) (d : Addr) (B : Cell) (o q len : Nat) (args : Array Value) (s : State) : Prop := args = #[.ref b, .int (Int32.ofNat o), .ref d, .int (Int32.ofNat q), .int (Int32.ofNat len)] ∧ Ch b A s ∧ Arr .byte d B s ∧ b ≠ d ∧ o + len ≤ A.slots.size ∧ q + len ≤ B.slots.size ∧ ∀ i, i < len → ¬ 255 < cv A (o + i)
def E (b : Addr) (A : Cell) (d : Addr) (B : Cell) (o q len : Nat) (r : Option Value) (s u : State) : Prop := r = some (.int (Int32.ofNat len)) ∧ ∃ B', Put d B' s u ∧ Laid B B' q (q + len) (fun j => Value.int (lo8 (cv A (o + (j - q)))))
/-- no char of the range above 255: len; the places written hold each char's low byte -/
theorem law (l : Launch) (b : Addr) (A : Cell) (d : Addr) (B : Cell) (o q len : Nat) : Law l yN 5 5 0 0 yB 7 (some .int) site (P b A d B o q len) (E b A d B o q len) (copyLocs d q len) 0 0 := by
  refine Law.of_walk (plainFor_of_name (by decide +kernel)) (by decide +kernel) (by decide +kernel) (by decide) (fun _ _ h => by rw [h.1]; rfl) (fun _ U U' hal hh h => ⟨h.1, h.2.1.mv hal hh, h.2.2.1.mv hal hh, h.2.2.2⟩) (fun r U U' V V' h1 hal h2 h => ⟨h.1, h.2.elim fun B' q => ⟨B', q.1.mv h1 h2, q.2⟩⟩) ?_
  intro p e s m args below meth c s₁ X0 hexec hbytes hml hret hlk hnm hown hh0 W hP
  obtain ⟨rfl, hA, hB, hne, l1, l2, hp⟩ := hP
  have c1 : Steps p.tables e below (s₁.setTop (entryFrame m #[.ref b, .int (Int32.ofNat o), .ref d, .int (Int32.ofNat q), .int (Int32.ofNat len)] 7)) (s₁.setTop (mkF m 0 #[.val (.ref b), .val (.int (Int32.ofNat o)), .val (.ref d), .val (.int (Int32.ofNat q)), .val (.int (Int32.ofNat len)), .unset, .unset] [])) := entry rfl
  have hA0 := hA.1.mv X0.warmed.alike hh0
  have hB0 := hB.mv X0.warmed.alike hh0
  have a31 := hA.1.2.2.2
  have c2 : Steps p.tables e below (s₁.setTop (entryFrame m #[.ref b, .int (Int32.ofNat o), .ref d, .int (Int32.ofNat q), .int (Int32.ofNat len)] 7)) (s₁.setTop (mkF m 3 #[.val (.ref b), .val (.int (Int32.ofNat o)), .val (.ref d), .val (.int (Int32.ofNat q)), .val (.int (Int32.ofNat len)), .val (.int 0), .unset] [])) := c1.trans (by
    refine iconstV X0.here hexec rfl 0 (hb hbytes d0) (by decide) ?_
    refine XS.istore X0.here hexec rfl (hb hbytes d1) rfl rfl ?_
    exact Steps.refl _)
  have loop : ∀ (r i : Nat), i + r = len → ∀ (z : Slot), (z = .unset ∨ ∃ w, z = .val w ∧ w.category = 1) → ∀ (Tl : State) (Bk : Cell), Stand p l e { frames := 0, locals := 0, cells := 0, slots := 0 } s m #[.ref b, .int (Int32.ofNat o), .ref d, .int (Int32.ofNat q), .int (Int32.ofNat len)] below meth c Tl ([] ++ copyLocs d q i) 0 0 → Put d Bk s₁ Tl → Laid B Bk q (q + i) (fun j => Value.int (lo8 (cv A (o + (j - q))))) →
      Steps p.tables e below (s₁.setTop (entryFrame m #[.ref b, .int (Int32.ofNat o), .ref d, .int (Int32.ofNat q), .int (Int32.ofNat len)] 7)) (Tl.setTop (mkF m 3 #[.val (.ref b), .val (.int (Int32.ofNat (o + i))), .val (.ref d), .val (.int (Int32.ofNat (q + i))), .val (.int (Int32.ofNat len)), .val (.int (Int32.ofNat i)), z] [])) → ∃ (T' : State) (B' : Cell) (z' : Slot), Stand p l e { frames := 0, locals := 0, cells := 0, slots := 0 } s m #[.ref b, .int (Int32.ofNat o), .ref d, .int (Int32.ofNat q), .int (Int32.ofNat len)] below meth c T' ([] ++ copyLocs d q len) 0 0 ∧ Put d B' s₁ T' ∧ Laid B B' q (q + len) (fun j => Value.int (lo8 (cv A (o + (j - q))))) ∧
      Steps p.tables e below (s₁.setTop (entryFrame m #[.ref b, .int (Int32.ofNat o), .ref d, .int (Int32.ofNat q), .int (Int32.ofNat len)] 7)) (T'.setTop (mkF m 3 #[.val (.ref b), .val (.int (Int32.ofNat (o + len))), .val (.ref d), .val (.int (Int32.ofNat (q + len))), .val (.int (Int32.ofNat len)), .val (.int (Int32.ofNat len)), z'] [])) := by
    intro r
    induction r with
    | zero =>
      intro i hi z hz Tl Bk Xl pl fl cl
      have hil : i = len := by omega
      rw [hil] at Xl fl cl
      exact ⟨Tl, Bk, z, Xl, pl, fl, cl⟩
    | succ r ih =>
      intro i hi z hz Tl Bk Xl pl fl cl
      have all := X0.warmed.alike.symm.trans Xl.warmed.alike
      have hAl := hA0.keep all (pl.other hne hA0.1)
      have hBk := hB0.like all pl.1 fl.1 fl.2.1 fl.2.2.1
      have hlt : q + i < Bk.slots.size := by rw [fl.2.2.1]; omega
      have c3 : Steps p.tables e below (s₁.setTop (entryFrame m #[.ref b, .int (Int32.ofNat o), .ref d, .int (Int32.ofNat q), .int (Int32.ofNat len)] 7)) (Tl.setTop (mkF m 12 #[.val (.ref b), .val (.int (Int32.ofNat (o + i))), .val (.ref d), .val (.int (Int32.ofNat (q + i))), .val (.int (Int32.ofNat len)), .val (.int (Int32.ofNat i)), z] [.int (Int32.ofNat (o + i)), .ref b])) := cl.trans (by
        refine XS.iload Xl.here hexec rfl (hb hbytes d3) rfl ?_
        refine XS.iload Xl.here hexec rfl (hb hbytes d5) rfl ?_
        refine XS.icmpNo Xl.here hexec rfl (hb hbytes d7) rfl (ii_ge_f (lt32 (by omega) (by omega))) ?_
        refine XS.aloadN Xl.here hexec rfl (hb hbytes d10) rfl rfl ?_
        refine XS.iloadN Xl.here hexec rfl (hb hbytes d11) rfl ?_
        exact Steps.refl _)
      have c4 : Steps p.tables e below (s₁.setTop (entryFrame m #[.ref b, .int (Int32.ofNat o), .ref d, .int (Int32.ofNat q), .int (Int32.ofNat len)] 7)) (Tl.setTop (mkF m 13 #[.val (.ref b), .val (.int (Int32.ofNat (o + i))), .val (.ref d), .val (.int (Int32.ofNat (q + i))), .val (.int (Int32.ofNat len)), .val (.int (Int32.ofNat i)), z] [.int (cv A (o + i))])) := c3.trans (by
        refine Xl.aget hexec hAl rfl (hA.get (i := o + i) (by omega)) rfl rfl (hb hbytes d12) ?_
        exact Steps.refl _)
      have c5 : Steps p.tables e below (s₁.setTop (entryFrame m #[.ref b, .int (Int32.ofNat o), .ref d, .int (Int32.ofNat q), .int (Int32.ofNat len)] 7)) (Tl.setTop (mkF m 15 #[.val (.ref b), .val (.int (Int32.ofNat (o + i))), .val (.ref d), .val (.int (Int32.ofNat (q + i))), .val (.int (Int32.ofNat len)), .val (.int (Int32.ofNat i)), .val (.int (cv A (o + i)))] [])) := c4.trans (by
        refine XS.istoreS Xl.here hexec rfl (hb hbytes d13) rfl rfl hz ?_
        exact Steps.refl _)
      have c6 : Steps p.tables e below (s₁.setTop (entryFrame m #[.ref b, .int (Int32.ofNat o), .ref d, .int (Int32.ofNat q), .int (Int32.ofNat len)] 7)) (Tl.setTop (mkF m 31 #[.val (.ref b), .val (.int (Int32.ofNat (o + i))), .val (.ref d), .val (.int (Int32.ofNat (q + i))), .val (.int (Int32.ofNat len)), .val (.int (Int32.ofNat i)), .val (.int (cv A (o + i)))] [.int (lo8 (cv A (o + i))), .int (Int32.ofNat (q + i)), .ref d])) := c5.trans (by
        refine XS.iload Xl.here hexec rfl (hb hbytes d15) rfl ?_
        refine sipushV Xl.here hexec rfl 255 (hb hbytes d17) (by decide) ?_
        refine XS.icmpYes Xl.here hexec rfl (pc0 := 20) rfl (hb hbytes d20) rfl (ii_le_t (hp i (by omega))) (by decide) rfl ?_
        refine XS.aloadN Xl.here hexec rfl (hb hbytes d26) rfl rfl ?_
        refine XS.iloadN Xl.here hexec rfl (hb hbytes d27) rfl ?_
        refine XS.iload Xl.here hexec rfl (hb hbytes d28) rfl ?_
        refine i2b Xl.here hexec rfl (hb hbytes d30) rfl ?_
        exact Steps.refl _)
      obtain ⟨T7, X7, p7, st7⟩ := Xl.aput hexec hBk rfl hlt rfl (fits_lo8 (cv A (o + i))) (g := (mkF m 31 #[.val (.ref b), .val (.int (Int32.ofNat (o + i))), .val (.ref d), .val (.int (Int32.ofNat (q + i))), .val (.int (Int32.ofNat len)), .val (.int (Int32.ofNat i)), .val (.int (cv A (o + i)))] [.int (lo8 (cv A (o + i))), .int (Int32.ofNat (q + i)), .ref d])) rfl (rest := []) rfl (hb hbytes d31)
      have c8 : Steps p.tables e below (s₁.setTop (entryFrame m #[.ref b, .int (Int32.ofNat o), .ref d, .int (Int32.ofNat q), .int (Int32.ofNat len)] 7)) (T7.setTop (mkF m 32 #[.val (.ref b), .val (.int (Int32.ofNat (o + i))), .val (.ref d), .val (.int (Int32.ofNat (q + i))), .val (.int (Int32.ofNat len)), .val (.int (Int32.ofNat i)), .val (.int (cv A (o + i)))] [])) := c6.trans (st7 _ (Steps.refl _))
      have c9 : Steps p.tables e below (s₁.setTop (entryFrame m #[.ref b, .int (Int32.ofNat o), .ref d, .int (Int32.ofNat q), .int (Int32.ofNat len)] 7)) (T7.setTop (mkF m 3 #[.val (.ref b), .val (.int (Int32.ofNat (o + i) + 1)), .val (.ref d), .val (.int (Int32.ofNat (q + i) + 1)), .val (.int (Int32.ofNat len)), .val (.int (Int32.ofNat i + 1)), .val (.int (cv A (o + i)))] [])) := c8.trans (by
        refine iincV X7.here hexec rfl 1 (hb hbytes d32) (by decide) rfl rfl ?_
        refine iincV X7.here hexec rfl 1 (hb hbytes d35) (by decide) rfl rfl ?_
        refine iincV X7.here hexec rfl 1 (hb hbytes d38) (by decide) rfl rfl ?_
        refine XS.goto X7.here hexec rfl (pc0 := 41) rfl (hb hbytes d41) (by decide) rfl ?_
        exact Steps.refl _)
      have c10 : Steps p.tables e below (s₁.setTop (entryFrame m #[.ref b, .int (Int32.ofNat o), .ref d, .int (Int32.ofNat q), .int (Int32.ofNat len)] 7)) (T7.setTop (mkF m 3 #[.val (.ref b), .val (.int (Int32.ofNat (o + (i + 1)))), .val (.ref d), .val (.int (Int32.ofNat (q + (i + 1)))), .val (.int (Int32.ofNat len)), .val (.int (Int32.ofNat (i + 1))), .val (.int (cv A (o + i)))] [])) := by
        have := c9
        rw [succ32, succ32, succ32] at this
        exact this
      exact ih (i + 1) (by omega) _ (Or.inr ⟨_, rfl, rfl⟩) T7 _ (by rw [copyLocs_step, ← List.append_assoc]; exact X7) (pl.trans p7) (fl.step (by omega) hlt (by simp)) c10
  obtain ⟨T9, B9, z9, X9, p9, f9, g9⟩ := loop len 0 (by omega) .unset (Or.inl rfl) s₁ B (by simpa [copyLocs] using X0) ⟨hB0.1, fun _ _ => rfl, rfl⟩ (Laid.zero _ _ _) c2
  have c11 : Steps p.tables e below (s₁.setTop (entryFrame m #[.ref b, .int (Int32.ofNat o), .ref d, .int (Int32.ofNat q), .int (Int32.ofNat len)] 7)) (T9.setTop (mkF m 46 #[.val (.ref b), .val (.int (Int32.ofNat (o + len))), .val (.ref d), .val (.int (Int32.ofNat (q + len))), .val (.int (Int32.ofNat len)), .val (.int (Int32.ofNat len)), z9] [.int (Int32.ofNat len)])) := g9.trans (by
    refine XS.iload X9.here hexec rfl (hb hbytes d3) rfl ?_
    refine XS.iload X9.here hexec rfl (hb hbytes d5) rfl ?_
    refine XS.icmpYes X9.here hexec rfl (pc0 := 7) rfl (hb hbytes d7) rfl (ii_ge_t (nlt32 (by omega) (Nat.le_refl _))) (by decide) rfl ?_
    refine XS.iload X9.here hexec rfl (hb hbytes d44) rfl ?_
    exact Steps.refl _)
  exact ⟨T9, some (.int (Int32.ofNat len)), _, _, _, X9, by simp, rfl, rfl, (fun h => by cases h), ⟨rfl, B9, p9.from hh0, f9⟩, fun fs hl => c11.trans (X9.ireturnOut hexec hret rfl (Or.inl rfl) (hb hbytes d46) hl)⟩
end Cmp5
namespace Cmp3
def yN : MethodName := ⟨"java/lang/StringUTF16", "compress", "([CII)[B"⟩
abbrev yB : ByteArray := jdk_52_method_16_code
theorem d0 : decode yB 0 = .ok (.iload_n 2, 1) := by decide +kernel
theorem d1 : decode yB 1 = .ok (.newarray .byte, 2) := by decide +kernel
theorem d3 : decode yB 3 = .ok (.astore_n 3, 1) := by decide +kernel
theorem d4 : decode yB 4 = .ok (.aload_n 0, 1) := by decide +kernel
theorem d5 : decode yB 5 = .ok (.iload_n 1, 1) := by decide +kernel
theorem d6 : decode yB 6 = .ok (.aload_n 3, 1) := by decide +kernel
theorem d7 : decode yB 7 = .ok (.iconst 0, 1) := by decide +kernel
theorem d8 : decode yB 8 = .ok (.iload_n 2, 1) := by decide +kernel
theorem d9 : decode yB 9 = .ok (.invokestatic 115, 3) := by decide +kernel
theorem d12 : decode yB 12 = .ok (.istore 4, 2) := by decide +kernel
theorem d14 : decode yB 14 = .ok (.iload 4, 2) := by decide +kernel
theorem d16 : decode yB 16 = .ok (.iload_n 2, 1) := by decide +kernel
theorem d17 : decode yB 17 = .ok (.if_icmp (.eq) 40, 3) := by decide +kernel
theorem d57 : decode yB 57 = .ok (.aload_n 3, 1) := by decide +kernel
theorem d58 : decode yB 58 = .ok (.areturn, 1) := by decide +kernel
def site : List Cond := [.arrayClass .byte, Cmp5.tab] ++ staticW U16 115 Cmp5.yN
def tab : Cond := tabOf yN yB 6 (some (.array .byte)) site
def P (b : Addr) (A : Cell) (o len : Nat) (args : Array Value) (s : State) : Prop := args = #[.ref b, .int (Int32.ofNat o), .int (Int32.ofNat len)] ∧ Ch b A s ∧ o + len ≤ A.slots.size ∧ len ≤ 536870912 ∧ ∀ i, i < len → ¬ 255 < cv A (o + i)
def E (b : Addr) (A : Cell) (o len : Nat) (r : Option Value) (s u : State) : Prop := NewArr .byte "[B" len (fun j => .int (lo8 (cv A (o + j)))) r s u ∧ u.heap.size = s.heap.size + 1
/-- no char of the range above 255: a new byte[] of their low bytes -/
theorem law (l : Launch) (b : Addr) (A : Cell) (o len : Nat) : Law l yN 3 3 1 18 yB 6 (some (.array .byte)) site (P b A o len) (E b A o len) [] 1 len := by
  refine Law.of_walk (plainFor_of_name (by decide +kernel)) (by decide +kernel) (by decide +kernel) (by decide) (fun _ _ h => by rw [h.1]; rfl) (fun _ U U' hal hh h => ⟨h.1, h.2.1.mv hal hh, h.2.2⟩) (fun r U U' V V' h1 hal h2 h => ⟨NewArr.mv r U U' V V' h1 hal h2 h.1, by rw [h1, h2]; exact h.2⟩) ?_
  intro p e s m args below meth c s₁ X0 hexec hbytes hml hret hlk hnm hown hh0 W hP
  obtain ⟨rfl, hA, l1, l2, hp⟩ := hP
  have a31 := hA.1.2.2.2
  have c1 : Steps p.tables e below (s₁.setTop (entryFrame m #[.ref b, .int (Int32.ofNat o), .int (Int32.ofNat len)] 6)) (s₁.setTop (mkF m 0 #[.val (.ref b), .val (.int (Int32.ofNat o)), .val (.int (Int32.ofNat len)), .unset, .unset, .unset] [])) := entry rfl
  have c2 : Steps p.tables e below (s₁.setTop (entryFrame m #[.ref b, .int (Int32.ofNat o), .int (Int32.ofNat len)] 6)) (s₁.setTop (mkF m 1 #[.val (.ref b), .val (.int (Int32.ofNat o)), .val (.int (Int32.ofNat len)), .unset, .unset, .unset] [.int (Int32.ofNat len)])) := c1.trans (by
    refine XS.iloadN X0.here hexec rfl (hb hbytes d0) rfl ?_
    exact Steps.refl _)
  obtain ⟨T3, B3, X3, ba3, bs3, bv3, bh3, bf3, st3⟩ := X0.anew hexec (atype := .byte) (wk W (.arrayClass .byte)) rfl (by show len * 1 ≤ _; omega) (by omega) (g := (mkF m 1 #[.val (.ref b), .val (.int (Int32.ofNat o)), .val (.int (Int32.ofNat len)), .unset, .unset, .unset] [.int (Int32.ofNat len)])) rfl (hb hbytes d1) (rest := []) rfl (Nat.le_refl _) (by show 0 + len ≤ len; omega)
  rw [hh0] at ba3 st3
  have kp3 : XT.Kept s T3 := (XT.Kept.of_eq hh0).push bh3
  have hA3 := hA.keep X3.warmed.alike (kp3 _ _ hA.1.1)
  have hne : b ≠ s.heap.size := hA.1.ne
  have c4 : Steps p.tables e below (s₁.setTop (entryFrame m #[.ref b, .int (Int32.ofNat o), .int (Int32.ofNat len)] 6)) (T3.setTop (mkF m 3 #[.val (.ref b), .val (.int (Int32.ofNat o)), .val (.int (Int32.ofNat len)), .unset, .unset, .unset] [.ref s.heap.size])) := c2.trans (st3 _ (Steps.refl _))
  have c5 : Steps p.tables e below (s₁.setTop (entryFrame m #[.ref b, .int (Int32.ofNat o), .int (Int32.ofNat len)] 6)) (T3.setTop (mkF m 9 #[.val (.ref b), .val (.int (Int32.ofNat o)), .val (.int (Int32.ofNat len)), .val (.ref s.heap.size), .unset, .unset] [.int (Int32.ofNat len), .int 0, .ref s.heap.size, .int (Int32.ofNat o), .ref b])) := c4.trans (by
    refine XS.astoreN X3.here hexec rfl (hb hbytes d3) rfl rfl rfl ?_
    refine XS.aloadN X3.here hexec rfl (hb hbytes d4) rfl rfl ?_
    refine XS.iloadN X3.here hexec rfl (hb hbytes d5) rfl ?_
    refine XS.aloadN X3.here hexec rfl (hb hbytes d6) rfl rfl ?_
    refine iconstV X3.here hexec rfl 0 (hb hbytes d7) (by decide) ?_
    refine XS.iloadN X3.here hexec rfl (hb hbytes d8) rfl ?_
    exact Steps.refl _)
  obtain ⟨v6, T6, X6, E6, g6⟩ := X3.callS hexec (Cmp5.law l b A s.heap.size B3 o 0 len) hown (wks W (staticW U16 115 Cmp5.yN)) (wk W Cmp5.tab) (W := 0) (Nat.le_of_ble_eq_true rfl) (Nat.le_of_ble_eq_true rfl) (Nat.le_refl _) (by show 0 + len + 0 ≤ len; omega) (g := (mkF m 9 #[.val (.ref b), .val (.int (Int32.ofNat o)), .val (.int (Int32.ofNat len)), .val (.ref s.heap.size), .unset, .unset] [.int (Int32.ofNat len), .int (Int32.ofNat 0), .ref s.heap.size, .int (Int32.ofNat o), .ref b])) rfl (by rw [hml]; rfl) c5 (argsL := [.ref b, .int (Int32.ofNat o), .ref s.heap.size, .int (Int32.ofNat 0), .int (Int32.ofNat len)]) (rest := []) rfl rfl (by show 2 * 0 + 0 ≤ _; decide) (hb hbytes d9) (⟨rfl, hA3, ba3, hne, l1, by rw [bs3]; simp, hp⟩)
  obtain ⟨rfl, B6, p6, f6⟩ := E6
  have c7 : Steps p.tables e below (s₁.setTop (entryFrame m #[.ref b, .int (Int32.ofNat o), .int (Int32.ofNat len)] 6)) (T6.setTop (mkF m 12 #[.val (.ref b), .val (.int (Int32.ofNat o)), .val (.int (Int32.ofNat len)), .val (.ref s.heap.size), .unset, .unset] [.int (Int32.ofNat len)])) := g6
  have c8 : Steps p.tables e below (s₁.setTop (entryFrame m #[.ref b, .int (Int32.ofNat o), .int (Int32.ofNat len)] 6)) (T6.setTop (mkF m 58 #[.val (.ref b), .val (.int (Int32.ofNat o)), .val (.int (Int32.ofNat len)), .val (.ref s.heap.size), .val (.int (Int32.ofNat len)), .unset] [.ref s.heap.size])) := c7.trans (by
    refine XS.istore X6.here hexec rfl (hb hbytes d12) rfl rfl ?_
    refine XS.iload X6.here hexec rfl (hb hbytes d14) rfl ?_
    refine XS.iloadN X6.here hexec rfl (hb hbytes d16) rfl ?_
    refine XS.icmpYes X6.here hexec rfl (pc0 := 17) rfl (hb hbytes d17) rfl (ii_eq_t rfl) (by decide) rfl ?_
    refine XS.aloadN X6.here hexec rfl (hb hbytes d57) rfl rfl ?_
    exact Steps.refl _)
  have X8 := X6.wide (L' := []) (cells' := 1) (slots' := len) (fun x hx hlt => by
    simp only [List.nil_append, copyLocs, List.mem_map, List.mem_range] at hx
    obtain ⟨i, -, rfl⟩ := hx
    exact absurd hlt (Nat.lt_irrefl _)) (Nat.le_refl _) (by omega)
  exact ⟨T6, some (.ref s.heap.size), _, _, _, X8, rfl, rfl, rfl, (fun h => by cases h), ⟨⟨rfl, B6, ba3.like (X3.warmed.alike.symm.trans X6.warmed.alike) p6.1 f6.1 f6.2.1 f6.2.2.1, f6.2.1.trans bv3, by rw [X6.warmed.alike.findClass, f6.1]; exact bf3, by rw [f6.2.2.1, bs3]; simp, fun j hj => by rw [f6.2.2.2 j, if_pos (by omega)]; rfl, kp3.put p6 (Nat.le_refl _)⟩, by rw [p6.2.2, bh3, hh0]; simp⟩, fun fs hl => c8.trans (X8.areturnOut hexec rfl hret rfl (hb hbytes d58) hl)⟩
end Cmp3
namespace CodL
def yN : MethodName := ⟨"java/lang/StringUTF16", "coderFromArrayLen", "([BI)B"⟩
abbrev yB : ByteArray := jdk_52_method_15_code
theorem d0 : decode yB 0 = .ok (.iload_n 1, 1) := by decide +kernel
theorem d1 : decode yB 1 = .ok (.aload_n 0, 1) := by decide +kernel
theorem d2 : decode yB 2 = .ok (.arraylength, 1) := by decide +kernel
theorem d3 : decode yB 3 = .ok (.isub, 1) := by decide +kernel
theorem d4 : decode yB 4 = .ok (.bipush 31, 2) := by decide +kernel
theorem d6 : decode yB 6 = .ok (.iushr, 1) := by decide +kernel
theorem d7 : decode yB 7 = .ok (.i2b, 1) := by decide +kernel
theorem d8 : decode yB 8 = .ok (.ireturn, 1) := by decide +kernel
def site : List Cond := []
def tab : Cond := tabOf yN yB 2 (some .byte) site
def P (d : Addr) (B : Cell) (args : Array Value) (s : State) : Prop := args = #[.ref d, .int (Int32.ofNat B.slots.size)] ∧ Arr .byte d B s
def E (r : Option Value) (s u : State) : Prop := XT.PureE (some (.int 0)) r s u
/-- an array as long as the number of chars: LATIN1 -/
theorem law (l : Launch) (d : Addr) (B : Cell) : Law l yN 2 2 0 0 yB 2 (some .byte) site (P d B) E [] 0 0 := by
  refine Law.of_walk (plainFor_of_name (by decide +kernel)) (by decide +kernel) (by decide +kernel) (by decide) (fun _ _ h => by rw [h.1]; rfl) (fun _ U U' hal hh h => ⟨h.1, h.2.mv hal hh⟩) (fun r U U' V V' h1 hal h2 h => XT.PureE.mv r U U' V V' h1 hal h2 h) ?_
  intro p e s m args below meth c s₁ X0 hexec hbytes hml hret hlk hnm hown hh0 W hP
  obtain ⟨rfl, hB⟩ := hP
  have hB0 := hB.mv X0.warmed.alike hh0
  have c1 : Steps p.tables e below (s₁.setTop (entryFrame m #[.ref d, .int (Int32.ofNat B.slots.size)] 2)) (s₁.setTop (mkF m 0 #[.val (.ref d), .val (.int (Int32.ofNat B.slots.size))] [])) := entry rfl
  have c2 : Steps p.tables e below (s₁.setTop (entryFrame m #[.ref d, .int (Int32.ofNat B.slots.size)] 2)) (s₁.setTop (mkF m 2 #[.val (.ref d), .val (.int (Int32.ofNat B.slots.size))] [.ref d, .int (Int32.ofNat B.slots.size)])) := c1.trans (by
    refine XS.iloadN X0.here hexec rfl (hb hbytes d0) rfl ?_
    refine XS.aloadN X0.here hexec rfl (hb hbytes d1) rfl rfl ?_
    exact Steps.refl _)
  have c3 : Steps p.tables e below (s₁.setTop (entryFrame m #[.ref d, .int (Int32.ofNat B.slots.size)] 2)) (s₁.setTop (mkF m 8 #[.val (.ref d), .val (.int (Int32.ofNat B.slots.size))] [.int (lo8 (ushr (Int32.ofNat B.slots.size - Int32.ofNat B.slots.size) 31))])) := c2.trans (by
    refine X0.alen hexec hB0 rfl rfl (hb hbytes d2) ?_
    refine XS.isub X0.here hexec rfl (hb hbytes d3) rfl ?_
    refine bipushV X0.here hexec rfl 31 (hb hbytes d4) (by decide) ?_
    refine iushr X0.here hexec rfl (hb hbytes d6) rfl ?_
    refine i2b X0.here hexec rfl (hb hbytes d7) rfl ?_
    exact Steps.refl _)
  have e0 : lo8 (ushr (Int32.ofNat B.slots.size - Int32.ofNat B.slots.size) 31) = 0 := by rw [Int32.sub_self]; decide
  rw [e0] at c3
  exact ⟨s₁, some (.int 0), _, _, _, X0, rfl, rfl, rfl, (fun h => by cases h), ⟨rfl, hh0⟩, fun fs hl => c3.trans (X0.ireturnOut hexec hret rfl (Or.inr (Or.inr (Or.inl rfl))) (hb hbytes d8) hl)⟩
end CodL
/-- the String at a is Latin-1 over a new byte[] (the heap's one new cell): the low bytes of the len chars of A from o on; every cell but a is kept -/
def Got (a : Addr) (D : Cell) (fV fC : Field) (A : Cell) (o len : Nat) (r : Option Value) (s u : State) : Prop := r = none ∧ ∃ D' V : Cell, Blank "java/lang/String" a D' u ∧ Same D D' [fV.slot, fC.slot] ∧ D'.slots[fV.slot]? = some (.ref s.heap.size) ∧ D'.slots[fC.slot]? = some (.int 0) ∧ Arr .byte s.heap.size V u ∧ V.vm = .none ∧ u.vm.findClass "[B" = some V.cls ∧ V.slots.size = len ∧ (∀ j, j < len → V.slots[j]? = some (.int (lo8 (cv A (o + j))))) ∧ (∀ (y : Addr) (c : Cell), y ≠ a → s.heap[y]? = some c → u.heap[y]? = some c) ∧ u.heap.size = s.heap.size + 1
theorem Got.mv {a : Addr} {D A : Cell} {fV fC : Field} {o len : Nat} : ∀ r (U U' V V' : State), U'.heap = U.heap → V.vm.Alike V'.vm → V'.heap = V.heap → Got a D fV fC A o len r U V → Got a D fV fC A o len r U' V' :=
  fun r U U' V V' h1 hal h2 ⟨e0, D', X, a1, a2, a3, a4, a5, a6, a7, a8, a9, a10, a11⟩ => ⟨e0, D', X, a1.mv hal h2, a2, by rw [h1]; exact a3, a4, by rw [h1]; exact a5.mv hal h2, a6, by rw [hal.findClass]; exact a7, a8, a9, by rw [h1, h2]; exact a10, by rw [h1, h2]; exact a11⟩
namespace New4
def yN : MethodName := ⟨"java/lang/String", "<init>", "([CIILjava/lang/Void;)V"⟩
abbrev yB : ByteArray := jdk_42_method_149_code
theorem d0 : decode yB 0 = .ok (.aload_n 0, 1) := by decide +kernel
theorem d1 : decode yB 1 = .ok (.invokespecial 1, 3) := by decide +kernel
theorem d4 : decode yB 4 = .ok (.iload_n 3, 1) := by decide +kernel
theorem d5 : decode yB 5 = .ok (.ifCond (.ne) 22, 3) := by decide +kernel
theorem d27 : decode yB 27 = .ok (.getstatic 38, 3) := by decide +kernel
theorem d30 : decode yB 30 = .ok (.ifCond (.eq) 28, 3) := by decide +kernel
theorem d33 : decode yB 33 = .ok (.aload_n 1, 1) := by decide +kernel
theorem d34 : decode yB 34 = .ok (.iload_n 2, 1) := by decide +kernel
theorem d35 : decode yB 35 = .ok (.iload_n 3, 1) := by decide +kernel
theorem d36 : decode yB 36 = .ok (.invokestatic 177, 3) := by decide +kernel
theorem d39 : decode yB 39 = .ok (.astore 5, 2) := by decide +kernel
theorem d41 : decode yB 41 = .ok (.aload_n 0, 1) := by decide +kernel
theorem d42 : decode yB 42 = .ok (.aload 5, 2) := by decide +kernel
theorem d44 : decode yB 44 = .ok (.iload_n 3, 1) := by decide +kernel
theorem d45 : decode yB 45 = .ok (.invokestatic 47, 3) := by decide +kernel
theorem d48 : decode yB 48 = .ok (.putfield 15, 3) := by decide +kernel
theorem d51 : decode yB 51 = .ok (.aload_n 0, 1) := by decide +kernel
theorem d52 : decode yB 52 = .ok (.aload 5, 2) := by decide +kernel
theorem d54 : decode yB 54 = .ok (.putfield 9, 3) := by decide +kernel
theorem d57 : decode yB 57 = .ok (.return_, 1) := by decide +kernel
def site : List Cond := [.fieldLink "java/lang/String" 38 "java/lang/String" "COMPACT_STRINGS" "Z", Cmp3.tab, CodL.tab, .laysFinal "java/lang/String" "java/lang/String" "value" "[B", .fieldLink "java/lang/String" 9 "java/lang/String" "value" "[B", .laysFinal "java/lang/String" "java/lang/String" "coder" "B", .fieldLink "java/lang/String" 15 "java/lang/String" "coder" "B"] ++ objW "java/lang/String" 1 ++ staticW "java/lang/String" 177 Cmp3.yN ++ staticW "java/lang/String" 47 CodL.yN
def tab : Cond := tabOf yN yB 6 none site
def P (a : Addr) (D : Cell) (fV fC : Field) (b : Addr) (A : Cell) (z : Int32) (o len : Nat) (args : Array Value) (s : State) : Prop := args = #[.ref a, .ref b, .int (Int32.ofNat o), .int (Int32.ofNat len), .null] ∧ Blank "java/lang/String" a D s ∧ Found "java/lang/String" "value" "[B" fV s ∧ Found "java/lang/String" "coder" "B" fC s ∧ Ch b A s ∧ StaticIs s "java/lang/String" "COMPACT_STRINGS" "Z" (.int z) ∧ ¬ z = 0 ∧ 0 < len ∧ o + len ≤ A.slots.size ∧ len ≤ 536870912 ∧ ∀ i, i < len → ¬ 255 < cv A (o + i)
def E (a : Addr) (D : Cell) (fV fC : Field) (A : Cell) (o len : Nat) (r : Option Value) (s u : State) : Prop := Got a D fV fC A o len r s u
/-- len > 0, no char of the range above 255: a Latin-1 String of their low bytes -/
theorem law (l : Launch) (a : Addr) (D : Cell) (fV fC : Field) (b : Addr) (A : Cell) (z : Int32) (o len : Nat) : Law l yN 5 4 2 35 yB 6 none site (P a D fV fC b A z o len) (E a D fV fC A o len) [⟨a, fC.slot⟩, ⟨a, fV.slot⟩] 1 len := by
  refine Law.of_walk (plainFor_of_name (by decide +kernel)) (by decide +kernel) (by decide +kernel) (by decide) (fun _ _ h => by rw [h.1]; rfl) (fun _ U U' hal hh h => ⟨h.1, h.2.1.mv hal hh, h.2.2.1.al hal, h.2.2.2.1.al hal, h.2.2.2.2.1.mv hal hh, h.2.2.2.2.2.1.there hal hh, h.2.2.2.2.2.2⟩) (fun r U U' V V' h1 hal h2 h => Got.mv r U U' V V' h1 hal h2 h) ?_
  intro p e s m args below meth c s₁ X0 hexec hbytes hml hret hlk hnm hown hh0 W hP
  obtain ⟨rfl, hB, f1, f2, hA, s1, hz, l0, l1, l2, hp⟩ := hP
  have a31 := hA.1.2.2.2
  have c1 : Steps p.tables e below (s₁.setTop (entryFrame m #[.ref a, .ref b, .int (Int32.ofNat o), .int (Int32.ofNat len), .null] 6)) (s₁.setTop (mkF m 0 #[.val (.ref a), .val (.ref b), .val (.int (Int32.ofNat o)), .val (.int (Int32.ofNat len)), .val .null, .unset] [])) := entry rfl
  have c2 : Steps p.tables e below (s₁.setTop (entryFrame m #[.ref a, .ref b, .int (Int32.ofNat o), .int (Int32.ofNat len), .null] 6)) (s₁.setTop (mkF m 1 #[.val (.ref a), .val (.ref b), .val (.int (Int32.ofNat o)), .val (.int (Int32.ofNat len)), .val .null, .unset] [.ref a])) := c1.trans (by
    refine XS.aloadN X0.here hexec rfl (hb hbytes d0) rfl rfl ?_
    exact Steps.refl _)
  obtain ⟨T3, X3, q3, st3⟩ := X0.oinit hexec hown (wks W (objW "java/lang/String" 1)) (g := (mkF m 1 #[.val (.ref a), .val (.ref b), .val (.int (Int32.ofNat o)), .val (.int (Int32.ofNat len)), .val .null, .unset] [.ref a])) rfl (by rw [hml]; rfl) (rest := []) rfl (hb hbytes d1) (W := 0) (by show 2 * 0 + 0 ≤ _; decide) (Nat.le_of_ble_eq_true rfl) (Nat.le_of_ble_eq_true rfl)
  have hh3 := q3.trans hh0
  have c4 : Steps p.tables e below (s₁.setTop (entryFrame m #[.ref a, .ref b, .int (Int32.ofNat o), .int (Int32.ofNat len), .null] 6)) (T3.setTop (mkF m 27 #[.val (.ref a), .val (.ref b), .val (.int (Int32.ofNat o)), .val (.int (Int32.ofNat len)), .val .null, .unset] [])) := (c2.trans (st3 _ (Steps.refl _))).trans (by
    refine XS.iloadN X3.here hexec rfl (hb hbytes d4) rfl ?_
    refine XS.ifYes X3.here hexec rfl (pc0 := 5) rfl (hb hbytes d5) rfl (i0_ne_t (nz32 (by omega) l0)) (by decide) rfl ?_
    exact Steps.refl _)
  obtain ⟨T5, X5, q5, st5⟩ := X3.sget hexec hown (wk W (.fieldLink "java/lang/String" 38 "java/lang/String" "COMPACT_STRINGS" "Z")) s1 (fun _ _ h => by rw [hh3]; exact h) (g := (mkF m 27 #[.val (.ref a), .val (.ref b), .val (.int (Int32.ofNat o)), .val (.int (Int32.ofNat len)), .val .null, .unset] [])) rfl (hb hbytes d27)
  have hh5 := q5.trans hh3
  have c6 : Steps p.tables e below (s₁.setTop (entryFrame m #[.ref a, .ref b, .int (Int32.ofNat o), .int (Int32.ofNat len), .null] 6)) (T5.setTop (mkF m 30 #[.val (.ref a), .val (.ref b), .val (.int (Int32.ofNat o)), .val (.int (Int32.ofNat len)), .val .null, .unset] [.int z])) := c4.trans (st5 _ (Steps.refl _))
  have c7 : Steps p.tables e below (s₁.setTop (entryFrame m #[.ref a, .ref b, .int (Int32.ofNat o), .int (Int32.ofNat len), .null] 6)) (T5.setTop (mkF m 36 #[.val (.ref a), .val (.ref b), .val (.int (Int32.ofNat o)), .val (.int (Int32.ofNat len)), .val .null, .unset] [.int (Int32.ofNat len), .int (Int32.ofNat o), .ref b])) := c6.trans (by
    refine XS.ifNo X5.here hexec rfl (hb hbytes d30) rfl (i0_eq_f hz) ?_
    refine XS.aloadN X5.here hexec rfl (hb hbytes d33) rfl rfl ?_
    refine XS.iloadN X5.here hexec rfl (hb hbytes d34) rfl ?_
    refine XS.iloadN X5.here hexec rfl (hb hbytes d35) rfl ?_
    exact Steps.refl _)
  obtain ⟨v8, T8, X8, E8, g8⟩ := X5.callS hexec (Cmp3.law l b A o len) hown (wks W (staticW "java/lang/String" 177 Cmp3.yN)) (wk W Cmp3.tab) (W := 0) (Nat.le_of_ble_eq_true rfl) (Nat.le_of_ble_eq_true rfl) (Nat.le_refl _) (by show 0 + len ≤ len; omega) (g := (mkF m 36 #[.val (.ref a), .val (.ref b), .val (.int (Int32.ofNat o)), .val (.int (Int32.ofNat len)), .val .null, .unset] [.int (Int32.ofNat len), .int (Int32.ofNat o), .ref b])) rfl (by rw [hml]; rfl) c7 (argsL := [.ref b, .int (Int32.ofNat o), .int (Int32.ofNat len)]) (rest := []) rfl rfl (by show 2 * 0 + 0 ≤ _; decide) (hb hbytes d36) (⟨rfl, hA.mv X5.warmed.alike hh5, l1, l2, hp⟩)
  obtain ⟨e8, z8⟩ := E8
  obtain ⟨rfl, N, n1, n2, n3, n4, n5, n6⟩ := NewArr.mv _ T5 s _ _ hh5.symm (Vm.Alike.refl _) rfl e8
  rw [hh5] at z8
  have hB1 := hB.keep X8.warmed.alike (n6 _ _ hB.1)
  have hne : s.heap.size ≠ a := (Nat.ne_of_lt (Array.getElem?_eq_some_iff.mp hB.1).1).symm
  have c9 : Steps p.tables e below (s₁.setTop (entryFrame m #[.ref a, .ref b, .int (Int32.ofNat o), .int (Int32.ofNat len), .null] 6)) (T8.setTop (mkF m 39 #[.val (.ref a), .val (.ref b), .val (.int (Int32.ofNat o)), .val (.int (Int32.ofNat len)), .val .null, .unset] [.ref s.heap.size])) := g8
  have c10 : Steps p.tables e below (s₁.setTop (entryFrame m #[.ref a, .ref b, .int (Int32.ofNat o), .int (Int32.ofNat len), .null] 6)) (T8.setTop (mkF m 45 #[.val (.ref a), .val (.ref b), .val (.int (Int32.ofNat o)), .val (.int (Int32.ofNat len)), .val .null, .val (.ref s.heap.size)] [.int (Int32.ofNat N.slots.size), .ref s.heap.size, .ref a])) := by
    have hc : Steps p.tables e below (s₁.setTop (entryFrame m #[.ref a, .ref b, .int (Int32.ofNat o), .int (Int32.ofNat len), .null] 6)) (T8.setTop (mkF m 45 #[.val (.ref a), .val (.ref b), .val (.int (Int32.ofNat o)), .val (.int (Int32.ofNat len)), .val .null, .val (.ref s.heap.size)] [.int (Int32.ofNat len), .ref s.heap.size, .ref a])) := c9.trans (by
      refine XS.astore X8.here hexec rfl (hb hbytes d39) rfl rfl rfl ?_
      refine XS.aloadN X8.here hexec rfl (hb hbytes d41) rfl rfl ?_
      refine XS.aload X8.here hexec rfl (hb hbytes d42) rfl rfl ?_
      refine XS.iloadN X8.here hexec rfl (hb hbytes d44) rfl ?_
      exact Steps.refl _)
    rw [n4]; exact hc
  obtain ⟨v11, T11, X11, E11, g11⟩ := X8.callS hexec (CodL.law l s.heap.size N) hown (wks W (staticW "java/lang/String" 47 CodL.yN)) (wk W CodL.tab) (W := 1) (Nat.le_of_ble_eq_true rfl) (Nat.le_of_ble_eq_true rfl) (Nat.le_refl _) (by show 0 + len + 0 ≤ len; omega) (g := (mkF m 45 #[.val (.ref a), .val (.ref b), .val (.int (Int32.ofNat o)), .val (.int (Int32.ofNat len)), .val .null, .val (.ref s.heap.size)] [.int (Int32.ofNat N.slots.size), .ref s.heap.size, .ref a])) rfl (by rw [hml]; rfl) c10 (argsL := [.ref s.heap.size, .int (Int32.ofNat N.slots.size)]) (rest := [.ref a]) rfl rfl (by show 2 * 0 + (1 + 0) ≤ _; decide) (hb hbytes d45) (⟨rfl, n1⟩)
  obtain ⟨rfl, q11⟩ := E11
  have hB11 := hB1.mv (X8.warmed.alike.symm.trans X11.warmed.alike) q11
  have c12 : Steps p.tables e below (s₁.setTop (entryFrame m #[.ref a, .ref b, .int (Int32.ofNat o), .int (Int32.ofNat len), .null] 6)) (T11.setTop (mkF m 48 #[.val (.ref a), .val (.ref b), .val (.int (Int32.ofNat o)), .val (.int (Int32.ofNat len)), .val .null, .val (.ref s.heap.size)] [.int 0, .ref a])) := g11
  obtain ⟨T13, X13, p13, bl13, sl13, st13⟩ := X11.finit hexec hown (wk W (.fieldLink "java/lang/String" 15 "java/lang/String" "coder" "B")) (Or.inr ⟨_, (wk W (.laysFinal "java/lang/String" "java/lang/String" "coder" "B"))⟩) (Or.inl ⟨rfl, hnm⟩) f2 (Or.inl rfl) hB11 (t := .byte) (by decide +kernel) rfl (g := (mkF m 48 #[.val (.ref a), .val (.ref b), .val (.int (Int32.ofNat o)), .val (.int (Int32.ofNat len)), .val .null, .val (.ref s.heap.size)] [.int 0, .ref a])) rfl (rest := []) rfl (hb hbytes d48)
  have c14 : Steps p.tables e below (s₁.setTop (entryFrame m #[.ref a, .ref b, .int (Int32.ofNat o), .int (Int32.ofNat len), .null] 6)) (T13.setTop (mkF m 54 #[.val (.ref a), .val (.ref b), .val (.int (Int32.ofNat o)), .val (.int (Int32.ofNat len)), .val .null, .val (.ref s.heap.size)] [.ref s.heap.size, .ref a])) := (c12.trans (st13 _ (Steps.refl _))).trans (by
    refine XS.aloadN X13.here hexec rfl (hb hbytes d51) rfl rfl ?_
    refine XS.aload X13.here hexec rfl (hb hbytes d52) rfl rfl ?_
    exact Steps.refl _)
  obtain ⟨T15, X15, p15, bl15, sl15, st15⟩ := X13.finit hexec hown (wk W (.fieldLink "java/lang/String" 9 "java/lang/String" "value" "[B")) (Or.inr ⟨_, (wk W (.laysFinal "java/lang/String" "java/lang/String" "value" "[B"))⟩) (Or.inl ⟨rfl, hnm⟩) f1 (Or.inl rfl) bl13 (t := (.array .byte)) (by decide +kernel) rfl (g := (mkF m 54 #[.val (.ref a), .val (.ref b), .val (.int (Int32.ofNat o)), .val (.int (Int32.ofNat len)), .val .null, .val (.ref s.heap.size)] [.ref s.heap.size, .ref a])) rfl (rest := []) rfl (hb hbytes d54)
  have c16 : Steps p.tables e below (s₁.setTop (entryFrame m #[.ref a, .ref b, .int (Int32.ofNat o), .int (Int32.ofNat len), .null] 6)) (T15.setTop (mkF m 57 #[.val (.ref a), .val (.ref b), .val (.int (Int32.ofNat o)), .val (.int (Int32.ofNat len)), .val .null, .val (.ref s.heap.size)] [])) := c14.trans (st15 _ (Steps.refl _))
  have ap := apart (Or.inr ⟨_, (wk W (.laysFinal "java/lang/String" "java/lang/String" "value" "[B"))⟩) (Or.inr ⟨_, (wk W (.laysFinal "java/lang/String" "java/lang/String" "coder" "B"))⟩) f1 f2 (t₁ := .array .byte) (t₂ := .byte) (by decide +kernel) (by decide +kernel) (by decide)
  have al := X8.warmed.alike.symm.trans X15.warmed.alike
  have n7 : T11.heap[s.heap.size]? = some N := by rw [q11]; exact n1.1
  exact ⟨T15, none, _, _, _, X15, by simp, rfl, by omega, (fun _ => rfl), ⟨rfl, _, N, bl15, ((Same.refl D _).set _ (by simp)).set _ (by simp), sl15, (Cell.slots_setSlot_ne _ ap).trans sl13, n1.keep al (p15.other hne (p13.other hne n7)), n2, by rw [al.findClass]; exact n3, n4, n5, fun y c h1 h2 => p15.other h1 (p13.other h1 (by rw [q11]; exact n6 y c h2)), by rw [p15.2.2, p13.2.2, q11]; exact z8⟩, fun fs hl => c16.trans (X15.returnOut hexec hret (hb hbytes d57) hl)⟩
end New4
namespace New1
def yN : MethodName := ⟨"java/lang/String", "<init>", "([C)V"⟩
abbrev yB : ByteArray := jdk_42_method_3_code
theorem d0 : decode yB 0 = .ok (.aload_n 0, 1) := by decide +kernel
theorem d1 : decode yB 1 = .ok (.aload_n 1, 1) := by decide +kernel
theorem d2 : decode yB 2 = .ok (.iconst 0, 1) := by decide +kernel
theorem d3 : decode yB 3 = .ok (.aload_n 1, 1) := by decide +kernel
theorem d4 : decode yB 4 = .ok (.arraylength, 1) := by decide +kernel
theorem d5 : decode yB 5 = .ok (.aconst_null, 1) := by decide +kernel
theorem d6 : decode yB 6 = .ok (.invokespecial 27, 3) := by decide +kernel
theorem d9 : decode yB 9 = .ok (.return_, 1) := by decide +kernel
def site : List Cond := [New4.tab] ++ initW "java/lang/String" 27 New4.yN
def tab : Cond := tabOf yN yB 2 none site
def P (a : Addr) (D : Cell) (fV fC : Field) (b : Addr) (A : Cell) (z : Int32) (args : Array Value) (s : State) : Prop := args = #[.ref a, .ref b] ∧ Blank "java/lang/String" a D s ∧ Found "java/lang/String" "value" "[B" fV s ∧ Found "java/lang/String" "coder" "B" fC s ∧ Ch b A s ∧ StaticIs s "java/lang/String" "COMPACT_STRINGS" "Z" (.int z) ∧ ¬ z = 0 ∧ 0 < A.slots.size ∧ A.slots.size ≤ 536870912 ∧ ∀ i, i < A.slots.size → ¬ 255 < cv A i
def E (a : Addr) (D : Cell) (fV fC : Field) (A : Cell) (r : Option Value) (s u : State) : Prop := Got a D fV fC A 0 A.slots.size r s u
/-- new String(chars), not empty, no char above 255: a Latin-1 String of their low bytes -/
theorem law (l : Launch) (a : Addr) (D : Cell) (fV fC : Field) (b : Addr) (A : Cell) (z : Int32) : Law l yN 2 1 3 52 yB 2 none site (P a D fV fC b A z) (E a D fV fC A) [⟨a, fC.slot⟩, ⟨a, fV.slot⟩] 1 A.slots.size := by
  refine Law.of_walk (plainFor_of_name (by decide +kernel)) (by decide +kernel) (by decide +kernel) (by decide) (fun _ _ h => by rw [h.1]; rfl) (fun _ U U' hal hh h => ⟨h.1, h.2.1.mv hal hh, h.2.2.1.al hal, h.2.2.2.1.al hal, h.2.2.2.2.1.mv hal hh, h.2.2.2.2.2.1.there hal hh, h.2.2.2.2.2.2⟩) (fun r U U' V V' h1 hal h2 h => Got.mv r U U' V V' h1 hal h2 h) ?_
  intro p e s m args below meth c s₁ X0 hexec hbytes hml hret hlk hnm hown hh0 W hP
  obtain ⟨rfl, hB, f1, f2, hA, s1, hz, l0, l2, hp⟩ := hP
  have c1 : Steps p.tables e below (s₁.setTop (entryFrame m #[.ref a, .ref b] 2)) (s₁.setTop (mkF m 0 #[.val (.ref a), .val (.ref b)] [])) := entry rfl
  have c2 : Steps p.tables e below (s₁.setTop (entryFrame m #[.ref a, .ref b] 2)) (s₁.setTop (mkF m 6 #[.val (.ref a), .val (.ref b)] [.null, .int (Int32.ofNat A.slots.size), .int 0, .ref b, .ref a])) := c1.trans (by
    refine XS.aloadN X0.here hexec rfl (hb hbytes d0) rfl rfl ?_
    refine XS.aloadN X0.here hexec rfl (hb hbytes d1) rfl rfl ?_
    refine iconstV X0.here hexec rfl 0 (hb hbytes d2) (by decide) ?_
    refine XS.aloadN X0.here hexec rfl (hb hbytes d3) rfl rfl ?_
    refine X0.alen hexec (hA.1.mv X0.warmed.alike hh0) rfl rfl (hb hbytes d4) ?_
    refine XS.aconstNull X0.here hexec rfl (hb hbytes d5) ?_
    exact Steps.refl _)
  obtain ⟨v3, T3, X3, E3, g3⟩ := X0.callN hexec (New4.law l a D fV fC b A z 0 A.slots.size) rfl hown (wks W (initW "java/lang/String" 27 New4.yN)) (W New4.tab (by simp only [site, List.mem_cons, List.mem_append, true_or, or_true])) (W := 0) (Nat.le_of_ble_eq_true rfl) (Nat.le_of_ble_eq_true rfl) (Nat.le_refl _) (by show 0 + A.slots.size ≤ A.slots.size; omega) (g := (mkF m 6 #[.val (.ref a), .val (.ref b)] [.null, .int (Int32.ofNat A.slots.size), .int (Int32.ofNat 0), .ref b, .ref a])) rfl (by rw [hml]; rfl) c2 (argsL := [.ref b, .int (Int32.ofNat 0), .int (Int32.ofNat A.slots.size), .null]) (rest := []) rfl rfl (by show 2 * 0 + 0 ≤ _; decide) (hb hbytes d6) (⟨rfl, hB.mv X0.warmed.alike hh0, f1.al X0.warmed.alike, f2.al X0.warmed.alike, hA.mv X0.warmed.alike hh0, s1.there X0.warmed.alike hh0, hz, l0, by omega, l2, fun i hi => by rw [Nat.zero_add]; exact hp i hi⟩)
  have e0 := Got.mv _ s₁ s _ _ hh0.symm (Vm.Alike.refl _) rfl E3
  obtain rfl := e0.1
  have c4 : Steps p.tables e below (s₁.setTop (entryFrame m #[.ref a, .ref b] 2)) (T3.setTop (mkF m 9 #[.val (.ref a), .val (.ref b)] [])) := g3
  exact ⟨T3, none, _, _, _, X3, by simp, rfl, by omega, (fun _ => rfl), e0, fun fs hl => c4.trans (X3.returnOut hexec hret (hb hbytes d9) hl)⟩
theorem pays {l : Launch} {R : Room} {p : Program} {e : Env} {below : List Frame} {s : State} {sargs : Array Value} {len W : Nat} (a : Addr) (D : Cell) (fV fC : Field) (b : Addr) (A : Cell) (z : Int32) (htab : tab.before sargs s = true) (hfr : 4 ≤ R.frames) (hlo : W + 65 ≤ R.locals) :
    Back l R p e below s sargs yN len W (fun A₁ a₁ => A₁.cells + 1 ≤ R.cells ∧ A₁.slots + A.slots.size ≤ R.slots ∧ P a D fV fC b A z a₁ A₁.U) (fun A₁ _ v₁ B₁ => E a D fV fC A v₁ A₁.U B₁.U ∧ B₁.locs = A₁.locs ++ [⟨a, fC.slot⟩, ⟨a, fV.slot⟩] ∧ B₁.cells = A₁.cells + 1 ∧ B₁.slots = A₁.slots + A.slots.size) :=
  (law l a D fV fC b A z).pays htab hfr (by omega)
end New1
/-- the byte, read back as charAt reads it, is the char -/
theorem lo8_mask {x : Int32} (h0 : ¬ x < 0) (h1 : ¬ 255 < x) : lo8 x &&& 255 = x := by
  have t : ∀ k : Fin 256, lo8 (Int32.ofNat k.val) &&& 255 = Int32.ofNat k.val := by decide +kernel
  rw [Int32.lt_iff_toInt_lt] at h0 h1
  have e0 : (0 : Int32).toInt = 0 := rfl
  have e1 : (255 : Int32).toInt = 255 := rfl
  obtain ⟨k, hk⟩ : ∃ k : Nat, x.toInt = k := ⟨x.toInt.toNat, by omega⟩
  have hx : x = Int32.ofNat k := Int32.toInt_inj.mp (by rw [hk, Int32.toInt_ofNat_small (by omega)])
  rw [hx]
  exact t ⟨k, by omega⟩
end StrChars
namespace StrChars.Road
open Jvm Sem ClassFile Op Lib Jvm.Stand Jvm.Free Jvm.Free.XT
open Jvm.Lib.Cold (StaticIs)
abbrev ST : String := "java/lang/String"
/-- every table word that New1's law asks, flat -/
abbrev words : List Jvm.Cond := [.code New1.yN New1.yB 2 none, .initialized ST, .methodLink ST 27 New4.yN, .instanceMethod New4.yN,
  .code New4.yN New4.yB 6 none, .fieldLink ST 38 ST "COMPACT_STRINGS" "Z", .laysFinal ST ST "value" "[B", .fieldLink ST 9 ST "value" "[B", .laysFinal ST ST "coder" "B", .fieldLink ST 15 ST "coder" "B",
  .methodLink ST 1 Lib.objectInit, .instanceMethod Lib.objectInit, .code Lib.objectInit ⟨#[0xb1]⟩ 1 none, .methodLink ST 177 Cmp3.yN, .static Cmp3.yN, .methodLink ST 47 CodL.yN, .static CodL.yN,
  .code Cmp3.yN Cmp3.yB 6 (some (.array .byte)), .initialized U16, .arrayClass .byte, .methodLink U16 115 Cmp5.yN, .static Cmp5.yN, .code Cmp5.yN Cmp5.yB 7 (some .int), .code CodL.yN CodL.yB 2 (some .byte)]
theorem tab_of {a : Array Value} {s : State} (h : ∀ w ∈ words, w.before a s = true) : New1.tab.before a s = true := by
  have h5 : Cmp5.tab.before a s = true := unparts (wk h (.code Cmp5.yN Cmp5.yB 7 (some .int))) (wks h (.initialized Cmp5.yN.cls :: Cmp5.site))
  have hc : CodL.tab.before a s = true := unparts (wk h (.code CodL.yN CodL.yB 2 (some .byte))) (wks h (.initialized CodL.yN.cls :: CodL.site))
  have q5 : ∀ w ∈ Cmp5.tab :: words, w.before a s = true := fun w hw => (List.mem_cons.mp hw).elim (fun e => e ▸ h5) (h w)
  have h3 : Cmp3.tab.before a s = true := unparts (wk q5 (.code Cmp3.yN Cmp3.yB 6 (some (.array .byte)))) (wks q5 (.initialized Cmp3.yN.cls :: Cmp3.site))
  have q3 : ∀ w ∈ Cmp3.tab :: CodL.tab :: words, w.before a s = true := fun w hw => (List.mem_cons.mp hw).elim (fun e => e ▸ h3) fun hw => (List.mem_cons.mp hw).elim (fun e => e ▸ hc) (h w)
  have h4 : New4.tab.before a s = true := unparts (wk q3 (.code New4.yN New4.yB 6 none)) (wks q3 (.initialized New4.yN.cls :: New4.site))
  have q4 : ∀ w ∈ New4.tab :: words, w.before a s = true := fun w hw => (List.mem_cons.mp hw).elim (fun e => e ▸ h4) (h w)
  exact unparts (wk q4 (.code New1.yN New1.yB 2 none)) (wks q4 (.initialized New1.yN.cls :: New1.site))
/-- the words ride from the start Z to the walk's own state -/
theorem moved {Z s : State} {a0 args : Array Value} (hZ : Z.Warmed39 s.vm) (hw : ∀ d ∈ words, d.before a0 Z = true) : ∀ d ∈ words, d.before args s = true := fun d hd => by
  have q := hw d hd
  have t : ∀ d ∈ words, d = .arrayClass .byte ∨ (d.onTables && d.keepsFace) = true := by decide +kernel
  rcases t d hd with rfl | t
  · exact RoadKit.mvA hZ q
  · exact RoadKit.mv hZ q t
/-- WHAT COMES BACK, over the tables of the start Z: h the heap at the call, h' behind it -/
def Q (Z : State) (x : Addr) (A : Cell) (h : Heap) (v : Option Value) (h' : Heap) (L : List Loc) : Prop := v = none ∧ (∀ y ∈ L, y.base = x) ∧ RoadKit.Keep h h' [x] ∧ h'.size = h.size + 1 ∧ RoadKit.Exa Z h' x ST ∧ RoadKit.Fld Z h' x ST "value" "[B" (.ref h.size) ∧ RoadKit.Fld Z h' x ST "coder" "B" (.int 0) ∧
  (∃ V : Cell, RoadKit.Arr Z h' h.size V .byte ∧ V.vm = .none ∧ Z.vm.findClass "[B" = some V.cls ∧ V.slots.size = A.slots.size ∧ ∀ j, j < A.slots.size → V.slots[j]? = some (.int (lo8 (cv A j)))) ∧
  ∀ (O n d : String) (w : Value), RoadKit.Fld Z h x O n d w → RoadKit.slotOf Z O n d ≠ RoadKit.slotOf Z ST "value" "[B" → RoadKit.slotOf Z O n d ≠ RoadKit.slotOf Z ST "coder" "B" → RoadKit.Fld Z h' x O n d w
/-- **new String(chars) AT A CALL, IN THE ROAD'S FORM**: for specialBack behind newO: x the fresh String, b the char[] with the cell A -/
theorem back {p : Program} {l : Launch} {e : Env} {R : Room} {s : State} {args : Array Value} {below : List Frame} {len W : Nat} {Z : State} {a0 : Array Value} {h : Heap} (hZ : Z.Warmed39 s.vm) (hw : ∀ d ∈ words, d.before a0 Z = true) {kI : Nat} (wi : (Jvm.Cond.instantiable ST kI).before a0 Z = true)
    {x b : Addr} {A : Cell} {z : Int32} {v0 c0 : Value} (E : RoadKit.Exa Z h x ST) (V : RoadKit.Fld Z h x ST "value" "[B" v0) (C : RoadKit.Fld Z h x ST "coder" "B" c0) (K : RoadKit.Arr Z h b A .char) (hty : Typed .char A) (S : RoadKit.Sta Z h ST "COMPACT_STRINGS" "Z" (.int z)) (hz : ¬ z = 0)
    (l0 : 0 < A.slots.size) (l2 : A.slots.size ≤ 536870912) (hp : ∀ i, i < A.slots.size → ¬ 255 < cv A i) (hfr : 4 ≤ R.frames) (hlo : W + 65 ≤ R.locals) :
    Back l R p e below s args New1.yN len W (fun P a => a = #[.ref x, .ref b] ∧ P.U.heap = h ∧ P.cells + 1 ≤ R.cells ∧ P.slots + A.slots.size ≤ R.slots)
      (fun P _ v B => ∃ L, Q Z x A h v B.U.heap L ∧ B.locs = P.locs ++ L ∧ B.cells = P.cells + 1 ∧ B.slots = P.slots + A.slots.size) := by
  intro m meth c P g ig mk a X hg hsize hdg hW hn hp'
  obtain ⟨rfl, rfl, r1, r2⟩ := hp'
  have al : Z.vm.Alike P.U.vm := hZ.alike.trans X.warmed.alike
  obtain ⟨D, cfV, kV, iV, fV, hD, gV, stV, knV, obV, asV, slV⟩ := id V
  obtain ⟨D', cfC, kC, iC, fC, hD', gC, stC, -, -, asC, slC⟩ := id C
  cases hD.symm.trans hD'
  obtain ⟨D2, kD, e1, e2, e3, e4, e5⟩ := id E
  cases hD.symm.trans e1
  obtain ⟨c2, k2, i1, i2, i3, -⟩ := Cond.instantiable_spec wi
  cases e2.symm.trans i1
  cases e3.symm.trans i2
  obtain ⟨kU, u1, u2⟩ := al.2.2 _ _ e3
  have hB : Blank ST x D P.U := ⟨hD, ⟨knV, fun q hq => by rw [hq] at obV; cases obV⟩, by rw [al.findClass]; exact e2, kU, u1, by rw [u2]; exact i3, by rw [u2]; exact e5 i3⟩
  have F1 : Found ST "value" "[B" fV P.U := ⟨SBG.found_only al ⟨cfV, kV, iV, gV⟩, stV⟩
  have F2 : Found ST "coder" "B" fC P.U := ⟨SBG.found_only al ⟨cfC, kC, iC, gC⟩, stC⟩
  have hA : Ch b A P.U := ⟨⟨K.1, State.isArrayOf_alike al K.2.1, K.2.2, by omega⟩, hty⟩
  have hS : StaticIs P.U ST "COMPACT_STRINGS" "Z" (.int z) := by
    obtain ⟨cfS, iS, kS, fS, st, cS, t1, t2, t3, t4, t5, t6, t7⟩ := S
    exact StaticIs.there (s := { Z with heap := P.U.heap }) ⟨cfS, iS, kS, fS, st, cS, t1, t2, t3, t4, t5, (fun q => by rw [q] at t6; cases t6), t7⟩ al rfl
  obtain ⟨v, B, X', ⟨⟨hv, E', V', q1, q2, q3, q4, q5, q6, q7, q8, q9, q10, q11⟩, hl, hc, hs⟩, st⟩ := New1.pays x D fV fC b A z (tab_of (moved hZ hw)) hfr hlo m meth c P g ig mk _ X hg hsize hdg hW hn ⟨r1, r2, rfl, hB, F1, F2, hA, hS, hz, l0, l2, hp⟩
  have al' : Z.vm.Alike B.U.vm := hZ.alike.trans X'.warmed.alike
  have hsz : E'.slots.size = D.slots.size := by
    obtain ⟨-, -, -, kB, w1, w2, w3⟩ := q1
    obtain ⟨kB', y1, y2⟩ := al'.2.2 _ _ e3
    rw [q2.2.1] at w1
    cases w1.symm.trans y1
    rw [w3, e5 i3, y2]
  refine ⟨v, B, X', ⟨_, ⟨hv, ?_, ⟨by omega, fun y cy hy hn' => q10 y cy (by simpa using hn') hy, fun y cy hy => ?_⟩, q11, ⟨E', _, q1.1, by rw [q2.2.1]; exact e2, by rw [q2.2.1]; exact e3, by rw [q2.1]; exact obV, fun _ => by rw [hsz]; exact e5 i3⟩,
    ⟨E', cfV, kV, iV, fV, q1.1, gV, stV, by rw [q2.1]; exact knV, by rw [q2.1]; exact obV, by rw [q2.2.1]; exact asV, q3⟩, ⟨E', cfC, kC, iC, fC, q1.1, gC, stC, by rw [q2.1]; exact knV, by rw [q2.1]; exact obV, by rw [q2.2.1]; exact asC, q4⟩,
    ⟨V', ⟨q5.1, State.isArrayOf_alike al'.symm q5.2.1, q5.2.2.1⟩, q6, by rw [← al'.findClass]; exact q7, q8, fun j hj => by have := q9 j hj; rwa [Nat.zero_add] at this⟩, fun O n d w F n1 n2 => ?_⟩, hl, hc, hs⟩, st⟩
  · intro y hy
    simp only [List.mem_cons, List.not_mem_nil, or_false] at hy
    rcases hy with rfl | rfl <;> rfl
  · by_cases q : y = x
    · subst q
      cases hD.symm.trans hy
      exact ⟨E', q1.1, q2.2.1, q2.1, hsz⟩
    · exact ⟨cy, q10 y cy q hy, rfl, rfl, rfl⟩
  · obtain ⟨D3, cf, k, i, f, g1, g2, g3, g4, g5, g6, g7⟩ := F
    cases hD.symm.trans g1
    simp only [RoadKit.slotOf, g2, gV, gC, Option.map_some, Option.getD_some] at n1 n2
    exact ⟨E', cf, k, i, f, q1.1, g2, g3, by rw [q2.1]; exact g4, by rw [q2.1]; exact g5, by rw [q2.2.1]; exact g6, by rw [q2.2.2 f.slot (by simp [n1, n2])]; exact g7⟩
end StrChars.Road
namespace StrChars.Road
open Jvm Sem ClassFile Op Lib Jvm.Stand Jvm.Free Jvm.Free.XT
/-- WHAT COMES BACK, the byte[] as a list of values -/
def QA (Z : State) (x : Addr) (zn : Int32) (cs : List Int32) (h : Heap) (v : Option Value) (h' : Heap) (L : List Loc) : Prop := v = none ∧ (∀ y ∈ L, y.base = x) ∧ RoadKit.Keep h h' [x] ∧ h'.size = h.size + 1 ∧ RoadKit.Exa Z h' x ST ∧ RoadKit.Fld Z h' x ST "value" "[B" (.ref h.size) ∧ RoadKit.Fld Z h' x ST "coder" "B" (.int 0) ∧
  (∃ kb, Z.vm.findClass "[B" = some kb ∧ RoadKit.Arv Z h' h.size kb .byte zn (cs.map fun c => .int (lo8 c)) (.int 0)) ∧
  ∀ (O n d : String) (w : Value), RoadKit.Fld Z h x O n d w → RoadKit.slotOf Z O n d ≠ RoadKit.slotOf Z ST "value" "[B" → RoadKit.slotOf Z O n d ≠ RoadKit.slotOf Z ST "coder" "B" → RoadKit.Fld Z h' x O n d w
/-- **new String(chars) AT A CALL, THE ARRAYS AS LISTS**: the char[] at b holds cs, not empty, no char above 255 -/
theorem backArv {p : Program} {l : Launch} {e : Env} {R : Room} {s : State} {args : Array Value} {below : List Frame} {len W : Nat} {Z : State} {a0 : Array Value} {h : Heap} (hZ : Z.Warmed39 s.vm) (hw : ∀ d ∈ words, d.before a0 Z = true) {kI : Nat} (wi : (Jvm.Cond.instantiable ST kI).before a0 Z = true)
    {x b : Addr} {k : ClassId} {zn z : Int32} {cs : List Int32} {dv v0 c0 : Value} (E : RoadKit.Exa Z h x ST) (V : RoadKit.Fld Z h x ST "value" "[B" v0) (C : RoadKit.Fld Z h x ST "coder" "B" c0) (K : RoadKit.Arv Z h b k .char zn (cs.map Value.int) dv) (S : RoadKit.Sta Z h ST "COMPACT_STRINGS" "Z" (.int z)) (hz : ¬ z = 0)
    (hlen : zn.toNatClampNeg = cs.length) (h0 : 0 < cs.length) (hbig : cs.length ≤ 536870912) (hall : ∀ c ∈ cs, ¬ 255 < c) (hfr : 4 ≤ R.frames) (hlo : W + 65 ≤ R.locals) :
    Back l R p e below s args New1.yN len W (fun P a => a = #[.ref x, .ref b] ∧ P.U.heap = h ∧ P.cells + 1 ≤ R.cells ∧ P.slots + cs.length ≤ R.slots)
      (fun P _ v B => ∃ L, QA Z x zn cs h v B.U.heap L ∧ B.locs = P.locs ++ L ∧ B.cells = P.cells + 1 ∧ B.slots = P.slots + cs.length) := by
  obtain ⟨A, K1, K2, K3, K4, K5, K6⟩ := K
  have e : A.slots.size = cs.length := K3.trans hlen
  have hat : ∀ (i : Nat) (hi : i < cs.length), A.slots[i]? = some (.int cs[i]) := fun i hi => by rw [K5 i (by omega)]; simp [List.getD_eq_getElem?_getD, hi]
  have hcv : ∀ (i : Nat) (hi : i < cs.length), cv A i = cs[i] := fun i hi => by unfold cv; rw [hat i hi]
  have hty : Typed .char A := fun i v hv => by
    have hi : i < A.slots.size := (Array.getElem?_eq_some_iff.mp hv).1
    have q := K5 i hi
    rw [hv] at q
    rw [Option.some.inj q]
    exact K6 i hi
  refine Back.mono (back hZ hw wi E V C K1 hty S hz (by omega) (by omega) (fun i hi => by rw [hcv i (by omega)]; exact hall _ (List.getElem_mem _)) hfr hlo) (fun P a hp => ⟨hp.1, hp.2.1, hp.2.2.1, by rw [e]; exact hp.2.2.2⟩) (fun P a v B hp hq => ?_)
  obtain ⟨L, ⟨q1, q2, q3, q4, q5, q6, q7, ⟨V', v1, v2, v3, v4, v5⟩, q9⟩, hl, hc, hs⟩ := hq
  refine ⟨L, ⟨q1, q2, q3, q4, q5, q6, q7, ⟨V'.cls, v3, V', v1, rfl, by rw [v4, e, hlen], K4, fun i hi => ?_, fun i hi => ?_⟩, q9⟩, hl, hc, by rw [hs, e]⟩
  · have hi' : i < cs.length := by omega
    rw [v5 i (by omega), hcv i hi']; simp [List.getD_eq_getElem?_getD, hi']
  · have hi' : i < cs.length := by omega
    simp only [List.getD_eq_getElem?_getD, List.getElem?_map, List.getElem?_eq_getElem hi', Option.map_some, Option.getD_some]
    exact fits_lo8 _
end StrChars.Road
namespace StrChars.Road
open Jvm Sem ClassFile Op Lib Jvm.Stand Jvm.Free Jvm.Free.XT
/-- WHAT COMES BACK, in the writer's own shape -/
def QV (Z : State) (x : Addr) (N : Int32) (bs : List Int32) (h : Heap) (n0 : Nat) (v : Option Value) (h' : Heap) (L : List Loc) : Prop := v = none ∧ RoadKit.Fr n0 L ∧ RoadKit.Keep h h' [x] ∧ RoadKit.Exa Z h' x ST ∧ RoadKit.Fld Z h' x ST "coder" "B" (.int 0) ∧
  ∃ (t : Addr) (kb : ClassId), n0 ≤ t ∧ h.size ≤ t ∧ ¬ t = x ∧ RoadKit.Fld Z h' x ST "value" "[B" (.ref t) ∧ RoadKit.Arv Z h' t kb .byte N (bs.map Value.int) (.int 0)
/-- **new String(chars) AT A CALL, FOR THE WRITER**: a char[] of n known ints, each 0 to 255 -/
theorem backV {p : Program} {l : Launch} {e : Env} {R : Room} {s : State} {args : Array Value} {below : List Frame} {len W : Nat} {Z : State} {a0 : Array Value} {h : Heap} (hZ : Z.Warmed39 s.vm) (hw : ∀ d ∈ words, d.before a0 Z = true) {kI : Nat} (wi : (Jvm.Cond.instantiable ST kI).before a0 Z = true)
    {x b : Addr} {kC : ClassId} {cs bs : List Int32} {d v0 c0 : Value} {z N : Int32} {n n0 : Nat} (hx0 : n0 ≤ x) (hh0 : n0 ≤ h.size) (E : RoadKit.Exa Z h x ST) (V : RoadKit.Fld Z h x ST "value" "[B" v0) (C : RoadKit.Fld Z h x ST "coder" "B" c0) (K : RoadKit.Arv Z h b kC .char N (cs.map Value.int) d) (S : RoadKit.Sta Z h ST "COMPACT_STRINGS" "Z" (.int z)) (hz : ¬ z = 0)
    (hn : cs.length = n) (hN : N = Int32.ofNat n) (l0 : 0 < n) (l2 : n ≤ 4000) (hp : ∀ c ∈ cs, ¬ c < 0 ∧ ¬ (255 : Int32) < c) (hb : bs = cs.map (fun c => c.toInt8.toInt32)) (hfr : 4 ≤ R.frames) (hlo : W + 65 ≤ R.locals) :
    Back l R p e below s args (⟨"java/lang/String", "<init>", "([C)V"⟩ : MethodName) len W (fun P a => a = #[.ref x, .ref b] ∧ P.U.heap = h ∧ P.cells + 1 ≤ R.cells ∧ P.slots + n ≤ R.slots)
      (fun P _ v B => ∃ L, QV Z x N bs h n0 v B.U.heap L ∧ B.locs = P.locs ++ L ∧ B.cells = P.cells + 1 ∧ B.slots = P.slots + n) := by
  subst hn hN hb
  refine Back.mono (backArv hZ hw wi E V C K S hz (n32 (by omega)) l0 (by omega) (fun c hc => (hp c hc).2) hfr hlo) (fun P a hp => hp) (fun P a v B hp hq => ?_)
  obtain ⟨L, ⟨q1, q2, q3, q4, q5, q6, q7, ⟨kb, v1, v2⟩, q9⟩, hl, hc, hs⟩ := hq
  exact ⟨L, ⟨q1, fun y hy => by rw [q2 y hy]; exact hx0, q3, q5, q7, h.size, kb, hh0, Nat.le_refl _, Nat.ne_of_gt E.lt, q6, by rw [List.map_map]; exact v2⟩, hl, hc, hs⟩
end StrChars.Road
namespace StrChars
open Jvm Sem ClassFile Op Lib Jvm.Stand Jvm.Free.XT Jvm.Free.ALB Jvm.Free.JM Jvm.Free
open Jvm.Lib.Cold (StaticIs)
def hi8 (x : Int32) : Int32 := lo8 (x >>> ((8 : Int32) &&& 31))
/-- what StringUTF16.getChar makes of two bytes -/
def pairCh (u v : Int32) : Int32 := (((u &&& 255) <<< ((0 : Int32) &&& 31)) ||| ((v &&& 255) <<< ((8 : Int32) &&& 31))).toUInt32.toUInt16.toUInt32.toInt32
theorem shr0 (c : Int32) : c >>> ((0 : Int32) &&& 31) = c := by
  have e : ((0 : Int32) &&& 31) = 0 := by decide
  rw [e]
  apply Int32.toBitVec_inj.mp
  rw [Int32.toBitVec_shiftRight]
  have e1 : ((0 : Int32).toBitVec.smod 32) = 0#32 := by decide
  rw [e1, BitVec.sshiftRight_eq']
  exact BitVec.sshiftRight_zero
theorem lo8_and (x : Int32) : (lo8 x &&& 255).toBitVec.toNat = x.toBitVec.toNat % 256 := by
  have h : (lo8 x).toBitVec = (x.toBitVec.signExtend 8).signExtend 32 := by rw [lo8, Int8.toBitVec_toInt32, Int32.toBitVec_toInt8]
  rw [Int32.toBitVec_and, BitVec.toNat_and, h]
  have e : ((x.toBitVec.signExtend 8).signExtend 32).toNat % 256 = x.toBitVec.toNat % 256 := by
    rw [BitVec.toNat_signExtend]
    have hlt := x.toBitVec.isLt
    simp only [BitVec.toNat_setWidth, BitVec.toNat_signExtend]
    split <;> split <;> omega
  rw [← e]
  exact Nat.and_two_pow_sub_one_eq_mod _ 8
theorem pair_says {c : Int32} (h0 : ¬ c < 0) (h1 : ¬ 65535 < c) : pairCh (lo8 c) (hi8 c) = c := by
  rw [Int32.lt_iff_toInt_lt] at h0 h1
  have e0 : (0 : Int32).toInt = 0 := rfl
  have e1 : (65535 : Int32).toInt = 65535 := rfl
  have hc : c.toInt = c.toBitVec.toNat := by
    have := c.toBitVec.isLt
    have e : c.toInt = c.toBitVec.toInt := rfl
    rw [e] at h0 h1
    rw [e]
    rw [BitVec.toInt_eq_toNat_cond] at h0 h1 ⊢
    split at h0 <;> split <;> omega
  have hn : c.toBitVec.toNat < 65536 := by omega
  have a1 := lo8_and c
  have a2 : (hi8 c &&& 255).toBitVec.toNat = c.toBitVec.toNat / 256 := by
    rw [hi8, lo8_and]
    have e : ((8 : Int32) &&& 31) = 8 := by decide
    rw [e, Int32.toBitVec_shiftRight]
    have e2 : ((8 : Int32).toBitVec.smod 32) = 8#32 := by decide
    rw [e2, BitVec.sshiftRight_eq', BitVec.toNat_sshiftRight_of_msb_false (by rw [BitVec.msb_eq_false_iff_two_mul_lt]; omega)]
    show c.toBitVec.toNat >>> 8 % 256 = _
    rw [Nat.shiftRight_eq_div_pow]
    omega
  unfold pairCh
  apply Int32.toBitVec_inj.mp
  apply BitVec.eq_of_toNat_eq
  have f0 : ((0 : Int32) &&& 31) = 0 := by decide
  have f8 : ((8 : Int32) &&& 31) = 8 := by decide
  rw [f0, f8]
  have g : (((lo8 c &&& 255) <<< (0 : Int32)) ||| ((hi8 c &&& 255) <<< (8 : Int32))).toBitVec.toNat = c.toBitVec.toNat := by
    rw [Int32.toBitVec_or, Int32.toBitVec_shiftLeft, Int32.toBitVec_shiftLeft]
    have s0 : ((0 : Int32).toBitVec.smod 32) = 0#32 := by decide
    have s8 : ((8 : Int32).toBitVec.smod 32) = 8#32 := by decide
    rw [s0, s8, BitVec.toNat_or]
    simp only [BitVec.shiftLeft_eq', BitVec.toNat_shiftLeft, a1, a2]
    show (c.toBitVec.toNat % 256) <<< 0 % 2 ^ 32 ||| (c.toBitVec.toNat / 256) <<< 8 % 2 ^ 32 = _
    rw [Nat.shiftLeft_zero, Nat.mod_eq_of_lt (show c.toBitVec.toNat % 256 < 2 ^ 32 by omega), Nat.mod_eq_of_lt (show (c.toBitVec.toNat / 256) <<< 8 < 2 ^ 32 by rw [Nat.shiftLeft_eq]; omega), Nat.or_comm, ← Nat.shiftLeft_add_eq_or_of_lt (by omega), Nat.shiftLeft_eq]
    omega
  show BitVec.toNat (((((lo8 c &&& 255) <<< (0 : Int32)) ||| ((hi8 c &&& 255) <<< (8 : Int32))).toBitVec.setWidth 16).setWidth 32) = _
  rw [BitVec.toNat_setWidth, BitVec.toNat_setWidth, g]
  omega
end StrChars
namespace StrChars
open Jvm Sem ClassFile Op Lib Jvm.Stand Jvm.Free.XT Jvm.Free.ALB Jvm.Free.JM Jvm.Free
open Jvm.Lib.Cold (StaticIs)
theorem shr1 {n : Nat} (h : 2 * n < 2 ^ 31) : Int32.ofNat (2 * n) >>> ((1 : Int32) &&& 31) = Int32.ofNat n := by
  have e : ((1 : Int32) &&& 31) = 1 := by decide
  rw [e]
  apply Int32.toBitVec_inj.mp
  rw [Int32.toBitVec_shiftRight]
  have e1 : ((1 : Int32).toBitVec.smod 32) = 1#32 := by decide
  have hm : (BitVec.ofNat 32 (2 * n)).toNat = 2 * n := by rw [BitVec.toNat_ofNat, Nat.mod_eq_of_lt (by omega)]
  rw [e1, BitVec.sshiftRight_eq']
  apply BitVec.eq_of_toNat_eq
  show ((BitVec.ofNat 32 (2 * n)).sshiftRight 1).toNat = (BitVec.ofNat 32 n).toNat
  rw [BitVec.toNat_sshiftRight_of_msb_false (by rw [BitVec.msb_eq_false_iff_two_mul_lt, hm]; omega), hm, BitVec.toNat_ofNat, Nat.shiftRight_eq_div_pow]
  omega
/-- charAt's cast of a byte read back -/
def chr8 (u : Int32) : Int32 := (u &&& 255).toUInt32.toUInt16.toUInt32.toInt32
theorem chr8_lo8 {c : Int32} (h0 : ¬ c < 0) (h1 : ¬ 255 < c) : chr8 (lo8 c) = c := by
  have t : ∀ k : Fin 256, (Int32.ofNat k.val).toUInt32.toUInt16.toUInt32.toInt32 = Int32.ofNat k.val := by decide +kernel
  unfold chr8
  rw [lo8_mask h0 h1]
  rw [Int32.lt_iff_toInt_lt] at h0 h1
  have e0 : (0 : Int32).toInt = 0 := rfl
  have e1 : (255 : Int32).toInt = 255 := rfl
  obtain ⟨k, hk⟩ : ∃ k : Nat, c.toInt = k := ⟨c.toInt.toNat, by omega⟩
  have hx : c = Int32.ofNat k := Int32.toInt_inj.mp (by rw [hk, Int32.toInt_ofNat_small (by omega)])
  rw [hx]
  exact t ⟨k, by omega⟩
theorem narrow_ch {c : Int32} (h0 : ¬ c < 0) (h1 : ¬ 65535 < c) : narrow .char (.int c) = .int c := by
  have q : narrow .char (.int (pairCh (lo8 c) (hi8 c))) = .int (pairCh (lo8 c) (hi8 c)) := narrow_c _
  rwa [pair_says h0 h1] at q
/-- the array's cell V codes the n chars f 0 .. f (n - 1) by the coder cd, as the JDK does: coder 1 just where some char is above 255 -/
def Cod (cd : Int32) (n : Nat) (f : Nat → Int32) (V : Cell) : Prop := (cd = 0 ∧ V.slots.size = n ∧ ∀ j, j < n → V.slots[j]? = some (.int (lo8 (f j))) ∧ ¬ 255 < f j) ∨ (cd = 1 ∧ V.slots.size = 2 * n ∧ (∀ j, j < n → V.slots[2 * j]? = some (.int (lo8 (f j))) ∧ V.slots[2 * j + 1]? = some (.int (hi8 (f j)))) ∧ ∃ j, j < n ∧ 255 < f j)
theorem Cod.cd {cd : Int32} {n : Nat} {f : Nat → Int32} {V : Cell} (h : Cod cd n f V) : cd = 0 ∨ cd = 1 := h.imp (fun q => q.1) fun q => q.1
theorem Cod.len {cd : Int32} {n : Nat} {f : Nat → Int32} {V : Cell} (h : Cod cd n f V) (hs : V.slots.size < 2 ^ 31) : Int32.ofNat V.slots.size >>> (cd &&& 31) = Int32.ofNat n := by
  rcases h with ⟨rfl, h, -⟩ | ⟨rfl, h, -⟩
  · rw [shr0, h]
  · rw [h, shr1 (by omega)]
/-- **x is a String of the n chars f 0 .. f (n - 1)**, Latin-1 or UTF-16; its array at t has the cell V -/
def Txt (x t : Addr) (V : Cell) (cd : Int32) (n : Nat) (f : Nat → Int32) (U : State) : Prop := Exact "java/lang/String" x U ∧ Has x "java/lang/String" "value" "[B" (.ref t) U ∧ Has x "java/lang/String" "coder" "B" (.int cd) U ∧ XT.Arr .byte t V U ∧ Cod cd n f V ∧ ∀ j, j < n → ¬ f j < 0 ∧ ¬ 65535 < f j
theorem Txt.mv {x t : Addr} {V : Cell} {cd : Int32} {n : Nat} {f : Nat → Int32} {U U' : State} (h : Txt x t V cd n f U) (hal : U.vm.Alike U'.vm) (hh : U'.heap = U.heap) : Txt x t V cd n f U' := ⟨h.1.mv hal hh, h.2.1.mv hal hh, h.2.2.1.mv hal hh, h.2.2.2.1.mv hal hh, h.2.2.2.2⟩
namespace Cdr
def yN : MethodName := ⟨"java/lang/String", "coder", "()B"⟩
abbrev yB : ByteArray := jdk_42_method_152_code
theorem d0 : decode yB 0 = .ok (.getstatic 38, 3) := by decide +kernel
theorem d3 : decode yB 3 = .ok (.ifCond (.eq) 10, 3) := by decide +kernel
theorem d6 : decode yB 6 = .ok (.aload_n 0, 1) := by decide +kernel
theorem d7 : decode yB 7 = .ok (.getfield 15, 3) := by decide +kernel
theorem d10 : decode yB 10 = .ok (.goto 4, 3) := by decide +kernel
theorem d14 : decode yB 14 = .ok (.ireturn, 1) := by decide +kernel
def site : List Cond := [.fieldLink "java/lang/String" 38 "java/lang/String" "COMPACT_STRINGS" "Z", .fieldLink "java/lang/String" 15 "java/lang/String" "coder" "B"]
def tab : Cond := tabOf yN yB 1 (some .byte) site
def P (x : Addr) (cd z : Int32) (args : Array Value) (s : State) : Prop := args = #[.ref x] ∧ Has x "java/lang/String" "coder" "B" (.int cd) s ∧ (cd = 0 ∨ cd = 1) ∧ StaticIs s "java/lang/String" "COMPACT_STRINGS" "Z" (.int z) ∧ ¬ z = 0
def E (cd : Int32) (r : Option Value) (s u : State) : Prop := XT.PureE (some (.int cd)) r s u
theorem law (l : Launch) (x : Addr) (cd z : Int32) : Law l yN 1 0 0 0 yB 1 (some .byte) site (P x cd z) (E cd) [] 0 0 := by
  refine Law.of_walk (plainFor_of_name (by decide +kernel)) (by decide +kernel) (by decide +kernel) (by decide) (fun _ _ h => by rw [h.1]; rfl) (fun _ U U' hal hh h => ⟨h.1, h.2.1.mv hal hh, h.2.2.1, h.2.2.2.1.there hal hh, h.2.2.2.2⟩) (fun r U U' V V' h1 hal h2 h => XT.PureE.mv r U U' V V' h1 hal h2 h) ?_
  intro p e s m args below meth c s₁ X0 hexec hbytes hml hret hlk hnm hown hh0 W hP
  obtain ⟨rfl, hx, hc, s1, hz⟩ := hP
  have c1 : Steps p.tables e below (s₁.setTop (entryFrame m #[.ref x] 1)) (s₁.setTop (mkF m 0 #[.val (.ref x)] [])) := entry rfl
  obtain ⟨T2, X2, q2, st2⟩ := X0.sget hexec hown (wk W (.fieldLink "java/lang/String" 38 "java/lang/String" "COMPACT_STRINGS" "Z")) s1 (fun _ _ h => by rw [hh0]; exact h) (g := (mkF m 0 #[.val (.ref x)] [])) rfl (hb hbytes d0)
  have hh2 := q2.trans hh0
  have c3 : Steps p.tables e below (s₁.setTop (entryFrame m #[.ref x] 1)) (T2.setTop (mkF m 7 #[.val (.ref x)] [.ref x])) := (c1.trans (st2 _ (Steps.refl _))).trans (by
    refine XS.ifNo X2.here hexec rfl (hb hbytes d3) rfl (i0_eq_f hz) ?_
    refine XS.aloadN X2.here hexec rfl (hb hbytes d6) rfl rfl ?_
    exact Steps.refl _)
  obtain ⟨T4, X4, q4, st4⟩ := X2.hget hexec hown (wk W (.fieldLink "java/lang/String" 15 "java/lang/String" "coder" "B")) (hx.mv X2.warmed.alike hh2) (g := (mkF m 7 #[.val (.ref x)] [.ref x])) rfl (rest := []) rfl (hb hbytes d7)
  have c5 : Steps p.tables e below (s₁.setTop (entryFrame m #[.ref x] 1)) (T4.setTop (mkF m 14 #[.val (.ref x)] [.int cd])) := (c3.trans (st4 _ (Steps.refl _))).trans (by
    refine XS.goto X4.here hexec rfl (pc0 := 10) rfl (hb hbytes d10) (by decide) rfl ?_
    exact Steps.refl _)
  exact ⟨T4, some (.int cd), _, _, _, X4, rfl, rfl, rfl, (fun h => by cases h), ⟨rfl, q4.trans hh2⟩, fun fs hl => c5.trans (X4.ireturnOut hexec hret (by rcases hc with rfl | rfl <;> rfl) (Or.inr (Or.inr (Or.inl rfl))) (hb hbytes d14) hl)⟩
end Cdr
namespace Len
def yN : MethodName := ⟨"java/lang/String", "length", "()I"⟩
abbrev yB : ByteArray := jdk_42_method_54_code
theorem d0 : decode yB 0 = .ok (.aload_n 0, 1) := by decide +kernel
theorem d1 : decode yB 1 = .ok (.getfield 9, 3) := by decide +kernel
theorem d4 : decode yB 4 = .ok (.arraylength, 1) := by decide +kernel
theorem d5 : decode yB 5 = .ok (.aload_n 0, 1) := by decide +kernel
theorem d6 : decode yB 6 = .ok (.invokevirtual 335, 3) := by decide +kernel
theorem d9 : decode yB 9 = .ok (.ishr, 1) := by decide +kernel
theorem d10 : decode yB 10 = .ok (.ireturn, 1) := by decide +kernel
def site : List Cond := [.fieldLink "java/lang/String" 9 "java/lang/String" "value" "[B", Cdr.tab] ++ virtW "java/lang/String" 335 "java/lang/String" Cdr.yN Cdr.yN
def tab : Cond := tabOf yN yB 1 (some .int) site
def P (x t : Addr) (V : Cell) (cd : Int32) (n : Nat) (f : Nat → Int32) (z : Int32) (args : Array Value) (s : State) : Prop := args = #[.ref x] ∧ Txt x t V cd n f s ∧ StaticIs s "java/lang/String" "COMPACT_STRINGS" "Z" (.int z) ∧ ¬ z = 0
def E (n : Nat) (r : Option Value) (s u : State) : Prop := XT.PureE (some (.int (Int32.ofNat n))) r s u
/-- length() of a String of n chars, in either coding -/
theorem law (l : Launch) (x t : Addr) (V : Cell) (cd : Int32) (n : Nat) (f : Nat → Int32) (z : Int32) : Law l yN 1 0 1 13 yB 1 (some .int) site (P x t V cd n f z) (E n) [] 0 0 := by
  refine Law.of_walk (plainFor_of_name (by decide +kernel)) (by decide +kernel) (by decide +kernel) (by decide) (fun _ _ h => by rw [h.1]; rfl) (fun _ U U' hal hh h => ⟨h.1, h.2.1.mv hal hh, h.2.2.1.there hal hh, h.2.2.2⟩) (fun r U U' V V' h1 hal h2 h => XT.PureE.mv r U U' V V' h1 hal h2 h) ?_
  intro p e s m args below meth c s₁ X0 hexec hbytes hml hret hlk hnm hown hh0 W hP
  obtain ⟨rfl, hx, s1, hz⟩ := hP
  have v31 := hx.2.2.2.1.2.2.2
  have c1 : Steps p.tables e below (s₁.setTop (entryFrame m #[.ref x] 1)) (s₁.setTop (mkF m 1 #[.val (.ref x)] [.ref x])) := Steps.trans (entry rfl) (by
    show Steps p.tables e below (s₁.setTop (mkF m 0 #[.val (.ref x)] [])) _
    refine XS.aloadN X0.here hexec rfl (hb hbytes d0) rfl rfl ?_
    exact Steps.refl _)
  obtain ⟨T2, X2, q2, st2⟩ := X0.hget hexec hown (wk W (.fieldLink "java/lang/String" 9 "java/lang/String" "value" "[B")) (hx.mv X0.warmed.alike hh0).2.1 (g := (mkF m 1 #[.val (.ref x)] [.ref x])) rfl (rest := []) rfl (hb hbytes d1)
  have hh2 := q2.trans hh0
  have hx2 := hx.mv X2.warmed.alike hh2
  have c3 : Steps p.tables e below (s₁.setTop (entryFrame m #[.ref x] 1)) (T2.setTop (mkF m 6 #[.val (.ref x)] [.ref x, .int (Int32.ofNat V.slots.size)])) := (c1.trans (st2 _ (Steps.refl _))).trans (by
    refine X2.alen hexec hx2.2.2.2.1 rfl rfl (hb hbytes d4) ?_
    refine XS.aloadN X2.here hexec rfl (hb hbytes d5) rfl rfl ?_
    exact Steps.refl _)
  obtain ⟨v4, T4, X4, E4, g4⟩ := X2.callV hexec (Cdr.law l x cd z) hown (wks W (virtW "java/lang/String" 335 "java/lang/String" Cdr.yN Cdr.yN)) rfl (by decide) (wk W Cdr.tab) (W := 1) (Nat.le_of_ble_eq_true rfl) (Nat.le_of_ble_eq_true rfl) (Nat.le_refl _) (Nat.le_refl _) (hx2.1.fc X2.warmed.alike) hx2.1.is (g := (mkF m 6 #[.val (.ref x)] [.ref x, .int (Int32.ofNat V.slots.size)])) rfl (by rw [hml]; rfl) c3 (argsL := []) (rest := [.int (Int32.ofNat V.slots.size)]) rfl rfl (by show 2 * 0 + (1 + 0) ≤ _; decide) (hb hbytes d6) (⟨rfl, hx2.2.2.1, hx.2.2.2.2.1.cd, s1.there X2.warmed.alike hh2, hz⟩)
  obtain ⟨rfl, q4⟩ := E4
  have c5 : Steps p.tables e below (s₁.setTop (entryFrame m #[.ref x] 1)) (T4.setTop (mkF m 10 #[.val (.ref x)] [.int (Int32.ofNat V.slots.size >>> (cd &&& 31))])) := Steps.trans g4 (by
    refine ishr X4.here hexec rfl (hb hbytes d9) rfl ?_
    exact Steps.refl _)
  rw [hx.2.2.2.2.1.len v31] at c5
  exact ⟨T4, some (.int (Int32.ofNat n)), _, _, _, X4, rfl, rfl, rfl, (fun h => by cases h), ⟨rfl, q4.trans hh2⟩, fun fs hl => c5.trans (X4.ireturnOut hexec hret rfl (Or.inl rfl) (hb hbytes d10) hl)⟩
theorem pays {l : Launch} {R : Room} {p : Program} {e : Env} {below : List Frame} {s : State} {sargs : Array Value} {len W : Nat} (x t : Addr) (V : Cell) (cd : Int32) (n : Nat) (f : Nat → Int32) (z : Int32) (htab : tab.before sargs s = true) (hfr : 2 ≤ R.frames) (hlo : W + 25 ≤ R.locals) :
    Back l R p e below s sargs yN len W (fun A₁ a₁ => A₁.cells + 0 ≤ R.cells ∧ A₁.slots + 0 ≤ R.slots ∧ P x t V cd n f z a₁ A₁.U) (fun A₁ _ v₁ B₁ => E n v₁ A₁.U B₁.U ∧ B₁.locs = A₁.locs ++ [] ∧ B₁.cells = A₁.cells + 0 ∧ B₁.slots = A₁.slots + 0) :=
  (law l x t V cd n f z).pays htab hfr (by omega)
end Len
namespace IsL
def yN : MethodName := ⟨"java/lang/String", "isLatin1", "()Z"⟩
abbrev yB : ByteArray := jdk_42_method_154_code
theorem d0 : decode yB 0 = .ok (.getstatic 38, 3) := by decide +kernel
theorem d3 : decode yB 3 = .ok (.ifCond (.eq) 14, 3) := by decide +kernel
theorem d6 : decode yB 6 = .ok (.aload_n 0, 1) := by decide +kernel
theorem d7 : decode yB 7 = .ok (.getfield 15, 3) := by decide +kernel
theorem d10 : decode yB 10 = .ok (.ifCond (.ne) 7, 3) := by decide +kernel
theorem d13 : decode yB 13 = .ok (.iconst 1, 1) := by decide +kernel
theorem d14 : decode yB 14 = .ok (.goto 4, 3) := by decide +kernel
theorem d17 : decode yB 17 = .ok (.iconst 0, 1) := by decide +kernel
theorem d18 : decode yB 18 = .ok (.ireturn, 1) := by decide +kernel
def site : List Cond := [.fieldLink "java/lang/String" 38 "java/lang/String" "COMPACT_STRINGS" "Z", .fieldLink "java/lang/String" 15 "java/lang/String" "coder" "B"]
def tab : Cond := tabOf yN yB 1 (some .boolean) site
def P (x : Addr) (cd z : Int32) (args : Array Value) (s : State) : Prop := args = #[.ref x] ∧ Has x "java/lang/String" "coder" "B" (.int cd) s ∧ (cd = 0 ∨ cd = 1) ∧ StaticIs s "java/lang/String" "COMPACT_STRINGS" "Z" (.int z) ∧ ¬ z = 0
def E (cd : Int32) (r : Option Value) (s u : State) : Prop := XT.PureE (some (.int (1 - cd))) r s u
theorem law (l : Launch) (x : Addr) (cd z : Int32) : Law l yN 1 0 0 0 yB 1 (some .boolean) site (P x cd z) (E cd) [] 0 0 := by
  refine Law.of_walk (plainFor_of_name (by decide +kernel)) (by decide +kernel) (by decide +kernel) (by decide) (fun _ _ h => by rw [h.1]; rfl) (fun _ U U' hal hh h => ⟨h.1, h.2.1.mv hal hh, h.2.2.1, h.2.2.2.1.there hal hh, h.2.2.2.2⟩) (fun r U U' V V' h1 hal h2 h => XT.PureE.mv r U U' V V' h1 hal h2 h) ?_
  intro p e s m args below meth c s₁ X0 hexec hbytes hml hret hlk hnm hown hh0 W hP
  obtain ⟨rfl, hx, hc, s1, hz⟩ := hP
  have c1 : Steps p.tables e below (s₁.setTop (entryFrame m #[.ref x] 1)) (s₁.setTop (mkF m 0 #[.val (.ref x)] [])) := entry rfl
  obtain ⟨T2, X2, q2, st2⟩ := X0.sget hexec hown (wk W (.fieldLink "java/lang/String" 38 "java/lang/String" "COMPACT_STRINGS" "Z")) s1 (fun _ _ h => by rw [hh0]; exact h) (g := (mkF m 0 #[.val (.ref x)] [])) rfl (hb hbytes d0)
  have hh2 := q2.trans hh0
  have c3 : Steps p.tables e below (s₁.setTop (entryFrame m #[.ref x] 1)) (T2.setTop (mkF m 7 #[.val (.ref x)] [.ref x])) := (c1.trans (st2 _ (Steps.refl _))).trans (by
    refine XS.ifNo X2.here hexec rfl (hb hbytes d3) rfl (i0_eq_f hz) ?_
    refine XS.aloadN X2.here hexec rfl (hb hbytes d6) rfl rfl ?_
    exact Steps.refl _)
  obtain ⟨T4, X4, q4, st4⟩ := X2.hget hexec hown (wk W (.fieldLink "java/lang/String" 15 "java/lang/String" "coder" "B")) (hx.mv X2.warmed.alike hh2) (g := (mkF m 7 #[.val (.ref x)] [.ref x])) rfl (rest := []) rfl (hb hbytes d7)
  have c5 : Steps p.tables e below (s₁.setTop (entryFrame m #[.ref x] 1)) (T4.setTop (mkF m 10 #[.val (.ref x)] [.int cd])) := c3.trans (st4 _ (Steps.refl _))
  have c6 : Steps p.tables e below (s₁.setTop (entryFrame m #[.ref x] 1)) (T4.setTop (mkF m 18 #[.val (.ref x)] [.int (1 - cd)])) := by
    rcases hc with rfl | rfl
    · exact c5.trans (by
        refine XS.ifNo X4.here hexec rfl (hb hbytes d10) rfl (i0_ne_f rfl) ?_
        refine iconstV X4.here hexec rfl 1 (hb hbytes d13) (by decide) ?_
        refine XS.goto X4.here hexec rfl (pc0 := 14) rfl (hb hbytes d14) (by decide) rfl ?_
        exact Steps.refl _)
    · exact c5.trans (by
        refine XS.ifYes X4.here hexec rfl (pc0 := 10) rfl (hb hbytes d10) rfl (i0_ne_t (by decide)) (by decide) rfl ?_
        refine iconstV X4.here hexec rfl 0 (hb hbytes d17) (by decide) ?_
        exact Steps.refl _)
  exact ⟨T4, some (.int (1 - cd)), _, _, _, X4, rfl, rfl, rfl, (fun h => by cases h), ⟨rfl, q4.trans hh2⟩, fun fs hl => c6.trans (X4.ireturnOut hexec hret (by rcases hc with rfl | rfl <;> rfl) (Or.inr (Or.inl rfl)) (hb hbytes d18) hl)⟩
end IsL
namespace LChA
def yN : MethodName := ⟨"java/lang/StringLatin1", "charAt", "([BI)C"⟩
abbrev yB : ByteArray := jdk_43_method_2_code
theorem d0 : decode yB 0 = .ok (.iload_n 1, 1) := by decide +kernel
theorem d1 : decode yB 1 = .ok (.aload_n 0, 1) := by decide +kernel
theorem d2 : decode yB 2 = .ok (.arraylength, 1) := by decide +kernel
theorem d3 : decode yB 3 = .ok (.invokestatic 9, 3) := by decide +kernel
theorem d6 : decode yB 6 = .ok (.aload_n 0, 1) := by decide +kernel
theorem d7 : decode yB 7 = .ok (.iload_n 1, 1) := by decide +kernel
theorem d8 : decode yB 8 = .ok (.baload, 1) := by decide +kernel
theorem d9 : decode yB 9 = .ok (.sipush 255, 3) := by decide +kernel
theorem d12 : decode yB 12 = .ok (.iand, 1) := by decide +kernel
theorem d13 : decode yB 13 = .ok (.i2c, 1) := by decide +kernel
theorem d14 : decode yB 14 = .ok (.ireturn, 1) := by decide +kernel
def site : List Cond := [JO.Str_checkIndex.tab] ++ staticW "java/lang/StringLatin1" 9 JO.Str_checkIndex.yN
def tab : Cond := tabOf yN yB 2 (some .char) site
def P (t : Addr) (V : Cell) (i : Nat) (u : Int32) (fm : Value) (args : Array Value) (s : State) : Prop := args = #[.ref t, .int (Int32.ofNat i)] ∧ XT.Arr .byte t V s ∧ V.slots[i]? = some (.int u) ∧ (StaticIs s "jdk/internal/util/Preconditions" "SIOOBE_FORMATTER" "Ljava/util/function/BiFunction;" fm ∧ fm.isRef = true)
def E (u : Int32) (r : Option Value) (s w : State) : Prop := XT.PureE (some (.int (chr8 u))) r s w
theorem law (l : Launch) (t : Addr) (V : Cell) (i : Nat) (u : Int32) (fm : Value) : Law l yN 2 2 2 27 yB 2 (some .char) site (P t V i u fm) (E u) [] 0 0 := by
  refine Law.of_walk (plainFor_of_name (by decide +kernel)) (by decide +kernel) (by decide +kernel) (by decide) (fun _ _ h => by rw [h.1]; rfl) (fun _ U U' hal hh h => ⟨h.1, h.2.1.mv hal hh, h.2.2.1, h.2.2.2.1.there hal hh, h.2.2.2.2⟩) (fun r U U' V V' h1 hal h2 h => XT.PureE.mv r U U' V V' h1 hal h2 h) ?_
  intro p e s m args below meth c s₁ X0 hexec hbytes hml hret hlk hnm hown hh0 W hP
  obtain ⟨rfl, hV, hu, s1, rf⟩ := hP
  have v31 := hV.2.2.2
  have hi : i < V.slots.size := (Array.getElem?_eq_some_iff.mp hu).1
  have c1 : Steps p.tables e below (s₁.setTop (entryFrame m #[.ref t, .int (Int32.ofNat i)] 2)) (s₁.setTop (mkF m 0 #[.val (.ref t), .val (.int (Int32.ofNat i))] [])) := entry rfl
  have c2 : Steps p.tables e below (s₁.setTop (entryFrame m #[.ref t, .int (Int32.ofNat i)] 2)) (s₁.setTop (mkF m 3 #[.val (.ref t), .val (.int (Int32.ofNat i))] [.int (Int32.ofNat V.slots.size), .int (Int32.ofNat i)])) := c1.trans (by
    refine XS.iloadN X0.here hexec rfl (hb hbytes d0) rfl ?_
    refine XS.aloadN X0.here hexec rfl (hb hbytes d1) rfl rfl ?_
    refine X0.alen hexec (hV.mv X0.warmed.alike hh0) rfl rfl (hb hbytes d2) ?_
    exact Steps.refl _)
  obtain ⟨v3, T3, X3, E3, g3⟩ := X0.callS hexec (JO.Str_checkIndex.law l (Int32.ofNat i) (Int32.ofNat V.slots.size) fm) hown (wks W (staticW "java/lang/StringLatin1" 9 JO.Str_checkIndex.yN)) (wk W JO.Str_checkIndex.tab) (W := 0) (Nat.le_of_ble_eq_true rfl) (Nat.le_of_ble_eq_true rfl) (Nat.le_refl _) (Nat.le_refl _) (g := (mkF m 3 #[.val (.ref t), .val (.int (Int32.ofNat i))] [.int (Int32.ofNat V.slots.size), .int (Int32.ofNat i)])) rfl (by rw [hml]; rfl) c2 (argsL := [.int (Int32.ofNat i), .int (Int32.ofNat V.slots.size)]) (rest := []) rfl rfl (by show 2 * 0 + 0 ≤ _; decide) (hb hbytes d3) (⟨rfl, rf, s1.there X0.warmed.alike hh0, Int32.ofNat_not_neg (by omega), lt32 v31 hi⟩)
  obtain ⟨rfl, q3⟩ := E3
  have hh3 := q3.trans hh0
  have c4 : Steps p.tables e below (s₁.setTop (entryFrame m #[.ref t, .int (Int32.ofNat i)] 2)) (T3.setTop (mkF m 14 #[.val (.ref t), .val (.int (Int32.ofNat i))] [.int (chr8 u)])) := Steps.trans g3 (by
    refine XS.aloadN X3.here hexec rfl (hb hbytes d6) rfl rfl ?_
    refine XS.iloadN X3.here hexec rfl (hb hbytes d7) rfl ?_
    refine X3.aget hexec (hV.mv X3.warmed.alike hh3) rfl hu rfl rfl (hb hbytes d8) ?_
    refine sipushV X3.here hexec rfl 255 (hb hbytes d9) (by decide) ?_
    refine XS.iand X3.here hexec rfl (hb hbytes d12) rfl ?_
    refine i2c X3.here hexec rfl (hb hbytes d13) rfl ?_
    exact Steps.refl _)
  exact ⟨T3, some (.int (chr8 u)), _, _, _, X3, rfl, rfl, rfl, (fun h => by cases h), ⟨rfl, hh3⟩, fun fs hl => c4.trans (X3.ireturnOut hexec hret (narrow_c _) (Or.inr (Or.inr (Or.inr (Or.inl rfl)))) (hb hbytes d14) hl)⟩
end LChA
end StrChars
namespace StrChars.Road
open Jvm Sem ClassFile Op Lib Jvm.Stand Jvm.Free Jvm.Free.XT
open Jvm.Lib.Cold (StaticIs)
theorem consq {a : Array Value} {s : State} {c : Jvm.Cond} {L : List Jvm.Cond} (h0 : c.before a s = true) (h : ∀ w ∈ L, w.before a s = true) : ∀ w ∈ c :: L, w.before a s = true := fun w hw => (List.mem_cons.mp hw).elim (fun e => e ▸ h0) (h w)
/-- the words of String.length(), either coding -/
abbrev wordsLen : List Jvm.Cond := [.code Len.yN Len.yB 1 (some .int), .initialized ST, .fieldLink ST 9 ST "value" "[B", .fieldLink ST 38 ST "COMPACT_STRINGS" "Z", .fieldLink ST 15 ST "coder" "B", .code Cdr.yN Cdr.yB 1 (some .byte), .methodLink ST 335 Cdr.yN, .declares Cdr.yN, .selects ST Cdr.yN Cdr.yN, .instanceMethod Cdr.yN]
theorem tabLen_of {a : Array Value} {s : State} (h : ∀ w ∈ wordsLen, w.before a s = true) : Len.tab.before a s = true := by
  have hc : Cdr.tab.before a s = true := unparts (wk h (.code Cdr.yN Cdr.yB 1 (some .byte))) (wks h (.initialized Cdr.yN.cls :: Cdr.site))
  have q := consq hc h
  exact unparts (wk q (.code Len.yN Len.yB 1 (some .int))) (wks q (.initialized Len.yN.cls :: Len.site))
theorem movedLen {Z s : State} {a0 args : Array Value} (hZ : Z.Warmed39 s.vm) (hw : ∀ d ∈ wordsLen, d.before a0 Z = true) : ∀ d ∈ wordsLen, d.before args s = true := fun d hd => by
  have q := hw d hd
  have t : ∀ d ∈ wordsLen, d = .arrayClass .byte ∨ (d.onTables && d.keepsFace) = true := by decide +kernel
  rcases t d hd with rfl | t
  · exact RoadKit.mvA hZ q
  · exact RoadKit.mv hZ q t
/-- the bytes of the chars cs, low before high -/
def wideBytes : List Int32 → List Value
  | [] => []
  | c :: cs => .int (lo8 c) :: .int (hi8 c) :: wideBytes cs
theorem wide_lo (d : Value) : ∀ (cs : List Int32) (j : Nat), j < cs.length → (wideBytes cs).getD (2 * j) d = .int (lo8 (cs.getD j 0))
  | [], j, h => absurd h (Nat.not_lt_zero j)
  | c :: cs, 0, _ => rfl
  | c :: cs, j + 1, h => by
    have q := wide_lo d cs j (by simpa using h)
    rw [show 2 * (j + 1) = 2 * j + 1 + 1 from by omega]
    simpa [wideBytes] using q
theorem wide_hi (d : Value) : ∀ (cs : List Int32) (j : Nat), j < cs.length → (wideBytes cs).getD (2 * j + 1) d = .int (hi8 (cs.getD j 0))
  | [], j, h => absurd h (Nat.not_lt_zero j)
  | c :: cs, 0, _ => rfl
  | c :: cs, j + 1, h => by
    have q := wide_hi d cs j (by simpa using h)
    rw [show 2 * (j + 1) + 1 = 2 * j + 1 + 1 + 1 from by omega]
    simpa [wideBytes] using q
theorem low_at (d : Value) (cs : List Int32) (j : Nat) (h : j < cs.length) : (cs.map fun c => Value.int (lo8 c)).getD j d = .int (lo8 (cs.getD j 0)) := by
  simp [List.getD_eq_getElem?_getD, h]
/-- an array of N2 bytes vs codes the chars cs by the coder cd -/
def CodA (cs : List Int32) (cd N2 : Int32) (vs : List Value) : Prop := (cd = 0 ∧ N2 = Int32.ofNat cs.length ∧ vs = (cs.map fun c => Value.int (lo8 c)) ∧ ∀ c ∈ cs, ¬ 255 < c) ∨ (cd = 1 ∧ N2 = Int32.ofNat (2 * cs.length) ∧ vs = wideBytes cs ∧ ∃ c ∈ cs, 255 < c)
theorem CodA.cod {cs : List Int32} {cd N2 : Int32} {vs : List Value} {V : Cell} (h : CodA cs cd N2 vs) (hn : 2 * cs.length < 2 ^ 31) (hs : V.slots.size = N2.toNatClampNeg) (hv : RoadKit.Has V vs (.int 0)) : Cod cd cs.length (fun j => cs.getD j 0) V := by
  rcases h with ⟨rfl, rfl, rfl, h⟩ | ⟨rfl, rfl, rfl, c, hc, hw⟩
  · rw [n32 (by omega)] at hs
    exact Or.inl ⟨rfl, hs, fun j hj => ⟨by rw [hv j (by omega), low_at _ _ _ hj], by
      have e : cs.getD j 0 = cs[j] := by simp [List.getD_eq_getElem?_getD, hj]
      show ¬ 255 < cs.getD j 0
      rw [e]; exact h _ (List.getElem_mem _)⟩⟩
  · rw [n32 (by omega)] at hs
    obtain ⟨j, hj, rfl⟩ := List.getElem_of_mem hc
    exact Or.inr ⟨rfl, hs, fun j hj => ⟨by rw [hv _ (by omega), wide_lo _ _ _ hj], by rw [hv _ (by omega), wide_hi _ _ _ hj]⟩, j, hj, by
      have e : cs.getD j 0 = cs[j] := by simp [List.getD_eq_getElem?_getD, hj]
      show 255 < cs.getD j 0
      rw [e]; exact hw⟩
/-- an object of exactly java/lang/String, its two fields found: as the laws ask it -/
theorem strObj {Z U : State} {a0 : Array Value} {kI : Nat} (wi : (Jvm.Cond.instantiable ST kI).before a0 Z = true) (al : Z.vm.Alike U.vm) {x : Addr} {v0 c0 : Value} (E : RoadKit.Exa Z U.heap x ST) (V : RoadKit.Fld Z U.heap x ST "value" "[B" v0) (C : RoadKit.Fld Z U.heap x ST "coder" "B" c0) :
    ∃ (D : Cell) (fV fC : Field), Blank ST x D U ∧ Found ST "value" "[B" fV U ∧ Found ST "coder" "B" fC U ∧ D.slots[fV.slot]? = some v0 ∧ D.slots[fC.slot]? = some c0 ∧ RoadKit.slotOf Z ST "value" "[B" = fV.slot ∧ RoadKit.slotOf Z ST "coder" "B" = fC.slot := by
  obtain ⟨D, cfV, kV, iV, fV, hD, gV, stV, knV, obV, asV, slV⟩ := V
  obtain ⟨D', cfC, kC, iC, fC, hD', gC, stC, -, -, asC, slC⟩ := C
  cases hD.symm.trans hD'
  obtain ⟨D2, kD, e1, e2, e3, e4, e5⟩ := E
  cases hD.symm.trans e1
  obtain ⟨c2, k2, i1, i2, i3, -⟩ := Cond.instantiable_spec wi
  cases e2.symm.trans i1
  cases e3.symm.trans i2
  obtain ⟨kU, u1, u2⟩ := al.2.2 _ _ e3
  exact ⟨D, fV, fC, ⟨hD, ⟨knV, fun q hq => by rw [hq] at obV; cases obV⟩, by rw [al.findClass]; exact e2, kU, u1, by rw [u2]; exact i3, by rw [u2]; exact e5 i3⟩, ⟨SBG.found_only al ⟨cfV, kV, iV, gV⟩, stV⟩, ⟨SBG.found_only al ⟨cfC, kC, iC, gC⟩, stC⟩, slV, slC, by simp [RoadKit.slotOf, gV], by simp [RoadKit.slotOf, gC]⟩
theorem sta_is {Z U : State} (al : Z.vm.Alike U.vm) {C n d : String} {v : Value} (S : RoadKit.Sta Z U.heap C n d v) : StaticIs U C n d v := by
  obtain ⟨cfS, iS, kS, fS, st, cS, t1, t2, t3, t4, t5, t6, t7⟩ := S
  exact StaticIs.there (s := { Z with heap := U.heap }) ⟨cfS, iS, kS, fS, st, cS, t1, t2, t3, t4, t5, (fun q => by rw [q] at t6; cases t6), t7⟩ al rfl
/-- **length() OF SUCH A STRING** -/
theorem lenW {p : Program} {l : Launch} {e : Env} {R : Room} {s : State} {args : Array Value} {below : List Frame} {len W : Nat} {Z : State} {a0 : Array Value} {h : Heap} (hZ : Z.Warmed39 s.vm) (hw : ∀ d ∈ wordsLen, d.before a0 Z = true) {kI : Nat} (wi : (Jvm.Cond.instantiable ST kI).before a0 Z = true)
    {x t : Addr} {kb : ClassId} {cs : List Int32} {cd N2 z : Int32} {vs : List Value} (E : RoadKit.Exa Z h x ST) (V : RoadKit.Fld Z h x ST "value" "[B" (.ref t)) (C : RoadKit.Fld Z h x ST "coder" "B" (.int cd)) (K : RoadKit.Arv Z h t kb .byte N2 vs (.int 0)) (hc : CodA cs cd N2 vs) (hb : ∀ c ∈ cs, ¬ c < 0 ∧ ¬ (65535 : Int32) < c)
    (S : RoadKit.Sta Z h ST "COMPACT_STRINGS" "Z" (.int z)) (hz : ¬ z = 0) (l2 : cs.length ≤ 4000) (hfr : 2 ≤ R.frames) (hlo : W + 25 ≤ R.locals) :
    Back l R p e below s args (⟨"java/lang/String", "length", "()I"⟩ : MethodName) len W (fun P a => a = #[.ref x] ∧ P.U.heap = h ∧ P.cells + 0 ≤ R.cells ∧ P.slots + 0 ≤ R.slots)
      (fun P _ v B => ∃ L, (v = some (.int (Int32.ofNat cs.length)) ∧ L = [] ∧ B.U.heap = h) ∧ B.locs = P.locs ++ L ∧ B.cells = P.cells + 0 ∧ B.slots = P.slots + 0) := by
  obtain ⟨A, K1, K2, K3, K4, K5, K6⟩ := K
  have hcod := hc.cod (by omega) K3 K5
  intro m meth c P g ig mk a X hg hsize hdg hW hn hp'
  obtain ⟨rfl, rfl, r1, r2⟩ := hp'
  have al : Z.vm.Alike P.U.vm := hZ.alike.trans X.warmed.alike
  obtain ⟨D, fV, fC, hB, F1, F2, g1, g2, -, -⟩ := strObj wi al E V C
  have hx : Txt x t A cd cs.length (fun j => cs.getD j 0) P.U := ⟨⟨_, hB.2.2.1, D, hB.1, rfl, by cases q : D.vm <;> first | rfl | exact absurd q (hB.2.1.2 _)⟩, Has.of hB F1 g1, Has.of hB F2 g2, ⟨K1.1, State.isArrayOf_alike al K1.2.1, K1.2.2, by rcases hcod with ⟨-, q, -⟩ | ⟨-, q, -⟩ <;> omega⟩, hcod, fun j hj => by
    have e : cs.getD j 0 = cs[j] := by simp [List.getD_eq_getElem?_getD, hj]
    show ¬ cs.getD j 0 < 0 ∧ ¬ 65535 < cs.getD j 0
    rw [e]; exact hb _ (List.getElem_mem _)⟩
  obtain ⟨v, B, X', ⟨⟨hv, hh⟩, hl, hk, hs⟩, st⟩ := Len.pays x t A cd cs.length (fun j => cs.getD j 0) z (tabLen_of (movedLen hZ hw)) hfr hlo m meth c P g ig mk _ X hg hsize hdg hW hn ⟨r1, r2, rfl, hx, sta_is al S, hz⟩
  exact ⟨v, B, X', ⟨[], ⟨hv, rfl, hh⟩, hl, hk, hs⟩, st⟩
end StrChars.Road
namespace StrChars.Road
open Jvm Sem ClassFile Op Lib Jvm.Stand Jvm.Free Jvm.Free.XT
open Jvm.Lib.Cold (StaticIs)
/-- the road's facts of a String, as the laws ask it -/
theorem txt_of {Z U : State} {a0 : Array Value} {kI : Nat} (wi : (Jvm.Cond.instantiable ST kI).before a0 Z = true) (al : Z.vm.Alike U.vm) {x t : Addr} {kb : ClassId} {cs : List Int32} {cd N2 : Int32} {vs : List Value} (E : RoadKit.Exa Z U.heap x ST) (V : RoadKit.Fld Z U.heap x ST "value" "[B" (.ref t)) (C : RoadKit.Fld Z U.heap x ST "coder" "B" (.int cd)) (K : RoadKit.Arv Z U.heap t kb .byte N2 vs (.int 0)) (hc : CodA cs cd N2 vs) (hb : ∀ c ∈ cs, ¬ c < 0 ∧ ¬ (65535 : Int32) < c) (l2 : cs.length ≤ 4000) :
    ∃ A, Txt x t A cd cs.length (fun j => cs.getD j 0) U := by
  obtain ⟨A, K1, K2, K3, K4, K5, K6⟩ := K
  have hcod := hc.cod (by omega) K3 K5
  obtain ⟨D, fV, fC, hB, F1, F2, g1, g2, -, -⟩ := strObj wi al E V C
  exact ⟨A, ⟨_, hB.2.2.1, D, hB.1, rfl, by cases q : D.vm <;> first | rfl | exact absurd q (hB.2.1.2 _)⟩, Has.of hB F1 g1, Has.of hB F2 g2, ⟨K1.1, State.isArrayOf_alike al K1.2.1, K1.2.2, by rcases hcod with ⟨-, q, -⟩ | ⟨-, q, -⟩ <;> omega⟩, hcod, fun j hj => by
    have e : cs.getD j 0 = cs[j] := by simp [List.getD_eq_getElem?_getD, hj]
    show ¬ cs.getD j 0 < 0 ∧ ¬ 65535 < cs.getD j 0
    rw [e]; exact hb _ (List.getElem_mem _)⟩
end StrChars.Road
namespace StrChars
open Jvm Sem ClassFile Op Lib Jvm.Stand Jvm.Free.XT Jvm.Free.ALB Jvm.Free.JM Jvm.Free
open Jvm.Lib.Cold (StaticIs)
namespace ChN
def yN : MethodName := ⟨"java/lang/String", "charAt", "(I)C"⟩
abbrev yB : ByteArray := jdk_42_method_56_code
theorem d0 : decode yB 0 = .ok (.aload_n 0, 1) := by decide +kernel
theorem d1 : decode yB 1 = .ok (.invokevirtual 492, 3) := by decide +kernel
theorem d4 : decode yB 4 = .ok (.ifCond (.eq) 12, 3) := by decide +kernel
theorem d7 : decode yB 7 = .ok (.aload_n 0, 1) := by decide +kernel
theorem d8 : decode yB 8 = .ok (.getfield 9, 3) := by decide +kernel
theorem d11 : decode yB 11 = .ok (.iload_n 1, 1) := by decide +kernel
theorem d12 : decode yB 12 = .ok (.invokestatic 495, 3) := by decide +kernel
theorem d15 : decode yB 15 = .ok (.ireturn, 1) := by decide +kernel
def site : List Cond := [.fieldLink "java/lang/String" 9 "java/lang/String" "value" "[B", IsL.tab, LChA.tab] ++ virtW "java/lang/String" 492 "java/lang/String" IsL.yN IsL.yN ++ staticW "java/lang/String" 495 LChA.yN
def tab : Cond := tabOf yN yB 2 (some .char) site
def P (x t : Addr) (V : Cell) (n : Nat) (f : Nat → Int32) (z : Int32) (fm : Value) (i : Nat) (args : Array Value) (s : State) : Prop := args = #[.ref x, .int (Int32.ofNat i)] ∧ Txt x t V 0 n f s ∧ i < n ∧ StaticIs s "java/lang/String" "COMPACT_STRINGS" "Z" (.int z) ∧ ¬ z = 0 ∧ StaticIs s "jdk/internal/util/Preconditions" "SIOOBE_FORMATTER" "Ljava/util/function/BiFunction;" fm ∧ fm.isRef = true
def E (f : Nat → Int32) (i : Nat) (r : Option Value) (s u : State) : Prop := XT.PureE (some (.int (f i))) r s u
/-- charAt(i) of a Latin-1 String of n chars, i < n: f i -/
theorem law (l : Launch) (x t : Addr) (V : Cell) (n : Nat) (f : Nat → Int32) (z : Int32) (fm : Value) (i : Nat) : Law l yN 2 1 3 40 yB 2 (some .char) site (P x t V n f z fm i) (E f i) [] 0 0 := by
  refine Law.of_walk (plainFor_of_name (by decide +kernel)) (by decide +kernel) (by decide +kernel) (by decide) (fun _ _ h => by rw [h.1]; rfl) (fun _ U U' hal hh h => ⟨h.1, h.2.1.mv hal hh, h.2.2.1, h.2.2.2.1.there hal hh, h.2.2.2.2.1, h.2.2.2.2.2.1.there hal hh, h.2.2.2.2.2.2⟩) (fun r U U' V V' h1 hal h2 h => XT.PureE.mv r U U' V V' h1 hal h2 h) ?_
  intro p e s m args below meth c s₁ X0 hexec hbytes hml hret hlk hnm hown hh0 W hP
  obtain ⟨rfl, hx, hi, s1, hz, s3, rf⟩ := hP
  have v31 := hx.2.2.2.1.2.2.2
  have hr := hx.2.2.2.2.2 i hi
  have hx0 := hx.mv X0.warmed.alike hh0
  have c1 : Steps p.tables e below (s₁.setTop (entryFrame m #[.ref x, .int (Int32.ofNat i)] 2)) (s₁.setTop (mkF m 1 #[.val (.ref x), .val (.int (Int32.ofNat i))] [.ref x])) := Steps.trans (entry rfl) (by
    show Steps p.tables e below (s₁.setTop (mkF m 0 #[.val (.ref x), .val (.int (Int32.ofNat i))] [])) _
    refine XS.aloadN X0.here hexec rfl (hb hbytes d0) rfl rfl ?_
    exact Steps.refl _)
  obtain ⟨v2, T2, X2, E2, g2⟩ := X0.callV hexec (IsL.law l x 0 z) hown (wks W (virtW "java/lang/String" 492 "java/lang/String" IsL.yN IsL.yN)) rfl (by decide) (wk W IsL.tab) (W := 0) (Nat.le_of_ble_eq_true rfl) (Nat.le_of_ble_eq_true rfl) (Nat.le_refl _) (Nat.le_refl _) (hx0.1.fc X0.warmed.alike) hx0.1.is (g := (mkF m 1 #[.val (.ref x), .val (.int (Int32.ofNat i))] [.ref x])) rfl (by rw [hml]; rfl) c1 (argsL := []) (rest := []) rfl rfl (by show 2 * 0 + 0 ≤ _; decide) (hb hbytes d1) (⟨rfl, hx0.2.2.1, hx.2.2.2.2.1.cd, s1.there X0.warmed.alike hh0, hz⟩)
  obtain ⟨rfl, q2⟩ := E2
  have hh2 := q2.trans hh0
  have hx2 := hx.mv X2.warmed.alike hh2
  obtain ⟨-, k1, k2⟩ | ⟨k0, -⟩ := hx.2.2.2.2.1
  · have c3 : Steps p.tables e below (s₁.setTop (entryFrame m #[.ref x, .int (Int32.ofNat i)] 2)) (T2.setTop (mkF m 8 #[.val (.ref x), .val (.int (Int32.ofNat i))] [.ref x])) := Steps.trans g2 (by
      refine XS.ifNo X2.here hexec rfl (hb hbytes d4) rfl (i0_eq_f (by decide)) ?_
      refine XS.aloadN X2.here hexec rfl (hb hbytes d7) rfl rfl ?_
      exact Steps.refl _)
    obtain ⟨T4, X4, q4, st4⟩ := X2.hget hexec hown (wk W (.fieldLink "java/lang/String" 9 "java/lang/String" "value" "[B")) hx2.2.1 (g := (mkF m 8 #[.val (.ref x), .val (.int (Int32.ofNat i))] [.ref x])) rfl (rest := []) rfl (hb hbytes d8)
    have hh4 := q4.trans hh2
    have c5 : Steps p.tables e below (s₁.setTop (entryFrame m #[.ref x, .int (Int32.ofNat i)] 2)) (T4.setTop (mkF m 12 #[.val (.ref x), .val (.int (Int32.ofNat i))] [.int (Int32.ofNat i), .ref t])) := (c3.trans (st4 _ (Steps.refl _))).trans (by
      refine XS.iloadN X4.here hexec rfl (hb hbytes d11) rfl ?_
      exact Steps.refl _)
    obtain ⟨v6, T6, X6, E6, g6⟩ := X4.callS hexec (LChA.law l t V i (lo8 (f i)) fm) hown (wks W (staticW "java/lang/String" 495 LChA.yN)) (wk W LChA.tab) (W := 0) (Nat.le_of_ble_eq_true rfl) (Nat.le_of_ble_eq_true rfl) (Nat.le_refl _) (Nat.le_refl _) (g := (mkF m 12 #[.val (.ref x), .val (.int (Int32.ofNat i))] [.int (Int32.ofNat i), .ref t])) rfl (by rw [hml]; rfl) c5 (argsL := [.ref t, .int (Int32.ofNat i)]) (rest := []) rfl rfl (by show 2 * 0 + 0 ≤ _; decide) (hb hbytes d12) (⟨rfl, hx.2.2.2.1.mv X4.warmed.alike hh4, (k2 i hi).1, s3.there X4.warmed.alike hh4, rf⟩)
    obtain ⟨rfl, q6⟩ := E6
    rw [chr8_lo8 hr.1 (k2 i hi).2] at g6
    exact ⟨T6, some (.int (f i)), _, _, _, X6, rfl, rfl, rfl, (fun h => by cases h), ⟨rfl, q6.trans hh4⟩, fun fs hl => Steps.trans g6 (X6.ireturnOut hexec hret (narrow_ch hr.1 hr.2) (Or.inr (Or.inr (Or.inr (Or.inl rfl)))) (hb hbytes d15) hl)⟩
  · exact absurd k0 (by decide)
theorem pays {l : Launch} {R : Room} {p : Program} {e : Env} {below : List Frame} {s : State} {sargs : Array Value} {len W : Nat} (x t : Addr) (V : Cell) (n : Nat) (f : Nat → Int32) (z : Int32) (fm : Value) (i : Nat) (htab : tab.before sargs s = true) (hfr : 4 ≤ R.frames) (hlo : W + 53 ≤ R.locals) :
    Back l R p e below s sargs yN len W (fun A₁ a₁ => A₁.cells + 0 ≤ R.cells ∧ A₁.slots + 0 ≤ R.slots ∧ P x t V n f z fm i a₁ A₁.U) (fun A₁ _ v₁ B₁ => E f i v₁ A₁.U B₁.U ∧ B₁.locs = A₁.locs ++ [] ∧ B₁.cells = A₁.cells + 0 ∧ B₁.slots = A₁.slots + 0) :=
  (law l x t V n f z fm i).pays htab hfr (by omega)
end ChN
end StrChars
namespace StrChars.Road
open Jvm Sem ClassFile Op Lib Jvm.Stand Jvm.Free Jvm.Free.XT
open Jvm.Lib.Cold (StaticIs)
/-- the words of String.charAt(int), the Latin-1 road alone -/
abbrev wordsChN : List Jvm.Cond := [.code ChN.yN ChN.yB 2 (some .char), .initialized ST, .fieldLink ST 9 ST "value" "[B", .fieldLink ST 38 ST "COMPACT_STRINGS" "Z", .fieldLink ST 15 ST "coder" "B", .code IsL.yN IsL.yB 1 (some .boolean), .methodLink ST 492 IsL.yN, .declares IsL.yN, .selects ST IsL.yN IsL.yN, .instanceMethod IsL.yN,
  .methodLink ST 495 LChA.yN, .static LChA.yN, .code LChA.yN LChA.yB 2 (some .char), .initialized "java/lang/StringLatin1", .methodLink "java/lang/StringLatin1" 9 JO.Str_checkIndex.yN, .static JO.Str_checkIndex.yN, .code JO.Str_checkIndex.yN JO.Str_checkIndex.yB 2 none,
  .fieldLink ST 1053 "jdk/internal/util/Preconditions" "SIOOBE_FORMATTER" "Ljava/util/function/BiFunction;", .methodLink ST 1059 JC.PreCheck.yN, .static JC.PreCheck.yN, .code JC.PreCheck.yN JC.PreCheck.yB 3 (some .int), .initialized "jdk/internal/util/Preconditions"]
theorem tabChN_of {a : Array Value} {s : State} (h : ∀ w ∈ wordsChN, w.before a s = true) : ChN.tab.before a s = true := by
  have hp : JC.PreCheck.tab.before a s = true := unparts (wk h (.code JC.PreCheck.yN JC.PreCheck.yB 3 (some .int))) (wks h (.initialized JC.PreCheck.yN.cls :: JC.PreCheck.site))
  have qk := consq hp h
  have hk : JO.Str_checkIndex.tab.before a s = true := unparts (wk qk (.code JO.Str_checkIndex.yN JO.Str_checkIndex.yB 2 none)) (wks qk (.initialized JO.Str_checkIndex.yN.cls :: JO.Str_checkIndex.site))
  have ql := consq hk h
  have hl : LChA.tab.before a s = true := unparts (wk ql (.code LChA.yN LChA.yB 2 (some .char))) (wks ql (.initialized LChA.yN.cls :: LChA.site))
  have hi : IsL.tab.before a s = true := unparts (wk h (.code IsL.yN IsL.yB 1 (some .boolean))) (wks h (.initialized IsL.yN.cls :: IsL.site))
  have q := consq hi (consq hl h)
  exact unparts (wk q (.code ChN.yN ChN.yB 2 (some .char))) (wks q (.initialized ChN.yN.cls :: ChN.site))
theorem movedChN {Z s : State} {a0 args : Array Value} (hZ : Z.Warmed39 s.vm) (hw : ∀ d ∈ wordsChN, d.before a0 Z = true) : ∀ d ∈ wordsChN, d.before args s = true := fun d hd => by
  have t : ∀ d ∈ wordsChN, (d.onTables && d.keepsFace) = true := by decide +kernel
  exact RoadKit.mv hZ (hw d hd) (t d hd)
/-- **charAt(i) OF A LATIN-1 STRING**, i < n: the char -/
theorem chN {p : Program} {l : Launch} {e : Env} {R : Room} {s : State} {args : Array Value} {below : List Frame} {len W : Nat} {Z : State} {a0 : Array Value} {h : Heap} (hZ : Z.Warmed39 s.vm) (hw : ∀ d ∈ wordsChN, d.before a0 Z = true) {kI : Nat} (wi : (Jvm.Cond.instantiable ST kI).before a0 Z = true)
    {x t : Addr} {kb : ClassId} {cs : List Int32} {N2 z : Int32} {vs : List Value} {fm : Value} {i : Nat} {j : Int32} (E : RoadKit.Exa Z h x ST) (V : RoadKit.Fld Z h x ST "value" "[B" (.ref t)) (C : RoadKit.Fld Z h x ST "coder" "B" (.int 0)) (K : RoadKit.Arv Z h t kb .byte N2 vs (.int 0)) (hc : CodA cs 0 N2 vs) (hb : ∀ c ∈ cs, ¬ c < 0 ∧ ¬ (65535 : Int32) < c)
    (S : RoadKit.Sta Z h ST "COMPACT_STRINGS" "Z" (.int z)) (hz : ¬ z = 0) (F : RoadKit.Sta Z h "jdk/internal/util/Preconditions" "SIOOBE_FORMATTER" "Ljava/util/function/BiFunction;" fm) (rf : fm.isRef = true) (l2 : cs.length ≤ 4000) (hi : i < cs.length) (hj : j = Int32.ofNat i) (hfr : 4 ≤ R.frames) (hlo : W + 53 ≤ R.locals) :
    Back l R p e below s args (⟨"java/lang/String", "charAt", "(I)C"⟩ : MethodName) len W (fun P a => a = #[.ref x, .int j] ∧ P.U.heap = h ∧ P.cells + 0 ≤ R.cells ∧ P.slots + 0 ≤ R.slots)
      (fun P _ v B => ∃ L, (v = some (.int (cs.getD i 0)) ∧ L = [] ∧ B.U.heap = h) ∧ B.locs = P.locs ++ L ∧ B.cells = P.cells + 0 ∧ B.slots = P.slots + 0) := by
  subst hj
  intro m meth c P g ig mk a X hg hsize hdg hW hn hp'
  obtain ⟨rfl, rfl, r1, r2⟩ := hp'
  have al : Z.vm.Alike P.U.vm := hZ.alike.trans X.warmed.alike
  obtain ⟨A, hx⟩ := txt_of wi al E V C K hc hb l2
  obtain ⟨v, B, X', ⟨⟨hv, hh⟩, hl, hk, hs⟩, st⟩ := ChN.pays x t A cs.length (fun j => cs.getD j 0) z fm i (tabChN_of (movedChN hZ hw)) hfr hlo m meth c P g ig mk _ X hg hsize hdg hW hn ⟨r1, r2, rfl, hx, hi, sta_is al S, hz, sta_is al F, rf⟩
  exact ⟨v, B, X', ⟨[], ⟨hv, rfl, hh⟩, hl, hk, hs⟩, st⟩
/-- what backV says of its String, as the contracts of this text ask it: cs's low bytes, coder 0 -/
theorem codOf {cs : List Int32} {n : Nat} (hn : cs.length = n) (hb : ∀ c ∈ cs, ¬ 255 < c) : CodA cs 0 (Int32.ofNat n) ((cs.map lo8).map Value.int) := Or.inl ⟨rfl, by rw [hn], by simp [List.map_map, Function.comp_def], hb⟩
end StrChars.Road
end Jvm.Pilot.@@N@@

namespace Jvm.Pilot.@@N@@
namespace OK
open Jvm Jvm.ClassFile Sem Op Lib Bundle Jvm.Stand Jvm.Free Jvm.LawKit Jvm.RoadKit
/-! own layer: one predicate for "the walk stands here" (Wk), one for the goal (Go), one for contracts (Ct narrow, Cw wide) -/
def Go (p : Program) (e : Env) (below : List Frame) (Fin : State → Outcome → Prop) (U : State) : Prop := ∃ t o, Steps p.tables e below U t ∧ t.status = .running ∧ Ended t below o ∧ Fin t o
theorem Go.by {p : Program} {e : Env} {below : List Frame} {Fin : State → Outcome → Prop} {U U' : State} (st : ∀ t, Steps p.tables e below U' t → Steps p.tables e below U t) (k : Go p e below Fin U') : Go p e below Fin U := by
  obtain ⟨t, o, h1, h2⟩ := k
  exact ⟨t, o, st _ h1, h2⟩
theorem Go.tr {p : Program} {e : Env} {below : List Frame} {Fin : State → Outcome → Prop} {U U' : State} (st : Steps p.tables e below U U') (k : Go p e below Fin U') : Go p e below Fin U := by
  obtain ⟨t, o, h1, h2⟩ := k
  exact ⟨t, o, st.trans h1, h2⟩
def Cst (p : Program) (meth : Method) (c : Code) (y : MethodName) (bytes : ByteArray) (maxL : Nat) (ret : Option FieldType) : Prop := p.tables.exec = Jvm.exec ∧ c.code = bytes ∧ c.maxLocals = maxL ∧ meth.name = y.name ∧ meth.sig.returnType = ret ∧ meth.locks = false
def Sfs (Z : State) (EL : List (String × Nat)) (n0 : Nat) (vm : Vm) (h : Heap) (sf : List Addr) : Prop := ∀ x ∈ sf, n0 ≤ x ∧ x < h.size ∧ Safe Z EL vm h x
theorem Sfs.go {Z : State} {EL : List (String × Nat)} {n0 : Nat} {vm vm1 : Vm} {h h' : Heap} {sf : List Addr} (S : Sfs Z EL n0 vm h sf) (D : CHr Z EL vm h vm1 h') : Sfs Z EL n0 vm1 h' sf := fun x hx =>
  ⟨(S x hx).1, Nat.lt_of_lt_of_le (S x hx).2.1 D.2.1, D.safe (S x hx).2.1 (S x hx).2.2⟩
def Ende (b : Bool) (s : State) (o : Outcome) (t : State) (L : List Loc) (k n : Nat) : Prop := match b with | true => ReturnedEndW s o t L k n | false => FrameEnd s o t L k n
def Wk (b : Bool) (p : Program) (l : Launch) (e : Env) (R : Room) (s : State) (m : MethodId) (args : Array Value) (below : List Frame) (meth : Method) (c : Code) (Z : State) (EL : List (String × Nat)) (y : MethodName) (bytes : ByteArray) (maxL : Nat) (ret : Option FieldType) (n0 : Nat) (h0 : Heap) (T : State) (h : Heap) (sf : List Addr) (cells slots : Nat) : Prop :=
  ∃ (vm0 : Vm) (k0 : Nat) (locs : List Loc) (a0 : Array Value), Stand p l e R (s.setVm vm0) m args below meth c T locs cells slots ∧ T.heap = h ∧ (b = false → vm0 = s.vm) ∧ s.Since vm0 k0 ∧ k0 ≤ h.size ∧ Z.Warmed39 vm0 ∧ vm0.findClass y.cls = some m.cls ∧ Fr n0 locs ∧ CHr Z EL s.vm h0 vm0 h ∧ Sfs Z EL n0 vm0 h sf ∧ EW Z a0 EL ∧ Old Z n0 h ∧ Cst p meth c y bytes maxL ret
def Fi (b : Bool) (R : Room) (s : State) (Z : State) (EL : List (String × Nat)) (n0 : Nat) (h0 : Heap) (ws : List Addr) (Q : Option Value → Heap → Prop) (t : State) (o : Outcome) : Prop :=
  ∃ v L, o = .returned v ∧ Keep h0 t.heap ws ∧ Q v t.heap ∧ Fr n0 L ∧ CHr Z EL s.vm h0 t.vm t.heap ∧ Ende b s o t L R.cells R.slots
section Walk
variable {b : Bool} {p : Program} {l : Launch} {e : Env} {R : Room} {s : State} {m : MethodId} {args : Array Value} {below : List Frame} {meth : Method} {c : Code} {Z : State} {EL : List (String × Nat)} {y : MethodName} {bytes : ByteArray} {maxL : Nat} {ret : Option FieldType} {n0 : Nat} {h0 : Heap} {T : State} {h h' : Heap} {sf ws : List Addr} {cells slots : Nat} {a0 : Array Value} {Q : Option Value → Heap → Prop}
theorem Wk.here (X : Wk b p l e R s m args below meth c Z EL y bytes maxL ret n0 h0 T h sf cells slots) : At T m c below := by obtain ⟨_, _, _, _, X, -⟩ := X; exact X.here
theorem Wk.cst (X : Wk b p l e R s m args below meth c Z EL y bytes maxL ret n0 h0 T h sf cells slots) : Cst p meth c y bytes maxL ret := by obtain ⟨_, _, _, _, _, _, _, _, _, _, _, _, _, _, _, _, C⟩ := X; exact C
theorem Wk.hx (X : Wk b p l e R s m args below meth c Z EL y bytes maxL ret n0 h0 T h sf cells slots) : p.tables.exec = Jvm.exec := X.cst.1
theorem Wk.cd (X : Wk b p l e R s m args below meth c Z EL y bytes maxL ret n0 h0 T h sf cells slots) {pc : Nat} {r : Except DecodeError (Instr × Nat)} (d : decode bytes pc = r) : decode c.code pc = r := by rw [X.cst.2.1]; exact d
theorem Wk.eh (X : Wk b p l e R s m args below meth c Z EL y bytes maxL ret n0 h0 T h sf cells slots) : T.heap = h := by obtain ⟨_, _, _, _, _, q, -⟩ := X; exact q
theorem Wk.old (X : Wk b p l e R s m args below meth c Z EL y bytes maxL ret n0 h0 T h sf cells slots) : Old Z n0 h := by obtain ⟨_, _, _, _, _, _, _, _, _, _, _, _, _, _, _, O, -⟩ := X; exact O
theorem Wk.nle (X : Wk b p l e R s m args below meth c Z EL y bytes maxL ret n0 h0 T h sf cells slots) : n0 ≤ h.size := by have := X.old; rw [← this.1]; exact this.2.1
theorem Wk.sz (X : Wk b p l e R s m args below meth c Z EL y bytes maxL ret n0 h0 T h sf cells slots) : h0.size ≤ h.size := by obtain ⟨_, _, _, _, _, _, _, _, _, _, _, _, A, -⟩ := X; exact A.2.1
theorem Wk.ge (X : Wk b p l e R s m args below meth c Z EL y bytes maxL ret n0 h0 T h sf cells slots) {x : Addr} (hx : x ∈ sf) : n0 ≤ x := by obtain ⟨_, _, _, _, _, _, _, _, _, _, _, _, _, S, -⟩ := X; exact (S x hx).1
theorem Wk.lt (X : Wk b p l e R s m args below meth c Z EL y bytes maxL ret n0 h0 T h sf cells slots) {x : Addr} (hx : x ∈ sf) : x < h.size := by obtain ⟨_, _, _, _, _, _, _, _, _, _, _, _, _, S, -⟩ := X; exact (S x hx).2.1
theorem Wk.sub (X : Wk b p l e R s m args below meth c Z EL y bytes maxL ret n0 h0 T h sf cells slots) {sf' : List Addr} (q : ∀ x ∈ sf', x ∈ sf) : Wk b p l e R s m args below meth c Z EL y bytes maxL ret n0 h0 T h sf' cells slots := by
  obtain ⟨vm0, k0, locs, a0, x1, x2, x3, x4, x5, x6, x7, x8, x9, x10, x11⟩ := X
  exact ⟨vm0, k0, locs, a0, x1, x2, x3, x4, x5, x6, x7, x8, x9, fun z hz => x10 z (q z hz), x11⟩
/-- the core: from the parts at (vm0, h) to the parts at (vm1, h') -/
theorem Wk.up {vm0 vm1 : Vm} {k1 cells' slots' : Nat} {locs' : List Loc} {T' : State} (X' : Stand p l e R (s.setVm vm1) m args below meth c T' locs' cells' slots') (e' : T'.heap = h') (hb : b = false → vm1 = s.vm) (hS : s.Since vm1 k1) (hk : k1 ≤ h'.size) (hZ : Z.Warmed39 vm1) (ho : vm1.findClass y.cls = some m.cls) (N : Fr n0 locs')
    (A : CHr Z EL s.vm h0 vm0 h) (D : CHr Z EL vm0 h vm1 h') (S : Sfs Z EL n0 vm0 h sf) (hE : EW Z a0 EL) (O : Old Z n0 h') (C : Cst p meth c y bytes maxL ret) : Wk b p l e R s m args below meth c Z EL y bytes maxL ret n0 h0 T' h' sf cells' slots' :=
  ⟨vm1, k1, locs', a0, X', e', hb, hS, hk, hZ, ho, N, A.trans D, S.go D, hE, O, C⟩
theorem Sfs.new {vm0 : Vm} {a : Addr} (S : Sfs Z EL n0 vm0 h sf) (H : CHv Z EL vm0 h) (E : Ext h h') (hn : n0 ≤ h.size) (ha : a = h.size) (hl : a < h'.size) : Sfs Z EL n0 vm0 h' (a :: sf) := fun z hz => by
  subst ha
  rcases List.mem_cons.mp hz with rfl | hz
  · exact ⟨hn, hl, Safe.ext E H (Safe.new (Nat.le_refl _))⟩
  · exact (S.go (CHr.ext E H)) z hz
/-! ### the end -/
theorem Wk.fin (X : Wk b p l e R s m args below meth c Z EL y bytes maxL ret n0 h0 T h sf cells slots) {v : Option Value} (hv : ret = none → v = none) (K : Keep h0 h ws) (q : Q v h) (hc : cells ≤ R.cells) (hs : slots ≤ R.slots) {U : State}
    (st : ∀ fs, (∀ (f : JFrame) (acts : List Action), f.method = m → f.locked = none → f.entered = [] → (doReturn e (T.setTop f) acts v).1 = T.setFrames fs) → Steps p.tables e below U (T.setFrames fs)) : Go p e below (Fi b R s Z EL n0 h0 ws Q) U := by
  obtain ⟨vm0, k0, locs, a0, x1, rfl, x3, x4, x5, x6, x7, x8, x9, x10, x11, x12, C⟩ := X
  obtain ⟨c1, c2, c3, c4, c5, c6⟩ := C
  have A := x9.trans (CHv.at x1 x6 x11 x9.1)
  cases b with
  | true =>
    obtain ⟨fs, r1, r2, r3, r4⟩ := x1.leaveW x4 x5 (v := v) (fun q => hv (c5.symm.trans q)) c6
    exact ⟨_, _, st fs r1, r2, r3, v, locs, rfl, K, q, x8, A, r4.1, r4.2.1, r4.2.2.1, r4.2.2.2.mono hc hs⟩
  | false =>
    obtain rfl := x3 rfl
    obtain ⟨fs, r1, r2, r3, r4, r5⟩ := x1.leave (v := v) (fun q => hv (c5.symm.trans q)) c6
    exact ⟨_, _, st fs r1, r2, r3, v, locs, rfl, K, q, x8, A, ⟨_, rfl⟩, r4, r5.mono hc hs⟩
theorem Wk.retV (X : Wk b p l e R s m args below meth c Z EL y bytes maxL none n0 h0 T h sf cells slots) {pc : Nat} {Ls : Array Slot} (d : decode bytes pc = .ok (.return_, 1)) (K : Keep h0 h ws) (q : Q none h) (hc : cells ≤ R.cells) (hs : slots ≤ R.slots) :
    Go p e below (Fi b R s Z EL n0 h0 ws Q) (T.setTop (mkF m pc Ls [])) := by
  refine X.fin (v := none) (fun _ => rfl) K q hc hs fun fs hr => ?_
  have d := X.cd d
  obtain ⟨vm0, k0, locs, a0, x1, rfl, x3, x4, x5, x6, x7, x8, x9, x10, x11, x12, c1, c2, c3, c4, c5, c6⟩ := X
  exact x1.returnOut c1 c5 d hr
theorem Wk.retO (X : Wk b p l e R s m args below meth c Z EL y bytes maxL ret n0 h0 T h sf cells slots) {pc : Nat} {Ls : Array Slot} {w : Value} {t : FieldType} {i : Instr} {rest : List Value} (ht : ret = some t) (hn : narrow t w = w)
    (hi : (i = .ireturn ∧ (t = .int ∨ t = .boolean ∨ t = .byte ∨ t = .char ∨ t = .short) ∧ ∃ z, w = .int z) ∨ (i = .lreturn ∧ t = .long ∧ ∃ z, w = .long z) ∨ (i = .dreturn ∧ t = .double ∧ ∃ z, w = .double z) ∨ (i = .freturn ∧ t = .float ∧ ∃ z, w = .float z) ∨ (i = .areturn ∧ t.isReference = true ∧ w.isRef = true))
    (d : decode bytes pc = .ok (i, 1)) (K : Keep h0 h ws) (q : Q (some w) h) (hc : cells ≤ R.cells) (hs : slots ≤ R.slots) :
    Go p e below (Fi b R s Z EL n0 h0 ws Q) (T.setTop (mkF m pc Ls (w :: rest))) := by
  refine X.fin (v := some w) (fun z => by rw [ht] at z; cases z) K q hc hs fun fs hr => ?_
  have d := X.cd d
  obtain ⟨vm0, k0, locs, a0, x1, rfl, x3, x4, x5, x6, x7, x8, x9, x10, x11, x12, c1, c2, c3, c4, c5, c6⟩ := X
  exact retOut x1 c1 (c5.trans ht) hn hi d hr
theorem Wk.retI (X : Wk b p l e R s m args below meth c Z EL y bytes maxL (some .int) n0 h0 T h sf cells slots) {pc : Nat} {Ls : Array Slot} {z : Int32} {rest : List Value} (d : decode bytes pc = .ok (.ireturn, 1)) (K : Keep h0 h ws) (q : Q (some (.int z)) h) (hc : cells ≤ R.cells) (hs : slots ≤ R.slots) :
    Go p e below (Fi b R s Z EL n0 h0 ws Q) (T.setTop (mkF m pc Ls (.int z :: rest))) := X.retO rfl rfl (Or.inl ⟨rfl, Or.inl rfl, z, rfl⟩) d K q hc hs
theorem Wk.retJ (X : Wk b p l e R s m args below meth c Z EL y bytes maxL (some .long) n0 h0 T h sf cells slots) {pc : Nat} {Ls : Array Slot} {z : Int64} {rest : List Value} (d : decode bytes pc = .ok (.lreturn, 1)) (K : Keep h0 h ws) (q : Q (some (.long z)) h) (hc : cells ≤ R.cells) (hs : slots ≤ R.slots) :
    Go p e below (Fi b R s Z EL n0 h0 ws Q) (T.setTop (mkF m pc Ls (.long z :: rest))) := X.retO rfl rfl (Or.inr (Or.inl ⟨rfl, rfl, z, rfl⟩)) d K q hc hs
/-- boolean, byte, char, short: the value fits already -/
theorem Wk.retN {t : FieldType} (X : Wk b p l e R s m args below meth c Z EL y bytes maxL (some t) n0 h0 T h sf cells slots) {pc : Nat} {Ls : Array Slot} {z : Int32} {rest : List Value} (ht : t = .boolean ∨ t = .byte ∨ t = .char ∨ t = .short) (hz : nar t z = z) (d : decode bytes pc = .ok (.ireturn, 1)) (K : Keep h0 h ws) (q : Q (some (.int z)) h) (hc : cells ≤ R.cells) (hs : slots ≤ R.slots) :
    Go p e below (Fi b R s Z EL n0 h0 ws Q) (T.setTop (mkF m pc Ls (.int z :: rest))) := by
  have hn : narrow t (.int z) = .int z := by
    have : narrow t (.int z) = .int (nar t z) := by rcases ht with rfl | rfl | rfl | rfl <;> rfl
    rw [this, hz]
  exact X.retO rfl hn (Or.inl ⟨rfl, Or.inr ht, z, rfl⟩) d K q hc hs
theorem Wk.retR {t : FieldType} (X : Wk b p l e R s m args below meth c Z EL y bytes maxL (some t) n0 h0 T h sf cells slots) {pc : Nat} {Ls : Array Slot} {w : Value} {rest : List Value} (ht : t.isReference = true) (hw : w.isRef = true) (d : decode bytes pc = .ok (.areturn, 1)) (K : Keep h0 h ws) (q : Q (some w) h) (hc : cells ≤ R.cells) (hs : slots ≤ R.slots) :
    Go p e below (Fi b R s Z EL n0 h0 ws Q) (T.setTop (mkF m pc Ls (w :: rest))) := by
  have hn : narrow t w = w := by cases w <;> simp [Value.isRef] at hw <;> cases t <;> rfl
  exact X.retO rfl hn (Or.inr (Or.inr (Or.inr (Or.inr ⟨rfl, ht, hw⟩)))) d K q hc hs
/-! ### steps on the heap -/
theorem Wk.new (X : Wk b p l e R s m args below meth c Z EL y bytes maxL ret n0 h0 T h sf cells slots) {a1 : Array Value} {C : String} {index n : Nat} (w : (Cond.classLink y.cls index C).before a1 Z = true) (wi : (Cond.instantiable C n).before a1 Z = true) (wz : (Cond.initialized C).before a1 Z = true) {g : JFrame} (hg : g.method = m) (hd : decode bytes g.pc = .ok (.new index, 3)) (hc : cells + 1 ≤ R.cells) (hl : slots + n ≤ R.slots) :
    ∃ (T' : State) (h' : Heap) (a : Addr), a = h.size ∧ Wk b p l e R s m args below meth c Z EL y bytes maxL ret n0 h0 T' h' (a :: sf) (cells + 1) (slots + n) ∧ Ext h h' ∧ Exa Z h' a C ∧ (∀ {O nm d : String} {ty : FieldType}, Laid Z a1 C O nm d → parseFieldDescriptor d = some ty → Fld Z h' a O nm d (defaultValue ty)) ∧
      ∀ t, Steps p.tables e below (T'.setTop { g with pc := g.pc + 3, stack := .ref a :: g.stack }) t → Steps p.tables e below (T.setTop g) t := by
  have hd := X.cd hd
  have hn := X.nle
  obtain ⟨vm0, k0, locs, a0, x1, rfl, x3, x4, x5, x6, x7, x8, x9, x10, x11, x12, C⟩ := X
  obtain ⟨T', h', X', e', E, F, D, -, st⟩ := newO x1 C.1 (s := s.setVm vm0) x6 x7 w wi wz rfl hg hd hc hl
  exact ⟨T', h', _, rfl, ⟨vm0, k0, locs, a0, X', e', x3, x4, Nat.le_trans x5 E.1, x6, x7, x8, x9.trans (CHr.ext E x9.1), x10.new x9.1 E hn rfl F.lt, x11, x12.ext E, C⟩, E, F, D, st⟩
theorem rep_get (d : Value) (n i : Nat) : (List.replicate n d).getD i d = ([] : List Value).getD i d := by
  simp only [List.getD_eq_getElem?_getD, List.getElem?_nil, Option.getD_none]
  rw [List.getElem?_replicate]
  split <;> rfl
theorem Wk.newP (X : Wk b p l e R s m args below meth c Z EL y bytes maxL ret n0 h0 T h sf cells slots) {a1 : Array Value} {aty : ArrayType} (w : (Cond.arrayClass (newarray.typeOf aty)).before a1 Z = true) {g : JFrame} (hg : g.method = m) (hd : decode bytes g.pc = .ok (.newarray aty, 2)) {n : Int32} {rest : List Value} (hs : g.stack = .int n :: rest)
    (hn : ¬ n < 0) {cap : Nat} (hcap : n.toNatClampNeg ≤ cap) (hb : cap * 8 ≤ 536870912) (hc : cells + 1 ≤ R.cells) (hl : slots + cap ≤ R.slots) {vs : List Value} (hv : List.replicate n.toNatClampNeg (defaultValue (newarray.typeOf aty)) = vs) :
    ∃ (T' : State) (h' : Heap) (a : Addr) (k : ClassId), a = h.size ∧ Wk b p l e R s m args below meth c Z EL y bytes maxL ret n0 h0 T' h' (a :: sf) (cells + 1) (slots + cap) ∧ Ext h h' ∧ Arv Z h' a k (newarray.typeOf aty) n vs (defaultValue (newarray.typeOf aty)) ∧
      ∀ t, Steps p.tables e below (T'.setTop { g with pc := g.pc + 2, stack := .ref a :: rest }) t → Steps p.tables e below (T.setTop g) t := by
  have hd := X.cd hd
  have hnl := X.nle
  obtain ⟨vm0, k0, locs, a0, x1, rfl, x3, x4, x5, x6, x7, x8, x9, x10, x11, x12, C⟩ := X
  obtain ⟨T', h', k, X', e', E, F, st⟩ := RoadKit.newP x1 C.1 (s := s.setVm vm0) x6 w rfl hg hd hs hn hcap hb hc hl
  have G := (Arv.new F hn).pad (vs' := vs) (fun i => by rw [← hv]; exact rep_get _ _ _)
  exact ⟨T', h', _, k, rfl, ⟨vm0, k0, locs, a0, X', e', x3, x4, Nat.le_trans x5 E.1, x6, x7, x8, x9.trans (CHr.ext E x9.1), x10.new x9.1 E hnl rfl F.lt, x11, x12.ext E, C⟩, E, G, st⟩
theorem Wk.newR (X : Wk b p l e R s m args below meth c Z EL y bytes maxL ret n0 h0 T h sf cells slots) {a1 : Array Value} {C : String} {index : Nat} (w : (Cond.classLink y.cls index C).before a1 Z = true) (w2 : (Cond.arrayOver (.object C)).before a1 Z = true) {g : JFrame} (hg : g.method = m) (hd : decode bytes g.pc = .ok (.anewarray index, 3)) {n : Int32} {rest : List Value} (hs : g.stack = .int n :: rest)
    (hn : ¬ n < 0) {cap : Nat} (hcap : n.toNatClampNeg ≤ cap) (hb : cap * 8 ≤ 536870912) (hc : cells + 1 ≤ R.cells) (hl : slots + cap ≤ R.slots) {vs : List Value} (hv : List.replicate n.toNatClampNeg Value.null = vs) {ad : String} (had : "[" ++ (FieldType.object C).toString = ad) :
    ∃ (T' : State) (h' : Heap) (a : Addr) (k : ClassId), a = h.size ∧ Wk b p l e R s m args below meth c Z EL y bytes maxL ret n0 h0 T' h' (a :: sf) (cells + 1) (slots + cap) ∧ Ext h h' ∧ Arv Z h' a k (.object C) n vs .null ∧ Exa Z h' a ad ∧ Ovr Z k C ∧
      ∀ t, Steps p.tables e below (T'.setTop { g with pc := g.pc + 3, stack := .ref a :: rest }) t → Steps p.tables e below (T.setTop g) t := by
  have hd := X.cd hd
  have hnl := X.nle
  obtain ⟨vm0, k0, locs, a0, x1, rfl, x3, x4, x5, x6, x7, x8, x9, x10, x11, x12, CC⟩ := X
  obtain ⟨T', h', k, X', e', E, F, F2, O, st⟩ := newRE x1 CC.1 (s := s.setVm vm0) x6 x7 w w2 rfl hg hd hs hn hcap hb hc hl had
  have G := (Arv.new F hn).pad (vs' := vs) (fun i => by rw [← hv]; exact rep_get _ _ _)
  exact ⟨T', h', _, k, rfl, ⟨vm0, k0, locs, a0, X', e', x3, x4, Nat.le_trans x5 E.1, x6, x7, x8, x9.trans (CHr.ext E x9.1), x10.new x9.1 E hnl rfl F.lt, x11, x12.ext E, CC⟩, E, G, F2, O, st⟩
theorem Wk.getF (X : Wk b p l e R s m args below meth c Z EL y bytes maxL ret n0 h0 T h sf cells slots) {a1 : Array Value} {R0 O n d host : String} {index : Nat} (w : (Cond.fieldLink y.cls index R0 n d).before a1 Z = true ∨ (Cond.fieldLinkNest y.cls index R0 n d host).before a1 Z = true) (via : Via Z R0 O n d) {a : Addr} {v : Value} (F : Fld Z h a O n d v)
    {g : JFrame} (hg : g.method = m) {rest : List Value} (hs : g.stack = .ref a :: rest) (hd : decode bytes g.pc = .ok (.getfield index, 3)) :
    ∃ T' : State, Wk b p l e R s m args below meth c Z EL y bytes maxL ret n0 h0 T' h sf cells slots ∧ ∀ t, Steps p.tables e below (T'.setTop { g with pc := g.pc + 3, stack := v :: rest }) t → Steps p.tables e below (T.setTop g) t := by
  have hd := X.cd hd
  obtain ⟨vm0, k0, locs, a0, x1, rfl, x3, x4, x5, x6, x7, x8, x9, x10, x11, x12, C⟩ := X
  obtain ⟨T', X', e', st⟩ := RoadKit.getF x1 C.1 (s := s.setVm vm0) x6 x7 w via rfl F hg hs hd
  exact ⟨T', ⟨vm0, k0, locs, a0, X', e', x3, x4, x5, x6, x7, x8, x9, x10, x11, x12, C⟩, st⟩
theorem Wk.getS (X : Wk b p l e R s m args below meth c Z EL y bytes maxL ret n0 h0 T h sf cells slots) {a1 : Array Value} {R0 O n d : String} {index : Nat} (w : (Cond.fieldLink y.cls index R0 n d).before a1 Z = true) (via : Via Z R0 O n d) {v : Value} (F : Sta Z Z.heap O n d v)
    {g : JFrame} (hg : g.method = m) (hd : decode bytes g.pc = .ok (.getstatic index, 3)) :
    ∃ T' : State, Wk b p l e R s m args below meth c Z EL y bytes maxL ret n0 h0 T' h sf cells slots ∧ ∀ t, Steps p.tables e below (T'.setTop { g with pc := g.pc + 3, stack := v :: g.stack }) t → Steps p.tables e below (T.setTop g) t := by
  have hd := X.cd hd
  obtain ⟨vm0, k0, locs, a0, x1, rfl, x3, x4, x5, x6, x7, x8, x9, x10, x11, x12, C⟩ := X
  obtain ⟨T', X', e', st⟩ := RoadKit.getS x1 C.1 (s := s.setVm vm0) (host := "") x6 x7 w via rfl (F.ext x12.2) hg hd
  exact ⟨T', ⟨vm0, k0, locs, a0, X', e', x3, x4, x5, x6, x7, x8, x9, x10, x11, x12, C⟩, st⟩
theorem Wk.wr {vm0 : Vm} {k0 : Nat} {locs : List Loc} {T' : State} {a : Addr} {sl sl' : Nat} {v : Value} (x1' : Stand p l e R (s.setVm vm0) m args below meth c T' (locs ++ [⟨a, sl'⟩]) cells slots) (e' : T'.heap = h') (W : Wr h h' a sl v) (x3 : b = false → vm0 = s.vm) (x4 : s.Since vm0 k0) (x5 : k0 ≤ h.size) (x6 : Z.Warmed39 vm0) (x7 : vm0.findClass y.cls = some m.cls) (x8 : Fr n0 locs) (x9 : CHr Z EL s.vm h0 vm0 h) (x10 : Sfs Z EL n0 vm0 h sf) (x11 : EW Z a0 EL) (x12 : Old Z n0 h) (C : Cst p meth c y bytes maxL ret) (hm : a ∈ sf) :
    Wk b p l e R s m args below meth c Z EL y bytes maxL ret n0 h0 T' h' sf cells slots := by
  have D : CHr Z EL vm0 h vm0 h' := CHr.wr W (x10 a hm).2.2 x9.1
  exact ⟨vm0, k0, _, a0, x1', e', x3, x4, by rw [W.size]; exact x5, x6, x7, x8.snoc x1' (x10 a hm).1, x9.trans D, x10.go D, x11, x12.wr W (x10 a hm).1, C⟩
theorem Wk.putF (X : Wk b p l e R s m args below meth c Z EL y bytes maxL ret n0 h0 T h sf cells slots) {a1 : Array Value} {R0 O n d host C : String} {index kk : Nat} {ty : FieldType} (w : (Cond.fieldLink y.cls index R0 n d).before a1 Z = true ∨ (Cond.fieldLinkNest y.cls index R0 n d host).before a1 Z = true) (via : Via Z R0 O n d) {a : Addr} {v old : Value} (F : Fld Z h a O n d old) (E : Exa Z h a C)
    (L : (Cond.lays C O n d).before a1 Z = true ∨ ((Cond.laysFinal C O n d).before a1 Z = true ∧ y.cls = O ∧ y.name = "<init>")) (wi : (Cond.instantiable C kk).before a1 Z = true) (hm : a ∈ sf)
    (hty : parseFieldDescriptor d = some ty) (hn : narrow ty v = v) (hf : fits ty v = true) {g : JFrame} (hg : g.method = m) {rest : List Value} (hs : g.stack = v :: .ref a :: rest) (hd : decode bytes g.pc = .ok (.putfield index, 3)) :
    ∃ (T' : State) (h' : Heap), Wk b p l e R s m args below meth c Z EL y bytes maxL ret n0 h0 T' h' sf cells slots ∧ Wr h h' a (RoadKit.slotOf Z O n d) v ∧ ∀ t, Steps p.tables e below (T'.setTop { g with pc := g.pc + 3, stack := rest }) t → Steps p.tables e below (T.setTop g) t := by
  have hd := X.cd hd
  obtain ⟨vm0, k0, locs, a0, x1, rfl, x3, x4, x5, x6, x7, x8, x9, x10, x11, x12, CC⟩ := X
  obtain ⟨T', h', X', e', W, st⟩ := RoadKit.putF x1 CC.1 (s := s.setVm vm0) x6 x7 w via rfl F E (L.imp id fun q => ⟨q.1, q.2.1, CC.2.2.2.1.trans q.2.2⟩) wi hty hn hf hg hs hd
  exact ⟨T', h', Wk.wr X' e' W x3 x4 x5 x6 x7 x8 x9 x10 x11 x12 CC hm, W, st⟩
theorem Wk.putFN (X : Wk b p l e R s m args below meth c Z EL y bytes maxL ret n0 h0 T h sf cells slots) {a1 : Array Value} {R0 O n d C : String} {index kk : Nat} {ty : FieldType} (w : (Cond.fieldLink y.cls index R0 n d).before a1 Z = true) (via : Via Z R0 O n d) {a : Addr} {v v' old : Value} (F : Fld Z h a O n d old) (E : Exa Z h a C)
    (L : (Cond.lays C O n d).before a1 Z = true ∨ ((Cond.laysFinal C O n d).before a1 Z = true ∧ y.cls = O ∧ y.name = "<init>")) (wi : (Cond.instantiable C kk).before a1 Z = true) (hm : a ∈ sf)
    (hty : parseFieldDescriptor d = some ty) (hn : narrow ty v = v') (hf : fits ty v' = true) {g : JFrame} (hg : g.method = m) {rest : List Value} (hs : g.stack = v :: .ref a :: rest) (hd : decode bytes g.pc = .ok (.putfield index, 3)) :
    ∃ (T' : State) (h' : Heap), Wk b p l e R s m args below meth c Z EL y bytes maxL ret n0 h0 T' h' sf cells slots ∧ Wr h h' a (RoadKit.slotOf Z O n d) v' ∧ ∀ t, Steps p.tables e below (T'.setTop { g with pc := g.pc + 3, stack := rest }) t → Steps p.tables e below (T.setTop g) t := by
  have hd := X.cd hd
  obtain ⟨vm0, k0, locs, a0, x1, rfl, x3, x4, x5, x6, x7, x8, x9, x10, x11, x12, CC⟩ := X
  obtain ⟨T', h', X', e', W, st⟩ := RoadKit.putFN x1 CC.1 (s := s.setVm vm0) x6 x7 w via rfl F E (L.imp id fun q => ⟨q.1, q.2.1, CC.2.2.2.1.trans q.2.2⟩) wi hty hn hf hg hs hd
  exact ⟨T', h', Wk.wr X' e' W x3 x4 x5 x6 x7 x8 x9 x10 x11 x12 CC hm, W, st⟩
theorem Wk.stC (X : Wk b p l e R s m args below meth c Z EL y bytes maxL ret n0 h0 T h sf cells slots) {a : Addr} {k : ClassId} {n : Int32} {vs vs' : List Value} {dv : Value} (F : Arv Z h a k .char n vs dv) (hm : a ∈ sf) {j x x' : Int32} (hj : ¬ j < 0 ∧ j < n) {i : Nat} (hi : j.toNatClampNeg = i) (hl : i < vs.length) (hx : nar .char x = x') (hv : vs.set i (.int x') = vs')
    {g : JFrame} (hg : g.method = m) {rest : List Value} (hs : g.stack = .int x :: .int j :: .ref a :: rest) (hd : decode bytes g.pc = .ok (.castore, 1)) :
    ∃ (T' : State) (h' : Heap), Wk b p l e R s m args below meth c Z EL y bytes maxL ret n0 h0 T' h' sf cells slots ∧ Keep h h' [a] ∧ Arv Z h' a k .char n vs' dv ∧ ∀ t, Steps p.tables e below (T'.setTop { g with pc := g.pc + 1, stack := rest }) t → Steps p.tables e below (T.setTop g) t := by
  have hd := X.cd hd
  obtain ⟨vm0, k0, locs, a0, x1, rfl, x3, x4, x5, x6, x7, x8, x9, x10, x11, x12, CC⟩ := X
  obtain ⟨cl, A, q1, q2, q3, q4, q5⟩ := F
  obtain ⟨T', h', X', e', W, st⟩ := RoadKit.stC x1 CC.1 (s := s.setVm vm0) x6 rfl A (inb_of q2 hj) hg hs hd
  subst hx hv
  exact ⟨T', h', Wk.wr X' e' W x3 x4 x5 x6 x7 x8 x9 x10 x11 x12 CC hm, Keep.of_wr W, Arv.set A q1 q2 q3 q4 q5 (fits_nar_char x) W i hi hl, st⟩
theorem Wk.stB (X : Wk b p l e R s m args below meth c Z EL y bytes maxL ret n0 h0 T h sf cells slots) {a : Addr} {k : ClassId} {n : Int32} {vs vs' : List Value} {dv : Value} (F : Arv Z h a k .byte n vs dv) (hm : a ∈ sf) {j x x' : Int32} (hj : ¬ j < 0 ∧ j < n) {i : Nat} (hi : j.toNatClampNeg = i) (hl : i < vs.length) (hx : x.toInt8.toInt32 = x') (hv : vs.set i (.int x') = vs')
    {g : JFrame} (hg : g.method = m) {rest : List Value} (hs : g.stack = .int x :: .int j :: .ref a :: rest) (hd : decode bytes g.pc = .ok (.bastore, 1)) :
    ∃ (T' : State) (h' : Heap), Wk b p l e R s m args below meth c Z EL y bytes maxL ret n0 h0 T' h' sf cells slots ∧ Keep h h' [a] ∧ Arv Z h' a k .byte n vs' dv ∧ ∀ t, Steps p.tables e below (T'.setTop { g with pc := g.pc + 1, stack := rest }) t → Steps p.tables e below (T.setTop g) t := by
  have hd := X.cd hd
  obtain ⟨vm0, k0, locs, a0, x1, rfl, x3, x4, x5, x6, x7, x8, x9, x10, x11, x12, CC⟩ := X
  obtain ⟨cl, A, q1, q2, q3, q4, q5⟩ := F
  obtain ⟨T', h', X', e', W, st⟩ := RoadKit.stB x1 CC.1 (s := s.setVm vm0) x6 rfl A (inb_of q2 hj) hg hs hd
  subst hx hv
  exact ⟨T', h', Wk.wr X' e' W x3 x4 x5 x6 x7 x8 x9 x10 x11 x12 CC hm, Keep.of_wr W, Arv.set A q1 q2 q3 q4 q5 (fits_nar_byte x) W i hi hl, st⟩
theorem Wk.stI (X : Wk b p l e R s m args below meth c Z EL y bytes maxL ret n0 h0 T h sf cells slots) {a : Addr} {k : ClassId} {n : Int32} {vs vs' : List Value} {dv : Value} (F : Arv Z h a k .int n vs dv) (hm : a ∈ sf) {j x : Int32} (hj : ¬ j < 0 ∧ j < n) {i : Nat} (hi : j.toNatClampNeg = i) (hl : i < vs.length) (hv : vs.set i (.int x) = vs')
    {g : JFrame} (hg : g.method = m) {rest : List Value} (hs : g.stack = .int x :: .int j :: .ref a :: rest) (hd : decode bytes g.pc = .ok (.iastore, 1)) :
    ∃ (T' : State) (h' : Heap), Wk b p l e R s m args below meth c Z EL y bytes maxL ret n0 h0 T' h' sf cells slots ∧ Keep h h' [a] ∧ Arv Z h' a k .int n vs' dv ∧ ∀ t, Steps p.tables e below (T'.setTop { g with pc := g.pc + 1, stack := rest }) t → Steps p.tables e below (T.setTop g) t := by
  have hd := X.cd hd
  obtain ⟨vm0, k0, locs, a0, x1, rfl, x3, x4, x5, x6, x7, x8, x9, x10, x11, x12, CC⟩ := X
  obtain ⟨cl, A, q1, q2, q3, q4, q5⟩ := F
  obtain ⟨T', h', X', e', W, st⟩ := RoadKit.stI x1 CC.1 (s := s.setVm vm0) x6 rfl A (inb_of q2 hj) hg hs hd
  subst hv
  exact ⟨T', h', Wk.wr X' e' W x3 x4 x5 x6 x7 x8 x9 x10 x11 x12 CC hm, Keep.of_wr W, Arv.set A q1 q2 q3 q4 q5 rfl W i hi hl, st⟩
theorem Wk.stR (X : Wk b p l e R s m args below meth c Z EL y bytes maxL ret n0 h0 T h sf cells slots) {a : Addr} {k : ClassId} {n : Int32} {vs vs' : List Value} {dv : Value} {ty : FieldType} (F : Arv Z h a k ty n vs dv) (hm : a ∈ sf) {C : String} (O : Ovr Z k C) {r : Addr} (I : Ins Z h r C true) (hty : ty.isReference = true) (hfit : fits ty (.ref r) = true) {j : Int32} (hj : ¬ j < 0 ∧ j < n) {i : Nat} (hi : j.toNatClampNeg = i) (hl : i < vs.length) (hv : vs.set i (.ref r) = vs')
    {g : JFrame} (hg : g.method = m) {rest : List Value} (hs : g.stack = .ref r :: .int j :: .ref a :: rest) (hd : decode bytes g.pc = .ok (.aastore, 1)) :
    ∃ (T' : State) (h' : Heap), Wk b p l e R s m args below meth c Z EL y bytes maxL ret n0 h0 T' h' sf cells slots ∧ Keep h h' [a] ∧ Arv Z h' a k ty n vs' dv ∧ ∀ t, Steps p.tables e below (T'.setTop { g with pc := g.pc + 1, stack := rest }) t → Steps p.tables e below (T.setTop g) t := by
  have hd := X.cd hd
  obtain ⟨vm0, k0, locs, a0, x1, rfl, x3, x4, x5, x6, x7, x8, x9, x10, x11, x12, CC⟩ := X
  obtain ⟨cl, A, q1, q2, q3, q4, q5⟩ := F
  obtain ⟨T', h', X', e', W, st⟩ := RoadKit.stR x1 CC.1 (s := s.setVm vm0) x6 rfl A (inb_of q2 hj) hty (Sto.ofV A q1 O I) hg hs hd
  subst hv
  exact ⟨T', h', Wk.wr X' e' W x3 x4 x5 x6 x7 x8 x9 x10 x11 x12 CC hm, Keep.of_wr W, Arv.set A q1 q2 q3 q4 q5 hfit W i hi hl, st⟩
theorem Wk.len (X : Wk b p l e R s m args below meth c Z EL y bytes maxL ret n0 h0 T h sf cells slots) {a : Addr} {k : ClassId} {n : Int32} {vs : List Value} {dv : Value} {ty : FieldType} (F : Arv Z h a k ty n vs dv)
    {g : JFrame} (hg : g.method = m) {rest : List Value} (hs : g.stack = .ref a :: rest) (hd : decode bytes g.pc = .ok (.arraylength, 1)) :
    ∀ t, Steps p.tables e below (T.setTop { g with pc := g.pc + 1, stack := .int n :: rest }) t → Steps p.tables e below (T.setTop g) t := by
  have hd := X.cd hd
  obtain ⟨vm0, k0, locs, a0, x1, rfl, x3, x4, x5, x6, x7, x8, x9, x10, x11, x12, CC⟩ := X
  obtain ⟨cl, A, q1, q2, q3, q4, q5⟩ := F
  intro t ht
  refine x1.arraylength CC.1 (cell := cl) A.1 (State.isArrayOf_alike (T := s.setVm vm0) x6.alike A.2.1) (g := g) hg (rest := rest) hs hd _ ?_
  rw [len_of q2 q3]; exact ht
theorem Wk.ldA (X : Wk b p l e R s m args below meth c Z EL y bytes maxL ret n0 h0 T h sf cells slots) {a : Addr} {k : ClassId} {n : Int32} {vs : List Value} {dv : Value} {ty : FieldType} (F : Arv Z h a k ty n vs dv) {j : Int32} (hj : ¬ j < 0 ∧ j < n) {v : Value} (hv : vs.getD j.toNatClampNeg dv = v)
    {i : Instr} (hi : (i = .iaload ∧ ty = .int) ∨ (i = .caload ∧ ty = .char) ∨ (i = .baload ∧ ty = .byte) ∨ (i = .aaload ∧ ty.isReference = true)) {g : JFrame} (hg : g.method = m) {rest : List Value} (hs : g.stack = .int j :: .ref a :: rest) (hd : decode bytes g.pc = .ok (i, 1)) :
    ∀ t, Steps p.tables e below (T.setTop { g with pc := g.pc + 1, stack := v :: rest }) t → Steps p.tables e below (T.setTop g) t := by
  have hd := X.cd hd
  obtain ⟨vm0, k0, locs, a0, x1, rfl, x3, x4, x5, x6, x7, x8, x9, x10, x11, x12, CC⟩ := X
  obtain ⟨cl, A, q1, q2, q3, q4, q5⟩ := F
  intro t ht
  have hin := inb_of q2 hj
  have hA := State.isArrayOf_alike (T := s.setVm vm0) x6.alike A.2.1
  rcases hi with ⟨rfl, rfl⟩ | ⟨rfl, rfl⟩ | ⟨rfl, rfl⟩ | ⟨rfl, hr⟩
  · exact x1.iaload CC.1 (j := j) (v := v) A.1 hA A.2.2 hin (q4.at hin hv) hg hs hd _ ht
  · exact x1.caload CC.1 (j := j) (v := v) A.1 hA A.2.2 hin (q4.at hin hv) hg hs hd _ ht
  · exact x1.baloadBytes CC.1 (j := j) (v := v) A.1 hA A.2.2 hin (q4.at hin hv) hg hs hd _ ht
  · exact x1.aaload CC.1 (j := j) (v := v) A.1 hA hr A.2.2 hin (q4.at hin hv) hg hs hd _ ht
theorem Wk.ldcI (X : Wk b p l e R s m args below meth c Z EL y bytes maxL ret n0 h0 T h sf cells slots) {a1 : Array Value} {index : Nat} {v : Int32} (w : (Cond.constant y.cls index v).before a1 Z = true) {g : JFrame} (hg : g.method = m) (hd : decode bytes g.pc = .ok (.ldc index, 2)) :
    ∀ t, Steps p.tables e below (T.setTop { g with pc := g.pc + 2, stack := .int v :: g.stack }) t → Steps p.tables e below (T.setTop g) t := by
  have hd := X.cd hd
  obtain ⟨vm0, k0, locs, a0, x1, rfl, x3, x4, x5, x6, x7, x8, x9, x10, x11, x12, CC⟩ := X
  exact x1.ldcInt CC.1 x7 (mvT (s := s.setVm vm0) x6 w) hg hd
theorem Wk.ldc2 (X : Wk b p l e R s m args below meth c Z EL y bytes maxL ret n0 h0 T h sf cells slots) {a1 : Array Value} {index : Nat} {v : Int64} (w : (Cond.constantLong y.cls index v).before a1 Z = true) {g : JFrame} (hg : g.method = m) (hd : decode bytes g.pc = .ok (.ldc2_w index, 3)) :
    ∀ t, Steps p.tables e below (T.setTop { g with pc := g.pc + 3, stack := .long v :: g.stack }) t → Steps p.tables e below (T.setTop g) t := by
  have hd := X.cd hd
  obtain ⟨vm0, k0, locs, a0, x1, rfl, x3, x4, x5, x6, x7, x8, x9, x10, x11, x12, CC⟩ := X
  exact x1.ldc2Long CC.1 x7 (mvT (s := s.setVm vm0) x6 w) hg hd
theorem Wk.irem (X : Wk b p l e R s m args below meth c Z EL y bytes maxL ret n0 h0 T h sf cells slots) {x y' : Int32} {g : JFrame} (hg : g.method = m) {rest : List Value} (hs : g.stack = .int y' :: .int x :: rest) (hy : y' ≠ 0) (hd : decode bytes g.pc = .ok (.irem, 1)) :
    ∀ t, Steps p.tables e below (T.setTop { g with pc := g.pc + 1, stack := .int (x % y') :: rest }) t → Steps p.tables e below (T.setTop g) t := by
  have hd := X.cd hd
  obtain ⟨vm0, k0, locs, a0, x1, rfl, x3, x4, x5, x6, x7, x8, x9, x10, x11, x12, CC⟩ := X
  exact fun t ht => iremM x1 CC.1 hg hd hs hy ht
theorem Wk.acmp (X : Wk b p l e R s m args below meth c Z EL y bytes maxL ret n0 h0 T h sf cells slots) {cd : ACond} {x y' : Value} (h1 : x.isRef = true) (h2 : y'.isRef = true) {g : JFrame} (hg : g.method = m) {rest : List Value} {o : Int} {pc0 pc' : Nat} {same : Bool} (hpc : g.pc = pc0) (hd : decode bytes g.pc = .ok (.if_acmp cd o, 3)) (hs : g.stack = y' :: x :: rest) (hq : decide (x = y') = same) (ho : 0 ≤ (pc0 : Int) + o) (hp : pc' = if acV cd same = true then ((pc0 : Int) + o).toNat else pc0 + 3) :
    ∀ t, Steps p.tables e below (T.setTop { g with pc := pc', stack := rest }) t → Steps p.tables e below (T.setTop g) t := by
  have hd := X.cd hd
  obtain ⟨vm0, k0, locs, a0, x1, rfl, x3, x4, x5, x6, x7, x8, x9, x10, x11, x12, CC⟩ := X
  exact fun t ht => Jvm.RoadKit.acmp x1 CC.1 hg h1 h2 hpc hd hs hq ho hp ht
theorem Wk.initO (X : Wk b p l e R s m args below meth c Z EL y bytes maxL ret n0 h0 T h sf cells slots) {a1 : Array Value} {idx : Nat} (w1 : (Cond.methodLink y.cls idx Lib.objectInit).before a1 Z = true) (w2 : (Cond.instanceMethod Lib.objectInit).before a1 Z = true) (w3 : (Cond.code Lib.objectInit ⟨#[0xb1]⟩ 1 none).before a1 Z = true) {g : JFrame} (hg : g.method = m) (hsize : g.locals.size = maxL) {a : Addr} {rest : List Value} (hs : g.stack = .ref a :: rest) (hd : decode bytes g.pc = .ok (.invokespecial idx, 3))
    (hf : 1 ≤ R.frames) {W : Nat} (hW : 2 * g.monitorRoom + (rest.map fun v => v.category).sum ≤ W) (hl : W + 12 ≤ R.locals) :
    ∃ T' : State, Wk b p l e R s m args below meth c Z EL y bytes maxL ret n0 h0 T' h sf cells slots ∧ ∀ t, Steps p.tables e below (T'.setTop { g with pc := g.pc + 3, stack := rest }) t → Steps p.tables e below (T.setTop g) t := by
  have hd := X.cd hd
  obtain ⟨vm0, k0, locs, a0, x1, rfl, x3, x4, x5, x6, x7, x8, x9, x10, x11, x12, CC⟩ := X
  obtain ⟨T', X', e', st⟩ := RoadKit.initO x1 CC.1 (s := s.setVm vm0) x6 x7 w1 w2 w3 rfl hg (hsize.trans CC.2.2.1.symm) hs hd hf hW hl
  exact ⟨T', ⟨vm0, k0, locs, a0, X', e', x3, x4, x5, x6, x7, x8, x9, x10, x11, x12, CC⟩, st⟩
theorem Wk.castY (X : Wk b p l e R s m args below meth c Z EL y bytes maxL ret n0 h0 T h sf cells slots) {a1 : Array Value} {K : String} {index : Nat} (w : (Cond.classLink y.cls index K).before a1 Z = true) {a : Addr} (F : Ins Z h a K true) {g : JFrame} (hg : g.method = m) {rest : List Value} (hs : g.stack = .ref a :: rest) (hd : decode bytes g.pc = .ok (.checkcast index, 3)) :
    ∃ T' : State, Wk b p l e R s m args below meth c Z EL y bytes maxL ret n0 h0 T' h sf cells slots ∧ ∀ t, Steps p.tables e below (T'.setTop { g with pc := g.pc + 3 }) t → Steps p.tables e below (T.setTop g) t := by
  have hd := X.cd hd
  obtain ⟨vm0, k0, locs, a0, x1, rfl, x3, x4, x5, x6, x7, x8, x9, x10, x11, x12, CC⟩ := X
  obtain ⟨T', X', e', st⟩ := RoadKit.castY x1 CC.1 (s := s.setVm vm0) x6 x7 w rfl F hg hs hd
  exact ⟨T', ⟨vm0, k0, locs, a0, X', e', x3, x4, x5, x6, x7, x8, x9, x10, x11, x12, CC⟩, st⟩
theorem Wk.instY (X : Wk b p l e R s m args below meth c Z EL y bytes maxL ret n0 h0 T h sf cells slots) {a1 : Array Value} {K : String} {index : Nat} (w : (Cond.classLink y.cls index K).before a1 Z = true) {a : Addr} (F : Ins Z h a K true) {g : JFrame} (hg : g.method = m) {rest : List Value} (hs : g.stack = .ref a :: rest) (hd : decode bytes g.pc = .ok (.instanceof index, 3)) :
    ∃ T' : State, Wk b p l e R s m args below meth c Z EL y bytes maxL ret n0 h0 T' h sf cells slots ∧ ∀ t, Steps p.tables e below (T'.setTop { g with pc := g.pc + 3, stack := .int 1 :: rest }) t → Steps p.tables e below (T.setTop g) t := by
  have hd := X.cd hd
  obtain ⟨vm0, k0, locs, a0, x1, rfl, x3, x4, x5, x6, x7, x8, x9, x10, x11, x12, CC⟩ := X
  obtain ⟨T', X', e', st⟩ := RoadKit.instY x1 CC.1 (s := s.setVm vm0) x6 x7 w rfl F hg hs hd
  exact ⟨T', ⟨vm0, k0, locs, a0, X', e', x3, x4, x5, x6, x7, x8, x9, x10, x11, x12, CC⟩, st⟩
theorem Wk.instNo (X : Wk b p l e R s m args below meth c Z EL y bytes maxL ret n0 h0 T h sf cells slots) {a1 : Array Value} {K C : String} {index : Nat} (w : (Cond.classLink y.cls index K).before a1 Z = true) {a : Addr} (E : Exa Z h a C) (F : ∃ c t, Z.vm.findClass C = some c ∧ Z.vm.findClass K = some t ∧ Z.vm.assignable c t = false) {g : JFrame} (hg : g.method = m) {rest : List Value} (hs : g.stack = .ref a :: rest) (hd : decode bytes g.pc = .ok (.instanceof index, 3)) :
    ∃ T' : State, Wk b p l e R s m args below meth c Z EL y bytes maxL ret n0 h0 T' h sf cells slots ∧ ∀ t, Steps p.tables e below (T'.setTop { g with pc := g.pc + 3, stack := .int 0 :: rest }) t → Steps p.tables e below (T.setTop g) t := by
  have hd := X.cd hd
  obtain ⟨vm0, k0, locs, a0, x1, rfl, x3, x4, x5, x6, x7, x8, x9, x10, x11, x12, CC⟩ := X
  obtain ⟨T', X', e', st⟩ := RoadKit.instNo x1 CC.1 (s := s.setVm vm0) x6 x7 w rfl E F hg hs hd
  exact ⟨T', ⟨vm0, k0, locs, a0, X', e', x3, x4, x5, x6, x7, x8, x9, x10, x11, x12, CC⟩, st⟩
theorem Wk.instNull (X : Wk b p l e R s m args below meth c Z EL y bytes maxL ret n0 h0 T h sf cells slots) {index : Nat} {g : JFrame} (hg : g.method = m) {rest : List Value} (hs : g.stack = .null :: rest) (hd : decode bytes g.pc = .ok (.instanceof index, 3)) :
    ∀ t, Steps p.tables e below (T.setTop { g with pc := g.pc + 3, stack := .int 0 :: rest }) t → Steps p.tables e below (T.setTop g) t := by
  have hd := X.cd hd
  obtain ⟨vm0, k0, locs, a0, x1, rfl, x3, x4, x5, x6, x7, x8, x9, x10, x11, x12, CC⟩ := X
  exact Stand.instanceofNull x1 CC.1 hg hs hd
/-! ### String constants (a wide walk alone) -/
theorem Wk.ldcS (X : Wk true p l e R s m args below meth c Z EL y bytes maxL ret n0 h0 T h sf cells slots) {a1 : Array Value} {text : String} {index : Nat} (w : (Cond.stringLink y.cls index text).before a1 Z = true) (wS : ∀ a ∈ Bundle.stringAtoms, a.before a1 Z = true)
    {g : JFrame} (hg : g.method = m) (hd : decode bytes g.pc = .ok (.ldc index, 2)) {n : Nat} (hn : 4 * text.toList.length ≤ n) (hbig : n ≤ 536870912) (hc : cells + 2 ≤ R.cells) (hl : slots + (n + 4) ≤ R.slots) :
    ∃ (a : Addr) (T' : State) (h' : Heap), Wk true p l e R s m args below meth c Z EL y bytes maxL ret n0 h0 T' h' sf (cells + 2) (slots + (n + 4)) ∧ Ext h h' ∧ ∀ t, Steps p.tables e below (T'.setTop { g with pc := g.pc + 2, stack := .ref a :: g.stack }) t → Steps p.tables e below (T.setTop g) t := by
  have hd := X.cd hd
  obtain ⟨vm0, k0, locs, a0, x1, rfl, x3, x4, x5, x6, x7, x8, x9, x10, x11, x12, CC⟩ := X
  obtain ⟨a, T', h', k1, X', e', E, hS, hk, hZ, ho, D, -, st⟩ := ldcOH (a0 := a1) (EL := EL) x1 CC.1 x6 x7 w wS rfl x4 x5 (by intro q hq; obtain ⟨t, t1, t2⟩ := x11 q hq; exact ⟨t, by simpa only [Cond.before, Cond.holds, Cond.value] using t1, t2⟩) x9.1 hg hd hn hbig hc hl
  exact ⟨a, T', h', ⟨T'.vm, k1, locs, a0, X', e', fun q => (nomatch q), hS, hk, hZ, ho, x8, x9.trans D, x10.go D, x11, x12.ext E, CC⟩, E, st⟩
theorem Wk.ldcR (X : Wk true p l e R s m args below meth c Z EL y bytes maxL ret n0 h0 T h sf cells slots) {a1 : Array Value} {text : String} {index : Nat} (w : (Cond.stringLink y.cls index text).before a1 Z = true) (wS : ∀ a ∈ Bundle.stringAtoms, a.before a1 Z = true) (hmem : (y.cls, index) ∈ EL)
    {vs : List Value} {z : Int32} (ht : (∀ c ∈ text.toList, c.toNat < 256) ∧ text.toList.map (fun c => Value.int (Jvm.Lit.byteI c.toNat.toUInt16)) = vs) (hz : ¬ z < 0) (hl : z.toNatClampNeg = vs.length)
    {g : JFrame} (hg : g.method = m) (hd : decode bytes g.pc = .ok (.ldc index, 2)) {n : Nat} (hn : 4 * text.toList.length ≤ n) (hbig : n ≤ 536870912) (hc : cells + 2 ≤ R.cells) (hl' : slots + (n + 4) ≤ R.slots) :
    ∃ (a bb : Addr) (k : ClassId) (T' : State) (h' : Heap), Wk true p l e R s m args below meth c Z EL y bytes maxL ret n0 h0 T' h' sf (cells + 2) (slots + (n + 4)) ∧ Ext h h' ∧ Exa Z h' a "java/lang/String" ∧ Fld Z h' a "java/lang/String" "coder" "B" (.int 0) ∧ Fld Z h' a "java/lang/String" "value" "[B" (.ref bb) ∧ Arv Z h' bb k .byte z vs (.int 0) ∧ (∀ x ∈ sf, x ≠ a ∧ x ≠ bb) ∧
      ∀ t, Steps p.tables e below (T'.setTop { g with pc := g.pc + 2, stack := .ref a :: g.stack }) t → Steps p.tables e below (T.setTop g) t := by
  have hd := X.cd hd
  obtain ⟨vm0, k0, locs, a0, x1, rfl, x3, x4, x5, x6, x7, x8, x9, x10, x11, x12, CC⟩ := X
  obtain ⟨a, T', h', k1, bb, k, X', e', E, hS, hk, hZ, ho, F1, F2, F3, F4, -, -, D, -, hne, st⟩ := ldcCH (a0 := a1) (EL := EL) x1 CC.1 x6 x7 w wS rfl x4 x5 (by intro q hq; obtain ⟨t, t1, t2⟩ := x11 q hq; exact ⟨t, by simpa only [Cond.before, Cond.holds, Cond.value] using t1, t2⟩) hmem x9.1 ht hz hl hg hd hn hbig hc hl'
  have S' := x10.go D
  exact ⟨a, bb, k, T', h', ⟨T'.vm, k1, locs, a0, X', e', fun q => (nomatch q), hS, hk, hZ, ho, x8, x9.trans D, S', x11, x12.ext E, CC⟩, E, F1, F2, F3, F4, fun x hx => hne x (S' x hx).2.2, st⟩
end Walk
/-! ### contracts -/
def Ct (l : Launch) (y : MethodName) (bytes : ByteArray) (maxL : Nat) (ret : Option FieldType) (wl : List Cond) (rm : Room) (Z : State) (n0 : Nat) (as' : Array Value) (h : Heap) (ws : List Addr) (Q : Option Value → Heap → Prop) : Prop :=
  MetFree l y (head1 (Cond.code y bytes maxL ret :: wl) rm) (fun a U => a = as' ∧ Z.Warmed39 U.vm ∧ U.heap = h) (fun _ _ _ _ _ => True) (fun _ U o U' => ∃ v L, o = .returned v ∧ (Keep h U'.heap ws ∧ Q v U'.heap ∧ Fr n0 L) ∧ FrameEnd U o U' L rm.cells rm.slots)
def Cw (l : Launch) (y : MethodName) (bytes : ByteArray) (maxL : Nat) (ret : Option FieldType) (wl : List Cond) (rm : Room) (Z : State) (EL : List (String × Nat)) (n0 : Nat) (as' : Array Value) (h : Heap) (ws sv : List Addr) (Q : Option Value → Heap → Prop) : Prop :=
  MetFree l y (head1 (Cond.code y bytes maxL ret :: wl) rm) (fun a U => a = as' ∧ Z.Warmed39 U.vm ∧ U.heap = h ∧ CHv Z EL U.vm h ∧ ∀ x ∈ sv, Safe Z EL U.vm h x) (fun _ _ _ _ _ => True) (fun _ U o U' => ∃ v L, o = .returned v ∧ (Keep h U'.heap ws ∧ Q v U'.heap ∧ Fr n0 L) ∧ CHr Z EL U.vm h U'.vm U'.heap ∧ ReturnedEndW U o U' L rm.cells rm.slots)
section Con
variable {l : Launch} {y : MethodName} {bytes : ByteArray} {maxL : Nat} {ret : Option FieldType} {wl : List Cond} {rm : Room} {Z : State} {EL : List (String × Nat)} {n0 : Nat} {as' : Array Value} {h : Heap} {ws sv : List Addr} {Q : Option Value → Heap → Prop} {a0 : Array Value}
theorem Ct.of_walk (hp : plainFor y = true) (hO : Old Z n0 h) (hws : ∀ x ∈ ws, n0 ≤ x ∧ x < h.size)
    (body : ∀ (p : Program) (e : Env) (s : State) (m : MethodId) (below : List Frame) (meth : Method) (c : Code) (T : State), Wk false p l e rm s m as' below meth c Z [] y bytes maxL ret n0 h T h ws 0 0 → Go p e below (Fi false rm s Z [] n0 h ws Q) (T.setTop (entryFrame m as' maxL))) : Ct l y bytes maxL ret wl rm Z n0 as' h ws Q := by
  refine MetFree.of_bodySF hp hisR ?_
  intro p e s m args below meth c s₁ Bd hml0 hP hK
  obtain ⟨rfl, hZ, hh⟩ := hP
  have X0 : Stand p l e rm s m args below meth c s₁ [] 0 0 := Stand.of_body Bd
  have e0 : s₁.heap = h := by rw [← hh, Bd.state]; rfl
  have H0 : CHv Z [] s.vm h := fun q hq => nomatch hq
  have W0 : Wk false p l e rm s m args below meth c Z [] y bytes maxL ret n0 h s₁ h ws 0 0 :=
    ⟨s.vm, 0, [], #[], X0, e0, fun _ => rfl, (State.WarmedH.refl s).since 0, Nat.zero_le _, hZ, findClass_of_methodNamed Bd.named, Fr.nil n0, CHr.refl H0, fun x hx => ⟨(hws x hx).1, (hws x hx).2, fun B => by obtain ⟨q, hq, -⟩ := B; cases hq⟩, EW.nil, hO, Bd.exec, Bd.bytes, hml0, (name_of_methodNamed Bd.named Bd.method).1, Bd.returns, Bd.notSynchronized⟩
  obtain ⟨t, o, h1, h2, h3, v, L, rfl, K, q, N, A, E⟩ := body p e s m below meth c s₁ W0
  exact ⟨t, _, h1, h2, h3, v, L, rfl, ⟨K, q, N⟩, E⟩
theorem Cw.of_walk (hp : plainFor y = true) (hO : Old Z n0 h) (hE : EW Z a0 EL) (hws : ∀ x ∈ sv, n0 ≤ x ∧ x < h.size)
    (body : ∀ (p : Program) (e : Env) (s : State) (m : MethodId) (below : List Frame) (meth : Method) (c : Code) (T : State), Wk true p l e rm s m as' below meth c Z EL y bytes maxL ret n0 h T h sv 0 0 → Go p e below (Fi true rm s Z EL n0 h ws Q) (T.setTop (entryFrame m as' maxL))) : Cw l y bytes maxL ret wl rm Z EL n0 as' h ws sv Q := by
  refine MetFree.of_bodySF hp hisR ?_
  intro p e s m args below meth c s₁ Bd hml0 hP hK
  obtain ⟨rfl, hZ, hh, H0, hS⟩ := hP
  have X0 : Stand p l e rm s m args below meth c s₁ [] 0 0 := Stand.of_body Bd
  have e0 : s₁.heap = h := by rw [← hh, Bd.state]; rfl
  have W0 : Wk true p l e rm s m args below meth c Z EL y bytes maxL ret n0 h s₁ h sv 0 0 :=
    ⟨s.vm, 0, [], a0, X0, e0, fun _ => rfl, (State.WarmedH.refl s).since 0, Nat.zero_le _, hZ, findClass_of_methodNamed Bd.named, Fr.nil n0, CHr.refl H0, fun x hx => ⟨(hws x hx).1, (hws x hx).2, hS x hx⟩, hE, hO, Bd.exec, Bd.bytes, hml0, (name_of_methodNamed Bd.named Bd.method).1, Bd.returns, Bd.notSynchronized⟩
  obtain ⟨t, o, h1, h2, h3, v, L, rfl, K, q, N, A, E⟩ := body p e s m below meth c s₁ W0
  exact ⟨t, _, h1, h2, h3, v, L, rfl, ⟨K, q, N⟩, A, E⟩
variable {R : Room} {p : Program} {e : Env} {below : List Frame} {s : State} {args : Array Value} {len W : Nat}
def Pay (l : Launch) (R : Room) (p : Program) (e : Env) (below : List Frame) (s : State) (args : Array Value) (Z : State) (n0 : Nat) (y : MethodName) (len W : Nat) (as' : Array Value) (h : Heap) (kc ks : Nat) (ws : List Addr) (Q : Option Value → Heap → Prop) : Prop :=
  ∀ vm0, Z.Warmed39 vm0 → Back l R p e below (s.setVm vm0) args y len W (fun A a => a = as' ∧ A.U.heap = h ∧ A.cells + kc ≤ R.cells ∧ A.slots + ks ≤ R.slots) (fun A _ v B => ∃ L, (Keep h B.U.heap ws ∧ Q v B.U.heap ∧ Fr n0 L) ∧ B.locs = A.locs ++ L ∧ B.cells = A.cells + kc ∧ B.slots = A.slots + ks)
def PayW (l : Launch) (R : Room) (p : Program) (e : Env) (below : List Frame) (s : State) (args : Array Value) (Z : State) (EL : List (String × Nat)) (n0 : Nat) (y : MethodName) (len W : Nat) (as' : Array Value) (h : Heap) (kc ks : Nat) (ws sv : List Addr) (Q : Option Value → Heap → Prop) : Prop :=
  ∀ vm0, Z.Warmed39 vm0 → CHv Z EL vm0 h → (∀ x ∈ sv, x < h.size ∧ Safe Z EL vm0 h x) → BackS l R p e below (s.setVm vm0) args y len W (fun A a => a = as' ∧ A.U.heap = h ∧ A.cells + kc ≤ R.cells ∧ A.slots + ks ≤ R.slots) (fun A _ v B => ∃ L, (Keep h B.U.heap ws ∧ Q v B.U.heap ∧ Fr n0 L) ∧ B.locs = A.locs ++ L ∧ B.cells = A.cells + kc ∧ B.slots = A.slots + ks ∧ CHr Z EL vm0 h B.U.vm B.U.heap)
theorem Ct.pay (hM : Ct l y bytes maxL ret [] rm Z n0 as' h ws Q) (wc : (Cond.code y bytes maxL ret).before a0 Z = true) (wz : (Cond.initialized y.cls).before a0 Z = true) (hf : rm.frames + 1 ≤ R.frames) (hl : W + (maxL + 11) + rm.locals ≤ R.locals) :
    Pay l R p e below s args Z n0 y len W as' h rm.cells rm.slots ws Q := fun vm0 hZ => backOf (s := s.setVm vm0) (Q := fun v h' L => Keep h h' ws ∧ Q v h' ∧ Fr n0 L) hM hZ wc wz hf hl
theorem Cw.pay (hM : Cw l y bytes maxL ret [] rm Z EL n0 as' h ws sv Q) (wc : (Cond.code y bytes maxL ret).before a0 Z = true) (wz : (Cond.initialized y.cls).before a0 Z = true) (hE : EW Z a0 EL) (hf : rm.frames + 1 ≤ R.frames) (hl : W + (maxL + 11) + rm.locals ≤ R.locals) :
    PayW l R p e below s args Z EL n0 y len W as' h rm.cells rm.slots ws sv Q := fun vm0 hZ H hS =>
  BackS.of_freeW (bytes := bytes) (maxL := maxL) (ret := ret) (E := fun _ first o t L k n => k = rm.cells ∧ n = rm.slots ∧ (∃ v, o = .returned v ∧ (Keep h t.heap ws ∧ Q v t.heap ∧ Fr n0 L)) ∧ CHr Z EL first.vm h t.vm t.heap) hM hf hl
    (fun m meth c A a Y hp => by
      have hU : Z.Warmed39 A.U.vm := wtrans (s := s.setVm vm0) hZ Y.warmed
      exact ⟨by show (Cond.and _ .tt).before a A.U = true; rw [Cond.before_and, mv hU wc]; rfl, mv hU wc, mv hU wz, hp.2.2.1, hp.2.2.2⟩)
    (fun m meth c A a g mk Y hp => by
      have q := CHv.at Y hZ hE H
      exact ⟨hp.1, wtrans (s := s.setVm vm0) hZ Y.warmed, hp.2.1, q.1, fun x hx => q.safe (hS x hx).1 (hS x hx).2⟩)
    (fun _ _ _ _ _ _ _ _ _ => trivial)
    (fun _ _ _ _ ⟨v, L, h1, h2, h3, h4⟩ => ⟨L, _, _, h4, rfl, rfl, ⟨v, h1, h2⟩, h3⟩)
    (fun m meth c A a g mk v t L k n Y hp _ _ ⟨e1, e2, ⟨v', e3, e4⟩, e5⟩ => by
      cases e3; subst e1 e2
      exact ⟨L, e4, rfl, rfl, rfl, (CHv.at Y hZ hE H).trans e5⟩)
end Con
/-! ### calls -/
section Calls
variable {b : Bool} {p : Program} {l : Launch} {e : Env} {R : Room} {s : State} {m : MethodId} {args : Array Value} {below : List Frame} {meth : Method} {c : Code} {Z : State} {EL : List (String × Nat)} {y : MethodName} {bytes : ByteArray} {maxL : Nat} {ret : Option FieldType} {n0 : Nat} {h0 : Heap} {T : State} {h h' : Heap} {sf ws sv : List Addr} {cells slots : Nat} {a1 : Array Value} {Q : Option Value → Heap → Prop} {y' z' : MethodName} {index W kc ks : Nat} {as' : Array Value}
theorem Wk.aftN {vm0 : Vm} {k0 : Nat} {locs : List Loc} {a0 : Array Value} {v : Option Value} {B : Pt} (X' : Stand p l e R (s.setVm vm0) m args below meth c B.U B.locs B.cells B.slots) (po : ∃ L, (Keep h B.U.heap ws ∧ Q v B.U.heap ∧ Fr n0 L) ∧ B.locs = locs ++ L ∧ B.cells = cells + kc ∧ B.slots = slots + ks)
    (x3 : b = false → vm0 = s.vm) (x4 : s.Since vm0 k0) (x5 : k0 ≤ h.size) (x6 : Z.Warmed39 vm0) (x7 : vm0.findClass y.cls = some m.cls) (x8 : Fr n0 locs) (x9 : CHr Z EL s.vm h0 vm0 h) (x10 : Sfs Z EL n0 vm0 h sf) (x11 : EW Z a0 EL) (x12 : Old Z n0 h) (C : Cst p meth c y bytes maxL ret) (hm : ∀ x ∈ ws, x ∈ sf) :
    Wk b p l e R s m args below meth c Z EL y bytes maxL ret n0 h0 B.U B.U.heap sf (cells + kc) (slots + ks) ∧ Keep h B.U.heap ws ∧ Q v B.U.heap := by
  obtain ⟨L, ⟨K, q, N⟩, l1, l2, l3⟩ := po
  have D : CHr Z EL vm0 h vm0 B.U.heap := CHr.keep K (fun x hx => (x10 x (hm x hx)).2.2) x9.1
  rw [l1, l2, l3] at X'
  exact ⟨⟨vm0, k0, _, a0, X', rfl, x3, x4, Nat.le_trans x5 K.1, x6, x7, x8.app N, x9.trans D, x10.go D, x11, x12.keep K (fun x hx => (x10 x (hm x hx)).1), C⟩, K, q⟩
theorem Wk.aftW {vm0 : Vm} {k0 : Nat} {locs : List Loc} {a0 : Array Value} {v : Option Value} {B : Pt} (X' : Stand p l e R ((s.setVm vm0).setVm B.U.vm) m args below meth c B.U B.locs B.cells B.slots) (hS : (s.setVm vm0).Since B.U.vm B.U.heap.size) (po : ∃ L, (Keep h B.U.heap ws ∧ Q v B.U.heap ∧ Fr n0 L) ∧ B.locs = locs ++ L ∧ B.cells = cells + kc ∧ B.slots = slots + ks ∧ CHr Z EL vm0 h B.U.vm B.U.heap)
    (x4 : s.Since vm0 k0) (x5 : k0 ≤ h.size) (x6 : Z.Warmed39 vm0) (x7 : vm0.findClass y.cls = some m.cls) (x8 : Fr n0 locs) (x9 : CHr Z EL s.vm h0 vm0 h) (x10 : Sfs Z EL n0 vm0 h sf) (x11 : EW Z a0 EL) (x12 : Old Z n0 h) (C : Cst p meth c y bytes maxL ret) (hm : ∀ x ∈ ws, x ∈ sf) :
    Wk true p l e R s m args below meth c Z EL y bytes maxL ret n0 h0 B.U B.U.heap sf (cells + kc) (slots + ks) ∧ Keep h B.U.heap ws ∧ Q v B.U.heap := by
  obtain ⟨L, ⟨K, q, N⟩, l1, l2, l3, D⟩ := po
  rw [l1, l2, l3] at X'
  have hk : k0 ≤ B.U.heap.size := Nat.le_trans x5 K.1
  exact ⟨⟨B.U.vm, _, _, a0, X', rfl, fun q => (by cases q), x4.trans hS hk, Nat.le_refl _, State.Warmed39.trans (t := s.setVm vm0) x6 hS.1, (hS.1.alike.findClass _ _).trans x7, x8.app N, x9.trans D, x10.go D, x11, x12.keep K (fun x hx => (x10 x (hm x hx)).1), C⟩, K, q⟩
theorem Wk.spN (X : Wk b p l e R s m args below meth c Z EL y bytes maxL ret n0 h0 T h sf cells slots) (hy1 : y'.name = "<init>") (w1 : (Cond.methodLink y.cls index y').before a1 Z = true) (w2 : (Cond.instanceMethod y').before a1 Z = true) {bytes' : ByteArray} {maxL' : Nat} (w3 : (Cond.code y' bytes' maxL' none).before a1 Z = true) (hy : y'.cls ≠ "java/lang/invoke/MethodHandle" ∧ y'.cls ≠ "java/lang/invoke/VarHandle")
    (hK : Pay l R p e below s args Z n0 y' 3 W as' h kc ks ws Q) (hm : ∀ x ∈ ws, x ∈ sf) {g : JFrame} (hg : g.method = m) (hsize : g.locals.size = maxL) {a : Addr} {argsL rest : List Value} (hlen : ∀ sig, parseMethodDescriptor y'.desc = some sig → argsL.length = sig.parameters.length) (hstack : g.stack = argsL.reverse ++ .ref a :: rest) (hW : 2 * g.monitorRoom + (rest.map fun v => v.category).sum ≤ W)
    (hd : decode bytes g.pc = .ok (.invokespecial index, 3)) (ha : (.ref a :: argsL).toArray = as') (hc : cells + kc ≤ R.cells) (hs : slots + ks ≤ R.slots) :
    ∃ (v : Option Value) (T' : State) (h' : Heap), Wk b p l e R s m args below meth c Z EL y bytes maxL ret n0 h0 T' h' sf (cells + kc) (slots + ks) ∧ Keep h h' ws ∧ Q v h' ∧ Steps p.tables e below (T.setTop g) (T'.setTop { g with pc := g.pc + 3, stack := v.toList ++ rest }) := by
  have hd := X.cd hd
  obtain ⟨vm0, k0, locs, a0, x1, rfl, x3, x4, x5, x6, x7, x8, x9, x10, x11, x12, CC⟩ := X
  obtain ⟨v, vm₁, B, hW1, X', po, st⟩ := x1.specialBack CC.1 hy1 x7 (mvT (s := s.setVm vm0) x6 w1) (mvT (s := s.setVm vm0) x6 w2) (mvT (s := s.setVm vm0) x6 w3) hy (hK vm0 x6) hg (hsize.trans CC.2.2.1.symm) (Steps.refl _) hlen hstack hW hd (fun _ _ => ⟨ha, rfl, hc, hs⟩)
  obtain ⟨q1, q2, q3⟩ := Wk.aftN X' po x3 x4 x5 x6 x7 x8 x9 x10 x11 x12 CC hm
  exact ⟨v, _, _, q1, q2, q3, st⟩
theorem Wk.spW (X : Wk true p l e R s m args below meth c Z EL y bytes maxL ret n0 h0 T h sf cells slots) (hy1 : y'.name = "<init>") (w1 : (Cond.methodLink y.cls index y').before a1 Z = true) (w2 : (Cond.instanceMethod y').before a1 Z = true) {bytes' : ByteArray} {maxL' : Nat} (w3 : (Cond.code y' bytes' maxL' none).before a1 Z = true) (hy : y'.cls ≠ "java/lang/invoke/MethodHandle" ∧ y'.cls ≠ "java/lang/invoke/VarHandle")
    (hK : PayW l R p e below s args Z EL n0 y' 3 W as' h kc ks ws sv Q) (hm : ∀ x ∈ ws, x ∈ sf) (hv : ∀ x ∈ sv, x ∈ sf) {g : JFrame} (hg : g.method = m) (hsize : g.locals.size = maxL) {a : Addr} {argsL rest : List Value} (hlen : ∀ sig, parseMethodDescriptor y'.desc = some sig → argsL.length = sig.parameters.length) (hstack : g.stack = argsL.reverse ++ .ref a :: rest) (hW : 2 * g.monitorRoom + (rest.map fun v => v.category).sum ≤ W)
    (hd : decode bytes g.pc = .ok (.invokespecial index, 3)) (ha : (.ref a :: argsL).toArray = as') (hc : cells + kc ≤ R.cells) (hs : slots + ks ≤ R.slots) :
    ∃ (v : Option Value) (T' : State) (h' : Heap), Wk true p l e R s m args below meth c Z EL y bytes maxL ret n0 h0 T' h' sf (cells + kc) (slots + ks) ∧ Keep h h' ws ∧ Q v h' ∧ Steps p.tables e below (T.setTop g) (T'.setTop { g with pc := g.pc + 3, stack := v.toList ++ rest }) := by
  have hd := X.cd hd
  obtain ⟨vm0, k0, locs, a0, x1, rfl, x3, x4, x5, x6, x7, x8, x9, x10, x11, x12, CC⟩ := X
  obtain ⟨v, vm₁, B, hW1, X', hS, -, po, st⟩ := x1.specialBackS CC.1 hy1 x7 (mvT (s := s.setVm vm0) x6 w1) (mvT (s := s.setVm vm0) x6 w2) (mvT (s := s.setVm vm0) x6 w3) hy (hK vm0 x6 x9.1 (fun x hx => (x10 x (hv x hx)).2)) hg (hsize.trans CC.2.2.1.symm) (Steps.refl _) hlen hstack hW hd (fun _ _ => ⟨ha, rfl, hc, hs⟩)
  obtain ⟨q1, q2, q3⟩ := Wk.aftW X' hS po x4 x5 x6 x7 x8 x9 x10 x11 x12 CC hm
  exact ⟨v, _, _, q1, q2, q3, st⟩
theorem Wk.stN (X : Wk b p l e R s m args below meth c Z EL y bytes maxL ret n0 h0 T h sf cells slots) (w1 : (Cond.methodLink y.cls index y').before a1 Z = true) (w2 : (Cond.static y').before a1 Z = true) (wz : (Cond.initialized y'.cls).before a1 Z = true) {bytes' : ByteArray} {maxL' : Nat} {ret' : Option FieldType} (w3 : (Cond.code y' bytes' maxL' ret').before a1 Z = true) (hy : y'.cls ≠ "java/lang/invoke/MethodHandle" ∧ y'.cls ≠ "java/lang/invoke/VarHandle")
    (hK : Pay l R p e below s args Z n0 y' 3 W as' h kc ks ws Q) (hm : ∀ x ∈ ws, x ∈ sf) {g : JFrame} (hg : g.method = m) (hsize : g.locals.size = maxL) {argsL rest : List Value} (hlen : ∀ sig, parseMethodDescriptor y'.desc = some sig → argsL.length = sig.parameters.length) (hstack : g.stack = argsL.reverse ++ rest) (hW : 2 * g.monitorRoom + (rest.map fun v => v.category).sum ≤ W)
    (hd : decode bytes g.pc = .ok (.invokestatic index, 3)) (ha : argsL.toArray = as') (hc : cells + kc ≤ R.cells) (hs : slots + ks ≤ R.slots) :
    ∃ (v : Option Value) (T' : State) (h' : Heap), Wk b p l e R s m args below meth c Z EL y bytes maxL ret n0 h0 T' h' sf (cells + kc) (slots + ks) ∧ Keep h h' ws ∧ Q v h' ∧ Steps p.tables e below (T.setTop g) (T'.setTop { g with pc := g.pc + 3, stack := v.toList ++ rest }) := by
  have hd := X.cd hd
  obtain ⟨vm0, k0, locs, a0, x1, rfl, x3, x4, x5, x6, x7, x8, x9, x10, x11, x12, CC⟩ := X
  obtain ⟨v, vm₁, B, hW1, X', po, st⟩ := Jvm.LawKit.callS x1 CC.1 x7 (mvT (s := s.setVm vm0) x6 w1) (mvT (s := s.setVm vm0) x6 w2) (mvT (s := s.setVm vm0) x6 wz) (mvT (s := s.setVm vm0) x6 w3) hy (hK vm0 x6) hg (hsize.trans CC.2.2.1.symm) hlen hstack hW hd (fun _ _ => ⟨ha, rfl, hc, hs⟩)
  obtain ⟨q1, q2, q3⟩ := Wk.aftN X' po x3 x4 x5 x6 x7 x8 x9 x10 x11 x12 CC hm
  exact ⟨v, _, _, q1, q2, q3, st _ (Steps.refl _)⟩
theorem Wk.stW (X : Wk true p l e R s m args below meth c Z EL y bytes maxL ret n0 h0 T h sf cells slots) (w1 : (Cond.methodLink y.cls index y').before a1 Z = true) (w2 : (Cond.static y').before a1 Z = true) (wz : (Cond.initialized y'.cls).before a1 Z = true) {bytes' : ByteArray} {maxL' : Nat} {ret' : Option FieldType} (w3 : (Cond.code y' bytes' maxL' ret').before a1 Z = true) (hy : y'.cls ≠ "java/lang/invoke/MethodHandle" ∧ y'.cls ≠ "java/lang/invoke/VarHandle")
    (hK : PayW l R p e below s args Z EL n0 y' 3 W as' h kc ks ws sv Q) (hm : ∀ x ∈ ws, x ∈ sf) (hv : ∀ x ∈ sv, x ∈ sf) {g : JFrame} (hg : g.method = m) (hsize : g.locals.size = maxL) {argsL rest : List Value} (hlen : ∀ sig, parseMethodDescriptor y'.desc = some sig → argsL.length = sig.parameters.length) (hstack : g.stack = argsL.reverse ++ rest) (hW : 2 * g.monitorRoom + (rest.map fun v => v.category).sum ≤ W)
    (hd : decode bytes g.pc = .ok (.invokestatic index, 3)) (ha : argsL.toArray = as') (hc : cells + kc ≤ R.cells) (hs : slots + ks ≤ R.slots) :
    ∃ (v : Option Value) (T' : State) (h' : Heap), Wk true p l e R s m args below meth c Z EL y bytes maxL ret n0 h0 T' h' sf (cells + kc) (slots + ks) ∧ Keep h h' ws ∧ Q v h' ∧ Steps p.tables e below (T.setTop g) (T'.setTop { g with pc := g.pc + 3, stack := v.toList ++ rest }) := by
  have hd := X.cd hd
  obtain ⟨vm0, k0, locs, a0, x1, rfl, x3, x4, x5, x6, x7, x8, x9, x10, x11, x12, CC⟩ := X
  obtain ⟨v, vm₁, B, hW1, X', hS, -, po, st⟩ := callSS x1 CC.1 x7 (mvT (s := s.setVm vm0) x6 w1) (mvT (s := s.setVm vm0) x6 w2) (mvT (s := s.setVm vm0) x6 wz) (mvT (s := s.setVm vm0) x6 w3) hy (hK vm0 x6 x9.1 (fun x hx => (x10 x (hv x hx)).2)) hg (hsize.trans CC.2.2.1.symm) hlen hstack hW hd (fun _ _ => ⟨ha, rfl, hc, hs⟩)
  obtain ⟨q1, q2, q3⟩ := Wk.aftW X' hS po x4 x5 x6 x7 x8 x9 x10 x11 x12 CC hm
  exact ⟨v, _, _, q1, q2, q3, st⟩
theorem Wk.viN (X : Wk b p l e R s m args below meth c Z EL y bytes maxL ret n0 h0 T h sf cells slots) {C : String} (w1 : (Cond.methodLink y.cls index y').before a1 Z = true) (w2 : (Cond.declares y').before a1 Z = true) (w3 : (Cond.selects C y' y').before a1 Z = true) (w4 : (Cond.instanceMethod y').before a1 Z = true) (hy : y'.cls ≠ "java/lang/invoke/MethodHandle" ∧ y'.cls ≠ "java/lang/invoke/VarHandle")
    (hK : Pay l R p e below s args Z n0 y' 3 W as' h kc ks ws Q) (hm : ∀ x ∈ ws, x ∈ sf) {a : Addr} (E : Exa Z h a C) {g : JFrame} (hg : g.method = m) (hsize : g.locals.size = maxL) {argsL rest : List Value} (hlen : ∀ sig, parseMethodDescriptor y'.desc = some sig → argsL.length = sig.parameters.length) (hstack : g.stack = argsL.reverse ++ .ref a :: rest) (hW : 2 * g.monitorRoom + (rest.map fun v => v.category).sum ≤ W)
    (hd : decode bytes g.pc = .ok (.invokevirtual index, 3)) (ha : (.ref a :: argsL).toArray = as') (hc : cells + kc ≤ R.cells) (hs : slots + ks ≤ R.slots) :
    ∃ (v : Option Value) (T' : State) (h' : Heap), Wk b p l e R s m args below meth c Z EL y bytes maxL ret n0 h0 T' h' sf (cells + kc) (slots + ks) ∧ Keep h h' ws ∧ Q v h' ∧ Steps p.tables e below (T.setTop g) (T'.setTop { g with pc := g.pc + 3, stack := v.toList ++ rest }) := by
  have hd := X.cd hd
  obtain ⟨vm0, k0, locs, a0, x1, rfl, x3, x4, x5, x6, x7, x8, x9, x10, x11, x12, CC⟩ := X
  obtain ⟨cq, kq, q1, q2, q3⟩ := isOf (s := s.setVm vm0) (T := T) x6 rfl E
  obtain ⟨v, vm₁, B, hW1, X', po, st⟩ := x1.virtualBack CC.1 x7 (mvT (s := s.setVm vm0) x6 w1) (mvT (s := s.setVm vm0) x6 w2) (notFace_of_selects (args := #[]) (mvT (s := s.setVm vm0) x6 w3)) (mvT (s := s.setVm vm0) x6 w3) (mvT (s := s.setVm vm0) x6 w4) hy (hK vm0 x6) q1 q3 hg (hsize.trans CC.2.2.1.symm) (Steps.refl _) hlen hstack hW hd (fun _ _ => ⟨ha, rfl, hc, hs⟩)
  obtain ⟨q1, q2, q3⟩ := Wk.aftN X' po x3 x4 x5 x6 x7 x8 x9 x10 x11 x12 CC hm
  exact ⟨v, _, _, q1, q2, q3, st⟩
theorem Wk.viW (X : Wk true p l e R s m args below meth c Z EL y bytes maxL ret n0 h0 T h sf cells slots) {C : String} (w1 : (Cond.methodLink y.cls index y').before a1 Z = true) (w2 : (Cond.declares y').before a1 Z = true) (w3 : (Cond.selects C y' y').before a1 Z = true) (w4 : (Cond.instanceMethod y').before a1 Z = true) (hy : y'.cls ≠ "java/lang/invoke/MethodHandle" ∧ y'.cls ≠ "java/lang/invoke/VarHandle")
    (hK : PayW l R p e below s args Z EL n0 y' 3 W as' h kc ks ws sv Q) (hm : ∀ x ∈ ws, x ∈ sf) (hv : ∀ x ∈ sv, x ∈ sf) {a : Addr} (E : Exa Z h a C) {g : JFrame} (hg : g.method = m) (hsize : g.locals.size = maxL) {argsL rest : List Value} (hlen : ∀ sig, parseMethodDescriptor y'.desc = some sig → argsL.length = sig.parameters.length) (hstack : g.stack = argsL.reverse ++ .ref a :: rest) (hW : 2 * g.monitorRoom + (rest.map fun v => v.category).sum ≤ W)
    (hd : decode bytes g.pc = .ok (.invokevirtual index, 3)) (ha : (.ref a :: argsL).toArray = as') (hc : cells + kc ≤ R.cells) (hs : slots + ks ≤ R.slots) :
    ∃ (v : Option Value) (T' : State) (h' : Heap), Wk true p l e R s m args below meth c Z EL y bytes maxL ret n0 h0 T' h' sf (cells + kc) (slots + ks) ∧ Keep h h' ws ∧ Q v h' ∧ Steps p.tables e below (T.setTop g) (T'.setTop { g with pc := g.pc + 3, stack := v.toList ++ rest }) := by
  have hd := X.cd hd
  obtain ⟨vm0, k0, locs, a0, x1, rfl, x3, x4, x5, x6, x7, x8, x9, x10, x11, x12, CC⟩ := X
  obtain ⟨cq, kq, q1, q2, q3⟩ := isOf (s := s.setVm vm0) (T := T) x6 rfl E
  obtain ⟨v, vm₁, B, hW1, X', hS, -, po, st⟩ := x1.virtualBackS CC.1 x7 (mvT (s := s.setVm vm0) x6 w1) (mvT (s := s.setVm vm0) x6 w2) (notFace_of_selects (args := #[]) (mvT (s := s.setVm vm0) x6 w3)) (mvT (s := s.setVm vm0) x6 w3) (mvT (s := s.setVm vm0) x6 w4) hy (hK vm0 x6 x9.1 (fun x hx => (x10 x (hv x hx)).2)) q1 q3 hg (hsize.trans CC.2.2.1.symm) (Steps.refl _) hlen hstack hW hd (fun _ _ => ⟨ha, rfl, hc, hs⟩)
  obtain ⟨q1, q2, q3⟩ := Wk.aftW X' hS po x4 x5 x6 x7 x8 x9 x10 x11 x12 CC hm
  exact ⟨v, _, _, q1, q2, q3, st⟩
end Calls
end OK
end Jvm.Pilot.@@N@@
namespace Jvm.Pilot.@@N@@
namespace OK
open Jvm Jvm.ClassFile Sem Op Lib Bundle Jvm.Stand Jvm.Free Jvm.LawKit Jvm.RoadKit
theorem ne_new {b a n : Nat} (l : b < n) (g : a = n) : b ≠ a := by omega
theorem ne_ge {b t n : Nat} (l : b < n) (g : n ≤ t) : b ≠ t := by omega
theorem own_nar_ref {v : Value} (hv : v.isRef = true) {t : FieldType} (ht : t.isReference = true) : narrow t v = v := by cases v <;> simp [Value.isRef] at hv <;> cases t <;> rfl
theorem own_fit_ref {v : Value} (hv : v.isRef = true) {t : FieldType} (ht : t.isReference = true) : fits t v = true := by cases v <;> simp [Value.isRef] at hv <;> cases t <;> simp [FieldType.isReference] at ht <;> rfl
theorem up255 (cs : List Int32) (h : ∀ c ∈ cs, ¬ c < 0 ∧ ¬ (255 : Int32) < c) : ∀ c ∈ cs, ¬ c < 0 ∧ ¬ (65535 : Int32) < c := fun c hc => ⟨(h c hc).1, fun q => (h c hc).2 (by rw [Int32.lt_iff_toInt_lt] at q ⊢; have e1 : (65535 : Int32).toInt = 65535 := rfl; have e2 : (255 : Int32).toInt = 255 := rfl; omega)⟩
theorem and255 (x : Int32) : ¬ (x &&& (255 : Int32)) < 0 ∧ ¬ (255 : Int32) < (x &&& (255 : Int32)) := by
  have t : ∀ k : Fin 256, ¬ (Int32.ofNat k.val) < 0 ∧ ¬ (255 : Int32) < (Int32.ofNat k.val) := by decide +kernel
  have h : (x &&& 255).toBitVec.toNat < 256 := by
    simp only [Int32.toBitVec_and, BitVec.toNat_and]
    exact Nat.lt_succ_of_le Nat.and_le_right
  have e : (x &&& 255) = Int32.ofNat (x &&& 255).toBitVec.toNat := by
    apply Int32.toBitVec_inj.mp
    show _ = BitVec.ofNat 32 _
    rw [BitVec.ofNat_toNat]; simp
  rw [e]
  exact t ⟨_, h⟩
theorem c255 (x : Int32) : ¬ (x &&& (255 : Int32)).toUInt32.toUInt16.toUInt32.toInt32 < 0 ∧ ¬ (255 : Int32) < (x &&& (255 : Int32)).toUInt32.toUInt16.toUInt32.toInt32 := by rw [i2c_mask]; exact and255 x
theorem nar_i2c (x : Int32) : nar .char x.toUInt32.toUInt16.toUInt32.toInt32 = x.toUInt32.toUInt16.toUInt32.toInt32 := by simp only [nar, UInt32.toUInt32_toInt32, UInt16.toUInt16_toUInt32]
theorem i2b_idem (c : Int32) : c.toInt8.toInt32.toInt8.toInt32 = c.toInt8.toInt32 := by simp
theorem all1 {P : Int32 → Prop} {a : Int32} {L : List Int32} (q : P a) (r : ∀ x ∈ L, P x) : ∀ x ∈ a :: L, P x := fun x z => (List.mem_cons.mp z).elim (fun u => u ▸ q) (r x)
theorem alln {P : Int32 → Prop} : ∀ x ∈ ([] : List Int32), P x := fun _ q => nomatch q
theorem z01_no {A B : Prop} {r : Int32} (h : (r = 1 ∧ A) ∨ (r = 0 ∧ B)) (z : r = 0) : B := by
  rcases h with ⟨q, _⟩ | ⟨_, q⟩
  · rw [z] at q; exact absurd q (by decide)
  · exact q
theorem z01_yes {A B : Prop} {r : Int32} (h : (r = 1 ∧ A) ∨ (r = 0 ∧ B)) (z : ¬ r = 0) : A := by
  rcases h with ⟨_, q⟩ | ⟨q, _⟩
  · exact q
  · exact absurd q z
theorem z01_b {A B : Prop} {p : Int32} (h : (p = 1 ∧ A) ∨ (p = 0 ∧ B)) : nar .boolean p = p := by rcases h with ⟨rfl, _⟩ | ⟨rfl, _⟩ <;> rfl
theorem z01_eq {A B : Prop} {r q : Int32} (h : A ↔ B) (h1 : (r = 1 ∧ A) ∨ (r = 0 ∧ ¬ A)) (h2 : (q = 1 ∧ B) ∨ (q = 0 ∧ ¬ B)) : r = q := by
  rcases h1 with ⟨rfl, a⟩ | ⟨rfl, a⟩ <;> rcases h2 with ⟨rfl, b⟩ | ⟨rfl, b⟩ <;> first | rfl | exact absurd (h.mp a) b | exact absurd (h.mpr b) a
/-- an object of C, a direct heir of Object, is no K, K another ordinary class -/
theorem notInst {Z : State} {a0 : Array Value} {C K : String} {n : Nat} (w : (Jvm.Cond.superclass C "java/lang/Object").before a0 Z = true) (w0 : (Jvm.Cond.noSuperclass "java/lang/Object").before a0 Z = true) (wi : (Jvm.Cond.instantiable K n).before a0 Z = true) (hn : C ≠ K) (hk : "java/lang/Object" ≠ K) : ∃ c t, Z.vm.findClass C = some c ∧ Z.vm.findClass K = some t ∧ Z.vm.assignable c t = false := by
  obtain ⟨c0, k0, a1, a2, a3, -, -⟩ := Cond.noSuperclass_spec w0
  obtain ⟨t, kt, b1, b2, b3, b4, -⟩ := Cond.instantiable_spec wi
  have ne0 := ids_ne a1 b1 hk
  have N0 : NS Z "java/lang/Object" K := ⟨c0, t, a1, b1, fun fuel => by
    cases fuel with
    | zero => rfl
    | succ f => simp [Vm.isSubclassAux, ne0, a2, a3]⟩
  obtain ⟨c, t', h0, g0, n3⟩ := NS.step w N0 hn
  cases b1.symm.trans g0
  obtain ⟨p, k, kp, h1, h2, h3, h4, h5, -, h7⟩ := Cond.superclass_spec h0 w
  have ne := ids_ne h0 g0 hn
  have b5 : kt.isInterface = false := by cases hq : kt.isInterface <;> simp [hq] at b4 ⊢
  refine ⟨c, t, h0, g0, ?_⟩
  show Z.vm.assignableAux (255 + 1) c t = false
  simp [Vm.assignableAux, ne, h2, b2, h5, b3, b5, Vm.isSubclass, n3]
/-- a String object at x whose byte[] lies at t and that spells cs -/
def Str (Z : State) (h : Heap) (x t : Addr) (cs : List Int32) : Prop := ∃ (kb : ClassId) (cd N : Int32) (vs : List Value), Exa Z h x "java/lang/String" ∧ Fld Z h x "java/lang/String" "value" "[B" (.ref t) ∧ Fld Z h x "java/lang/String" "coder" "B" (.int cd) ∧ Arv Z h t kb .byte N vs (.int 0) ∧ StrChars.Road.CodA cs cd N vs ∧ (∀ c ∈ cs, ¬ c < 0 ∧ ¬ (65535 : Int32) < c) ∧ cs.length ≤ 4000
section Strs
variable {Z : State} {h h' : Heap} {x t : Addr} {cs : List Int32} {ws : List Addr} {n0 : Nat} {a0 : Array Value} {l : Launch} {R : Room} {p : Program} {e : Env} {below : List Frame} {s : State} {args : Array Value} {len W : Nat}
theorem Str.ext (F : Str Z h x t cs) (E : Ext h h') : Str Z h' x t cs := by obtain ⟨kb, cd, N, vs, f1, f2, f3, f4, r⟩ := F; exact ⟨kb, cd, N, vs, f1.ext E, f2.ext E, f3.ext E, f4.ext E, r⟩
theorem Str.keep (F : Str Z h x t cs) (K : Keep h h' ws) (q1 : x ∉ ws) (q2 : t ∉ ws) : Str Z h' x t cs := by obtain ⟨kb, cd, N, vs, f1, f2, f3, f4, r⟩ := F; exact ⟨kb, cd, N, vs, f1.keep K, f2.keep K q1, f3.keep K q1, f4.keep K q2, r⟩
theorem Str.other {a : Addr} {sl : Nat} {v : Value} (F : Str Z h x t cs) (W : Wr h h' a sl v) (q1 : x ≠ a) (q2 : t ≠ a) : Str Z h' x t cs := F.keep (Keep.of_wr W) (ninS q1 nin0) (ninS q2 nin0)
theorem Str.exa (F : Str Z h x t cs) : Exa Z h x "java/lang/String" := by obtain ⟨kb, cd, N, vs, f1, -⟩ := F; exact f1
theorem Str.lt (F : Str Z h x t cs) : x < h.size := F.exa.lt
theorem Str.ltT (F : Str Z h x t cs) : t < h.size := by obtain ⟨kb, cd, N, vs, f1, f2, f3, f4, r⟩ := F; exact f4.lt
theorem Str.lit {kb : ClassId} {N : Int32} {vs : List Value} (f1 : Exa Z h x "java/lang/String") (f3 : Fld Z h x "java/lang/String" "coder" "B" (.int 0)) (f2 : Fld Z h x "java/lang/String" "value" "[B" (.ref t)) (f4 : Arv Z h t kb .byte N vs (.int 0)) (hN : N = Int32.ofNat cs.length) (hv : vs = cs.map fun c => Value.int (StrChars.lo8 c)) (hp : ∀ c ∈ cs, ¬ c < 0 ∧ ¬ (255 : Int32) < c) (hl : cs.length ≤ 4000) : Str Z h x t cs :=
  ⟨kb, 0, N, vs, f1, f2, f3, f4, Or.inl ⟨rfl, hN, hv, fun c hc => (hp c hc).2⟩, up255 cs hp, hl⟩
theorem payNew (hw : ∀ d ∈ StrChars.Road.words, d.before a0 Z = true) (wi : (Jvm.Cond.instantiable "java/lang/String" 4).before a0 Z = true) {bb : Addr} {kC : ClassId} {d v0 c0 : Value} {z N : Int32} {n : Nat} (hO : Old Z n0 h) (hx0 : n0 ≤ x) (E : Exa Z h x "java/lang/String") (V : Fld Z h x "java/lang/String" "value" "[B" v0) (C : Fld Z h x "java/lang/String" "coder" "B" c0) (K : Arv Z h bb kC .char N (cs.map Value.int) d) (S : Sta Z Z.heap "java/lang/String" "COMPACT_STRINGS" "Z" (.int z)) (hz : ¬ z = 0)
    (hn : cs.length = n) (hN : N = Int32.ofNat n) (l0 : 0 < n) (l2 : n ≤ 4000) (hp : ∀ c ∈ cs, ¬ c < 0 ∧ ¬ (255 : Int32) < c) (hfr : 4 ≤ R.frames) (hlo : W + 65 ≤ R.locals) :
    Pay l R p e below s args Z n0 (⟨"java/lang/String", "<init>", "([C)V"⟩ : MethodName) len W #[.ref x, .ref bb] h 1 n [x] (fun v h' => ∃ t : Addr, v = none ∧ h.size ≤ t ∧ t < h'.size ∧ Str Z h' x t cs) := fun vm0 hZ =>
  Back.mono (StrChars.Road.backV (s := s.setVm vm0) hZ hw wi hx0 (by rw [← hO.1]; exact hO.2.1) E V C K (S.ext hO.2) hz hn hN l0 l2 hp rfl hfr hlo) (fun P a hp => hp) (fun P a v B _ hq => by
    obtain ⟨L, ⟨q1, q2, q3, q4, q5, t, kb, t1, t2, t3, q6, q7⟩, hl, hc, hs⟩ := hq
    exact ⟨L, ⟨q3, ⟨t, q1, t2, q7.lt, kb, 0, N, _, q4, q6, q5, q7, hN ▸ StrChars.Road.codOf hn (fun c hc => (hp c hc).2), up255 cs hp, by omega⟩, q2⟩, hl, hc, hs⟩)
end Strs
end OK
end Jvm.Pilot.@@N@@
namespace Jvm.Pilot.@@N@@
namespace OK
open Jvm Jvm.ClassFile Sem Op Lib Bundle Jvm.Stand Jvm.Free Jvm.LawKit Jvm.RoadKit
theorem on_toInt {k : Nat} (h : k ≤ 100000) : (Int32.ofNat k).toInt = k := len_toInt (by omega)
theorem on_lt {a b : Nat} (ha : a ≤ 100000) (hb : b ≤ 100000) : Int32.ofNat a < Int32.ofNat b ↔ a < b := by rw [Int32.lt_iff_toInt_lt, on_toInt ha, on_toInt hb]; omega
theorem on_nn {a : Nat} (ha : a ≤ 100000) : ¬ Int32.ofNat a < 0 := by rw [Int32.lt_iff_toInt_lt, on_toInt ha]; have e : (0 : Int32).toInt = 0 := rfl; omega
theorem on_clamp {a : Nat} (ha : a ≤ 100000) : (Int32.ofNat a).toNatClampNeg = a := by simp only [Int32.toNatClampNeg, on_toInt ha]; omega
theorem on_succ (a : Nat) : Int32.ofNat a + (1 : Int32) = Int32.ofNat (a + 1) := by rw [Int32.ofNat_add]; rfl
theorem on_inj {a b : Nat} (ha : a ≤ 100000) (hb : b ≤ 100000) (h : Int32.ofNat a = Int32.ofNat b) : a = b := by have := congrArg Int32.toInt h; rw [on_toInt ha, on_toInt hb] at this; omega
theorem of255 {x : Int32} (h0 : ¬ x < 0) (h1 : ¬ 255 < x) : ∃ k : Fin 256, x = Int32.ofNat k.val := by
  rw [Int32.lt_iff_toInt_lt] at h0 h1
  have e0 : (0 : Int32).toInt = 0 := rfl
  have e1 : (255 : Int32).toInt = 255 := rfl
  exact ⟨⟨x.toInt.toNat, by omega⟩, by apply Int32.toInt_inj.mp; rw [on_toInt (by show x.toInt.toNat ≤ 100000; omega)]; show x.toInt = (x.toInt.toNat : Int); omega⟩
theorem lo8_back {x : Int32} (h0 : ¬ x < 0) (h1 : ¬ 255 < x) : x.toInt8.toInt32 &&& 255 = x := by
  have t : ∀ k : Fin 256, (Int32.ofNat k.val).toInt8.toInt32 &&& 255 = Int32.ofNat k.val := by decide +kernel
  obtain ⟨k, rfl⟩ := of255 h0 h1
  exact t k
theorem nar255 {x : Int32} (h : ¬ x < 0 ∧ ¬ (255 : Int32) < x) : nar .char x = x := by
  have t : ∀ k : Fin 256, nar .char (Int32.ofNat k.val) = Int32.ofNat k.val := by decide +kernel
  obtain ⟨k, rfl⟩ := of255 h.1 h.2
  exact t k
theorem lo8_inj' {x y : Int32} (h0 : ¬ x < 0) (h1 : ¬ 255 < x) (k0 : ¬ y < 0) (k1 : ¬ 255 < y) (h : x.toInt8.toInt32 = y.toInt8.toInt32) : x = y := by
  rw [← lo8_back h0 h1, ← lo8_back k0 k1, h]
theorem getD_lo8 (cs : List Int32) {k : Nat} (hk : k < cs.length) : (cs.map fun c => Value.int (StrChars.lo8 c)).getD k (.int 0) = .int ((cs.getD k 0).toInt8.toInt32) := by
  simp [List.getD_eq_getElem?_getD, hk, StrChars.lo8]
theorem getD_mem' {cs : List Int32} {k : Nat} (hk : k < cs.length) : cs.getD k 0 ∈ cs := by simp [List.getD_eq_getElem?_getD, hk]
theorem mem_getD' {cs : List Int32} {c : Int32} (h : c ∈ cs) : ∃ k, k < cs.length ∧ cs.getD k 0 = c := by
  obtain ⟨k, hk, e⟩ := List.mem_iff_getElem.mp h
  exact ⟨k, hk, by simp [List.getD_eq_getElem?_getD, hk, e]⟩
theorem nomore {cs : List Int32} {ci : Int32} {kk : Nat} (hno : ∀ j, j < kk → cs.getD j 0 ≠ ci) (hk : cs.getD kk 0 ≠ ci) : ∀ j, j < kk + 1 → cs.getD j 0 ≠ ci := fun j hj => by
  by_cases q : j < kk
  · exact hno j q
  · have z : j = kk := by omega
    subst z; exact hk
section StrL
variable {Z : State} {h h' : Heap} {x t : Addr} {cs : List Int32} {ws : List Addr} {n0 : Nat} {a0 : Array Value} {l : Launch} {R : Room} {p : Program} {e : Env} {below : List Frame} {s : State} {args : Array Value} {len W : Nat}
/-- a Latin-1 String, opened -/
theorem Str.lat (F : Str Z h x t cs) (hp : ∀ c ∈ cs, ¬ (255 : Int32) < c) : ∃ kb : ClassId, Fld Z h x "java/lang/String" "value" "[B" (.ref t) ∧ Fld Z h x "java/lang/String" "coder" "B" (.int (0 : Int32)) ∧ Arv Z h t kb .byte (Int32.ofNat cs.length) (cs.map fun c => Value.int (StrChars.lo8 c)) (.int (0 : Int32)) ∧ cs.length ≤ 4000 := by
  obtain ⟨kb, cd, N, vs, f1, f2, f3, f4, f5, f6, f7⟩ := F
  rcases f5 with ⟨rfl, rfl, rfl, -⟩ | ⟨-, -, -, c, hc, hw⟩
  · exact ⟨kb, f2, f3, f4, f7⟩
  · exact absurd hw (hp c hc)
theorem Str.lenLe (F : Str Z h x t cs) : cs.length ≤ 4000 := by obtain ⟨kb, cd, N, vs, f1, f2, f3, f4, f5, f6, f7⟩ := F; exact f7
end StrL
end OK
end Jvm.Pilot.@@N@@
namespace Jvm.Pilot.@@N@@
namespace OK
open Jvm Jvm.ClassFile Sem Op Lib Bundle Jvm.Stand Jvm.Free Jvm.LawKit Jvm.RoadKit
section StrLen
variable {Z : State} {h h' : Heap} {x t : Addr} {cs : List Int32} {ws : List Addr} {n0 : Nat} {a0 : Array Value} {l : Launch} {R : Room} {p : Program} {e : Env} {below : List Frame} {s : State} {args : Array Value} {len W : Nat}
theorem payLen (hw : ∀ d ∈ StrChars.Road.wordsLen, d.before a0 Z = true) (wi : (Jvm.Cond.instantiable "java/lang/String" 4).before a0 Z = true) (hO : Old Z n0 h) {z : Int32} (F : Str Z h x t cs) (S : Sta Z Z.heap "java/lang/String" "COMPACT_STRINGS" "Z" (.int z)) (hz : ¬ z = 0) (hfr : 2 ≤ R.frames) (hlo : W + 25 ≤ R.locals) :
    Pay l R p e below s args Z n0 (⟨"java/lang/String", "length", "()I"⟩ : MethodName) len W #[.ref x] h 0 0 [] (fun v h' => v = some (.int (Int32.ofNat cs.length)) ∧ h = h') := fun vm0 hZ => by
  obtain ⟨kb, cd, N, vs, f1, f2, f3, f4, f5, f6, f7⟩ := F
  refine Back.mono (StrChars.Road.lenW (s := s.setVm vm0) hZ hw wi f1 f2 f3 f4 f5 f6 (S.ext hO.2) hz f7 hfr hlo) (fun P a hp => hp) (fun P a v B _ hq => ?_)
  obtain ⟨L, ⟨q1, q2, q3⟩, hl, hc, hs⟩ := hq
  subst q2
  exact ⟨[], ⟨by rw [q3]; exact Keep.refl _ _, ⟨q1, q3.symm⟩, Fr.nil _⟩, hl, hc, hs⟩
end StrLen
end OK
end Jvm.Pilot.@@N@@
namespace Jvm.Pilot.@@N@@
namespace OK
open Jvm Jvm.ClassFile Sem Op Lib Bundle Jvm.Stand Jvm.Free Jvm.LawKit Jvm.RoadKit
section StrC
variable {Z : State} {h h' : Heap} {x t : Addr} {cs : List Int32} {ws : List Addr} {n0 : Nat} {a0 : Array Value} {l : Launch} {R : Room} {p : Program} {e : Env} {below : List Frame} {s : State} {args : Array Value} {len W : Nat}
theorem payCh (hw : ∀ d ∈ StrChars.Road.wordsChN, d.before a0 Z = true) (wi : (Jvm.Cond.instantiable "java/lang/String" 4).before a0 Z = true) (hO : Old Z n0 h) {z : Int32} {fm : Value} {i : Nat} (F : Str Z h x t cs) (hp : ∀ c ∈ cs, ¬ (255 : Int32) < c) (S : Sta Z Z.heap "java/lang/String" "COMPACT_STRINGS" "Z" (.int z)) (hz : ¬ z = 0) (G : Sta Z Z.heap "jdk/internal/util/Preconditions" "SIOOBE_FORMATTER" "Ljava/util/function/BiFunction;" fm) (rf : fm.isRef = true) (hi : i < cs.length) (hfr : 4 ≤ R.frames) (hlo : W + 53 ≤ R.locals) :
    Pay l R p e below s args Z n0 (⟨"java/lang/String", "charAt", "(I)C"⟩ : MethodName) len W #[.ref x, .int (Int32.ofNat i)] h 0 0 [] (fun v h' => v = some (.int (cs.getD i 0)) ∧ h = h') := fun vm0 hZ => by
  obtain ⟨kb, f2, f3, f4, f7⟩ := F.lat hp
  obtain ⟨kb', cd, N, vs, f1, g2, g3, g4, g5, g6, -⟩ := F
  refine Back.mono (StrChars.Road.chN (s := s.setVm vm0) hZ hw wi f1 f2 f3 f4 (Or.inl ⟨rfl, rfl, rfl, hp⟩) g6 (S.ext hO.2) hz (G.ext hO.2) rf f7 hi rfl hfr hlo) (fun P a hp => hp) (fun P a v B _ hq => ?_)
  obtain ⟨L, ⟨q1, q2, q3⟩, hl, hc, hs⟩ := hq
  subst q2
  exact ⟨[], ⟨by rw [q3]; exact Keep.refl _ _, ⟨q1, q3.symm⟩, Fr.nil _⟩, hl, hc, hs⟩
end StrC
end OK
end Jvm.Pilot.@@N@@
namespace Jvm.Pilot.@@N@@
namespace OK
open Jvm Jvm.ClassFile Sem Op Lib Bundle Jvm.Stand Jvm.Free Jvm.LawKit Jvm.RoadKit
section Calls6
variable {b : Bool} {p : Program} {l : Launch} {e : Env} {R : Room} {s : State} {m : MethodId} {args : Array Value} {below : List Frame} {meth : Method} {c : Code} {Z : State} {EL : List (String × Nat)} {y : MethodName} {bytes : ByteArray} {maxL : Nat} {ret : Option FieldType} {n0 : Nat} {h0 : Heap} {T : State} {h h' : Heap} {sf ws sv : List Addr} {cells slots : Nat} {a1 : Array Value} {Q : Option Value → Heap → Prop} {y' z' : MethodName} {index W kc ks : Nat} {as' : Array Value}
theorem Wk.pvN (X : Wk b p l e R s m args below meth c Z EL y bytes maxL ret n0 h0 T h sf cells slots) (w1 : (Cond.methodLink y.cls index y').before a1 Z = true) (w2 : (Cond.instanceMethod y').before a1 Z = true) (w3 : (Cond.selects y'.cls y' y').before a1 Z = true) (w4 : (Cond.privateMethod y').before a1 Z = true) {bytes' : ByteArray} {maxL' : Nat} {ret' : Option FieldType} (w5 : (Cond.code y' bytes' maxL' ret').before a1 Z = true) (hy : y'.cls ≠ "java/lang/invoke/MethodHandle" ∧ y'.cls ≠ "java/lang/invoke/VarHandle")
    (hK : Pay l R p e below s args Z n0 y' 3 W as' h kc ks ws Q) (hm : ∀ x ∈ ws, x ∈ sf) {C : String} {a : Addr} (E : Exa Z h a C) {g : JFrame} (hg : g.method = m) (hsize : g.locals.size = maxL) {argsL rest : List Value} (hlen : ∀ sig, parseMethodDescriptor y'.desc = some sig → argsL.length = sig.parameters.length) (hstack : g.stack = argsL.reverse ++ .ref a :: rest) (hW : 2 * g.monitorRoom + (rest.map fun v => v.category).sum ≤ W)
    (hd : decode bytes g.pc = .ok (.invokevirtual index, 3)) (ha : (.ref a :: argsL).toArray = as') (hc : cells + kc ≤ R.cells) (hs : slots + ks ≤ R.slots) :
    ∃ (v : Option Value) (T' : State) (h' : Heap), Wk b p l e R s m args below meth c Z EL y bytes maxL ret n0 h0 T' h' sf (cells + kc) (slots + ks) ∧ Keep h h' ws ∧ Q v h' ∧ Steps p.tables e below (T.setTop g) (T'.setTop { g with pc := g.pc + 3, stack := v.toList ++ rest }) := by
  have hd := X.cd hd
  obtain ⟨vm0, k0, locs, a0, x1, rfl, x3, x4, x5, x6, x7, x8, x9, x10, x11, x12, CC⟩ := X
  obtain ⟨cl, q1, q2⟩ := E.cell
  obtain ⟨v, vm₁, B, hW1, X', po, st⟩ := x1.privateBack CC.1 x7 (mvT (s := s.setVm vm0) x6 w1) (mvT (s := s.setVm vm0) x6 w2) (mvT (s := s.setVm vm0) x6 w3) (Cond.privateMethod_at (mvP (args := args) (s := s.setVm vm0) x6 w4)) (mvT (s := s.setVm vm0) x6 w5) hy (hK vm0 x6) hg (hsize.trans CC.2.2.1.symm) (Steps.refl _) q1 q2 hlen hstack hW hd (fun _ _ => ⟨ha, rfl, hc, hs⟩)
  obtain ⟨q1, q2, q3⟩ := Wk.aftN X' po x3 x4 x5 x6 x7 x8 x9 x10 x11 x12 CC hm
  exact ⟨v, _, _, q1, q2, q3, st⟩
theorem Wk.ifN (X : Wk b p l e R s m args below meth c Z EL y bytes maxL ret n0 h0 T h sf cells slots) {C : String} {count : Nat} (w1 : (Cond.methodLink y.cls index y').before a1 Z = true) (w2 : (Cond.declares y').before a1 Z = true) (w3 : (Cond.interfaceMethod y'.cls y'.cls y'.name y'.desc).before a1 Z = true) (k3 : ((Cond.interfaceMethod y'.cls y'.cls y'.name y'.desc).onTables && (Cond.interfaceMethod y'.cls y'.cls y'.name y'.desc).keepsFace) = true) (w4 : (Cond.selects C y' z').before a1 Z = true) (w5 : (Cond.instanceMethod z').before a1 Z = true) (w6 : (Cond.publicMethod z').before a1 Z = true) (w7 : (Cond.unhidden C y'.name y'.desc).before a1 Z = true) (w8 : (Cond.castable C y'.cls).before a1 Z = true) (hy : y'.cls ≠ "java/lang/invoke/MethodHandle" ∧ y'.cls ≠ "java/lang/invoke/VarHandle")
    (hK : Pay l R p e below s args Z n0 z' 5 W as' h kc ks ws Q) (hm : ∀ x ∈ ws, x ∈ sf) {a : Addr} (E : Exa Z h a C) {g : JFrame} (hg : g.method = m) (hsize : g.locals.size = maxL) {argsL rest : List Value} (hlen : ∀ sig, parseMethodDescriptor y'.desc = some sig → argsL.length = sig.parameters.length) (hstack : g.stack = argsL.reverse ++ .ref a :: rest) (hW : 2 * g.monitorRoom + (rest.map fun v => v.category).sum ≤ W)
    (hd : decode bytes g.pc = .ok (.invokeinterface index count, 5)) (ha : (.ref a :: argsL).toArray = as') (hc : cells + kc ≤ R.cells) (hs : slots + ks ≤ R.slots) :
    ∃ (v : Option Value) (T' : State) (h' : Heap), Wk b p l e R s m args below meth c Z EL y bytes maxL ret n0 h0 T' h' sf (cells + kc) (slots + ks) ∧ Keep h h' ws ∧ Q v h' ∧ Steps p.tables e below (T.setTop g) (T'.setTop { g with pc := g.pc + 5, stack := v.toList ++ rest }) := by
  have hd := X.cd hd
  obtain ⟨vm0, k0, locs, a0, x1, rfl, x3, x4, x5, x6, x7, x8, x9, x10, x11, x12, CC⟩ := X
  obtain ⟨cq, kq, q1, q2, q3⟩ := isOf (s := s.setVm vm0) (T := T) x6 rfl E
  obtain ⟨v, vm₁, B, hW1, X', po, st⟩ := x1.interfaceBack CC.1 x7 (mvT (s := s.setVm vm0) x6 w1) (mvT (s := s.setVm vm0) x6 w2) (mvT (s := s.setVm vm0) x6 w3 k3) (mvT (s := s.setVm vm0) x6 w4) (mvT (s := s.setVm vm0) x6 w5) (mvT (s := s.setVm vm0) x6 w6) (mvT (s := s.setVm vm0) x6 w7) (mvT (s := s.setVm vm0) x6 w8) hy (hK vm0 x6) q1 q2 q3 hg (hsize.trans CC.2.2.1.symm) (Steps.refl _) hlen hstack hW hd (fun _ _ => ⟨ha, rfl, hc, hs⟩)
  obtain ⟨q1, q2, q3⟩ := Wk.aftN X' po x3 x4 x5 x6 x7 x8 x9 x10 x11 x12 CC hm
  exact ⟨v, _, _, q1, q2, q3, st⟩
theorem Wk.voN (X : Wk b p l e R s m args below meth c Z EL y bytes maxL ret n0 h0 T h sf cells slots) {C : String} (w1 : (Cond.methodLink y.cls index y').before a1 Z = true) (w2 : (Cond.declares y').before a1 Z = true) (hnf : ∀ vm0, Z.Warmed39 vm0 → NotFace (s.setVm vm0) y') (w3 : (Cond.selects C y' z').before a1 Z = true) (w4 : (Cond.instanceMethod z').before a1 Z = true) (hy : y'.cls ≠ "java/lang/invoke/MethodHandle" ∧ y'.cls ≠ "java/lang/invoke/VarHandle")
    (hK : Pay l R p e below s args Z n0 z' 3 W as' h kc ks ws Q) (hm : ∀ x ∈ ws, x ∈ sf) {a : Addr} (E : Exa Z h a C) {g : JFrame} (hg : g.method = m) (hsize : g.locals.size = maxL) {argsL rest : List Value} (hlen : ∀ sig, parseMethodDescriptor y'.desc = some sig → argsL.length = sig.parameters.length) (hstack : g.stack = argsL.reverse ++ .ref a :: rest) (hW : 2 * g.monitorRoom + (rest.map fun v => v.category).sum ≤ W)
    (hd : decode bytes g.pc = .ok (.invokevirtual index, 3)) (ha : (.ref a :: argsL).toArray = as') (hc : cells + kc ≤ R.cells) (hs : slots + ks ≤ R.slots) :
    ∃ (v : Option Value) (T' : State) (h' : Heap), Wk b p l e R s m args below meth c Z EL y bytes maxL ret n0 h0 T' h' sf (cells + kc) (slots + ks) ∧ Keep h h' ws ∧ Q v h' ∧ Steps p.tables e below (T.setTop g) (T'.setTop { g with pc := g.pc + 3, stack := v.toList ++ rest }) := by
  have hd := X.cd hd
  obtain ⟨vm0, k0, locs, a0, x1, rfl, x3, x4, x5, x6, x7, x8, x9, x10, x11, x12, CC⟩ := X
  obtain ⟨cq, kq, q1, q2, q3⟩ := isOf (s := s.setVm vm0) (T := T) x6 rfl E
  obtain ⟨v, vm₁, B, hW1, X', po, st⟩ := x1.virtualBack CC.1 x7 (mvT (s := s.setVm vm0) x6 w1) (mvT (s := s.setVm vm0) x6 w2) (hnf vm0 x6) (mvT (s := s.setVm vm0) x6 w3) (mvT (s := s.setVm vm0) x6 w4) hy (hK vm0 x6) q1 q3 hg (hsize.trans CC.2.2.1.symm) (Steps.refl _) hlen hstack hW hd (fun _ _ => ⟨ha, rfl, hc, hs⟩)
  obtain ⟨q1, q2, q3⟩ := Wk.aftN X' po x3 x4 x5 x6 x7 x8 x9 x10 x11 x12 CC hm
  exact ⟨v, _, _, q1, q2, q3, st⟩
theorem Wk.pvW (X : Wk true p l e R s m args below meth c Z EL y bytes maxL ret n0 h0 T h sf cells slots) (w1 : (Cond.methodLink y.cls index y').before a1 Z = true) (w2 : (Cond.instanceMethod y').before a1 Z = true) (w3 : (Cond.selects y'.cls y' y').before a1 Z = true) (w4 : (Cond.privateMethod y').before a1 Z = true) {bytes' : ByteArray} {maxL' : Nat} {ret' : Option FieldType} (w5 : (Cond.code y' bytes' maxL' ret').before a1 Z = true) (hy : y'.cls ≠ "java/lang/invoke/MethodHandle" ∧ y'.cls ≠ "java/lang/invoke/VarHandle")
    (hK : PayW l R p e below s args Z EL n0 y' 3 W as' h kc ks ws sv Q) (hm : ∀ x ∈ ws, x ∈ sf) (hv : ∀ x ∈ sv, x ∈ sf) {C : String} {a : Addr} (E : Exa Z h a C) {g : JFrame} (hg : g.method = m) (hsize : g.locals.size = maxL) {argsL rest : List Value} (hlen : ∀ sig, parseMethodDescriptor y'.desc = some sig → argsL.length = sig.parameters.length) (hstack : g.stack = argsL.reverse ++ .ref a :: rest) (hW : 2 * g.monitorRoom + (rest.map fun v => v.category).sum ≤ W)
    (hd : decode bytes g.pc = .ok (.invokevirtual index, 3)) (ha : (.ref a :: argsL).toArray = as') (hc : cells + kc ≤ R.cells) (hs : slots + ks ≤ R.slots) :
    ∃ (v : Option Value) (T' : State) (h' : Heap), Wk true p l e R s m args below meth c Z EL y bytes maxL ret n0 h0 T' h' sf (cells + kc) (slots + ks) ∧ Keep h h' ws ∧ Q v h' ∧ Steps p.tables e below (T.setTop g) (T'.setTop { g with pc := g.pc + 3, stack := v.toList ++ rest }) := by
  have hd := X.cd hd
  obtain ⟨vm0, k0, locs, a0, x1, rfl, x3, x4, x5, x6, x7, x8, x9, x10, x11, x12, CC⟩ := X
  obtain ⟨cl, q1, q2⟩ := E.cell
  obtain ⟨v, vm₁, B, hW1, X', hS, -, po, st⟩ := x1.privateBackS CC.1 x7 (mvT (s := s.setVm vm0) x6 w1) (mvT (s := s.setVm vm0) x6 w2) (mvT (s := s.setVm vm0) x6 w3) (Cond.privateMethod_at (mvP (args := args) (s := s.setVm vm0) x6 w4)) (mvT (s := s.setVm vm0) x6 w5) hy (hK vm0 x6 x9.1 (fun x hx => (x10 x (hv x hx)).2)) hg (hsize.trans CC.2.2.1.symm) (Steps.refl _) q1 q2 hlen hstack hW hd (fun _ _ => ⟨ha, rfl, hc, hs⟩)
  obtain ⟨q1, q2, q3⟩ := Wk.aftW X' hS po x4 x5 x6 x7 x8 x9 x10 x11 x12 CC hm
  exact ⟨v, _, _, q1, q2, q3, st⟩
theorem Wk.ifW (X : Wk true p l e R s m args below meth c Z EL y bytes maxL ret n0 h0 T h sf cells slots) {C : String} {count : Nat} (w1 : (Cond.methodLink y.cls index y').before a1 Z = true) (w2 : (Cond.declares y').before a1 Z = true) (w3 : (Cond.interfaceMethod y'.cls y'.cls y'.name y'.desc).before a1 Z = true) (k3 : ((Cond.interfaceMethod y'.cls y'.cls y'.name y'.desc).onTables && (Cond.interfaceMethod y'.cls y'.cls y'.name y'.desc).keepsFace) = true) (w4 : (Cond.selects C y' z').before a1 Z = true) (w5 : (Cond.instanceMethod z').before a1 Z = true) (w6 : (Cond.publicMethod z').before a1 Z = true) (w7 : (Cond.unhidden C y'.name y'.desc).before a1 Z = true) (w8 : (Cond.castable C y'.cls).before a1 Z = true) (hy : y'.cls ≠ "java/lang/invoke/MethodHandle" ∧ y'.cls ≠ "java/lang/invoke/VarHandle")
    (hK : PayW l R p e below s args Z EL n0 z' 5 W as' h kc ks ws sv Q) (hm : ∀ x ∈ ws, x ∈ sf) (hv : ∀ x ∈ sv, x ∈ sf) {a : Addr} (E : Exa Z h a C) {g : JFrame} (hg : g.method = m) (hsize : g.locals.size = maxL) {argsL rest : List Value} (hlen : ∀ sig, parseMethodDescriptor y'.desc = some sig → argsL.length = sig.parameters.length) (hstack : g.stack = argsL.reverse ++ .ref a :: rest) (hW : 2 * g.monitorRoom + (rest.map fun v => v.category).sum ≤ W)
    (hd : decode bytes g.pc = .ok (.invokeinterface index count, 5)) (ha : (.ref a :: argsL).toArray = as') (hc : cells + kc ≤ R.cells) (hs : slots + ks ≤ R.slots) :
    ∃ (v : Option Value) (T' : State) (h' : Heap), Wk true p l e R s m args below meth c Z EL y bytes maxL ret n0 h0 T' h' sf (cells + kc) (slots + ks) ∧ Keep h h' ws ∧ Q v h' ∧ Steps p.tables e below (T.setTop g) (T'.setTop { g with pc := g.pc + 5, stack := v.toList ++ rest }) := by
  have hd := X.cd hd
  obtain ⟨vm0, k0, locs, a0, x1, rfl, x3, x4, x5, x6, x7, x8, x9, x10, x11, x12, CC⟩ := X
  obtain ⟨cq, kq, q1, q2, q3⟩ := isOf (s := s.setVm vm0) (T := T) x6 rfl E
  obtain ⟨v, vm₁, B, hW1, X', hS, -, po, st⟩ := x1.interfaceBackS CC.1 x7 (mvT (s := s.setVm vm0) x6 w1) (mvT (s := s.setVm vm0) x6 w2) (mvT (s := s.setVm vm0) x6 w3 k3) (mvT (s := s.setVm vm0) x6 w4) (mvT (s := s.setVm vm0) x6 w5) (mvT (s := s.setVm vm0) x6 w6) (mvT (s := s.setVm vm0) x6 w7) (mvT (s := s.setVm vm0) x6 w8) hy (hK vm0 x6 x9.1 (fun x hx => (x10 x (hv x hx)).2)) q1 q2 q3 hg (hsize.trans CC.2.2.1.symm) (Steps.refl _) hlen hstack hW hd (fun _ _ => ⟨ha, rfl, hc, hs⟩)
  obtain ⟨q1, q2, q3⟩ := Wk.aftW X' hS po x4 x5 x6 x7 x8 x9 x10 x11 x12 CC hm
  exact ⟨v, _, _, q1, q2, q3, st⟩
theorem Wk.voW (X : Wk true p l e R s m args below meth c Z EL y bytes maxL ret n0 h0 T h sf cells slots) {C : String} (w1 : (Cond.methodLink y.cls index y').before a1 Z = true) (w2 : (Cond.declares y').before a1 Z = true) (hnf : ∀ vm0, Z.Warmed39 vm0 → NotFace (s.setVm vm0) y') (w3 : (Cond.selects C y' z').before a1 Z = true) (w4 : (Cond.instanceMethod z').before a1 Z = true) (hy : y'.cls ≠ "java/lang/invoke/MethodHandle" ∧ y'.cls ≠ "java/lang/invoke/VarHandle")
    (hK : PayW l R p e below s args Z EL n0 z' 3 W as' h kc ks ws sv Q) (hm : ∀ x ∈ ws, x ∈ sf) (hv : ∀ x ∈ sv, x ∈ sf) {a : Addr} (E : Exa Z h a C) {g : JFrame} (hg : g.method = m) (hsize : g.locals.size = maxL) {argsL rest : List Value} (hlen : ∀ sig, parseMethodDescriptor y'.desc = some sig → argsL.length = sig.parameters.length) (hstack : g.stack = argsL.reverse ++ .ref a :: rest) (hW : 2 * g.monitorRoom + (rest.map fun v => v.category).sum ≤ W)
    (hd : decode bytes g.pc = .ok (.invokevirtual index, 3)) (ha : (.ref a :: argsL).toArray = as') (hc : cells + kc ≤ R.cells) (hs : slots + ks ≤ R.slots) :
    ∃ (v : Option Value) (T' : State) (h' : Heap), Wk true p l e R s m args below meth c Z EL y bytes maxL ret n0 h0 T' h' sf (cells + kc) (slots + ks) ∧ Keep h h' ws ∧ Q v h' ∧ Steps p.tables e below (T.setTop g) (T'.setTop { g with pc := g.pc + 3, stack := v.toList ++ rest }) := by
  have hd := X.cd hd
  obtain ⟨vm0, k0, locs, a0, x1, rfl, x3, x4, x5, x6, x7, x8, x9, x10, x11, x12, CC⟩ := X
  obtain ⟨cq, kq, q1, q2, q3⟩ := isOf (s := s.setVm vm0) (T := T) x6 rfl E
  obtain ⟨v, vm₁, B, hW1, X', hS, -, po, st⟩ := x1.virtualBackS CC.1 x7 (mvT (s := s.setVm vm0) x6 w1) (mvT (s := s.setVm vm0) x6 w2) (hnf vm0 x6) (mvT (s := s.setVm vm0) x6 w3) (mvT (s := s.setVm vm0) x6 w4) hy (hK vm0 x6 x9.1 (fun x hx => (x10 x (hv x hx)).2)) q1 q3 hg (hsize.trans CC.2.2.1.symm) (Steps.refl _) hlen hstack hW hd (fun _ _ => ⟨ha, rfl, hc, hs⟩)
  obtain ⟨q1, q2, q3⟩ := Wk.aftW X' hS po x4 x5 x6 x7 x8 x9 x10 x11 x12 CC hm
  exact ⟨v, _, _, q1, q2, q3, st⟩
theorem Wk.addE (X : Wk b p l e R s m args below meth c Z EL y bytes maxL ret n0 h0 T h sf cells slots) {C : String} {a : Addr} (E : Exa Z h a C) (h1 : C ≠ "java/lang/String") (h2 : C ≠ "[B") (hn : n0 ≤ a) : Wk b p l e R s m args below meth c Z EL y bytes maxL ret n0 h0 T h (a :: sf) cells slots := by
  obtain ⟨vm0, k0, locs, a0, x1, x2, x3, x4, x5, x6, x7, x8, x9, x10, x11⟩ := X
  exact ⟨vm0, k0, locs, a0, x1, x2, x3, x4, x5, x6, x7, x8, x9, fun z hz => (List.mem_cons.mp hz).elim (fun q => by subst q; exact ⟨hn, E.lt, Safe.exa x6.alike E h1 h2⟩) (x10 z), x11⟩
theorem Wk.addA (X : Wk b p l e R s m args below meth c Z EL y bytes maxL ret n0 h0 T h sf cells slots) {a : Addr} {k : ClassId} {ty : FieldType} {n : Int32} {vs : List Value} {dv : Value} (F : Arv Z h a k ty n vs dv) (h1 : ty ≠ .byte) (hn : n0 ≤ a) : Wk b p l e R s m args below meth c Z EL y bytes maxL ret n0 h0 T h (a :: sf) cells slots := by
  obtain ⟨vm0, k0, locs, a0, x1, x2, x3, x4, x5, x6, x7, x8, x9, x10, x11⟩ := X
  exact ⟨vm0, k0, locs, a0, x1, x2, x3, x4, x5, x6, x7, x8, x9, fun z hz => (List.mem_cons.mp hz).elim (fun q => by subst q; exact ⟨hn, F.lt, Safe.arv x6.alike F h1⟩) (x10 z), x11⟩
theorem ins_keep {a : Addr} {C : String} {bo : Bool} (F : Ins Z h a C bo) (K : Keep h h' ws) : Ins Z h' a C bo := by
  obtain ⟨cell, k, h1, h2, h3⟩ := F
  obtain ⟨c2, q, r1, r2, r3⟩ := K.2.2 a cell h1
  exact ⟨c2, k, q, h2, by rw [r1, r2]; exact h3⟩
end Calls6
end OK
end Jvm.Pilot.@@N@@
namespace Jvm.Pilot.@@N@@
open Jvm Jvm.ClassFile Sem Op Lib Jvm.Free Jvm.Stand Jvm.LawKit Jvm.RoadKit Bundle Jvm.Pilot.@@N@@.Jvm.D Jvm.Pilot.@@N@@.OK
abbrev EL : List (String × Nat) := [("java/lang/String", 7)]
theorem own_SA {Z : State} {a0 : Array Value} (hw : ∀ d ∈ tables_1, d.before a0 Z = true) : ∀ a ∈ Bundle.stringAtoms, a.before a0 Z = true := fun d hd => hw d ((by decide +kernel : ∀ d ∈ Bundle.stringAtoms, d ∈ tables_1) d hd)
theorem own_EW {Z : State} {a0 : Array Value} (hw : ∀ d ∈ tables_1, d.before a0 Z = true) : EW Z a0 EL := (EW.cons (hw _ (List.mem_of_getElem? (i := 223) rfl)) (by decide) EW.nil)
theorem own_col {o l k : Int32} (h : l + 1 = k) : (o - k) + 1 = o - l := by subst h; grind
theorem own_rem (k : Int32) {n : Int32} {N : Nat} (hn : n.toInt = N) (h0 : 0 < N) : ∃ j, j < N ∧ (k &&& (2147483647 : Int32)) % n = Int32.ofNat j := by
  have h1 : ¬ (k &&& (2147483647 : Int32)) < 0 := fun q => absurd ((XT.and_neg32 _ _).mp q).2 (by decide)
  generalize k &&& (2147483647 : Int32) = x at h1
  rw [Int32.lt_iff_toInt_lt] at h1
  have e0 : (0 : Int32).toInt = 0 := rfl
  rw [e0] at h1
  have h2 : (x % n).toInt = x.toInt % (N : Int) := by rw [Int32.toInt_mod, hn, Int.tmod_eq_emod_of_nonneg (by omega)]
  have h3 := Int.emod_nonneg x.toInt (show (N : Int) ≠ 0 by omega)
  have h4 := Int.emod_lt_of_pos x.toInt (show (0 : Int) < N by omega)
  have h5 := Int32.toInt_lt n
  refine ⟨(x.toInt % (N : Int)).toNat, by omega, Int32.toInt_inj.mp ?_⟩
  rw [h2, show (Int32.ofNat (x.toInt % (N : Int)).toNat).toInt = ((x.toInt % (N : Int)).toNat : Int) from len_toInt (by omega)]; omega
def own_pre (cs : List Int32) : Nat → List Nat
  | 0 => [0]
  | k + 1 => if cs.getD k 0 = 10 then own_pre cs k ++ [k + 1] else own_pre cs k
theorem own_pre_len (cs : List Int32) (k : Nat) : (own_pre cs k).length ≤ k + 1 ∧ 1 ≤ (own_pre cs k).length ∧ (own_pre cs k).getD 0 0 = 0 := by
  induction k with
  | zero => exact ⟨Nat.le_refl _, Nat.le_refl _, rfl⟩
  | succ k ih =>
    unfold own_pre
    split
    · obtain ⟨i1, i2, i3⟩ := ih
      refine ⟨by simp; omega, by simp, ?_⟩
      rw [List.getD_eq_getElem?_getD, List.getElem?_append_left (by omega), ← List.getD_eq_getElem?_getD]; exact i3
    · exact ⟨by omega, ih.2⟩
theorem own_pre_le (cs : List Int32) (k : Nat) : ∀ n ∈ own_pre cs k, n ≤ k := by
  induction k with
  | zero => intro n h; simp [own_pre] at h; omega
  | succ k ih =>
    unfold own_pre
    split
    · intro n h
      rcases List.mem_append.mp h with h | h
      · exact Nat.le_succ_of_le (ih n h)
      · simp at h; omega
    · intro n h; exact Nat.le_succ_of_le (ih n h)
theorem own_g5 {ns : List Nat} {k : Nat} (h : ∀ n ∈ ns, n ≤ k) (j : Nat) : ns.getD j 0 ≤ k := by
  rw [List.getD_eq_getElem?_getD]
  cases q : ns[j]? with
  | none => exact Nat.zero_le _
  | some v => exact h v (List.mem_of_getElem? q)
theorem own_pre_y {cs : List Int32} {k : Nat} (h : cs.getD k 0 = 10) : own_pre cs (k + 1) = own_pre cs k ++ [k + 1] := if_pos h
theorem own_pre_n {cs : List Int32} {k : Nat} (h : ¬ cs.getD k 0 = 10) : own_pre cs (k + 1) = own_pre cs k := if_neg h
theorem own_pad (d : Value) (vs : List Value) (i : Nat) : (vs ++ [d]).getD i d = vs.getD i d := by
  simp only [List.getD_eq_getElem?_getD]
  by_cases h : i < vs.length
  · rw [List.getElem?_append_left h]
  · rw [List.getElem?_append_right (by omega), List.getElem?_eq_none (show vs.length ≤ i by omega)]
    cases q : i - vs.length with
    | zero => rfl
    | succ k => rfl
theorem own_pad0 (d : Value) (k i : Nat) : ([] : List Value).getD i d = (List.replicate k d).getD i d := (rep_get d k i).symm
theorem own_set (vs : List Value) (u v : Value) {N : Nat} (h : vs.length = N) : (vs ++ [u]).set N v = vs ++ [v] := by subst h; simp
theorem own_gm {iv : Nat → Addr} {ns : List Nat} {j : Nat} (h : j < ns.length) : (ns.map fun n => Value.ref (iv n)).getD j .null = .ref (iv (ns.getD j 0)) := by simp [List.getD_eq_getElem?_getD, h]
theorem own_gi {ns : List Nat} {j : Nat} (h : j < ns.length) : (ns.map fun n => Value.int (Int32.ofNat n)).getD j (.int (0 : Int32)) = .int (Int32.ofNat (ns.getD j 0)) := by simp [List.getD_eq_getElem?_getD, h]
theorem own_tk {ns : List Nat} {j : Nat} (h : j < ns.length) : ((ns.take (j + 1)).map fun n => Value.int (Int32.ofNat n)) = ((ns.take j).map fun n => Value.int (Int32.ofNat n)) ++ [Value.int (Int32.ofNat (ns.getD j 0))] := by rw [List.take_add_one, List.map_append]; congr 1; simp [List.getD_eq_getElem?_getD, h]
theorem own_on {a b : Nat} : Int32.ofNat a + Int32.ofNat b = Int32.ofNat (a + b) := (Int32.ofNat_add a b).symm
theorem own_v1 {n : Nat} (h : n ≤ 5) : ¬ Int32.ofNat n < (-128 : Int32) := by rw [Int32.lt_iff_toInt_lt, on_toInt (by omega)]; have e : (-128 : Int32).toInt = -128 := rfl; omega
theorem own_v2 {n : Nat} (h : n ≤ 5) : ¬ (127 : Int32) < Int32.ofNat n := by rw [Int32.lt_iff_toInt_lt, on_toInt (by omega)]; have e : (127 : Int32).toInt = 127 := rfl; omega
theorem own_v3 {n : Nat} (h : n ≤ 5) : ¬ (Int32.ofNat n + (128 : Int32)) < 0 ∧ (Int32.ofNat n + (128 : Int32)) < (256 : Int32) := by rw [show Int32.ofNat n + (128 : Int32) = Int32.ofNat (n + 128) from own_on]; exact ⟨on_nn (by omega), (on_lt (b := 256) (by omega) (by omega)).mpr (by omega)⟩
theorem own_v4 {n : Nat} (h : n ≤ 5) : (Int32.ofNat n + (128 : Int32)).toNatClampNeg = n + 128 := by rw [show Int32.ofNat n + (128 : Int32) = Int32.ofNat (n + 128) from own_on]; exact on_clamp (by omega)
theorem own_n10 {N : Nat} (h : N < 10) : ¬ Int32.ofNat N = (10 : Int32) := fun q => by have := on_inj (b := 10) (by omega) (by omega) q; omega
theorem own_mid : ∀ a b : Fin 8, XT.ushr ((Int32.ofNat a.val + Int32.ofNat b.val) + (1 : Int32)) (1 : Int32) = Int32.ofNat ((a.val + b.val + 1) / 2) := by decide +kernel
theorem own_pred {a : Nat} (h : 1 ≤ a) : Int32.ofNat a - (1 : Int32) = Int32.ofNat (a - 1) := by obtain ⟨k, rfl⟩ : ∃ k, a = k + 1 := ⟨a - 1, by omega⟩; rw [← on_succ]; simp
theorem own_nz {n : Nat} (h : n < 6) : ¬ Int32.ofNat n + (1 : Int32) = 0 := fun q => by rw [on_succ] at q; have := on_inj (b := 0) (by omega) (by omega) q; omega
theorem own_last {n : Nat} (h : n < 6) (c0 : ¬ Int32.ofNat n = 0) (c1 : ¬ Int32.ofNat n = 1) (c2 : ¬ Int32.ofNat n = 2) (c3 : ¬ Int32.ofNat n = 3) (c4 : ¬ Int32.ofNat n = 4) : n = 5 := by
  have h0 : n ≠ 0 := fun q => c0 (by rw [q]; rfl)
  have h1 : n ≠ 1 := fun q => c1 (by rw [q]; rfl)
  have h2 : n ≠ 2 := fun q => c2 (by rw [q]; rfl)
  have h3 : n ≠ 3 := fun q => c3 (by rw [q]; rfl)
  have h4 : n ≠ 4 := fun q => c4 (by rw [q]; rfl)
  omega
theorem own_cL (x : Int64) : ¬ ((x &&& (255 : Int64)).toInt32).toUInt32.toUInt16.toUInt32.toInt32 < 0 ∧ ¬ (255 : Int32) < ((x &&& (255 : Int64)).toInt32).toUInt32.toUInt16.toUInt32.toInt32 := by rw [Int64.toInt32_and]; exact c255 _
def own_step (o : Nat) (p : Nat × Nat) (i : Nat) (b : Bool) : Nat × Nat := if i < o ∧ b = true then (p.1 + 1, i + 1) else p
def own_ln (o : Nat) (b0 b1 b2 b3 b4 : Bool) : Nat × Nat := own_step o (own_step o (own_step o (own_step o (own_step o (1, 0) 0 b0) 1 b1) 2 b2) 3 b3) 4 b4
def own_prb (bs : List Bool) : Nat → List Nat
  | 0 => [0]
  | k + 1 => if bs.getD k false = true then own_prb bs k ++ [k + 1] else own_prb bs k
theorem own_pre_b (cs : List Int32) (k : Nat) : own_pre cs k = own_prb (cs.map fun c => decide (c = 10)) k := by
  induction k with
  | zero => rfl
  | succ k ih =>
    have e : ((cs.map fun c => decide (c = 10)).getD k false = true) ↔ cs.getD k 0 = 10 := by
      simp only [List.getD_eq_getElem?_getD, List.getElem?_map]
      cases cs[k]? with
      | none => simp
      | some v => simp
    simp only [own_pre, own_prb, ih, e]
theorem own_finite : ∀ b0 b1 b2 b3 b4 : Bool, ∀ n o r : Fin 6, o.val ≤ n.val → r.val < (own_prb ([b0, b1, b2, b3, b4].take n.val) n.val).length → (own_prb ([b0, b1, b2, b3, b4].take n.val) n.val).getD r.val 0 ≤ o.val → (r.val + 1 < (own_prb ([b0, b1, b2, b3, b4].take n.val) n.val).length → o.val < (own_prb ([b0, b1, b2, b3, b4].take n.val) n.val).getD (r.val + 1) 0) → r.val + 1 = (own_ln o.val b0 b1 b2 b3 b4).1 ∧ (own_prb ([b0, b1, b2, b3, b4].take n.val) n.val).getD r.val 0 = (own_ln o.val b0 b1 b2 b3 b4).2 := by decide +kernel
theorem own_st {o i : Nat} (hi : i ≤ 100) (ho : o ≤ 100) {c l l' k k' : Int32} {p : Nat × Nat} (hl : l = Int32.ofNat p.1) (hk : k + 1 = Int32.ofNat p.2) (h : (Int32.ofNat i < Int32.ofNat o ∧ c = 10 ∧ l' = l + 1 ∧ k' = Int32.ofNat i) ∨ (Int32.ofNat i < Int32.ofNat o ∧ ¬ c = 10 ∧ l' = l ∧ k' = k) ∨ (¬ Int32.ofNat i < Int32.ofNat o ∧ l' = l ∧ k' = k)) :
    l' = Int32.ofNat (own_step o p i (decide (c = 10))).1 ∧ k' + 1 = Int32.ofNat (own_step o p i (decide (c = 10))).2 := by
  unfold own_step
  rcases h with ⟨q, r, rfl, rfl⟩ | ⟨q, r, rfl, rfl⟩ | ⟨q, rfl, rfl⟩
  · rw [if_pos ⟨(on_lt (by omega) (by omega)).mp q, decide_eq_true r⟩]
    exact ⟨by rw [hl, on_succ], by rw [on_succ]⟩
  · rw [if_neg (fun z => r (of_decide_eq_true z.2))]
    exact ⟨hl, hk⟩
  · rw [if_neg (fun z => q ((on_lt (by omega) (by omega)).mpr z.1))]
    exact ⟨hl, hk⟩
theorem ef_rm_ne4 (m : MethodId) (x0 : Addr) (x1 : Addr) (x2 : Int32) (x3 : Int32) : entryFrame m #[(.ref x0), (.ref x1), (.int x2), (.int x3), .null] 6 = mkF m 0 #[.val (.ref x0), .val (.ref x1), .val (.int x2), .val (.int x3), .val .null, .unset] [] := by first | (simp [entryFrame, mkF, argsToLocals, Value.category]; done) | rfl
def Q_rm_ne4 (Z : State) (x : Addr) (bb : Addr) (av : Addr) (v0 : Value) (c0 : Value) (h0 : Heap) (ov : Option Value) (hz : Heap) : Prop := ∃ (t : Addr), ov = none ∧ Str Z hz x t [] ∧ (av ≠ t)
theorem pn_0 : plainName "java/lang/String" = true := by first | (simp [plainName, overriddenIn]; done) | decide +kernel
theorem d_jdk_42_method_149_0 : decode jdk_42_method_149_code 0 = .ok (.aload_n 0, 1) := by decide +kernel
theorem d_jdk_42_method_149_1 : decode jdk_42_method_149_code 1 = .ok (.invokespecial 1, 3) := by decide +kernel
theorem d_jdk_42_method_149_4 : decode jdk_42_method_149_code 4 = .ok (.iload_n 3, 1) := by decide +kernel
theorem d_jdk_42_method_149_5 : decode jdk_42_method_149_code 5 = .ok (.ifCond .ne 22, 3) := by decide +kernel
theorem d_jdk_42_method_149_8 : decode jdk_42_method_149_code 8 = .ok (.aload_n 0, 1) := by decide +kernel
theorem d_jdk_42_method_149_9 : decode jdk_42_method_149_code 9 = .ok (.ldc 7, 2) := by decide +kernel
theorem d_jdk_42_method_149_11 : decode jdk_42_method_149_code 11 = .ok (.getfield 9, 3) := by decide +kernel
theorem d_jdk_42_method_149_14 : decode jdk_42_method_149_code 14 = .ok (.putfield 9, 3) := by decide +kernel
theorem d_jdk_42_method_149_17 : decode jdk_42_method_149_code 17 = .ok (.aload_n 0, 1) := by decide +kernel
theorem d_jdk_42_method_149_18 : decode jdk_42_method_149_code 18 = .ok (.ldc 7, 2) := by decide +kernel
theorem d_jdk_42_method_149_20 : decode jdk_42_method_149_code 20 = .ok (.getfield 15, 3) := by decide +kernel
theorem d_jdk_42_method_149_23 : decode jdk_42_method_149_code 23 = .ok (.putfield 15, 3) := by decide +kernel
theorem d_jdk_42_method_149_26 : decode jdk_42_method_149_code 26 = .ok (.return_, 1) := by decide +kernel
abbrev RM_rm_ne4 : Room := { frames := 1, cells := 4, slots := 8, locals := 12 }
set_option maxRecDepth 65536 in
set_option maxHeartbeats 40000000 in
theorem rm_ne4 (l : Launch) (Z : State) (a0 : Array Value) (hw : ∀ d ∈ tables_1, d.before a0 Z = true) (n0 : Nat) (x : Addr) (bb : Addr) (av : Addr) (v0 : Value) (c0 : Value) (h0 : Heap) (hO : Old Z n0 h0) (pr0 : Exa Z h0 x "java/lang/String") (pr1 : Fld Z h0 x "java/lang/String" "value" "[B" v0) (pr2 : Fld Z h0 x "java/lang/String" "coder" "B" c0) (g_x : n0 ≤ x) (l_x : x < h0.size) (g_av : n0 ≤ av) (l_av : av < h0.size) :
    Cw l (⟨"java/lang/String", "<init>", "([CIILjava/lang/Void;)V"⟩ : MethodName) jdk_42_method_149_code 6 none [] RM_rm_ne4 Z EL n0 #[(.ref x), (.ref bb), (.int (0 : Int32)), (.int (0 : Int32)), .null] h0 [x] [x, av] (Q_rm_ne4 Z x bb av v0 c0 h0) := by
  refine Cw.of_walk (plainFor_of_name pn_0) hO (own_EW hw) (allS ⟨g_x, l_x⟩ (allS ⟨g_av, l_av⟩ all0)) ?_
  intro p e s m below meth c T0 X0
  rw [ef_rm_ne4 m x bb (0 : Int32) (0 : Int32)]
  show Go _ _ _ _ (T0.setTop (mkF m 0 #[.val (.ref x), .val (.ref bb), .val (.int (0 : Int32)), .val (.int (0 : Int32)), .val .null, .unset] []))
  refine Go.by (fun _ k => XS.aloadN X0.here X0.hx rfl (X0.cd d_jdk_42_method_149_0) rfl rfl k) ?_
  show Go _ _ _ _ (T0.setTop (mkF m 1 #[.val (.ref x), .val (.ref bb), .val (.int (0 : Int32)), .val (.int (0 : Int32)), .val .null, .unset] [(.ref x)]))
  obtain ⟨T1, X1, st1⟩ := X0.initO (hw _ (List.mem_of_getElem? (i := 19) rfl)) (hw _ (List.mem_of_getElem? (i := 20) rfl)) (hw _ (List.mem_of_getElem? (i := 21) rfl)) (g := (mkF m 1 #[.val (.ref x), .val (.ref bb), .val (.int (0 : Int32)), .val (.int (0 : Int32)), .val .null, .unset] [(.ref x)])) rfl rfl rfl d_jdk_42_method_149_1 (by decide) (W := 0) (by exact Nat.le_of_eq rfl) (by decide)
  refine Go.by st1 ?_
  show Go _ _ _ _ (T1.setTop (mkF m 4 #[.val (.ref x), .val (.ref bb), .val (.int (0 : Int32)), .val (.int (0 : Int32)), .val .null, .unset] []))
  refine Go.by (fun _ k => XS.iloadN X1.here X1.hx rfl (X1.cd d_jdk_42_method_149_4) rfl  k) ?_
  show Go _ _ _ _ (T1.setTop (mkF m 5 #[.val (.ref x), .val (.ref bb), .val (.int (0 : Int32)), .val (.int (0 : Int32)), .val .null, .unset] [(.int (0 : Int32))]))
  refine Go.by (fun _ k => XS.ifNo X1.here X1.hx rfl (X1.cd d_jdk_42_method_149_5) rfl (XT.i0_ne_f (by decide)) k) ?_
  show Go _ _ _ _ (T1.setTop (mkF m 8 #[.val (.ref x), .val (.ref bb), .val (.int (0 : Int32)), .val (.int (0 : Int32)), .val .null, .unset] []))
  refine Go.by (fun _ k => XS.aloadN X1.here X1.hx rfl (X1.cd d_jdk_42_method_149_8) rfl rfl k) ?_
  show Go _ _ _ _ (T1.setTop (mkF m 9 #[.val (.ref x), .val (.ref bb), .val (.int (0 : Int32)), .val (.int (0 : Int32)), .val .null, .unset] [(.ref x)]))
  obtain ⟨b2, t2, k2, T2, h2, X2, E2, L2, C2, V2, A2, ne2, st2⟩ := X1.ldcR (hw _ (List.mem_of_getElem? (i := 223) rfl)) (own_SA hw) (.head _) (vs := []) (z := (0 : Int32)) ⟨by decide, by decide⟩ (by decide) (by decide) (g := (mkF m 9 #[.val (.ref x), .val (.ref bb), .val (.int (0 : Int32)), .val (.int (0 : Int32)), .val .null, .unset] [(.ref x)])) rfl d_jdk_42_method_149_9 (n := 0) (by decide) (by decide) (by decide) (by decide)
  refine Go.by st2 ?_
  have K0_h2 : Keep h0 h2 [x] := (Keep.refl h0 [x]).ext E2
  have S2 : Str Z h2 b2 t2 [] := Str.lit L2 C2 V2 A2 (by decide) rfl (by decide) (by decide)
  show Go _ _ _ _ (T2.setTop (mkF m 11 #[.val (.ref x), .val (.ref bb), .val (.int (0 : Int32)), .val (.int (0 : Int32)), .val .null, .unset] [(.ref b2), (.ref x)]))
  obtain ⟨T3, X3, st3⟩ := X2.getF (host := "") (Or.inl (hw _ (List.mem_of_getElem? (i := 36) rfl))) Via.refl V2 (g := (mkF m 11 #[.val (.ref x), .val (.ref bb), .val (.int (0 : Int32)), .val (.int (0 : Int32)), .val .null, .unset] [(.ref b2), (.ref x)])) rfl rfl d_jdk_42_method_149_11
  refine Go.by st3 ?_
  show Go _ _ _ _ (T3.setTop (mkF m 14 #[.val (.ref x), .val (.ref bb), .val (.int (0 : Int32)), .val (.int (0 : Int32)), .val .null, .unset] [(.ref t2), (.ref x)]))
  have f5 : Fld Z h2 x "java/lang/String" "value" "[B" v0 := pr1.ext E2
  have f6 : Exa Z h2 x "java/lang/String" := pr0.ext E2
  obtain ⟨T4, h4, X4, W4, st4⟩ := X3.putF (host := "") (Or.inl (hw _ (List.mem_of_getElem? (i := 36) rfl))) Via.refl f5 f6 (Or.inr ⟨(hw _ (List.mem_of_getElem? (i := 37) rfl)), rfl, rfl⟩) (hw _ (List.mem_of_getElem? (i := 9) rfl)) (.head _) (ty := (.array .byte)) (by decide) rfl rfl (g := (mkF m 14 #[.val (.ref x), .val (.ref bb), .val (.int (0 : Int32)), .val (.int (0 : Int32)), .val .null, .unset] [(.ref t2), (.ref x)])) rfl rfl d_jdk_42_method_149_14
  refine Go.by st4 ?_
  have K0_h4 : Keep h0 h4 [x] := K0_h2.wr W4 (Or.inl (.head _))
  have F4 : Fld Z h4 x "java/lang/String" "value" "[B" (.ref t2) := f5.same W4
  show Go _ _ _ _ (T4.setTop (mkF m 17 #[.val (.ref x), .val (.ref bb), .val (.int (0 : Int32)), .val (.int (0 : Int32)), .val .null, .unset] []))
  refine Go.by (fun _ k => XS.aloadN X4.here X4.hx rfl (X4.cd d_jdk_42_method_149_17) rfl rfl k) ?_
  show Go _ _ _ _ (T4.setTop (mkF m 18 #[.val (.ref x), .val (.ref bb), .val (.int (0 : Int32)), .val (.int (0 : Int32)), .val .null, .unset] [(.ref x)]))
  obtain ⟨b7, t7, k7, T7, h7, X7, E7, L7, C7, V7, A7, ne7, st7⟩ := X4.ldcR (hw _ (List.mem_of_getElem? (i := 223) rfl)) (own_SA hw) (.head _) (vs := []) (z := (0 : Int32)) ⟨by decide, by decide⟩ (by decide) (by decide) (g := (mkF m 18 #[.val (.ref x), .val (.ref bb), .val (.int (0 : Int32)), .val (.int (0 : Int32)), .val .null, .unset] [(.ref x)])) rfl d_jdk_42_method_149_18 (n := 0) (by decide) (by decide) (by decide) (by decide)
  refine Go.by st7 ?_
  have K0_h7 : Keep h0 h7 [x] := K0_h4.ext E7
  have S7 : Str Z h7 b7 t7 [] := Str.lit L7 C7 V7 A7 (by decide) rfl (by decide) (by decide)
  show Go _ _ _ _ (T7.setTop (mkF m 20 #[.val (.ref x), .val (.ref bb), .val (.int (0 : Int32)), .val (.int (0 : Int32)), .val .null, .unset] [(.ref b7), (.ref x)]))
  obtain ⟨T8, X8, st8⟩ := X7.getF (host := "") (Or.inl (hw _ (List.mem_of_getElem? (i := 34) rfl))) Via.refl C7 (g := (mkF m 20 #[.val (.ref x), .val (.ref bb), .val (.int (0 : Int32)), .val (.int (0 : Int32)), .val .null, .unset] [(.ref b7), (.ref x)])) rfl rfl d_jdk_42_method_149_20
  refine Go.by st8 ?_
  show Go _ _ _ _ (T8.setTop (mkF m 23 #[.val (.ref x), .val (.ref bb), .val (.int (0 : Int32)), .val (.int (0 : Int32)), .val .null, .unset] [(.int (0 : Int32)), (.ref x)]))
  have f10 : Fld Z h7 x "java/lang/String" "coder" "B" c0 := ((pr2.ext E2).other W4 (Or.inr (slot_ne (Or.inr (hw _ (List.mem_of_getElem? (i := 35) rfl))) (Or.inr (hw _ (List.mem_of_getElem? (i := 37) rfl))) (by decide) (t := .byte) (t' := (.array .byte)) (by decide) (by decide)))).ext E7
  have f11 : Exa Z h7 x "java/lang/String" := ((f6).wr W4).ext E7
  obtain ⟨T9, h9, X9, W9, st9⟩ := X8.putFN (hw _ (List.mem_of_getElem? (i := 34) rfl)) Via.refl f10 f11 (Or.inr ⟨(hw _ (List.mem_of_getElem? (i := 35) rfl)), rfl, rfl⟩) (hw _ (List.mem_of_getElem? (i := 9) rfl)) (.head _) (ty := .byte) (v' := .int (0 : Int32)) (by decide) rfl rfl (g := (mkF m 23 #[.val (.ref x), .val (.ref bb), .val (.int (0 : Int32)), .val (.int (0 : Int32)), .val .null, .unset] [(.int (0 : Int32)), (.ref x)])) rfl rfl d_jdk_42_method_149_23
  refine Go.by st9 ?_
  have K0_h9 : Keep h0 h9 [x] := K0_h7.wr W9 (Or.inl (.head _))
  have F9 : Fld Z h9 x "java/lang/String" "coder" "B" (.int (0 : Int32)) := f10.same W9
  show Go _ _ _ _ (T9.setTop (mkF m 26 #[.val (.ref x), .val (.ref bb), .val (.int (0 : Int32)), .val (.int (0 : Int32)), .val .null, .unset] []))
  have f13 : Exa Z h9 x "java/lang/String" := (f11).wr W9
  have f14 : Fld Z h9 x "java/lang/String" "value" "[B" (.ref t2) := (F4.ext E7).other W9 (Or.inr (slot_ne (Or.inr (hw _ (List.mem_of_getElem? (i := 37) rfl))) (Or.inr (hw _ (List.mem_of_getElem? (i := 35) rfl))) (by decide) (t := (.array .byte)) (t' := .byte) (by decide) (by decide)))
  have f15 : Arv Z h9 t2 k2 .byte (0 : Int32) [] (.int (0 : Int32)) := (((A2).other W4 ((ne2 x (.head _)).2).symm).ext E7).other W9 ((ne2 x (.head _)).2).symm
  have S12 : Str Z h9 x t2 [] := Str.lit f13 F9 f14 f15 (by decide) rfl (by decide) (by decide)
  exact X9.retV d_jdk_42_method_149_26 K0_h9 ⟨t2, rfl, S12, (ne2 av (.tail _ (.head _))).2⟩ (by decide) (by decide)
theorem ef_rm_ne1 (m : MethodId) (x0 : Addr) (x1 : Addr) : entryFrame m #[(.ref x0), (.ref x1)] 2 = mkF m 0 #[.val (.ref x0), .val (.ref x1)] [] := by first | (simp [entryFrame, mkF, argsToLocals, Value.category]; done) | rfl
def Q_rm_ne1 (Z : State) (x : Addr) (bb : Addr) (av : Addr) (kC : ClassId) (vs : List Value) (v0 : Value) (c0 : Value) (h0 : Heap) (ov : Option Value) (hz : Heap) : Prop := ∃ (t : Addr), ov = none ∧ Str Z hz x t [] ∧ (av ≠ t)
theorem d_jdk_42_method_3_0 : decode jdk_42_method_3_code 0 = .ok (.aload_n 0, 1) := by decide +kernel
theorem d_jdk_42_method_3_1 : decode jdk_42_method_3_code 1 = .ok (.aload_n 1, 1) := by decide +kernel
theorem d_jdk_42_method_3_2 : decode jdk_42_method_3_code 2 = .ok (.iconst 0, 1) := by decide +kernel
theorem d_jdk_42_method_3_3 : decode jdk_42_method_3_code 3 = .ok (.aload_n 1, 1) := by decide +kernel
theorem d_jdk_42_method_3_4 : decode jdk_42_method_3_code 4 = .ok (.arraylength, 1) := by decide +kernel
theorem d_jdk_42_method_3_5 : decode jdk_42_method_3_code 5 = .ok (.aconst_null, 1) := by decide +kernel
theorem pd_0 : parseMethodDescriptor "([CIILjava/lang/Void;)V" = some ⟨[(.array .char), .int, .int, (.object "java/lang/Void")], none⟩ := by decide +kernel
theorem d_jdk_42_method_3_6 : decode jdk_42_method_3_code 6 = .ok (.invokespecial 27, 3) := by decide +kernel
theorem d_jdk_42_method_3_9 : decode jdk_42_method_3_code 9 = .ok (.return_, 1) := by decide +kernel
abbrev RM_rm_ne1 : Room := { frames := 2, cells := 4, slots := 8, locals := 29 }
set_option maxRecDepth 65536 in
set_option maxHeartbeats 40000000 in
theorem rm_ne1 (l : Launch) (Z : State) (a0 : Array Value) (hw : ∀ d ∈ tables_1, d.before a0 Z = true) (n0 : Nat) (x : Addr) (bb : Addr) (av : Addr) (kC : ClassId) (vs : List Value) (v0 : Value) (c0 : Value) (h0 : Heap) (hO : Old Z n0 h0) (pr0 : Exa Z h0 x "java/lang/String") (pr1 : Fld Z h0 x "java/lang/String" "value" "[B" v0) (pr2 : Fld Z h0 x "java/lang/String" "coder" "B" c0) (pr3 : Arv Z h0 bb kC .char (0 : Int32) vs (.int (0 : Int32))) (g_x : n0 ≤ x) (l_x : x < h0.size) (g_av : n0 ≤ av) (l_av : av < h0.size) :
    Cw l (⟨"java/lang/String", "<init>", "([C)V"⟩ : MethodName) jdk_42_method_3_code 2 none [] RM_rm_ne1 Z EL n0 #[(.ref x), (.ref bb)] h0 [x] [x, av] (Q_rm_ne1 Z x bb av kC vs v0 c0 h0) := by
  refine Cw.of_walk (plainFor_of_name pn_0) hO (own_EW hw) (allS ⟨g_x, l_x⟩ (allS ⟨g_av, l_av⟩ all0)) ?_
  intro p e s m below meth c T0 X0
  rw [ef_rm_ne1 m x bb]
  show Go _ _ _ _ (T0.setTop (mkF m 0 #[.val (.ref x), .val (.ref bb)] []))
  refine Go.by (fun _ k => XS.aloadN X0.here X0.hx rfl (X0.cd d_jdk_42_method_3_0) rfl rfl k) ?_
  show Go _ _ _ _ (T0.setTop (mkF m 1 #[.val (.ref x), .val (.ref bb)] [(.ref x)]))
  refine Go.by (fun _ k => XS.aloadN X0.here X0.hx rfl (X0.cd d_jdk_42_method_3_1) rfl rfl k) ?_
  show Go _ _ _ _ (T0.setTop (mkF m 2 #[.val (.ref x), .val (.ref bb)] [(.ref bb), (.ref x)]))
  refine Go.by (fun _ k => XS.iconst X0.here X0.hx rfl (X0.cd d_jdk_42_method_3_2)  k) ?_
  show Go _ _ _ _ (T0.setTop (mkF m 3 #[.val (.ref x), .val (.ref bb)] [(.int (0 : Int32)), (.ref bb), (.ref x)]))
  refine Go.by (fun _ k => XS.aloadN X0.here X0.hx rfl (X0.cd d_jdk_42_method_3_3) rfl rfl k) ?_
  show Go _ _ _ _ (T0.setTop (mkF m 4 #[.val (.ref x), .val (.ref bb)] [(.ref bb), (.int (0 : Int32)), (.ref bb), (.ref x)]))
  refine Go.by (fun _ k => X0.len pr3 (g := (mkF m 4 #[.val (.ref x), .val (.ref bb)] [(.ref bb), (.int (0 : Int32)), (.ref bb), (.ref x)])) rfl rfl d_jdk_42_method_3_4 _ k) ?_
  show Go _ _ _ _ (T0.setTop (mkF m 5 #[.val (.ref x), .val (.ref bb)] [(.int (0 : Int32)), (.int (0 : Int32)), (.ref bb), (.ref x)]))
  refine Go.by (fun _ k => XS.aconstNull X0.here X0.hx rfl (X0.cd d_jdk_42_method_3_5)  k) ?_
  show Go _ _ _ _ (T0.setTop (mkF m 6 #[.val (.ref x), .val (.ref bb)] [.null, (.int (0 : Int32)), (.int (0 : Int32)), (.ref bb), (.ref x)]))
  obtain ⟨_, T1, h1, X1, K1, ⟨t_1, rfl, P1_0, p1_0⟩, st1⟩ := X0.spW (W := 0) rfl (hw _ (List.mem_of_getElem? (i := 15) rfl)) (hw _ (List.mem_of_getElem? (i := 16) rfl)) (hw _ (List.mem_of_getElem? (i := 18) rfl)) (by decide) ((rm_ne4 l Z a0 hw n0 x bb av v0 c0 h0 X0.old pr0 pr1 pr2 (X0.ge (.head _)) (X0.lt (.head _)) (X0.ge (.tail _ (.head _))) (X0.lt (.tail _ (.head _)))).pay (hw _ (List.mem_of_getElem? (i := 18) rfl)) (hw _ (List.mem_of_getElem? (i := 10) rfl)) (own_EW hw) (by decide) (by decide)) (allS (.head _) all0) (allS (.head _) (allS (.tail _ (.head _)) all0)) (g := (mkF m 6 #[.val (.ref x), .val (.ref bb)] [.null, (.int (0 : Int32)), (.int (0 : Int32)), (.ref bb), (.ref x)])) rfl rfl (a := x) (argsL := [(.ref bb), (.int (0 : Int32)), (.int (0 : Int32)), .null]) (rest := []) (lenOf pd_0 rfl) rfl (by exact Nat.le_of_eq rfl) d_jdk_42_method_3_6 rfl (by decide) (by decide)
  refine Go.tr st1 ?_
  have K0_h1 : Keep h0 h1 [x] := (Keep.refl h0 [x]).trans K1 (allS (Or.inl (.head _)) all0)
  show Go _ _ _ _ (T1.setTop (mkF m 9 #[.val (.ref x), .val (.ref bb)] []))
  exact X1.retV d_jdk_42_method_3_9 K0_h1 ⟨t_1, rfl, P1_0, p1_0⟩ (by decide) (by decide)
def own_min (a b : Int32) : Int32 := if b < a then b else a
def own_max (a b : Int32) : Int32 := if a < b then b else a
theorem ef_rm_max (m : MethodId) (x0 : Int32) (x1 : Int32) : entryFrame m #[(.int x0), (.int x1)] 2 = mkF m 0 #[.val (.int x0), .val (.int x1)] [] := by first | (simp [entryFrame, mkF, argsToLocals, Value.category]; done) | rfl
def Q_rm_max (Z : State) (a : Int32) (b : Int32) (h0 : Heap) (ov : Option Value) (hz : Heap) : Prop := ov = some (.int (own_max a b)) ∧ h0 = hz
theorem pf_max_142 : plainFor (⟨"java/lang/Math", "max", "(II)I"⟩ : MethodName) = true := by decide +kernel
theorem d_jdk_29_method_65_0 : decode jdk_29_method_65_code 0 = .ok (.iload_n 0, 1) := by decide +kernel
theorem d_jdk_29_method_65_1 : decode jdk_29_method_65_code 1 = .ok (.iload_n 1, 1) := by decide +kernel
theorem d_jdk_29_method_65_2 : decode jdk_29_method_65_code 2 = .ok (.if_icmp .lt 7, 3) := by decide +kernel
theorem d_jdk_29_method_65_9 : decode jdk_29_method_65_code 9 = .ok (.iload_n 1, 1) := by decide +kernel
theorem d_jdk_29_method_65_10 : decode jdk_29_method_65_code 10 = .ok (.ireturn, 1) := by decide +kernel
theorem d_jdk_29_method_65_5 : decode jdk_29_method_65_code 5 = .ok (.iload_n 0, 1) := by decide +kernel
theorem d_jdk_29_method_65_6 : decode jdk_29_method_65_code 6 = .ok (.goto 4, 3) := by decide +kernel
abbrev RM_rm_max : Room := { frames := 0, cells := 0, slots := 0, locals := 0 }
set_option maxRecDepth 65536 in
set_option maxHeartbeats 40000000 in
theorem rm_max (l : Launch) (Z : State) (a0 : Array Value) (hw : ∀ d ∈ tables_1, d.before a0 Z = true) (n0 : Nat) (a : Int32) (b : Int32) (h0 : Heap) (hO : Old Z n0 h0)  :
    Ct l (⟨"java/lang/Math", "max", "(II)I"⟩ : MethodName) jdk_29_method_65_code 2 (some .int) [] RM_rm_max Z n0 #[(.int a), (.int b)] h0 [] (Q_rm_max Z a b h0) := by
  refine Ct.of_walk pf_max_142 hO all0 ?_
  intro p e s m below meth c T0 X0
  rw [ef_rm_max m a b]
  show Go _ _ _ _ (T0.setTop (mkF m 0 #[.val (.int a), .val (.int b)] []))
  refine Go.by (fun _ k => XS.iloadN X0.here X0.hx rfl (X0.cd d_jdk_29_method_65_0) rfl  k) ?_
  show Go _ _ _ _ (T0.setTop (mkF m 1 #[.val (.int a), .val (.int b)] [(.int a)]))
  refine Go.by (fun _ k => XS.iloadN X0.here X0.hx rfl (X0.cd d_jdk_29_method_65_1) rfl  k) ?_
  show Go _ _ _ _ (T0.setTop (mkF m 2 #[.val (.int a), .val (.int b)] [(.int b), (.int a)]))
  by_cases cq : a < b
  · refine Go.by (fun _ k => XS.icmpYes X0.here X0.hx rfl (pc0 := 2) (pc' := 9) rfl (X0.cd d_jdk_29_method_65_2) rfl (XT.ii_lt_t cq) (by decide) (by decide) k) ?_
    show Go _ _ _ _ (T0.setTop (mkF m 9 #[.val (.int a), .val (.int b)] []))
    refine Go.by (fun _ k => XS.iloadN X0.here X0.hx rfl (X0.cd d_jdk_29_method_65_9) rfl  k) ?_
    show Go _ _ _ _ (T0.setTop (mkF m 10 #[.val (.int a), .val (.int b)] [(.int b)]))
    exact X0.retI d_jdk_29_method_65_10 (Keep.refl h0 []) ⟨(congrArg (fun z => some (Value.int z)) ((if_pos cq).symm)), rfl⟩ (by decide) (by decide)
  · refine Go.by (fun _ k => XS.icmpNo X0.here X0.hx rfl (X0.cd d_jdk_29_method_65_2) rfl (XT.ii_lt_f cq) k) ?_
    show Go _ _ _ _ (T0.setTop (mkF m 5 #[.val (.int a), .val (.int b)] []))
    refine Go.by (fun _ k => XS.iloadN X0.here X0.hx rfl (X0.cd d_jdk_29_method_65_5) rfl  k) ?_
    show Go _ _ _ _ (T0.setTop (mkF m 6 #[.val (.int a), .val (.int b)] [(.int a)]))
    refine Go.by (fun _ k => XS.goto X0.here X0.hx rfl (pc0 := 6) (pc' := 10) rfl (X0.cd d_jdk_29_method_65_6) (by decide) (by decide) k) ?_
    show Go _ _ _ _ (T0.setTop (mkF m 10 #[.val (.int a), .val (.int b)] [(.int a)]))
    exact X0.retI d_jdk_29_method_65_10 (Keep.refl h0 []) ⟨(congrArg (fun z => some (Value.int z)) ((if_neg cq).symm)), rfl⟩ (by decide) (by decide)
theorem ef_rm_pick (m : MethodId) (x0 : Int32) (x1 : Int64) (x2 : Int32) : entryFrame m #[(.int x0), (.long x1), (.int x2)] 4 = mkF m 0 #[.val (.int x0), .val (.long x1), .second, .val (.int x2)] [] := by first | (simp [entryFrame, mkF, argsToLocals, Value.category]; done) | rfl
def Q_rm_pick (Z : State) (v : Int32) (u : Int64) (i : Int32) (h0 : Heap) (ov : Option Value) (hz : Heap) : Prop := ∃ (r : Int32), ov = some (.int r) ∧ h0 = hz ∧ (¬ r < 0 ∧ ¬ (255 : Int32) < r)
theorem pn_1 : plainName "com/example/cinderpath/cinderpath/source/SourceFilePositionPinLaw" = true := by first | (simp [plainName, overriddenIn]; done) | decide +kernel
theorem d_method_2_0 : decode method_2_code 0 = .ok (.iload_n 0, 1) := by decide +kernel
theorem d_method_2_1 : decode method_2_code 1 = .ok (.iconst 2, 1) := by decide +kernel
theorem d_method_2_2 : decode method_2_code 2 = .ok (.iload_n 3, 1) := by decide +kernel
theorem d_method_2_3 : decode method_2_code 3 = .ok (.imul, 1) := by decide +kernel
theorem d_method_2_4 : decode method_2_code 4 = .ok (.iushr, 1) := by decide +kernel
theorem d_method_2_5 : decode method_2_code 5 = .ok (.iconst 3, 1) := by decide +kernel
theorem d_method_2_6 : decode method_2_code 6 = .ok (.iand, 1) := by decide +kernel
theorem d_method_2_7 : decode method_2_code 7 = .ok (.ifCond .ne 6, 3) := by decide +kernel
theorem d_method_2_10 : decode method_2_code 10 = .ok (.bipush 10, 2) := by decide +kernel
theorem d_method_2_12 : decode method_2_code 12 = .ok (.ireturn, 1) := by decide +kernel
theorem d_method_2_13 : decode method_2_code 13 = .ok (.lload_n 1, 1) := by decide +kernel
theorem d_method_2_14 : decode method_2_code 14 = .ok (.bipush 8, 2) := by decide +kernel
theorem d_method_2_16 : decode method_2_code 16 = .ok (.iload_n 3, 1) := by decide +kernel
theorem d_method_2_17 : decode method_2_code 17 = .ok (.imul, 1) := by decide +kernel
theorem d_method_2_18 : decode method_2_code 18 = .ok (.lushr, 1) := by decide +kernel
theorem d_method_2_19 : decode method_2_code 19 = .ok (.ldc2_w 7, 3) := by decide +kernel
theorem d_method_2_22 : decode method_2_code 22 = .ok (.land, 1) := by decide +kernel
theorem d_method_2_23 : decode method_2_code 23 = .ok (.l2i, 1) := by decide +kernel
theorem d_method_2_24 : decode method_2_code 24 = .ok (.i2c, 1) := by decide +kernel
theorem d_method_2_25 : decode method_2_code 25 = .ok (.ireturn, 1) := by decide +kernel
abbrev RM_rm_pick : Room := { frames := 0, cells := 0, slots := 0, locals := 0 }
set_option maxRecDepth 65536 in
set_option maxHeartbeats 40000000 in
theorem rm_pick (l : Launch) (Z : State) (a0 : Array Value) (hw : ∀ d ∈ tables_1, d.before a0 Z = true) (n0 : Nat) (v : Int32) (u : Int64) (i : Int32) (h0 : Heap) (hO : Old Z n0 h0)  :
    Ct l (⟨"com/example/cinderpath/cinderpath/source/SourceFilePositionPinLaw", "pick", "(IJI)C"⟩ : MethodName) method_2_code 4 (some .char) [] RM_rm_pick Z n0 #[(.int v), (.long u), (.int i)] h0 [] (Q_rm_pick Z v u i h0) := by
  refine Ct.of_walk (plainFor_of_name pn_1) hO all0 ?_
  intro p e s m below meth c T0 X0
  rw [ef_rm_pick m v u i]
  show Go _ _ _ _ (T0.setTop (mkF m 0 #[.val (.int v), .val (.long u), .second, .val (.int i)] []))
  refine Go.by (fun _ k => XS.iloadN X0.here X0.hx rfl (X0.cd d_method_2_0) rfl  k) ?_
  show Go _ _ _ _ (T0.setTop (mkF m 1 #[.val (.int v), .val (.long u), .second, .val (.int i)] [(.int v)]))
  refine Go.by (fun _ k => XS.iconst X0.here X0.hx rfl (X0.cd d_method_2_1)  k) ?_
  show Go _ _ _ _ (T0.setTop (mkF m 2 #[.val (.int v), .val (.long u), .second, .val (.int i)] [(.int (2 : Int32)), (.int v)]))
  refine Go.by (fun _ k => XS.iloadN X0.here X0.hx rfl (X0.cd d_method_2_2) rfl  k) ?_
  show Go _ _ _ _ (T0.setTop (mkF m 3 #[.val (.int v), .val (.long u), .second, .val (.int i)] [(.int i), (.int (2 : Int32)), (.int v)]))
  refine Go.by (fun _ k => XS.imul X0.here X0.hx rfl (X0.cd d_method_2_3) rfl k) ?_
  show Go _ _ _ _ (T0.setTop (mkF m 4 #[.val (.int v), .val (.long u), .second, .val (.int i)] [(.int ((2 : Int32) * i)), (.int v)]))
  refine Go.by (fun _ k => XS.iushr X0.here X0.hx rfl (X0.cd d_method_2_4) rfl k) ?_
  show Go _ _ _ _ (T0.setTop (mkF m 5 #[.val (.int v), .val (.long u), .second, .val (.int i)] [(.int (XT.ushr v ((2 : Int32) * i)))]))
  refine Go.by (fun _ k => XS.iconst X0.here X0.hx rfl (X0.cd d_method_2_5)  k) ?_
  show Go _ _ _ _ (T0.setTop (mkF m 6 #[.val (.int v), .val (.long u), .second, .val (.int i)] [(.int (3 : Int32)), (.int (XT.ushr v ((2 : Int32) * i)))]))
  refine Go.by (fun _ k => XS.iand X0.here X0.hx rfl (X0.cd d_method_2_6) rfl k) ?_
  show Go _ _ _ _ (T0.setTop (mkF m 7 #[.val (.int v), .val (.long u), .second, .val (.int i)] [(.int ((XT.ushr v ((2 : Int32) * i)) &&& (3 : Int32)))]))
  by_cases c0 : ((XT.ushr v ((2 : Int32) * i)) &&& (3 : Int32)) = 0
  · refine Go.by (fun _ k => XS.ifNo X0.here X0.hx rfl (X0.cd d_method_2_7) rfl (XT.i0_ne_f c0) k) ?_
    show Go _ _ _ _ (T0.setTop (mkF m 10 #[.val (.int v), .val (.long u), .second, .val (.int i)] []))
    refine Go.by (fun _ k => XS.bipush X0.here X0.hx rfl (X0.cd d_method_2_10)  k) ?_
    show Go _ _ _ _ (T0.setTop (mkF m 12 #[.val (.int v), .val (.long u), .second, .val (.int i)] [(.int (10 : Int32))]))
    exact X0.retN (by simp) rfl d_method_2_12 (Keep.refl h0 []) ⟨(10 : Int32), rfl, rfl, ⟨by decide, by decide⟩⟩ (by decide) (by decide)
  · refine Go.by (fun _ k => XS.ifYes X0.here X0.hx rfl (pc0 := 7) (pc' := 13) rfl (X0.cd d_method_2_7) rfl (XT.i0_ne_t c0) (by decide) (by decide) k) ?_
    show Go _ _ _ _ (T0.setTop (mkF m 13 #[.val (.int v), .val (.long u), .second, .val (.int i)] []))
    refine Go.by (fun _ k => XS.lloadN X0.here X0.hx rfl (X0.cd d_method_2_13) rfl  k) ?_
    show Go _ _ _ _ (T0.setTop (mkF m 14 #[.val (.int v), .val (.long u), .second, .val (.int i)] [(.long u)]))
    refine Go.by (fun _ k => XS.bipush X0.here X0.hx rfl (X0.cd d_method_2_14)  k) ?_
    show Go _ _ _ _ (T0.setTop (mkF m 16 #[.val (.int v), .val (.long u), .second, .val (.int i)] [(.int (8 : Int32)), (.long u)]))
    refine Go.by (fun _ k => XS.iloadN X0.here X0.hx rfl (X0.cd d_method_2_16) rfl  k) ?_
    show Go _ _ _ _ (T0.setTop (mkF m 17 #[.val (.int v), .val (.long u), .second, .val (.int i)] [(.int i), (.int (8 : Int32)), (.long u)]))
    refine Go.by (fun _ k => XS.imul X0.here X0.hx rfl (X0.cd d_method_2_17) rfl k) ?_
    show Go _ _ _ _ (T0.setTop (mkF m 18 #[.val (.int v), .val (.long u), .second, .val (.int i)] [(.int ((8 : Int32) * i)), (.long u)]))
    refine Go.by (fun _ k => XS.lushr X0.here X0.hx rfl (X0.cd d_method_2_18) rfl k) ?_
    show Go _ _ _ _ (T0.setTop (mkF m 19 #[.val (.int v), .val (.long u), .second, .val (.int i)] [(.long (((u).toUInt64 >>> ((((8 : Int32) * i)) &&& 63).toInt64.toUInt64).toInt64))]))
    refine Go.by (fun _ k => X0.ldc2 (hw _ (List.mem_of_getElem? (i := 222) rfl)) (g := (mkF m 19 #[.val (.int v), .val (.long u), .second, .val (.int i)] [(.long (((u).toUInt64 >>> ((((8 : Int32) * i)) &&& 63).toInt64.toUInt64).toInt64))])) rfl d_method_2_19 _ k) ?_
    show Go _ _ _ _ (T0.setTop (mkF m 22 #[.val (.int v), .val (.long u), .second, .val (.int i)] [(.long (255 : Int64)), (.long (((u).toUInt64 >>> ((((8 : Int32) * i)) &&& 63).toInt64.toUInt64).toInt64))]))
    refine Go.by (fun _ k => XS.land X0.here X0.hx rfl (X0.cd d_method_2_22) rfl k) ?_
    show Go _ _ _ _ (T0.setTop (mkF m 23 #[.val (.int v), .val (.long u), .second, .val (.int i)] [(.long (((u).toUInt64 >>> ((((8 : Int32) * i)) &&& 63).toInt64.toUInt64).toInt64 &&& (255 : Int64)))]))
    refine Go.by (fun _ k => XS.l2i X0.here X0.hx rfl (X0.cd d_method_2_23) rfl k) ?_
    show Go _ _ _ _ (T0.setTop (mkF m 24 #[.val (.int v), .val (.long u), .second, .val (.int i)] [(.int (((((u).toUInt64 >>> ((((8 : Int32) * i)) &&& 63).toInt64.toUInt64).toInt64 &&& (255 : Int64))).toInt32))]))
    refine Go.by (fun _ k => XS.i2c X0.here X0.hx rfl (X0.cd d_method_2_24) rfl k) ?_
    show Go _ _ _ _ (T0.setTop (mkF m 25 #[.val (.int v), .val (.long u), .second, .val (.int i)] [(.int ((((((u).toUInt64 >>> ((((8 : Int32) * i)) &&& 63).toInt64.toUInt64).toInt64 &&& (255 : Int64))).toInt32).toUInt32.toUInt16.toUInt32.toInt32))]))
    exact X0.retN (by simp) (nar_i2c _) d_method_2_25 (Keep.refl h0 []) ⟨(((((u).toUInt64 >>> ((((8 : Int32) * i)) &&& 63).toInt64.toUInt64).toInt64 &&& (255 : Int64))).toInt32).toUInt32.toUInt16.toUInt32.toInt32, rfl, rfl, own_cL _⟩ (by decide) (by decide)
theorem ef_rm_make (m : MethodId) (x0 : Int32) (x1 : Int32) (x2 : Int32) (x3 : Int32) (x4 : Int32) (x5 : Int32) : entryFrame m #[(.int x0), (.int x1), (.int x2), (.int x3), (.int x4), (.int x5)] 6 = mkF m 0 #[.val (.int x0), .val (.int x1), .val (.int x2), .val (.int x3), .val (.int x4), .val (.int x5)] [] := by first | (simp [entryFrame, mkF, argsToLocals, Value.category]; done) | rfl
def Q_rm_make (Z : State) (ca : Int32) (cb : Int32) (cc : Int32) (cd : Int32) (ce : Int32) (ln : Nat) (zc : Int32) (h0 : Heap) (ov : Option Value) (hz : Heap) : Prop := ∃ (x : Addr), ∃ (t : Addr), ov = some (.ref x) ∧ h0.size ≤ x ∧ x < hz.size ∧ Str Z hz x t ([ca, cb, cc, cd, ce].take ln)
theorem d_method_3_0 : decode method_3_code 0 = .ok (.iload 5, 2) := by decide +kernel
theorem d_method_3_2 : decode method_3_code 2 = .ok (.ifCond .ne 14, 3) := by decide +kernel
theorem d_method_3_5 : decode method_3_code 5 = .ok (.new 9, 3) := by decide +kernel
theorem d_method_3_8 : decode method_3_code 8 = .ok (.dup, 1) := by decide +kernel
theorem d_method_3_9 : decode method_3_code 9 = .ok (.iconst 0, 1) := by decide +kernel
theorem d_method_3_10 : decode method_3_code 10 = .ok (.newarray .char, 2) := by decide +kernel
theorem pd_1 : parseMethodDescriptor "([C)V" = some ⟨[(.array .char)], none⟩ := by decide +kernel
theorem d_method_3_12 : decode method_3_code 12 = .ok (.invokespecial 11, 3) := by decide +kernel
theorem d_method_3_15 : decode method_3_code 15 = .ok (.areturn, 1) := by decide +kernel
theorem d_method_3_16 : decode method_3_code 16 = .ok (.iload 5, 2) := by decide +kernel
theorem d_method_3_18 : decode method_3_code 18 = .ok (.iconst 1, 1) := by decide +kernel
theorem d_method_3_19 : decode method_3_code 19 = .ok (.if_icmp .ne 18, 3) := by decide +kernel
theorem d_method_3_22 : decode method_3_code 22 = .ok (.new 9, 3) := by decide +kernel
theorem d_method_3_25 : decode method_3_code 25 = .ok (.dup, 1) := by decide +kernel
theorem d_method_3_26 : decode method_3_code 26 = .ok (.iconst 1, 1) := by decide +kernel
theorem d_method_3_27 : decode method_3_code 27 = .ok (.newarray .char, 2) := by decide +kernel
theorem d_method_3_29 : decode method_3_code 29 = .ok (.dup, 1) := by decide +kernel
theorem d_method_3_30 : decode method_3_code 30 = .ok (.iconst 0, 1) := by decide +kernel
theorem d_method_3_31 : decode method_3_code 31 = .ok (.iload_n 0, 1) := by decide +kernel
theorem d_method_3_32 : decode method_3_code 32 = .ok (.castore, 1) := by decide +kernel
theorem d_method_3_33 : decode method_3_code 33 = .ok (.invokespecial 11, 3) := by decide +kernel
theorem d_method_3_36 : decode method_3_code 36 = .ok (.areturn, 1) := by decide +kernel
theorem d_method_3_37 : decode method_3_code 37 = .ok (.iload 5, 2) := by decide +kernel
theorem d_method_3_39 : decode method_3_code 39 = .ok (.iconst 2, 1) := by decide +kernel
theorem d_method_3_40 : decode method_3_code 40 = .ok (.if_icmp .ne 22, 3) := by decide +kernel
theorem d_method_3_43 : decode method_3_code 43 = .ok (.new 9, 3) := by decide +kernel
theorem d_method_3_46 : decode method_3_code 46 = .ok (.dup, 1) := by decide +kernel
theorem d_method_3_47 : decode method_3_code 47 = .ok (.iconst 2, 1) := by decide +kernel
theorem d_method_3_48 : decode method_3_code 48 = .ok (.newarray .char, 2) := by decide +kernel
theorem d_method_3_50 : decode method_3_code 50 = .ok (.dup, 1) := by decide +kernel
theorem d_method_3_51 : decode method_3_code 51 = .ok (.iconst 0, 1) := by decide +kernel
theorem d_method_3_52 : decode method_3_code 52 = .ok (.iload_n 0, 1) := by decide +kernel
theorem d_method_3_53 : decode method_3_code 53 = .ok (.castore, 1) := by decide +kernel
theorem d_method_3_54 : decode method_3_code 54 = .ok (.dup, 1) := by decide +kernel
theorem d_method_3_55 : decode method_3_code 55 = .ok (.iconst 1, 1) := by decide +kernel
theorem d_method_3_56 : decode method_3_code 56 = .ok (.iload_n 1, 1) := by decide +kernel
theorem d_method_3_57 : decode method_3_code 57 = .ok (.castore, 1) := by decide +kernel
theorem d_method_3_58 : decode method_3_code 58 = .ok (.invokespecial 11, 3) := by decide +kernel
theorem d_method_3_61 : decode method_3_code 61 = .ok (.areturn, 1) := by decide +kernel
theorem d_method_3_62 : decode method_3_code 62 = .ok (.iload 5, 2) := by decide +kernel
theorem d_method_3_64 : decode method_3_code 64 = .ok (.iconst 3, 1) := by decide +kernel
theorem d_method_3_65 : decode method_3_code 65 = .ok (.if_icmp .ne 26, 3) := by decide +kernel
theorem d_method_3_68 : decode method_3_code 68 = .ok (.new 9, 3) := by decide +kernel
theorem d_method_3_71 : decode method_3_code 71 = .ok (.dup, 1) := by decide +kernel
theorem d_method_3_72 : decode method_3_code 72 = .ok (.iconst 3, 1) := by decide +kernel
theorem d_method_3_73 : decode method_3_code 73 = .ok (.newarray .char, 2) := by decide +kernel
theorem d_method_3_75 : decode method_3_code 75 = .ok (.dup, 1) := by decide +kernel
theorem d_method_3_76 : decode method_3_code 76 = .ok (.iconst 0, 1) := by decide +kernel
theorem d_method_3_77 : decode method_3_code 77 = .ok (.iload_n 0, 1) := by decide +kernel
theorem d_method_3_78 : decode method_3_code 78 = .ok (.castore, 1) := by decide +kernel
theorem d_method_3_79 : decode method_3_code 79 = .ok (.dup, 1) := by decide +kernel
theorem d_method_3_80 : decode method_3_code 80 = .ok (.iconst 1, 1) := by decide +kernel
theorem d_method_3_81 : decode method_3_code 81 = .ok (.iload_n 1, 1) := by decide +kernel
theorem d_method_3_82 : decode method_3_code 82 = .ok (.castore, 1) := by decide +kernel
theorem d_method_3_83 : decode method_3_code 83 = .ok (.dup, 1) := by decide +kernel
theorem d_method_3_84 : decode method_3_code 84 = .ok (.iconst 2, 1) := by decide +kernel
theorem d_method_3_85 : decode method_3_code 85 = .ok (.iload_n 2, 1) := by decide +kernel
theorem d_method_3_86 : decode method_3_code 86 = .ok (.castore, 1) := by decide +kernel
theorem d_method_3_87 : decode method_3_code 87 = .ok (.invokespecial 11, 3) := by decide +kernel
theorem d_method_3_90 : decode method_3_code 90 = .ok (.areturn, 1) := by decide +kernel
theorem d_method_3_91 : decode method_3_code 91 = .ok (.iload 5, 2) := by decide +kernel
theorem d_method_3_93 : decode method_3_code 93 = .ok (.iconst 4, 1) := by decide +kernel
theorem d_method_3_94 : decode method_3_code 94 = .ok (.if_icmp .ne 30, 3) := by decide +kernel
theorem d_method_3_97 : decode method_3_code 97 = .ok (.new 9, 3) := by decide +kernel
theorem d_method_3_100 : decode method_3_code 100 = .ok (.dup, 1) := by decide +kernel
theorem d_method_3_101 : decode method_3_code 101 = .ok (.iconst 4, 1) := by decide +kernel
theorem d_method_3_102 : decode method_3_code 102 = .ok (.newarray .char, 2) := by decide +kernel
theorem d_method_3_104 : decode method_3_code 104 = .ok (.dup, 1) := by decide +kernel
theorem d_method_3_105 : decode method_3_code 105 = .ok (.iconst 0, 1) := by decide +kernel
theorem d_method_3_106 : decode method_3_code 106 = .ok (.iload_n 0, 1) := by decide +kernel
theorem d_method_3_107 : decode method_3_code 107 = .ok (.castore, 1) := by decide +kernel
theorem d_method_3_108 : decode method_3_code 108 = .ok (.dup, 1) := by decide +kernel
theorem d_method_3_109 : decode method_3_code 109 = .ok (.iconst 1, 1) := by decide +kernel
theorem d_method_3_110 : decode method_3_code 110 = .ok (.iload_n 1, 1) := by decide +kernel
theorem d_method_3_111 : decode method_3_code 111 = .ok (.castore, 1) := by decide +kernel
theorem d_method_3_112 : decode method_3_code 112 = .ok (.dup, 1) := by decide +kernel
theorem d_method_3_113 : decode method_3_code 113 = .ok (.iconst 2, 1) := by decide +kernel
theorem d_method_3_114 : decode method_3_code 114 = .ok (.iload_n 2, 1) := by decide +kernel
theorem d_method_3_115 : decode method_3_code 115 = .ok (.castore, 1) := by decide +kernel
theorem d_method_3_116 : decode method_3_code 116 = .ok (.dup, 1) := by decide +kernel
theorem d_method_3_117 : decode method_3_code 117 = .ok (.iconst 3, 1) := by decide +kernel
theorem d_method_3_118 : decode method_3_code 118 = .ok (.iload_n 3, 1) := by decide +kernel
theorem d_method_3_119 : decode method_3_code 119 = .ok (.castore, 1) := by decide +kernel
theorem d_method_3_120 : decode method_3_code 120 = .ok (.invokespecial 11, 3) := by decide +kernel
theorem d_method_3_123 : decode method_3_code 123 = .ok (.areturn, 1) := by decide +kernel
theorem d_method_3_124 : decode method_3_code 124 = .ok (.new 9, 3) := by decide +kernel
theorem d_method_3_127 : decode method_3_code 127 = .ok (.dup, 1) := by decide +kernel
theorem d_method_3_128 : decode method_3_code 128 = .ok (.iconst 5, 1) := by decide +kernel
theorem d_method_3_129 : decode method_3_code 129 = .ok (.newarray .char, 2) := by decide +kernel
theorem d_method_3_131 : decode method_3_code 131 = .ok (.dup, 1) := by decide +kernel
theorem d_method_3_132 : decode method_3_code 132 = .ok (.iconst 0, 1) := by decide +kernel
theorem d_method_3_133 : decode method_3_code 133 = .ok (.iload_n 0, 1) := by decide +kernel
theorem d_method_3_134 : decode method_3_code 134 = .ok (.castore, 1) := by decide +kernel
theorem d_method_3_135 : decode method_3_code 135 = .ok (.dup, 1) := by decide +kernel
theorem d_method_3_136 : decode method_3_code 136 = .ok (.iconst 1, 1) := by decide +kernel
theorem d_method_3_137 : decode method_3_code 137 = .ok (.iload_n 1, 1) := by decide +kernel
theorem d_method_3_138 : decode method_3_code 138 = .ok (.castore, 1) := by decide +kernel
theorem d_method_3_139 : decode method_3_code 139 = .ok (.dup, 1) := by decide +kernel
theorem d_method_3_140 : decode method_3_code 140 = .ok (.iconst 2, 1) := by decide +kernel
theorem d_method_3_141 : decode method_3_code 141 = .ok (.iload_n 2, 1) := by decide +kernel
theorem d_method_3_142 : decode method_3_code 142 = .ok (.castore, 1) := by decide +kernel
theorem d_method_3_143 : decode method_3_code 143 = .ok (.dup, 1) := by decide +kernel
theorem d_method_3_144 : decode method_3_code 144 = .ok (.iconst 3, 1) := by decide +kernel
theorem d_method_3_145 : decode method_3_code 145 = .ok (.iload_n 3, 1) := by decide +kernel
theorem d_method_3_146 : decode method_3_code 146 = .ok (.castore, 1) := by decide +kernel
theorem d_method_3_147 : decode method_3_code 147 = .ok (.dup, 1) := by decide +kernel
theorem d_method_3_148 : decode method_3_code 148 = .ok (.iconst 4, 1) := by decide +kernel
theorem d_method_3_149 : decode method_3_code 149 = .ok (.iload 4, 2) := by decide +kernel
theorem d_method_3_151 : decode method_3_code 151 = .ok (.castore, 1) := by decide +kernel
theorem d_method_3_152 : decode method_3_code 152 = .ok (.invokespecial 11, 3) := by decide +kernel
theorem d_method_3_155 : decode method_3_code 155 = .ok (.areturn, 1) := by decide +kernel
abbrev RM_rm_make : Room := { frames := 4, cells := 6, slots := 14, locals := 66 }
set_option maxRecDepth 65536 in
set_option maxHeartbeats 40000000 in
theorem rm_make (l : Launch) (Z : State) (a0 : Array Value) (hw : ∀ d ∈ tables_1, d.before a0 Z = true) (n0 : Nat) (ca : Int32) (cb : Int32) (cc : Int32) (cd : Int32) (ce : Int32) (ln : Nat) (zc : Int32) (h0 : Heap) (hO : Old Z n0 h0) (Sc : Sta Z Z.heap "java/lang/String" "COMPACT_STRINGS" "Z" (.int zc)) (nc : ¬ (zc = (0 : Int32))) (hca : ¬ ca < 0 ∧ ¬ (255 : Int32) < ca) (hcb : ¬ cb < 0 ∧ ¬ (255 : Int32) < cb) (hcc : ¬ cc < 0 ∧ ¬ (255 : Int32) < cc) (hcd : ¬ cd < 0 ∧ ¬ (255 : Int32) < cd) (hce : ¬ ce < 0 ∧ ¬ (255 : Int32) < ce) (hln : ln < 6) :
    Cw l (⟨"com/example/cinderpath/cinderpath/source/SourceFilePositionPinLaw", "make", "(CCCCCI)Ljava/lang/String;"⟩ : MethodName) method_3_code 6 (some (.object "java/lang/String")) [] RM_rm_make Z EL n0 #[(.int ca), (.int cb), (.int cc), (.int cd), (.int ce), (.int (Int32.ofNat ln))] h0 [] [] (Q_rm_make Z ca cb cc cd ce ln zc h0) := by
  refine Cw.of_walk (plainFor_of_name pn_1) hO (own_EW hw) all0 ?_
  intro p e s m below meth c T0 X0
  rw [ef_rm_make m ca cb cc cd ce (Int32.ofNat ln)]
  show Go _ _ _ _ (T0.setTop (mkF m 0 #[.val (.int ca), .val (.int cb), .val (.int cc), .val (.int cd), .val (.int ce), .val (.int (Int32.ofNat ln))] []))
  refine Go.by (fun _ k => XS.iload X0.here X0.hx rfl (X0.cd d_method_3_0) rfl  k) ?_
  show Go _ _ _ _ (T0.setTop (mkF m 2 #[.val (.int ca), .val (.int cb), .val (.int cc), .val (.int cd), .val (.int ce), .val (.int (Int32.ofNat ln))] [(.int (Int32.ofNat ln))]))
  by_cases c0 : (Int32.ofNat ln) = 0
  · refine Go.by (fun _ k => XS.ifNo X0.here X0.hx rfl (X0.cd d_method_3_2) rfl (XT.i0_ne_f c0) k) ?_
    show Go _ _ _ _ (T0.setTop (mkF m 5 #[.val (.int ca), .val (.int cb), .val (.int cc), .val (.int cd), .val (.int ce), .val (.int (Int32.ofNat ln))] []))
    obtain ⟨T1, h1, b1, g_b1, X1, E1, A1, D1, st1⟩ := X0.new (hw _ (List.mem_of_getElem? (i := 8) rfl)) (hw _ (List.mem_of_getElem? (i := 9) rfl)) (hw _ (List.mem_of_getElem? (i := 10) rfl)) (g := (mkF m 5 #[.val (.int ca), .val (.int cb), .val (.int cc), .val (.int cd), .val (.int ce), .val (.int (Int32.ofNat ln))] [])) rfl d_method_3_5 (by decide) (by decide)
    refine Go.by st1 ?_
    have sz_b1 : h0.size ≤ b1 := Nat.le_trans X0.sz (Nat.le_of_eq g_b1.symm)
    have K0_h1 : Keep h0 h1 [] := (Keep.refl h0 []).ext E1
    have F1_coder : Fld Z h1 b1 "java/lang/String" "coder" "B" (.int (0 : Int32)) := D1 (Or.inr (hw _ (List.mem_of_getElem? (i := 35) rfl))) (ty := .byte) (by decide)
    have F1_value : Fld Z h1 b1 "java/lang/String" "value" "[B" .null := D1 (Or.inr (hw _ (List.mem_of_getElem? (i := 37) rfl))) (ty := (.array .byte)) (by decide)
    show Go _ _ _ _ (T1.setTop (mkF m 8 #[.val (.int ca), .val (.int cb), .val (.int cc), .val (.int cd), .val (.int ce), .val (.int (Int32.ofNat ln))] [(.ref b1)]))
    refine Go.by (fun _ k => XS.dup X1.here X1.hx rfl (X1.cd d_method_3_8) rfl rfl k) ?_
    show Go _ _ _ _ (T1.setTop (mkF m 9 #[.val (.int ca), .val (.int cb), .val (.int cc), .val (.int cd), .val (.int ce), .val (.int (Int32.ofNat ln))] [(.ref b1), (.ref b1)]))
    refine Go.by (fun _ k => XS.iconst X1.here X1.hx rfl (X1.cd d_method_3_9)  k) ?_
    show Go _ _ _ _ (T1.setTop (mkF m 10 #[.val (.int ca), .val (.int cb), .val (.int cc), .val (.int cd), .val (.int ce), .val (.int (Int32.ofNat ln))] [(.int (0 : Int32)), (.ref b1), (.ref b1)]))
    have lt_b1_2 := (X1.lt (.head _))
    obtain ⟨T2, h2, b2, k2, g_b2, X2, E2, A2, st2⟩ := X1.newP (hw _ (List.mem_of_getElem? (i := 11) rfl)) (g := (mkF m 10 #[.val (.int ca), .val (.int cb), .val (.int cc), .val (.int cd), .val (.int ce), .val (.int (Int32.ofNat ln))] [(.int (0 : Int32)), (.ref b1), (.ref b1)])) rfl d_method_3_10 rfl (by decide) (cap := 0) (by decide) (by decide) (by decide) (by decide) (vs := []) rfl
    refine Go.by st2 ?_
    have ne_b1_b2 : b1 ≠ b2 := ne_new lt_b1_2 g_b2
    have sz_b2 : h0.size ≤ b2 := Nat.le_trans X1.sz (Nat.le_of_eq g_b2.symm)
    have K0_h2 : Keep h0 h2 [] := K0_h1.ext E2
    have F2 : Arv Z h2 b2 k2 .char (0 : Int32) [] (.int (0 : Int32)) := A2
    show Go _ _ _ _ (T2.setTop (mkF m 12 #[.val (.int ca), .val (.int cb), .val (.int cc), .val (.int cd), .val (.int ce), .val (.int (Int32.ofNat ln))] [(.ref b2), (.ref b1), (.ref b1)]))
    have f3 : Exa Z h2 b1 "java/lang/String" := A1.ext E2
    have f4 : Fld Z h2 b1 "java/lang/String" "value" "[B" .null := F1_value.ext E2
    have f5 : Fld Z h2 b1 "java/lang/String" "coder" "B" (.int (0 : Int32)) := F1_coder.ext E2
    obtain ⟨_, T6, h6, X6, K6, ⟨t_6, rfl, P6_0, p6_0⟩, st6⟩ := X2.spW (W := 1) rfl (hw _ (List.mem_of_getElem? (i := 12) rfl)) (hw _ (List.mem_of_getElem? (i := 13) rfl)) (hw _ (List.mem_of_getElem? (i := 14) rfl)) (by decide) ((rm_ne1 l Z a0 hw n0 b1 b2 b1 k2 [] .null (.int (0 : Int32)) h2 X2.old f3 f4 f5 F2 (X2.ge (.tail _ (.head _))) (X2.lt (.tail _ (.head _))) (X2.ge (.tail _ (.head _))) (X2.lt (.tail _ (.head _)))).pay (hw _ (List.mem_of_getElem? (i := 14) rfl)) (hw _ (List.mem_of_getElem? (i := 10) rfl)) (own_EW hw) (by decide) (by decide)) (allS (.tail _ (.head _)) all0) (allS (.tail _ (.head _)) (allS (.tail _ (.head _)) all0)) (g := (mkF m 12 #[.val (.int ca), .val (.int cb), .val (.int cc), .val (.int cd), .val (.int ce), .val (.int (Int32.ofNat ln))] [(.ref b2), (.ref b1), (.ref b1)])) rfl rfl (a := b1) (argsL := [(.ref b2)]) (rest := [(.ref b1)]) (lenOf pd_1 rfl) rfl (by exact Nat.le_of_eq rfl) d_method_3_12 rfl (by decide) (by decide)
    refine Go.tr st6 ?_
    have K0_h6 : Keep h0 h6 [] := K0_h2.trans K6 (allS (Or.inr sz_b1) all0)
    show Go _ _ _ _ (T6.setTop (mkF m 15 #[.val (.int ca), .val (.int cb), .val (.int cc), .val (.int cd), .val (.int ce), .val (.int (Int32.ofNat ln))] [(.ref b1)]))
    exact X6.retR rfl rfl d_method_3_15 K0_h6 ⟨b1, t_6, rfl, sz_b1, (X6.lt (.tail _ (.head _))), (by have q : ln = 0 := on_inj (b := 0) (by omega) (by omega) c0; rw [q]; exact P6_0)⟩ (by decide) (by decide)
  · refine Go.by (fun _ k => XS.ifYes X0.here X0.hx rfl (pc0 := 2) (pc' := 16) rfl (X0.cd d_method_3_2) rfl (XT.i0_ne_t c0) (by decide) (by decide) k) ?_
    show Go _ _ _ _ (T0.setTop (mkF m 16 #[.val (.int ca), .val (.int cb), .val (.int cc), .val (.int cd), .val (.int ce), .val (.int (Int32.ofNat ln))] []))
    refine Go.by (fun _ k => XS.iload X0.here X0.hx rfl (X0.cd d_method_3_16) rfl  k) ?_
    show Go _ _ _ _ (T0.setTop (mkF m 18 #[.val (.int ca), .val (.int cb), .val (.int cc), .val (.int cd), .val (.int ce), .val (.int (Int32.ofNat ln))] [(.int (Int32.ofNat ln))]))
    refine Go.by (fun _ k => XS.iconst X0.here X0.hx rfl (X0.cd d_method_3_18)  k) ?_
    show Go _ _ _ _ (T0.setTop (mkF m 19 #[.val (.int ca), .val (.int cb), .val (.int cc), .val (.int cd), .val (.int ce), .val (.int (Int32.ofNat ln))] [(.int (1 : Int32)), (.int (Int32.ofNat ln))]))
    by_cases c1 : (Int32.ofNat ln) = (1 : Int32)
    · refine Go.by (fun _ k => XS.icmpNo X0.here X0.hx rfl (X0.cd d_method_3_19) rfl (XT.ii_ne_f c1) k) ?_
      show Go _ _ _ _ (T0.setTop (mkF m 22 #[.val (.int ca), .val (.int cb), .val (.int cc), .val (.int cd), .val (.int ce), .val (.int (Int32.ofNat ln))] []))
      obtain ⟨T7, h7, b7, g_b7, X7, E7, A7, D7, st7⟩ := X0.new (hw _ (List.mem_of_getElem? (i := 8) rfl)) (hw _ (List.mem_of_getElem? (i := 9) rfl)) (hw _ (List.mem_of_getElem? (i := 10) rfl)) (g := (mkF m 22 #[.val (.int ca), .val (.int cb), .val (.int cc), .val (.int cd), .val (.int ce), .val (.int (Int32.ofNat ln))] [])) rfl d_method_3_22 (by decide) (by decide)
      refine Go.by st7 ?_
      have sz_b7 : h0.size ≤ b7 := Nat.le_trans X0.sz (Nat.le_of_eq g_b7.symm)
      have K0_h7 : Keep h0 h7 [] := (Keep.refl h0 []).ext E7
      have F7_coder : Fld Z h7 b7 "java/lang/String" "coder" "B" (.int (0 : Int32)) := D7 (Or.inr (hw _ (List.mem_of_getElem? (i := 35) rfl))) (ty := .byte) (by decide)
      have F7_value : Fld Z h7 b7 "java/lang/String" "value" "[B" .null := D7 (Or.inr (hw _ (List.mem_of_getElem? (i := 37) rfl))) (ty := (.array .byte)) (by decide)
      show Go _ _ _ _ (T7.setTop (mkF m 25 #[.val (.int ca), .val (.int cb), .val (.int cc), .val (.int cd), .val (.int ce), .val (.int (Int32.ofNat ln))] [(.ref b7)]))
      refine Go.by (fun _ k => XS.dup X7.here X7.hx rfl (X7.cd d_method_3_25) rfl rfl k) ?_
      show Go _ _ _ _ (T7.setTop (mkF m 26 #[.val (.int ca), .val (.int cb), .val (.int cc), .val (.int cd), .val (.int ce), .val (.int (Int32.ofNat ln))] [(.ref b7), (.ref b7)]))
      refine Go.by (fun _ k => XS.iconst X7.here X7.hx rfl (X7.cd d_method_3_26)  k) ?_
      show Go _ _ _ _ (T7.setTop (mkF m 27 #[.val (.int ca), .val (.int cb), .val (.int cc), .val (.int cd), .val (.int ce), .val (.int (Int32.ofNat ln))] [(.int (1 : Int32)), (.ref b7), (.ref b7)]))
      have lt_b7_8 := (X7.lt (.head _))
      obtain ⟨T8, h8, b8, k8, g_b8, X8, E8, A8, st8⟩ := X7.newP (hw _ (List.mem_of_getElem? (i := 11) rfl)) (g := (mkF m 27 #[.val (.int ca), .val (.int cb), .val (.int cc), .val (.int cd), .val (.int ce), .val (.int (Int32.ofNat ln))] [(.int (1 : Int32)), (.ref b7), (.ref b7)])) rfl d_method_3_27 rfl (by decide) (cap := 1) (by decide) (by decide) (by decide) (by decide) (vs := [(.int (0 : Int32))]) rfl
      refine Go.by st8 ?_
      have ne_b7_b8 : b7 ≠ b8 := ne_new lt_b7_8 g_b8
      have sz_b8 : h0.size ≤ b8 := Nat.le_trans X7.sz (Nat.le_of_eq g_b8.symm)
      have K0_h8 : Keep h0 h8 [] := K0_h7.ext E8
      have F8 : Arv Z h8 b8 k8 .char (1 : Int32) [(.int (0 : Int32))] (.int (0 : Int32)) := A8
      show Go _ _ _ _ (T8.setTop (mkF m 29 #[.val (.int ca), .val (.int cb), .val (.int cc), .val (.int cd), .val (.int ce), .val (.int (Int32.ofNat ln))] [(.ref b8), (.ref b7), (.ref b7)]))
      refine Go.by (fun _ k => XS.dup X8.here X8.hx rfl (X8.cd d_method_3_29) rfl rfl k) ?_
      show Go _ _ _ _ (T8.setTop (mkF m 30 #[.val (.int ca), .val (.int cb), .val (.int cc), .val (.int cd), .val (.int ce), .val (.int (Int32.ofNat ln))] [(.ref b8), (.ref b8), (.ref b7), (.ref b7)]))
      refine Go.by (fun _ k => XS.iconst X8.here X8.hx rfl (X8.cd d_method_3_30)  k) ?_
      show Go _ _ _ _ (T8.setTop (mkF m 31 #[.val (.int ca), .val (.int cb), .val (.int cc), .val (.int cd), .val (.int ce), .val (.int (Int32.ofNat ln))] [(.int (0 : Int32)), (.ref b8), (.ref b8), (.ref b7), (.ref b7)]))
      refine Go.by (fun _ k => XS.iloadN X8.here X8.hx rfl (X8.cd d_method_3_31) rfl  k) ?_
      show Go _ _ _ _ (T8.setTop (mkF m 32 #[.val (.int ca), .val (.int cb), .val (.int cc), .val (.int cd), .val (.int ce), .val (.int (Int32.ofNat ln))] [(.int ca), (.int (0 : Int32)), (.ref b8), (.ref b8), (.ref b7), (.ref b7)]))
      obtain ⟨T9, h9, X9, W9, A9, st9⟩ := X8.stC (x' := ca) F8 (.head _) ⟨by decide, by decide⟩ (i := 0) rfl (Nat.le_of_ble_eq_true rfl) (nar255 hca) (vs' := [(.int ca)]) rfl (g := (mkF m 32 #[.val (.int ca), .val (.int cb), .val (.int cc), .val (.int cd), .val (.int ce), .val (.int (Int32.ofNat ln))] [(.int ca), (.int (0 : Int32)), (.ref b8), (.ref b8), (.ref b7), (.ref b7)])) rfl rfl d_method_3_32
      refine Go.by st9 ?_
      have K0_h9 : Keep h0 h9 [] := K0_h8.trans W9 (allS (Or.inr sz_b8) all0)
      show Go _ _ _ _ (T9.setTop (mkF m 33 #[.val (.int ca), .val (.int cb), .val (.int cc), .val (.int cd), .val (.int ce), .val (.int (Int32.ofNat ln))] [(.ref b8), (.ref b7), (.ref b7)]))
      have f10 : Exa Z h9 b7 "java/lang/String" := (A7.ext E8).keep W9
      have f11 : Fld Z h9 b7 "java/lang/String" "value" "[B" .null := (F7_value.ext E8).keep W9 (ninS ne_b7_b8 nin0)
      have f12 : Fld Z h9 b7 "java/lang/String" "coder" "B" (.int (0 : Int32)) := (F7_coder.ext E8).keep W9 (ninS ne_b7_b8 nin0)
      have lt_b7_13 := (X9.lt (.tail _ (.head _)))
      have lt_b8_13 := (X9.lt (.head _))
      obtain ⟨_, T13, h13, X13, K13, ⟨t_13, rfl, fr_t_13, fl_t_13, P13_0⟩, st13⟩ := X9.spN (W := 1) rfl (hw _ (List.mem_of_getElem? (i := 12) rfl)) (hw _ (List.mem_of_getElem? (i := 13) rfl)) (hw _ (List.mem_of_getElem? (i := 14) rfl)) (by decide) (payNew (fun d hd => hw d ((by decide +kernel : ∀ d ∈ StrChars.Road.words, d ∈ tables_1) d hd)) (hw _ (List.mem_of_getElem? (i := 9) rfl)) (cs := [ca]) (n := 1) X9.old (X9.ge (.tail _ (.head _))) f10 f11 f12 A9 Sc nc rfl rfl (by decide) (by decide) (all1 hca alln) (by decide) (by decide)) (allS (.tail _ (.head _)) all0) (g := (mkF m 33 #[.val (.int ca), .val (.int cb), .val (.int cc), .val (.int cd), .val (.int ce), .val (.int (Int32.ofNat ln))] [(.ref b8), (.ref b7), (.ref b7)])) rfl rfl (a := b7) (argsL := [(.ref b8)]) (rest := [(.ref b7)]) (lenOf pd_1 rfl) rfl (by exact Nat.le_of_eq rfl) d_method_3_33 rfl (by decide) (by decide)
      refine Go.tr st13 ?_
      have K0_h13 : Keep h0 h13 [] := K0_h9.trans K13 (allS (Or.inr sz_b7) all0)
      have ne_b7_t_13 : b7 ≠ t_13 := ne_ge lt_b7_13 fr_t_13
      have ne_b8_t_13 : b8 ≠ t_13 := ne_ge lt_b8_13 fr_t_13
      have sz_t_13 : h0.size ≤ t_13 := Nat.le_trans X9.sz fr_t_13
      show Go _ _ _ _ (T13.setTop (mkF m 36 #[.val (.int ca), .val (.int cb), .val (.int cc), .val (.int cd), .val (.int ce), .val (.int (Int32.ofNat ln))] [(.ref b7)]))
      exact X13.retR rfl rfl d_method_3_36 K0_h13 ⟨b7, t_13, rfl, sz_b7, (X13.lt (.tail _ (.head _))), (by have q : ln = 1 := on_inj (b := 1) (by omega) (by omega) c1; rw [q]; exact P13_0)⟩ (by decide) (by decide)
    · refine Go.by (fun _ k => XS.icmpYes X0.here X0.hx rfl (pc0 := 19) (pc' := 37) rfl (X0.cd d_method_3_19) rfl (XT.ii_ne_t c1) (by decide) (by decide) k) ?_
      show Go _ _ _ _ (T0.setTop (mkF m 37 #[.val (.int ca), .val (.int cb), .val (.int cc), .val (.int cd), .val (.int ce), .val (.int (Int32.ofNat ln))] []))
      refine Go.by (fun _ k => XS.iload X0.here X0.hx rfl (X0.cd d_method_3_37) rfl  k) ?_
      show Go _ _ _ _ (T0.setTop (mkF m 39 #[.val (.int ca), .val (.int cb), .val (.int cc), .val (.int cd), .val (.int ce), .val (.int (Int32.ofNat ln))] [(.int (Int32.ofNat ln))]))
      refine Go.by (fun _ k => XS.iconst X0.here X0.hx rfl (X0.cd d_method_3_39)  k) ?_
      show Go _ _ _ _ (T0.setTop (mkF m 40 #[.val (.int ca), .val (.int cb), .val (.int cc), .val (.int cd), .val (.int ce), .val (.int (Int32.ofNat ln))] [(.int (2 : Int32)), (.int (Int32.ofNat ln))]))
      by_cases c2 : (Int32.ofNat ln) = (2 : Int32)
      · refine Go.by (fun _ k => XS.icmpNo X0.here X0.hx rfl (X0.cd d_method_3_40) rfl (XT.ii_ne_f c2) k) ?_
        show Go _ _ _ _ (T0.setTop (mkF m 43 #[.val (.int ca), .val (.int cb), .val (.int cc), .val (.int cd), .val (.int ce), .val (.int (Int32.ofNat ln))] []))
        obtain ⟨T14, h14, b14, g_b14, X14, E14, A14, D14, st14⟩ := X0.new (hw _ (List.mem_of_getElem? (i := 8) rfl)) (hw _ (List.mem_of_getElem? (i := 9) rfl)) (hw _ (List.mem_of_getElem? (i := 10) rfl)) (g := (mkF m 43 #[.val (.int ca), .val (.int cb), .val (.int cc), .val (.int cd), .val (.int ce), .val (.int (Int32.ofNat ln))] [])) rfl d_method_3_43 (by decide) (by decide)
        refine Go.by st14 ?_
        have sz_b14 : h0.size ≤ b14 := Nat.le_trans X0.sz (Nat.le_of_eq g_b14.symm)
        have K0_h14 : Keep h0 h14 [] := (Keep.refl h0 []).ext E14
        have F14_coder : Fld Z h14 b14 "java/lang/String" "coder" "B" (.int (0 : Int32)) := D14 (Or.inr (hw _ (List.mem_of_getElem? (i := 35) rfl))) (ty := .byte) (by decide)
        have F14_value : Fld Z h14 b14 "java/lang/String" "value" "[B" .null := D14 (Or.inr (hw _ (List.mem_of_getElem? (i := 37) rfl))) (ty := (.array .byte)) (by decide)
        show Go _ _ _ _ (T14.setTop (mkF m 46 #[.val (.int ca), .val (.int cb), .val (.int cc), .val (.int cd), .val (.int ce), .val (.int (Int32.ofNat ln))] [(.ref b14)]))
        refine Go.by (fun _ k => XS.dup X14.here X14.hx rfl (X14.cd d_method_3_46) rfl rfl k) ?_
        show Go _ _ _ _ (T14.setTop (mkF m 47 #[.val (.int ca), .val (.int cb), .val (.int cc), .val (.int cd), .val (.int ce), .val (.int (Int32.ofNat ln))] [(.ref b14), (.ref b14)]))
        refine Go.by (fun _ k => XS.iconst X14.here X14.hx rfl (X14.cd d_method_3_47)  k) ?_
        show Go _ _ _ _ (T14.setTop (mkF m 48 #[.val (.int ca), .val (.int cb), .val (.int cc), .val (.int cd), .val (.int ce), .val (.int (Int32.ofNat ln))] [(.int (2 : Int32)), (.ref b14), (.ref b14)]))
        have lt_b14_15 := (X14.lt (.head _))
        obtain ⟨T15, h15, b15, k15, g_b15, X15, E15, A15, st15⟩ := X14.newP (hw _ (List.mem_of_getElem? (i := 11) rfl)) (g := (mkF m 48 #[.val (.int ca), .val (.int cb), .val (.int cc), .val (.int cd), .val (.int ce), .val (.int (Int32.ofNat ln))] [(.int (2 : Int32)), (.ref b14), (.ref b14)])) rfl d_method_3_48 rfl (by decide) (cap := 2) (by decide) (by decide) (by decide) (by decide) (vs := [(.int (0 : Int32)), (.int (0 : Int32))]) rfl
        refine Go.by st15 ?_
        have ne_b14_b15 : b14 ≠ b15 := ne_new lt_b14_15 g_b15
        have sz_b15 : h0.size ≤ b15 := Nat.le_trans X14.sz (Nat.le_of_eq g_b15.symm)
        have K0_h15 : Keep h0 h15 [] := K0_h14.ext E15
        have F15 : Arv Z h15 b15 k15 .char (2 : Int32) [(.int (0 : Int32)), (.int (0 : Int32))] (.int (0 : Int32)) := A15
        show Go _ _ _ _ (T15.setTop (mkF m 50 #[.val (.int ca), .val (.int cb), .val (.int cc), .val (.int cd), .val (.int ce), .val (.int (Int32.ofNat ln))] [(.ref b15), (.ref b14), (.ref b14)]))
        refine Go.by (fun _ k => XS.dup X15.here X15.hx rfl (X15.cd d_method_3_50) rfl rfl k) ?_
        show Go _ _ _ _ (T15.setTop (mkF m 51 #[.val (.int ca), .val (.int cb), .val (.int cc), .val (.int cd), .val (.int ce), .val (.int (Int32.ofNat ln))] [(.ref b15), (.ref b15), (.ref b14), (.ref b14)]))
        refine Go.by (fun _ k => XS.iconst X15.here X15.hx rfl (X15.cd d_method_3_51)  k) ?_
        show Go _ _ _ _ (T15.setTop (mkF m 52 #[.val (.int ca), .val (.int cb), .val (.int cc), .val (.int cd), .val (.int ce), .val (.int (Int32.ofNat ln))] [(.int (0 : Int32)), (.ref b15), (.ref b15), (.ref b14), (.ref b14)]))
        refine Go.by (fun _ k => XS.iloadN X15.here X15.hx rfl (X15.cd d_method_3_52) rfl  k) ?_
        show Go _ _ _ _ (T15.setTop (mkF m 53 #[.val (.int ca), .val (.int cb), .val (.int cc), .val (.int cd), .val (.int ce), .val (.int (Int32.ofNat ln))] [(.int ca), (.int (0 : Int32)), (.ref b15), (.ref b15), (.ref b14), (.ref b14)]))
        obtain ⟨T16, h16, X16, W16, A16, st16⟩ := X15.stC (x' := ca) F15 (.head _) ⟨by decide, by decide⟩ (i := 0) rfl (Nat.le_of_ble_eq_true rfl) (nar255 hca) (vs' := [(.int ca), (.int (0 : Int32))]) rfl (g := (mkF m 53 #[.val (.int ca), .val (.int cb), .val (.int cc), .val (.int cd), .val (.int ce), .val (.int (Int32.ofNat ln))] [(.int ca), (.int (0 : Int32)), (.ref b15), (.ref b15), (.ref b14), (.ref b14)])) rfl rfl d_method_3_53
        refine Go.by st16 ?_
        have K0_h16 : Keep h0 h16 [] := K0_h15.trans W16 (allS (Or.inr sz_b15) all0)
        show Go _ _ _ _ (T16.setTop (mkF m 54 #[.val (.int ca), .val (.int cb), .val (.int cc), .val (.int cd), .val (.int ce), .val (.int (Int32.ofNat ln))] [(.ref b15), (.ref b14), (.ref b14)]))
        refine Go.by (fun _ k => XS.dup X16.here X16.hx rfl (X16.cd d_method_3_54) rfl rfl k) ?_
        show Go _ _ _ _ (T16.setTop (mkF m 55 #[.val (.int ca), .val (.int cb), .val (.int cc), .val (.int cd), .val (.int ce), .val (.int (Int32.ofNat ln))] [(.ref b15), (.ref b15), (.ref b14), (.ref b14)]))
        refine Go.by (fun _ k => XS.iconst X16.here X16.hx rfl (X16.cd d_method_3_55)  k) ?_
        show Go _ _ _ _ (T16.setTop (mkF m 56 #[.val (.int ca), .val (.int cb), .val (.int cc), .val (.int cd), .val (.int ce), .val (.int (Int32.ofNat ln))] [(.int (1 : Int32)), (.ref b15), (.ref b15), (.ref b14), (.ref b14)]))
        refine Go.by (fun _ k => XS.iloadN X16.here X16.hx rfl (X16.cd d_method_3_56) rfl  k) ?_
        show Go _ _ _ _ (T16.setTop (mkF m 57 #[.val (.int ca), .val (.int cb), .val (.int cc), .val (.int cd), .val (.int ce), .val (.int (Int32.ofNat ln))] [(.int cb), (.int (1 : Int32)), (.ref b15), (.ref b15), (.ref b14), (.ref b14)]))
        obtain ⟨T17, h17, X17, W17, A17, st17⟩ := X16.stC (x' := cb) A16 (.head _) ⟨by decide, by decide⟩ (i := 1) rfl (Nat.le_of_ble_eq_true rfl) (nar255 hcb) (vs' := [(.int ca), (.int cb)]) rfl (g := (mkF m 57 #[.val (.int ca), .val (.int cb), .val (.int cc), .val (.int cd), .val (.int ce), .val (.int (Int32.ofNat ln))] [(.int cb), (.int (1 : Int32)), (.ref b15), (.ref b15), (.ref b14), (.ref b14)])) rfl rfl d_method_3_57
        refine Go.by st17 ?_
        have K0_h17 : Keep h0 h17 [] := K0_h16.trans W17 (allS (Or.inr sz_b15) all0)
        show Go _ _ _ _ (T17.setTop (mkF m 58 #[.val (.int ca), .val (.int cb), .val (.int cc), .val (.int cd), .val (.int ce), .val (.int (Int32.ofNat ln))] [(.ref b15), (.ref b14), (.ref b14)]))
        have f18 : Exa Z h17 b14 "java/lang/String" := ((A14.ext E15).keep W16).keep W17
        have f19 : Fld Z h17 b14 "java/lang/String" "value" "[B" .null := ((F14_value.ext E15).keep W16 (ninS ne_b14_b15 nin0)).keep W17 (ninS ne_b14_b15 nin0)
        have f20 : Fld Z h17 b14 "java/lang/String" "coder" "B" (.int (0 : Int32)) := ((F14_coder.ext E15).keep W16 (ninS ne_b14_b15 nin0)).keep W17 (ninS ne_b14_b15 nin0)
        have lt_b14_21 := (X17.lt (.tail _ (.head _)))
        have lt_b15_21 := (X17.lt (.head _))
        obtain ⟨_, T21, h21, X21, K21, ⟨t_21, rfl, fr_t_21, fl_t_21, P21_0⟩, st21⟩ := X17.spN (W := 1) rfl (hw _ (List.mem_of_getElem? (i := 12) rfl)) (hw _ (List.mem_of_getElem? (i := 13) rfl)) (hw _ (List.mem_of_getElem? (i := 14) rfl)) (by decide) (payNew (fun d hd => hw d ((by decide +kernel : ∀ d ∈ StrChars.Road.words, d ∈ tables_1) d hd)) (hw _ (List.mem_of_getElem? (i := 9) rfl)) (cs := [ca, cb]) (n := 2) X17.old (X17.ge (.tail _ (.head _))) f18 f19 f20 A17 Sc nc rfl rfl (by decide) (by decide) (all1 hca (all1 hcb alln)) (by decide) (by decide)) (allS (.tail _ (.head _)) all0) (g := (mkF m 58 #[.val (.int ca), .val (.int cb), .val (.int cc), .val (.int cd), .val (.int ce), .val (.int (Int32.ofNat ln))] [(.ref b15), (.ref b14), (.ref b14)])) rfl rfl (a := b14) (argsL := [(.ref b15)]) (rest := [(.ref b14)]) (lenOf pd_1 rfl) rfl (by exact Nat.le_of_eq rfl) d_method_3_58 rfl (by decide) (by decide)
        refine Go.tr st21 ?_
        have K0_h21 : Keep h0 h21 [] := K0_h17.trans K21 (allS (Or.inr sz_b14) all0)
        have ne_b14_t_21 : b14 ≠ t_21 := ne_ge lt_b14_21 fr_t_21
        have ne_b15_t_21 : b15 ≠ t_21 := ne_ge lt_b15_21 fr_t_21
        have sz_t_21 : h0.size ≤ t_21 := Nat.le_trans X17.sz fr_t_21
        show Go _ _ _ _ (T21.setTop (mkF m 61 #[.val (.int ca), .val (.int cb), .val (.int cc), .val (.int cd), .val (.int ce), .val (.int (Int32.ofNat ln))] [(.ref b14)]))
        exact X21.retR rfl rfl d_method_3_61 K0_h21 ⟨b14, t_21, rfl, sz_b14, (X21.lt (.tail _ (.head _))), (by have q : ln = 2 := on_inj (b := 2) (by omega) (by omega) c2; rw [q]; exact P21_0)⟩ (by decide) (by decide)
      · refine Go.by (fun _ k => XS.icmpYes X0.here X0.hx rfl (pc0 := 40) (pc' := 62) rfl (X0.cd d_method_3_40) rfl (XT.ii_ne_t c2) (by decide) (by decide) k) ?_
        show Go _ _ _ _ (T0.setTop (mkF m 62 #[.val (.int ca), .val (.int cb), .val (.int cc), .val (.int cd), .val (.int ce), .val (.int (Int32.ofNat ln))] []))
        refine Go.by (fun _ k => XS.iload X0.here X0.hx rfl (X0.cd d_method_3_62) rfl  k) ?_
        show Go _ _ _ _ (T0.setTop (mkF m 64 #[.val (.int ca), .val (.int cb), .val (.int cc), .val (.int cd), .val (.int ce), .val (.int (Int32.ofNat ln))] [(.int (Int32.ofNat ln))]))
        refine Go.by (fun _ k => XS.iconst X0.here X0.hx rfl (X0.cd d_method_3_64)  k) ?_
        show Go _ _ _ _ (T0.setTop (mkF m 65 #[.val (.int ca), .val (.int cb), .val (.int cc), .val (.int cd), .val (.int ce), .val (.int (Int32.ofNat ln))] [(.int (3 : Int32)), (.int (Int32.ofNat ln))]))
        by_cases c3 : (Int32.ofNat ln) = (3 : Int32)
        · refine Go.by (fun _ k => XS.icmpNo X0.here X0.hx rfl (X0.cd d_method_3_65) rfl (XT.ii_ne_f c3) k) ?_
          show Go _ _ _ _ (T0.setTop (mkF m 68 #[.val (.int ca), .val (.int cb), .val (.int cc), .val (.int cd), .val (.int ce), .val (.int (Int32.ofNat ln))] []))
          obtain ⟨T22, h22, b22, g_b22, X22, E22, A22, D22, st22⟩ := X0.new (hw _ (List.mem_of_getElem? (i := 8) rfl)) (hw _ (List.mem_of_getElem? (i := 9) rfl)) (hw _ (List.mem_of_getElem? (i := 10) rfl)) (g := (mkF m 68 #[.val (.int ca), .val (.int cb), .val (.int cc), .val (.int cd), .val (.int ce), .val (.int (Int32.ofNat ln))] [])) rfl d_method_3_68 (by decide) (by decide)
          refine Go.by st22 ?_
          have sz_b22 : h0.size ≤ b22 := Nat.le_trans X0.sz (Nat.le_of_eq g_b22.symm)
          have K0_h22 : Keep h0 h22 [] := (Keep.refl h0 []).ext E22
          have F22_coder : Fld Z h22 b22 "java/lang/String" "coder" "B" (.int (0 : Int32)) := D22 (Or.inr (hw _ (List.mem_of_getElem? (i := 35) rfl))) (ty := .byte) (by decide)
          have F22_value : Fld Z h22 b22 "java/lang/String" "value" "[B" .null := D22 (Or.inr (hw _ (List.mem_of_getElem? (i := 37) rfl))) (ty := (.array .byte)) (by decide)
          show Go _ _ _ _ (T22.setTop (mkF m 71 #[.val (.int ca), .val (.int cb), .val (.int cc), .val (.int cd), .val (.int ce), .val (.int (Int32.ofNat ln))] [(.ref b22)]))
          refine Go.by (fun _ k => XS.dup X22.here X22.hx rfl (X22.cd d_method_3_71) rfl rfl k) ?_
          show Go _ _ _ _ (T22.setTop (mkF m 72 #[.val (.int ca), .val (.int cb), .val (.int cc), .val (.int cd), .val (.int ce), .val (.int (Int32.ofNat ln))] [(.ref b22), (.ref b22)]))
          refine Go.by (fun _ k => XS.iconst X22.here X22.hx rfl (X22.cd d_method_3_72)  k) ?_
          show Go _ _ _ _ (T22.setTop (mkF m 73 #[.val (.int ca), .val (.int cb), .val (.int cc), .val (.int cd), .val (.int ce), .val (.int (Int32.ofNat ln))] [(.int (3 : Int32)), (.ref b22), (.ref b22)]))
          have lt_b22_23 := (X22.lt (.head _))
          obtain ⟨T23, h23, b23, k23, g_b23, X23, E23, A23, st23⟩ := X22.newP (hw _ (List.mem_of_getElem? (i := 11) rfl)) (g := (mkF m 73 #[.val (.int ca), .val (.int cb), .val (.int cc), .val (.int cd), .val (.int ce), .val (.int (Int32.ofNat ln))] [(.int (3 : Int32)), (.ref b22), (.ref b22)])) rfl d_method_3_73 rfl (by decide) (cap := 3) (by decide) (by decide) (by decide) (by decide) (vs := [(.int (0 : Int32)), (.int (0 : Int32)), (.int (0 : Int32))]) rfl
          refine Go.by st23 ?_
          have ne_b22_b23 : b22 ≠ b23 := ne_new lt_b22_23 g_b23
          have sz_b23 : h0.size ≤ b23 := Nat.le_trans X22.sz (Nat.le_of_eq g_b23.symm)
          have K0_h23 : Keep h0 h23 [] := K0_h22.ext E23
          have F23 : Arv Z h23 b23 k23 .char (3 : Int32) [(.int (0 : Int32)), (.int (0 : Int32)), (.int (0 : Int32))] (.int (0 : Int32)) := A23
          show Go _ _ _ _ (T23.setTop (mkF m 75 #[.val (.int ca), .val (.int cb), .val (.int cc), .val (.int cd), .val (.int ce), .val (.int (Int32.ofNat ln))] [(.ref b23), (.ref b22), (.ref b22)]))
          refine Go.by (fun _ k => XS.dup X23.here X23.hx rfl (X23.cd d_method_3_75) rfl rfl k) ?_
          show Go _ _ _ _ (T23.setTop (mkF m 76 #[.val (.int ca), .val (.int cb), .val (.int cc), .val (.int cd), .val (.int ce), .val (.int (Int32.ofNat ln))] [(.ref b23), (.ref b23), (.ref b22), (.ref b22)]))
          refine Go.by (fun _ k => XS.iconst X23.here X23.hx rfl (X23.cd d_method_3_76)  k) ?_
          show Go _ _ _ _ (T23.setTop (mkF m 77 #[.val (.int ca), .val (.int cb), .val (.int cc), .val (.int cd), .val (.int ce), .val (.int (Int32.ofNat ln))] [(.int (0 : Int32)), (.ref b23), (.ref b23), (.ref b22), (.ref b22)]))
          refine Go.by (fun _ k => XS.iloadN X23.here X23.hx rfl (X23.cd d_method_3_77) rfl  k) ?_
          show Go _ _ _ _ (T23.setTop (mkF m 78 #[.val (.int ca), .val (.int cb), .val (.int cc), .val (.int cd), .val (.int ce), .val (.int (Int32.ofNat ln))] [(.int ca), (.int (0 : Int32)), (.ref b23), (.ref b23), (.ref b22), (.ref b22)]))
          obtain ⟨T24, h24, X24, W24, A24, st24⟩ := X23.stC (x' := ca) F23 (.head _) ⟨by decide, by decide⟩ (i := 0) rfl (Nat.le_of_ble_eq_true rfl) (nar255 hca) (vs' := [(.int ca), (.int (0 : Int32)), (.int (0 : Int32))]) rfl (g := (mkF m 78 #[.val (.int ca), .val (.int cb), .val (.int cc), .val (.int cd), .val (.int ce), .val (.int (Int32.ofNat ln))] [(.int ca), (.int (0 : Int32)), (.ref b23), (.ref b23), (.ref b22), (.ref b22)])) rfl rfl d_method_3_78
          refine Go.by st24 ?_
          have K0_h24 : Keep h0 h24 [] := K0_h23.trans W24 (allS (Or.inr sz_b23) all0)
          show Go _ _ _ _ (T24.setTop (mkF m 79 #[.val (.int ca), .val (.int cb), .val (.int cc), .val (.int cd), .val (.int ce), .val (.int (Int32.ofNat ln))] [(.ref b23), (.ref b22), (.ref b22)]))
          refine Go.by (fun _ k => XS.dup X24.here X24.hx rfl (X24.cd d_method_3_79) rfl rfl k) ?_
          show Go _ _ _ _ (T24.setTop (mkF m 80 #[.val (.int ca), .val (.int cb), .val (.int cc), .val (.int cd), .val (.int ce), .val (.int (Int32.ofNat ln))] [(.ref b23), (.ref b23), (.ref b22), (.ref b22)]))
          refine Go.by (fun _ k => XS.iconst X24.here X24.hx rfl (X24.cd d_method_3_80)  k) ?_
          show Go _ _ _ _ (T24.setTop (mkF m 81 #[.val (.int ca), .val (.int cb), .val (.int cc), .val (.int cd), .val (.int ce), .val (.int (Int32.ofNat ln))] [(.int (1 : Int32)), (.ref b23), (.ref b23), (.ref b22), (.ref b22)]))
          refine Go.by (fun _ k => XS.iloadN X24.here X24.hx rfl (X24.cd d_method_3_81) rfl  k) ?_
          show Go _ _ _ _ (T24.setTop (mkF m 82 #[.val (.int ca), .val (.int cb), .val (.int cc), .val (.int cd), .val (.int ce), .val (.int (Int32.ofNat ln))] [(.int cb), (.int (1 : Int32)), (.ref b23), (.ref b23), (.ref b22), (.ref b22)]))
          obtain ⟨T25, h25, X25, W25, A25, st25⟩ := X24.stC (x' := cb) A24 (.head _) ⟨by decide, by decide⟩ (i := 1) rfl (Nat.le_of_ble_eq_true rfl) (nar255 hcb) (vs' := [(.int ca), (.int cb), (.int (0 : Int32))]) rfl (g := (mkF m 82 #[.val (.int ca), .val (.int cb), .val (.int cc), .val (.int cd), .val (.int ce), .val (.int (Int32.ofNat ln))] [(.int cb), (.int (1 : Int32)), (.ref b23), (.ref b23), (.ref b22), (.ref b22)])) rfl rfl d_method_3_82
          refine Go.by st25 ?_
          have K0_h25 : Keep h0 h25 [] := K0_h24.trans W25 (allS (Or.inr sz_b23) all0)
          show Go _ _ _ _ (T25.setTop (mkF m 83 #[.val (.int ca), .val (.int cb), .val (.int cc), .val (.int cd), .val (.int ce), .val (.int (Int32.ofNat ln))] [(.ref b23), (.ref b22), (.ref b22)]))
          refine Go.by (fun _ k => XS.dup X25.here X25.hx rfl (X25.cd d_method_3_83) rfl rfl k) ?_
          show Go _ _ _ _ (T25.setTop (mkF m 84 #[.val (.int ca), .val (.int cb), .val (.int cc), .val (.int cd), .val (.int ce), .val (.int (Int32.ofNat ln))] [(.ref b23), (.ref b23), (.ref b22), (.ref b22)]))
          refine Go.by (fun _ k => XS.iconst X25.here X25.hx rfl (X25.cd d_method_3_84)  k) ?_
          show Go _ _ _ _ (T25.setTop (mkF m 85 #[.val (.int ca), .val (.int cb), .val (.int cc), .val (.int cd), .val (.int ce), .val (.int (Int32.ofNat ln))] [(.int (2 : Int32)), (.ref b23), (.ref b23), (.ref b22), (.ref b22)]))
          refine Go.by (fun _ k => XS.iloadN X25.here X25.hx rfl (X25.cd d_method_3_85) rfl  k) ?_
          show Go _ _ _ _ (T25.setTop (mkF m 86 #[.val (.int ca), .val (.int cb), .val (.int cc), .val (.int cd), .val (.int ce), .val (.int (Int32.ofNat ln))] [(.int cc), (.int (2 : Int32)), (.ref b23), (.ref b23), (.ref b22), (.ref b22)]))
          obtain ⟨T26, h26, X26, W26, A26, st26⟩ := X25.stC (x' := cc) A25 (.head _) ⟨by decide, by decide⟩ (i := 2) rfl (Nat.le_of_ble_eq_true rfl) (nar255 hcc) (vs' := [(.int ca), (.int cb), (.int cc)]) rfl (g := (mkF m 86 #[.val (.int ca), .val (.int cb), .val (.int cc), .val (.int cd), .val (.int ce), .val (.int (Int32.ofNat ln))] [(.int cc), (.int (2 : Int32)), (.ref b23), (.ref b23), (.ref b22), (.ref b22)])) rfl rfl d_method_3_86
          refine Go.by st26 ?_
          have K0_h26 : Keep h0 h26 [] := K0_h25.trans W26 (allS (Or.inr sz_b23) all0)
          show Go _ _ _ _ (T26.setTop (mkF m 87 #[.val (.int ca), .val (.int cb), .val (.int cc), .val (.int cd), .val (.int ce), .val (.int (Int32.ofNat ln))] [(.ref b23), (.ref b22), (.ref b22)]))
          have f27 : Exa Z h26 b22 "java/lang/String" := (((A22.ext E23).keep W24).keep W25).keep W26
          have f28 : Fld Z h26 b22 "java/lang/String" "value" "[B" .null := (((F22_value.ext E23).keep W24 (ninS ne_b22_b23 nin0)).keep W25 (ninS ne_b22_b23 nin0)).keep W26 (ninS ne_b22_b23 nin0)
          have f29 : Fld Z h26 b22 "java/lang/String" "coder" "B" (.int (0 : Int32)) := (((F22_coder.ext E23).keep W24 (ninS ne_b22_b23 nin0)).keep W25 (ninS ne_b22_b23 nin0)).keep W26 (ninS ne_b22_b23 nin0)
          have lt_b22_30 := (X26.lt (.tail _ (.head _)))
          have lt_b23_30 := (X26.lt (.head _))
          obtain ⟨_, T30, h30, X30, K30, ⟨t_30, rfl, fr_t_30, fl_t_30, P30_0⟩, st30⟩ := X26.spN (W := 1) rfl (hw _ (List.mem_of_getElem? (i := 12) rfl)) (hw _ (List.mem_of_getElem? (i := 13) rfl)) (hw _ (List.mem_of_getElem? (i := 14) rfl)) (by decide) (payNew (fun d hd => hw d ((by decide +kernel : ∀ d ∈ StrChars.Road.words, d ∈ tables_1) d hd)) (hw _ (List.mem_of_getElem? (i := 9) rfl)) (cs := [ca, cb, cc]) (n := 3) X26.old (X26.ge (.tail _ (.head _))) f27 f28 f29 A26 Sc nc rfl rfl (by decide) (by decide) (all1 hca (all1 hcb (all1 hcc alln))) (by decide) (by decide)) (allS (.tail _ (.head _)) all0) (g := (mkF m 87 #[.val (.int ca), .val (.int cb), .val (.int cc), .val (.int cd), .val (.int ce), .val (.int (Int32.ofNat ln))] [(.ref b23), (.ref b22), (.ref b22)])) rfl rfl (a := b22) (argsL := [(.ref b23)]) (rest := [(.ref b22)]) (lenOf pd_1 rfl) rfl (by exact Nat.le_of_eq rfl) d_method_3_87 rfl (by decide) (by decide)
          refine Go.tr st30 ?_
          have K0_h30 : Keep h0 h30 [] := K0_h26.trans K30 (allS (Or.inr sz_b22) all0)
          have ne_b22_t_30 : b22 ≠ t_30 := ne_ge lt_b22_30 fr_t_30
          have ne_b23_t_30 : b23 ≠ t_30 := ne_ge lt_b23_30 fr_t_30
          have sz_t_30 : h0.size ≤ t_30 := Nat.le_trans X26.sz fr_t_30
          show Go _ _ _ _ (T30.setTop (mkF m 90 #[.val (.int ca), .val (.int cb), .val (.int cc), .val (.int cd), .val (.int ce), .val (.int (Int32.ofNat ln))] [(.ref b22)]))
          exact X30.retR rfl rfl d_method_3_90 K0_h30 ⟨b22, t_30, rfl, sz_b22, (X30.lt (.tail _ (.head _))), (by have q : ln = 3 := on_inj (b := 3) (by omega) (by omega) c3; rw [q]; exact P30_0)⟩ (by decide) (by decide)
        · refine Go.by (fun _ k => XS.icmpYes X0.here X0.hx rfl (pc0 := 65) (pc' := 91) rfl (X0.cd d_method_3_65) rfl (XT.ii_ne_t c3) (by decide) (by decide) k) ?_
          show Go _ _ _ _ (T0.setTop (mkF m 91 #[.val (.int ca), .val (.int cb), .val (.int cc), .val (.int cd), .val (.int ce), .val (.int (Int32.ofNat ln))] []))
          refine Go.by (fun _ k => XS.iload X0.here X0.hx rfl (X0.cd d_method_3_91) rfl  k) ?_
          show Go _ _ _ _ (T0.setTop (mkF m 93 #[.val (.int ca), .val (.int cb), .val (.int cc), .val (.int cd), .val (.int ce), .val (.int (Int32.ofNat ln))] [(.int (Int32.ofNat ln))]))
          refine Go.by (fun _ k => XS.iconst X0.here X0.hx rfl (X0.cd d_method_3_93)  k) ?_
          show Go _ _ _ _ (T0.setTop (mkF m 94 #[.val (.int ca), .val (.int cb), .val (.int cc), .val (.int cd), .val (.int ce), .val (.int (Int32.ofNat ln))] [(.int (4 : Int32)), (.int (Int32.ofNat ln))]))
          by_cases c4 : (Int32.ofNat ln) = (4 : Int32)
          · refine Go.by (fun _ k => XS.icmpNo X0.here X0.hx rfl (X0.cd d_method_3_94) rfl (XT.ii_ne_f c4) k) ?_
            show Go _ _ _ _ (T0.setTop (mkF m 97 #[.val (.int ca), .val (.int cb), .val (.int cc), .val (.int cd), .val (.int ce), .val (.int (Int32.ofNat ln))] []))
            obtain ⟨T31, h31, b31, g_b31, X31, E31, A31, D31, st31⟩ := X0.new (hw _ (List.mem_of_getElem? (i := 8) rfl)) (hw _ (List.mem_of_getElem? (i := 9) rfl)) (hw _ (List.mem_of_getElem? (i := 10) rfl)) (g := (mkF m 97 #[.val (.int ca), .val (.int cb), .val (.int cc), .val (.int cd), .val (.int ce), .val (.int (Int32.ofNat ln))] [])) rfl d_method_3_97 (by decide) (by decide)
            refine Go.by st31 ?_
            have sz_b31 : h0.size ≤ b31 := Nat.le_trans X0.sz (Nat.le_of_eq g_b31.symm)
            have K0_h31 : Keep h0 h31 [] := (Keep.refl h0 []).ext E31
            have F31_coder : Fld Z h31 b31 "java/lang/String" "coder" "B" (.int (0 : Int32)) := D31 (Or.inr (hw _ (List.mem_of_getElem? (i := 35) rfl))) (ty := .byte) (by decide)
            have F31_value : Fld Z h31 b31 "java/lang/String" "value" "[B" .null := D31 (Or.inr (hw _ (List.mem_of_getElem? (i := 37) rfl))) (ty := (.array .byte)) (by decide)
            show Go _ _ _ _ (T31.setTop (mkF m 100 #[.val (.int ca), .val (.int cb), .val (.int cc), .val (.int cd), .val (.int ce), .val (.int (Int32.ofNat ln))] [(.ref b31)]))
            refine Go.by (fun _ k => XS.dup X31.here X31.hx rfl (X31.cd d_method_3_100) rfl rfl k) ?_
            show Go _ _ _ _ (T31.setTop (mkF m 101 #[.val (.int ca), .val (.int cb), .val (.int cc), .val (.int cd), .val (.int ce), .val (.int (Int32.ofNat ln))] [(.ref b31), (.ref b31)]))
            refine Go.by (fun _ k => XS.iconst X31.here X31.hx rfl (X31.cd d_method_3_101)  k) ?_
            show Go _ _ _ _ (T31.setTop (mkF m 102 #[.val (.int ca), .val (.int cb), .val (.int cc), .val (.int cd), .val (.int ce), .val (.int (Int32.ofNat ln))] [(.int (4 : Int32)), (.ref b31), (.ref b31)]))
            have lt_b31_32 := (X31.lt (.head _))
            obtain ⟨T32, h32, b32, k32, g_b32, X32, E32, A32, st32⟩ := X31.newP (hw _ (List.mem_of_getElem? (i := 11) rfl)) (g := (mkF m 102 #[.val (.int ca), .val (.int cb), .val (.int cc), .val (.int cd), .val (.int ce), .val (.int (Int32.ofNat ln))] [(.int (4 : Int32)), (.ref b31), (.ref b31)])) rfl d_method_3_102 rfl (by decide) (cap := 4) (by decide) (by decide) (by decide) (by decide) (vs := [(.int (0 : Int32)), (.int (0 : Int32)), (.int (0 : Int32)), (.int (0 : Int32))]) rfl
            refine Go.by st32 ?_
            have ne_b31_b32 : b31 ≠ b32 := ne_new lt_b31_32 g_b32
            have sz_b32 : h0.size ≤ b32 := Nat.le_trans X31.sz (Nat.le_of_eq g_b32.symm)
            have K0_h32 : Keep h0 h32 [] := K0_h31.ext E32
            have F32 : Arv Z h32 b32 k32 .char (4 : Int32) [(.int (0 : Int32)), (.int (0 : Int32)), (.int (0 : Int32)), (.int (0 : Int32))] (.int (0 : Int32)) := A32
            show Go _ _ _ _ (T32.setTop (mkF m 104 #[.val (.int ca), .val (.int cb), .val (.int cc), .val (.int cd), .val (.int ce), .val (.int (Int32.ofNat ln))] [(.ref b32), (.ref b31), (.ref b31)]))
            refine Go.by (fun _ k => XS.dup X32.here X32.hx rfl (X32.cd d_method_3_104) rfl rfl k) ?_
            show Go _ _ _ _ (T32.setTop (mkF m 105 #[.val (.int ca), .val (.int cb), .val (.int cc), .val (.int cd), .val (.int ce), .val (.int (Int32.ofNat ln))] [(.ref b32), (.ref b32), (.ref b31), (.ref b31)]))
            refine Go.by (fun _ k => XS.iconst X32.here X32.hx rfl (X32.cd d_method_3_105)  k) ?_
            show Go _ _ _ _ (T32.setTop (mkF m 106 #[.val (.int ca), .val (.int cb), .val (.int cc), .val (.int cd), .val (.int ce), .val (.int (Int32.ofNat ln))] [(.int (0 : Int32)), (.ref b32), (.ref b32), (.ref b31), (.ref b31)]))
            refine Go.by (fun _ k => XS.iloadN X32.here X32.hx rfl (X32.cd d_method_3_106) rfl  k) ?_
            show Go _ _ _ _ (T32.setTop (mkF m 107 #[.val (.int ca), .val (.int cb), .val (.int cc), .val (.int cd), .val (.int ce), .val (.int (Int32.ofNat ln))] [(.int ca), (.int (0 : Int32)), (.ref b32), (.ref b32), (.ref b31), (.ref b31)]))
            obtain ⟨T33, h33, X33, W33, A33, st33⟩ := X32.stC (x' := ca) F32 (.head _) ⟨by decide, by decide⟩ (i := 0) rfl (Nat.le_of_ble_eq_true rfl) (nar255 hca) (vs' := [(.int ca), (.int (0 : Int32)), (.int (0 : Int32)), (.int (0 : Int32))]) rfl (g := (mkF m 107 #[.val (.int ca), .val (.int cb), .val (.int cc), .val (.int cd), .val (.int ce), .val (.int (Int32.ofNat ln))] [(.int ca), (.int (0 : Int32)), (.ref b32), (.ref b32), (.ref b31), (.ref b31)])) rfl rfl d_method_3_107
            refine Go.by st33 ?_
            have K0_h33 : Keep h0 h33 [] := K0_h32.trans W33 (allS (Or.inr sz_b32) all0)
            show Go _ _ _ _ (T33.setTop (mkF m 108 #[.val (.int ca), .val (.int cb), .val (.int cc), .val (.int cd), .val (.int ce), .val (.int (Int32.ofNat ln))] [(.ref b32), (.ref b31), (.ref b31)]))
            refine Go.by (fun _ k => XS.dup X33.here X33.hx rfl (X33.cd d_method_3_108) rfl rfl k) ?_
            show Go _ _ _ _ (T33.setTop (mkF m 109 #[.val (.int ca), .val (.int cb), .val (.int cc), .val (.int cd), .val (.int ce), .val (.int (Int32.ofNat ln))] [(.ref b32), (.ref b32), (.ref b31), (.ref b31)]))
            refine Go.by (fun _ k => XS.iconst X33.here X33.hx rfl (X33.cd d_method_3_109)  k) ?_
            show Go _ _ _ _ (T33.setTop (mkF m 110 #[.val (.int ca), .val (.int cb), .val (.int cc), .val (.int cd), .val (.int ce), .val (.int (Int32.ofNat ln))] [(.int (1 : Int32)), (.ref b32), (.ref b32), (.ref b31), (.ref b31)]))
            refine Go.by (fun _ k => XS.iloadN X33.here X33.hx rfl (X33.cd d_method_3_110) rfl  k) ?_
            show Go _ _ _ _ (T33.setTop (mkF m 111 #[.val (.int ca), .val (.int cb), .val (.int cc), .val (.int cd), .val (.int ce), .val (.int (Int32.ofNat ln))] [(.int cb), (.int (1 : Int32)), (.ref b32), (.ref b32), (.ref b31), (.ref b31)]))
            obtain ⟨T34, h34, X34, W34, A34, st34⟩ := X33.stC (x' := cb) A33 (.head _) ⟨by decide, by decide⟩ (i := 1) rfl (Nat.le_of_ble_eq_true rfl) (nar255 hcb) (vs' := [(.int ca), (.int cb), (.int (0 : Int32)), (.int (0 : Int32))]) rfl (g := (mkF m 111 #[.val (.int ca), .val (.int cb), .val (.int cc), .val (.int cd), .val (.int ce), .val (.int (Int32.ofNat ln))] [(.int cb), (.int (1 : Int32)), (.ref b32), (.ref b32), (.ref b31), (.ref b31)])) rfl rfl d_method_3_111
            refine Go.by st34 ?_
            have K0_h34 : Keep h0 h34 [] := K0_h33.trans W34 (allS (Or.inr sz_b32) all0)
            show Go _ _ _ _ (T34.setTop (mkF m 112 #[.val (.int ca), .val (.int cb), .val (.int cc), .val (.int cd), .val (.int ce), .val (.int (Int32.ofNat ln))] [(.ref b32), (.ref b31), (.ref b31)]))
            refine Go.by (fun _ k => XS.dup X34.here X34.hx rfl (X34.cd d_method_3_112) rfl rfl k) ?_
            show Go _ _ _ _ (T34.setTop (mkF m 113 #[.val (.int ca), .val (.int cb), .val (.int cc), .val (.int cd), .val (.int ce), .val (.int (Int32.ofNat ln))] [(.ref b32), (.ref b32), (.ref b31), (.ref b31)]))
            refine Go.by (fun _ k => XS.iconst X34.here X34.hx rfl (X34.cd d_method_3_113)  k) ?_
            show Go _ _ _ _ (T34.setTop (mkF m 114 #[.val (.int ca), .val (.int cb), .val (.int cc), .val (.int cd), .val (.int ce), .val (.int (Int32.ofNat ln))] [(.int (2 : Int32)), (.ref b32), (.ref b32), (.ref b31), (.ref b31)]))
            refine Go.by (fun _ k => XS.iloadN X34.here X34.hx rfl (X34.cd d_method_3_114) rfl  k) ?_
            show Go _ _ _ _ (T34.setTop (mkF m 115 #[.val (.int ca), .val (.int cb), .val (.int cc), .val (.int cd), .val (.int ce), .val (.int (Int32.ofNat ln))] [(.int cc), (.int (2 : Int32)), (.ref b32), (.ref b32), (.ref b31), (.ref b31)]))
            obtain ⟨T35, h35, X35, W35, A35, st35⟩ := X34.stC (x' := cc) A34 (.head _) ⟨by decide, by decide⟩ (i := 2) rfl (Nat.le_of_ble_eq_true rfl) (nar255 hcc) (vs' := [(.int ca), (.int cb), (.int cc), (.int (0 : Int32))]) rfl (g := (mkF m 115 #[.val (.int ca), .val (.int cb), .val (.int cc), .val (.int cd), .val (.int ce), .val (.int (Int32.ofNat ln))] [(.int cc), (.int (2 : Int32)), (.ref b32), (.ref b32), (.ref b31), (.ref b31)])) rfl rfl d_method_3_115
            refine Go.by st35 ?_
            have K0_h35 : Keep h0 h35 [] := K0_h34.trans W35 (allS (Or.inr sz_b32) all0)
            show Go _ _ _ _ (T35.setTop (mkF m 116 #[.val (.int ca), .val (.int cb), .val (.int cc), .val (.int cd), .val (.int ce), .val (.int (Int32.ofNat ln))] [(.ref b32), (.ref b31), (.ref b31)]))
            refine Go.by (fun _ k => XS.dup X35.here X35.hx rfl (X35.cd d_method_3_116) rfl rfl k) ?_
            show Go _ _ _ _ (T35.setTop (mkF m 117 #[.val (.int ca), .val (.int cb), .val (.int cc), .val (.int cd), .val (.int ce), .val (.int (Int32.ofNat ln))] [(.ref b32), (.ref b32), (.ref b31), (.ref b31)]))
            refine Go.by (fun _ k => XS.iconst X35.here X35.hx rfl (X35.cd d_method_3_117)  k) ?_
            show Go _ _ _ _ (T35.setTop (mkF m 118 #[.val (.int ca), .val (.int cb), .val (.int cc), .val (.int cd), .val (.int ce), .val (.int (Int32.ofNat ln))] [(.int (3 : Int32)), (.ref b32), (.ref b32), (.ref b31), (.ref b31)]))
            refine Go.by (fun _ k => XS.iloadN X35.here X35.hx rfl (X35.cd d_method_3_118) rfl  k) ?_
            show Go _ _ _ _ (T35.setTop (mkF m 119 #[.val (.int ca), .val (.int cb), .val (.int cc), .val (.int cd), .val (.int ce), .val (.int (Int32.ofNat ln))] [(.int cd), (.int (3 : Int32)), (.ref b32), (.ref b32), (.ref b31), (.ref b31)]))
            obtain ⟨T36, h36, X36, W36, A36, st36⟩ := X35.stC (x' := cd) A35 (.head _) ⟨by decide, by decide⟩ (i := 3) rfl (Nat.le_of_ble_eq_true rfl) (nar255 hcd) (vs' := [(.int ca), (.int cb), (.int cc), (.int cd)]) rfl (g := (mkF m 119 #[.val (.int ca), .val (.int cb), .val (.int cc), .val (.int cd), .val (.int ce), .val (.int (Int32.ofNat ln))] [(.int cd), (.int (3 : Int32)), (.ref b32), (.ref b32), (.ref b31), (.ref b31)])) rfl rfl d_method_3_119
            refine Go.by st36 ?_
            have K0_h36 : Keep h0 h36 [] := K0_h35.trans W36 (allS (Or.inr sz_b32) all0)
            show Go _ _ _ _ (T36.setTop (mkF m 120 #[.val (.int ca), .val (.int cb), .val (.int cc), .val (.int cd), .val (.int ce), .val (.int (Int32.ofNat ln))] [(.ref b32), (.ref b31), (.ref b31)]))
            have f37 : Exa Z h36 b31 "java/lang/String" := ((((A31.ext E32).keep W33).keep W34).keep W35).keep W36
            have f38 : Fld Z h36 b31 "java/lang/String" "value" "[B" .null := ((((F31_value.ext E32).keep W33 (ninS ne_b31_b32 nin0)).keep W34 (ninS ne_b31_b32 nin0)).keep W35 (ninS ne_b31_b32 nin0)).keep W36 (ninS ne_b31_b32 nin0)
            have f39 : Fld Z h36 b31 "java/lang/String" "coder" "B" (.int (0 : Int32)) := ((((F31_coder.ext E32).keep W33 (ninS ne_b31_b32 nin0)).keep W34 (ninS ne_b31_b32 nin0)).keep W35 (ninS ne_b31_b32 nin0)).keep W36 (ninS ne_b31_b32 nin0)
            have lt_b31_40 := (X36.lt (.tail _ (.head _)))
            have lt_b32_40 := (X36.lt (.head _))
            obtain ⟨_, T40, h40, X40, K40, ⟨t_40, rfl, fr_t_40, fl_t_40, P40_0⟩, st40⟩ := X36.spN (W := 1) rfl (hw _ (List.mem_of_getElem? (i := 12) rfl)) (hw _ (List.mem_of_getElem? (i := 13) rfl)) (hw _ (List.mem_of_getElem? (i := 14) rfl)) (by decide) (payNew (fun d hd => hw d ((by decide +kernel : ∀ d ∈ StrChars.Road.words, d ∈ tables_1) d hd)) (hw _ (List.mem_of_getElem? (i := 9) rfl)) (cs := [ca, cb, cc, cd]) (n := 4) X36.old (X36.ge (.tail _ (.head _))) f37 f38 f39 A36 Sc nc rfl rfl (by decide) (by decide) (all1 hca (all1 hcb (all1 hcc (all1 hcd alln)))) (by decide) (by decide)) (allS (.tail _ (.head _)) all0) (g := (mkF m 120 #[.val (.int ca), .val (.int cb), .val (.int cc), .val (.int cd), .val (.int ce), .val (.int (Int32.ofNat ln))] [(.ref b32), (.ref b31), (.ref b31)])) rfl rfl (a := b31) (argsL := [(.ref b32)]) (rest := [(.ref b31)]) (lenOf pd_1 rfl) rfl (by exact Nat.le_of_eq rfl) d_method_3_120 rfl (by decide) (by decide)
            refine Go.tr st40 ?_
            have K0_h40 : Keep h0 h40 [] := K0_h36.trans K40 (allS (Or.inr sz_b31) all0)
            have ne_b31_t_40 : b31 ≠ t_40 := ne_ge lt_b31_40 fr_t_40
            have ne_b32_t_40 : b32 ≠ t_40 := ne_ge lt_b32_40 fr_t_40
            have sz_t_40 : h0.size ≤ t_40 := Nat.le_trans X36.sz fr_t_40
            show Go _ _ _ _ (T40.setTop (mkF m 123 #[.val (.int ca), .val (.int cb), .val (.int cc), .val (.int cd), .val (.int ce), .val (.int (Int32.ofNat ln))] [(.ref b31)]))
            exact X40.retR rfl rfl d_method_3_123 K0_h40 ⟨b31, t_40, rfl, sz_b31, (X40.lt (.tail _ (.head _))), (by have q : ln = 4 := on_inj (b := 4) (by omega) (by omega) c4; rw [q]; exact P40_0)⟩ (by decide) (by decide)
          · refine Go.by (fun _ k => XS.icmpYes X0.here X0.hx rfl (pc0 := 94) (pc' := 124) rfl (X0.cd d_method_3_94) rfl (XT.ii_ne_t c4) (by decide) (by decide) k) ?_
            show Go _ _ _ _ (T0.setTop (mkF m 124 #[.val (.int ca), .val (.int cb), .val (.int cc), .val (.int cd), .val (.int ce), .val (.int (Int32.ofNat ln))] []))
            obtain ⟨T41, h41, b41, g_b41, X41, E41, A41, D41, st41⟩ := X0.new (hw _ (List.mem_of_getElem? (i := 8) rfl)) (hw _ (List.mem_of_getElem? (i := 9) rfl)) (hw _ (List.mem_of_getElem? (i := 10) rfl)) (g := (mkF m 124 #[.val (.int ca), .val (.int cb), .val (.int cc), .val (.int cd), .val (.int ce), .val (.int (Int32.ofNat ln))] [])) rfl d_method_3_124 (by decide) (by decide)
            refine Go.by st41 ?_
            have sz_b41 : h0.size ≤ b41 := Nat.le_trans X0.sz (Nat.le_of_eq g_b41.symm)
            have K0_h41 : Keep h0 h41 [] := (Keep.refl h0 []).ext E41
            have F41_coder : Fld Z h41 b41 "java/lang/String" "coder" "B" (.int (0 : Int32)) := D41 (Or.inr (hw _ (List.mem_of_getElem? (i := 35) rfl))) (ty := .byte) (by decide)
            have F41_value : Fld Z h41 b41 "java/lang/String" "value" "[B" .null := D41 (Or.inr (hw _ (List.mem_of_getElem? (i := 37) rfl))) (ty := (.array .byte)) (by decide)
            show Go _ _ _ _ (T41.setTop (mkF m 127 #[.val (.int ca), .val (.int cb), .val (.int cc), .val (.int cd), .val (.int ce), .val (.int (Int32.ofNat ln))] [(.ref b41)]))
            refine Go.by (fun _ k => XS.dup X41.here X41.hx rfl (X41.cd d_method_3_127) rfl rfl k) ?_
            show Go _ _ _ _ (T41.setTop (mkF m 128 #[.val (.int ca), .val (.int cb), .val (.int cc), .val (.int cd), .val (.int ce), .val (.int (Int32.ofNat ln))] [(.ref b41), (.ref b41)]))
            refine Go.by (fun _ k => XS.iconst X41.here X41.hx rfl (X41.cd d_method_3_128)  k) ?_
            show Go _ _ _ _ (T41.setTop (mkF m 129 #[.val (.int ca), .val (.int cb), .val (.int cc), .val (.int cd), .val (.int ce), .val (.int (Int32.ofNat ln))] [(.int (5 : Int32)), (.ref b41), (.ref b41)]))
            have lt_b41_42 := (X41.lt (.head _))
            obtain ⟨T42, h42, b42, k42, g_b42, X42, E42, A42, st42⟩ := X41.newP (hw _ (List.mem_of_getElem? (i := 11) rfl)) (g := (mkF m 129 #[.val (.int ca), .val (.int cb), .val (.int cc), .val (.int cd), .val (.int ce), .val (.int (Int32.ofNat ln))] [(.int (5 : Int32)), (.ref b41), (.ref b41)])) rfl d_method_3_129 rfl (by decide) (cap := 5) (by decide) (by decide) (by decide) (by decide) (vs := [(.int (0 : Int32)), (.int (0 : Int32)), (.int (0 : Int32)), (.int (0 : Int32)), (.int (0 : Int32))]) rfl
            refine Go.by st42 ?_
            have ne_b41_b42 : b41 ≠ b42 := ne_new lt_b41_42 g_b42
            have sz_b42 : h0.size ≤ b42 := Nat.le_trans X41.sz (Nat.le_of_eq g_b42.symm)
            have K0_h42 : Keep h0 h42 [] := K0_h41.ext E42
            have F42 : Arv Z h42 b42 k42 .char (5 : Int32) [(.int (0 : Int32)), (.int (0 : Int32)), (.int (0 : Int32)), (.int (0 : Int32)), (.int (0 : Int32))] (.int (0 : Int32)) := A42
            show Go _ _ _ _ (T42.setTop (mkF m 131 #[.val (.int ca), .val (.int cb), .val (.int cc), .val (.int cd), .val (.int ce), .val (.int (Int32.ofNat ln))] [(.ref b42), (.ref b41), (.ref b41)]))
            refine Go.by (fun _ k => XS.dup X42.here X42.hx rfl (X42.cd d_method_3_131) rfl rfl k) ?_
            show Go _ _ _ _ (T42.setTop (mkF m 132 #[.val (.int ca), .val (.int cb), .val (.int cc), .val (.int cd), .val (.int ce), .val (.int (Int32.ofNat ln))] [(.ref b42), (.ref b42), (.ref b41), (.ref b41)]))
            refine Go.by (fun _ k => XS.iconst X42.here X42.hx rfl (X42.cd d_method_3_132)  k) ?_
            show Go _ _ _ _ (T42.setTop (mkF m 133 #[.val (.int ca), .val (.int cb), .val (.int cc), .val (.int cd), .val (.int ce), .val (.int (Int32.ofNat ln))] [(.int (0 : Int32)), (.ref b42), (.ref b42), (.ref b41), (.ref b41)]))
            refine Go.by (fun _ k => XS.iloadN X42.here X42.hx rfl (X42.cd d_method_3_133) rfl  k) ?_
            show Go _ _ _ _ (T42.setTop (mkF m 134 #[.val (.int ca), .val (.int cb), .val (.int cc), .val (.int cd), .val (.int ce), .val (.int (Int32.ofNat ln))] [(.int ca), (.int (0 : Int32)), (.ref b42), (.ref b42), (.ref b41), (.ref b41)]))
            obtain ⟨T43, h43, X43, W43, A43, st43⟩ := X42.stC (x' := ca) F42 (.head _) ⟨by decide, by decide⟩ (i := 0) rfl (Nat.le_of_ble_eq_true rfl) (nar255 hca) (vs' := [(.int ca), (.int (0 : Int32)), (.int (0 : Int32)), (.int (0 : Int32)), (.int (0 : Int32))]) rfl (g := (mkF m 134 #[.val (.int ca), .val (.int cb), .val (.int cc), .val (.int cd), .val (.int ce), .val (.int (Int32.ofNat ln))] [(.int ca), (.int (0 : Int32)), (.ref b42), (.ref b42), (.ref b41), (.ref b41)])) rfl rfl d_method_3_134
            refine Go.by st43 ?_
            have K0_h43 : Keep h0 h43 [] := K0_h42.trans W43 (allS (Or.inr sz_b42) all0)
            show Go _ _ _ _ (T43.setTop (mkF m 135 #[.val (.int ca), .val (.int cb), .val (.int cc), .val (.int cd), .val (.int ce), .val (.int (Int32.ofNat ln))] [(.ref b42), (.ref b41), (.ref b41)]))
            refine Go.by (fun _ k => XS.dup X43.here X43.hx rfl (X43.cd d_method_3_135) rfl rfl k) ?_
            show Go _ _ _ _ (T43.setTop (mkF m 136 #[.val (.int ca), .val (.int cb), .val (.int cc), .val (.int cd), .val (.int ce), .val (.int (Int32.ofNat ln))] [(.ref b42), (.ref b42), (.ref b41), (.ref b41)]))
            refine Go.by (fun _ k => XS.iconst X43.here X43.hx rfl (X43.cd d_method_3_136)  k) ?_
            show Go _ _ _ _ (T43.setTop (mkF m 137 #[.val (.int ca), .val (.int cb), .val (.int cc), .val (.int cd), .val (.int ce), .val (.int (Int32.ofNat ln))] [(.int (1 : Int32)), (.ref b42), (.ref b42), (.ref b41), (.ref b41)]))
            refine Go.by (fun _ k => XS.iloadN X43.here X43.hx rfl (X43.cd d_method_3_137) rfl  k) ?_
            show Go _ _ _ _ (T43.setTop (mkF m 138 #[.val (.int ca), .val (.int cb), .val (.int cc), .val (.int cd), .val (.int ce), .val (.int (Int32.ofNat ln))] [(.int cb), (.int (1 : Int32)), (.ref b42), (.ref b42), (.ref b41), (.ref b41)]))
            obtain ⟨T44, h44, X44, W44, A44, st44⟩ := X43.stC (x' := cb) A43 (.head _) ⟨by decide, by decide⟩ (i := 1) rfl (Nat.le_of_ble_eq_true rfl) (nar255 hcb) (vs' := [(.int ca), (.int cb), (.int (0 : Int32)), (.int (0 : Int32)), (.int (0 : Int32))]) rfl (g := (mkF m 138 #[.val (.int ca), .val (.int cb), .val (.int cc), .val (.int cd), .val (.int ce), .val (.int (Int32.ofNat ln))] [(.int cb), (.int (1 : Int32)), (.ref b42), (.ref b42), (.ref b41), (.ref b41)])) rfl rfl d_method_3_138
            refine Go.by st44 ?_
            have K0_h44 : Keep h0 h44 [] := K0_h43.trans W44 (allS (Or.inr sz_b42) all0)
            show Go _ _ _ _ (T44.setTop (mkF m 139 #[.val (.int ca), .val (.int cb), .val (.int cc), .val (.int cd), .val (.int ce), .val (.int (Int32.ofNat ln))] [(.ref b42), (.ref b41), (.ref b41)]))
            refine Go.by (fun _ k => XS.dup X44.here X44.hx rfl (X44.cd d_method_3_139) rfl rfl k) ?_
            show Go _ _ _ _ (T44.setTop (mkF m 140 #[.val (.int ca), .val (.int cb), .val (.int cc), .val (.int cd), .val (.int ce), .val (.int (Int32.ofNat ln))] [(.ref b42), (.ref b42), (.ref b41), (.ref b41)]))
            refine Go.by (fun _ k => XS.iconst X44.here X44.hx rfl (X44.cd d_method_3_140)  k) ?_
            show Go _ _ _ _ (T44.setTop (mkF m 141 #[.val (.int ca), .val (.int cb), .val (.int cc), .val (.int cd), .val (.int ce), .val (.int (Int32.ofNat ln))] [(.int (2 : Int32)), (.ref b42), (.ref b42), (.ref b41), (.ref b41)]))
            refine Go.by (fun _ k => XS.iloadN X44.here X44.hx rfl (X44.cd d_method_3_141) rfl  k) ?_
            show Go _ _ _ _ (T44.setTop (mkF m 142 #[.val (.int ca), .val (.int cb), .val (.int cc), .val (.int cd), .val (.int ce), .val (.int (Int32.ofNat ln))] [(.int cc), (.int (2 : Int32)), (.ref b42), (.ref b42), (.ref b41), (.ref b41)]))
            obtain ⟨T45, h45, X45, W45, A45, st45⟩ := X44.stC (x' := cc) A44 (.head _) ⟨by decide, by decide⟩ (i := 2) rfl (Nat.le_of_ble_eq_true rfl) (nar255 hcc) (vs' := [(.int ca), (.int cb), (.int cc), (.int (0 : Int32)), (.int (0 : Int32))]) rfl (g := (mkF m 142 #[.val (.int ca), .val (.int cb), .val (.int cc), .val (.int cd), .val (.int ce), .val (.int (Int32.ofNat ln))] [(.int cc), (.int (2 : Int32)), (.ref b42), (.ref b42), (.ref b41), (.ref b41)])) rfl rfl d_method_3_142
            refine Go.by st45 ?_
            have K0_h45 : Keep h0 h45 [] := K0_h44.trans W45 (allS (Or.inr sz_b42) all0)
            show Go _ _ _ _ (T45.setTop (mkF m 143 #[.val (.int ca), .val (.int cb), .val (.int cc), .val (.int cd), .val (.int ce), .val (.int (Int32.ofNat ln))] [(.ref b42), (.ref b41), (.ref b41)]))
            refine Go.by (fun _ k => XS.dup X45.here X45.hx rfl (X45.cd d_method_3_143) rfl rfl k) ?_
            show Go _ _ _ _ (T45.setTop (mkF m 144 #[.val (.int ca), .val (.int cb), .val (.int cc), .val (.int cd), .val (.int ce), .val (.int (Int32.ofNat ln))] [(.ref b42), (.ref b42), (.ref b41), (.ref b41)]))
            refine Go.by (fun _ k => XS.iconst X45.here X45.hx rfl (X45.cd d_method_3_144)  k) ?_
            show Go _ _ _ _ (T45.setTop (mkF m 145 #[.val (.int ca), .val (.int cb), .val (.int cc), .val (.int cd), .val (.int ce), .val (.int (Int32.ofNat ln))] [(.int (3 : Int32)), (.ref b42), (.ref b42), (.ref b41), (.ref b41)]))
            refine Go.by (fun _ k => XS.iloadN X45.here X45.hx rfl (X45.cd d_method_3_145) rfl  k) ?_
            show Go _ _ _ _ (T45.setTop (mkF m 146 #[.val (.int ca), .val (.int cb), .val (.int cc), .val (.int cd), .val (.int ce), .val (.int (Int32.ofNat ln))] [(.int cd), (.int (3 : Int32)), (.ref b42), (.ref b42), (.ref b41), (.ref b41)]))
            obtain ⟨T46, h46, X46, W46, A46, st46⟩ := X45.stC (x' := cd) A45 (.head _) ⟨by decide, by decide⟩ (i := 3) rfl (Nat.le_of_ble_eq_true rfl) (nar255 hcd) (vs' := [(.int ca), (.int cb), (.int cc), (.int cd), (.int (0 : Int32))]) rfl (g := (mkF m 146 #[.val (.int ca), .val (.int cb), .val (.int cc), .val (.int cd), .val (.int ce), .val (.int (Int32.ofNat ln))] [(.int cd), (.int (3 : Int32)), (.ref b42), (.ref b42), (.ref b41), (.ref b41)])) rfl rfl d_method_3_146
            refine Go.by st46 ?_
            have K0_h46 : Keep h0 h46 [] := K0_h45.trans W46 (allS (Or.inr sz_b42) all0)
            show Go _ _ _ _ (T46.setTop (mkF m 147 #[.val (.int ca), .val (.int cb), .val (.int cc), .val (.int cd), .val (.int ce), .val (.int (Int32.ofNat ln))] [(.ref b42), (.ref b41), (.ref b41)]))
            refine Go.by (fun _ k => XS.dup X46.here X46.hx rfl (X46.cd d_method_3_147) rfl rfl k) ?_
            show Go _ _ _ _ (T46.setTop (mkF m 148 #[.val (.int ca), .val (.int cb), .val (.int cc), .val (.int cd), .val (.int ce), .val (.int (Int32.ofNat ln))] [(.ref b42), (.ref b42), (.ref b41), (.ref b41)]))
            refine Go.by (fun _ k => XS.iconst X46.here X46.hx rfl (X46.cd d_method_3_148)  k) ?_
            show Go _ _ _ _ (T46.setTop (mkF m 149 #[.val (.int ca), .val (.int cb), .val (.int cc), .val (.int cd), .val (.int ce), .val (.int (Int32.ofNat ln))] [(.int (4 : Int32)), (.ref b42), (.ref b42), (.ref b41), (.ref b41)]))
            refine Go.by (fun _ k => XS.iload X46.here X46.hx rfl (X46.cd d_method_3_149) rfl  k) ?_
            show Go _ _ _ _ (T46.setTop (mkF m 151 #[.val (.int ca), .val (.int cb), .val (.int cc), .val (.int cd), .val (.int ce), .val (.int (Int32.ofNat ln))] [(.int ce), (.int (4 : Int32)), (.ref b42), (.ref b42), (.ref b41), (.ref b41)]))
            obtain ⟨T47, h47, X47, W47, A47, st47⟩ := X46.stC (x' := ce) A46 (.head _) ⟨by decide, by decide⟩ (i := 4) rfl (Nat.le_of_ble_eq_true rfl) (nar255 hce) (vs' := [(.int ca), (.int cb), (.int cc), (.int cd), (.int ce)]) rfl (g := (mkF m 151 #[.val (.int ca), .val (.int cb), .val (.int cc), .val (.int cd), .val (.int ce), .val (.int (Int32.ofNat ln))] [(.int ce), (.int (4 : Int32)), (.ref b42), (.ref b42), (.ref b41), (.ref b41)])) rfl rfl d_method_3_151
            refine Go.by st47 ?_
            have K0_h47 : Keep h0 h47 [] := K0_h46.trans W47 (allS (Or.inr sz_b42) all0)
            show Go _ _ _ _ (T47.setTop (mkF m 152 #[.val (.int ca), .val (.int cb), .val (.int cc), .val (.int cd), .val (.int ce), .val (.int (Int32.ofNat ln))] [(.ref b42), (.ref b41), (.ref b41)]))
            have f48 : Exa Z h47 b41 "java/lang/String" := (((((A41.ext E42).keep W43).keep W44).keep W45).keep W46).keep W47
            have f49 : Fld Z h47 b41 "java/lang/String" "value" "[B" .null := (((((F41_value.ext E42).keep W43 (ninS ne_b41_b42 nin0)).keep W44 (ninS ne_b41_b42 nin0)).keep W45 (ninS ne_b41_b42 nin0)).keep W46 (ninS ne_b41_b42 nin0)).keep W47 (ninS ne_b41_b42 nin0)
            have f50 : Fld Z h47 b41 "java/lang/String" "coder" "B" (.int (0 : Int32)) := (((((F41_coder.ext E42).keep W43 (ninS ne_b41_b42 nin0)).keep W44 (ninS ne_b41_b42 nin0)).keep W45 (ninS ne_b41_b42 nin0)).keep W46 (ninS ne_b41_b42 nin0)).keep W47 (ninS ne_b41_b42 nin0)
            have lt_b41_51 := (X47.lt (.tail _ (.head _)))
            have lt_b42_51 := (X47.lt (.head _))
            obtain ⟨_, T51, h51, X51, K51, ⟨t_51, rfl, fr_t_51, fl_t_51, P51_0⟩, st51⟩ := X47.spN (W := 1) rfl (hw _ (List.mem_of_getElem? (i := 12) rfl)) (hw _ (List.mem_of_getElem? (i := 13) rfl)) (hw _ (List.mem_of_getElem? (i := 14) rfl)) (by decide) (payNew (fun d hd => hw d ((by decide +kernel : ∀ d ∈ StrChars.Road.words, d ∈ tables_1) d hd)) (hw _ (List.mem_of_getElem? (i := 9) rfl)) (cs := [ca, cb, cc, cd, ce]) (n := 5) X47.old (X47.ge (.tail _ (.head _))) f48 f49 f50 A47 Sc nc rfl rfl (by decide) (by decide) (all1 hca (all1 hcb (all1 hcc (all1 hcd (all1 hce alln))))) (by decide) (by decide)) (allS (.tail _ (.head _)) all0) (g := (mkF m 152 #[.val (.int ca), .val (.int cb), .val (.int cc), .val (.int cd), .val (.int ce), .val (.int (Int32.ofNat ln))] [(.ref b42), (.ref b41), (.ref b41)])) rfl rfl (a := b41) (argsL := [(.ref b42)]) (rest := [(.ref b41)]) (lenOf pd_1 rfl) rfl (by exact Nat.le_of_eq rfl) d_method_3_152 rfl (by decide) (by decide)
            refine Go.tr st51 ?_
            have K0_h51 : Keep h0 h51 [] := K0_h47.trans K51 (allS (Or.inr sz_b41) all0)
            have ne_b41_t_51 : b41 ≠ t_51 := ne_ge lt_b41_51 fr_t_51
            have ne_b42_t_51 : b42 ≠ t_51 := ne_ge lt_b42_51 fr_t_51
            have sz_t_51 : h0.size ≤ t_51 := Nat.le_trans X47.sz fr_t_51
            show Go _ _ _ _ (T51.setTop (mkF m 155 #[.val (.int ca), .val (.int cb), .val (.int cc), .val (.int cd), .val (.int ce), .val (.int (Int32.ofNat ln))] [(.ref b41)]))
            exact X51.retR rfl rfl d_method_3_155 K0_h51 ⟨b41, t_51, rfl, sz_b41, (X51.lt (.tail _ (.head _))), (by have q : ln = 5 := own_last hln c0 c1 c2 c3 c4; rw [q]; exact P51_0)⟩ (by decide) (by decide)
theorem ef_rm_ac (m : MethodId) (x0 : Addr) : entryFrame m #[(.ref x0)] 1 = mkF m 0 #[.val (.ref x0)] [] := by first | (simp [entryFrame, mkF, argsToLocals, Value.category]; done) | rfl
def Q_rm_ac (Z : State) (a1 : Addr) (h0 : Heap) (ov : Option Value) (hz : Heap) : Prop := ov = none ∧ h0 = hz
theorem pn_2 : plainName "java/util/AbstractCollection" = true := by first | (simp [plainName, overriddenIn]; done) | decide +kernel
theorem d_jdk_22_method_1_0 : decode jdk_22_method_1_code 0 = .ok (.aload_n 0, 1) := by decide +kernel
theorem d_jdk_22_method_1_1 : decode jdk_22_method_1_code 1 = .ok (.invokespecial 1, 3) := by decide +kernel
theorem d_jdk_22_method_1_4 : decode jdk_22_method_1_code 4 = .ok (.return_, 1) := by decide +kernel
abbrev RM_rm_ac : Room := { frames := 1, cells := 0, slots := 0, locals := 12 }
set_option maxRecDepth 65536 in
set_option maxHeartbeats 40000000 in
theorem rm_ac (l : Launch) (Z : State) (a0 : Array Value) (hw : ∀ d ∈ tables_1, d.before a0 Z = true) (n0 : Nat) (a1 : Addr) (h0 : Heap) (hO : Old Z n0 h0)  :
    Ct l (⟨"java/util/AbstractCollection", "<init>", "()V"⟩ : MethodName) jdk_22_method_1_code 1 none [] RM_rm_ac Z n0 #[(.ref a1)] h0 [] (Q_rm_ac Z a1 h0) := by
  refine Ct.of_walk (plainFor_of_name pn_2) hO all0 ?_
  intro p e s m below meth c T0 X0
  rw [ef_rm_ac m a1]
  show Go _ _ _ _ (T0.setTop (mkF m 0 #[.val (.ref a1)] []))
  refine Go.by (fun _ k => XS.aloadN X0.here X0.hx rfl (X0.cd d_jdk_22_method_1_0) rfl rfl k) ?_
  show Go _ _ _ _ (T0.setTop (mkF m 1 #[.val (.ref a1)] [(.ref a1)]))
  obtain ⟨T1, X1, st1⟩ := X0.initO (hw _ (List.mem_of_getElem? (i := 73) rfl)) (hw _ (List.mem_of_getElem? (i := 20) rfl)) (hw _ (List.mem_of_getElem? (i := 21) rfl)) (g := (mkF m 1 #[.val (.ref a1)] [(.ref a1)])) rfl rfl rfl d_jdk_22_method_1_1 (by decide) (W := 0) (by exact Nat.le_of_eq rfl) (by decide)
  refine Go.by st1 ?_
  show Go _ _ _ _ (T1.setTop (mkF m 4 #[.val (.ref a1)] []))
  exact X1.retV d_jdk_22_method_1_4 (Keep.refl h0 []) ⟨rfl, rfl⟩ (by decide) (by decide)
theorem ef_rm_rec (m : MethodId) (x0 : Addr) : entryFrame m #[(.ref x0)] 1 = mkF m 0 #[.val (.ref x0)] [] := by first | (simp [entryFrame, mkF, argsToLocals, Value.category]; done) | rfl
def Q_rm_rec (Z : State) (a1 : Addr) (h0 : Heap) (ov : Option Value) (hz : Heap) : Prop := ov = none ∧ h0 = hz
theorem pn_3 : plainName "java/lang/Record" = true := by first | (simp [plainName, overriddenIn]; done) | decide +kernel
theorem d_jdk_30_method_1_0 : decode jdk_30_method_1_code 0 = .ok (.aload_n 0, 1) := by decide +kernel
theorem d_jdk_30_method_1_1 : decode jdk_30_method_1_code 1 = .ok (.invokespecial 1, 3) := by decide +kernel
theorem d_jdk_30_method_1_4 : decode jdk_30_method_1_code 4 = .ok (.return_, 1) := by decide +kernel
abbrev RM_rm_rec : Room := { frames := 1, cells := 0, slots := 0, locals := 12 }
set_option maxRecDepth 65536 in
set_option maxHeartbeats 40000000 in
theorem rm_rec (l : Launch) (Z : State) (a0 : Array Value) (hw : ∀ d ∈ tables_1, d.before a0 Z = true) (n0 : Nat) (a1 : Addr) (h0 : Heap) (hO : Old Z n0 h0)  :
    Ct l (⟨"java/lang/Record", "<init>", "()V"⟩ : MethodName) jdk_30_method_1_code 1 none [] RM_rm_rec Z n0 #[(.ref a1)] h0 [] (Q_rm_rec Z a1 h0) := by
  refine Ct.of_walk (plainFor_of_name pn_3) hO all0 ?_
  intro p e s m below meth c T0 X0
  rw [ef_rm_rec m a1]
  show Go _ _ _ _ (T0.setTop (mkF m 0 #[.val (.ref a1)] []))
  refine Go.by (fun _ k => XS.aloadN X0.here X0.hx rfl (X0.cd d_jdk_30_method_1_0) rfl rfl k) ?_
  show Go _ _ _ _ (T0.setTop (mkF m 1 #[.val (.ref a1)] [(.ref a1)]))
  obtain ⟨T1, X1, st1⟩ := X0.initO (hw _ (List.mem_of_getElem? (i := 207) rfl)) (hw _ (List.mem_of_getElem? (i := 20) rfl)) (hw _ (List.mem_of_getElem? (i := 21) rfl)) (g := (mkF m 1 #[.val (.ref a1)] [(.ref a1)])) rfl rfl rfl d_jdk_30_method_1_1 (by decide) (W := 0) (by exact Nat.le_of_eq rfl) (by decide)
  refine Go.by st1 ?_
  show Go _ _ _ _ (T1.setTop (mkF m 4 #[.val (.ref a1)] []))
  exact X1.retV d_jdk_30_method_1_4 (Keep.refl h0 []) ⟨rfl, rfl⟩ (by decide) (by decide)
theorem ef_rm_abl (m : MethodId) (x0 : Addr) : entryFrame m #[(.ref x0)] 1 = mkF m 0 #[.val (.ref x0)] [] := by first | (simp [entryFrame, mkF, argsToLocals, Value.category]; done) | rfl
def Q_rm_abl (Z : State) (a1 : Addr) (u0 : Value) (u1 : Value) (u2 : Value) (h0 : Heap) (ov : Option Value) (hz : Heap) : Prop := ov = none ∧ Fld Z hz a1 "java/util/AbstractList" "modCount" "I" (.int (0 : Int32)) ∧ Fld Z hz a1 "java/util/ArrayList" "elementData" "[Ljava/lang/Object;" u1 ∧ Fld Z hz a1 "java/util/ArrayList" "size" "I" u2
theorem pn_4 : plainName "java/util/AbstractList" = true := by first | (simp [plainName, overriddenIn]; done) | decide +kernel
theorem d_jdk_39_method_1_0 : decode jdk_39_method_1_code 0 = .ok (.aload_n 0, 1) := by decide +kernel
theorem pd_2 : parseMethodDescriptor "()V" = some ⟨[], none⟩ := by decide +kernel
theorem d_jdk_39_method_1_1 : decode jdk_39_method_1_code 1 = .ok (.invokespecial 1, 3) := by decide +kernel
theorem d_jdk_39_method_1_4 : decode jdk_39_method_1_code 4 = .ok (.aload_n 0, 1) := by decide +kernel
theorem d_jdk_39_method_1_5 : decode jdk_39_method_1_code 5 = .ok (.iconst 0, 1) := by decide +kernel
theorem d_jdk_39_method_1_6 : decode jdk_39_method_1_code 6 = .ok (.putfield 7, 3) := by decide +kernel
theorem d_jdk_39_method_1_9 : decode jdk_39_method_1_code 9 = .ok (.return_, 1) := by decide +kernel
abbrev RM_rm_abl : Room := { frames := 2, cells := 0, slots := 0, locals := 24 }
set_option maxRecDepth 65536 in
set_option maxHeartbeats 40000000 in
theorem rm_abl (l : Launch) (Z : State) (a0 : Array Value) (hw : ∀ d ∈ tables_1, d.before a0 Z = true) (n0 : Nat) (a1 : Addr) (u0 : Value) (u1 : Value) (u2 : Value) (h0 : Heap) (hO : Old Z n0 h0) (pr0 : Exa Z h0 a1 "java/util/ArrayList") (pr1 : Fld Z h0 a1 "java/util/AbstractList" "modCount" "I" u0) (pr2 : Fld Z h0 a1 "java/util/ArrayList" "elementData" "[Ljava/lang/Object;" u1) (pr3 : Fld Z h0 a1 "java/util/ArrayList" "size" "I" u2) (g_a1 : n0 ≤ a1) (l_a1 : a1 < h0.size) :
    Ct l (⟨"java/util/AbstractList", "<init>", "()V"⟩ : MethodName) jdk_39_method_1_code 1 none [] RM_rm_abl Z n0 #[(.ref a1)] h0 [a1] (Q_rm_abl Z a1 u0 u1 u2 h0) := by
  refine Ct.of_walk (plainFor_of_name pn_4) hO (allS ⟨g_a1, l_a1⟩ all0) ?_
  intro p e s m below meth c T0 X0
  rw [ef_rm_abl m a1]
  show Go _ _ _ _ (T0.setTop (mkF m 0 #[.val (.ref a1)] []))
  refine Go.by (fun _ k => XS.aloadN X0.here X0.hx rfl (X0.cd d_jdk_39_method_1_0) rfl rfl k) ?_
  show Go _ _ _ _ (T0.setTop (mkF m 1 #[.val (.ref a1)] [(.ref a1)]))
  obtain ⟨_, T1, h1, X1, K1, ⟨rfl, rfl⟩, st1⟩ := X0.spN (W := 0) rfl (hw _ (List.mem_of_getElem? (i := 67) rfl)) (hw _ (List.mem_of_getElem? (i := 68) rfl)) (hw _ (List.mem_of_getElem? (i := 72) rfl)) (by decide) ((rm_ac l Z a0 hw n0 a1 h0 X0.old ).pay (hw _ (List.mem_of_getElem? (i := 72) rfl)) (hw _ (List.mem_of_getElem? (i := 71) rfl)) (by decide) (by decide)) all0 (g := (mkF m 1 #[.val (.ref a1)] [(.ref a1)])) rfl rfl (a := a1) (argsL := []) (rest := []) (lenOf pd_2 rfl) rfl (by exact Nat.le_of_eq rfl) d_jdk_39_method_1_1 rfl (by decide) (by decide)
  refine Go.tr st1 ?_
  show Go _ _ _ _ (T1.setTop (mkF m 4 #[.val (.ref a1)] []))
  refine Go.by (fun _ k => XS.aloadN X1.here X1.hx rfl (X1.cd d_jdk_39_method_1_4) rfl rfl k) ?_
  show Go _ _ _ _ (T1.setTop (mkF m 5 #[.val (.ref a1)] [(.ref a1)]))
  refine Go.by (fun _ k => XS.iconst X1.here X1.hx rfl (X1.cd d_jdk_39_method_1_5)  k) ?_
  show Go _ _ _ _ (T1.setTop (mkF m 6 #[.val (.ref a1)] [(.int (0 : Int32)), (.ref a1)]))
  obtain ⟨T2, h2, X2, W2, st2⟩ := X1.putF (host := "") (Or.inl (hw _ (List.mem_of_getElem? (i := 74) rfl))) Via.refl pr1 pr0 (Or.inl (hw _ (List.mem_of_getElem? (i := 75) rfl))) (hw _ (List.mem_of_getElem? (i := 56) rfl)) (.head _) (ty := .int) (by decide) rfl rfl (g := (mkF m 6 #[.val (.ref a1)] [(.int (0 : Int32)), (.ref a1)])) rfl rfl d_jdk_39_method_1_6
  refine Go.by st2 ?_
  have K0_h2 : Keep h0 h2 [a1] := (Keep.refl h0 [a1]).wr W2 (Or.inl (.head _))
  have F2 : Fld Z h2 a1 "java/util/AbstractList" "modCount" "I" (.int (0 : Int32)) := pr1.same W2
  show Go _ _ _ _ (T2.setTop (mkF m 9 #[.val (.ref a1)] []))
  have f3 : Fld Z h2 a1 "java/util/ArrayList" "elementData" "[Ljava/lang/Object;" u1 := (pr2).other W2 (Or.inr (slot_ne (Or.inl (hw _ (List.mem_of_getElem? (i := 78) rfl))) (Or.inl (hw _ (List.mem_of_getElem? (i := 75) rfl))) (by decide) (t := (.array (.object "java/lang/Object"))) (t' := .int) (by decide) (by decide)))
  have f4 : Fld Z h2 a1 "java/util/ArrayList" "size" "I" u2 := (pr3).other W2 (Or.inr (slot_ne (Or.inl (hw _ (List.mem_of_getElem? (i := 98) rfl))) (Or.inl (hw _ (List.mem_of_getElem? (i := 75) rfl))) (by decide) (t := .int) (t' := .int) (by decide) (by decide)))
  exact X2.retV d_jdk_39_method_1_9 K0_h2 ⟨rfl, F2, f3, f4⟩ (by decide) (by decide)
theorem ef_rm_ali (m : MethodId) (x0 : Addr) : entryFrame m #[(.ref x0)] 1 = mkF m 0 #[.val (.ref x0)] [] := by first | (simp [entryFrame, mkF, argsToLocals, Value.category]; done) | rfl
def Q_rm_ali (Z : State) (a1 : Addr) (u0 : Value) (u1 : Value) (dd : Addr) (kd : ClassId) (h0 : Heap) (ov : Option Value) (hz : Heap) : Prop := ov = none ∧ Fld Z hz a1 "java/util/AbstractList" "modCount" "I" (.int (0 : Int32)) ∧ Fld Z hz a1 "java/util/ArrayList" "elementData" "[Ljava/lang/Object;" (.ref dd) ∧ Fld Z hz a1 "java/util/ArrayList" "size" "I" (.int (0 : Int32))
theorem pn_5 : plainName "java/util/ArrayList" = true := by first | (simp [plainName, overriddenIn]; done) | decide +kernel
theorem d_jdk_38_method_2_0 : decode jdk_38_method_2_code 0 = .ok (.aload_n 0, 1) := by decide +kernel
theorem d_jdk_38_method_2_1 : decode jdk_38_method_2_code 1 = .ok (.invokespecial 1, 3) := by decide +kernel
theorem d_jdk_38_method_2_4 : decode jdk_38_method_2_code 4 = .ok (.aload_n 0, 1) := by decide +kernel
theorem d_jdk_38_method_2_5 : decode jdk_38_method_2_code 5 = .ok (.getstatic 39, 3) := by decide +kernel
theorem d_jdk_38_method_2_8 : decode jdk_38_method_2_code 8 = .ok (.putfield 9, 3) := by decide +kernel
theorem d_jdk_38_method_2_11 : decode jdk_38_method_2_code 11 = .ok (.return_, 1) := by decide +kernel
abbrev RM_rm_ali : Room := { frames := 3, cells := 0, slots := 0, locals := 36 }
set_option maxRecDepth 65536 in
set_option maxHeartbeats 40000000 in
theorem rm_ali (l : Launch) (Z : State) (a0 : Array Value) (hw : ∀ d ∈ tables_1, d.before a0 Z = true) (n0 : Nat) (a1 : Addr) (u0 : Value) (u1 : Value) (dd : Addr) (kd : ClassId) (h0 : Heap) (hO : Old Z n0 h0) (pr0 : Exa Z h0 a1 "java/util/ArrayList") (pr1 : Fld Z h0 a1 "java/util/AbstractList" "modCount" "I" u0) (pr2 : Fld Z h0 a1 "java/util/ArrayList" "elementData" "[Ljava/lang/Object;" u1) (pr3 : Fld Z h0 a1 "java/util/ArrayList" "size" "I" (.int (0 : Int32))) (Sd : Sta Z Z.heap "java/util/ArrayList" "DEFAULTCAPACITY_EMPTY_ELEMENTDATA" "[Ljava/lang/Object;" (.ref dd)) (Ad : Arv Z Z.heap dd kd (.object "java/lang/Object") (0 : Int32) [] .null) (g_a1 : n0 ≤ a1) (l_a1 : a1 < h0.size) :
    Ct l (⟨"java/util/ArrayList", "<init>", "()V"⟩ : MethodName) jdk_38_method_2_code 1 none [] RM_rm_ali Z n0 #[(.ref a1)] h0 [a1] (Q_rm_ali Z a1 u0 u1 dd kd h0) := by
  refine Ct.of_walk (plainFor_of_name pn_5) hO (allS ⟨g_a1, l_a1⟩ all0) ?_
  intro p e s m below meth c T0 X0
  rw [ef_rm_ali m a1]
  show Go _ _ _ _ (T0.setTop (mkF m 0 #[.val (.ref a1)] []))
  refine Go.by (fun _ k => XS.aloadN X0.here X0.hx rfl (X0.cd d_jdk_38_method_2_0) rfl rfl k) ?_
  show Go _ _ _ _ (T0.setTop (mkF m 1 #[.val (.ref a1)] [(.ref a1)]))
  obtain ⟨_, T1, h1, X1, K1, ⟨rfl, P1_0, P1_1, P1_2⟩, st1⟩ := X0.spN (W := 0) rfl (hw _ (List.mem_of_getElem? (i := 61) rfl)) (hw _ (List.mem_of_getElem? (i := 62) rfl)) (hw _ (List.mem_of_getElem? (i := 66) rfl)) (by decide) ((rm_abl l Z a0 hw n0 a1 u0 u1 (.int (0 : Int32)) h0 X0.old pr0 pr1 pr2 pr3 (X0.ge (.head _)) (X0.lt (.head _))).pay (hw _ (List.mem_of_getElem? (i := 66) rfl)) (hw _ (List.mem_of_getElem? (i := 65) rfl)) (by decide) (by decide)) (allS (.head _) all0) (g := (mkF m 1 #[.val (.ref a1)] [(.ref a1)])) rfl rfl (a := a1) (argsL := []) (rest := []) (lenOf pd_2 rfl) rfl (by exact Nat.le_of_eq rfl) d_jdk_38_method_2_1 rfl (by decide) (by decide)
  refine Go.tr st1 ?_
  have K0_h1 : Keep h0 h1 [a1] := (Keep.refl h0 [a1]).trans K1 (allS (Or.inl (.head _)) all0)
  show Go _ _ _ _ (T1.setTop (mkF m 4 #[.val (.ref a1)] []))
  refine Go.by (fun _ k => XS.aloadN X1.here X1.hx rfl (X1.cd d_jdk_38_method_2_4) rfl rfl k) ?_
  show Go _ _ _ _ (T1.setTop (mkF m 5 #[.val (.ref a1)] [(.ref a1)]))
  obtain ⟨T2, X2, st2⟩ := X1.getS (hw _ (List.mem_of_getElem? (i := 76) rfl)) Via.refl Sd (g := (mkF m 5 #[.val (.ref a1)] [(.ref a1)])) rfl d_jdk_38_method_2_5
  refine Go.by st2 ?_
  show Go _ _ _ _ (T2.setTop (mkF m 8 #[.val (.ref a1)] [(.ref dd), (.ref a1)]))
  have f4 : Exa Z h1 a1 "java/util/ArrayList" := (pr0).keep K1
  obtain ⟨T3, h3, X3, W3, st3⟩ := X2.putF (host := "") (Or.inl (hw _ (List.mem_of_getElem? (i := 77) rfl))) Via.refl P1_1 f4 (Or.inl (hw _ (List.mem_of_getElem? (i := 78) rfl))) (hw _ (List.mem_of_getElem? (i := 56) rfl)) (.head _) (ty := (.array (.object "java/lang/Object"))) (by decide) rfl rfl (g := (mkF m 8 #[.val (.ref a1)] [(.ref dd), (.ref a1)])) rfl rfl d_jdk_38_method_2_8
  refine Go.by st3 ?_
  have K0_h3 : Keep h0 h3 [a1] := K0_h1.wr W3 (Or.inl (.head _))
  have F3 : Fld Z h3 a1 "java/util/ArrayList" "elementData" "[Ljava/lang/Object;" (.ref dd) := P1_1.same W3
  show Go _ _ _ _ (T3.setTop (mkF m 11 #[.val (.ref a1)] []))
  have f5 : Fld Z h3 a1 "java/util/AbstractList" "modCount" "I" (.int (0 : Int32)) := (P1_0).other W3 (Or.inr (slot_ne (Or.inl (hw _ (List.mem_of_getElem? (i := 75) rfl))) (Or.inl (hw _ (List.mem_of_getElem? (i := 78) rfl))) (by decide) (t := .int) (t' := (.array (.object "java/lang/Object"))) (by decide) (by decide)))
  have f6 : Fld Z h3 a1 "java/util/ArrayList" "size" "I" (.int (0 : Int32)) := (P1_2).other W3 (Or.inr (slot_ne (Or.inl (hw _ (List.mem_of_getElem? (i := 98) rfl))) (Or.inl (hw _ (List.mem_of_getElem? (i := 78) rfl))) (by decide) (t := .int) (t' := (.array (.object "java/lang/Object"))) (by decide) (by decide)))
  exact X3.retV d_jdk_38_method_2_11 K0_h3 ⟨rfl, f5, F3, f6⟩ (by decide) (by decide)
theorem ef_rm_gri (m : MethodId) (x0 : Addr) (x1 : Int32) : entryFrame m #[(.ref x0), (.int x1)] 4 = mkF m 0 #[.val (.ref x0), .val (.int x1), .unset, .unset] [] := by first | (simp [entryFrame, mkF, argsToLocals, Value.category]; done) | rfl
def Q_rm_gri (Z : State) (a1 : Addr) (u0 : Value) (u2 : Value) (dd : Addr) (kd : ClassId) (h0 : Heap) (ov : Option Value) (hz : Heap) : Prop := ∃ (ea : Addr), ∃ (ke : ClassId), ov = some (.ref ea) ∧ h0.size ≤ ea ∧ ea < hz.size ∧ Fld Z hz a1 "java/util/AbstractList" "modCount" "I" u0 ∧ Fld Z hz a1 "java/util/ArrayList" "elementData" "[Ljava/lang/Object;" (.ref ea) ∧ Fld Z hz a1 "java/util/ArrayList" "size" "I" u2 ∧ Arv Z hz ea ke (.object "java/lang/Object") (10 : Int32) [.null, .null, .null, .null, .null, .null, .null, .null, .null, .null] .null ∧ (Ovr Z ke "java/lang/Object")
theorem d_jdk_38_method_6_0 : decode jdk_38_method_6_code 0 = .ok (.aload_n 0, 1) := by decide +kernel
theorem d_jdk_38_method_6_1 : decode jdk_38_method_6_code 1 = .ok (.getfield 9, 3) := by decide +kernel
theorem d_jdk_38_method_6_4 : decode jdk_38_method_6_code 4 = .ok (.arraylength, 1) := by decide +kernel
theorem d_jdk_38_method_6_5 : decode jdk_38_method_6_code 5 = .ok (.istore_n 2, 1) := by decide +kernel
theorem d_jdk_38_method_6_6 : decode jdk_38_method_6_code 6 = .ok (.iload_n 2, 1) := by decide +kernel
theorem d_jdk_38_method_6_7 : decode jdk_38_method_6_code 7 = .ok (.ifCond .gt 13, 3) := by decide +kernel
theorem d_jdk_38_method_6_10 : decode jdk_38_method_6_code 10 = .ok (.aload_n 0, 1) := by decide +kernel
theorem d_jdk_38_method_6_11 : decode jdk_38_method_6_code 11 = .ok (.getfield 9, 3) := by decide +kernel
theorem d_jdk_38_method_6_14 : decode jdk_38_method_6_code 14 = .ok (.getstatic 39, 3) := by decide +kernel
theorem d_jdk_38_method_6_17 : decode jdk_38_method_6_code 17 = .ok (.if_acmp .eq 28, 3) := by decide +kernel
theorem d_jdk_38_method_6_45 : decode jdk_38_method_6_code 45 = .ok (.aload_n 0, 1) := by decide +kernel
theorem d_jdk_38_method_6_46 : decode jdk_38_method_6_code 46 = .ok (.bipush 10, 2) := by decide +kernel
theorem d_jdk_38_method_6_48 : decode jdk_38_method_6_code 48 = .ok (.iload_n 1, 1) := by decide +kernel
theorem pd_3 : parseMethodDescriptor "(II)I" = some ⟨[.int, .int], some .int⟩ := by decide +kernel
theorem d_jdk_38_method_6_49 : decode jdk_38_method_6_code 49 = .ok (.invokestatic 79, 3) := by decide +kernel
theorem d_jdk_38_method_6_52 : decode jdk_38_method_6_code 52 = .ok (.anewarray 7, 3) := by decide +kernel
theorem d_jdk_38_method_6_55 : decode jdk_38_method_6_code 55 = .ok (.dup_x1, 1) := by decide +kernel
theorem d_jdk_38_method_6_56 : decode jdk_38_method_6_code 56 = .ok (.putfield 9, 3) := by decide +kernel
theorem d_jdk_38_method_6_59 : decode jdk_38_method_6_code 59 = .ok (.areturn, 1) := by decide +kernel
abbrev RM_rm_gri : Room := { frames := 1, cells := 1, slots := 10, locals := 14 }
set_option maxRecDepth 65536 in
set_option maxHeartbeats 40000000 in
theorem rm_gri (l : Launch) (Z : State) (a0 : Array Value) (hw : ∀ d ∈ tables_1, d.before a0 Z = true) (n0 : Nat) (a1 : Addr) (u0 : Value) (u2 : Value) (dd : Addr) (kd : ClassId) (h0 : Heap) (hO : Old Z n0 h0) (pr0 : Exa Z h0 a1 "java/util/ArrayList") (pr1 : Fld Z h0 a1 "java/util/AbstractList" "modCount" "I" u0) (pr2 : Fld Z h0 a1 "java/util/ArrayList" "elementData" "[Ljava/lang/Object;" (.ref dd)) (pr3 : Fld Z h0 a1 "java/util/ArrayList" "size" "I" u2) (Sd : Sta Z Z.heap "java/util/ArrayList" "DEFAULTCAPACITY_EMPTY_ELEMENTDATA" "[Ljava/lang/Object;" (.ref dd)) (Ad : Arv Z Z.heap dd kd (.object "java/lang/Object") (0 : Int32) [] .null) (g_a1 : n0 ≤ a1) (l_a1 : a1 < h0.size) :
    Ct l (⟨"java/util/ArrayList", "grow", "(I)[Ljava/lang/Object;"⟩ : MethodName) jdk_38_method_6_code 4 (some (.array (.object "java/lang/Object"))) [] RM_rm_gri Z n0 #[(.ref a1), (.int (1 : Int32))] h0 [a1] (Q_rm_gri Z a1 u0 u2 dd kd h0) := by
  refine Ct.of_walk (plainFor_of_name pn_5) hO (allS ⟨g_a1, l_a1⟩ all0) ?_
  intro p e s m below meth c T0 X0
  rw [ef_rm_gri m a1 (1 : Int32)]
  show Go _ _ _ _ (T0.setTop (mkF m 0 #[.val (.ref a1), .val (.int (1 : Int32)), .unset, .unset] []))
  refine Go.by (fun _ k => XS.aloadN X0.here X0.hx rfl (X0.cd d_jdk_38_method_6_0) rfl rfl k) ?_
  show Go _ _ _ _ (T0.setTop (mkF m 1 #[.val (.ref a1), .val (.int (1 : Int32)), .unset, .unset] [(.ref a1)]))
  obtain ⟨T1, X1, st1⟩ := X0.getF (host := "") (Or.inl (hw _ (List.mem_of_getElem? (i := 77) rfl))) Via.refl pr2 (g := (mkF m 1 #[.val (.ref a1), .val (.int (1 : Int32)), .unset, .unset] [(.ref a1)])) rfl rfl d_jdk_38_method_6_1
  refine Go.by st1 ?_
  show Go _ _ _ _ (T1.setTop (mkF m 4 #[.val (.ref a1), .val (.int (1 : Int32)), .unset, .unset] [(.ref dd)]))
  have f2 : Arv Z h0 dd kd (.object "java/lang/Object") (0 : Int32) [] .null := (show Arv Z Z.heap dd kd (.object "java/lang/Object") (0 : Int32) [] .null from Ad).ext X1.old.2
  refine Go.by (fun _ k => X1.len f2 (g := (mkF m 4 #[.val (.ref a1), .val (.int (1 : Int32)), .unset, .unset] [(.ref dd)])) rfl rfl d_jdk_38_method_6_4 _ k) ?_
  show Go _ _ _ _ (T1.setTop (mkF m 5 #[.val (.ref a1), .val (.int (1 : Int32)), .unset, .unset] [(.int (0 : Int32))]))
  refine Go.by (fun _ k => XS.istoreN X1.here X1.hx rfl (X1.cd d_jdk_38_method_6_5) rfl (l' := #[.val (.ref a1), .val (.int (1 : Int32)), .val (.int (0 : Int32)), .unset]) rfl k) ?_
  show Go _ _ _ _ (T1.setTop (mkF m 6 #[.val (.ref a1), .val (.int (1 : Int32)), .val (.int (0 : Int32)), .unset] []))
  refine Go.by (fun _ k => XS.iloadN X1.here X1.hx rfl (X1.cd d_jdk_38_method_6_6) rfl  k) ?_
  show Go _ _ _ _ (T1.setTop (mkF m 7 #[.val (.ref a1), .val (.int (1 : Int32)), .val (.int (0 : Int32)), .unset] [(.int (0 : Int32))]))
  refine Go.by (fun _ k => XS.ifNo X1.here X1.hx rfl (X1.cd d_jdk_38_method_6_7) rfl (XT.i0_gt_f (by decide)) k) ?_
  show Go _ _ _ _ (T1.setTop (mkF m 10 #[.val (.ref a1), .val (.int (1 : Int32)), .val (.int (0 : Int32)), .unset] []))
  refine Go.by (fun _ k => XS.aloadN X1.here X1.hx rfl (X1.cd d_jdk_38_method_6_10) rfl rfl k) ?_
  show Go _ _ _ _ (T1.setTop (mkF m 11 #[.val (.ref a1), .val (.int (1 : Int32)), .val (.int (0 : Int32)), .unset] [(.ref a1)]))
  obtain ⟨T3, X3, st3⟩ := X1.getF (host := "") (Or.inl (hw _ (List.mem_of_getElem? (i := 77) rfl))) Via.refl pr2 (g := (mkF m 11 #[.val (.ref a1), .val (.int (1 : Int32)), .val (.int (0 : Int32)), .unset] [(.ref a1)])) rfl rfl d_jdk_38_method_6_11
  refine Go.by st3 ?_
  show Go _ _ _ _ (T3.setTop (mkF m 14 #[.val (.ref a1), .val (.int (1 : Int32)), .val (.int (0 : Int32)), .unset] [(.ref dd)]))
  obtain ⟨T4, X4, st4⟩ := X3.getS (hw _ (List.mem_of_getElem? (i := 76) rfl)) Via.refl Sd (g := (mkF m 14 #[.val (.ref a1), .val (.int (1 : Int32)), .val (.int (0 : Int32)), .unset] [(.ref dd)])) rfl d_jdk_38_method_6_14
  refine Go.by st4 ?_
  show Go _ _ _ _ (T4.setTop (mkF m 17 #[.val (.ref a1), .val (.int (1 : Int32)), .val (.int (0 : Int32)), .unset] [(.ref dd), (.ref dd)]))
  refine Go.by (fun _ k => X4.acmp (cd := .eq) (x := (.ref dd)) (y' := (.ref dd)) rfl rfl (g := (mkF m 17 #[.val (.ref a1), .val (.int (1 : Int32)), .val (.int (0 : Int32)), .unset] [(.ref dd), (.ref dd)])) rfl (pc0 := 17) (pc' := 45) (same := true) rfl d_jdk_38_method_6_17 rfl (decide_eq_true rfl) (by decide) (by decide) _ k) ?_
  show Go _ _ _ _ (T4.setTop (mkF m 45 #[.val (.ref a1), .val (.int (1 : Int32)), .val (.int (0 : Int32)), .unset] []))
  refine Go.by (fun _ k => XS.aloadN X4.here X4.hx rfl (X4.cd d_jdk_38_method_6_45) rfl rfl k) ?_
  show Go _ _ _ _ (T4.setTop (mkF m 46 #[.val (.ref a1), .val (.int (1 : Int32)), .val (.int (0 : Int32)), .unset] [(.ref a1)]))
  refine Go.by (fun _ k => XS.bipush X4.here X4.hx rfl (X4.cd d_jdk_38_method_6_46)  k) ?_
  show Go _ _ _ _ (T4.setTop (mkF m 48 #[.val (.ref a1), .val (.int (1 : Int32)), .val (.int (0 : Int32)), .unset] [(.int (10 : Int32)), (.ref a1)]))
  refine Go.by (fun _ k => XS.iloadN X4.here X4.hx rfl (X4.cd d_jdk_38_method_6_48) rfl  k) ?_
  show Go _ _ _ _ (T4.setTop (mkF m 49 #[.val (.ref a1), .val (.int (1 : Int32)), .val (.int (0 : Int32)), .unset] [(.int (1 : Int32)), (.int (10 : Int32)), (.ref a1)]))
  obtain ⟨_, T5, h5, X5, K5, ⟨rfl, rfl⟩, st5⟩ := X4.stN (W := 1) (hw _ (List.mem_of_getElem? (i := 114) rfl)) (hw _ (List.mem_of_getElem? (i := 115) rfl)) (hw _ (List.mem_of_getElem? (i := 116) rfl)) (hw _ (List.mem_of_getElem? (i := 117) rfl)) (by decide) ((rm_max l Z a0 hw n0 (10 : Int32) (1 : Int32) h0 X4.old ).pay (hw _ (List.mem_of_getElem? (i := 117) rfl)) (hw _ (List.mem_of_getElem? (i := 116) rfl)) (by decide) (by decide)) all0 (g := (mkF m 49 #[.val (.ref a1), .val (.int (1 : Int32)), .val (.int (0 : Int32)), .unset] [(.int (1 : Int32)), (.int (10 : Int32)), (.ref a1)])) rfl rfl (argsL := [(.int (10 : Int32)), (.int (1 : Int32))]) (rest := [(.ref a1)]) (lenOf pd_3 rfl) rfl (by exact Nat.le_of_eq rfl) d_jdk_38_method_6_49 rfl (by decide) (by decide)
  refine Go.tr st5 ?_
  show Go _ _ _ _ (T5.setTop (mkF m 52 #[.val (.ref a1), .val (.int (1 : Int32)), .val (.int (0 : Int32)), .unset] [(.int (own_max (10 : Int32) (1 : Int32))), (.ref a1)]))
  show Go _ _ _ _ (T5.setTop (mkF m 52 #[.val (.ref a1), .val (.int (1 : Int32)), .val (.int (0 : Int32)), .unset] [(.int (10 : Int32)), (.ref a1)]))
  have lt_a1_6 := (X5.lt (.head _))
  obtain ⟨T6, h6, b6, k6, g_b6, X6, E6, A6, B6, O6, st6⟩ := X5.newR (hw _ (List.mem_of_getElem? (i := 118) rfl)) (hw _ (List.mem_of_getElem? (i := 119) rfl)) (g := (mkF m 52 #[.val (.ref a1), .val (.int (1 : Int32)), .val (.int (0 : Int32)), .unset] [(.int (10 : Int32)), (.ref a1)])) rfl d_jdk_38_method_6_52 rfl (by decide) (cap := 10) (by decide) (by decide) (by decide) (by decide) (vs := [.null, .null, .null, .null, .null, .null, .null, .null, .null, .null]) rfl (ad := "[Ljava/lang/Object;") (by decide)
  refine Go.by st6 ?_
  have ne_a1_b6 : a1 ≠ b6 := ne_new lt_a1_6 g_b6
  have sz_b6 : h0.size ≤ b6 := Nat.le_trans X5.sz (Nat.le_of_eq g_b6.symm)
  have K0_h6 : Keep h0 h6 [a1] := (Keep.refl h0 [a1]).ext E6
  show Go _ _ _ _ (T6.setTop (mkF m 55 #[.val (.ref a1), .val (.int (1 : Int32)), .val (.int (0 : Int32)), .unset] [(.ref b6), (.ref a1)]))
  refine Go.by (fun _ k => XS.dupX1 X6.here X6.hx rfl (X6.cd d_jdk_38_method_6_55) rfl rfl rfl k) ?_
  show Go _ _ _ _ (T6.setTop (mkF m 56 #[.val (.ref a1), .val (.int (1 : Int32)), .val (.int (0 : Int32)), .unset] [(.ref b6), (.ref a1), (.ref b6)]))
  have f8 : Fld Z h6 a1 "java/util/ArrayList" "elementData" "[Ljava/lang/Object;" (.ref dd) := pr2.ext E6
  have f9 : Exa Z h6 a1 "java/util/ArrayList" := pr0.ext E6
  obtain ⟨T7, h7, X7, W7, st7⟩ := X6.putF (host := "") (Or.inl (hw _ (List.mem_of_getElem? (i := 77) rfl))) Via.refl f8 f9 (Or.inl (hw _ (List.mem_of_getElem? (i := 78) rfl))) (hw _ (List.mem_of_getElem? (i := 56) rfl)) (.tail _ (.head _)) (ty := (.array (.object "java/lang/Object"))) (by decide) rfl rfl (g := (mkF m 56 #[.val (.ref a1), .val (.int (1 : Int32)), .val (.int (0 : Int32)), .unset] [(.ref b6), (.ref a1), (.ref b6)])) rfl rfl d_jdk_38_method_6_56
  refine Go.by st7 ?_
  have K0_h7 : Keep h0 h7 [a1] := K0_h6.wr W7 (Or.inl (.head _))
  have F7 : Fld Z h7 a1 "java/util/ArrayList" "elementData" "[Ljava/lang/Object;" (.ref b6) := f8.same W7
  show Go _ _ _ _ (T7.setTop (mkF m 59 #[.val (.ref a1), .val (.int (1 : Int32)), .val (.int (0 : Int32)), .unset] [(.ref b6)]))
  have f10 : Fld Z h7 a1 "java/util/AbstractList" "modCount" "I" u0 := (pr1.ext E6).other W7 (Or.inr (slot_ne (Or.inl (hw _ (List.mem_of_getElem? (i := 75) rfl))) (Or.inl (hw _ (List.mem_of_getElem? (i := 78) rfl))) (by decide) (t := .int) (t' := (.array (.object "java/lang/Object"))) (by decide) (by decide)))
  have f11 : Fld Z h7 a1 "java/util/ArrayList" "size" "I" u2 := (pr3.ext E6).other W7 (Or.inr (slot_ne (Or.inl (hw _ (List.mem_of_getElem? (i := 98) rfl))) (Or.inl (hw _ (List.mem_of_getElem? (i := 78) rfl))) (by decide) (t := .int) (t' := (.array (.object "java/lang/Object"))) (by decide) (by decide)))
  have f12 : Arv Z h7 b6 k6 (.object "java/lang/Object") (10 : Int32) [.null, .null, .null, .null, .null, .null, .null, .null, .null, .null] .null := (A6).other W7 ne_a1_b6.symm
  exact X7.retR rfl rfl d_jdk_38_method_6_59 K0_h7 ⟨b6, k6, rfl, sz_b6, (X7.lt (.head _)), f10, F7, f11, f12, O6⟩ (by decide) (by decide)
theorem ef_rm_gr0 (m : MethodId) (x0 : Addr) : entryFrame m #[(.ref x0)] 1 = mkF m 0 #[.val (.ref x0)] [] := by first | (simp [entryFrame, mkF, argsToLocals, Value.category]; done) | rfl
def Q_rm_gr0 (Z : State) (a1 : Addr) (u0 : Value) (dd : Addr) (kd : ClassId) (h0 : Heap) (ov : Option Value) (hz : Heap) : Prop := ∃ (ea : Addr), ∃ (ke : ClassId), ov = some (.ref ea) ∧ h0.size ≤ ea ∧ ea < hz.size ∧ Fld Z hz a1 "java/util/AbstractList" "modCount" "I" u0 ∧ Fld Z hz a1 "java/util/ArrayList" "elementData" "[Ljava/lang/Object;" (.ref ea) ∧ Fld Z hz a1 "java/util/ArrayList" "size" "I" (.int (0 : Int32)) ∧ Arv Z hz ea ke (.object "java/lang/Object") (10 : Int32) [.null, .null, .null, .null, .null, .null, .null, .null, .null, .null] .null ∧ (Ovr Z ke "java/lang/Object")
theorem d_jdk_38_method_7_0 : decode jdk_38_method_7_code 0 = .ok (.aload_n 0, 1) := by decide +kernel
theorem d_jdk_38_method_7_1 : decode jdk_38_method_7_code 1 = .ok (.aload_n 0, 1) := by decide +kernel
theorem d_jdk_38_method_7_2 : decode jdk_38_method_7_code 2 = .ok (.getfield 48, 3) := by decide +kernel
theorem d_jdk_38_method_7_5 : decode jdk_38_method_7_code 5 = .ok (.iconst 1, 1) := by decide +kernel
theorem d_jdk_38_method_7_6 : decode jdk_38_method_7_code 6 = .ok (.iadd, 1) := by decide +kernel
theorem pd_4 : parseMethodDescriptor "(I)[Ljava/lang/Object;" = some ⟨[.int], some (.array (.object "java/lang/Object"))⟩ := by decide +kernel
theorem d_jdk_38_method_7_7 : decode jdk_38_method_7_code 7 = .ok (.invokevirtual 69, 3) := by decide +kernel
theorem d_jdk_38_method_7_10 : decode jdk_38_method_7_code 10 = .ok (.areturn, 1) := by decide +kernel
abbrev RM_rm_gr0 : Room := { frames := 2, cells := 1, slots := 10, locals := 29 }
set_option maxRecDepth 65536 in
set_option maxHeartbeats 40000000 in
theorem rm_gr0 (l : Launch) (Z : State) (a0 : Array Value) (hw : ∀ d ∈ tables_1, d.before a0 Z = true) (n0 : Nat) (a1 : Addr) (u0 : Value) (dd : Addr) (kd : ClassId) (h0 : Heap) (hO : Old Z n0 h0) (pr0 : Exa Z h0 a1 "java/util/ArrayList") (pr1 : Fld Z h0 a1 "java/util/AbstractList" "modCount" "I" u0) (pr2 : Fld Z h0 a1 "java/util/ArrayList" "elementData" "[Ljava/lang/Object;" (.ref dd)) (pr3 : Fld Z h0 a1 "java/util/ArrayList" "size" "I" (.int (0 : Int32))) (Sd : Sta Z Z.heap "java/util/ArrayList" "DEFAULTCAPACITY_EMPTY_ELEMENTDATA" "[Ljava/lang/Object;" (.ref dd)) (Ad : Arv Z Z.heap dd kd (.object "java/lang/Object") (0 : Int32) [] .null) (g_a1 : n0 ≤ a1) (l_a1 : a1 < h0.size) :
    Ct l (⟨"java/util/ArrayList", "grow", "()[Ljava/lang/Object;"⟩ : MethodName) jdk_38_method_7_code 1 (some (.array (.object "java/lang/Object"))) [] RM_rm_gr0 Z n0 #[(.ref a1)] h0 [a1] (Q_rm_gr0 Z a1 u0 dd kd h0) := by
  refine Ct.of_walk (plainFor_of_name pn_5) hO (allS ⟨g_a1, l_a1⟩ all0) ?_
  intro p e s m below meth c T0 X0
  rw [ef_rm_gr0 m a1]
  show Go _ _ _ _ (T0.setTop (mkF m 0 #[.val (.ref a1)] []))
  refine Go.by (fun _ k => XS.aloadN X0.here X0.hx rfl (X0.cd d_jdk_38_method_7_0) rfl rfl k) ?_
  show Go _ _ _ _ (T0.setTop (mkF m 1 #[.val (.ref a1)] [(.ref a1)]))
  refine Go.by (fun _ k => XS.aloadN X0.here X0.hx rfl (X0.cd d_jdk_38_method_7_1) rfl rfl k) ?_
  show Go _ _ _ _ (T0.setTop (mkF m 2 #[.val (.ref a1)] [(.ref a1), (.ref a1)]))
  obtain ⟨T1, X1, st1⟩ := X0.getF (host := "") (Or.inl (hw _ (List.mem_of_getElem? (i := 97) rfl))) Via.refl pr3 (g := (mkF m 2 #[.val (.ref a1)] [(.ref a1), (.ref a1)])) rfl rfl d_jdk_38_method_7_2
  refine Go.by st1 ?_
  show Go _ _ _ _ (T1.setTop (mkF m 5 #[.val (.ref a1)] [(.int (0 : Int32)), (.ref a1)]))
  refine Go.by (fun _ k => XS.iconst X1.here X1.hx rfl (X1.cd d_jdk_38_method_7_5)  k) ?_
  show Go _ _ _ _ (T1.setTop (mkF m 6 #[.val (.ref a1)] [(.int (1 : Int32)), (.int (0 : Int32)), (.ref a1)]))
  refine Go.by (fun _ k => XS.iadd X1.here X1.hx rfl (X1.cd d_jdk_38_method_7_6) rfl k) ?_
  show Go _ _ _ _ (T1.setTop (mkF m 7 #[.val (.ref a1)] [(.int ((0 : Int32) + (1 : Int32))), (.ref a1)]))
  show Go _ _ _ _ (T1.setTop (mkF m 7 #[.val (.ref a1)] [(.int (1 : Int32)), (.ref a1)]))
  have lt_a1_2 := (X1.lt (.head _))
  obtain ⟨_, T2, h2, X2, K2, ⟨ea_2, ke_2, rfl, fr_ea_2, fl_ea_2, P2_0, P2_1, P2_2, P2_3, p2_0⟩, st2⟩ := X1.pvN (W := 0) (hw _ (List.mem_of_getElem? (i := 109) rfl)) (hw _ (List.mem_of_getElem? (i := 110) rfl)) (hw _ (List.mem_of_getElem? (i := 112) rfl)) (hw _ (List.mem_of_getElem? (i := 111) rfl)) (hw _ (List.mem_of_getElem? (i := 113) rfl)) (by decide) ((rm_gri l Z a0 hw n0 a1 u0 (.int (0 : Int32)) dd kd h0 X1.old pr0 pr1 pr2 pr3 Sd Ad (X1.ge (.head _)) (X1.lt (.head _))).pay (hw _ (List.mem_of_getElem? (i := 113) rfl)) (hw _ (List.mem_of_getElem? (i := 57) rfl)) (by decide) (by decide)) (allS (.head _) all0) pr0 (g := (mkF m 7 #[.val (.ref a1)] [(.int (1 : Int32)), (.ref a1)])) rfl rfl (argsL := [(.int (1 : Int32))]) (rest := []) (lenOf pd_4 rfl) rfl (by exact Nat.le_of_eq rfl) d_jdk_38_method_7_7 rfl (by decide) (by decide)
  refine Go.tr st2 ?_
  have K0_h2 : Keep h0 h2 [a1] := (Keep.refl h0 [a1]).trans K2 (allS (Or.inl (.head _)) all0)
  have ne_a1_ea_2 : a1 ≠ ea_2 := ne_ge lt_a1_2 fr_ea_2
  have sz_ea_2 : h0.size ≤ ea_2 := Nat.le_trans X1.sz fr_ea_2
  show Go _ _ _ _ (T2.setTop (mkF m 10 #[.val (.ref a1)] [(.ref ea_2)]))
  exact X2.retR rfl rfl d_jdk_38_method_7_10 K0_h2 ⟨ea_2, ke_2, rfl, sz_ea_2, P2_3.lt, P2_0, P2_1, P2_2, P2_3, p2_0⟩ (by decide) (by decide)
theorem ef_rm_ad3 (m : MethodId) (x0 : Addr) (x1 : Addr) (x2 : Addr) (x3 : Int32) : entryFrame m #[(.ref x0), (.ref x1), (.ref x2), (.int x3)] 4 = mkF m 0 #[.val (.ref x0), .val (.ref x1), .val (.ref x2), .val (.int x3)] [] := by first | (simp [entryFrame, mkF, argsToLocals, Value.category]; done) | rfl
def Q_rm_ad3 (Z : State) (a1 : Addr) (a2 : Addr) (u0 : Value) (dd : Addr) (kd : ClassId) (h0 : Heap) (ov : Option Value) (hz : Heap) : Prop := ∃ (ea : Addr), ∃ (ke : ClassId), ov = none ∧ h0.size ≤ ea ∧ ea < hz.size ∧ Fld Z hz a1 "java/util/AbstractList" "modCount" "I" u0 ∧ Fld Z hz a1 "java/util/ArrayList" "elementData" "[Ljava/lang/Object;" (.ref ea) ∧ Fld Z hz a1 "java/util/ArrayList" "size" "I" (.int (1 : Int32)) ∧ Arv Z hz ea ke (.object "java/lang/Object") (10 : Int32) [(.ref a2), .null, .null, .null, .null, .null, .null, .null, .null, .null] .null ∧ (Ovr Z ke "java/lang/Object")
theorem d_jdk_38_method_24_0 : decode jdk_38_method_24_code 0 = .ok (.iload_n 3, 1) := by decide +kernel
theorem d_jdk_38_method_24_1 : decode jdk_38_method_24_code 1 = .ok (.aload_n 2, 1) := by decide +kernel
theorem d_jdk_38_method_24_2 : decode jdk_38_method_24_code 2 = .ok (.arraylength, 1) := by decide +kernel
theorem d_jdk_38_method_24_3 : decode jdk_38_method_24_code 3 = .ok (.if_icmp .ne 8, 3) := by decide +kernel
theorem d_jdk_38_method_24_6 : decode jdk_38_method_24_code 6 = .ok (.aload_n 0, 1) := by decide +kernel
theorem pd_5 : parseMethodDescriptor "()[Ljava/lang/Object;" = some ⟨[], some (.array (.object "java/lang/Object"))⟩ := by decide +kernel
theorem d_jdk_38_method_24_7 : decode jdk_38_method_24_code 7 = .ok (.invokevirtual 129, 3) := by decide +kernel
theorem d_jdk_38_method_24_10 : decode jdk_38_method_24_code 10 = .ok (.astore_n 2, 1) := by decide +kernel
theorem d_jdk_38_method_24_11 : decode jdk_38_method_24_code 11 = .ok (.aload_n 2, 1) := by decide +kernel
theorem d_jdk_38_method_24_12 : decode jdk_38_method_24_code 12 = .ok (.iload_n 3, 1) := by decide +kernel
theorem d_jdk_38_method_24_13 : decode jdk_38_method_24_code 13 = .ok (.aload_n 1, 1) := by decide +kernel
theorem d_jdk_38_method_24_14 : decode jdk_38_method_24_code 14 = .ok (.aastore, 1) := by decide +kernel
theorem d_jdk_38_method_24_15 : decode jdk_38_method_24_code 15 = .ok (.aload_n 0, 1) := by decide +kernel
theorem d_jdk_38_method_24_16 : decode jdk_38_method_24_code 16 = .ok (.iload_n 3, 1) := by decide +kernel
theorem d_jdk_38_method_24_17 : decode jdk_38_method_24_code 17 = .ok (.iconst 1, 1) := by decide +kernel
theorem d_jdk_38_method_24_18 : decode jdk_38_method_24_code 18 = .ok (.iadd, 1) := by decide +kernel
theorem d_jdk_38_method_24_19 : decode jdk_38_method_24_code 19 = .ok (.putfield 48, 3) := by decide +kernel
theorem d_jdk_38_method_24_22 : decode jdk_38_method_24_code 22 = .ok (.return_, 1) := by decide +kernel
abbrev RM_rm_ad3 : Room := { frames := 3, cells := 1, slots := 10, locals := 41 }
set_option maxRecDepth 65536 in
set_option maxHeartbeats 40000000 in
theorem rm_ad3 (l : Launch) (Z : State) (a0 : Array Value) (hw : ∀ d ∈ tables_1, d.before a0 Z = true) (n0 : Nat) (a1 : Addr) (a2 : Addr) (u0 : Value) (dd : Addr) (kd : ClassId) (h0 : Heap) (hO : Old Z n0 h0) (pr0 : Exa Z h0 a1 "java/util/ArrayList") (pr1 : Fld Z h0 a1 "java/util/AbstractList" "modCount" "I" u0) (pr2 : Fld Z h0 a1 "java/util/ArrayList" "elementData" "[Ljava/lang/Object;" (.ref dd)) (pr3 : Fld Z h0 a1 "java/util/ArrayList" "size" "I" (.int (0 : Int32))) (pr4 : Ins Z h0 a2 "java/lang/Object" true) (Sd : Sta Z Z.heap "java/util/ArrayList" "DEFAULTCAPACITY_EMPTY_ELEMENTDATA" "[Ljava/lang/Object;" (.ref dd)) (Ad : Arv Z Z.heap dd kd (.object "java/lang/Object") (0 : Int32) [] .null) (g_a1 : n0 ≤ a1) (l_a1 : a1 < h0.size) :
    Ct l (⟨"java/util/ArrayList", "add", "(Ljava/lang/Object;[Ljava/lang/Object;I)V"⟩ : MethodName) jdk_38_method_24_code 4 none [] RM_rm_ad3 Z n0 #[(.ref a1), (.ref a2), (.ref dd), (.int (0 : Int32))] h0 [a1] (Q_rm_ad3 Z a1 a2 u0 dd kd h0) := by
  refine Ct.of_walk (plainFor_of_name pn_5) hO (allS ⟨g_a1, l_a1⟩ all0) ?_
  intro p e s m below meth c T0 X0
  rw [ef_rm_ad3 m a1 a2 dd (0 : Int32)]
  show Go _ _ _ _ (T0.setTop (mkF m 0 #[.val (.ref a1), .val (.ref a2), .val (.ref dd), .val (.int (0 : Int32))] []))
  refine Go.by (fun _ k => XS.iloadN X0.here X0.hx rfl (X0.cd d_jdk_38_method_24_0) rfl  k) ?_
  show Go _ _ _ _ (T0.setTop (mkF m 1 #[.val (.ref a1), .val (.ref a2), .val (.ref dd), .val (.int (0 : Int32))] [(.int (0 : Int32))]))
  refine Go.by (fun _ k => XS.aloadN X0.here X0.hx rfl (X0.cd d_jdk_38_method_24_1) rfl rfl k) ?_
  show Go _ _ _ _ (T0.setTop (mkF m 2 #[.val (.ref a1), .val (.ref a2), .val (.ref dd), .val (.int (0 : Int32))] [(.ref dd), (.int (0 : Int32))]))
  have f1 : Arv Z h0 dd kd (.object "java/lang/Object") (0 : Int32) [] .null := (show Arv Z Z.heap dd kd (.object "java/lang/Object") (0 : Int32) [] .null from Ad).ext X0.old.2
  refine Go.by (fun _ k => X0.len f1 (g := (mkF m 2 #[.val (.ref a1), .val (.ref a2), .val (.ref dd), .val (.int (0 : Int32))] [(.ref dd), (.int (0 : Int32))])) rfl rfl d_jdk_38_method_24_2 _ k) ?_
  show Go _ _ _ _ (T0.setTop (mkF m 3 #[.val (.ref a1), .val (.ref a2), .val (.ref dd), .val (.int (0 : Int32))] [(.int (0 : Int32)), (.int (0 : Int32))]))
  refine Go.by (fun _ k => XS.icmpNo X0.here X0.hx rfl (X0.cd d_jdk_38_method_24_3) rfl (XT.ii_ne_f (by decide)) k) ?_
  show Go _ _ _ _ (T0.setTop (mkF m 6 #[.val (.ref a1), .val (.ref a2), .val (.ref dd), .val (.int (0 : Int32))] []))
  refine Go.by (fun _ k => XS.aloadN X0.here X0.hx rfl (X0.cd d_jdk_38_method_24_6) rfl rfl k) ?_
  show Go _ _ _ _ (T0.setTop (mkF m 7 #[.val (.ref a1), .val (.ref a2), .val (.ref dd), .val (.int (0 : Int32))] [(.ref a1)]))
  have lt_a1_2 := (X0.lt (.head _))
  obtain ⟨_, T2, h2, X2, K2, ⟨ea_2, ke_2, rfl, fr_ea_2, fl_ea_2, P2_0, P2_1, P2_2, P2_3, p2_0⟩, st2⟩ := X0.pvN (W := 0) (hw _ (List.mem_of_getElem? (i := 104) rfl)) (hw _ (List.mem_of_getElem? (i := 105) rfl)) (hw _ (List.mem_of_getElem? (i := 107) rfl)) (hw _ (List.mem_of_getElem? (i := 106) rfl)) (hw _ (List.mem_of_getElem? (i := 108) rfl)) (by decide) ((rm_gr0 l Z a0 hw n0 a1 u0 dd kd h0 X0.old pr0 pr1 pr2 pr3 Sd Ad (X0.ge (.head _)) (X0.lt (.head _))).pay (hw _ (List.mem_of_getElem? (i := 108) rfl)) (hw _ (List.mem_of_getElem? (i := 57) rfl)) (by decide) (by decide)) (allS (.head _) all0) pr0 (g := (mkF m 7 #[.val (.ref a1), .val (.ref a2), .val (.ref dd), .val (.int (0 : Int32))] [(.ref a1)])) rfl rfl (argsL := []) (rest := []) (lenOf pd_5 rfl) rfl (by exact Nat.le_of_eq rfl) d_jdk_38_method_24_7 rfl (by decide) (by decide)
  refine Go.tr st2 ?_
  have K0_h2 : Keep h0 h2 [a1] := (Keep.refl h0 [a1]).trans K2 (allS (Or.inl (.head _)) all0)
  have ne_a1_ea_2 : a1 ≠ ea_2 := ne_ge lt_a1_2 fr_ea_2
  have sz_ea_2 : h0.size ≤ ea_2 := Nat.le_trans X0.sz fr_ea_2
  show Go _ _ _ _ (T2.setTop (mkF m 10 #[.val (.ref a1), .val (.ref a2), .val (.ref dd), .val (.int (0 : Int32))] [(.ref ea_2)]))
  have X3 := X2.addA P2_3 (by decide) (Nat.le_trans X0.nle sz_ea_2)
  refine Go.by (fun _ k => XS.astoreN X3.here X3.hx rfl (X3.cd d_jdk_38_method_24_10) rfl rfl (l' := #[.val (.ref a1), .val (.ref a2), .val (.ref ea_2), .val (.int (0 : Int32))]) rfl k) ?_
  show Go _ _ _ _ (T2.setTop (mkF m 11 #[.val (.ref a1), .val (.ref a2), .val (.ref ea_2), .val (.int (0 : Int32))] []))
  refine Go.by (fun _ k => XS.aloadN X3.here X3.hx rfl (X3.cd d_jdk_38_method_24_11) rfl rfl k) ?_
  show Go _ _ _ _ (T2.setTop (mkF m 12 #[.val (.ref a1), .val (.ref a2), .val (.ref ea_2), .val (.int (0 : Int32))] [(.ref ea_2)]))
  refine Go.by (fun _ k => XS.iloadN X3.here X3.hx rfl (X3.cd d_jdk_38_method_24_12) rfl  k) ?_
  show Go _ _ _ _ (T2.setTop (mkF m 13 #[.val (.ref a1), .val (.ref a2), .val (.ref ea_2), .val (.int (0 : Int32))] [(.int (0 : Int32)), (.ref ea_2)]))
  refine Go.by (fun _ k => XS.aloadN X3.here X3.hx rfl (X3.cd d_jdk_38_method_24_13) rfl rfl k) ?_
  show Go _ _ _ _ (T2.setTop (mkF m 14 #[.val (.ref a1), .val (.ref a2), .val (.ref ea_2), .val (.int (0 : Int32))] [(.ref a2), (.int (0 : Int32)), (.ref ea_2)]))
  have f4 : Ins Z h2 a2 "java/lang/Object" true := ins_keep (pr4) K2
  obtain ⟨T5, h5, X5, W5, A5, st5⟩ := X3.stR P2_3 (.head _) p2_0 f4 rfl rfl ⟨by decide, by decide⟩ (i := 0) rfl (Nat.le_of_ble_eq_true rfl) (vs' := [(.ref a2), .null, .null, .null, .null, .null, .null, .null, .null, .null]) rfl (g := (mkF m 14 #[.val (.ref a1), .val (.ref a2), .val (.ref ea_2), .val (.int (0 : Int32))] [(.ref a2), (.int (0 : Int32)), (.ref ea_2)])) rfl rfl d_jdk_38_method_24_14
  refine Go.by st5 ?_
  have K0_h5 : Keep h0 h5 [a1] := K0_h2.trans W5 (allS (Or.inr sz_ea_2) all0)
  show Go _ _ _ _ (T5.setTop (mkF m 15 #[.val (.ref a1), .val (.ref a2), .val (.ref ea_2), .val (.int (0 : Int32))] []))
  refine Go.by (fun _ k => XS.aloadN X5.here X5.hx rfl (X5.cd d_jdk_38_method_24_15) rfl rfl k) ?_
  show Go _ _ _ _ (T5.setTop (mkF m 16 #[.val (.ref a1), .val (.ref a2), .val (.ref ea_2), .val (.int (0 : Int32))] [(.ref a1)]))
  refine Go.by (fun _ k => XS.iloadN X5.here X5.hx rfl (X5.cd d_jdk_38_method_24_16) rfl  k) ?_
  show Go _ _ _ _ (T5.setTop (mkF m 17 #[.val (.ref a1), .val (.ref a2), .val (.ref ea_2), .val (.int (0 : Int32))] [(.int (0 : Int32)), (.ref a1)]))
  refine Go.by (fun _ k => XS.iconst X5.here X5.hx rfl (X5.cd d_jdk_38_method_24_17)  k) ?_
  show Go _ _ _ _ (T5.setTop (mkF m 18 #[.val (.ref a1), .val (.ref a2), .val (.ref ea_2), .val (.int (0 : Int32))] [(.int (1 : Int32)), (.int (0 : Int32)), (.ref a1)]))
  refine Go.by (fun _ k => XS.iadd X5.here X5.hx rfl (X5.cd d_jdk_38_method_24_18) rfl k) ?_
  show Go _ _ _ _ (T5.setTop (mkF m 19 #[.val (.ref a1), .val (.ref a2), .val (.ref ea_2), .val (.int (0 : Int32))] [(.int ((0 : Int32) + (1 : Int32))), (.ref a1)]))
  have f7 : Fld Z h5 a1 "java/util/ArrayList" "size" "I" (.int (0 : Int32)) := (P2_2).keep W5 (ninS ne_a1_ea_2 nin0)
  have f8 : Exa Z h5 a1 "java/util/ArrayList" := ((pr0).keep K2).keep W5
  obtain ⟨T6, h6, X6, W6, st6⟩ := X5.putF (host := "") (Or.inl (hw _ (List.mem_of_getElem? (i := 97) rfl))) Via.refl f7 f8 (Or.inl (hw _ (List.mem_of_getElem? (i := 98) rfl))) (hw _ (List.mem_of_getElem? (i := 56) rfl)) (.tail _ (.head _)) (ty := .int) (by decide) rfl rfl (g := (mkF m 19 #[.val (.ref a1), .val (.ref a2), .val (.ref ea_2), .val (.int (0 : Int32))] [(.int ((0 : Int32) + (1 : Int32))), (.ref a1)])) rfl rfl d_jdk_38_method_24_19
  refine Go.by st6 ?_
  have K0_h6 : Keep h0 h6 [a1] := K0_h5.wr W6 (Or.inl (.head _))
  have F6 : Fld Z h6 a1 "java/util/ArrayList" "size" "I" (.int ((0 : Int32) + (1 : Int32))) := f7.same W6
  show Go _ _ _ _ (T6.setTop (mkF m 22 #[.val (.ref a1), .val (.ref a2), .val (.ref ea_2), .val (.int (0 : Int32))] []))
  have f9 : Fld Z h6 a1 "java/util/AbstractList" "modCount" "I" u0 := ((P2_0).keep W5 (ninS ne_a1_ea_2 nin0)).other W6 (Or.inr (slot_ne (Or.inl (hw _ (List.mem_of_getElem? (i := 75) rfl))) (Or.inl (hw _ (List.mem_of_getElem? (i := 98) rfl))) (by decide) (t := .int) (t' := .int) (by decide) (by decide)))
  have f10 : Fld Z h6 a1 "java/util/ArrayList" "elementData" "[Ljava/lang/Object;" (.ref ea_2) := ((P2_1).keep W5 (ninS ne_a1_ea_2 nin0)).other W6 (Or.inr (slot_ne (Or.inl (hw _ (List.mem_of_getElem? (i := 78) rfl))) (Or.inl (hw _ (List.mem_of_getElem? (i := 98) rfl))) (by decide) (t := (.array (.object "java/lang/Object"))) (t' := .int) (by decide) (by decide)))
  have f11 : Arv Z h6 ea_2 ke_2 (.object "java/lang/Object") (10 : Int32) [(.ref a2), .null, .null, .null, .null, .null, .null, .null, .null, .null] .null := (A5).other W6 ne_a1_ea_2.symm
  exact X6.retV d_jdk_38_method_24_22 K0_h6 ⟨ea_2, ke_2, rfl, sz_ea_2, (X6.lt (.head _)), f9, f10, F6, f11, p2_0⟩ (by decide) (by decide)
theorem ef_rm_ad1 (m : MethodId) (x0 : Addr) (x1 : Addr) : entryFrame m #[(.ref x0), (.ref x1)] 2 = mkF m 0 #[.val (.ref x0), .val (.ref x1)] [] := by first | (simp [entryFrame, mkF, argsToLocals, Value.category]; done) | rfl
def Q_rm_ad1 (Z : State) (a1 : Addr) (a2 : Addr) (w0 : Int32) (dd : Addr) (kd : ClassId) (h0 : Heap) (ov : Option Value) (hz : Heap) : Prop := ∃ (ea : Addr), ∃ (ke : ClassId), ov = some (.int (1 : Int32)) ∧ h0.size ≤ ea ∧ ea < hz.size ∧ Fld Z hz a1 "java/util/AbstractList" "modCount" "I" (.int (w0 + (1 : Int32))) ∧ Fld Z hz a1 "java/util/ArrayList" "elementData" "[Ljava/lang/Object;" (.ref ea) ∧ Fld Z hz a1 "java/util/ArrayList" "size" "I" (.int (1 : Int32)) ∧ Arv Z hz ea ke (.object "java/lang/Object") (10 : Int32) [(.ref a2), .null, .null, .null, .null, .null, .null, .null, .null, .null] .null ∧ (Ovr Z ke "java/lang/Object")
theorem d_jdk_38_method_25_0 : decode jdk_38_method_25_code 0 = .ok (.aload_n 0, 1) := by decide +kernel
theorem d_jdk_38_method_25_1 : decode jdk_38_method_25_code 1 = .ok (.dup, 1) := by decide +kernel
theorem d_jdk_38_method_25_2 : decode jdk_38_method_25_code 2 = .ok (.getfield 63, 3) := by decide +kernel
theorem d_jdk_38_method_25_5 : decode jdk_38_method_25_code 5 = .ok (.iconst 1, 1) := by decide +kernel
theorem d_jdk_38_method_25_6 : decode jdk_38_method_25_code 6 = .ok (.iadd, 1) := by decide +kernel
theorem d_jdk_38_method_25_7 : decode jdk_38_method_25_code 7 = .ok (.putfield 63, 3) := by decide +kernel
theorem d_jdk_38_method_25_10 : decode jdk_38_method_25_code 10 = .ok (.aload_n 0, 1) := by decide +kernel
theorem d_jdk_38_method_25_11 : decode jdk_38_method_25_code 11 = .ok (.aload_n 1, 1) := by decide +kernel
theorem d_jdk_38_method_25_12 : decode jdk_38_method_25_code 12 = .ok (.aload_n 0, 1) := by decide +kernel
theorem d_jdk_38_method_25_13 : decode jdk_38_method_25_code 13 = .ok (.getfield 9, 3) := by decide +kernel
theorem d_jdk_38_method_25_16 : decode jdk_38_method_25_code 16 = .ok (.aload_n 0, 1) := by decide +kernel
theorem d_jdk_38_method_25_17 : decode jdk_38_method_25_code 17 = .ok (.getfield 48, 3) := by decide +kernel
theorem pd_6 : parseMethodDescriptor "(Ljava/lang/Object;[Ljava/lang/Object;I)V" = some ⟨[(.object "java/lang/Object"), (.array (.object "java/lang/Object")), .int], none⟩ := by decide +kernel
theorem d_jdk_38_method_25_20 : decode jdk_38_method_25_code 20 = .ok (.invokevirtual 131, 3) := by decide +kernel
theorem d_jdk_38_method_25_23 : decode jdk_38_method_25_code 23 = .ok (.iconst 1, 1) := by decide +kernel
theorem d_jdk_38_method_25_24 : decode jdk_38_method_25_code 24 = .ok (.ireturn, 1) := by decide +kernel
abbrev RM_rm_ad1 : Room := { frames := 4, cells := 1, slots := 10, locals := 56 }
set_option maxRecDepth 65536 in
set_option maxHeartbeats 40000000 in
theorem rm_ad1 (l : Launch) (Z : State) (a0 : Array Value) (hw : ∀ d ∈ tables_1, d.before a0 Z = true) (n0 : Nat) (a1 : Addr) (a2 : Addr) (w0 : Int32) (dd : Addr) (kd : ClassId) (h0 : Heap) (hO : Old Z n0 h0) (pr0 : Exa Z h0 a1 "java/util/ArrayList") (pr1 : Fld Z h0 a1 "java/util/AbstractList" "modCount" "I" (.int w0)) (pr2 : Fld Z h0 a1 "java/util/ArrayList" "elementData" "[Ljava/lang/Object;" (.ref dd)) (pr3 : Fld Z h0 a1 "java/util/ArrayList" "size" "I" (.int (0 : Int32))) (pr4 : Ins Z h0 a2 "java/lang/Object" true) (Sd : Sta Z Z.heap "java/util/ArrayList" "DEFAULTCAPACITY_EMPTY_ELEMENTDATA" "[Ljava/lang/Object;" (.ref dd)) (Ad : Arv Z Z.heap dd kd (.object "java/lang/Object") (0 : Int32) [] .null) (g_a1 : n0 ≤ a1) (l_a1 : a1 < h0.size) :
    Ct l (⟨"java/util/ArrayList", "add", "(Ljava/lang/Object;)Z"⟩ : MethodName) jdk_38_method_25_code 2 (some .boolean) [] RM_rm_ad1 Z n0 #[(.ref a1), (.ref a2)] h0 [a1] (Q_rm_ad1 Z a1 a2 w0 dd kd h0) := by
  refine Ct.of_walk (plainFor_of_name pn_5) hO (allS ⟨g_a1, l_a1⟩ all0) ?_
  intro p e s m below meth c T0 X0
  rw [ef_rm_ad1 m a1 a2]
  show Go _ _ _ _ (T0.setTop (mkF m 0 #[.val (.ref a1), .val (.ref a2)] []))
  refine Go.by (fun _ k => XS.aloadN X0.here X0.hx rfl (X0.cd d_jdk_38_method_25_0) rfl rfl k) ?_
  show Go _ _ _ _ (T0.setTop (mkF m 1 #[.val (.ref a1), .val (.ref a2)] [(.ref a1)]))
  refine Go.by (fun _ k => XS.dup X0.here X0.hx rfl (X0.cd d_jdk_38_method_25_1) rfl rfl k) ?_
  show Go _ _ _ _ (T0.setTop (mkF m 2 #[.val (.ref a1), .val (.ref a2)] [(.ref a1), (.ref a1)]))
  obtain ⟨T1, X1, st1⟩ := X0.getF (host := "") (Or.inl (hw _ (List.mem_of_getElem? (i := 95) rfl))) (Via.of (hw _ (List.mem_of_getElem? (i := 96) rfl))) pr1 (g := (mkF m 2 #[.val (.ref a1), .val (.ref a2)] [(.ref a1), (.ref a1)])) rfl rfl d_jdk_38_method_25_2
  refine Go.by st1 ?_
  show Go _ _ _ _ (T1.setTop (mkF m 5 #[.val (.ref a1), .val (.ref a2)] [(.int w0), (.ref a1)]))
  refine Go.by (fun _ k => XS.iconst X1.here X1.hx rfl (X1.cd d_jdk_38_method_25_5)  k) ?_
  show Go _ _ _ _ (T1.setTop (mkF m 6 #[.val (.ref a1), .val (.ref a2)] [(.int (1 : Int32)), (.int w0), (.ref a1)]))
  refine Go.by (fun _ k => XS.iadd X1.here X1.hx rfl (X1.cd d_jdk_38_method_25_6) rfl k) ?_
  show Go _ _ _ _ (T1.setTop (mkF m 7 #[.val (.ref a1), .val (.ref a2)] [(.int (w0 + (1 : Int32))), (.ref a1)]))
  obtain ⟨T2, h2, X2, W2, st2⟩ := X1.putF (host := "") (Or.inl (hw _ (List.mem_of_getElem? (i := 95) rfl))) (Via.of (hw _ (List.mem_of_getElem? (i := 96) rfl))) pr1 pr0 (Or.inl (hw _ (List.mem_of_getElem? (i := 75) rfl))) (hw _ (List.mem_of_getElem? (i := 56) rfl)) (.head _) (ty := .int) (by decide) rfl rfl (g := (mkF m 7 #[.val (.ref a1), .val (.ref a2)] [(.int (w0 + (1 : Int32))), (.ref a1)])) rfl rfl d_jdk_38_method_25_7
  refine Go.by st2 ?_
  have K0_h2 : Keep h0 h2 [a1] := (Keep.refl h0 [a1]).wr W2 (Or.inl (.head _))
  have F2 : Fld Z h2 a1 "java/util/AbstractList" "modCount" "I" (.int (w0 + (1 : Int32))) := pr1.same W2
  show Go _ _ _ _ (T2.setTop (mkF m 10 #[.val (.ref a1), .val (.ref a2)] []))
  refine Go.by (fun _ k => XS.aloadN X2.here X2.hx rfl (X2.cd d_jdk_38_method_25_10) rfl rfl k) ?_
  show Go _ _ _ _ (T2.setTop (mkF m 11 #[.val (.ref a1), .val (.ref a2)] [(.ref a1)]))
  refine Go.by (fun _ k => XS.aloadN X2.here X2.hx rfl (X2.cd d_jdk_38_method_25_11) rfl rfl k) ?_
  show Go _ _ _ _ (T2.setTop (mkF m 12 #[.val (.ref a1), .val (.ref a2)] [(.ref a2), (.ref a1)]))
  refine Go.by (fun _ k => XS.aloadN X2.here X2.hx rfl (X2.cd d_jdk_38_method_25_12) rfl rfl k) ?_
  show Go _ _ _ _ (T2.setTop (mkF m 13 #[.val (.ref a1), .val (.ref a2)] [(.ref a1), (.ref a2), (.ref a1)]))
  have f3 : Fld Z h2 a1 "java/util/ArrayList" "elementData" "[Ljava/lang/Object;" (.ref dd) := (pr2).other W2 (Or.inr (slot_ne (Or.inl (hw _ (List.mem_of_getElem? (i := 78) rfl))) (Or.inl (hw _ (List.mem_of_getElem? (i := 75) rfl))) (by decide) (t := (.array (.object "java/lang/Object"))) (t' := .int) (by decide) (by decide)))
  obtain ⟨T4, X4, st4⟩ := X2.getF (host := "") (Or.inl (hw _ (List.mem_of_getElem? (i := 77) rfl))) Via.refl f3 (g := (mkF m 13 #[.val (.ref a1), .val (.ref a2)] [(.ref a1), (.ref a2), (.ref a1)])) rfl rfl d_jdk_38_method_25_13
  refine Go.by st4 ?_
  show Go _ _ _ _ (T4.setTop (mkF m 16 #[.val (.ref a1), .val (.ref a2)] [(.ref dd), (.ref a2), (.ref a1)]))
  refine Go.by (fun _ k => XS.aloadN X4.here X4.hx rfl (X4.cd d_jdk_38_method_25_16) rfl rfl k) ?_
  show Go _ _ _ _ (T4.setTop (mkF m 17 #[.val (.ref a1), .val (.ref a2)] [(.ref a1), (.ref dd), (.ref a2), (.ref a1)]))
  have f5 : Fld Z h2 a1 "java/util/ArrayList" "size" "I" (.int (0 : Int32)) := (pr3).other W2 (Or.inr (slot_ne (Or.inl (hw _ (List.mem_of_getElem? (i := 98) rfl))) (Or.inl (hw _ (List.mem_of_getElem? (i := 75) rfl))) (by decide) (t := .int) (t' := .int) (by decide) (by decide)))
  obtain ⟨T6, X6, st6⟩ := X4.getF (host := "") (Or.inl (hw _ (List.mem_of_getElem? (i := 97) rfl))) Via.refl f5 (g := (mkF m 17 #[.val (.ref a1), .val (.ref a2)] [(.ref a1), (.ref dd), (.ref a2), (.ref a1)])) rfl rfl d_jdk_38_method_25_17
  refine Go.by st6 ?_
  show Go _ _ _ _ (T6.setTop (mkF m 20 #[.val (.ref a1), .val (.ref a2)] [(.int (0 : Int32)), (.ref dd), (.ref a2), (.ref a1)]))
  have f7 : Exa Z h2 a1 "java/util/ArrayList" := (pr0).wr W2
  have f8 : Ins Z h2 a2 "java/lang/Object" true := (pr4).wr W2
  have lt_a1_9 := (X6.lt (.head _))
  obtain ⟨_, T9, h9, X9, K9, ⟨ea_9, ke_9, rfl, fr_ea_9, fl_ea_9, P9_0, P9_1, P9_2, P9_3, p9_0⟩, st9⟩ := X6.pvN (W := 0) (hw _ (List.mem_of_getElem? (i := 99) rfl)) (hw _ (List.mem_of_getElem? (i := 100) rfl)) (hw _ (List.mem_of_getElem? (i := 102) rfl)) (hw _ (List.mem_of_getElem? (i := 101) rfl)) (hw _ (List.mem_of_getElem? (i := 103) rfl)) (by decide) ((rm_ad3 l Z a0 hw n0 a1 a2 (.int (w0 + (1 : Int32))) dd kd h2 X6.old f7 F2 f3 f5 f8 Sd Ad (X6.ge (.head _)) (X6.lt (.head _))).pay (hw _ (List.mem_of_getElem? (i := 103) rfl)) (hw _ (List.mem_of_getElem? (i := 57) rfl)) (by decide) (by decide)) (allS (.head _) all0) f7 (g := (mkF m 20 #[.val (.ref a1), .val (.ref a2)] [(.int (0 : Int32)), (.ref dd), (.ref a2), (.ref a1)])) rfl rfl (argsL := [(.ref a2), (.ref dd), (.int (0 : Int32))]) (rest := []) (lenOf pd_6 rfl) rfl (by exact Nat.le_of_eq rfl) d_jdk_38_method_25_20 rfl (by decide) (by decide)
  refine Go.tr st9 ?_
  have K0_h9 : Keep h0 h9 [a1] := K0_h2.trans K9 (allS (Or.inl (.head _)) all0)
  have ne_a1_ea_9 : a1 ≠ ea_9 := ne_ge lt_a1_9 fr_ea_9
  have sz_ea_9 : h0.size ≤ ea_9 := Nat.le_trans X6.sz fr_ea_9
  show Go _ _ _ _ (T9.setTop (mkF m 23 #[.val (.ref a1), .val (.ref a2)] []))
  refine Go.by (fun _ k => XS.iconst X9.here X9.hx rfl (X9.cd d_jdk_38_method_25_23)  k) ?_
  show Go _ _ _ _ (T9.setTop (mkF m 24 #[.val (.ref a1), .val (.ref a2)] [(.int (1 : Int32))]))
  exact X9.retN (by simp) rfl d_jdk_38_method_25_24 K0_h9 ⟨ea_9, ke_9, rfl, sz_ea_9, P9_3.lt, P9_0, P9_1, P9_2, P9_3, p9_0⟩ (by decide) (by decide)
theorem ef_rm_bd3 (m : MethodId) (x0 : Addr) (x1 : Addr) (x2 : Addr) (x3 : Int32) : entryFrame m #[(.ref x0), (.ref x1), (.ref x2), (.int x3)] 4 = mkF m 0 #[.val (.ref x0), .val (.ref x1), .val (.ref x2), .val (.int x3)] [] := by first | (simp [entryFrame, mkF, argsToLocals, Value.category]; done) | rfl
def Q_rm_bd3 (Z : State) (a1 : Addr) (a2 : Addr) (ea : Addr) (ke : ClassId) (vs : List Value) (N : Nat) (u0 : Value) (h0 : Heap) (ov : Option Value) (hz : Heap) : Prop := ov = none ∧ Fld Z hz a1 "java/util/AbstractList" "modCount" "I" u0 ∧ Fld Z hz a1 "java/util/ArrayList" "elementData" "[Ljava/lang/Object;" (.ref ea) ∧ Fld Z hz a1 "java/util/ArrayList" "size" "I" (.int (Int32.ofNat (N + 1))) ∧ Arv Z hz ea ke (.object "java/lang/Object") (10 : Int32) (vs ++ [Value.ref a2]) .null
abbrev RM_rm_bd3 : Room := { frames := 0, cells := 0, slots := 0, locals := 0 }
set_option maxRecDepth 65536 in
set_option maxHeartbeats 40000000 in
theorem rm_bd3 (l : Launch) (Z : State) (a0 : Array Value) (hw : ∀ d ∈ tables_1, d.before a0 Z = true) (n0 : Nat) (a1 : Addr) (a2 : Addr) (ea : Addr) (ke : ClassId) (vs : List Value) (N : Nat) (u0 : Value) (h0 : Heap) (hO : Old Z n0 h0) (pr0 : Exa Z h0 a1 "java/util/ArrayList") (pr1 : Fld Z h0 a1 "java/util/AbstractList" "modCount" "I" u0) (pr2 : Fld Z h0 a1 "java/util/ArrayList" "elementData" "[Ljava/lang/Object;" (.ref ea)) (pr3 : Fld Z h0 a1 "java/util/ArrayList" "size" "I" (.int (Int32.ofNat N))) (pr4 : Ins Z h0 a2 "java/lang/Object" true) (pr5 : Arv Z h0 ea ke (.object "java/lang/Object") (10 : Int32) vs .null) (hov : Ovr Z ke "java/lang/Object") (hae : a1 ≠ ea) (hN : vs.length = N) (hN9 : N < 10) (g_a1 : n0 ≤ a1) (l_a1 : a1 < h0.size) (g_ea : n0 ≤ ea) (l_ea : ea < h0.size) :
    Ct l (⟨"java/util/ArrayList", "add", "(Ljava/lang/Object;[Ljava/lang/Object;I)V"⟩ : MethodName) jdk_38_method_24_code 4 none [] RM_rm_bd3 Z n0 #[(.ref a1), (.ref a2), (.ref ea), (.int (Int32.ofNat N))] h0 [a1, ea] (Q_rm_bd3 Z a1 a2 ea ke vs N u0 h0) := by
  refine Ct.of_walk (plainFor_of_name pn_5) hO (allS ⟨g_a1, l_a1⟩ (allS ⟨g_ea, l_ea⟩ all0)) ?_
  intro p e s m below meth c T0 X0
  rw [ef_rm_bd3 m a1 a2 ea (Int32.ofNat N)]
  show Go _ _ _ _ (T0.setTop (mkF m 0 #[.val (.ref a1), .val (.ref a2), .val (.ref ea), .val (.int (Int32.ofNat N))] []))
  refine Go.by (fun _ k => XS.iloadN X0.here X0.hx rfl (X0.cd d_jdk_38_method_24_0) rfl  k) ?_
  show Go _ _ _ _ (T0.setTop (mkF m 1 #[.val (.ref a1), .val (.ref a2), .val (.ref ea), .val (.int (Int32.ofNat N))] [(.int (Int32.ofNat N))]))
  refine Go.by (fun _ k => XS.aloadN X0.here X0.hx rfl (X0.cd d_jdk_38_method_24_1) rfl rfl k) ?_
  show Go _ _ _ _ (T0.setTop (mkF m 2 #[.val (.ref a1), .val (.ref a2), .val (.ref ea), .val (.int (Int32.ofNat N))] [(.ref ea), (.int (Int32.ofNat N))]))
  refine Go.by (fun _ k => X0.len pr5 (g := (mkF m 2 #[.val (.ref a1), .val (.ref a2), .val (.ref ea), .val (.int (Int32.ofNat N))] [(.ref ea), (.int (Int32.ofNat N))])) rfl rfl d_jdk_38_method_24_2 _ k) ?_
  show Go _ _ _ _ (T0.setTop (mkF m 3 #[.val (.ref a1), .val (.ref a2), .val (.ref ea), .val (.int (Int32.ofNat N))] [(.int (10 : Int32)), (.int (Int32.ofNat N))]))
  refine Go.by (fun _ k => XS.icmpYes X0.here X0.hx rfl (pc0 := 3) (pc' := 11) rfl (X0.cd d_jdk_38_method_24_3) rfl (XT.ii_ne_t (own_n10 hN9)) (by decide) (by decide) k) ?_
  show Go _ _ _ _ (T0.setTop (mkF m 11 #[.val (.ref a1), .val (.ref a2), .val (.ref ea), .val (.int (Int32.ofNat N))] []))
  refine Go.by (fun _ k => XS.aloadN X0.here X0.hx rfl (X0.cd d_jdk_38_method_24_11) rfl rfl k) ?_
  show Go _ _ _ _ (T0.setTop (mkF m 12 #[.val (.ref a1), .val (.ref a2), .val (.ref ea), .val (.int (Int32.ofNat N))] [(.ref ea)]))
  refine Go.by (fun _ k => XS.iloadN X0.here X0.hx rfl (X0.cd d_jdk_38_method_24_12) rfl  k) ?_
  show Go _ _ _ _ (T0.setTop (mkF m 13 #[.val (.ref a1), .val (.ref a2), .val (.ref ea), .val (.int (Int32.ofNat N))] [(.int (Int32.ofNat N)), (.ref ea)]))
  refine Go.by (fun _ k => XS.aloadN X0.here X0.hx rfl (X0.cd d_jdk_38_method_24_13) rfl rfl k) ?_
  show Go _ _ _ _ (T0.setTop (mkF m 14 #[.val (.ref a1), .val (.ref a2), .val (.ref ea), .val (.int (Int32.ofNat N))] [(.ref a2), (.int (Int32.ofNat N)), (.ref ea)]))
  have f1 : Arv Z h0 ea ke (.object "java/lang/Object") (10 : Int32) (vs ++ [Value.null]) .null := (pr5).pad (own_pad _ _)
  obtain ⟨T2, h2, X2, W2, A2, st2⟩ := X0.stR f1 (.tail _ (.head _)) hov pr4 rfl rfl ⟨on_nn (by omega), (on_lt (b := 10) (by omega) (by omega)).mpr hN9⟩ (i := N) (on_clamp (by omega)) (by simp [hN]) (vs' := (vs ++ [Value.ref a2])) (own_set _ _ _ hN) (g := (mkF m 14 #[.val (.ref a1), .val (.ref a2), .val (.ref ea), .val (.int (Int32.ofNat N))] [(.ref a2), (.int (Int32.ofNat N)), (.ref ea)])) rfl rfl d_jdk_38_method_24_14
  refine Go.by st2 ?_
  have K0_h2 : Keep h0 h2 [a1, ea] := (Keep.refl h0 [a1, ea]).trans W2 (allS (Or.inl (.tail _ (.head _))) all0)
  show Go _ _ _ _ (T2.setTop (mkF m 15 #[.val (.ref a1), .val (.ref a2), .val (.ref ea), .val (.int (Int32.ofNat N))] []))
  refine Go.by (fun _ k => XS.aloadN X2.here X2.hx rfl (X2.cd d_jdk_38_method_24_15) rfl rfl k) ?_
  show Go _ _ _ _ (T2.setTop (mkF m 16 #[.val (.ref a1), .val (.ref a2), .val (.ref ea), .val (.int (Int32.ofNat N))] [(.ref a1)]))
  refine Go.by (fun _ k => XS.iloadN X2.here X2.hx rfl (X2.cd d_jdk_38_method_24_16) rfl  k) ?_
  show Go _ _ _ _ (T2.setTop (mkF m 17 #[.val (.ref a1), .val (.ref a2), .val (.ref ea), .val (.int (Int32.ofNat N))] [(.int (Int32.ofNat N)), (.ref a1)]))
  refine Go.by (fun _ k => XS.iconst X2.here X2.hx rfl (X2.cd d_jdk_38_method_24_17)  k) ?_
  show Go _ _ _ _ (T2.setTop (mkF m 18 #[.val (.ref a1), .val (.ref a2), .val (.ref ea), .val (.int (Int32.ofNat N))] [(.int (1 : Int32)), (.int (Int32.ofNat N)), (.ref a1)]))
  refine Go.by (fun _ k => XS.iadd X2.here X2.hx rfl (X2.cd d_jdk_38_method_24_18) rfl k) ?_
  show Go _ _ _ _ (T2.setTop (mkF m 19 #[.val (.ref a1), .val (.ref a2), .val (.ref ea), .val (.int (Int32.ofNat N))] [(.int ((Int32.ofNat N) + (1 : Int32))), (.ref a1)]))
  rw [on_succ]
  show Go _ _ _ _ (T2.setTop (mkF m 19 #[.val (.ref a1), .val (.ref a2), .val (.ref ea), .val (.int (Int32.ofNat N))] [(.int (Int32.ofNat (N + 1))), (.ref a1)]))
  have f4 : Fld Z h2 a1 "java/util/ArrayList" "size" "I" (.int (Int32.ofNat N)) := (pr3).keep W2 (ninS hae nin0)
  have f5 : Exa Z h2 a1 "java/util/ArrayList" := (pr0).keep W2
  obtain ⟨T3, h3, X3, W3, st3⟩ := X2.putF (host := "") (Or.inl (hw _ (List.mem_of_getElem? (i := 97) rfl))) Via.refl f4 f5 (Or.inl (hw _ (List.mem_of_getElem? (i := 98) rfl))) (hw _ (List.mem_of_getElem? (i := 56) rfl)) (.head _) (ty := .int) (by decide) rfl rfl (g := (mkF m 19 #[.val (.ref a1), .val (.ref a2), .val (.ref ea), .val (.int (Int32.ofNat N))] [(.int (Int32.ofNat (N + 1))), (.ref a1)])) rfl rfl d_jdk_38_method_24_19
  refine Go.by st3 ?_
  have K0_h3 : Keep h0 h3 [a1, ea] := K0_h2.wr W3 (Or.inl (.head _))
  have F3 : Fld Z h3 a1 "java/util/ArrayList" "size" "I" (.int (Int32.ofNat (N + 1))) := f4.same W3
  show Go _ _ _ _ (T3.setTop (mkF m 22 #[.val (.ref a1), .val (.ref a2), .val (.ref ea), .val (.int (Int32.ofNat N))] []))
  have f6 : Fld Z h3 a1 "java/util/AbstractList" "modCount" "I" u0 := ((pr1).keep W2 (ninS hae nin0)).other W3 (Or.inr (slot_ne (Or.inl (hw _ (List.mem_of_getElem? (i := 75) rfl))) (Or.inl (hw _ (List.mem_of_getElem? (i := 98) rfl))) (by decide) (t := .int) (t' := .int) (by decide) (by decide)))
  have f7 : Fld Z h3 a1 "java/util/ArrayList" "elementData" "[Ljava/lang/Object;" (.ref ea) := ((pr2).keep W2 (ninS hae nin0)).other W3 (Or.inr (slot_ne (Or.inl (hw _ (List.mem_of_getElem? (i := 78) rfl))) (Or.inl (hw _ (List.mem_of_getElem? (i := 98) rfl))) (by decide) (t := (.array (.object "java/lang/Object"))) (t' := .int) (by decide) (by decide)))
  have f8 : Arv Z h3 ea ke (.object "java/lang/Object") (10 : Int32) (vs ++ [Value.ref a2]) .null := (A2).other W3 hae.symm
  exact X3.retV d_jdk_38_method_24_22 K0_h3 ⟨rfl, f6, f7, F3, f8⟩ (by decide) (by decide)
theorem ef_rm_bd1 (m : MethodId) (x0 : Addr) (x1 : Addr) : entryFrame m #[(.ref x0), (.ref x1)] 2 = mkF m 0 #[.val (.ref x0), .val (.ref x1)] [] := by first | (simp [entryFrame, mkF, argsToLocals, Value.category]; done) | rfl
def Q_rm_bd1 (Z : State) (a1 : Addr) (a2 : Addr) (ea : Addr) (ke : ClassId) (vs : List Value) (N : Nat) (w0 : Int32) (h0 : Heap) (ov : Option Value) (hz : Heap) : Prop := ov = some (.int (1 : Int32)) ∧ Fld Z hz a1 "java/util/AbstractList" "modCount" "I" (.int (w0 + (1 : Int32))) ∧ Fld Z hz a1 "java/util/ArrayList" "elementData" "[Ljava/lang/Object;" (.ref ea) ∧ Fld Z hz a1 "java/util/ArrayList" "size" "I" (.int (Int32.ofNat (N + 1))) ∧ Arv Z hz ea ke (.object "java/lang/Object") (10 : Int32) (vs ++ [Value.ref a2]) .null
abbrev RM_rm_bd1 : Room := { frames := 1, cells := 0, slots := 0, locals := 15 }
set_option maxRecDepth 65536 in
set_option maxHeartbeats 40000000 in
theorem rm_bd1 (l : Launch) (Z : State) (a0 : Array Value) (hw : ∀ d ∈ tables_1, d.before a0 Z = true) (n0 : Nat) (a1 : Addr) (a2 : Addr) (ea : Addr) (ke : ClassId) (vs : List Value) (N : Nat) (w0 : Int32) (h0 : Heap) (hO : Old Z n0 h0) (pr0 : Exa Z h0 a1 "java/util/ArrayList") (pr1 : Fld Z h0 a1 "java/util/AbstractList" "modCount" "I" (.int w0)) (pr2 : Fld Z h0 a1 "java/util/ArrayList" "elementData" "[Ljava/lang/Object;" (.ref ea)) (pr3 : Fld Z h0 a1 "java/util/ArrayList" "size" "I" (.int (Int32.ofNat N))) (pr4 : Ins Z h0 a2 "java/lang/Object" true) (pr5 : Arv Z h0 ea ke (.object "java/lang/Object") (10 : Int32) vs .null) (hov : Ovr Z ke "java/lang/Object") (hae : a1 ≠ ea) (hN : vs.length = N) (hN9 : N < 10) (g_a1 : n0 ≤ a1) (l_a1 : a1 < h0.size) (g_ea : n0 ≤ ea) (l_ea : ea < h0.size) :
    Ct l (⟨"java/util/ArrayList", "add", "(Ljava/lang/Object;)Z"⟩ : MethodName) jdk_38_method_25_code 2 (some .boolean) [] RM_rm_bd1 Z n0 #[(.ref a1), (.ref a2)] h0 [a1, ea] (Q_rm_bd1 Z a1 a2 ea ke vs N w0 h0) := by
  refine Ct.of_walk (plainFor_of_name pn_5) hO (allS ⟨g_a1, l_a1⟩ (allS ⟨g_ea, l_ea⟩ all0)) ?_
  intro p e s m below meth c T0 X0
  rw [ef_rm_bd1 m a1 a2]
  show Go _ _ _ _ (T0.setTop (mkF m 0 #[.val (.ref a1), .val (.ref a2)] []))
  refine Go.by (fun _ k => XS.aloadN X0.here X0.hx rfl (X0.cd d_jdk_38_method_25_0) rfl rfl k) ?_
  show Go _ _ _ _ (T0.setTop (mkF m 1 #[.val (.ref a1), .val (.ref a2)] [(.ref a1)]))
  refine Go.by (fun _ k => XS.dup X0.here X0.hx rfl (X0.cd d_jdk_38_method_25_1) rfl rfl k) ?_
  show Go _ _ _ _ (T0.setTop (mkF m 2 #[.val (.ref a1), .val (.ref a2)] [(.ref a1), (.ref a1)]))
  obtain ⟨T1, X1, st1⟩ := X0.getF (host := "") (Or.inl (hw _ (List.mem_of_getElem? (i := 95) rfl))) (Via.of (hw _ (List.mem_of_getElem? (i := 96) rfl))) pr1 (g := (mkF m 2 #[.val (.ref a1), .val (.ref a2)] [(.ref a1), (.ref a1)])) rfl rfl d_jdk_38_method_25_2
  refine Go.by st1 ?_
  show Go _ _ _ _ (T1.setTop (mkF m 5 #[.val (.ref a1), .val (.ref a2)] [(.int w0), (.ref a1)]))
  refine Go.by (fun _ k => XS.iconst X1.here X1.hx rfl (X1.cd d_jdk_38_method_25_5)  k) ?_
  show Go _ _ _ _ (T1.setTop (mkF m 6 #[.val (.ref a1), .val (.ref a2)] [(.int (1 : Int32)), (.int w0), (.ref a1)]))
  refine Go.by (fun _ k => XS.iadd X1.here X1.hx rfl (X1.cd d_jdk_38_method_25_6) rfl k) ?_
  show Go _ _ _ _ (T1.setTop (mkF m 7 #[.val (.ref a1), .val (.ref a2)] [(.int (w0 + (1 : Int32))), (.ref a1)]))
  obtain ⟨T2, h2, X2, W2, st2⟩ := X1.putF (host := "") (Or.inl (hw _ (List.mem_of_getElem? (i := 95) rfl))) (Via.of (hw _ (List.mem_of_getElem? (i := 96) rfl))) pr1 pr0 (Or.inl (hw _ (List.mem_of_getElem? (i := 75) rfl))) (hw _ (List.mem_of_getElem? (i := 56) rfl)) (.head _) (ty := .int) (by decide) rfl rfl (g := (mkF m 7 #[.val (.ref a1), .val (.ref a2)] [(.int (w0 + (1 : Int32))), (.ref a1)])) rfl rfl d_jdk_38_method_25_7
  refine Go.by st2 ?_
  have K0_h2 : Keep h0 h2 [a1, ea] := (Keep.refl h0 [a1, ea]).wr W2 (Or.inl (.head _))
  have F2 : Fld Z h2 a1 "java/util/AbstractList" "modCount" "I" (.int (w0 + (1 : Int32))) := pr1.same W2
  show Go _ _ _ _ (T2.setTop (mkF m 10 #[.val (.ref a1), .val (.ref a2)] []))
  refine Go.by (fun _ k => XS.aloadN X2.here X2.hx rfl (X2.cd d_jdk_38_method_25_10) rfl rfl k) ?_
  show Go _ _ _ _ (T2.setTop (mkF m 11 #[.val (.ref a1), .val (.ref a2)] [(.ref a1)]))
  refine Go.by (fun _ k => XS.aloadN X2.here X2.hx rfl (X2.cd d_jdk_38_method_25_11) rfl rfl k) ?_
  show Go _ _ _ _ (T2.setTop (mkF m 12 #[.val (.ref a1), .val (.ref a2)] [(.ref a2), (.ref a1)]))
  refine Go.by (fun _ k => XS.aloadN X2.here X2.hx rfl (X2.cd d_jdk_38_method_25_12) rfl rfl k) ?_
  show Go _ _ _ _ (T2.setTop (mkF m 13 #[.val (.ref a1), .val (.ref a2)] [(.ref a1), (.ref a2), (.ref a1)]))
  have f3 : Fld Z h2 a1 "java/util/ArrayList" "elementData" "[Ljava/lang/Object;" (.ref ea) := (pr2).other W2 (Or.inr (slot_ne (Or.inl (hw _ (List.mem_of_getElem? (i := 78) rfl))) (Or.inl (hw _ (List.mem_of_getElem? (i := 75) rfl))) (by decide) (t := (.array (.object "java/lang/Object"))) (t' := .int) (by decide) (by decide)))
  obtain ⟨T4, X4, st4⟩ := X2.getF (host := "") (Or.inl (hw _ (List.mem_of_getElem? (i := 77) rfl))) Via.refl f3 (g := (mkF m 13 #[.val (.ref a1), .val (.ref a2)] [(.ref a1), (.ref a2), (.ref a1)])) rfl rfl d_jdk_38_method_25_13
  refine Go.by st4 ?_
  show Go _ _ _ _ (T4.setTop (mkF m 16 #[.val (.ref a1), .val (.ref a2)] [(.ref ea), (.ref a2), (.ref a1)]))
  refine Go.by (fun _ k => XS.aloadN X4.here X4.hx rfl (X4.cd d_jdk_38_method_25_16) rfl rfl k) ?_
  show Go _ _ _ _ (T4.setTop (mkF m 17 #[.val (.ref a1), .val (.ref a2)] [(.ref a1), (.ref ea), (.ref a2), (.ref a1)]))
  have f5 : Fld Z h2 a1 "java/util/ArrayList" "size" "I" (.int (Int32.ofNat N)) := (pr3).other W2 (Or.inr (slot_ne (Or.inl (hw _ (List.mem_of_getElem? (i := 98) rfl))) (Or.inl (hw _ (List.mem_of_getElem? (i := 75) rfl))) (by decide) (t := .int) (t' := .int) (by decide) (by decide)))
  obtain ⟨T6, X6, st6⟩ := X4.getF (host := "") (Or.inl (hw _ (List.mem_of_getElem? (i := 97) rfl))) Via.refl f5 (g := (mkF m 17 #[.val (.ref a1), .val (.ref a2)] [(.ref a1), (.ref ea), (.ref a2), (.ref a1)])) rfl rfl d_jdk_38_method_25_17
  refine Go.by st6 ?_
  show Go _ _ _ _ (T6.setTop (mkF m 20 #[.val (.ref a1), .val (.ref a2)] [(.int (Int32.ofNat N)), (.ref ea), (.ref a2), (.ref a1)]))
  have f7 : Exa Z h2 a1 "java/util/ArrayList" := (pr0).wr W2
  have f8 : Ins Z h2 a2 "java/lang/Object" true := (pr4).wr W2
  have f9 : Arv Z h2 ea ke (.object "java/lang/Object") (10 : Int32) vs .null := (pr5).other W2 hae.symm
  obtain ⟨_, T10, h10, X10, K10, ⟨rfl, P10_0, P10_1, P10_2, P10_3⟩, st10⟩ := X6.pvN (W := 0) (hw _ (List.mem_of_getElem? (i := 99) rfl)) (hw _ (List.mem_of_getElem? (i := 100) rfl)) (hw _ (List.mem_of_getElem? (i := 102) rfl)) (hw _ (List.mem_of_getElem? (i := 101) rfl)) (hw _ (List.mem_of_getElem? (i := 103) rfl)) (by decide) ((rm_bd3 l Z a0 hw n0 a1 a2 ea ke vs N (.int (w0 + (1 : Int32))) h2 X6.old f7 F2 f3 f5 f8 f9 hov hae hN hN9 (X6.ge (.head _)) (X6.lt (.head _)) (X6.ge (.tail _ (.head _))) (X6.lt (.tail _ (.head _)))).pay (hw _ (List.mem_of_getElem? (i := 103) rfl)) (hw _ (List.mem_of_getElem? (i := 57) rfl)) (by decide) (by decide)) (allS (.head _) (allS (.tail _ (.head _)) all0)) f7 (g := (mkF m 20 #[.val (.ref a1), .val (.ref a2)] [(.int (Int32.ofNat N)), (.ref ea), (.ref a2), (.ref a1)])) rfl rfl (argsL := [(.ref a2), (.ref ea), (.int (Int32.ofNat N))]) (rest := []) (lenOf pd_6 rfl) rfl (by exact Nat.le_of_eq rfl) d_jdk_38_method_25_20 rfl (by decide) (by decide)
  refine Go.tr st10 ?_
  have K0_h10 : Keep h0 h10 [a1, ea] := K0_h2.trans K10 (allS (Or.inl (.head _)) (allS (Or.inl (.tail _ (.head _))) all0))
  show Go _ _ _ _ (T10.setTop (mkF m 23 #[.val (.ref a1), .val (.ref a2)] []))
  refine Go.by (fun _ k => XS.iconst X10.here X10.hx rfl (X10.cd d_jdk_38_method_25_23)  k) ?_
  show Go _ _ _ _ (T10.setTop (mkF m 24 #[.val (.ref a1), .val (.ref a2)] [(.int (1 : Int32))]))
  exact X10.retN (by simp) rfl d_jdk_38_method_25_24 K0_h10 ⟨rfl, P10_0, P10_1, P10_2, P10_3⟩ (by decide) (by decide)
theorem ef_rm_vo (m : MethodId) (x0 : Int32) : entryFrame m #[(.int x0)] 1 = mkF m 0 #[.val (.int x0)] [] := by first | (simp [entryFrame, mkF, argsToLocals, Value.category]; done) | rfl
def Q_rm_vo (Z : State) (nn : Nat) (cq : Addr) (kq : ClassId) (vq : List Value) (iv : Nat → Addr) (h0 : Heap) (ov : Option Value) (hz : Heap) : Prop := ov = some (.ref (iv nn)) ∧ h0 = hz
theorem pn_6 : plainName "java/lang/Integer" = true := by first | (simp [plainName, overriddenIn]; done) | decide +kernel
theorem d_jdk_33_method_22_0 : decode jdk_33_method_22_code 0 = .ok (.iload_n 0, 1) := by decide +kernel
theorem d_jdk_33_method_22_1 : decode jdk_33_method_22_code 1 = .ok (.bipush (-128), 2) := by decide +kernel
theorem d_jdk_33_method_22_3 : decode jdk_33_method_22_code 3 = .ok (.if_icmp .lt 20, 3) := by decide +kernel
theorem d_jdk_33_method_22_6 : decode jdk_33_method_22_code 6 = .ok (.iload_n 0, 1) := by decide +kernel
theorem d_jdk_33_method_22_7 : decode jdk_33_method_22_code 7 = .ok (.getstatic 191, 3) := by decide +kernel
theorem d_jdk_33_method_22_10 : decode jdk_33_method_22_code 10 = .ok (.if_icmp .gt 13, 3) := by decide +kernel
theorem d_jdk_33_method_22_13 : decode jdk_33_method_22_code 13 = .ok (.getstatic 195, 3) := by decide +kernel
theorem d_jdk_33_method_22_16 : decode jdk_33_method_22_code 16 = .ok (.iload_n 0, 1) := by decide +kernel
theorem d_jdk_33_method_22_17 : decode jdk_33_method_22_code 17 = .ok (.sipush 128, 3) := by decide +kernel
theorem d_jdk_33_method_22_20 : decode jdk_33_method_22_code 20 = .ok (.iadd, 1) := by decide +kernel
theorem d_jdk_33_method_22_21 : decode jdk_33_method_22_code 21 = .ok (.aaload, 1) := by decide +kernel
theorem d_jdk_33_method_22_22 : decode jdk_33_method_22_code 22 = .ok (.areturn, 1) := by decide +kernel
abbrev RM_rm_vo : Room := { frames := 0, cells := 0, slots := 0, locals := 0 }
set_option maxRecDepth 65536 in
set_option maxHeartbeats 40000000 in
theorem rm_vo (l : Launch) (Z : State) (a0 : Array Value) (hw : ∀ d ∈ tables_1, d.before a0 Z = true) (n0 : Nat) (nn : Nat) (cq : Addr) (kq : ClassId) (vq : List Value) (iv : Nat → Addr) (h0 : Heap) (hO : Old Z n0 h0) (Sh : Sta Z Z.heap "java/lang/Integer$IntegerCache" "high" "I" (.int (127 : Int32))) (Sq : Sta Z Z.heap "java/lang/Integer$IntegerCache" "cache" "[Ljava/lang/Integer;" (.ref cq)) (Aq : Arv Z Z.heap cq kq (.object "java/lang/Integer") (256 : Int32) vq .null) (Hq : ∀ m, m ≤ 5 → vq.getD (m + 128) .null = .ref (iv m) ∧ Exa Z Z.heap (iv m) "java/lang/Integer" ∧ Fld Z Z.heap (iv m) "java/lang/Integer" "value" "I" (.int (Int32.ofNat m))) (hn : nn ≤ 5) :
    Ct l (⟨"java/lang/Integer", "valueOf", "(I)Ljava/lang/Integer;"⟩ : MethodName) jdk_33_method_22_code 1 (some (.object "java/lang/Integer")) [] RM_rm_vo Z n0 #[(.int (Int32.ofNat nn))] h0 [] (Q_rm_vo Z nn cq kq vq iv h0) := by
  refine Ct.of_walk (plainFor_of_name pn_6) hO all0 ?_
  intro p e s m below meth c T0 X0
  rw [ef_rm_vo m (Int32.ofNat nn)]
  show Go _ _ _ _ (T0.setTop (mkF m 0 #[.val (.int (Int32.ofNat nn))] []))
  refine Go.by (fun _ k => XS.iloadN X0.here X0.hx rfl (X0.cd d_jdk_33_method_22_0) rfl  k) ?_
  show Go _ _ _ _ (T0.setTop (mkF m 1 #[.val (.int (Int32.ofNat nn))] [(.int (Int32.ofNat nn))]))
  refine Go.by (fun _ k => XS.bipush X0.here X0.hx rfl (X0.cd d_jdk_33_method_22_1)  k) ?_
  show Go _ _ _ _ (T0.setTop (mkF m 3 #[.val (.int (Int32.ofNat nn))] [(.int (-128 : Int32)), (.int (Int32.ofNat nn))]))
  refine Go.by (fun _ k => XS.icmpNo X0.here X0.hx rfl (X0.cd d_jdk_33_method_22_3) rfl (XT.ii_lt_f (own_v1 hn)) k) ?_
  show Go _ _ _ _ (T0.setTop (mkF m 6 #[.val (.int (Int32.ofNat nn))] []))
  refine Go.by (fun _ k => XS.iloadN X0.here X0.hx rfl (X0.cd d_jdk_33_method_22_6) rfl  k) ?_
  show Go _ _ _ _ (T0.setTop (mkF m 7 #[.val (.int (Int32.ofNat nn))] [(.int (Int32.ofNat nn))]))
  obtain ⟨T1, X1, st1⟩ := X0.getS (hw _ (List.mem_of_getElem? (i := 83) rfl)) Via.refl Sh (g := (mkF m 7 #[.val (.int (Int32.ofNat nn))] [(.int (Int32.ofNat nn))])) rfl d_jdk_33_method_22_7
  refine Go.by st1 ?_
  show Go _ _ _ _ (T1.setTop (mkF m 10 #[.val (.int (Int32.ofNat nn))] [(.int (127 : Int32)), (.int (Int32.ofNat nn))]))
  refine Go.by (fun _ k => XS.icmpNo X1.here X1.hx rfl (X1.cd d_jdk_33_method_22_10) rfl (XT.ii_gt_f (own_v2 hn)) k) ?_
  show Go _ _ _ _ (T1.setTop (mkF m 13 #[.val (.int (Int32.ofNat nn))] []))
  obtain ⟨T2, X2, st2⟩ := X1.getS (hw _ (List.mem_of_getElem? (i := 85) rfl)) Via.refl Sq (g := (mkF m 13 #[.val (.int (Int32.ofNat nn))] [])) rfl d_jdk_33_method_22_13
  refine Go.by st2 ?_
  show Go _ _ _ _ (T2.setTop (mkF m 16 #[.val (.int (Int32.ofNat nn))] [(.ref cq)]))
  refine Go.by (fun _ k => XS.iloadN X2.here X2.hx rfl (X2.cd d_jdk_33_method_22_16) rfl  k) ?_
  show Go _ _ _ _ (T2.setTop (mkF m 17 #[.val (.int (Int32.ofNat nn))] [(.int (Int32.ofNat nn)), (.ref cq)]))
  refine Go.by (fun _ k => XS.sipush X2.here X2.hx rfl (X2.cd d_jdk_33_method_22_17)  k) ?_
  show Go _ _ _ _ (T2.setTop (mkF m 20 #[.val (.int (Int32.ofNat nn))] [(.int (128 : Int32)), (.int (Int32.ofNat nn)), (.ref cq)]))
  refine Go.by (fun _ k => XS.iadd X2.here X2.hx rfl (X2.cd d_jdk_33_method_22_20) rfl k) ?_
  show Go _ _ _ _ (T2.setTop (mkF m 21 #[.val (.int (Int32.ofNat nn))] [(.int ((Int32.ofNat nn) + (128 : Int32))), (.ref cq)]))
  have f3 : Arv Z h0 cq kq (.object "java/lang/Integer") (256 : Int32) vq .null := (show Arv Z Z.heap cq kq (.object "java/lang/Integer") (256 : Int32) vq .null from Aq).ext X2.old.2
  refine Go.by (fun _ k => X2.ldA f3 (own_v3 hn) (v := (.ref (iv nn))) (by rw [own_v4 hn]; exact (Hq nn hn).1) (Or.inr (Or.inr (Or.inr ⟨rfl, rfl⟩))) (g := (mkF m 21 #[.val (.int (Int32.ofNat nn))] [(.int ((Int32.ofNat nn) + (128 : Int32))), (.ref cq)])) rfl rfl d_jdk_33_method_22_21 _ k) ?_
  show Go _ _ _ _ (T2.setTop (mkF m 22 #[.val (.int (Int32.ofNat nn))] [(.ref (iv nn))]))
  exact X2.retR rfl rfl d_jdk_33_method_22_22 (Keep.refl h0 []) ⟨rfl, rfl⟩ (by decide) (by decide)
theorem ef_rm_iv (m : MethodId) (x0 : Addr) : entryFrame m #[(.ref x0)] 1 = mkF m 0 #[.val (.ref x0)] [] := by first | (simp [entryFrame, mkF, argsToLocals, Value.category]; done) | rfl
def Q_rm_iv (Z : State) (a1 : Addr) (vi : Int32) (h0 : Heap) (ov : Option Value) (hz : Heap) : Prop := ov = some (.int vi) ∧ h0 = hz
theorem d_jdk_33_method_27_0 : decode jdk_33_method_27_code 0 = .ok (.aload_n 0, 1) := by decide +kernel
theorem d_jdk_33_method_27_1 : decode jdk_33_method_27_code 1 = .ok (.getfield 205, 3) := by decide +kernel
theorem d_jdk_33_method_27_4 : decode jdk_33_method_27_code 4 = .ok (.ireturn, 1) := by decide +kernel
abbrev RM_rm_iv : Room := { frames := 0, cells := 0, slots := 0, locals := 0 }
set_option maxRecDepth 65536 in
set_option maxHeartbeats 40000000 in
theorem rm_iv (l : Launch) (Z : State) (a0 : Array Value) (hw : ∀ d ∈ tables_1, d.before a0 Z = true) (n0 : Nat) (a1 : Addr) (vi : Int32) (h0 : Heap) (hO : Old Z n0 h0) (pr0 : Fld Z h0 a1 "java/lang/Integer" "value" "I" (.int vi)) :
    Ct l (⟨"java/lang/Integer", "intValue", "()I"⟩ : MethodName) jdk_33_method_27_code 1 (some .int) [] RM_rm_iv Z n0 #[(.ref a1)] h0 [] (Q_rm_iv Z a1 vi h0) := by
  refine Ct.of_walk (plainFor_of_name pn_6) hO all0 ?_
  intro p e s m below meth c T0 X0
  rw [ef_rm_iv m a1]
  show Go _ _ _ _ (T0.setTop (mkF m 0 #[.val (.ref a1)] []))
  refine Go.by (fun _ k => XS.aloadN X0.here X0.hx rfl (X0.cd d_jdk_33_method_27_0) rfl rfl k) ?_
  show Go _ _ _ _ (T0.setTop (mkF m 1 #[.val (.ref a1)] [(.ref a1)]))
  obtain ⟨T1, X1, st1⟩ := X0.getF (host := "") (Or.inl (hw _ (List.mem_of_getElem? (i := 187) rfl))) Via.refl pr0 (g := (mkF m 1 #[.val (.ref a1)] [(.ref a1)])) rfl rfl d_jdk_33_method_27_1
  refine Go.by st1 ?_
  show Go _ _ _ _ (T1.setTop (mkF m 4 #[.val (.ref a1)] [(.int vi)]))
  exact X1.retI d_jdk_33_method_27_4 (Keep.refl h0 []) ⟨rfl, rfl⟩ (by decide) (by decide)
theorem ef_rm_siz (m : MethodId) (x0 : Addr) : entryFrame m #[(.ref x0)] 1 = mkF m 0 #[.val (.ref x0)] [] := by first | (simp [entryFrame, mkF, argsToLocals, Value.category]; done) | rfl
def Q_rm_siz (Z : State) (a1 : Addr) (vi : Int32) (h0 : Heap) (ov : Option Value) (hz : Heap) : Prop := ov = some (.int vi) ∧ h0 = hz
theorem d_jdk_38_method_8_0 : decode jdk_38_method_8_code 0 = .ok (.aload_n 0, 1) := by decide +kernel
theorem d_jdk_38_method_8_1 : decode jdk_38_method_8_code 1 = .ok (.getfield 48, 3) := by decide +kernel
theorem d_jdk_38_method_8_4 : decode jdk_38_method_8_code 4 = .ok (.ireturn, 1) := by decide +kernel
abbrev RM_rm_siz : Room := { frames := 0, cells := 0, slots := 0, locals := 0 }
set_option maxRecDepth 65536 in
set_option maxHeartbeats 40000000 in
theorem rm_siz (l : Launch) (Z : State) (a0 : Array Value) (hw : ∀ d ∈ tables_1, d.before a0 Z = true) (n0 : Nat) (a1 : Addr) (vi : Int32) (h0 : Heap) (hO : Old Z n0 h0) (pr0 : Fld Z h0 a1 "java/util/ArrayList" "size" "I" (.int vi)) :
    Ct l (⟨"java/util/ArrayList", "size", "()I"⟩ : MethodName) jdk_38_method_8_code 1 (some .int) [] RM_rm_siz Z n0 #[(.ref a1)] h0 [] (Q_rm_siz Z a1 vi h0) := by
  refine Ct.of_walk (plainFor_of_name pn_5) hO all0 ?_
  intro p e s m below meth c T0 X0
  rw [ef_rm_siz m a1]
  show Go _ _ _ _ (T0.setTop (mkF m 0 #[.val (.ref a1)] []))
  refine Go.by (fun _ k => XS.aloadN X0.here X0.hx rfl (X0.cd d_jdk_38_method_8_0) rfl rfl k) ?_
  show Go _ _ _ _ (T0.setTop (mkF m 1 #[.val (.ref a1)] [(.ref a1)]))
  obtain ⟨T1, X1, st1⟩ := X0.getF (host := "") (Or.inl (hw _ (List.mem_of_getElem? (i := 97) rfl))) Via.refl pr0 (g := (mkF m 1 #[.val (.ref a1)] [(.ref a1)])) rfl rfl d_jdk_38_method_8_1
  refine Go.by st1 ?_
  show Go _ _ _ _ (T1.setTop (mkF m 4 #[.val (.ref a1)] [(.int vi)]))
  exact X1.retI d_jdk_38_method_8_4 (Keep.refl h0 []) ⟨rfl, rfl⟩ (by decide) (by decide)
theorem ef_rm_ck3 (m : MethodId) (x0 : Int32) (x1 : Int32) : entryFrame m #[(.int x0), (.int x1), .null] 3 = mkF m 0 #[.val (.int x0), .val (.int x1), .val .null] [] := by first | (simp [entryFrame, mkF, argsToLocals, Value.category]; done) | rfl
def Q_rm_ck3 (Z : State) (ii : Int32) (nn : Int32) (h0 : Heap) (ov : Option Value) (hz : Heap) : Prop := ov = some (.int ii) ∧ h0 = hz
theorem pn_7 : plainName "jdk/internal/util/Preconditions" = true := by first | (simp [plainName, overriddenIn]; done) | decide +kernel
theorem d_jdk_41_method_11_0 : decode jdk_41_method_11_code 0 = .ok (.iload_n 0, 1) := by decide +kernel
theorem d_jdk_41_method_11_1 : decode jdk_41_method_11_code 1 = .ok (.ifCond .lt 8, 3) := by decide +kernel
theorem d_jdk_41_method_11_4 : decode jdk_41_method_11_code 4 = .ok (.iload_n 0, 1) := by decide +kernel
theorem d_jdk_41_method_11_5 : decode jdk_41_method_11_code 5 = .ok (.iload_n 1, 1) := by decide +kernel
theorem d_jdk_41_method_11_6 : decode jdk_41_method_11_code 6 = .ok (.if_icmp .lt 10, 3) := by decide +kernel
theorem d_jdk_41_method_11_16 : decode jdk_41_method_11_code 16 = .ok (.iload_n 0, 1) := by decide +kernel
theorem d_jdk_41_method_11_17 : decode jdk_41_method_11_code 17 = .ok (.ireturn, 1) := by decide +kernel
abbrev RM_rm_ck3 : Room := { frames := 0, cells := 0, slots := 0, locals := 0 }
set_option maxRecDepth 65536 in
set_option maxHeartbeats 40000000 in
theorem rm_ck3 (l : Launch) (Z : State) (a0 : Array Value) (hw : ∀ d ∈ tables_1, d.before a0 Z = true) (n0 : Nat) (ii : Int32) (nn : Int32) (h0 : Heap) (hO : Old Z n0 h0) (h1 : ¬ ii < 0) (h2 : ii < nn) :
    Ct l (⟨"jdk/internal/util/Preconditions", "checkIndex", "(IILjava/util/function/BiFunction;)I"⟩ : MethodName) jdk_41_method_11_code 3 (some .int) [] RM_rm_ck3 Z n0 #[(.int ii), (.int nn), .null] h0 [] (Q_rm_ck3 Z ii nn h0) := by
  refine Ct.of_walk (plainFor_of_name pn_7) hO all0 ?_
  intro p e s m below meth c T0 X0
  rw [ef_rm_ck3 m ii nn]
  show Go _ _ _ _ (T0.setTop (mkF m 0 #[.val (.int ii), .val (.int nn), .val .null] []))
  refine Go.by (fun _ k => XS.iloadN X0.here X0.hx rfl (X0.cd d_jdk_41_method_11_0) rfl  k) ?_
  show Go _ _ _ _ (T0.setTop (mkF m 1 #[.val (.int ii), .val (.int nn), .val .null] [(.int ii)]))
  refine Go.by (fun _ k => XS.ifNo X0.here X0.hx rfl (X0.cd d_jdk_41_method_11_1) rfl (XT.i0_lt_f h1) k) ?_
  show Go _ _ _ _ (T0.setTop (mkF m 4 #[.val (.int ii), .val (.int nn), .val .null] []))
  refine Go.by (fun _ k => XS.iloadN X0.here X0.hx rfl (X0.cd d_jdk_41_method_11_4) rfl  k) ?_
  show Go _ _ _ _ (T0.setTop (mkF m 5 #[.val (.int ii), .val (.int nn), .val .null] [(.int ii)]))
  refine Go.by (fun _ k => XS.iloadN X0.here X0.hx rfl (X0.cd d_jdk_41_method_11_5) rfl  k) ?_
  show Go _ _ _ _ (T0.setTop (mkF m 6 #[.val (.int ii), .val (.int nn), .val .null] [(.int nn), (.int ii)]))
  refine Go.by (fun _ k => XS.icmpYes X0.here X0.hx rfl (pc0 := 6) (pc' := 16) rfl (X0.cd d_jdk_41_method_11_6) rfl (XT.ii_lt_t h2) (by decide) (by decide) k) ?_
  show Go _ _ _ _ (T0.setTop (mkF m 16 #[.val (.int ii), .val (.int nn), .val .null] []))
  refine Go.by (fun _ k => XS.iloadN X0.here X0.hx rfl (X0.cd d_jdk_41_method_11_16) rfl  k) ?_
  show Go _ _ _ _ (T0.setTop (mkF m 17 #[.val (.int ii), .val (.int nn), .val .null] [(.int ii)]))
  exact X0.retI d_jdk_41_method_11_17 (Keep.refl h0 []) ⟨rfl, rfl⟩ (by decide) (by decide)
theorem ef_rm_ck2 (m : MethodId) (x0 : Int32) (x1 : Int32) : entryFrame m #[(.int x0), (.int x1)] 2 = mkF m 0 #[.val (.int x0), .val (.int x1)] [] := by first | (simp [entryFrame, mkF, argsToLocals, Value.category]; done) | rfl
def Q_rm_ck2 (Z : State) (ii : Int32) (nn : Int32) (h0 : Heap) (ov : Option Value) (hz : Heap) : Prop := ov = some (.int ii) ∧ h0 = hz
theorem pn_8 : plainName "java/util/Objects" = true := by first | (simp [plainName, overriddenIn]; done) | decide +kernel
theorem d_jdk_31_method_17_0 : decode jdk_31_method_17_code 0 = .ok (.iload_n 0, 1) := by decide +kernel
theorem d_jdk_31_method_17_1 : decode jdk_31_method_17_code 1 = .ok (.iload_n 1, 1) := by decide +kernel
theorem d_jdk_31_method_17_2 : decode jdk_31_method_17_code 2 = .ok (.aconst_null, 1) := by decide +kernel
theorem pd_7 : parseMethodDescriptor "(IILjava/util/function/BiFunction;)I" = some ⟨[.int, .int, (.object "java/util/function/BiFunction")], some .int⟩ := by decide +kernel
theorem d_jdk_31_method_17_3 : decode jdk_31_method_17_code 3 = .ok (.invokestatic 105, 3) := by decide +kernel
theorem d_jdk_31_method_17_6 : decode jdk_31_method_17_code 6 = .ok (.ireturn, 1) := by decide +kernel
abbrev RM_rm_ck2 : Room := { frames := 1, cells := 0, slots := 0, locals := 14 }
set_option maxRecDepth 65536 in
set_option maxHeartbeats 40000000 in
theorem rm_ck2 (l : Launch) (Z : State) (a0 : Array Value) (hw : ∀ d ∈ tables_1, d.before a0 Z = true) (n0 : Nat) (ii : Int32) (nn : Int32) (h0 : Heap) (hO : Old Z n0 h0) (h1 : ¬ ii < 0) (h2 : ii < nn) :
    Ct l (⟨"java/util/Objects", "checkIndex", "(II)I"⟩ : MethodName) jdk_31_method_17_code 2 (some .int) [] RM_rm_ck2 Z n0 #[(.int ii), (.int nn)] h0 [] (Q_rm_ck2 Z ii nn h0) := by
  refine Ct.of_walk (plainFor_of_name pn_8) hO all0 ?_
  intro p e s m below meth c T0 X0
  rw [ef_rm_ck2 m ii nn]
  show Go _ _ _ _ (T0.setTop (mkF m 0 #[.val (.int ii), .val (.int nn)] []))
  refine Go.by (fun _ k => XS.iloadN X0.here X0.hx rfl (X0.cd d_jdk_31_method_17_0) rfl  k) ?_
  show Go _ _ _ _ (T0.setTop (mkF m 1 #[.val (.int ii), .val (.int nn)] [(.int ii)]))
  refine Go.by (fun _ k => XS.iloadN X0.here X0.hx rfl (X0.cd d_jdk_31_method_17_1) rfl  k) ?_
  show Go _ _ _ _ (T0.setTop (mkF m 2 #[.val (.int ii), .val (.int nn)] [(.int nn), (.int ii)]))
  refine Go.by (fun _ k => XS.aconstNull X0.here X0.hx rfl (X0.cd d_jdk_31_method_17_2)  k) ?_
  show Go _ _ _ _ (T0.setTop (mkF m 3 #[.val (.int ii), .val (.int nn)] [.null, (.int nn), (.int ii)]))
  obtain ⟨_, T1, h1, X1, K1, ⟨rfl, rfl⟩, st1⟩ := X0.stN (W := 0) (hw _ (List.mem_of_getElem? (i := 174) rfl)) (hw _ (List.mem_of_getElem? (i := 151) rfl)) (hw _ (List.mem_of_getElem? (i := 149) rfl)) (hw _ (List.mem_of_getElem? (i := 152) rfl)) (by decide) ((rm_ck3 l Z a0 hw n0 ii nn h0 X0.old h1 h2).pay (hw _ (List.mem_of_getElem? (i := 152) rfl)) (hw _ (List.mem_of_getElem? (i := 149) rfl)) (by decide) (by decide)) all0 (g := (mkF m 3 #[.val (.int ii), .val (.int nn)] [.null, (.int nn), (.int ii)])) rfl rfl (argsL := [(.int ii), (.int nn), .null]) (rest := []) (lenOf pd_7 rfl) rfl (by exact Nat.le_of_eq rfl) d_jdk_31_method_17_3 rfl (by decide) (by decide)
  refine Go.tr st1 ?_
  show Go _ _ _ _ (T1.setTop (mkF m 6 #[.val (.int ii), .val (.int nn)] [(.int ii)]))
  exact X1.retI d_jdk_31_method_17_6 (Keep.refl h0 []) ⟨rfl, rfl⟩ (by decide) (by decide)
theorem ef_rm_edx (m : MethodId) (x0 : Addr) (x1 : Int32) : entryFrame m #[(.ref x0), (.int x1)] 2 = mkF m 0 #[.val (.ref x0), .val (.int x1)] [] := by first | (simp [entryFrame, mkF, argsToLocals, Value.category]; done) | rfl
def Q_rm_edx (Z : State) (a1 : Addr) (ea : Addr) (ke : ClassId) (ns : List Nat) (jj : Nat) (iv : Nat → Addr) (h0 : Heap) (ov : Option Value) (hz : Heap) : Prop := ov = some (.ref (iv (ns.getD jj 0))) ∧ h0 = hz
theorem d_jdk_38_method_18_0 : decode jdk_38_method_18_code 0 = .ok (.aload_n 0, 1) := by decide +kernel
theorem d_jdk_38_method_18_1 : decode jdk_38_method_18_code 1 = .ok (.getfield 9, 3) := by decide +kernel
theorem d_jdk_38_method_18_4 : decode jdk_38_method_18_code 4 = .ok (.iload_n 1, 1) := by decide +kernel
theorem d_jdk_38_method_18_5 : decode jdk_38_method_18_code 5 = .ok (.aaload, 1) := by decide +kernel
theorem d_jdk_38_method_18_6 : decode jdk_38_method_18_code 6 = .ok (.areturn, 1) := by decide +kernel
abbrev RM_rm_edx : Room := { frames := 0, cells := 0, slots := 0, locals := 0 }
set_option maxRecDepth 65536 in
set_option maxHeartbeats 40000000 in
theorem rm_edx (l : Launch) (Z : State) (a0 : Array Value) (hw : ∀ d ∈ tables_1, d.before a0 Z = true) (n0 : Nat) (a1 : Addr) (ea : Addr) (ke : ClassId) (ns : List Nat) (jj : Nat) (iv : Nat → Addr) (h0 : Heap) (hO : Old Z n0 h0) (pr0 : Fld Z h0 a1 "java/util/ArrayList" "elementData" "[Ljava/lang/Object;" (.ref ea)) (pr1 : Arv Z h0 ea ke (.object "java/lang/Object") (10 : Int32) (ns.map fun n => Value.ref (iv n)) .null) (hj : jj < ns.length) (hl : ns.length ≤ 6) :
    Ct l (⟨"java/util/ArrayList", "elementData", "(I)Ljava/lang/Object;"⟩ : MethodName) jdk_38_method_18_code 2 (some (.object "java/lang/Object")) [] RM_rm_edx Z n0 #[(.ref a1), (.int (Int32.ofNat jj))] h0 [] (Q_rm_edx Z a1 ea ke ns jj iv h0) := by
  refine Ct.of_walk (plainFor_of_name pn_5) hO all0 ?_
  intro p e s m below meth c T0 X0
  rw [ef_rm_edx m a1 (Int32.ofNat jj)]
  show Go _ _ _ _ (T0.setTop (mkF m 0 #[.val (.ref a1), .val (.int (Int32.ofNat jj))] []))
  refine Go.by (fun _ k => XS.aloadN X0.here X0.hx rfl (X0.cd d_jdk_38_method_18_0) rfl rfl k) ?_
  show Go _ _ _ _ (T0.setTop (mkF m 1 #[.val (.ref a1), .val (.int (Int32.ofNat jj))] [(.ref a1)]))
  obtain ⟨T1, X1, st1⟩ := X0.getF (host := "") (Or.inl (hw _ (List.mem_of_getElem? (i := 77) rfl))) Via.refl pr0 (g := (mkF m 1 #[.val (.ref a1), .val (.int (Int32.ofNat jj))] [(.ref a1)])) rfl rfl d_jdk_38_method_18_1
  refine Go.by st1 ?_
  show Go _ _ _ _ (T1.setTop (mkF m 4 #[.val (.ref a1), .val (.int (Int32.ofNat jj))] [(.ref ea)]))
  refine Go.by (fun _ k => XS.iloadN X1.here X1.hx rfl (X1.cd d_jdk_38_method_18_4) rfl  k) ?_
  show Go _ _ _ _ (T1.setTop (mkF m 5 #[.val (.ref a1), .val (.int (Int32.ofNat jj))] [(.int (Int32.ofNat jj)), (.ref ea)]))
  refine Go.by (fun _ k => X1.ldA pr1 ⟨on_nn (by omega), (on_lt (b := 10) (by omega) (by omega)).mpr (by omega)⟩ (v := (.ref (iv (ns.getD jj 0)))) (by rw [on_clamp (by omega)]; exact own_gm hj) (Or.inr (Or.inr (Or.inr ⟨rfl, rfl⟩))) (g := (mkF m 5 #[.val (.ref a1), .val (.int (Int32.ofNat jj))] [(.int (Int32.ofNat jj)), (.ref ea)])) rfl rfl d_jdk_38_method_18_5 _ k) ?_
  show Go _ _ _ _ (T1.setTop (mkF m 6 #[.val (.ref a1), .val (.int (Int32.ofNat jj))] [(.ref (iv (ns.getD jj 0)))]))
  exact X1.retR rfl rfl d_jdk_38_method_18_6 (Keep.refl h0 []) ⟨rfl, rfl⟩ (by decide) (by decide)
theorem ef_rm_get (m : MethodId) (x0 : Addr) (x1 : Int32) : entryFrame m #[(.ref x0), (.int x1)] 2 = mkF m 0 #[.val (.ref x0), .val (.int x1)] [] := by first | (simp [entryFrame, mkF, argsToLocals, Value.category]; done) | rfl
def Q_rm_get (Z : State) (a1 : Addr) (ea : Addr) (ke : ClassId) (ns : List Nat) (jj : Nat) (iv : Nat → Addr) (h0 : Heap) (ov : Option Value) (hz : Heap) : Prop := ov = some (.ref (iv (ns.getD jj 0))) ∧ h0 = hz
theorem d_jdk_38_method_20_0 : decode jdk_38_method_20_code 0 = .ok (.iload_n 1, 1) := by decide +kernel
theorem d_jdk_38_method_20_1 : decode jdk_38_method_20_code 1 = .ok (.aload_n 0, 1) := by decide +kernel
theorem d_jdk_38_method_20_2 : decode jdk_38_method_20_code 2 = .ok (.getfield 48, 3) := by decide +kernel
theorem d_jdk_38_method_20_5 : decode jdk_38_method_20_code 5 = .ok (.invokestatic 118, 3) := by decide +kernel
theorem d_jdk_38_method_20_8 : decode jdk_38_method_20_code 8 = .ok (.pop, 1) := by decide +kernel
theorem d_jdk_38_method_20_9 : decode jdk_38_method_20_code 9 = .ok (.aload_n 0, 1) := by decide +kernel
theorem d_jdk_38_method_20_10 : decode jdk_38_method_20_code 10 = .ok (.iload_n 1, 1) := by decide +kernel
theorem pd_8 : parseMethodDescriptor "(I)Ljava/lang/Object;" = some ⟨[.int], some (.object "java/lang/Object")⟩ := by decide +kernel
theorem d_jdk_38_method_20_11 : decode jdk_38_method_20_code 11 = .ok (.invokevirtual 123, 3) := by decide +kernel
theorem d_jdk_38_method_20_14 : decode jdk_38_method_20_code 14 = .ok (.areturn, 1) := by decide +kernel
abbrev RM_rm_get : Room := { frames := 2, cells := 0, slots := 0, locals := 27 }
set_option maxRecDepth 65536 in
set_option maxHeartbeats 40000000 in
theorem rm_get (l : Launch) (Z : State) (a0 : Array Value) (hw : ∀ d ∈ tables_1, d.before a0 Z = true) (n0 : Nat) (a1 : Addr) (ea : Addr) (ke : ClassId) (ns : List Nat) (jj : Nat) (iv : Nat → Addr) (h0 : Heap) (hO : Old Z n0 h0) (pr0 : Exa Z h0 a1 "java/util/ArrayList") (pr1 : Fld Z h0 a1 "java/util/ArrayList" "elementData" "[Ljava/lang/Object;" (.ref ea)) (pr2 : Fld Z h0 a1 "java/util/ArrayList" "size" "I" (.int (Int32.ofNat ns.length))) (pr3 : Arv Z h0 ea ke (.object "java/lang/Object") (10 : Int32) (ns.map fun n => Value.ref (iv n)) .null) (hj : jj < ns.length) (hl : ns.length ≤ 6) :
    Ct l (⟨"java/util/ArrayList", "get", "(I)Ljava/lang/Object;"⟩ : MethodName) jdk_38_method_20_code 2 (some (.object "java/lang/Object")) [] RM_rm_get Z n0 #[(.ref a1), (.int (Int32.ofNat jj))] h0 [] (Q_rm_get Z a1 ea ke ns jj iv h0) := by
  refine Ct.of_walk (plainFor_of_name pn_5) hO all0 ?_
  intro p e s m below meth c T0 X0
  rw [ef_rm_get m a1 (Int32.ofNat jj)]
  show Go _ _ _ _ (T0.setTop (mkF m 0 #[.val (.ref a1), .val (.int (Int32.ofNat jj))] []))
  refine Go.by (fun _ k => XS.iloadN X0.here X0.hx rfl (X0.cd d_jdk_38_method_20_0) rfl  k) ?_
  show Go _ _ _ _ (T0.setTop (mkF m 1 #[.val (.ref a1), .val (.int (Int32.ofNat jj))] [(.int (Int32.ofNat jj))]))
  refine Go.by (fun _ k => XS.aloadN X0.here X0.hx rfl (X0.cd d_jdk_38_method_20_1) rfl rfl k) ?_
  show Go _ _ _ _ (T0.setTop (mkF m 2 #[.val (.ref a1), .val (.int (Int32.ofNat jj))] [(.ref a1), (.int (Int32.ofNat jj))]))
  obtain ⟨T1, X1, st1⟩ := X0.getF (host := "") (Or.inl (hw _ (List.mem_of_getElem? (i := 97) rfl))) Via.refl pr2 (g := (mkF m 2 #[.val (.ref a1), .val (.int (Int32.ofNat jj))] [(.ref a1), (.int (Int32.ofNat jj))])) rfl rfl d_jdk_38_method_20_2
  refine Go.by st1 ?_
  show Go _ _ _ _ (T1.setTop (mkF m 5 #[.val (.ref a1), .val (.int (Int32.ofNat jj))] [(.int (Int32.ofNat ns.length)), (.int (Int32.ofNat jj))]))
  obtain ⟨_, T2, h2, X2, K2, ⟨rfl, rfl⟩, st2⟩ := X1.stN (W := 0) (hw _ (List.mem_of_getElem? (i := 170) rfl)) (hw _ (List.mem_of_getElem? (i := 171) rfl)) (hw _ (List.mem_of_getElem? (i := 172) rfl)) (hw _ (List.mem_of_getElem? (i := 173) rfl)) (by decide) ((rm_ck2 l Z a0 hw n0 (Int32.ofNat jj) (Int32.ofNat ns.length) h0 X1.old (on_nn (by omega)) ((on_lt (by omega) (by omega)).mpr hj)).pay (hw _ (List.mem_of_getElem? (i := 173) rfl)) (hw _ (List.mem_of_getElem? (i := 172) rfl)) (by decide) (by decide)) all0 (g := (mkF m 5 #[.val (.ref a1), .val (.int (Int32.ofNat jj))] [(.int (Int32.ofNat ns.length)), (.int (Int32.ofNat jj))])) rfl rfl (argsL := [(.int (Int32.ofNat jj)), (.int (Int32.ofNat ns.length))]) (rest := []) (lenOf pd_3 rfl) rfl (by exact Nat.le_of_eq rfl) d_jdk_38_method_20_5 rfl (by decide) (by decide)
  refine Go.tr st2 ?_
  show Go _ _ _ _ (T2.setTop (mkF m 8 #[.val (.ref a1), .val (.int (Int32.ofNat jj))] [(.int (Int32.ofNat jj))]))
  refine Go.by (fun _ k => XS.pop X2.here X2.hx rfl (X2.cd d_jdk_38_method_20_8) rfl rfl k) ?_
  show Go _ _ _ _ (T2.setTop (mkF m 9 #[.val (.ref a1), .val (.int (Int32.ofNat jj))] []))
  refine Go.by (fun _ k => XS.aloadN X2.here X2.hx rfl (X2.cd d_jdk_38_method_20_9) rfl rfl k) ?_
  show Go _ _ _ _ (T2.setTop (mkF m 10 #[.val (.ref a1), .val (.int (Int32.ofNat jj))] [(.ref a1)]))
  refine Go.by (fun _ k => XS.iloadN X2.here X2.hx rfl (X2.cd d_jdk_38_method_20_10) rfl  k) ?_
  show Go _ _ _ _ (T2.setTop (mkF m 11 #[.val (.ref a1), .val (.int (Int32.ofNat jj))] [(.int (Int32.ofNat jj)), (.ref a1)]))
  obtain ⟨_, T3, h3, X3, K3, ⟨rfl, rfl⟩, st3⟩ := X2.viN (W := 0) (hw _ (List.mem_of_getElem? (i := 175) rfl)) (hw _ (List.mem_of_getElem? (i := 176) rfl)) (hw _ (List.mem_of_getElem? (i := 178) rfl)) (hw _ (List.mem_of_getElem? (i := 177) rfl)) (by decide) ((rm_edx l Z a0 hw n0 a1 ea ke ns jj iv h0 X2.old pr1 pr3 hj hl).pay (hw _ (List.mem_of_getElem? (i := 179) rfl)) (hw _ (List.mem_of_getElem? (i := 57) rfl)) (by decide) (by decide)) all0 pr0 (g := (mkF m 11 #[.val (.ref a1), .val (.int (Int32.ofNat jj))] [(.int (Int32.ofNat jj)), (.ref a1)])) rfl rfl (argsL := [(.int (Int32.ofNat jj))]) (rest := []) (lenOf pd_8 rfl) rfl (by exact Nat.le_of_eq rfl) d_jdk_38_method_20_11 rfl (by decide) (by decide)
  refine Go.tr st3 ?_
  show Go _ _ _ _ (T3.setTop (mkF m 14 #[.val (.ref a1), .val (.int (Int32.ofNat jj))] [(.ref (iv (ns.getD jj 0)))]))
  exact X3.retR rfl rfl d_jdk_38_method_20_14 (Keep.refl h0 []) ⟨rfl, rfl⟩ (by decide) (by decide)
theorem ef_rm_ls (m : MethodId) (x0 : Addr) : entryFrame m #[(.ref x0)] 4 = mkF m 0 #[.val (.ref x0), .unset, .unset, .unset] [] := by first | (simp [entryFrame, mkF, argsToLocals, Value.category]; done) | rfl
def Q_rm_ls (Z : State) (x : Addr) (t : Addr) (cs : List Int32) (zc : Int32) (vf : Value) (dd : Addr) (kd : ClassId) (cq : Addr) (kq : ClassId) (vq : List Value) (iv : Nat → Addr) (h0 : Heap) (ov : Option Value) (hz : Heap) : Prop := ∃ (ls : Addr), ∃ (kl : ClassId), ov = some (.ref ls) ∧ h0.size ≤ ls ∧ ls < hz.size ∧ Arv Z hz ls kl .int (Int32.ofNat (own_pre cs cs.length).length) ((own_pre cs cs.length).map fun n => Value.int (Int32.ofNat n)) (.int (0 : Int32))
theorem pn_9 : plainName "com/example/cinderpath/cinderpath/source/SourceFile" = true := by first | (simp [plainName, overriddenIn]; done) | decide +kernel
theorem d_prog_92_method_7_0 : decode prog_92_method_7_code 0 = .ok (.new 66, 3) := by decide +kernel
theorem d_prog_92_method_7_3 : decode prog_92_method_7_code 3 = .ok (.dup, 1) := by decide +kernel
theorem d_prog_92_method_7_4 : decode prog_92_method_7_code 4 = .ok (.invokespecial 68, 3) := by decide +kernel
theorem d_prog_92_method_7_7 : decode prog_92_method_7_code 7 = .ok (.astore_n 1, 1) := by decide +kernel
theorem d_prog_92_method_7_8 : decode prog_92_method_7_code 8 = .ok (.aload_n 1, 1) := by decide +kernel
theorem d_prog_92_method_7_9 : decode prog_92_method_7_code 9 = .ok (.iconst 0, 1) := by decide +kernel
theorem pd_9 : parseMethodDescriptor "(I)Ljava/lang/Integer;" = some ⟨[.int], some (.object "java/lang/Integer")⟩ := by decide +kernel
theorem d_prog_92_method_7_10 : decode prog_92_method_7_code 10 = .ok (.invokestatic 69, 3) := by decide +kernel
theorem pd_10 : parseMethodDescriptor "(Ljava/lang/Object;)Z" = some ⟨[(.object "java/lang/Object")], some .boolean⟩ := by decide +kernel
theorem d_prog_92_method_7_13 : decode prog_92_method_7_code 13 = .ok (.invokeinterface 75 2, 5) := by decide +kernel
theorem d_prog_92_method_7_18 : decode prog_92_method_7_code 18 = .ok (.pop, 1) := by decide +kernel
theorem d_prog_92_method_7_19 : decode prog_92_method_7_code 19 = .ok (.iconst 0, 1) := by decide +kernel
theorem d_prog_92_method_7_20 : decode prog_92_method_7_code 20 = .ok (.istore_n 2, 1) := by decide +kernel
theorem own_padn (u : Value) (i : Nat) : [u].getD i .null = [u, .null, .null, .null, .null, .null, .null, .null, .null, .null].getD i .null := by
  match i with
  | 0 | 1 | 2 | 3 | 4 | 5 | 6 | 7 | 8 | 9 => rfl
  | k + 10 => simp
theorem d_prog_92_method_7_21 : decode prog_92_method_7_code 21 = .ok (.iload_n 2, 1) := by decide +kernel
theorem d_prog_92_method_7_22 : decode prog_92_method_7_code 22 = .ok (.aload_n 0, 1) := by decide +kernel
theorem pd_11 : parseMethodDescriptor "()I" = some ⟨[], some .int⟩ := by decide +kernel
theorem d_prog_92_method_7_23 : decode prog_92_method_7_code 23 = .ok (.invokevirtual 58, 3) := by decide +kernel
theorem d_prog_92_method_7_26 : decode prog_92_method_7_code 26 = .ok (.if_icmp .ge 32, 3) := by decide +kernel
theorem d_prog_92_method_7_58 : decode prog_92_method_7_code 58 = .ok (.aload_n 1, 1) := by decide +kernel
theorem d_prog_92_method_7_59 : decode prog_92_method_7_code 59 = .ok (.invokeinterface 81 1, 5) := by decide +kernel
theorem d_prog_92_method_7_64 : decode prog_92_method_7_code 64 = .ok (.newarray .int, 2) := by decide +kernel
theorem d_prog_92_method_7_66 : decode prog_92_method_7_code 66 = .ok (.astore_n 2, 1) := by decide +kernel
theorem d_prog_92_method_7_67 : decode prog_92_method_7_code 67 = .ok (.iconst 0, 1) := by decide +kernel
theorem d_prog_92_method_7_68 : decode prog_92_method_7_code 68 = .ok (.istore_n 3, 1) := by decide +kernel
theorem d_prog_92_method_7_69 : decode prog_92_method_7_code 69 = .ok (.iload_n 3, 1) := by decide +kernel
theorem d_prog_92_method_7_70 : decode prog_92_method_7_code 70 = .ok (.aload_n 2, 1) := by decide +kernel
theorem d_prog_92_method_7_71 : decode prog_92_method_7_code 71 = .ok (.arraylength, 1) := by decide +kernel
theorem d_prog_92_method_7_72 : decode prog_92_method_7_code 72 = .ok (.if_icmp .ge 25, 3) := by decide +kernel
theorem d_prog_92_method_7_97 : decode prog_92_method_7_code 97 = .ok (.aload_n 2, 1) := by decide +kernel
theorem d_prog_92_method_7_98 : decode prog_92_method_7_code 98 = .ok (.areturn, 1) := by decide +kernel
theorem d_prog_92_method_7_75 : decode prog_92_method_7_code 75 = .ok (.aload_n 2, 1) := by decide +kernel
theorem d_prog_92_method_7_76 : decode prog_92_method_7_code 76 = .ok (.iload_n 3, 1) := by decide +kernel
theorem d_prog_92_method_7_77 : decode prog_92_method_7_code 77 = .ok (.aload_n 1, 1) := by decide +kernel
theorem d_prog_92_method_7_78 : decode prog_92_method_7_code 78 = .ok (.iload_n 3, 1) := by decide +kernel
theorem d_prog_92_method_7_79 : decode prog_92_method_7_code 79 = .ok (.invokeinterface 84 2, 5) := by decide +kernel
theorem d_prog_92_method_7_84 : decode prog_92_method_7_code 84 = .ok (.checkcast 70, 3) := by decide +kernel
theorem d_prog_92_method_7_87 : decode prog_92_method_7_code 87 = .ok (.invokevirtual 88, 3) := by decide +kernel
theorem d_prog_92_method_7_90 : decode prog_92_method_7_code 90 = .ok (.iastore, 1) := by decide +kernel
theorem d_prog_92_method_7_91 : decode prog_92_method_7_code 91 = .ok (.iinc 3 1, 3) := by decide +kernel
theorem d_prog_92_method_7_94 : decode prog_92_method_7_code 94 = .ok (.goto (-25), 3) := by decide +kernel
theorem d_prog_92_method_7_29 : decode prog_92_method_7_code 29 = .ok (.aload_n 0, 1) := by decide +kernel
theorem d_prog_92_method_7_30 : decode prog_92_method_7_code 30 = .ok (.iload_n 2, 1) := by decide +kernel
theorem pd_12 : parseMethodDescriptor "(I)C" = some ⟨[.int], some .char⟩ := by decide +kernel
theorem d_prog_92_method_7_31 : decode prog_92_method_7_code 31 = .ok (.invokevirtual 54, 3) := by decide +kernel
theorem d_prog_92_method_7_34 : decode prog_92_method_7_code 34 = .ok (.bipush 10, 2) := by decide +kernel
theorem d_prog_92_method_7_36 : decode prog_92_method_7_code 36 = .ok (.if_icmp .ne 16, 3) := by decide +kernel
theorem d_prog_92_method_7_39 : decode prog_92_method_7_code 39 = .ok (.aload_n 1, 1) := by decide +kernel
theorem d_prog_92_method_7_40 : decode prog_92_method_7_code 40 = .ok (.iload_n 2, 1) := by decide +kernel
theorem d_prog_92_method_7_41 : decode prog_92_method_7_code 41 = .ok (.iconst 1, 1) := by decide +kernel
theorem d_prog_92_method_7_42 : decode prog_92_method_7_code 42 = .ok (.iadd, 1) := by decide +kernel
theorem d_prog_92_method_7_43 : decode prog_92_method_7_code 43 = .ok (.invokestatic 69, 3) := by decide +kernel
theorem d_prog_92_method_7_46 : decode prog_92_method_7_code 46 = .ok (.invokeinterface 75 2, 5) := by decide +kernel
theorem d_prog_92_method_7_51 : decode prog_92_method_7_code 51 = .ok (.pop, 1) := by decide +kernel
theorem d_prog_92_method_7_52 : decode prog_92_method_7_code 52 = .ok (.iinc 2 1, 3) := by decide +kernel
theorem d_prog_92_method_7_55 : decode prog_92_method_7_code 55 = .ok (.goto (-34), 3) := by decide +kernel
abbrev RM_rm_ls : Room := { frames := 5, cells := 3, slots := 19, locals := 69 }
set_option maxRecDepth 65536 in
set_option maxHeartbeats 40000000 in
theorem rm_ls (l : Launch) (Z : State) (a0 : Array Value) (hw : ∀ d ∈ tables_1, d.before a0 Z = true) (n0 : Nat) (x : Addr) (t : Addr) (cs : List Int32) (zc : Int32) (vf : Value) (dd : Addr) (kd : ClassId) (cq : Addr) (kq : ClassId) (vq : List Value) (iv : Nat → Addr) (h0 : Heap) (hO : Old Z n0 h0) (pr0 : Str Z h0 x t cs) (Sc : Sta Z Z.heap "java/lang/String" "COMPACT_STRINGS" "Z" (.int zc)) (nc : ¬ (zc = (0 : Int32))) (Sf : Sta Z Z.heap "jdk/internal/util/Preconditions" "SIOOBE_FORMATTER" "Ljava/util/function/BiFunction;" vf) (rf : vf.isRef = true) (Sd : Sta Z Z.heap "java/util/ArrayList" "DEFAULTCAPACITY_EMPTY_ELEMENTDATA" "[Ljava/lang/Object;" (.ref dd)) (Ad : Arv Z Z.heap dd kd (.object "java/lang/Object") (0 : Int32) [] .null) (Sh : Sta Z Z.heap "java/lang/Integer$IntegerCache" "high" "I" (.int (127 : Int32))) (Sq : Sta Z Z.heap "java/lang/Integer$IntegerCache" "cache" "[Ljava/lang/Integer;" (.ref cq)) (Aq : Arv Z Z.heap cq kq (.object "java/lang/Integer") (256 : Int32) vq .null) (Hq : ∀ m, m ≤ 5 → vq.getD (m + 128) .null = .ref (iv m) ∧ Exa Z Z.heap (iv m) "java/lang/Integer" ∧ Fld Z Z.heap (iv m) "java/lang/Integer" "value" "I" (.int (Int32.ofNat m))) (hp : ∀ c ∈ cs, ¬ (255 : Int32) < c) (hc5 : cs.length ≤ 5) :
    Ct l (⟨"com/example/cinderpath/cinderpath/source/SourceFile", "lineStarts", "(Ljava/lang/String;)[I"⟩ : MethodName) prog_92_method_7_code 4 (some (.array .int)) [] RM_rm_ls Z n0 #[(.ref x)] h0 [] (Q_rm_ls Z x t cs zc vf dd kd cq kq vq iv h0) := by
  refine Ct.of_walk (plainFor_of_name pn_9) hO all0 ?_
  intro p e s m below meth c T0 X0
  rw [ef_rm_ls m x]
  show Go _ _ _ _ (T0.setTop (mkF m 0 #[.val (.ref x), .unset, .unset, .unset] []))
  have lt_x_1 := pr0.lt
  have lt_t_1 := pr0.ltT
  obtain ⟨T1, h1, b1, g_b1, X1, E1, A1, D1, st1⟩ := X0.new (hw _ (List.mem_of_getElem? (i := 55) rfl)) (hw _ (List.mem_of_getElem? (i := 56) rfl)) (hw _ (List.mem_of_getElem? (i := 57) rfl)) (g := (mkF m 0 #[.val (.ref x), .unset, .unset, .unset] [])) rfl d_prog_92_method_7_0 (by decide) (by decide)
  refine Go.by st1 ?_
  have ne_x_b1 : x ≠ b1 := ne_new lt_x_1 g_b1
  have ne_t_b1 : t ≠ b1 := ne_new lt_t_1 g_b1
  have sz_b1 : h0.size ≤ b1 := Nat.le_trans X0.sz (Nat.le_of_eq g_b1.symm)
  have K0_h1 : Keep h0 h1 [] := (Keep.refl h0 []).ext E1
  have F1_modCount : Fld Z h1 b1 "java/util/AbstractList" "modCount" "I" (.int (0 : Int32)) := D1 (Or.inl (hw _ (List.mem_of_getElem? (i := 75) rfl))) (ty := .int) (by decide)
  have F1_elementData : Fld Z h1 b1 "java/util/ArrayList" "elementData" "[Ljava/lang/Object;" .null := D1 (Or.inl (hw _ (List.mem_of_getElem? (i := 78) rfl))) (ty := (.array (.object "java/lang/Object"))) (by decide)
  have F1_size : Fld Z h1 b1 "java/util/ArrayList" "size" "I" (.int (0 : Int32)) := D1 (Or.inl (hw _ (List.mem_of_getElem? (i := 98) rfl))) (ty := .int) (by decide)
  show Go _ _ _ _ (T1.setTop (mkF m 3 #[.val (.ref x), .unset, .unset, .unset] [(.ref b1)]))
  refine Go.by (fun _ k => XS.dup X1.here X1.hx rfl (X1.cd d_prog_92_method_7_3) rfl rfl k) ?_
  show Go _ _ _ _ (T1.setTop (mkF m 4 #[.val (.ref x), .unset, .unset, .unset] [(.ref b1), (.ref b1)]))
  obtain ⟨_, T2, h2, X2, K2, ⟨rfl, P2_0, P2_1, P2_2⟩, st2⟩ := X1.spN (W := 1) rfl (hw _ (List.mem_of_getElem? (i := 58) rfl)) (hw _ (List.mem_of_getElem? (i := 59) rfl)) (hw _ (List.mem_of_getElem? (i := 60) rfl)) (by decide) ((rm_ali l Z a0 hw n0 b1 (.int (0 : Int32)) .null dd kd h1 X1.old A1 F1_modCount F1_elementData F1_size Sd Ad (X1.ge (.head _)) (X1.lt (.head _))).pay (hw _ (List.mem_of_getElem? (i := 60) rfl)) (hw _ (List.mem_of_getElem? (i := 57) rfl)) (by decide) (by decide)) (allS (.head _) all0) (g := (mkF m 4 #[.val (.ref x), .unset, .unset, .unset] [(.ref b1), (.ref b1)])) rfl rfl (a := b1) (argsL := []) (rest := [(.ref b1)]) (lenOf pd_2 rfl) rfl (by exact Nat.le_of_eq rfl) d_prog_92_method_7_4 rfl (by decide) (by decide)
  refine Go.tr st2 ?_
  have K0_h2 : Keep h0 h2 [] := K0_h1.trans K2 (allS (Or.inr sz_b1) all0)
  show Go _ _ _ _ (T2.setTop (mkF m 7 #[.val (.ref x), .unset, .unset, .unset] [(.ref b1)]))
  refine Go.by (fun _ k => XS.astoreN X2.here X2.hx rfl (X2.cd d_prog_92_method_7_7) rfl rfl (l' := #[.val (.ref x), .val (.ref b1), .unset, .unset]) rfl k) ?_
  show Go _ _ _ _ (T2.setTop (mkF m 8 #[.val (.ref x), .val (.ref b1), .unset, .unset] []))
  refine Go.by (fun _ k => XS.aloadN X2.here X2.hx rfl (X2.cd d_prog_92_method_7_8) rfl rfl k) ?_
  show Go _ _ _ _ (T2.setTop (mkF m 9 #[.val (.ref x), .val (.ref b1), .unset, .unset] [(.ref b1)]))
  refine Go.by (fun _ k => XS.iconst X2.here X2.hx rfl (X2.cd d_prog_92_method_7_9)  k) ?_
  show Go _ _ _ _ (T2.setTop (mkF m 10 #[.val (.ref x), .val (.ref b1), .unset, .unset] [(.int (0 : Int32)), (.ref b1)]))
  obtain ⟨_, T3, h3, X3, K3, ⟨rfl, rfl⟩, st3⟩ := X2.stN (W := 1) (hw _ (List.mem_of_getElem? (i := 79) rfl)) (hw _ (List.mem_of_getElem? (i := 80) rfl)) (hw _ (List.mem_of_getElem? (i := 81) rfl)) (hw _ (List.mem_of_getElem? (i := 82) rfl)) (by decide) ((rm_vo l Z a0 hw n0 0 cq kq vq iv h2 X2.old Sh Sq Aq Hq (by omega)).pay (hw _ (List.mem_of_getElem? (i := 82) rfl)) (hw _ (List.mem_of_getElem? (i := 81) rfl)) (by decide) (by decide)) all0 (g := (mkF m 10 #[.val (.ref x), .val (.ref b1), .unset, .unset] [(.int (0 : Int32)), (.ref b1)])) rfl rfl (argsL := [(.int (0 : Int32))]) (rest := [(.ref b1)]) (lenOf pd_9 rfl) rfl (by exact Nat.le_of_eq rfl) d_prog_92_method_7_10 rfl (by decide) (by decide)
  refine Go.tr st3 ?_
  show Go _ _ _ _ (T3.setTop (mkF m 13 #[.val (.ref x), .val (.ref b1), .unset, .unset] [(.ref (iv 0)), (.ref b1)]))
  have f4 : Exa Z h2 (iv 0) "java/lang/Integer" := (show Exa Z Z.heap (iv 0) "java/lang/Integer" from (Hq _ (by omega)).2.1).ext X3.old.2
  have f5 : Ins Z h2 (iv 0) "java/lang/Object" true := (Ins.of_exa f4 (hw _ (List.mem_of_getElem? (i := 120) rfl)))
  have f6 : Exa Z h2 b1 "java/util/ArrayList" := (A1).keep K2
  have f8 : Str Z h2 x t cs := (pr0.ext E1).keep K2 (ninS ne_x_b1 nin0) (ninS ne_t_b1 nin0)
  have lt_x_7 := f8.lt
  have lt_t_7 := f8.ltT
  have lt_b1_7 := (X3.lt (.head _))
  obtain ⟨_, T7, h7, X7, K7, ⟨ea_7, ke_7, rfl, fr_ea_7, fl_ea_7, P7_0, P7_1, P7_2, P7_3, p7_0⟩, st7⟩ := X3.ifN (y' := (⟨"java/util/List", "add", "(Ljava/lang/Object;)Z"⟩ : MethodName)) (z' := (⟨"java/util/ArrayList", "add", "(Ljava/lang/Object;)Z"⟩ : MethodName)) (W := 0) (hw _ (List.mem_of_getElem? (i := 86) rfl)) (hw _ (List.mem_of_getElem? (i := 87) rfl)) (hw _ (List.mem_of_getElem? (i := 88) rfl)) rfl (hw _ (List.mem_of_getElem? (i := 89) rfl)) (hw _ (List.mem_of_getElem? (i := 90) rfl)) (hw _ (List.mem_of_getElem? (i := 91) rfl)) (hw _ (List.mem_of_getElem? (i := 92) rfl)) (hw _ (List.mem_of_getElem? (i := 93) rfl)) (by decide) ((rm_ad1 l Z a0 hw n0 b1 (iv 0) (0 : Int32) dd kd h2 X3.old f6 P2_0 P2_1 P2_2 f5 Sd Ad (X3.ge (.head _)) (X3.lt (.head _))).pay (hw _ (List.mem_of_getElem? (i := 94) rfl)) (hw _ (List.mem_of_getElem? (i := 57) rfl)) (by decide) (by decide)) (allS (.head _) all0) f6 (g := (mkF m 13 #[.val (.ref x), .val (.ref b1), .unset, .unset] [(.ref (iv 0)), (.ref b1)])) rfl rfl (argsL := [(.ref (iv 0))]) (rest := []) (lenOf pd_10 rfl) rfl (by exact Nat.le_of_eq rfl) d_prog_92_method_7_13 rfl (by decide) (by decide)
  refine Go.tr st7 ?_
  have K0_h7 : Keep h0 h7 [] := K0_h2.trans K7 (allS (Or.inr sz_b1) all0)
  have ne_x_ea_7 : x ≠ ea_7 := ne_ge lt_x_7 fr_ea_7
  have ne_t_ea_7 : t ≠ ea_7 := ne_ge lt_t_7 fr_ea_7
  have ne_b1_ea_7 : b1 ≠ ea_7 := ne_ge lt_b1_7 fr_ea_7
  have sz_ea_7 : h0.size ≤ ea_7 := Nat.le_trans X3.sz fr_ea_7
  show Go _ _ _ _ (T7.setTop (mkF m 18 #[.val (.ref x), .val (.ref b1), .unset, .unset] [(.int (1 : Int32))]))
  have X9 := X7.addA P7_3 (by decide) (Nat.le_trans X0.nle sz_ea_7)
  refine Go.by (fun _ k => XS.pop X9.here X9.hx rfl (X9.cd d_prog_92_method_7_18) rfl rfl k) ?_
  show Go _ _ _ _ (T7.setTop (mkF m 19 #[.val (.ref x), .val (.ref b1), .unset, .unset] []))
  refine Go.by (fun _ k => XS.iconst X9.here X9.hx rfl (X9.cd d_prog_92_method_7_19)  k) ?_
  show Go _ _ _ _ (T7.setTop (mkF m 20 #[.val (.ref x), .val (.ref b1), .unset, .unset] [(.int (0 : Int32))]))
  refine Go.by (fun _ k => XS.istoreN X9.here X9.hx rfl (X9.cd d_prog_92_method_7_20) rfl (l' := #[.val (.ref x), .val (.ref b1), .val (.int (0 : Int32)), .unset]) rfl k) ?_
  show Go _ _ _ _ (T7.setTop (mkF m 21 #[.val (.ref x), .val (.ref b1), .val (.int (0 : Int32)), .unset] []))
  have f10 : Arv Z h7 ea_7 ke_7 (.object "java/lang/Object") (10 : Int32) ([0].map fun n => Value.ref (iv n)) .null := (P7_3).pad (own_padn _)
  have f11 : Fld Z h7 b1 "java/util/ArrayList" "size" "I" (.int (Int32.ofNat [0].length)) := P7_2
  have loop : ∀ (mm : Nat) (kk : Nat) (ns : List Nat) (w0 : Int32) (TL : State) (hL : Heap), (Wk false p l e RM_rm_ls s m #[(.ref x)] below meth c Z [] (⟨"com/example/cinderpath/cinderpath/source/SourceFile", "lineStarts", "(Ljava/lang/String;)[I"⟩ : MethodName) prog_92_method_7_code 4 (some (.array .int)) n0 h0 TL hL [ea_7, b1] 2 13) → (Keep h0 hL []) → (Exa Z hL b1 "java/util/ArrayList") → (Fld Z hL b1 "java/util/AbstractList" "modCount" "I" (.int w0)) → (Fld Z hL b1 "java/util/ArrayList" "elementData" "[Ljava/lang/Object;" (.ref ea_7)) → (Fld Z hL b1 "java/util/ArrayList" "size" "I" (.int (Int32.ofNat ns.length))) → (Arv Z hL ea_7 ke_7 (.object "java/lang/Object") (10 : Int32) (ns.map fun n => Value.ref (iv n)) .null) → (Str Z hL x t cs) → (kk + mm = cs.length) → (ns = own_pre cs kk) → Go p e below (Fi false RM_rm_ls s Z [] n0 h0 [] (Q_rm_ls Z x t cs zc vf dd kd cq kq vq iv h0)) (TL.setTop (mkF m 21 #[.val (.ref x), .val (.ref b1), .val (.int (Int32.ofNat kk)), .unset] [])) := by
    intro mm
    induction mm with
    | zero =>
      intro kk ns w0 TL hL XL KL lf0 lf1 lf2 lf3 lf4 lf5 hk hns
      show Go _ _ _ _ (TL.setTop (mkF m 21 #[.val (.ref x), .val (.ref b1), .val (.int (Int32.ofNat kk)), .unset] []))
      refine Go.by (fun _ k => XS.iloadN XL.here XL.hx rfl (XL.cd d_prog_92_method_7_21) rfl  k) ?_
      show Go _ _ _ _ (TL.setTop (mkF m 22 #[.val (.ref x), .val (.ref b1), .val (.int (Int32.ofNat kk)), .unset] [(.int (Int32.ofNat kk))]))
      refine Go.by (fun _ k => XS.aloadN XL.here XL.hx rfl (XL.cd d_prog_92_method_7_22) rfl rfl k) ?_
      show Go _ _ _ _ (TL.setTop (mkF m 23 #[.val (.ref x), .val (.ref b1), .val (.int (Int32.ofNat kk)), .unset] [(.ref x), (.int (Int32.ofNat kk))]))
      obtain ⟨_, T12, h12, X12, K12, ⟨rfl, rfl⟩, st12⟩ := XL.viN (W := 1) (hw _ (List.mem_of_getElem? (i := 121) rfl)) (hw _ (List.mem_of_getElem? (i := 122) rfl)) (hw _ (List.mem_of_getElem? (i := 124) rfl)) (hw _ (List.mem_of_getElem? (i := 123) rfl)) (by decide) (payLen (fun d hd => hw d ((by decide +kernel : ∀ d ∈ StrChars.Road.wordsLen, d ∈ tables_1) d hd)) (hw _ (List.mem_of_getElem? (i := 9) rfl)) XL.old lf5 Sc nc (by decide) (by decide)) all0 lf5.exa (g := (mkF m 23 #[.val (.ref x), .val (.ref b1), .val (.int (Int32.ofNat kk)), .unset] [(.ref x), (.int (Int32.ofNat kk))])) rfl rfl (argsL := []) (rest := [(.int (Int32.ofNat kk))]) (lenOf pd_11 rfl) rfl (by exact Nat.le_of_eq rfl) d_prog_92_method_7_23 rfl (by decide) (by decide)
      refine Go.tr st12 ?_
      show Go _ _ _ _ (T12.setTop (mkF m 26 #[.val (.ref x), .val (.ref b1), .val (.int (Int32.ofNat kk)), .unset] [(.int (Int32.ofNat (cs).length)), (.int (Int32.ofNat kk))]))
      refine Go.by (fun _ k => XS.icmpYes X12.here X12.hx rfl (pc0 := 26) (pc' := 58) rfl (X12.cd d_prog_92_method_7_26) rfl (XT.ii_ge_t (fun q => by have := (on_lt (by omega) (by omega)).mp q; omega)) (by decide) (by decide) k) ?_
      show Go _ _ _ _ (T12.setTop (mkF m 58 #[.val (.ref x), .val (.ref b1), .val (.int (Int32.ofNat kk)), .unset] []))
      have hns2 : ns = (own_pre cs cs.length) := by rw [hns]; congr 1
      have hnl : ns.length ≤ 6 ∧ 1 ≤ ns.length := by rw [hns2]; have := own_pre_len cs cs.length; omega
      have hn5 : ∀ j, ns.getD j 0 ≤ 5 := fun j => Nat.le_trans (own_g5 (hns2 ▸ own_pre_le cs cs.length) j) hc5
      refine Go.by (fun _ k => XS.aloadN X12.here X12.hx rfl (X12.cd d_prog_92_method_7_58) rfl rfl k) ?_
      show Go _ _ _ _ (T12.setTop (mkF m 59 #[.val (.ref x), .val (.ref b1), .val (.int (Int32.ofNat kk)), .unset] [(.ref b1)]))
      obtain ⟨_, T13, h13, X13, K13, ⟨rfl, rfl⟩, st13⟩ := X12.ifN (y' := (⟨"java/util/List", "size", "()I"⟩ : MethodName)) (z' := (⟨"java/util/ArrayList", "size", "()I"⟩ : MethodName)) (W := 0) (hw _ (List.mem_of_getElem? (i := 153) rfl)) (hw _ (List.mem_of_getElem? (i := 154) rfl)) (hw _ (List.mem_of_getElem? (i := 155) rfl)) rfl (hw _ (List.mem_of_getElem? (i := 156) rfl)) (hw _ (List.mem_of_getElem? (i := 157) rfl)) (hw _ (List.mem_of_getElem? (i := 158) rfl)) (hw _ (List.mem_of_getElem? (i := 159) rfl)) (hw _ (List.mem_of_getElem? (i := 93) rfl)) (by decide) ((rm_siz l Z a0 hw n0 b1 (Int32.ofNat ns.length) hL X12.old lf3).pay (hw _ (List.mem_of_getElem? (i := 160) rfl)) (hw _ (List.mem_of_getElem? (i := 57) rfl)) (by decide) (by decide)) all0 lf0 (g := (mkF m 59 #[.val (.ref x), .val (.ref b1), .val (.int (Int32.ofNat kk)), .unset] [(.ref b1)])) rfl rfl (argsL := []) (rest := []) (lenOf pd_11 rfl) rfl (by exact Nat.le_of_eq rfl) d_prog_92_method_7_59 rfl (by decide) (by decide)
      refine Go.tr st13 ?_
      show Go _ _ _ _ (T13.setTop (mkF m 64 #[.val (.ref x), .val (.ref b1), .val (.int (Int32.ofNat kk)), .unset] [(.int (Int32.ofNat ns.length))]))
      have lt_x_14 := lf5.lt
      have lt_t_14 := lf5.ltT
      have lt_b1_14 := (X13.lt (.tail _ (.head _)))
      have lt_ea_7_14 := (X13.lt (.head _))
      obtain ⟨T14, h14, b14, k14, g_b14, X14, E14, A14, st14⟩ := X13.newP (hw _ (List.mem_of_getElem? (i := 161) rfl)) (g := (mkF m 64 #[.val (.ref x), .val (.ref b1), .val (.int (Int32.ofNat kk)), .unset] [(.int (Int32.ofNat ns.length))])) rfl d_prog_92_method_7_64 rfl (on_nn (by omega)) (cap := 6) (by rw [on_clamp (by omega)]; omega) (by decide) (by decide) (by decide) (vs := (List.replicate (Int32.ofNat ns.length).toNatClampNeg (.int (0 : Int32)))) rfl
      refine Go.by st14 ?_
      have ne_x_b14 : x ≠ b14 := ne_new lt_x_14 g_b14
      have ne_t_b14 : t ≠ b14 := ne_new lt_t_14 g_b14
      have ne_b1_b14 : b1 ≠ b14 := ne_new lt_b1_14 g_b14
      have ne_ea_7_b14 : ea_7 ≠ b14 := ne_new lt_ea_7_14 g_b14
      have sz_b14 : h0.size ≤ b14 := Nat.le_trans X13.sz (Nat.le_of_eq g_b14.symm)
      have K0_h14 : Keep h0 h14 [] := KL.ext E14
      have F14 : Arv Z h14 b14 k14 .int (Int32.ofNat ns.length) (List.replicate (Int32.ofNat ns.length).toNatClampNeg (.int (0 : Int32))) (.int (0 : Int32)) := A14
      show Go _ _ _ _ (T14.setTop (mkF m 66 #[.val (.ref x), .val (.ref b1), .val (.int (Int32.ofNat kk)), .unset] [(.ref b14)]))
      have f15 : Arv Z h14 b14 k14 .int (Int32.ofNat ns.length) [] (.int (0 : Int32)) := (F14).pad (own_pad0 _ _)
      refine Go.by (fun _ k => XS.astoreN X14.here X14.hx rfl (X14.cd d_prog_92_method_7_66) rfl rfl (l' := #[.val (.ref x), .val (.ref b1), .val (.ref b14), .unset]) rfl k) ?_
      show Go _ _ _ _ (T14.setTop (mkF m 67 #[.val (.ref x), .val (.ref b1), .val (.ref b14), .unset] []))
      refine Go.by (fun _ k => XS.iconst X14.here X14.hx rfl (X14.cd d_prog_92_method_7_67)  k) ?_
      show Go _ _ _ _ (T14.setTop (mkF m 68 #[.val (.ref x), .val (.ref b1), .val (.ref b14), .unset] [(.int (0 : Int32))]))
      refine Go.by (fun _ k => XS.istoreN X14.here X14.hx rfl (X14.cd d_prog_92_method_7_68) rfl (l' := #[.val (.ref x), .val (.ref b1), .val (.ref b14), .val (.int (0 : Int32))]) rfl k) ?_
      show Go _ _ _ _ (T14.setTop (mkF m 69 #[.val (.ref x), .val (.ref b1), .val (.ref b14), .val (.int (0 : Int32))] []))
      have loop2 : ∀ (nn : Nat) (jj : Nat) (vv : List Value) (TL : State) (hL : Heap), (Wk false p l e RM_rm_ls s m #[(.ref x)] below meth c Z [] (⟨"com/example/cinderpath/cinderpath/source/SourceFile", "lineStarts", "(Ljava/lang/String;)[I"⟩ : MethodName) prog_92_method_7_code 4 (some (.array .int)) n0 h0 TL hL [b14, ea_7, b1] 3 19) → (Keep h0 hL []) → (Exa Z hL b1 "java/util/ArrayList") → (Fld Z hL b1 "java/util/ArrayList" "elementData" "[Ljava/lang/Object;" (.ref ea_7)) → (Fld Z hL b1 "java/util/ArrayList" "size" "I" (.int (Int32.ofNat ns.length))) → (Arv Z hL ea_7 ke_7 (.object "java/lang/Object") (10 : Int32) (ns.map fun n => Value.ref (iv n)) .null) → (Arv Z hL b14 k14 .int (Int32.ofNat ns.length) vv (.int (0 : Int32))) → (jj + nn = ns.length) → (vv = ((ns.take jj).map fun n => Value.int (Int32.ofNat n))) → Go p e below (Fi false RM_rm_ls s Z [] n0 h0 [] (Q_rm_ls Z x t cs zc vf dd kd cq kq vq iv h0)) (TL.setTop (mkF m 69 #[.val (.ref x), .val (.ref b1), .val (.ref b14), .val (.int (Int32.ofNat jj))] [])) := by
        intro nn
        induction nn with
        | zero =>
          intro jj vv TL hL XL KL lf0 lf1 lf2 lf3 lf4 hj hvv
          show Go _ _ _ _ (TL.setTop (mkF m 69 #[.val (.ref x), .val (.ref b1), .val (.ref b14), .val (.int (Int32.ofNat jj))] []))
          refine Go.by (fun _ k => XS.iloadN XL.here XL.hx rfl (XL.cd d_prog_92_method_7_69) rfl  k) ?_
          show Go _ _ _ _ (TL.setTop (mkF m 70 #[.val (.ref x), .val (.ref b1), .val (.ref b14), .val (.int (Int32.ofNat jj))] [(.int (Int32.ofNat jj))]))
          refine Go.by (fun _ k => XS.aloadN XL.here XL.hx rfl (XL.cd d_prog_92_method_7_70) rfl rfl k) ?_
          show Go _ _ _ _ (TL.setTop (mkF m 71 #[.val (.ref x), .val (.ref b1), .val (.ref b14), .val (.int (Int32.ofNat jj))] [(.ref b14), (.int (Int32.ofNat jj))]))
          refine Go.by (fun _ k => XL.len lf4 (g := (mkF m 71 #[.val (.ref x), .val (.ref b1), .val (.ref b14), .val (.int (Int32.ofNat jj))] [(.ref b14), (.int (Int32.ofNat jj))])) rfl rfl d_prog_92_method_7_71 _ k) ?_
          show Go _ _ _ _ (TL.setTop (mkF m 72 #[.val (.ref x), .val (.ref b1), .val (.ref b14), .val (.int (Int32.ofNat jj))] [(.int (Int32.ofNat ns.length)), (.int (Int32.ofNat jj))]))
          refine Go.by (fun _ k => XS.icmpYes XL.here XL.hx rfl (pc0 := 72) (pc' := 97) rfl (XL.cd d_prog_92_method_7_72) rfl (XT.ii_ge_t (fun q => by have := (on_lt (by omega) (by omega)).mp q; omega)) (by decide) (by decide) k) ?_
          show Go _ _ _ _ (TL.setTop (mkF m 97 #[.val (.ref x), .val (.ref b1), .val (.ref b14), .val (.int (Int32.ofNat jj))] []))
          refine Go.by (fun _ k => XS.aloadN XL.here XL.hx rfl (XL.cd d_prog_92_method_7_97) rfl rfl k) ?_
          show Go _ _ _ _ (TL.setTop (mkF m 98 #[.val (.ref x), .val (.ref b1), .val (.ref b14), .val (.int (Int32.ofNat jj))] [(.ref b14)]))
          have f16 : Arv Z hL b14 k14 .int (Int32.ofNat (own_pre cs cs.length).length) ((own_pre cs cs.length).map fun n => Value.int (Int32.ofNat n)) (.int (0 : Int32)) := (by rw [← hns2, ← (show vv = (ns.map fun n => Value.int (Int32.ofNat n)) from by rw [hvv, List.take_of_length_le (by omega)])]; exact lf4)
          exact XL.retR rfl rfl d_prog_92_method_7_98 KL ⟨b14, k14, rfl, sz_b14, (XL.lt (.head _)), f16⟩ (by decide) (by decide)
        | succ nn ih =>
          intro jj vv TL hL XL KL lf0 lf1 lf2 lf3 lf4 hj hvv
          show Go _ _ _ _ (TL.setTop (mkF m 69 #[.val (.ref x), .val (.ref b1), .val (.ref b14), .val (.int (Int32.ofNat jj))] []))
          have hjl : jj < ns.length := by omega
          refine Go.by (fun _ k => XS.iloadN XL.here XL.hx rfl (XL.cd d_prog_92_method_7_69) rfl  k) ?_
          show Go _ _ _ _ (TL.setTop (mkF m 70 #[.val (.ref x), .val (.ref b1), .val (.ref b14), .val (.int (Int32.ofNat jj))] [(.int (Int32.ofNat jj))]))
          refine Go.by (fun _ k => XS.aloadN XL.here XL.hx rfl (XL.cd d_prog_92_method_7_70) rfl rfl k) ?_
          show Go _ _ _ _ (TL.setTop (mkF m 71 #[.val (.ref x), .val (.ref b1), .val (.ref b14), .val (.int (Int32.ofNat jj))] [(.ref b14), (.int (Int32.ofNat jj))]))
          refine Go.by (fun _ k => XL.len lf4 (g := (mkF m 71 #[.val (.ref x), .val (.ref b1), .val (.ref b14), .val (.int (Int32.ofNat jj))] [(.ref b14), (.int (Int32.ofNat jj))])) rfl rfl d_prog_92_method_7_71 _ k) ?_
          show Go _ _ _ _ (TL.setTop (mkF m 72 #[.val (.ref x), .val (.ref b1), .val (.ref b14), .val (.int (Int32.ofNat jj))] [(.int (Int32.ofNat ns.length)), (.int (Int32.ofNat jj))]))
          refine Go.by (fun _ k => XS.icmpNo XL.here XL.hx rfl (XL.cd d_prog_92_method_7_72) rfl (XT.ii_ge_f ((on_lt (by omega) (by omega)).mpr hjl)) k) ?_
          show Go _ _ _ _ (TL.setTop (mkF m 75 #[.val (.ref x), .val (.ref b1), .val (.ref b14), .val (.int (Int32.ofNat jj))] []))
          refine Go.by (fun _ k => XS.aloadN XL.here XL.hx rfl (XL.cd d_prog_92_method_7_75) rfl rfl k) ?_
          show Go _ _ _ _ (TL.setTop (mkF m 76 #[.val (.ref x), .val (.ref b1), .val (.ref b14), .val (.int (Int32.ofNat jj))] [(.ref b14)]))
          refine Go.by (fun _ k => XS.iloadN XL.here XL.hx rfl (XL.cd d_prog_92_method_7_76) rfl  k) ?_
          show Go _ _ _ _ (TL.setTop (mkF m 77 #[.val (.ref x), .val (.ref b1), .val (.ref b14), .val (.int (Int32.ofNat jj))] [(.int (Int32.ofNat jj)), (.ref b14)]))
          refine Go.by (fun _ k => XS.aloadN XL.here XL.hx rfl (XL.cd d_prog_92_method_7_77) rfl rfl k) ?_
          show Go _ _ _ _ (TL.setTop (mkF m 78 #[.val (.ref x), .val (.ref b1), .val (.ref b14), .val (.int (Int32.ofNat jj))] [(.ref b1), (.int (Int32.ofNat jj)), (.ref b14)]))
          refine Go.by (fun _ k => XS.iloadN XL.here XL.hx rfl (XL.cd d_prog_92_method_7_78) rfl  k) ?_
          show Go _ _ _ _ (TL.setTop (mkF m 79 #[.val (.ref x), .val (.ref b1), .val (.ref b14), .val (.int (Int32.ofNat jj))] [(.int (Int32.ofNat jj)), (.ref b1), (.int (Int32.ofNat jj)), (.ref b14)]))
          obtain ⟨_, T17, h17, X17, K17, ⟨rfl, rfl⟩, st17⟩ := XL.ifN (y' := (⟨"java/util/List", "get", "(I)Ljava/lang/Object;"⟩ : MethodName)) (z' := (⟨"java/util/ArrayList", "get", "(I)Ljava/lang/Object;"⟩ : MethodName)) (W := 2) (hw _ (List.mem_of_getElem? (i := 162) rfl)) (hw _ (List.mem_of_getElem? (i := 163) rfl)) (hw _ (List.mem_of_getElem? (i := 164) rfl)) rfl (hw _ (List.mem_of_getElem? (i := 165) rfl)) (hw _ (List.mem_of_getElem? (i := 166) rfl)) (hw _ (List.mem_of_getElem? (i := 167) rfl)) (hw _ (List.mem_of_getElem? (i := 168) rfl)) (hw _ (List.mem_of_getElem? (i := 93) rfl)) (by decide) ((rm_get l Z a0 hw n0 b1 ea_7 ke_7 ns jj iv hL XL.old lf0 lf1 lf2 lf3 hjl hnl.1).pay (hw _ (List.mem_of_getElem? (i := 169) rfl)) (hw _ (List.mem_of_getElem? (i := 57) rfl)) (by decide) (by decide)) all0 lf0 (g := (mkF m 79 #[.val (.ref x), .val (.ref b1), .val (.ref b14), .val (.int (Int32.ofNat jj))] [(.int (Int32.ofNat jj)), (.ref b1), (.int (Int32.ofNat jj)), (.ref b14)])) rfl rfl (argsL := [(.int (Int32.ofNat jj))]) (rest := [(.int (Int32.ofNat jj)), (.ref b14)]) (lenOf pd_8 rfl) rfl (by exact Nat.le_of_eq rfl) d_prog_92_method_7_79 rfl (by decide) (by decide)
          refine Go.tr st17 ?_
          show Go _ _ _ _ (T17.setTop (mkF m 84 #[.val (.ref x), .val (.ref b1), .val (.ref b14), .val (.int (Int32.ofNat jj))] [(.ref (iv (ns.getD jj 0))), (.int (Int32.ofNat jj)), (.ref b14)]))
          have f19 : Exa Z hL (iv (ns.getD jj 0)) "java/lang/Integer" := (show Exa Z Z.heap (iv (ns.getD jj 0)) "java/lang/Integer" from (Hq _ (hn5 jj)).2.1).ext X17.old.2
          obtain ⟨T18, X18, st18⟩ := X17.castY (hw _ (List.mem_of_getElem? (i := 180) rfl)) (Ins.self f19) (g := (mkF m 84 #[.val (.ref x), .val (.ref b1), .val (.ref b14), .val (.int (Int32.ofNat jj))] [(.ref (iv (ns.getD jj 0))), (.int (Int32.ofNat jj)), (.ref b14)])) rfl rfl d_prog_92_method_7_84
          refine Go.by st18 ?_
          show Go _ _ _ _ (T18.setTop (mkF m 87 #[.val (.ref x), .val (.ref b1), .val (.ref b14), .val (.int (Int32.ofNat jj))] [(.ref (iv (ns.getD jj 0))), (.int (Int32.ofNat jj)), (.ref b14)]))
          have f20 : Fld Z hL (iv (ns.getD jj 0)) "java/lang/Integer" "value" "I" (.int (Int32.ofNat (ns.getD jj 0))) := (show Fld Z Z.heap (iv (ns.getD jj 0)) "java/lang/Integer" "value" "I" (.int (Int32.ofNat (ns.getD jj 0))) from (Hq _ (hn5 jj)).2.2).ext X18.old.2
          obtain ⟨_, T21, h21, X21, K21, ⟨rfl, rfl⟩, st21⟩ := X18.viN (W := 2) (hw _ (List.mem_of_getElem? (i := 182) rfl)) (hw _ (List.mem_of_getElem? (i := 183) rfl)) (hw _ (List.mem_of_getElem? (i := 185) rfl)) (hw _ (List.mem_of_getElem? (i := 184) rfl)) (by decide) ((rm_iv l Z a0 hw n0 (iv (ns.getD jj 0)) (Int32.ofNat (ns.getD jj 0)) hL X18.old f20).pay (hw _ (List.mem_of_getElem? (i := 186) rfl)) (hw _ (List.mem_of_getElem? (i := 81) rfl)) (by decide) (by decide)) all0 f19 (g := (mkF m 87 #[.val (.ref x), .val (.ref b1), .val (.ref b14), .val (.int (Int32.ofNat jj))] [(.ref (iv (ns.getD jj 0))), (.int (Int32.ofNat jj)), (.ref b14)])) rfl rfl (argsL := []) (rest := [(.int (Int32.ofNat jj)), (.ref b14)]) (lenOf pd_11 rfl) rfl (by exact Nat.le_of_eq rfl) d_prog_92_method_7_87 rfl (by decide) (by decide)
          refine Go.tr st21 ?_
          show Go _ _ _ _ (T21.setTop (mkF m 90 #[.val (.ref x), .val (.ref b1), .val (.ref b14), .val (.int (Int32.ofNat jj))] [(.int (Int32.ofNat (ns.getD jj 0))), (.int (Int32.ofNat jj)), (.ref b14)]))
          have f22 : Arv Z hL b14 k14 .int (Int32.ofNat ns.length) (vv ++ [Value.int (0 : Int32)]) (.int (0 : Int32)) := (lf4).pad (own_pad _ _)
          have hvl : vv.length = jj := by rw [hvv]; simp; omega
          obtain ⟨T23, h23, X23, W23, A23, st23⟩ := X21.stI f22 (.head _) ⟨on_nn (by omega), (on_lt (by omega) (by omega)).mpr hjl⟩ (i := jj) (on_clamp (by omega)) (by simp [hvl]) (vs' := (vv ++ [Value.int (Int32.ofNat (ns.getD jj 0))])) (own_set _ _ _ hvl) (g := (mkF m 90 #[.val (.ref x), .val (.ref b1), .val (.ref b14), .val (.int (Int32.ofNat jj))] [(.int (Int32.ofNat (ns.getD jj 0))), (.int (Int32.ofNat jj)), (.ref b14)])) rfl rfl d_prog_92_method_7_90
          refine Go.by st23 ?_
          have K0_h23 : Keep h0 h23 [] := KL.trans W23 (allS (Or.inr sz_b14) all0)
          show Go _ _ _ _ (T23.setTop (mkF m 91 #[.val (.ref x), .val (.ref b1), .val (.ref b14), .val (.int (Int32.ofNat jj))] []))
          refine Go.by (fun _ k => XS.iinc X23.here X23.hx rfl (X23.cd d_prog_92_method_7_91) rfl (l' := #[.val (.ref x), .val (.ref b1), .val (.ref b14), .val (.int ((Int32.ofNat jj) + (1 : Int32)))]) rfl k) ?_
          show Go _ _ _ _ (T23.setTop (mkF m 94 #[.val (.ref x), .val (.ref b1), .val (.ref b14), .val (.int ((Int32.ofNat jj) + (1 : Int32)))] []))
          refine Go.by (fun _ k => XS.goto X23.here X23.hx rfl (pc0 := 94) (pc' := 69) rfl (X23.cd d_prog_92_method_7_94) (by decide) (by decide) k) ?_
          show Go _ _ _ _ (T23.setTop (mkF m 69 #[.val (.ref x), .val (.ref b1), .val (.ref b14), .val (.int ((Int32.ofNat jj) + (1 : Int32)))] []))
          rw [on_succ]
          have f24 : Exa Z h23 b1 "java/util/ArrayList" := (lf0).keep W23
          have f25 : Fld Z h23 b1 "java/util/ArrayList" "elementData" "[Ljava/lang/Object;" (.ref ea_7) := (lf1).keep W23 (ninS ne_b1_b14 nin0)
          have f26 : Fld Z h23 b1 "java/util/ArrayList" "size" "I" (.int (Int32.ofNat ns.length)) := (lf2).keep W23 (ninS ne_b1_b14 nin0)
          have f27 : Arv Z h23 ea_7 ke_7 (.object "java/lang/Object") (10 : Int32) (ns.map fun n => Value.ref (iv n)) .null := (lf3).keep W23 (ninS ne_ea_7_b14 nin0)
          exact ih (jj + 1) (vv ++ [Value.int (Int32.ofNat (ns.getD jj 0))]) _ _ X23 K0_h23 f24 f25 f26 f27 A23 (by omega) (by rw [hvv, own_tk hjl])
      have f28 : Exa Z h14 b1 "java/util/ArrayList" := lf0.ext E14
      have f29 : Fld Z h14 b1 "java/util/ArrayList" "elementData" "[Ljava/lang/Object;" (.ref ea_7) := lf2.ext E14
      have f30 : Fld Z h14 b1 "java/util/ArrayList" "size" "I" (.int (Int32.ofNat ns.length)) := lf3.ext E14
      have f31 : Arv Z h14 ea_7 ke_7 (.object "java/lang/Object") (10 : Int32) (ns.map fun n => Value.ref (iv n)) .null := lf4.ext E14
      exact loop2 ns.length 0 [] _ _ X14 K0_h14 f28 f29 f30 f31 f15 (by omega) rfl
    | succ mm ih =>
      intro kk ns w0 TL hL XL KL lf0 lf1 lf2 lf3 lf4 lf5 hk hns
      show Go _ _ _ _ (TL.setTop (mkF m 21 #[.val (.ref x), .val (.ref b1), .val (.int (Int32.ofNat kk)), .unset] []))
      have hkl : kk < cs.length := by omega
      have hnl : ns.length ≤ 6 := by rw [hns]; have := own_pre_len cs kk; omega
      refine Go.by (fun _ k => XS.iloadN XL.here XL.hx rfl (XL.cd d_prog_92_method_7_21) rfl  k) ?_
      show Go _ _ _ _ (TL.setTop (mkF m 22 #[.val (.ref x), .val (.ref b1), .val (.int (Int32.ofNat kk)), .unset] [(.int (Int32.ofNat kk))]))
      refine Go.by (fun _ k => XS.aloadN XL.here XL.hx rfl (XL.cd d_prog_92_method_7_22) rfl rfl k) ?_
      show Go _ _ _ _ (TL.setTop (mkF m 23 #[.val (.ref x), .val (.ref b1), .val (.int (Int32.ofNat kk)), .unset] [(.ref x), (.int (Int32.ofNat kk))]))
      obtain ⟨_, T32, h32, X32, K32, ⟨rfl, rfl⟩, st32⟩ := XL.viN (W := 1) (hw _ (List.mem_of_getElem? (i := 121) rfl)) (hw _ (List.mem_of_getElem? (i := 122) rfl)) (hw _ (List.mem_of_getElem? (i := 124) rfl)) (hw _ (List.mem_of_getElem? (i := 123) rfl)) (by decide) (payLen (fun d hd => hw d ((by decide +kernel : ∀ d ∈ StrChars.Road.wordsLen, d ∈ tables_1) d hd)) (hw _ (List.mem_of_getElem? (i := 9) rfl)) XL.old lf5 Sc nc (by decide) (by decide)) all0 lf5.exa (g := (mkF m 23 #[.val (.ref x), .val (.ref b1), .val (.int (Int32.ofNat kk)), .unset] [(.ref x), (.int (Int32.ofNat kk))])) rfl rfl (argsL := []) (rest := [(.int (Int32.ofNat kk))]) (lenOf pd_11 rfl) rfl (by exact Nat.le_of_eq rfl) d_prog_92_method_7_23 rfl (by decide) (by decide)
      refine Go.tr st32 ?_
      show Go _ _ _ _ (T32.setTop (mkF m 26 #[.val (.ref x), .val (.ref b1), .val (.int (Int32.ofNat kk)), .unset] [(.int (Int32.ofNat (cs).length)), (.int (Int32.ofNat kk))]))
      refine Go.by (fun _ k => XS.icmpNo X32.here X32.hx rfl (X32.cd d_prog_92_method_7_26) rfl (XT.ii_ge_f ((on_lt (by omega) (by omega)).mpr hkl)) k) ?_
      show Go _ _ _ _ (T32.setTop (mkF m 29 #[.val (.ref x), .val (.ref b1), .val (.int (Int32.ofNat kk)), .unset] []))
      refine Go.by (fun _ k => XS.aloadN X32.here X32.hx rfl (X32.cd d_prog_92_method_7_29) rfl rfl k) ?_
      show Go _ _ _ _ (T32.setTop (mkF m 30 #[.val (.ref x), .val (.ref b1), .val (.int (Int32.ofNat kk)), .unset] [(.ref x)]))
      refine Go.by (fun _ k => XS.iloadN X32.here X32.hx rfl (X32.cd d_prog_92_method_7_30) rfl  k) ?_
      show Go _ _ _ _ (T32.setTop (mkF m 31 #[.val (.ref x), .val (.ref b1), .val (.int (Int32.ofNat kk)), .unset] [(.int (Int32.ofNat kk)), (.ref x)]))
      obtain ⟨_, T33, h33, X33, K33, ⟨rfl, rfl⟩, st33⟩ := X32.viN (W := 0) (hw _ (List.mem_of_getElem? (i := 131) rfl)) (hw _ (List.mem_of_getElem? (i := 132) rfl)) (hw _ (List.mem_of_getElem? (i := 134) rfl)) (hw _ (List.mem_of_getElem? (i := 133) rfl)) (by decide) (payCh (i := kk) (fun d hd => hw d ((by decide +kernel : ∀ d ∈ StrChars.Road.wordsChN, d ∈ tables_1) d hd)) (hw _ (List.mem_of_getElem? (i := 9) rfl)) X32.old lf5 hp Sc nc Sf rf hkl (by decide) (by decide)) all0 lf5.exa (g := (mkF m 31 #[.val (.ref x), .val (.ref b1), .val (.int (Int32.ofNat kk)), .unset] [(.int (Int32.ofNat kk)), (.ref x)])) rfl rfl (argsL := [(.int (Int32.ofNat kk))]) (rest := []) (lenOf pd_12 rfl) rfl (by exact Nat.le_of_eq rfl) d_prog_92_method_7_31 rfl (by decide) (by decide)
      refine Go.tr st33 ?_
      show Go _ _ _ _ (T33.setTop (mkF m 34 #[.val (.ref x), .val (.ref b1), .val (.int (Int32.ofNat kk)), .unset] [(.int ((cs).getD kk 0))]))
      refine Go.by (fun _ k => XS.bipush X33.here X33.hx rfl (X33.cd d_prog_92_method_7_34)  k) ?_
      show Go _ _ _ _ (T33.setTop (mkF m 36 #[.val (.ref x), .val (.ref b1), .val (.int (Int32.ofNat kk)), .unset] [(.int (10 : Int32)), (.int ((cs).getD kk 0))]))
      by_cases c10 : ((cs).getD kk 0) = (10 : Int32)
      · refine Go.by (fun _ k => XS.icmpNo X33.here X33.hx rfl (X33.cd d_prog_92_method_7_36) rfl (XT.ii_ne_f c10) k) ?_
        show Go _ _ _ _ (T33.setTop (mkF m 39 #[.val (.ref x), .val (.ref b1), .val (.int (Int32.ofNat kk)), .unset] []))
        refine Go.by (fun _ k => XS.aloadN X33.here X33.hx rfl (X33.cd d_prog_92_method_7_39) rfl rfl k) ?_
        show Go _ _ _ _ (T33.setTop (mkF m 40 #[.val (.ref x), .val (.ref b1), .val (.int (Int32.ofNat kk)), .unset] [(.ref b1)]))
        refine Go.by (fun _ k => XS.iloadN X33.here X33.hx rfl (X33.cd d_prog_92_method_7_40) rfl  k) ?_
        show Go _ _ _ _ (T33.setTop (mkF m 41 #[.val (.ref x), .val (.ref b1), .val (.int (Int32.ofNat kk)), .unset] [(.int (Int32.ofNat kk)), (.ref b1)]))
        refine Go.by (fun _ k => XS.iconst X33.here X33.hx rfl (X33.cd d_prog_92_method_7_41)  k) ?_
        show Go _ _ _ _ (T33.setTop (mkF m 42 #[.val (.ref x), .val (.ref b1), .val (.int (Int32.ofNat kk)), .unset] [(.int (1 : Int32)), (.int (Int32.ofNat kk)), (.ref b1)]))
        refine Go.by (fun _ k => XS.iadd X33.here X33.hx rfl (X33.cd d_prog_92_method_7_42) rfl k) ?_
        show Go _ _ _ _ (T33.setTop (mkF m 43 #[.val (.ref x), .val (.ref b1), .val (.int (Int32.ofNat kk)), .unset] [(.int ((Int32.ofNat kk) + (1 : Int32))), (.ref b1)]))
        rw [on_succ]
        show Go _ _ _ _ (T33.setTop (mkF m 43 #[.val (.ref x), .val (.ref b1), .val (.int (Int32.ofNat kk)), .unset] [(.int (Int32.ofNat (kk + 1))), (.ref b1)]))
        obtain ⟨_, T34, h34, X34, K34, ⟨rfl, rfl⟩, st34⟩ := X33.stN (W := 1) (hw _ (List.mem_of_getElem? (i := 79) rfl)) (hw _ (List.mem_of_getElem? (i := 80) rfl)) (hw _ (List.mem_of_getElem? (i := 81) rfl)) (hw _ (List.mem_of_getElem? (i := 82) rfl)) (by decide) ((rm_vo l Z a0 hw n0 (kk + 1) cq kq vq iv hL X33.old Sh Sq Aq Hq (by omega)).pay (hw _ (List.mem_of_getElem? (i := 82) rfl)) (hw _ (List.mem_of_getElem? (i := 81) rfl)) (by decide) (by decide)) all0 (g := (mkF m 43 #[.val (.ref x), .val (.ref b1), .val (.int (Int32.ofNat kk)), .unset] [(.int (Int32.ofNat (kk + 1))), (.ref b1)])) rfl rfl (argsL := [(.int (Int32.ofNat (kk + 1)))]) (rest := [(.ref b1)]) (lenOf pd_9 rfl) rfl (by exact Nat.le_of_eq rfl) d_prog_92_method_7_43 rfl (by decide) (by decide)
        refine Go.tr st34 ?_
        show Go _ _ _ _ (T34.setTop (mkF m 46 #[.val (.ref x), .val (.ref b1), .val (.int (Int32.ofNat kk)), .unset] [(.ref (iv (kk + 1))), (.ref b1)]))
        have f35 : Exa Z hL (iv (kk + 1)) "java/lang/Integer" := (show Exa Z Z.heap (iv (kk + 1)) "java/lang/Integer" from (Hq _ (by omega)).2.1).ext X34.old.2
        have f36 : Ins Z hL (iv (kk + 1)) "java/lang/Object" true := (Ins.of_exa f35 (hw _ (List.mem_of_getElem? (i := 120) rfl)))
        obtain ⟨_, T37, h37, X37, K37, ⟨rfl, P37_0, P37_1, P37_2, P37_3⟩, st37⟩ := X34.ifN (y' := (⟨"java/util/List", "add", "(Ljava/lang/Object;)Z"⟩ : MethodName)) (z' := (⟨"java/util/ArrayList", "add", "(Ljava/lang/Object;)Z"⟩ : MethodName)) (W := 0) (hw _ (List.mem_of_getElem? (i := 86) rfl)) (hw _ (List.mem_of_getElem? (i := 87) rfl)) (hw _ (List.mem_of_getElem? (i := 88) rfl)) rfl (hw _ (List.mem_of_getElem? (i := 89) rfl)) (hw _ (List.mem_of_getElem? (i := 90) rfl)) (hw _ (List.mem_of_getElem? (i := 91) rfl)) (hw _ (List.mem_of_getElem? (i := 92) rfl)) (hw _ (List.mem_of_getElem? (i := 93) rfl)) (by decide) ((rm_bd1 l Z a0 hw n0 b1 (iv (kk + 1)) ea_7 ke_7 (ns.map fun n => Value.ref (iv n)) ns.length w0 hL X34.old lf0 lf1 lf2 lf3 f36 lf4 p7_0 ne_b1_ea_7 (by simp) (by omega) (X34.ge (.tail _ (.head _))) (X34.lt (.tail _ (.head _))) (X34.ge (.head _)) (X34.lt (.head _))).pay (hw _ (List.mem_of_getElem? (i := 94) rfl)) (hw _ (List.mem_of_getElem? (i := 57) rfl)) (by decide) (by decide)) (allS (.tail _ (.head _)) (allS (.head _) all0)) lf0 (g := (mkF m 46 #[.val (.ref x), .val (.ref b1), .val (.int (Int32.ofNat kk)), .unset] [(.ref (iv (kk + 1))), (.ref b1)])) rfl rfl (argsL := [(.ref (iv (kk + 1)))]) (rest := []) (lenOf pd_10 rfl) rfl (by exact Nat.le_of_eq rfl) d_prog_92_method_7_46 rfl (by decide) (by decide)
        refine Go.tr st37 ?_
        have K0_h37 : Keep h0 h37 [] := KL.trans K37 (allS (Or.inr sz_b1) (allS (Or.inr sz_ea_7) all0))
        show Go _ _ _ _ (T37.setTop (mkF m 51 #[.val (.ref x), .val (.ref b1), .val (.int (Int32.ofNat kk)), .unset] [(.int (1 : Int32))]))
        have f38 : Fld Z h37 b1 "java/util/ArrayList" "size" "I" (.int (Int32.ofNat (ns ++ [kk + 1]).length)) := (by rw [List.length_append]; exact P37_2)
        have f39 : Arv Z h37 ea_7 ke_7 (.object "java/lang/Object") (10 : Int32) ((ns ++ [kk + 1]).map fun n => Value.ref (iv n)) .null := (by rw [List.map_append]; exact P37_3)
        refine Go.by (fun _ k => XS.pop X37.here X37.hx rfl (X37.cd d_prog_92_method_7_51) rfl rfl k) ?_
        show Go _ _ _ _ (T37.setTop (mkF m 52 #[.val (.ref x), .val (.ref b1), .val (.int (Int32.ofNat kk)), .unset] []))
        refine Go.by (fun _ k => XS.iinc X37.here X37.hx rfl (X37.cd d_prog_92_method_7_52) rfl (l' := #[.val (.ref x), .val (.ref b1), .val (.int ((Int32.ofNat kk) + (1 : Int32))), .unset]) rfl k) ?_
        show Go _ _ _ _ (T37.setTop (mkF m 55 #[.val (.ref x), .val (.ref b1), .val (.int ((Int32.ofNat kk) + (1 : Int32))), .unset] []))
        refine Go.by (fun _ k => XS.goto X37.here X37.hx rfl (pc0 := 55) (pc' := 21) rfl (X37.cd d_prog_92_method_7_55) (by decide) (by decide) k) ?_
        show Go _ _ _ _ (T37.setTop (mkF m 21 #[.val (.ref x), .val (.ref b1), .val (.int ((Int32.ofNat kk) + (1 : Int32))), .unset] []))
        rw [on_succ]
        have f40 : Exa Z h37 b1 "java/util/ArrayList" := (lf0).keep K37
        have f41 : Str Z h37 x t cs := (lf5).keep K37 (ninS ne_x_b1 (ninS ne_x_ea_7 nin0)) (ninS ne_t_b1 (ninS ne_t_ea_7 nin0))
        exact ih (kk + 1) (ns ++ [kk + 1]) (w0 + (1 : Int32)) _ _ X37 K0_h37 f40 P37_0 P37_1 f38 f39 f41 (by omega) (by rw [hns, own_pre_y c10])
      · refine Go.by (fun _ k => XS.icmpYes X33.here X33.hx rfl (pc0 := 36) (pc' := 52) rfl (X33.cd d_prog_92_method_7_36) rfl (XT.ii_ne_t c10) (by decide) (by decide) k) ?_
        show Go _ _ _ _ (T33.setTop (mkF m 52 #[.val (.ref x), .val (.ref b1), .val (.int (Int32.ofNat kk)), .unset] []))
        refine Go.by (fun _ k => XS.iinc X33.here X33.hx rfl (X33.cd d_prog_92_method_7_52) rfl (l' := #[.val (.ref x), .val (.ref b1), .val (.int ((Int32.ofNat kk) + (1 : Int32))), .unset]) rfl k) ?_
        show Go _ _ _ _ (T33.setTop (mkF m 55 #[.val (.ref x), .val (.ref b1), .val (.int ((Int32.ofNat kk) + (1 : Int32))), .unset] []))
        refine Go.by (fun _ k => XS.goto X33.here X33.hx rfl (pc0 := 55) (pc' := 21) rfl (X33.cd d_prog_92_method_7_55) (by decide) (by decide) k) ?_
        show Go _ _ _ _ (T33.setTop (mkF m 21 #[.val (.ref x), .val (.ref b1), .val (.int ((Int32.ofNat kk) + (1 : Int32))), .unset] []))
        rw [on_succ]
        exact ih (kk + 1) ns w0 _ _ X33 KL lf0 lf1 lf2 lf3 lf4 lf5 (by omega) (by rw [hns, own_pre_n c10])
  have f42 : Exa Z h7 b1 "java/util/ArrayList" := (f6).keep K7
  have f43 : Str Z h7 x t cs := (f8).keep K7 (ninS ne_x_b1 nin0) (ninS ne_t_b1 nin0)
  exact loop cs.length 0 [0] ((0 : Int32) + (1 : Int32)) _ _ X9 K0_h7 f42 P7_0 P7_1 f11 f10 f43 (by omega) rfl
theorem ef_rm_sfi (m : MethodId) (x0 : Addr) (x1 : Addr) (x2 : Addr) : entryFrame m #[(.ref x0), (.ref x1), (.ref x2)] 3 = mkF m 0 #[.val (.ref x0), .val (.ref x1), .val (.ref x2)] [] := by first | (simp [entryFrame, mkF, argsToLocals, Value.category]; done) | rfl
def Q_rm_sfi (Z : State) (a1 : Addr) (a2 : Addr) (x : Addr) (t : Addr) (cs : List Int32) (v0 : Value) (v1 : Value) (v2 : Value) (zc : Int32) (vf : Value) (dd : Addr) (kd : ClassId) (cq : Addr) (kq : ClassId) (vq : List Value) (iv : Nat → Addr) (h0 : Heap) (ov : Option Value) (hz : Heap) : Prop := ∃ (ls : Addr), ∃ (kl : ClassId), ov = none ∧ h0.size ≤ ls ∧ ls < hz.size ∧ Fld Z hz a1 "com/example/cinderpath/cinderpath/source/SourceFile" "lineStarts" "[I" (.ref ls) ∧ Arv Z hz ls kl .int (Int32.ofNat (own_pre cs cs.length).length) ((own_pre cs cs.length).map fun n => Value.int (Int32.ofNat n)) (.int (0 : Int32))
theorem d_prog_92_method_1_0 : decode prog_92_method_1_code 0 = .ok (.aload_n 0, 1) := by decide +kernel
theorem d_prog_92_method_1_1 : decode prog_92_method_1_code 1 = .ok (.invokespecial 1, 3) := by decide +kernel
theorem d_prog_92_method_1_4 : decode prog_92_method_1_code 4 = .ok (.aload_n 0, 1) := by decide +kernel
theorem d_prog_92_method_1_5 : decode prog_92_method_1_code 5 = .ok (.aload_n 1, 1) := by decide +kernel
theorem d_prog_92_method_1_6 : decode prog_92_method_1_code 6 = .ok (.putfield 7, 3) := by decide +kernel
theorem d_prog_92_method_1_9 : decode prog_92_method_1_code 9 = .ok (.aload_n 0, 1) := by decide +kernel
theorem d_prog_92_method_1_10 : decode prog_92_method_1_code 10 = .ok (.aload_n 2, 1) := by decide +kernel
theorem d_prog_92_method_1_11 : decode prog_92_method_1_code 11 = .ok (.putfield 13, 3) := by decide +kernel
theorem d_prog_92_method_1_14 : decode prog_92_method_1_code 14 = .ok (.aload_n 0, 1) := by decide +kernel
theorem d_prog_92_method_1_15 : decode prog_92_method_1_code 15 = .ok (.aload_n 2, 1) := by decide +kernel
theorem pd_13 : parseMethodDescriptor "(Ljava/lang/String;)[I" = some ⟨[(.object "java/lang/String")], some (.array .int)⟩ := by decide +kernel
theorem d_prog_92_method_1_16 : decode prog_92_method_1_code 16 = .ok (.invokestatic 16, 3) := by decide +kernel
theorem d_prog_92_method_1_19 : decode prog_92_method_1_code 19 = .ok (.putfield 20, 3) := by decide +kernel
theorem d_prog_92_method_1_22 : decode prog_92_method_1_code 22 = .ok (.return_, 1) := by decide +kernel
abbrev RM_rm_sfi : Room := { frames := 6, cells := 3, slots := 19, locals := 85 }
set_option maxRecDepth 65536 in
set_option maxHeartbeats 40000000 in
theorem rm_sfi (l : Launch) (Z : State) (a0 : Array Value) (hw : ∀ d ∈ tables_1, d.before a0 Z = true) (n0 : Nat) (a1 : Addr) (a2 : Addr) (x : Addr) (t : Addr) (cs : List Int32) (v0 : Value) (v1 : Value) (v2 : Value) (zc : Int32) (vf : Value) (dd : Addr) (kd : ClassId) (cq : Addr) (kq : ClassId) (vq : List Value) (iv : Nat → Addr) (h0 : Heap) (hO : Old Z n0 h0) (pr0 : Exa Z h0 a1 "com/example/cinderpath/cinderpath/source/SourceFile") (pr1 : Fld Z h0 a1 "com/example/cinderpath/cinderpath/source/SourceFile" "name" "Ljava/lang/String;" v0) (pr2 : Fld Z h0 a1 "com/example/cinderpath/cinderpath/source/SourceFile" "text" "Ljava/lang/String;" v1) (pr3 : Fld Z h0 a1 "com/example/cinderpath/cinderpath/source/SourceFile" "lineStarts" "[I" v2) (pr4 : Str Z h0 x t cs) (Sc : Sta Z Z.heap "java/lang/String" "COMPACT_STRINGS" "Z" (.int zc)) (nc : ¬ (zc = (0 : Int32))) (Sf : Sta Z Z.heap "jdk/internal/util/Preconditions" "SIOOBE_FORMATTER" "Ljava/util/function/BiFunction;" vf) (rf : vf.isRef = true) (Sd : Sta Z Z.heap "java/util/ArrayList" "DEFAULTCAPACITY_EMPTY_ELEMENTDATA" "[Ljava/lang/Object;" (.ref dd)) (Ad : Arv Z Z.heap dd kd (.object "java/lang/Object") (0 : Int32) [] .null) (Sh : Sta Z Z.heap "java/lang/Integer$IntegerCache" "high" "I" (.int (127 : Int32))) (Sq : Sta Z Z.heap "java/lang/Integer$IntegerCache" "cache" "[Ljava/lang/Integer;" (.ref cq)) (Aq : Arv Z Z.heap cq kq (.object "java/lang/Integer") (256 : Int32) vq .null) (Hq : ∀ m, m ≤ 5 → vq.getD (m + 128) .null = .ref (iv m) ∧ Exa Z Z.heap (iv m) "java/lang/Integer" ∧ Fld Z Z.heap (iv m) "java/lang/Integer" "value" "I" (.int (Int32.ofNat m))) (hp : ∀ c ∈ cs, ¬ (255 : Int32) < c) (hc5 : cs.length ≤ 5) (hx1 : x ≠ a1) (ht1 : t ≠ a1) (g_a1 : n0 ≤ a1) (l_a1 : a1 < h0.size) :
    Ct l (⟨"com/example/cinderpath/cinderpath/source/SourceFile", "<init>", "(Ljava/lang/String;Ljava/lang/String;)V"⟩ : MethodName) prog_92_method_1_code 3 none [] RM_rm_sfi Z n0 #[(.ref a1), (.ref a2), (.ref x)] h0 [a1] (Q_rm_sfi Z a1 a2 x t cs v0 v1 v2 zc vf dd kd cq kq vq iv h0) := by
  refine Ct.of_walk (plainFor_of_name pn_9) hO (allS ⟨g_a1, l_a1⟩ all0) ?_
  intro p e s m below meth c T0 X0
  rw [ef_rm_sfi m a1 a2 x]
  show Go _ _ _ _ (T0.setTop (mkF m 0 #[.val (.ref a1), .val (.ref a2), .val (.ref x)] []))
  refine Go.by (fun _ k => XS.aloadN X0.here X0.hx rfl (X0.cd d_prog_92_method_1_0) rfl rfl k) ?_
  show Go _ _ _ _ (T0.setTop (mkF m 1 #[.val (.ref a1), .val (.ref a2), .val (.ref x)] [(.ref a1)]))
  obtain ⟨T1, X1, st1⟩ := X0.initO (hw _ (List.mem_of_getElem? (i := 47) rfl)) (hw _ (List.mem_of_getElem? (i := 20) rfl)) (hw _ (List.mem_of_getElem? (i := 21) rfl)) (g := (mkF m 1 #[.val (.ref a1), .val (.ref a2), .val (.ref x)] [(.ref a1)])) rfl rfl rfl d_prog_92_method_1_1 (by decide) (W := 0) (by exact Nat.le_of_eq rfl) (by decide)
  refine Go.by st1 ?_
  show Go _ _ _ _ (T1.setTop (mkF m 4 #[.val (.ref a1), .val (.ref a2), .val (.ref x)] []))
  refine Go.by (fun _ k => XS.aloadN X1.here X1.hx rfl (X1.cd d_prog_92_method_1_4) rfl rfl k) ?_
  show Go _ _ _ _ (T1.setTop (mkF m 5 #[.val (.ref a1), .val (.ref a2), .val (.ref x)] [(.ref a1)]))
  refine Go.by (fun _ k => XS.aloadN X1.here X1.hx rfl (X1.cd d_prog_92_method_1_5) rfl rfl k) ?_
  show Go _ _ _ _ (T1.setTop (mkF m 6 #[.val (.ref a1), .val (.ref a2), .val (.ref x)] [(.ref a2), (.ref a1)]))
  obtain ⟨T2, h2, X2, W2, st2⟩ := X1.putF (host := "") (Or.inl (hw _ (List.mem_of_getElem? (i := 48) rfl))) Via.refl pr1 pr0 (Or.inr ⟨(hw _ (List.mem_of_getElem? (i := 49) rfl)), rfl, rfl⟩) (hw _ (List.mem_of_getElem? (i := 39) rfl)) (.head _) (ty := (.object "java/lang/String")) (by decide) rfl rfl (g := (mkF m 6 #[.val (.ref a1), .val (.ref a2), .val (.ref x)] [(.ref a2), (.ref a1)])) rfl rfl d_prog_92_method_1_6
  refine Go.by st2 ?_
  have K0_h2 : Keep h0 h2 [a1] := (Keep.refl h0 [a1]).wr W2 (Or.inl (.head _))
  have F2 : Fld Z h2 a1 "com/example/cinderpath/cinderpath/source/SourceFile" "name" "Ljava/lang/String;" (.ref a2) := pr1.same W2
  show Go _ _ _ _ (T2.setTop (mkF m 9 #[.val (.ref a1), .val (.ref a2), .val (.ref x)] []))
  refine Go.by (fun _ k => XS.aloadN X2.here X2.hx rfl (X2.cd d_prog_92_method_1_9) rfl rfl k) ?_
  show Go _ _ _ _ (T2.setTop (mkF m 10 #[.val (.ref a1), .val (.ref a2), .val (.ref x)] [(.ref a1)]))
  refine Go.by (fun _ k => XS.aloadN X2.here X2.hx rfl (X2.cd d_prog_92_method_1_10) rfl rfl k) ?_
  show Go _ _ _ _ (T2.setTop (mkF m 11 #[.val (.ref a1), .val (.ref a2), .val (.ref x)] [(.ref x), (.ref a1)]))
  have f4 : Fld Z h2 a1 "com/example/cinderpath/cinderpath/source/SourceFile" "text" "Ljava/lang/String;" v1 := (pr2).other W2 (Or.inr (slot_ne (Or.inr (hw _ (List.mem_of_getElem? (i := 51) rfl))) (Or.inr (hw _ (List.mem_of_getElem? (i := 49) rfl))) (by decide) (t := (.object "java/lang/String")) (t' := (.object "java/lang/String")) (by decide) (by decide)))
  have f5 : Exa Z h2 a1 "com/example/cinderpath/cinderpath/source/SourceFile" := (pr0).wr W2
  obtain ⟨T3, h3, X3, W3, st3⟩ := X2.putF (host := "") (Or.inl (hw _ (List.mem_of_getElem? (i := 50) rfl))) Via.refl f4 f5 (Or.inr ⟨(hw _ (List.mem_of_getElem? (i := 51) rfl)), rfl, rfl⟩) (hw _ (List.mem_of_getElem? (i := 39) rfl)) (.head _) (ty := (.object "java/lang/String")) (by decide) rfl rfl (g := (mkF m 11 #[.val (.ref a1), .val (.ref a2), .val (.ref x)] [(.ref x), (.ref a1)])) rfl rfl d_prog_92_method_1_11
  refine Go.by st3 ?_
  have K0_h3 : Keep h0 h3 [a1] := K0_h2.wr W3 (Or.inl (.head _))
  have F3 : Fld Z h3 a1 "com/example/cinderpath/cinderpath/source/SourceFile" "text" "Ljava/lang/String;" (.ref x) := f4.same W3
  show Go _ _ _ _ (T3.setTop (mkF m 14 #[.val (.ref a1), .val (.ref a2), .val (.ref x)] []))
  refine Go.by (fun _ k => XS.aloadN X3.here X3.hx rfl (X3.cd d_prog_92_method_1_14) rfl rfl k) ?_
  show Go _ _ _ _ (T3.setTop (mkF m 15 #[.val (.ref a1), .val (.ref a2), .val (.ref x)] [(.ref a1)]))
  refine Go.by (fun _ k => XS.aloadN X3.here X3.hx rfl (X3.cd d_prog_92_method_1_15) rfl rfl k) ?_
  show Go _ _ _ _ (T3.setTop (mkF m 16 #[.val (.ref a1), .val (.ref a2), .val (.ref x)] [(.ref x), (.ref a1)]))
  have f6 : Str Z h3 x t cs := ((pr4).other W2 hx1 ht1).other W3 hx1 ht1
  have lt_a1_7 := (X3.lt (.head _))
  have lt_x_7 := f6.lt
  have lt_t_7 := f6.ltT
  obtain ⟨_, T7, h7, X7, K7, ⟨ls_7, kl_7, rfl, fr_ls_7, fl_ls_7, P7_0⟩, st7⟩ := X3.stN (W := 1) (hw _ (List.mem_of_getElem? (i := 52) rfl)) (hw _ (List.mem_of_getElem? (i := 53) rfl)) (hw _ (List.mem_of_getElem? (i := 40) rfl)) (hw _ (List.mem_of_getElem? (i := 54) rfl)) (by decide) ((rm_ls l Z a0 hw n0 x t cs zc vf dd kd cq kq vq iv h3 X3.old f6 Sc nc Sf rf Sd Ad Sh Sq Aq Hq hp hc5).pay (hw _ (List.mem_of_getElem? (i := 54) rfl)) (hw _ (List.mem_of_getElem? (i := 40) rfl)) (by decide) (by decide)) all0 (g := (mkF m 16 #[.val (.ref a1), .val (.ref a2), .val (.ref x)] [(.ref x), (.ref a1)])) rfl rfl (argsL := [(.ref x)]) (rest := [(.ref a1)]) (lenOf pd_13 rfl) rfl (by exact Nat.le_of_eq rfl) d_prog_92_method_1_16 rfl (by decide) (by decide)
  refine Go.tr st7 ?_
  have K0_h7 : Keep h0 h7 [a1] := K0_h3.trans K7 all0
  have ne_a1_ls_7 : a1 ≠ ls_7 := ne_ge lt_a1_7 fr_ls_7
  have ne_x_ls_7 : x ≠ ls_7 := ne_ge lt_x_7 fr_ls_7
  have ne_t_ls_7 : t ≠ ls_7 := ne_ge lt_t_7 fr_ls_7
  have sz_ls_7 : h0.size ≤ ls_7 := Nat.le_trans X3.sz fr_ls_7
  show Go _ _ _ _ (T7.setTop (mkF m 19 #[.val (.ref a1), .val (.ref a2), .val (.ref x)] [(.ref ls_7), (.ref a1)]))
  have f9 : Fld Z h7 a1 "com/example/cinderpath/cinderpath/source/SourceFile" "lineStarts" "[I" v2 := (((pr3).other W2 (Or.inr (slot_ne (Or.inr (hw _ (List.mem_of_getElem? (i := 190) rfl))) (Or.inr (hw _ (List.mem_of_getElem? (i := 49) rfl))) (by decide) (t := (.array .int)) (t' := (.object "java/lang/String")) (by decide) (by decide)))).other W3 (Or.inr (slot_ne (Or.inr (hw _ (List.mem_of_getElem? (i := 190) rfl))) (Or.inr (hw _ (List.mem_of_getElem? (i := 51) rfl))) (by decide) (t := (.array .int)) (t' := (.object "java/lang/String")) (by decide) (by decide)))).keep K7 nin0
  have f10 : Exa Z h7 a1 "com/example/cinderpath/cinderpath/source/SourceFile" := ((f5).wr W3).keep K7
  obtain ⟨T8, h8, X8, W8, st8⟩ := X7.putF (host := "") (Or.inl (hw _ (List.mem_of_getElem? (i := 189) rfl))) Via.refl f9 f10 (Or.inr ⟨(hw _ (List.mem_of_getElem? (i := 190) rfl)), rfl, rfl⟩) (hw _ (List.mem_of_getElem? (i := 39) rfl)) (.head _) (ty := (.array .int)) (by decide) rfl rfl (g := (mkF m 19 #[.val (.ref a1), .val (.ref a2), .val (.ref x)] [(.ref ls_7), (.ref a1)])) rfl rfl d_prog_92_method_1_19
  refine Go.by st8 ?_
  have K0_h8 : Keep h0 h8 [a1] := K0_h7.wr W8 (Or.inl (.head _))
  have F8 : Fld Z h8 a1 "com/example/cinderpath/cinderpath/source/SourceFile" "lineStarts" "[I" (.ref ls_7) := f9.same W8
  show Go _ _ _ _ (T8.setTop (mkF m 22 #[.val (.ref a1), .val (.ref a2), .val (.ref x)] []))
  have f11 : Arv Z h8 ls_7 kl_7 .int (Int32.ofNat (own_pre cs cs.length).length) ((own_pre cs cs.length).map fun n => Value.int (Int32.ofNat n)) (.int (0 : Int32)) := (P7_0).other W8 ne_a1_ls_7.symm
  exact X8.retV d_prog_92_method_1_22 K0_h8 ⟨ls_7, kl_7, rfl, sz_ls_7, f11.lt, F8, f11⟩ (by decide) (by decide)
theorem ef_rm_poi (m : MethodId) (x0 : Addr) (x1 : Int32) (x2 : Int32) : entryFrame m #[(.ref x0), (.int x1), (.int x2)] 3 = mkF m 0 #[.val (.ref x0), .val (.int x1), .val (.int x2)] [] := by first | (simp [entryFrame, mkF, argsToLocals, Value.category]; done) | rfl
def Q_rm_poi (Z : State) (a1 : Addr) (va : Int32) (vb : Int32) (u0 : Value) (u1 : Value) (h0 : Heap) (ov : Option Value) (hz : Heap) : Prop := ov = none ∧ Fld Z hz a1 "com/example/cinderpath/cinderpath/source/Position" "line" "I" (.int va) ∧ Fld Z hz a1 "com/example/cinderpath/cinderpath/source/Position" "column" "I" (.int vb)
theorem pn_10 : plainName "com/example/cinderpath/cinderpath/source/Position" = true := by first | (simp [plainName, overriddenIn]; done) | decide +kernel
theorem d_prog_91_method_1_0 : decode prog_91_method_1_code 0 = .ok (.aload_n 0, 1) := by decide +kernel
theorem d_prog_91_method_1_1 : decode prog_91_method_1_code 1 = .ok (.invokespecial 1, 3) := by decide +kernel
theorem d_prog_91_method_1_4 : decode prog_91_method_1_code 4 = .ok (.aload_n 0, 1) := by decide +kernel
theorem d_prog_91_method_1_5 : decode prog_91_method_1_code 5 = .ok (.iload_n 1, 1) := by decide +kernel
theorem d_prog_91_method_1_6 : decode prog_91_method_1_code 6 = .ok (.putfield 7, 3) := by decide +kernel
theorem d_prog_91_method_1_9 : decode prog_91_method_1_code 9 = .ok (.aload_n 0, 1) := by decide +kernel
theorem d_prog_91_method_1_10 : decode prog_91_method_1_code 10 = .ok (.iload_n 2, 1) := by decide +kernel
theorem d_prog_91_method_1_11 : decode prog_91_method_1_code 11 = .ok (.putfield 13, 3) := by decide +kernel
theorem d_prog_91_method_1_14 : decode prog_91_method_1_code 14 = .ok (.return_, 1) := by decide +kernel
abbrev RM_rm_poi : Room := { frames := 2, cells := 0, slots := 0, locals := 24 }
set_option maxRecDepth 65536 in
set_option maxHeartbeats 40000000 in
theorem rm_poi (l : Launch) (Z : State) (a0 : Array Value) (hw : ∀ d ∈ tables_1, d.before a0 Z = true) (n0 : Nat) (a1 : Addr) (va : Int32) (vb : Int32) (u0 : Value) (u1 : Value) (h0 : Heap) (hO : Old Z n0 h0) (pr0 : Exa Z h0 a1 "com/example/cinderpath/cinderpath/source/Position") (pr1 : Fld Z h0 a1 "com/example/cinderpath/cinderpath/source/Position" "line" "I" u0) (pr2 : Fld Z h0 a1 "com/example/cinderpath/cinderpath/source/Position" "column" "I" u1) (g_a1 : n0 ≤ a1) (l_a1 : a1 < h0.size) :
    Ct l (⟨"com/example/cinderpath/cinderpath/source/Position", "<init>", "(II)V"⟩ : MethodName) prog_91_method_1_code 3 none [] RM_rm_poi Z n0 #[(.ref a1), (.int va), (.int vb)] h0 [a1] (Q_rm_poi Z a1 va vb u0 u1 h0) := by
  refine Ct.of_walk (plainFor_of_name pn_10) hO (allS ⟨g_a1, l_a1⟩ all0) ?_
  intro p e s m below meth c T0 X0
  rw [ef_rm_poi m a1 va vb]
  show Go _ _ _ _ (T0.setTop (mkF m 0 #[.val (.ref a1), .val (.int va), .val (.int vb)] []))
  refine Go.by (fun _ k => XS.aloadN X0.here X0.hx rfl (X0.cd d_prog_91_method_1_0) rfl rfl k) ?_
  show Go _ _ _ _ (T0.setTop (mkF m 1 #[.val (.ref a1), .val (.int va), .val (.int vb)] [(.ref a1)]))
  obtain ⟨_, T1, h1, X1, K1, ⟨rfl, rfl⟩, st1⟩ := X0.spN (W := 0) rfl (hw _ (List.mem_of_getElem? (i := 202) rfl)) (hw _ (List.mem_of_getElem? (i := 203) rfl)) (hw _ (List.mem_of_getElem? (i := 206) rfl)) (by decide) ((rm_rec l Z a0 hw n0 a1 h0 X0.old ).pay (hw _ (List.mem_of_getElem? (i := 206) rfl)) (hw _ (List.mem_of_getElem? (i := 205) rfl)) (by decide) (by decide)) all0 (g := (mkF m 1 #[.val (.ref a1), .val (.int va), .val (.int vb)] [(.ref a1)])) rfl rfl (a := a1) (argsL := []) (rest := []) (lenOf pd_2 rfl) rfl (by exact Nat.le_of_eq rfl) d_prog_91_method_1_1 rfl (by decide) (by decide)
  refine Go.tr st1 ?_
  show Go _ _ _ _ (T1.setTop (mkF m 4 #[.val (.ref a1), .val (.int va), .val (.int vb)] []))
  refine Go.by (fun _ k => XS.aloadN X1.here X1.hx rfl (X1.cd d_prog_91_method_1_4) rfl rfl k) ?_
  show Go _ _ _ _ (T1.setTop (mkF m 5 #[.val (.ref a1), .val (.int va), .val (.int vb)] [(.ref a1)]))
  refine Go.by (fun _ k => XS.iloadN X1.here X1.hx rfl (X1.cd d_prog_91_method_1_5) rfl  k) ?_
  show Go _ _ _ _ (T1.setTop (mkF m 6 #[.val (.ref a1), .val (.int va), .val (.int vb)] [(.int va), (.ref a1)]))
  obtain ⟨T2, h2, X2, W2, st2⟩ := X1.putF (host := "") (Or.inl (hw _ (List.mem_of_getElem? (i := 208) rfl))) Via.refl pr1 pr0 (Or.inr ⟨(hw _ (List.mem_of_getElem? (i := 209) rfl)), rfl, rfl⟩) (hw _ (List.mem_of_getElem? (i := 197) rfl)) (.head _) (ty := .int) (by decide) rfl rfl (g := (mkF m 6 #[.val (.ref a1), .val (.int va), .val (.int vb)] [(.int va), (.ref a1)])) rfl rfl d_prog_91_method_1_6
  refine Go.by st2 ?_
  have K0_h2 : Keep h0 h2 [a1] := (Keep.refl h0 [a1]).wr W2 (Or.inl (.head _))
  have F2 : Fld Z h2 a1 "com/example/cinderpath/cinderpath/source/Position" "line" "I" (.int va) := pr1.same W2
  show Go _ _ _ _ (T2.setTop (mkF m 9 #[.val (.ref a1), .val (.int va), .val (.int vb)] []))
  refine Go.by (fun _ k => XS.aloadN X2.here X2.hx rfl (X2.cd d_prog_91_method_1_9) rfl rfl k) ?_
  show Go _ _ _ _ (T2.setTop (mkF m 10 #[.val (.ref a1), .val (.int va), .val (.int vb)] [(.ref a1)]))
  refine Go.by (fun _ k => XS.iloadN X2.here X2.hx rfl (X2.cd d_prog_91_method_1_10) rfl  k) ?_
  show Go _ _ _ _ (T2.setTop (mkF m 11 #[.val (.ref a1), .val (.int va), .val (.int vb)] [(.int vb), (.ref a1)]))
  have f4 : Fld Z h2 a1 "com/example/cinderpath/cinderpath/source/Position" "column" "I" u1 := (pr2).other W2 (Or.inr (slot_ne (Or.inr (hw _ (List.mem_of_getElem? (i := 211) rfl))) (Or.inr (hw _ (List.mem_of_getElem? (i := 209) rfl))) (by decide) (t := .int) (t' := .int) (by decide) (by decide)))
  have f5 : Exa Z h2 a1 "com/example/cinderpath/cinderpath/source/Position" := (pr0).wr W2
  obtain ⟨T3, h3, X3, W3, st3⟩ := X2.putF (host := "") (Or.inl (hw _ (List.mem_of_getElem? (i := 210) rfl))) Via.refl f4 f5 (Or.inr ⟨(hw _ (List.mem_of_getElem? (i := 211) rfl)), rfl, rfl⟩) (hw _ (List.mem_of_getElem? (i := 197) rfl)) (.head _) (ty := .int) (by decide) rfl rfl (g := (mkF m 11 #[.val (.ref a1), .val (.int va), .val (.int vb)] [(.int vb), (.ref a1)])) rfl rfl d_prog_91_method_1_11
  refine Go.by st3 ?_
  have K0_h3 : Keep h0 h3 [a1] := K0_h2.wr W3 (Or.inl (.head _))
  have F3 : Fld Z h3 a1 "com/example/cinderpath/cinderpath/source/Position" "column" "I" (.int vb) := f4.same W3
  show Go _ _ _ _ (T3.setTop (mkF m 14 #[.val (.ref a1), .val (.int va), .val (.int vb)] []))
  have f6 : Fld Z h3 a1 "com/example/cinderpath/cinderpath/source/Position" "line" "I" (.int va) := (F2).other W3 (Or.inr (slot_ne (Or.inr (hw _ (List.mem_of_getElem? (i := 209) rfl))) (Or.inr (hw _ (List.mem_of_getElem? (i := 211) rfl))) (by decide) (t := .int) (t' := .int) (by decide) (by decide)))
  exact X3.retV d_prog_91_method_1_14 K0_h3 ⟨rfl, f6, F3⟩ (by decide) (by decide)
theorem ef_rm_gl (m : MethodId) (x0 : Addr) : entryFrame m #[(.ref x0)] 1 = mkF m 0 #[.val (.ref x0)] [] := by first | (simp [entryFrame, mkF, argsToLocals, Value.category]; done) | rfl
def Q_rm_gl (Z : State) (a1 : Addr) (va : Int32) (h0 : Heap) (ov : Option Value) (hz : Heap) : Prop := ov = some (.int va) ∧ h0 = hz
theorem d_prog_91_method_5_0 : decode prog_91_method_5_code 0 = .ok (.aload_n 0, 1) := by decide +kernel
theorem d_prog_91_method_5_1 : decode prog_91_method_5_code 1 = .ok (.getfield 7, 3) := by decide +kernel
theorem d_prog_91_method_5_4 : decode prog_91_method_5_code 4 = .ok (.ireturn, 1) := by decide +kernel
abbrev RM_rm_gl : Room := { frames := 0, cells := 0, slots := 0, locals := 0 }
set_option maxRecDepth 65536 in
set_option maxHeartbeats 40000000 in
theorem rm_gl (l : Launch) (Z : State) (a0 : Array Value) (hw : ∀ d ∈ tables_1, d.before a0 Z = true) (n0 : Nat) (a1 : Addr) (va : Int32) (h0 : Heap) (hO : Old Z n0 h0) (pr0 : Fld Z h0 a1 "com/example/cinderpath/cinderpath/source/Position" "line" "I" (.int va)) :
    Ct l (⟨"com/example/cinderpath/cinderpath/source/Position", "line", "()I"⟩ : MethodName) prog_91_method_5_code 1 (some .int) [] RM_rm_gl Z n0 #[(.ref a1)] h0 [] (Q_rm_gl Z a1 va h0) := by
  refine Ct.of_walk (plainFor_of_name pn_10) hO all0 ?_
  intro p e s m below meth c T0 X0
  rw [ef_rm_gl m a1]
  show Go _ _ _ _ (T0.setTop (mkF m 0 #[.val (.ref a1)] []))
  refine Go.by (fun _ k => XS.aloadN X0.here X0.hx rfl (X0.cd d_prog_91_method_5_0) rfl rfl k) ?_
  show Go _ _ _ _ (T0.setTop (mkF m 1 #[.val (.ref a1)] [(.ref a1)]))
  obtain ⟨T1, X1, st1⟩ := X0.getF (host := "") (Or.inl (hw _ (List.mem_of_getElem? (i := 208) rfl))) Via.refl pr0 (g := (mkF m 1 #[.val (.ref a1)] [(.ref a1)])) rfl rfl d_prog_91_method_5_1
  refine Go.by st1 ?_
  show Go _ _ _ _ (T1.setTop (mkF m 4 #[.val (.ref a1)] [(.int va)]))
  exact X1.retI d_prog_91_method_5_4 (Keep.refl h0 []) ⟨rfl, rfl⟩ (by decide) (by decide)
theorem ef_rm_gc (m : MethodId) (x0 : Addr) : entryFrame m #[(.ref x0)] 1 = mkF m 0 #[.val (.ref x0)] [] := by first | (simp [entryFrame, mkF, argsToLocals, Value.category]; done) | rfl
def Q_rm_gc (Z : State) (a1 : Addr) (va : Int32) (h0 : Heap) (ov : Option Value) (hz : Heap) : Prop := ov = some (.int va) ∧ h0 = hz
theorem d_prog_91_method_6_0 : decode prog_91_method_6_code 0 = .ok (.aload_n 0, 1) := by decide +kernel
theorem d_prog_91_method_6_1 : decode prog_91_method_6_code 1 = .ok (.getfield 13, 3) := by decide +kernel
theorem d_prog_91_method_6_4 : decode prog_91_method_6_code 4 = .ok (.ireturn, 1) := by decide +kernel
abbrev RM_rm_gc : Room := { frames := 0, cells := 0, slots := 0, locals := 0 }
set_option maxRecDepth 65536 in
set_option maxHeartbeats 40000000 in
theorem rm_gc (l : Launch) (Z : State) (a0 : Array Value) (hw : ∀ d ∈ tables_1, d.before a0 Z = true) (n0 : Nat) (a1 : Addr) (va : Int32) (h0 : Heap) (hO : Old Z n0 h0) (pr0 : Fld Z h0 a1 "com/example/cinderpath/cinderpath/source/Position" "column" "I" (.int va)) :
    Ct l (⟨"com/example/cinderpath/cinderpath/source/Position", "column", "()I"⟩ : MethodName) prog_91_method_6_code 1 (some .int) [] RM_rm_gc Z n0 #[(.ref a1)] h0 [] (Q_rm_gc Z a1 va h0) := by
  refine Ct.of_walk (plainFor_of_name pn_10) hO all0 ?_
  intro p e s m below meth c T0 X0
  rw [ef_rm_gc m a1]
  show Go _ _ _ _ (T0.setTop (mkF m 0 #[.val (.ref a1)] []))
  refine Go.by (fun _ k => XS.aloadN X0.here X0.hx rfl (X0.cd d_prog_91_method_6_0) rfl rfl k) ?_
  show Go _ _ _ _ (T0.setTop (mkF m 1 #[.val (.ref a1)] [(.ref a1)]))
  obtain ⟨T1, X1, st1⟩ := X0.getF (host := "") (Or.inl (hw _ (List.mem_of_getElem? (i := 210) rfl))) Via.refl pr0 (g := (mkF m 1 #[.val (.ref a1)] [(.ref a1)])) rfl rfl d_prog_91_method_6_1
  refine Go.by st1 ?_
  show Go _ _ _ _ (T1.setTop (mkF m 4 #[.val (.ref a1)] [(.int va)]))
  exact X1.retI d_prog_91_method_6_4 (Keep.refl h0 []) ⟨rfl, rfl⟩ (by decide) (by decide)
theorem ef_rm_pos (m : MethodId) (x0 : Addr) (x1 : Int32) : entryFrame m #[(.ref x0), (.int x1)] 5 = mkF m 0 #[.val (.ref x0), .val (.int x1), .unset, .unset, .unset] [] := by first | (simp [entryFrame, mkF, argsToLocals, Value.category]; done) | rfl
def Q_rm_pos (Z : State) (a1 : Addr) (oo : Nat) (ls : Addr) (kl : ClassId) (ns : List Nat) (h0 : Heap) (ov : Option Value) (hz : Heap) : Prop := ∃ (pp : Addr), ∃ (r : Nat), ov = some (.ref pp) ∧ h0.size ≤ pp ∧ pp < hz.size ∧ Exa Z hz pp "com/example/cinderpath/cinderpath/source/Position" ∧ Fld Z hz pp "com/example/cinderpath/cinderpath/source/Position" "line" "I" (.int (Int32.ofNat r + (1 : Int32))) ∧ Fld Z hz pp "com/example/cinderpath/cinderpath/source/Position" "column" "I" (.int ((Int32.ofNat oo - Int32.ofNat (ns.getD r 0)) + (1 : Int32))) ∧ (r < ns.length ∧ ns.getD r 0 ≤ oo ∧ (r + 1 < ns.length → oo < ns.getD (r + 1) 0))
theorem d_prog_92_method_5_0 : decode prog_92_method_5_code 0 = .ok (.iconst 0, 1) := by decide +kernel
theorem d_prog_92_method_5_1 : decode prog_92_method_5_code 1 = .ok (.istore_n 2, 1) := by decide +kernel
theorem d_prog_92_method_5_2 : decode prog_92_method_5_code 2 = .ok (.aload_n 0, 1) := by decide +kernel
theorem d_prog_92_method_5_3 : decode prog_92_method_5_code 3 = .ok (.getfield 20, 3) := by decide +kernel
theorem d_prog_92_method_5_6 : decode prog_92_method_5_code 6 = .ok (.arraylength, 1) := by decide +kernel
theorem d_prog_92_method_5_7 : decode prog_92_method_5_code 7 = .ok (.iconst 1, 1) := by decide +kernel
theorem d_prog_92_method_5_8 : decode prog_92_method_5_code 8 = .ok (.isub, 1) := by decide +kernel
theorem d_prog_92_method_5_9 : decode prog_92_method_5_code 9 = .ok (.istore_n 3, 1) := by decide +kernel
theorem d_prog_92_method_5_10 : decode prog_92_method_5_code 10 = .ok (.iload_n 2, 1) := by decide +kernel
theorem d_prog_92_method_5_11 : decode prog_92_method_5_code 11 = .ok (.iload_n 3, 1) := by decide +kernel
theorem d_prog_92_method_5_12 : decode prog_92_method_5_code 12 = .ok (.if_icmp .ge 37, 3) := by decide +kernel
theorem d_prog_92_method_5_49 : decode prog_92_method_5_code 49 = .ok (.new 49, 3) := by decide +kernel
theorem d_prog_92_method_5_52 : decode prog_92_method_5_code 52 = .ok (.dup, 1) := by decide +kernel
theorem d_prog_92_method_5_53 : decode prog_92_method_5_code 53 = .ok (.iload_n 2, 1) := by decide +kernel
theorem d_prog_92_method_5_54 : decode prog_92_method_5_code 54 = .ok (.iconst 1, 1) := by decide +kernel
theorem d_prog_92_method_5_55 : decode prog_92_method_5_code 55 = .ok (.iadd, 1) := by decide +kernel
theorem d_prog_92_method_5_56 : decode prog_92_method_5_code 56 = .ok (.iload_n 1, 1) := by decide +kernel
theorem d_prog_92_method_5_57 : decode prog_92_method_5_code 57 = .ok (.aload_n 0, 1) := by decide +kernel
theorem d_prog_92_method_5_58 : decode prog_92_method_5_code 58 = .ok (.getfield 20, 3) := by decide +kernel
theorem d_prog_92_method_5_61 : decode prog_92_method_5_code 61 = .ok (.iload_n 2, 1) := by decide +kernel
theorem d_prog_92_method_5_62 : decode prog_92_method_5_code 62 = .ok (.iaload, 1) := by decide +kernel
theorem d_prog_92_method_5_63 : decode prog_92_method_5_code 63 = .ok (.isub, 1) := by decide +kernel
theorem d_prog_92_method_5_64 : decode prog_92_method_5_code 64 = .ok (.iconst 1, 1) := by decide +kernel
theorem d_prog_92_method_5_65 : decode prog_92_method_5_code 65 = .ok (.iadd, 1) := by decide +kernel
theorem pd_14 : parseMethodDescriptor "(II)V" = some ⟨[.int, .int], none⟩ := by decide +kernel
theorem d_prog_92_method_5_66 : decode prog_92_method_5_code 66 = .ok (.invokespecial 51, 3) := by decide +kernel
theorem d_prog_92_method_5_69 : decode prog_92_method_5_code 69 = .ok (.areturn, 1) := by decide +kernel
theorem d_prog_92_method_5_15 : decode prog_92_method_5_code 15 = .ok (.iload_n 2, 1) := by decide +kernel
theorem d_prog_92_method_5_16 : decode prog_92_method_5_code 16 = .ok (.iload_n 3, 1) := by decide +kernel
theorem d_prog_92_method_5_17 : decode prog_92_method_5_code 17 = .ok (.iadd, 1) := by decide +kernel
theorem d_prog_92_method_5_18 : decode prog_92_method_5_code 18 = .ok (.iconst 1, 1) := by decide +kernel
theorem d_prog_92_method_5_19 : decode prog_92_method_5_code 19 = .ok (.iadd, 1) := by decide +kernel
theorem d_prog_92_method_5_20 : decode prog_92_method_5_code 20 = .ok (.iconst 1, 1) := by decide +kernel
theorem d_prog_92_method_5_21 : decode prog_92_method_5_code 21 = .ok (.iushr, 1) := by decide +kernel
theorem d_prog_92_method_5_22 : decode prog_92_method_5_code 22 = .ok (.istore 4, 2) := by decide +kernel
theorem d_prog_92_method_5_24 : decode prog_92_method_5_code 24 = .ok (.aload_n 0, 1) := by decide +kernel
theorem d_prog_92_method_5_25 : decode prog_92_method_5_code 25 = .ok (.getfield 20, 3) := by decide +kernel
theorem d_prog_92_method_5_28 : decode prog_92_method_5_code 28 = .ok (.iload 4, 2) := by decide +kernel
theorem d_prog_92_method_5_30 : decode prog_92_method_5_code 30 = .ok (.iaload, 1) := by decide +kernel
theorem d_prog_92_method_5_31 : decode prog_92_method_5_code 31 = .ok (.iload_n 1, 1) := by decide +kernel
theorem d_prog_92_method_5_32 : decode prog_92_method_5_code 32 = .ok (.if_icmp .gt 9, 3) := by decide +kernel
theorem d_prog_92_method_5_41 : decode prog_92_method_5_code 41 = .ok (.iload 4, 2) := by decide +kernel
theorem d_prog_92_method_5_43 : decode prog_92_method_5_code 43 = .ok (.iconst 1, 1) := by decide +kernel
theorem d_prog_92_method_5_44 : decode prog_92_method_5_code 44 = .ok (.isub, 1) := by decide +kernel
theorem d_prog_92_method_5_45 : decode prog_92_method_5_code 45 = .ok (.istore_n 3, 1) := by decide +kernel
theorem d_prog_92_method_5_46 : decode prog_92_method_5_code 46 = .ok (.goto (-36), 3) := by decide +kernel
theorem d_prog_92_method_5_35 : decode prog_92_method_5_code 35 = .ok (.iload 4, 2) := by decide +kernel
theorem d_prog_92_method_5_37 : decode prog_92_method_5_code 37 = .ok (.istore_n 2, 1) := by decide +kernel
theorem d_prog_92_method_5_38 : decode prog_92_method_5_code 38 = .ok (.goto 8, 3) := by decide +kernel
abbrev RM_rm_pos : Room := { frames := 3, cells := 1, slots := 2, locals := 39 }
set_option maxRecDepth 65536 in
set_option maxHeartbeats 40000000 in
theorem rm_pos (l : Launch) (Z : State) (a0 : Array Value) (hw : ∀ d ∈ tables_1, d.before a0 Z = true) (n0 : Nat) (a1 : Addr) (oo : Nat) (ls : Addr) (kl : ClassId) (ns : List Nat) (h0 : Heap) (hO : Old Z n0 h0) (pr0 : Fld Z h0 a1 "com/example/cinderpath/cinderpath/source/SourceFile" "lineStarts" "[I" (.ref ls)) (pr1 : Arv Z h0 ls kl .int (Int32.ofNat ns.length) (ns.map fun n => Value.int (Int32.ofNat n)) (.int (0 : Int32))) (hl1 : 1 ≤ ns.length) (hl6 : ns.length ≤ 6) (hh : ns.getD 0 0 ≤ oo) (hb : ∀ j, ns.getD j 0 ≤ 5) (ho : oo ≤ 5) :
    Ct l (⟨"com/example/cinderpath/cinderpath/source/SourceFile", "position", "(I)Lcom/example/cinderpath/cinderpath/source/Position;"⟩ : MethodName) prog_92_method_5_code 5 (some (.object "com/example/cinderpath/cinderpath/source/Position")) [] RM_rm_pos Z n0 #[(.ref a1), (.int (Int32.ofNat oo))] h0 [] (Q_rm_pos Z a1 oo ls kl ns h0) := by
  refine Ct.of_walk (plainFor_of_name pn_9) hO all0 ?_
  intro p e s m below meth c T0 X0
  rw [ef_rm_pos m a1 (Int32.ofNat oo)]
  show Go _ _ _ _ (T0.setTop (mkF m 0 #[.val (.ref a1), .val (.int (Int32.ofNat oo)), .unset, .unset, .unset] []))
  refine Go.by (fun _ k => XS.iconst X0.here X0.hx rfl (X0.cd d_prog_92_method_5_0)  k) ?_
  show Go _ _ _ _ (T0.setTop (mkF m 1 #[.val (.ref a1), .val (.int (Int32.ofNat oo)), .unset, .unset, .unset] [(.int (0 : Int32))]))
  refine Go.by (fun _ k => XS.istoreN X0.here X0.hx rfl (X0.cd d_prog_92_method_5_1) rfl (l' := #[.val (.ref a1), .val (.int (Int32.ofNat oo)), .val (.int (0 : Int32)), .unset, .unset]) rfl k) ?_
  show Go _ _ _ _ (T0.setTop (mkF m 2 #[.val (.ref a1), .val (.int (Int32.ofNat oo)), .val (.int (0 : Int32)), .unset, .unset] []))
  refine Go.by (fun _ k => XS.aloadN X0.here X0.hx rfl (X0.cd d_prog_92_method_5_2) rfl rfl k) ?_
  show Go _ _ _ _ (T0.setTop (mkF m 3 #[.val (.ref a1), .val (.int (Int32.ofNat oo)), .val (.int (0 : Int32)), .unset, .unset] [(.ref a1)]))
  obtain ⟨T1, X1, st1⟩ := X0.getF (host := "") (Or.inl (hw _ (List.mem_of_getElem? (i := 189) rfl))) Via.refl pr0 (g := (mkF m 3 #[.val (.ref a1), .val (.int (Int32.ofNat oo)), .val (.int (0 : Int32)), .unset, .unset] [(.ref a1)])) rfl rfl d_prog_92_method_5_3
  refine Go.by st1 ?_
  show Go _ _ _ _ (T1.setTop (mkF m 6 #[.val (.ref a1), .val (.int (Int32.ofNat oo)), .val (.int (0 : Int32)), .unset, .unset] [(.ref ls)]))
  refine Go.by (fun _ k => X1.len pr1 (g := (mkF m 6 #[.val (.ref a1), .val (.int (Int32.ofNat oo)), .val (.int (0 : Int32)), .unset, .unset] [(.ref ls)])) rfl rfl d_prog_92_method_5_6 _ k) ?_
  show Go _ _ _ _ (T1.setTop (mkF m 7 #[.val (.ref a1), .val (.int (Int32.ofNat oo)), .val (.int (0 : Int32)), .unset, .unset] [(.int (Int32.ofNat ns.length))]))
  refine Go.by (fun _ k => XS.iconst X1.here X1.hx rfl (X1.cd d_prog_92_method_5_7)  k) ?_
  show Go _ _ _ _ (T1.setTop (mkF m 8 #[.val (.ref a1), .val (.int (Int32.ofNat oo)), .val (.int (0 : Int32)), .unset, .unset] [(.int (1 : Int32)), (.int (Int32.ofNat ns.length))]))
  refine Go.by (fun _ k => XS.isub X1.here X1.hx rfl (X1.cd d_prog_92_method_5_8) rfl k) ?_
  show Go _ _ _ _ (T1.setTop (mkF m 9 #[.val (.ref a1), .val (.int (Int32.ofNat oo)), .val (.int (0 : Int32)), .unset, .unset] [(.int ((Int32.ofNat ns.length) - (1 : Int32)))]))
  rw [own_pred hl1]
  show Go _ _ _ _ (T1.setTop (mkF m 9 #[.val (.ref a1), .val (.int (Int32.ofNat oo)), .val (.int (0 : Int32)), .unset, .unset] [(.int (Int32.ofNat (ns.length - 1)))]))
  refine Go.by (fun _ k => XS.istoreN X1.here X1.hx rfl (X1.cd d_prog_92_method_5_9) rfl (l' := #[.val (.ref a1), .val (.int (Int32.ofNat oo)), .val (.int (0 : Int32)), .val (.int (Int32.ofNat (ns.length - 1))), .unset]) rfl k) ?_
  show Go _ _ _ _ (T1.setTop (mkF m 10 #[.val (.ref a1), .val (.int (Int32.ofNat oo)), .val (.int (0 : Int32)), .val (.int (Int32.ofNat (ns.length - 1))), .unset] []))
  have loop : ∀ (mm : Nat) (lo : Nat) (hi : Nat) (sl : Slot) (TL : State), (Wk false p l e RM_rm_pos s m #[(.ref a1), (.int (Int32.ofNat oo))] below meth c Z [] (⟨"com/example/cinderpath/cinderpath/source/SourceFile", "position", "(I)Lcom/example/cinderpath/cinderpath/source/Position;"⟩ : MethodName) prog_92_method_5_code 5 (some (.object "com/example/cinderpath/cinderpath/source/Position")) n0 h0 TL h0 [] 0 0) → (lo ≤ hi) → (hi < ns.length) → (ns.getD lo 0 ≤ oo) → (hi + 1 < ns.length → oo < ns.getD (hi + 1) 0) → (hi ≤ lo + mm) → (sl = .unset ∨ ∃ z, sl = .val (.int z)) → Go p e below (Fi false RM_rm_pos s Z [] n0 h0 [] (Q_rm_pos Z a1 oo ls kl ns h0)) (TL.setTop (mkF m 10 #[.val (.ref a1), .val (.int (Int32.ofNat oo)), .val (.int (Int32.ofNat lo)), .val (.int (Int32.ofNat hi)), sl] [])) := by
    intro mm
    induction mm with
    | zero =>
      intro lo hi sl TL XL q1 q2 q3 q4 q5 q6
      show Go _ _ _ _ (TL.setTop (mkF m 10 #[.val (.ref a1), .val (.int (Int32.ofNat oo)), .val (.int (Int32.ofNat lo)), .val (.int (Int32.ofNat hi)), sl] []))
      refine Go.by (fun _ k => XS.iloadN XL.here XL.hx rfl (XL.cd d_prog_92_method_5_10) rfl  k) ?_
      show Go _ _ _ _ (TL.setTop (mkF m 11 #[.val (.ref a1), .val (.int (Int32.ofNat oo)), .val (.int (Int32.ofNat lo)), .val (.int (Int32.ofNat hi)), sl] [(.int (Int32.ofNat lo))]))
      refine Go.by (fun _ k => XS.iloadN XL.here XL.hx rfl (XL.cd d_prog_92_method_5_11) rfl  k) ?_
      show Go _ _ _ _ (TL.setTop (mkF m 12 #[.val (.ref a1), .val (.int (Int32.ofNat oo)), .val (.int (Int32.ofNat lo)), .val (.int (Int32.ofNat hi)), sl] [(.int (Int32.ofNat hi)), (.int (Int32.ofNat lo))]))
      refine Go.by (fun _ k => XS.icmpYes XL.here XL.hx rfl (pc0 := 12) (pc' := 49) rfl (XL.cd d_prog_92_method_5_12) rfl (XT.ii_ge_t (fun q => by have := (on_lt (by omega) (by omega)).mp q; omega)) (by decide) (by decide) k) ?_
      show Go _ _ _ _ (TL.setTop (mkF m 49 #[.val (.ref a1), .val (.int (Int32.ofNat oo)), .val (.int (Int32.ofNat lo)), .val (.int (Int32.ofNat hi)), sl] []))
      have lt_a1_2 := pr0.lt
      have lt_ls_2 := pr1.lt
      obtain ⟨T2, h2, b2, g_b2, X2, E2, A2, D2, st2⟩ := XL.new (hw _ (List.mem_of_getElem? (i := 196) rfl)) (hw _ (List.mem_of_getElem? (i := 197) rfl)) (hw _ (List.mem_of_getElem? (i := 198) rfl)) (g := (mkF m 49 #[.val (.ref a1), .val (.int (Int32.ofNat oo)), .val (.int (Int32.ofNat lo)), .val (.int (Int32.ofNat hi)), sl] [])) rfl d_prog_92_method_5_49 (by decide) (by decide)
      refine Go.by st2 ?_
      have ne_a1_b2 : a1 ≠ b2 := ne_new lt_a1_2 g_b2
      have ne_ls_b2 : ls ≠ b2 := ne_new lt_ls_2 g_b2
      have sz_b2 : h0.size ≤ b2 := Nat.le_trans XL.sz (Nat.le_of_eq g_b2.symm)
      have K0_h2 : Keep h0 h2 [] := (Keep.refl h0 []).ext E2
      have F2_line : Fld Z h2 b2 "com/example/cinderpath/cinderpath/source/Position" "line" "I" (.int (0 : Int32)) := D2 (Or.inr (hw _ (List.mem_of_getElem? (i := 209) rfl))) (ty := .int) (by decide)
      have F2_column : Fld Z h2 b2 "com/example/cinderpath/cinderpath/source/Position" "column" "I" (.int (0 : Int32)) := D2 (Or.inr (hw _ (List.mem_of_getElem? (i := 211) rfl))) (ty := .int) (by decide)
      show Go _ _ _ _ (T2.setTop (mkF m 52 #[.val (.ref a1), .val (.int (Int32.ofNat oo)), .val (.int (Int32.ofNat lo)), .val (.int (Int32.ofNat hi)), sl] [(.ref b2)]))
      refine Go.by (fun _ k => XS.dup X2.here X2.hx rfl (X2.cd d_prog_92_method_5_52) rfl rfl k) ?_
      show Go _ _ _ _ (T2.setTop (mkF m 53 #[.val (.ref a1), .val (.int (Int32.ofNat oo)), .val (.int (Int32.ofNat lo)), .val (.int (Int32.ofNat hi)), sl] [(.ref b2), (.ref b2)]))
      refine Go.by (fun _ k => XS.iloadN X2.here X2.hx rfl (X2.cd d_prog_92_method_5_53) rfl  k) ?_
      show Go _ _ _ _ (T2.setTop (mkF m 54 #[.val (.ref a1), .val (.int (Int32.ofNat oo)), .val (.int (Int32.ofNat lo)), .val (.int (Int32.ofNat hi)), sl] [(.int (Int32.ofNat lo)), (.ref b2), (.ref b2)]))
      refine Go.by (fun _ k => XS.iconst X2.here X2.hx rfl (X2.cd d_prog_92_method_5_54)  k) ?_
      show Go _ _ _ _ (T2.setTop (mkF m 55 #[.val (.ref a1), .val (.int (Int32.ofNat oo)), .val (.int (Int32.ofNat lo)), .val (.int (Int32.ofNat hi)), sl] [(.int (1 : Int32)), (.int (Int32.ofNat lo)), (.ref b2), (.ref b2)]))
      refine Go.by (fun _ k => XS.iadd X2.here X2.hx rfl (X2.cd d_prog_92_method_5_55) rfl k) ?_
      show Go _ _ _ _ (T2.setTop (mkF m 56 #[.val (.ref a1), .val (.int (Int32.ofNat oo)), .val (.int (Int32.ofNat lo)), .val (.int (Int32.ofNat hi)), sl] [(.int ((Int32.ofNat lo) + (1 : Int32))), (.ref b2), (.ref b2)]))
      refine Go.by (fun _ k => XS.iloadN X2.here X2.hx rfl (X2.cd d_prog_92_method_5_56) rfl  k) ?_
      show Go _ _ _ _ (T2.setTop (mkF m 57 #[.val (.ref a1), .val (.int (Int32.ofNat oo)), .val (.int (Int32.ofNat lo)), .val (.int (Int32.ofNat hi)), sl] [(.int (Int32.ofNat oo)), (.int ((Int32.ofNat lo) + (1 : Int32))), (.ref b2), (.ref b2)]))
      refine Go.by (fun _ k => XS.aloadN X2.here X2.hx rfl (X2.cd d_prog_92_method_5_57) rfl rfl k) ?_
      show Go _ _ _ _ (T2.setTop (mkF m 58 #[.val (.ref a1), .val (.int (Int32.ofNat oo)), .val (.int (Int32.ofNat lo)), .val (.int (Int32.ofNat hi)), sl] [(.ref a1), (.int (Int32.ofNat oo)), (.int ((Int32.ofNat lo) + (1 : Int32))), (.ref b2), (.ref b2)]))
      have f3 : Fld Z h2 a1 "com/example/cinderpath/cinderpath/source/SourceFile" "lineStarts" "[I" (.ref ls) := pr0.ext E2
      obtain ⟨T4, X4, st4⟩ := X2.getF (host := "") (Or.inl (hw _ (List.mem_of_getElem? (i := 189) rfl))) Via.refl f3 (g := (mkF m 58 #[.val (.ref a1), .val (.int (Int32.ofNat oo)), .val (.int (Int32.ofNat lo)), .val (.int (Int32.ofNat hi)), sl] [(.ref a1), (.int (Int32.ofNat oo)), (.int ((Int32.ofNat lo) + (1 : Int32))), (.ref b2), (.ref b2)])) rfl rfl d_prog_92_method_5_58
      refine Go.by st4 ?_
      show Go _ _ _ _ (T4.setTop (mkF m 61 #[.val (.ref a1), .val (.int (Int32.ofNat oo)), .val (.int (Int32.ofNat lo)), .val (.int (Int32.ofNat hi)), sl] [(.ref ls), (.int (Int32.ofNat oo)), (.int ((Int32.ofNat lo) + (1 : Int32))), (.ref b2), (.ref b2)]))
      refine Go.by (fun _ k => XS.iloadN X4.here X4.hx rfl (X4.cd d_prog_92_method_5_61) rfl  k) ?_
      show Go _ _ _ _ (T4.setTop (mkF m 62 #[.val (.ref a1), .val (.int (Int32.ofNat oo)), .val (.int (Int32.ofNat lo)), .val (.int (Int32.ofNat hi)), sl] [(.int (Int32.ofNat lo)), (.ref ls), (.int (Int32.ofNat oo)), (.int ((Int32.ofNat lo) + (1 : Int32))), (.ref b2), (.ref b2)]))
      have f5 : Arv Z h2 ls kl .int (Int32.ofNat ns.length) (ns.map fun n => Value.int (Int32.ofNat n)) (.int (0 : Int32)) := pr1.ext E2
      refine Go.by (fun _ k => X4.ldA f5 ⟨on_nn (by omega), (on_lt (by omega) (by omega)).mpr (by omega)⟩ (v := (.int (Int32.ofNat (ns.getD lo 0)))) (by rw [on_clamp (by omega)]; exact own_gi (by omega)) (Or.inl ⟨rfl, rfl⟩) (g := (mkF m 62 #[.val (.ref a1), .val (.int (Int32.ofNat oo)), .val (.int (Int32.ofNat lo)), .val (.int (Int32.ofNat hi)), sl] [(.int (Int32.ofNat lo)), (.ref ls), (.int (Int32.ofNat oo)), (.int ((Int32.ofNat lo) + (1 : Int32))), (.ref b2), (.ref b2)])) rfl rfl d_prog_92_method_5_62 _ k) ?_
      show Go _ _ _ _ (T4.setTop (mkF m 63 #[.val (.ref a1), .val (.int (Int32.ofNat oo)), .val (.int (Int32.ofNat lo)), .val (.int (Int32.ofNat hi)), sl] [(.int (Int32.ofNat (ns.getD lo 0))), (.int (Int32.ofNat oo)), (.int ((Int32.ofNat lo) + (1 : Int32))), (.ref b2), (.ref b2)]))
      refine Go.by (fun _ k => XS.isub X4.here X4.hx rfl (X4.cd d_prog_92_method_5_63) rfl k) ?_
      show Go _ _ _ _ (T4.setTop (mkF m 64 #[.val (.ref a1), .val (.int (Int32.ofNat oo)), .val (.int (Int32.ofNat lo)), .val (.int (Int32.ofNat hi)), sl] [(.int ((Int32.ofNat oo) - (Int32.ofNat (ns.getD lo 0)))), (.int ((Int32.ofNat lo) + (1 : Int32))), (.ref b2), (.ref b2)]))
      refine Go.by (fun _ k => XS.iconst X4.here X4.hx rfl (X4.cd d_prog_92_method_5_64)  k) ?_
      show Go _ _ _ _ (T4.setTop (mkF m 65 #[.val (.ref a1), .val (.int (Int32.ofNat oo)), .val (.int (Int32.ofNat lo)), .val (.int (Int32.ofNat hi)), sl] [(.int (1 : Int32)), (.int ((Int32.ofNat oo) - (Int32.ofNat (ns.getD lo 0)))), (.int ((Int32.ofNat lo) + (1 : Int32))), (.ref b2), (.ref b2)]))
      refine Go.by (fun _ k => XS.iadd X4.here X4.hx rfl (X4.cd d_prog_92_method_5_65) rfl k) ?_
      show Go _ _ _ _ (T4.setTop (mkF m 66 #[.val (.ref a1), .val (.int (Int32.ofNat oo)), .val (.int (Int32.ofNat lo)), .val (.int (Int32.ofNat hi)), sl] [(.int (((Int32.ofNat oo) - (Int32.ofNat (ns.getD lo 0))) + (1 : Int32))), (.int ((Int32.ofNat lo) + (1 : Int32))), (.ref b2), (.ref b2)]))
      obtain ⟨_, T6, h6, X6, K6, ⟨rfl, P6_0, P6_1⟩, st6⟩ := X4.spN (W := 1) rfl (hw _ (List.mem_of_getElem? (i := 199) rfl)) (hw _ (List.mem_of_getElem? (i := 200) rfl)) (hw _ (List.mem_of_getElem? (i := 201) rfl)) (by decide) ((rm_poi l Z a0 hw n0 b2 ((Int32.ofNat lo) + (1 : Int32)) (((Int32.ofNat oo) - (Int32.ofNat (ns.getD lo 0))) + (1 : Int32)) (.int (0 : Int32)) (.int (0 : Int32)) h2 X4.old A2 F2_line F2_column (X4.ge (.head _)) (X4.lt (.head _))).pay (hw _ (List.mem_of_getElem? (i := 201) rfl)) (hw _ (List.mem_of_getElem? (i := 198) rfl)) (by decide) (by decide)) (allS (.head _) all0) (g := (mkF m 66 #[.val (.ref a1), .val (.int (Int32.ofNat oo)), .val (.int (Int32.ofNat lo)), .val (.int (Int32.ofNat hi)), sl] [(.int (((Int32.ofNat oo) - (Int32.ofNat (ns.getD lo 0))) + (1 : Int32))), (.int ((Int32.ofNat lo) + (1 : Int32))), (.ref b2), (.ref b2)])) rfl rfl (a := b2) (argsL := [(.int ((Int32.ofNat lo) + (1 : Int32))), (.int (((Int32.ofNat oo) - (Int32.ofNat (ns.getD lo 0))) + (1 : Int32)))]) (rest := [(.ref b2)]) (lenOf pd_14 rfl) rfl (by exact Nat.le_of_eq rfl) d_prog_92_method_5_66 rfl (by decide) (by decide)
      refine Go.tr st6 ?_
      have K0_h6 : Keep h0 h6 [] := K0_h2.trans K6 (allS (Or.inr sz_b2) all0)
      show Go _ _ _ _ (T6.setTop (mkF m 69 #[.val (.ref a1), .val (.int (Int32.ofNat oo)), .val (.int (Int32.ofNat lo)), .val (.int (Int32.ofNat hi)), sl] [(.ref b2)]))
      have f7 : Exa Z h6 b2 "com/example/cinderpath/cinderpath/source/Position" := (A2).keep K6
      exact X6.retR rfl rfl d_prog_92_method_5_69 K0_h6 ⟨b2, lo, rfl, sz_b2, (X6.lt (.head _)), f7, P6_0, P6_1, ⟨by omega, q3, fun z => (by rw [show lo = hi from by omega] at z ⊢; exact q4 z)⟩⟩ (by decide) (by decide)
    | succ mm ih =>
      intro lo hi sl TL XL q1 q2 q3 q4 q5 q6
      show Go _ _ _ _ (TL.setTop (mkF m 10 #[.val (.ref a1), .val (.int (Int32.ofNat oo)), .val (.int (Int32.ofNat lo)), .val (.int (Int32.ofNat hi)), sl] []))
      refine Go.by (fun _ k => XS.iloadN XL.here XL.hx rfl (XL.cd d_prog_92_method_5_10) rfl  k) ?_
      show Go _ _ _ _ (TL.setTop (mkF m 11 #[.val (.ref a1), .val (.int (Int32.ofNat oo)), .val (.int (Int32.ofNat lo)), .val (.int (Int32.ofNat hi)), sl] [(.int (Int32.ofNat lo))]))
      refine Go.by (fun _ k => XS.iloadN XL.here XL.hx rfl (XL.cd d_prog_92_method_5_11) rfl  k) ?_
      show Go _ _ _ _ (TL.setTop (mkF m 12 #[.val (.ref a1), .val (.int (Int32.ofNat oo)), .val (.int (Int32.ofNat lo)), .val (.int (Int32.ofNat hi)), sl] [(.int (Int32.ofNat hi)), (.int (Int32.ofNat lo))]))
      by_cases cl : (Int32.ofNat lo) < (Int32.ofNat hi)
      · refine Go.by (fun _ k => XS.icmpNo XL.here XL.hx rfl (XL.cd d_prog_92_method_5_12) rfl (XT.ii_ge_f cl) k) ?_
        show Go _ _ _ _ (TL.setTop (mkF m 15 #[.val (.ref a1), .val (.int (Int32.ofNat oo)), .val (.int (Int32.ofNat lo)), .val (.int (Int32.ofNat hi)), sl] []))
        have clt : lo < hi := (on_lt (by omega) (by omega)).mp cl
        obtain ⟨md, hmd⟩ : ∃ md, md = (lo + hi + 1) / 2 := ⟨_, rfl⟩
        have hm1 : lo < md ∧ md ≤ hi := by omega
        have emd : XT.ushr ((Int32.ofNat lo + Int32.ofNat hi) + (1 : Int32)) (1 : Int32) = Int32.ofNat md := by rw [hmd]; exact own_mid ⟨lo, by omega⟩ ⟨hi, by omega⟩
        rcases q6 with q6 | ⟨z0, q6⟩ <;> subst q6
        · show Go _ _ _ _ (TL.setTop (mkF m 15 #[.val (.ref a1), .val (.int (Int32.ofNat oo)), .val (.int (Int32.ofNat lo)), .val (.int (Int32.ofNat hi)), .unset] []))
          refine Go.by (fun _ k => XS.iloadN XL.here XL.hx rfl (XL.cd d_prog_92_method_5_15) rfl  k) ?_
          show Go _ _ _ _ (TL.setTop (mkF m 16 #[.val (.ref a1), .val (.int (Int32.ofNat oo)), .val (.int (Int32.ofNat lo)), .val (.int (Int32.ofNat hi)), .unset] [(.int (Int32.ofNat lo))]))
          refine Go.by (fun _ k => XS.iloadN XL.here XL.hx rfl (XL.cd d_prog_92_method_5_16) rfl  k) ?_
          show Go _ _ _ _ (TL.setTop (mkF m 17 #[.val (.ref a1), .val (.int (Int32.ofNat oo)), .val (.int (Int32.ofNat lo)), .val (.int (Int32.ofNat hi)), .unset] [(.int (Int32.ofNat hi)), (.int (Int32.ofNat lo))]))
          refine Go.by (fun _ k => XS.iadd XL.here XL.hx rfl (XL.cd d_prog_92_method_5_17) rfl k) ?_
          show Go _ _ _ _ (TL.setTop (mkF m 18 #[.val (.ref a1), .val (.int (Int32.ofNat oo)), .val (.int (Int32.ofNat lo)), .val (.int (Int32.ofNat hi)), .unset] [(.int ((Int32.ofNat lo) + (Int32.ofNat hi)))]))
          refine Go.by (fun _ k => XS.iconst XL.here XL.hx rfl (XL.cd d_prog_92_method_5_18)  k) ?_
          show Go _ _ _ _ (TL.setTop (mkF m 19 #[.val (.ref a1), .val (.int (Int32.ofNat oo)), .val (.int (Int32.ofNat lo)), .val (.int (Int32.ofNat hi)), .unset] [(.int (1 : Int32)), (.int ((Int32.ofNat lo) + (Int32.ofNat hi)))]))
          refine Go.by (fun _ k => XS.iadd XL.here XL.hx rfl (XL.cd d_prog_92_method_5_19) rfl k) ?_
          show Go _ _ _ _ (TL.setTop (mkF m 20 #[.val (.ref a1), .val (.int (Int32.ofNat oo)), .val (.int (Int32.ofNat lo)), .val (.int (Int32.ofNat hi)), .unset] [(.int (((Int32.ofNat lo) + (Int32.ofNat hi)) + (1 : Int32)))]))
          refine Go.by (fun _ k => XS.iconst XL.here XL.hx rfl (XL.cd d_prog_92_method_5_20)  k) ?_
          show Go _ _ _ _ (TL.setTop (mkF m 21 #[.val (.ref a1), .val (.int (Int32.ofNat oo)), .val (.int (Int32.ofNat lo)), .val (.int (Int32.ofNat hi)), .unset] [(.int (1 : Int32)), (.int (((Int32.ofNat lo) + (Int32.ofNat hi)) + (1 : Int32)))]))
          refine Go.by (fun _ k => XS.iushr XL.here XL.hx rfl (XL.cd d_prog_92_method_5_21) rfl k) ?_
          show Go _ _ _ _ (TL.setTop (mkF m 22 #[.val (.ref a1), .val (.int (Int32.ofNat oo)), .val (.int (Int32.ofNat lo)), .val (.int (Int32.ofNat hi)), .unset] [(.int (XT.ushr (((Int32.ofNat lo) + (Int32.ofNat hi)) + (1 : Int32)) (1 : Int32)))]))
          rw [emd]
          show Go _ _ _ _ (TL.setTop (mkF m 22 #[.val (.ref a1), .val (.int (Int32.ofNat oo)), .val (.int (Int32.ofNat lo)), .val (.int (Int32.ofNat hi)), .unset] [(.int (Int32.ofNat md))]))
          refine Go.by (fun _ k => XS.istore XL.here XL.hx rfl (XL.cd d_prog_92_method_5_22) rfl (l' := #[.val (.ref a1), .val (.int (Int32.ofNat oo)), .val (.int (Int32.ofNat lo)), .val (.int (Int32.ofNat hi)), .val (.int (Int32.ofNat md))]) rfl k) ?_
          show Go _ _ _ _ (TL.setTop (mkF m 24 #[.val (.ref a1), .val (.int (Int32.ofNat oo)), .val (.int (Int32.ofNat lo)), .val (.int (Int32.ofNat hi)), .val (.int (Int32.ofNat md))] []))
          refine Go.by (fun _ k => XS.aloadN XL.here XL.hx rfl (XL.cd d_prog_92_method_5_24) rfl rfl k) ?_
          show Go _ _ _ _ (TL.setTop (mkF m 25 #[.val (.ref a1), .val (.int (Int32.ofNat oo)), .val (.int (Int32.ofNat lo)), .val (.int (Int32.ofNat hi)), .val (.int (Int32.ofNat md))] [(.ref a1)]))
          obtain ⟨T14, X14, st14⟩ := XL.getF (host := "") (Or.inl (hw _ (List.mem_of_getElem? (i := 189) rfl))) Via.refl pr0 (g := (mkF m 25 #[.val (.ref a1), .val (.int (Int32.ofNat oo)), .val (.int (Int32.ofNat lo)), .val (.int (Int32.ofNat hi)), .val (.int (Int32.ofNat md))] [(.ref a1)])) rfl rfl d_prog_92_method_5_25
          refine Go.by st14 ?_
          show Go _ _ _ _ (T14.setTop (mkF m 28 #[.val (.ref a1), .val (.int (Int32.ofNat oo)), .val (.int (Int32.ofNat lo)), .val (.int (Int32.ofNat hi)), .val (.int (Int32.ofNat md))] [(.ref ls)]))
          refine Go.by (fun _ k => XS.iload X14.here X14.hx rfl (X14.cd d_prog_92_method_5_28) rfl  k) ?_
          show Go _ _ _ _ (T14.setTop (mkF m 30 #[.val (.ref a1), .val (.int (Int32.ofNat oo)), .val (.int (Int32.ofNat lo)), .val (.int (Int32.ofNat hi)), .val (.int (Int32.ofNat md))] [(.int (Int32.ofNat md)), (.ref ls)]))
          refine Go.by (fun _ k => X14.ldA pr1 ⟨on_nn (by omega), (on_lt (by omega) (by omega)).mpr (by omega)⟩ (v := (.int (Int32.ofNat (ns.getD md 0)))) (by rw [on_clamp (by omega)]; exact own_gi (by omega)) (Or.inl ⟨rfl, rfl⟩) (g := (mkF m 30 #[.val (.ref a1), .val (.int (Int32.ofNat oo)), .val (.int (Int32.ofNat lo)), .val (.int (Int32.ofNat hi)), .val (.int (Int32.ofNat md))] [(.int (Int32.ofNat md)), (.ref ls)])) rfl rfl d_prog_92_method_5_30 _ k) ?_
          show Go _ _ _ _ (T14.setTop (mkF m 31 #[.val (.ref a1), .val (.int (Int32.ofNat oo)), .val (.int (Int32.ofNat lo)), .val (.int (Int32.ofNat hi)), .val (.int (Int32.ofNat md))] [(.int (Int32.ofNat (ns.getD md 0)))]))
          have hb1 := hb md
          refine Go.by (fun _ k => XS.iloadN X14.here X14.hx rfl (X14.cd d_prog_92_method_5_31) rfl  k) ?_
          show Go _ _ _ _ (T14.setTop (mkF m 32 #[.val (.ref a1), .val (.int (Int32.ofNat oo)), .val (.int (Int32.ofNat lo)), .val (.int (Int32.ofNat hi)), .val (.int (Int32.ofNat md))] [(.int (Int32.ofNat oo)), (.int (Int32.ofNat (ns.getD md 0)))]))
          by_cases cg : (Int32.ofNat oo) < (Int32.ofNat (ns.getD md 0))
          · refine Go.by (fun _ k => XS.icmpYes X14.here X14.hx rfl (pc0 := 32) (pc' := 41) rfl (X14.cd d_prog_92_method_5_32) rfl (XT.ii_gt_t cg) (by decide) (by decide) k) ?_
            show Go _ _ _ _ (T14.setTop (mkF m 41 #[.val (.ref a1), .val (.int (Int32.ofNat oo)), .val (.int (Int32.ofNat lo)), .val (.int (Int32.ofNat hi)), .val (.int (Int32.ofNat md))] []))
            have cg1 : oo < ns.getD md 0 := (on_lt (by omega) (by omega)).mp cg
            refine Go.by (fun _ k => XS.iload X14.here X14.hx rfl (X14.cd d_prog_92_method_5_41) rfl  k) ?_
            show Go _ _ _ _ (T14.setTop (mkF m 43 #[.val (.ref a1), .val (.int (Int32.ofNat oo)), .val (.int (Int32.ofNat lo)), .val (.int (Int32.ofNat hi)), .val (.int (Int32.ofNat md))] [(.int (Int32.ofNat md))]))
            refine Go.by (fun _ k => XS.iconst X14.here X14.hx rfl (X14.cd d_prog_92_method_5_43)  k) ?_
            show Go _ _ _ _ (T14.setTop (mkF m 44 #[.val (.ref a1), .val (.int (Int32.ofNat oo)), .val (.int (Int32.ofNat lo)), .val (.int (Int32.ofNat hi)), .val (.int (Int32.ofNat md))] [(.int (1 : Int32)), (.int (Int32.ofNat md))]))
            refine Go.by (fun _ k => XS.isub X14.here X14.hx rfl (X14.cd d_prog_92_method_5_44) rfl k) ?_
            show Go _ _ _ _ (T14.setTop (mkF m 45 #[.val (.ref a1), .val (.int (Int32.ofNat oo)), .val (.int (Int32.ofNat lo)), .val (.int (Int32.ofNat hi)), .val (.int (Int32.ofNat md))] [(.int ((Int32.ofNat md) - (1 : Int32)))]))
            rw [own_pred (show 1 ≤ md by omega)]
            show Go _ _ _ _ (T14.setTop (mkF m 45 #[.val (.ref a1), .val (.int (Int32.ofNat oo)), .val (.int (Int32.ofNat lo)), .val (.int (Int32.ofNat hi)), .val (.int (Int32.ofNat md))] [(.int (Int32.ofNat (md - 1)))]))
            refine Go.by (fun _ k => XS.istoreN X14.here X14.hx rfl (X14.cd d_prog_92_method_5_45) rfl (l' := #[.val (.ref a1), .val (.int (Int32.ofNat oo)), .val (.int (Int32.ofNat lo)), .val (.int (Int32.ofNat (md - 1))), .val (.int (Int32.ofNat md))]) rfl k) ?_
            show Go _ _ _ _ (T14.setTop (mkF m 46 #[.val (.ref a1), .val (.int (Int32.ofNat oo)), .val (.int (Int32.ofNat lo)), .val (.int (Int32.ofNat (md - 1))), .val (.int (Int32.ofNat md))] []))
            refine Go.by (fun _ k => XS.goto X14.here X14.hx rfl (pc0 := 46) (pc' := 10) rfl (X14.cd d_prog_92_method_5_46) (by decide) (by decide) k) ?_
            show Go _ _ _ _ (T14.setTop (mkF m 10 #[.val (.ref a1), .val (.int (Int32.ofNat oo)), .val (.int (Int32.ofNat lo)), .val (.int (Int32.ofNat (md - 1))), .val (.int (Int32.ofNat md))] []))
            exact ih lo (md - 1) (.val (.int (Int32.ofNat md))) _ X14 (by omega) (by omega) q3 (fun _ => by rw [show md - 1 + 1 = md by omega]; exact cg1) (by omega) (Or.inr ⟨_, rfl⟩)
          · refine Go.by (fun _ k => XS.icmpNo X14.here X14.hx rfl (X14.cd d_prog_92_method_5_32) rfl (XT.ii_gt_f cg) k) ?_
            show Go _ _ _ _ (T14.setTop (mkF m 35 #[.val (.ref a1), .val (.int (Int32.ofNat oo)), .val (.int (Int32.ofNat lo)), .val (.int (Int32.ofNat hi)), .val (.int (Int32.ofNat md))] []))
            have cg1 : ns.getD md 0 ≤ oo := Nat.le_of_not_lt fun q => cg ((on_lt (by omega) (by omega)).mpr q)
            refine Go.by (fun _ k => XS.iload X14.here X14.hx rfl (X14.cd d_prog_92_method_5_35) rfl  k) ?_
            show Go _ _ _ _ (T14.setTop (mkF m 37 #[.val (.ref a1), .val (.int (Int32.ofNat oo)), .val (.int (Int32.ofNat lo)), .val (.int (Int32.ofNat hi)), .val (.int (Int32.ofNat md))] [(.int (Int32.ofNat md))]))
            refine Go.by (fun _ k => XS.istoreN X14.here X14.hx rfl (X14.cd d_prog_92_method_5_37) rfl (l' := #[.val (.ref a1), .val (.int (Int32.ofNat oo)), .val (.int (Int32.ofNat md)), .val (.int (Int32.ofNat hi)), .val (.int (Int32.ofNat md))]) rfl k) ?_
            show Go _ _ _ _ (T14.setTop (mkF m 38 #[.val (.ref a1), .val (.int (Int32.ofNat oo)), .val (.int (Int32.ofNat md)), .val (.int (Int32.ofNat hi)), .val (.int (Int32.ofNat md))] []))
            refine Go.by (fun _ k => XS.goto X14.here X14.hx rfl (pc0 := 38) (pc' := 46) rfl (X14.cd d_prog_92_method_5_38) (by decide) (by decide) k) ?_
            show Go _ _ _ _ (T14.setTop (mkF m 46 #[.val (.ref a1), .val (.int (Int32.ofNat oo)), .val (.int (Int32.ofNat md)), .val (.int (Int32.ofNat hi)), .val (.int (Int32.ofNat md))] []))
            refine Go.by (fun _ k => XS.goto X14.here X14.hx rfl (pc0 := 46) (pc' := 10) rfl (X14.cd d_prog_92_method_5_46) (by decide) (by decide) k) ?_
            show Go _ _ _ _ (T14.setTop (mkF m 10 #[.val (.ref a1), .val (.int (Int32.ofNat oo)), .val (.int (Int32.ofNat md)), .val (.int (Int32.ofNat hi)), .val (.int (Int32.ofNat md))] []))
            exact ih md hi (.val (.int (Int32.ofNat md))) _ X14 (by omega) q2 cg1 q4 (by omega) (Or.inr ⟨_, rfl⟩)
        · show Go _ _ _ _ (TL.setTop (mkF m 15 #[.val (.ref a1), .val (.int (Int32.ofNat oo)), .val (.int (Int32.ofNat lo)), .val (.int (Int32.ofNat hi)), .val (.int z0)] []))
          refine Go.by (fun _ k => XS.iloadN XL.here XL.hx rfl (XL.cd d_prog_92_method_5_15) rfl  k) ?_
          show Go _ _ _ _ (TL.setTop (mkF m 16 #[.val (.ref a1), .val (.int (Int32.ofNat oo)), .val (.int (Int32.ofNat lo)), .val (.int (Int32.ofNat hi)), .val (.int z0)] [(.int (Int32.ofNat lo))]))
          refine Go.by (fun _ k => XS.iloadN XL.here XL.hx rfl (XL.cd d_prog_92_method_5_16) rfl  k) ?_
          show Go _ _ _ _ (TL.setTop (mkF m 17 #[.val (.ref a1), .val (.int (Int32.ofNat oo)), .val (.int (Int32.ofNat lo)), .val (.int (Int32.ofNat hi)), .val (.int z0)] [(.int (Int32.ofNat hi)), (.int (Int32.ofNat lo))]))
          refine Go.by (fun _ k => XS.iadd XL.here XL.hx rfl (XL.cd d_prog_92_method_5_17) rfl k) ?_
          show Go _ _ _ _ (TL.setTop (mkF m 18 #[.val (.ref a1), .val (.int (Int32.ofNat oo)), .val (.int (Int32.ofNat lo)), .val (.int (Int32.ofNat hi)), .val (.int z0)] [(.int ((Int32.ofNat lo) + (Int32.ofNat hi)))]))
          refine Go.by (fun _ k => XS.iconst XL.here XL.hx rfl (XL.cd d_prog_92_method_5_18)  k) ?_
          show Go _ _ _ _ (TL.setTop (mkF m 19 #[.val (.ref a1), .val (.int (Int32.ofNat oo)), .val (.int (Int32.ofNat lo)), .val (.int (Int32.ofNat hi)), .val (.int z0)] [(.int (1 : Int32)), (.int ((Int32.ofNat lo) + (Int32.ofNat hi)))]))
          refine Go.by (fun _ k => XS.iadd XL.here XL.hx rfl (XL.cd d_prog_92_method_5_19) rfl k) ?_
          show Go _ _ _ _ (TL.setTop (mkF m 20 #[.val (.ref a1), .val (.int (Int32.ofNat oo)), .val (.int (Int32.ofNat lo)), .val (.int (Int32.ofNat hi)), .val (.int z0)] [(.int (((Int32.ofNat lo) + (Int32.ofNat hi)) + (1 : Int32)))]))
          refine Go.by (fun _ k => XS.iconst XL.here XL.hx rfl (XL.cd d_prog_92_method_5_20)  k) ?_
          show Go _ _ _ _ (TL.setTop (mkF m 21 #[.val (.ref a1), .val (.int (Int32.ofNat oo)), .val (.int (Int32.ofNat lo)), .val (.int (Int32.ofNat hi)), .val (.int z0)] [(.int (1 : Int32)), (.int (((Int32.ofNat lo) + (Int32.ofNat hi)) + (1 : Int32)))]))
          refine Go.by (fun _ k => XS.iushr XL.here XL.hx rfl (XL.cd d_prog_92_method_5_21) rfl k) ?_
          show Go _ _ _ _ (TL.setTop (mkF m 22 #[.val (.ref a1), .val (.int (Int32.ofNat oo)), .val (.int (Int32.ofNat lo)), .val (.int (Int32.ofNat hi)), .val (.int z0)] [(.int (XT.ushr (((Int32.ofNat lo) + (Int32.ofNat hi)) + (1 : Int32)) (1 : Int32)))]))
          rw [emd]
          show Go _ _ _ _ (TL.setTop (mkF m 22 #[.val (.ref a1), .val (.int (Int32.ofNat oo)), .val (.int (Int32.ofNat lo)), .val (.int (Int32.ofNat hi)), .val (.int z0)] [(.int (Int32.ofNat md))]))
          refine Go.by (fun _ k => XS.istore XL.here XL.hx rfl (XL.cd d_prog_92_method_5_22) rfl (l' := #[.val (.ref a1), .val (.int (Int32.ofNat oo)), .val (.int (Int32.ofNat lo)), .val (.int (Int32.ofNat hi)), .val (.int (Int32.ofNat md))]) rfl k) ?_
          show Go _ _ _ _ (TL.setTop (mkF m 24 #[.val (.ref a1), .val (.int (Int32.ofNat oo)), .val (.int (Int32.ofNat lo)), .val (.int (Int32.ofNat hi)), .val (.int (Int32.ofNat md))] []))
          refine Go.by (fun _ k => XS.aloadN XL.here XL.hx rfl (XL.cd d_prog_92_method_5_24) rfl rfl k) ?_
          show Go _ _ _ _ (TL.setTop (mkF m 25 #[.val (.ref a1), .val (.int (Int32.ofNat oo)), .val (.int (Int32.ofNat lo)), .val (.int (Int32.ofNat hi)), .val (.int (Int32.ofNat md))] [(.ref a1)]))
          obtain ⟨T15, X15, st15⟩ := XL.getF (host := "") (Or.inl (hw _ (List.mem_of_getElem? (i := 189) rfl))) Via.refl pr0 (g := (mkF m 25 #[.val (.ref a1), .val (.int (Int32.ofNat oo)), .val (.int (Int32.ofNat lo)), .val (.int (Int32.ofNat hi)), .val (.int (Int32.ofNat md))] [(.ref a1)])) rfl rfl d_prog_92_method_5_25
          refine Go.by st15 ?_
          show Go _ _ _ _ (T15.setTop (mkF m 28 #[.val (.ref a1), .val (.int (Int32.ofNat oo)), .val (.int (Int32.ofNat lo)), .val (.int (Int32.ofNat hi)), .val (.int (Int32.ofNat md))] [(.ref ls)]))
          refine Go.by (fun _ k => XS.iload X15.here X15.hx rfl (X15.cd d_prog_92_method_5_28) rfl  k) ?_
          show Go _ _ _ _ (T15.setTop (mkF m 30 #[.val (.ref a1), .val (.int (Int32.ofNat oo)), .val (.int (Int32.ofNat lo)), .val (.int (Int32.ofNat hi)), .val (.int (Int32.ofNat md))] [(.int (Int32.ofNat md)), (.ref ls)]))
          refine Go.by (fun _ k => X15.ldA pr1 ⟨on_nn (by omega), (on_lt (by omega) (by omega)).mpr (by omega)⟩ (v := (.int (Int32.ofNat (ns.getD md 0)))) (by rw [on_clamp (by omega)]; exact own_gi (by omega)) (Or.inl ⟨rfl, rfl⟩) (g := (mkF m 30 #[.val (.ref a1), .val (.int (Int32.ofNat oo)), .val (.int (Int32.ofNat lo)), .val (.int (Int32.ofNat hi)), .val (.int (Int32.ofNat md))] [(.int (Int32.ofNat md)), (.ref ls)])) rfl rfl d_prog_92_method_5_30 _ k) ?_
          show Go _ _ _ _ (T15.setTop (mkF m 31 #[.val (.ref a1), .val (.int (Int32.ofNat oo)), .val (.int (Int32.ofNat lo)), .val (.int (Int32.ofNat hi)), .val (.int (Int32.ofNat md))] [(.int (Int32.ofNat (ns.getD md 0)))]))
          have hb1 := hb md
          refine Go.by (fun _ k => XS.iloadN X15.here X15.hx rfl (X15.cd d_prog_92_method_5_31) rfl  k) ?_
          show Go _ _ _ _ (T15.setTop (mkF m 32 #[.val (.ref a1), .val (.int (Int32.ofNat oo)), .val (.int (Int32.ofNat lo)), .val (.int (Int32.ofNat hi)), .val (.int (Int32.ofNat md))] [(.int (Int32.ofNat oo)), (.int (Int32.ofNat (ns.getD md 0)))]))
          by_cases cg : (Int32.ofNat oo) < (Int32.ofNat (ns.getD md 0))
          · refine Go.by (fun _ k => XS.icmpYes X15.here X15.hx rfl (pc0 := 32) (pc' := 41) rfl (X15.cd d_prog_92_method_5_32) rfl (XT.ii_gt_t cg) (by decide) (by decide) k) ?_
            show Go _ _ _ _ (T15.setTop (mkF m 41 #[.val (.ref a1), .val (.int (Int32.ofNat oo)), .val (.int (Int32.ofNat lo)), .val (.int (Int32.ofNat hi)), .val (.int (Int32.ofNat md))] []))
            have cg1 : oo < ns.getD md 0 := (on_lt (by omega) (by omega)).mp cg
            refine Go.by (fun _ k => XS.iload X15.here X15.hx rfl (X15.cd d_prog_92_method_5_41) rfl  k) ?_
            show Go _ _ _ _ (T15.setTop (mkF m 43 #[.val (.ref a1), .val (.int (Int32.ofNat oo)), .val (.int (Int32.ofNat lo)), .val (.int (Int32.ofNat hi)), .val (.int (Int32.ofNat md))] [(.int (Int32.ofNat md))]))
            refine Go.by (fun _ k => XS.iconst X15.here X15.hx rfl (X15.cd d_prog_92_method_5_43)  k) ?_
            show Go _ _ _ _ (T15.setTop (mkF m 44 #[.val (.ref a1), .val (.int (Int32.ofNat oo)), .val (.int (Int32.ofNat lo)), .val (.int (Int32.ofNat hi)), .val (.int (Int32.ofNat md))] [(.int (1 : Int32)), (.int (Int32.ofNat md))]))
            refine Go.by (fun _ k => XS.isub X15.here X15.hx rfl (X15.cd d_prog_92_method_5_44) rfl k) ?_
            show Go _ _ _ _ (T15.setTop (mkF m 45 #[.val (.ref a1), .val (.int (Int32.ofNat oo)), .val (.int (Int32.ofNat lo)), .val (.int (Int32.ofNat hi)), .val (.int (Int32.ofNat md))] [(.int ((Int32.ofNat md) - (1 : Int32)))]))
            rw [own_pred (show 1 ≤ md by omega)]
            show Go _ _ _ _ (T15.setTop (mkF m 45 #[.val (.ref a1), .val (.int (Int32.ofNat oo)), .val (.int (Int32.ofNat lo)), .val (.int (Int32.ofNat hi)), .val (.int (Int32.ofNat md))] [(.int (Int32.ofNat (md - 1)))]))
            refine Go.by (fun _ k => XS.istoreN X15.here X15.hx rfl (X15.cd d_prog_92_method_5_45) rfl (l' := #[.val (.ref a1), .val (.int (Int32.ofNat oo)), .val (.int (Int32.ofNat lo)), .val (.int (Int32.ofNat (md - 1))), .val (.int (Int32.ofNat md))]) rfl k) ?_
            show Go _ _ _ _ (T15.setTop (mkF m 46 #[.val (.ref a1), .val (.int (Int32.ofNat oo)), .val (.int (Int32.ofNat lo)), .val (.int (Int32.ofNat (md - 1))), .val (.int (Int32.ofNat md))] []))
            refine Go.by (fun _ k => XS.goto X15.here X15.hx rfl (pc0 := 46) (pc' := 10) rfl (X15.cd d_prog_92_method_5_46) (by decide) (by decide) k) ?_
            show Go _ _ _ _ (T15.setTop (mkF m 10 #[.val (.ref a1), .val (.int (Int32.ofNat oo)), .val (.int (Int32.ofNat lo)), .val (.int (Int32.ofNat (md - 1))), .val (.int (Int32.ofNat md))] []))
            exact ih lo (md - 1) (.val (.int (Int32.ofNat md))) _ X15 (by omega) (by omega) q3 (fun _ => by rw [show md - 1 + 1 = md by omega]; exact cg1) (by omega) (Or.inr ⟨_, rfl⟩)
          · refine Go.by (fun _ k => XS.icmpNo X15.here X15.hx rfl (X15.cd d_prog_92_method_5_32) rfl (XT.ii_gt_f cg) k) ?_
            show Go _ _ _ _ (T15.setTop (mkF m 35 #[.val (.ref a1), .val (.int (Int32.ofNat oo)), .val (.int (Int32.ofNat lo)), .val (.int (Int32.ofNat hi)), .val (.int (Int32.ofNat md))] []))
            have cg1 : ns.getD md 0 ≤ oo := Nat.le_of_not_lt fun q => cg ((on_lt (by omega) (by omega)).mpr q)
            refine Go.by (fun _ k => XS.iload X15.here X15.hx rfl (X15.cd d_prog_92_method_5_35) rfl  k) ?_
            show Go _ _ _ _ (T15.setTop (mkF m 37 #[.val (.ref a1), .val (.int (Int32.ofNat oo)), .val (.int (Int32.ofNat lo)), .val (.int (Int32.ofNat hi)), .val (.int (Int32.ofNat md))] [(.int (Int32.ofNat md))]))
            refine Go.by (fun _ k => XS.istoreN X15.here X15.hx rfl (X15.cd d_prog_92_method_5_37) rfl (l' := #[.val (.ref a1), .val (.int (Int32.ofNat oo)), .val (.int (Int32.ofNat md)), .val (.int (Int32.ofNat hi)), .val (.int (Int32.ofNat md))]) rfl k) ?_
            show Go _ _ _ _ (T15.setTop (mkF m 38 #[.val (.ref a1), .val (.int (Int32.ofNat oo)), .val (.int (Int32.ofNat md)), .val (.int (Int32.ofNat hi)), .val (.int (Int32.ofNat md))] []))
            refine Go.by (fun _ k => XS.goto X15.here X15.hx rfl (pc0 := 38) (pc' := 46) rfl (X15.cd d_prog_92_method_5_38) (by decide) (by decide) k) ?_
            show Go _ _ _ _ (T15.setTop (mkF m 46 #[.val (.ref a1), .val (.int (Int32.ofNat oo)), .val (.int (Int32.ofNat md)), .val (.int (Int32.ofNat hi)), .val (.int (Int32.ofNat md))] []))
            refine Go.by (fun _ k => XS.goto X15.here X15.hx rfl (pc0 := 46) (pc' := 10) rfl (X15.cd d_prog_92_method_5_46) (by decide) (by decide) k) ?_
            show Go _ _ _ _ (T15.setTop (mkF m 10 #[.val (.ref a1), .val (.int (Int32.ofNat oo)), .val (.int (Int32.ofNat md)), .val (.int (Int32.ofNat hi)), .val (.int (Int32.ofNat md))] []))
            exact ih md hi (.val (.int (Int32.ofNat md))) _ X15 (by omega) q2 cg1 q4 (by omega) (Or.inr ⟨_, rfl⟩)
      · refine Go.by (fun _ k => XS.icmpYes XL.here XL.hx rfl (pc0 := 12) (pc' := 49) rfl (XL.cd d_prog_92_method_5_12) rfl (XT.ii_ge_t cl) (by decide) (by decide) k) ?_
        show Go _ _ _ _ (TL.setTop (mkF m 49 #[.val (.ref a1), .val (.int (Int32.ofNat oo)), .val (.int (Int32.ofNat lo)), .val (.int (Int32.ofNat hi)), sl] []))
        have cl2 : hi ≤ lo := Nat.le_of_not_lt fun q => cl ((on_lt (by omega) (by omega)).mpr q)
        have lt_a1_8 := pr0.lt
        have lt_ls_8 := pr1.lt
        obtain ⟨T8, h8, b8, g_b8, X8, E8, A8, D8, st8⟩ := XL.new (hw _ (List.mem_of_getElem? (i := 196) rfl)) (hw _ (List.mem_of_getElem? (i := 197) rfl)) (hw _ (List.mem_of_getElem? (i := 198) rfl)) (g := (mkF m 49 #[.val (.ref a1), .val (.int (Int32.ofNat oo)), .val (.int (Int32.ofNat lo)), .val (.int (Int32.ofNat hi)), sl] [])) rfl d_prog_92_method_5_49 (by decide) (by decide)
        refine Go.by st8 ?_
        have ne_a1_b8 : a1 ≠ b8 := ne_new lt_a1_8 g_b8
        have ne_ls_b8 : ls ≠ b8 := ne_new lt_ls_8 g_b8
        have sz_b8 : h0.size ≤ b8 := Nat.le_trans XL.sz (Nat.le_of_eq g_b8.symm)
        have K0_h8 : Keep h0 h8 [] := (Keep.refl h0 []).ext E8
        have F8_line : Fld Z h8 b8 "com/example/cinderpath/cinderpath/source/Position" "line" "I" (.int (0 : Int32)) := D8 (Or.inr (hw _ (List.mem_of_getElem? (i := 209) rfl))) (ty := .int) (by decide)
        have F8_column : Fld Z h8 b8 "com/example/cinderpath/cinderpath/source/Position" "column" "I" (.int (0 : Int32)) := D8 (Or.inr (hw _ (List.mem_of_getElem? (i := 211) rfl))) (ty := .int) (by decide)
        show Go _ _ _ _ (T8.setTop (mkF m 52 #[.val (.ref a1), .val (.int (Int32.ofNat oo)), .val (.int (Int32.ofNat lo)), .val (.int (Int32.ofNat hi)), sl] [(.ref b8)]))
        refine Go.by (fun _ k => XS.dup X8.here X8.hx rfl (X8.cd d_prog_92_method_5_52) rfl rfl k) ?_
        show Go _ _ _ _ (T8.setTop (mkF m 53 #[.val (.ref a1), .val (.int (Int32.ofNat oo)), .val (.int (Int32.ofNat lo)), .val (.int (Int32.ofNat hi)), sl] [(.ref b8), (.ref b8)]))
        refine Go.by (fun _ k => XS.iloadN X8.here X8.hx rfl (X8.cd d_prog_92_method_5_53) rfl  k) ?_
        show Go _ _ _ _ (T8.setTop (mkF m 54 #[.val (.ref a1), .val (.int (Int32.ofNat oo)), .val (.int (Int32.ofNat lo)), .val (.int (Int32.ofNat hi)), sl] [(.int (Int32.ofNat lo)), (.ref b8), (.ref b8)]))
        refine Go.by (fun _ k => XS.iconst X8.here X8.hx rfl (X8.cd d_prog_92_method_5_54)  k) ?_
        show Go _ _ _ _ (T8.setTop (mkF m 55 #[.val (.ref a1), .val (.int (Int32.ofNat oo)), .val (.int (Int32.ofNat lo)), .val (.int (Int32.ofNat hi)), sl] [(.int (1 : Int32)), (.int (Int32.ofNat lo)), (.ref b8), (.ref b8)]))
        refine Go.by (fun _ k => XS.iadd X8.here X8.hx rfl (X8.cd d_prog_92_method_5_55) rfl k) ?_
        show Go _ _ _ _ (T8.setTop (mkF m 56 #[.val (.ref a1), .val (.int (Int32.ofNat oo)), .val (.int (Int32.ofNat lo)), .val (.int (Int32.ofNat hi)), sl] [(.int ((Int32.ofNat lo) + (1 : Int32))), (.ref b8), (.ref b8)]))
        refine Go.by (fun _ k => XS.iloadN X8.here X8.hx rfl (X8.cd d_prog_92_method_5_56) rfl  k) ?_
        show Go _ _ _ _ (T8.setTop (mkF m 57 #[.val (.ref a1), .val (.int (Int32.ofNat oo)), .val (.int (Int32.ofNat lo)), .val (.int (Int32.ofNat hi)), sl] [(.int (Int32.ofNat oo)), (.int ((Int32.ofNat lo) + (1 : Int32))), (.ref b8), (.ref b8)]))
        refine Go.by (fun _ k => XS.aloadN X8.here X8.hx rfl (X8.cd d_prog_92_method_5_57) rfl rfl k) ?_
        show Go _ _ _ _ (T8.setTop (mkF m 58 #[.val (.ref a1), .val (.int (Int32.ofNat oo)), .val (.int (Int32.ofNat lo)), .val (.int (Int32.ofNat hi)), sl] [(.ref a1), (.int (Int32.ofNat oo)), (.int ((Int32.ofNat lo) + (1 : Int32))), (.ref b8), (.ref b8)]))
        have f9 : Fld Z h8 a1 "com/example/cinderpath/cinderpath/source/SourceFile" "lineStarts" "[I" (.ref ls) := pr0.ext E8
        obtain ⟨T10, X10, st10⟩ := X8.getF (host := "") (Or.inl (hw _ (List.mem_of_getElem? (i := 189) rfl))) Via.refl f9 (g := (mkF m 58 #[.val (.ref a1), .val (.int (Int32.ofNat oo)), .val (.int (Int32.ofNat lo)), .val (.int (Int32.ofNat hi)), sl] [(.ref a1), (.int (Int32.ofNat oo)), (.int ((Int32.ofNat lo) + (1 : Int32))), (.ref b8), (.ref b8)])) rfl rfl d_prog_92_method_5_58
        refine Go.by st10 ?_
        show Go _ _ _ _ (T10.setTop (mkF m 61 #[.val (.ref a1), .val (.int (Int32.ofNat oo)), .val (.int (Int32.ofNat lo)), .val (.int (Int32.ofNat hi)), sl] [(.ref ls), (.int (Int32.ofNat oo)), (.int ((Int32.ofNat lo) + (1 : Int32))), (.ref b8), (.ref b8)]))
        refine Go.by (fun _ k => XS.iloadN X10.here X10.hx rfl (X10.cd d_prog_92_method_5_61) rfl  k) ?_
        show Go _ _ _ _ (T10.setTop (mkF m 62 #[.val (.ref a1), .val (.int (Int32.ofNat oo)), .val (.int (Int32.ofNat lo)), .val (.int (Int32.ofNat hi)), sl] [(.int (Int32.ofNat lo)), (.ref ls), (.int (Int32.ofNat oo)), (.int ((Int32.ofNat lo) + (1 : Int32))), (.ref b8), (.ref b8)]))
        have f11 : Arv Z h8 ls kl .int (Int32.ofNat ns.length) (ns.map fun n => Value.int (Int32.ofNat n)) (.int (0 : Int32)) := pr1.ext E8
        refine Go.by (fun _ k => X10.ldA f11 ⟨on_nn (by omega), (on_lt (by omega) (by omega)).mpr (by omega)⟩ (v := (.int (Int32.ofNat (ns.getD lo 0)))) (by rw [on_clamp (by omega)]; exact own_gi (by omega)) (Or.inl ⟨rfl, rfl⟩) (g := (mkF m 62 #[.val (.ref a1), .val (.int (Int32.ofNat oo)), .val (.int (Int32.ofNat lo)), .val (.int (Int32.ofNat hi)), sl] [(.int (Int32.ofNat lo)), (.ref ls), (.int (Int32.ofNat oo)), (.int ((Int32.ofNat lo) + (1 : Int32))), (.ref b8), (.ref b8)])) rfl rfl d_prog_92_method_5_62 _ k) ?_
        show Go _ _ _ _ (T10.setTop (mkF m 63 #[.val (.ref a1), .val (.int (Int32.ofNat oo)), .val (.int (Int32.ofNat lo)), .val (.int (Int32.ofNat hi)), sl] [(.int (Int32.ofNat (ns.getD lo 0))), (.int (Int32.ofNat oo)), (.int ((Int32.ofNat lo) + (1 : Int32))), (.ref b8), (.ref b8)]))
        refine Go.by (fun _ k => XS.isub X10.here X10.hx rfl (X10.cd d_prog_92_method_5_63) rfl k) ?_
        show Go _ _ _ _ (T10.setTop (mkF m 64 #[.val (.ref a1), .val (.int (Int32.ofNat oo)), .val (.int (Int32.ofNat lo)), .val (.int (Int32.ofNat hi)), sl] [(.int ((Int32.ofNat oo) - (Int32.ofNat (ns.getD lo 0)))), (.int ((Int32.ofNat lo) + (1 : Int32))), (.ref b8), (.ref b8)]))
        refine Go.by (fun _ k => XS.iconst X10.here X10.hx rfl (X10.cd d_prog_92_method_5_64)  k) ?_
        show Go _ _ _ _ (T10.setTop (mkF m 65 #[.val (.ref a1), .val (.int (Int32.ofNat oo)), .val (.int (Int32.ofNat lo)), .val (.int (Int32.ofNat hi)), sl] [(.int (1 : Int32)), (.int ((Int32.ofNat oo) - (Int32.ofNat (ns.getD lo 0)))), (.int ((Int32.ofNat lo) + (1 : Int32))), (.ref b8), (.ref b8)]))
        refine Go.by (fun _ k => XS.iadd X10.here X10.hx rfl (X10.cd d_prog_92_method_5_65) rfl k) ?_
        show Go _ _ _ _ (T10.setTop (mkF m 66 #[.val (.ref a1), .val (.int (Int32.ofNat oo)), .val (.int (Int32.ofNat lo)), .val (.int (Int32.ofNat hi)), sl] [(.int (((Int32.ofNat oo) - (Int32.ofNat (ns.getD lo 0))) + (1 : Int32))), (.int ((Int32.ofNat lo) + (1 : Int32))), (.ref b8), (.ref b8)]))
        obtain ⟨_, T12, h12, X12, K12, ⟨rfl, P12_0, P12_1⟩, st12⟩ := X10.spN (W := 1) rfl (hw _ (List.mem_of_getElem? (i := 199) rfl)) (hw _ (List.mem_of_getElem? (i := 200) rfl)) (hw _ (List.mem_of_getElem? (i := 201) rfl)) (by decide) ((rm_poi l Z a0 hw n0 b8 ((Int32.ofNat lo) + (1 : Int32)) (((Int32.ofNat oo) - (Int32.ofNat (ns.getD lo 0))) + (1 : Int32)) (.int (0 : Int32)) (.int (0 : Int32)) h8 X10.old A8 F8_line F8_column (X10.ge (.head _)) (X10.lt (.head _))).pay (hw _ (List.mem_of_getElem? (i := 201) rfl)) (hw _ (List.mem_of_getElem? (i := 198) rfl)) (by decide) (by decide)) (allS (.head _) all0) (g := (mkF m 66 #[.val (.ref a1), .val (.int (Int32.ofNat oo)), .val (.int (Int32.ofNat lo)), .val (.int (Int32.ofNat hi)), sl] [(.int (((Int32.ofNat oo) - (Int32.ofNat (ns.getD lo 0))) + (1 : Int32))), (.int ((Int32.ofNat lo) + (1 : Int32))), (.ref b8), (.ref b8)])) rfl rfl (a := b8) (argsL := [(.int ((Int32.ofNat lo) + (1 : Int32))), (.int (((Int32.ofNat oo) - (Int32.ofNat (ns.getD lo 0))) + (1 : Int32)))]) (rest := [(.ref b8)]) (lenOf pd_14 rfl) rfl (by exact Nat.le_of_eq rfl) d_prog_92_method_5_66 rfl (by decide) (by decide)
        refine Go.tr st12 ?_
        have K0_h12 : Keep h0 h12 [] := K0_h8.trans K12 (allS (Or.inr sz_b8) all0)
        show Go _ _ _ _ (T12.setTop (mkF m 69 #[.val (.ref a1), .val (.int (Int32.ofNat oo)), .val (.int (Int32.ofNat lo)), .val (.int (Int32.ofNat hi)), sl] [(.ref b8)]))
        have f13 : Exa Z h12 b8 "com/example/cinderpath/cinderpath/source/Position" := (A8).keep K12
        exact X12.retR rfl rfl d_prog_92_method_5_69 K0_h12 ⟨b8, lo, rfl, sz_b8, (X12.lt (.head _)), f13, P12_0, P12_1, ⟨by omega, q3, fun z => (by rw [show lo = hi from by omega] at z ⊢; exact q4 z)⟩⟩ (by decide) (by decide)
  exact loop 6 0 (ns.length - 1) .unset _ X1 (by omega) (by omega) hh (fun z => by omega) (by omega) (Or.inl rfl)
theorem ef_rm_law (m : MethodId) (x0 : Int32) (x1 : Int64) (x2 : Int32) (x3 : Int32) : entryFrame m #[(.int x0), (.long x1), (.int x2), (.int x3)] 18 = mkF m 0 #[.val (.int x0), .val (.long x1), .second, .val (.int x2), .val (.int x3), .unset, .unset, .unset, .unset, .unset, .unset, .unset, .unset, .unset, .unset, .unset, .unset, .unset] [] := by first | (simp [entryFrame, mkF, argsToLocals, Value.category]; done) | rfl
def Q_rm_law (Z : State) (i0 : Int32) (i1 : Int64) (i2 : Int32) (i3 : Int32) (zc : Int32) (vf : Value) (dd : Addr) (kd : ClassId) (cq : Addr) (kq : ClassId) (vq : List Value) (iv : Nat → Addr) (h0 : Heap) (ov : Option Value) (hz : Heap) : Prop := ov = some (.int (1 : Int32))
theorem pd_15 : parseMethodDescriptor "(IJI)C" = some ⟨[.int, .long, .int], some .char⟩ := by decide +kernel
theorem pd_16 : parseMethodDescriptor "(CCCCCI)Ljava/lang/String;" = some ⟨[.char, .char, .char, .char, .char, .int], some (.object "java/lang/String")⟩ := by decide +kernel
theorem pd_17 : parseMethodDescriptor "(Ljava/lang/String;Ljava/lang/String;)V" = some ⟨[(.object "java/lang/String"), (.object "java/lang/String")], none⟩ := by decide +kernel
theorem pd_18 : parseMethodDescriptor "(I)Lcom/example/cinderpath/cinderpath/source/Position;" = some ⟨[.int], some (.object "com/example/cinderpath/cinderpath/source/Position")⟩ := by decide +kernel
set_option maxRecDepth 65536 in
set_option maxHeartbeats 40000000 in
theorem rm_law (l : Launch) (Z : State) (a0 : Array Value) (hw : ∀ d ∈ tables_1, d.before a0 Z = true) (n0 : Nat) (i0 : Int32) (i1 : Int64) (i2 : Int32) (i3 : Int32) (zc : Int32) (vf : Value) (dd : Addr) (kd : ClassId) (cq : Addr) (kq : ClassId) (vq : List Value) (iv : Nat → Addr) (h0 : Heap) (hO : Old Z n0 h0) (Sc : Sta Z Z.heap "java/lang/String" "COMPACT_STRINGS" "Z" (.int zc)) (nc : ¬ (zc = (0 : Int32))) (Sf : Sta Z Z.heap "jdk/internal/util/Preconditions" "SIOOBE_FORMATTER" "Ljava/util/function/BiFunction;" vf) (rf : vf.isRef = true) (Sd : Sta Z Z.heap "java/util/ArrayList" "DEFAULTCAPACITY_EMPTY_ELEMENTDATA" "[Ljava/lang/Object;" (.ref dd)) (Ad : Arv Z Z.heap dd kd (.object "java/lang/Object") (0 : Int32) [] .null) (Sh : Sta Z Z.heap "java/lang/Integer$IntegerCache" "high" "I" (.int (127 : Int32))) (Sq : Sta Z Z.heap "java/lang/Integer$IntegerCache" "cache" "[Ljava/lang/Integer;" (.ref cq)) (Aq : Arv Z Z.heap cq kq (.object "java/lang/Integer") (256 : Int32) vq .null) (Hq : ∀ m, m ≤ 5 → vq.getD (m + 128) .null = .ref (iv m) ∧ Exa Z Z.heap (iv m) "java/lang/Integer" ∧ Fld Z Z.heap (iv m) "java/lang/Integer" "value" "I" (.int (Int32.ofNat m))) :
    Cw l x code maxLocals ret tables_1 room_1 Z EL n0 #[(.int i0), (.long i1), (.int i2), (.int i3)] h0 [] [] (Q_rm_law Z i0 i1 i2 i3 zc vf dd kd cq kq vq iv h0) := by
  refine Cw.of_walk (plainFor_of_name pn_1) hO (own_EW hw) all0 ?_
  intro p e s m below meth c T0 X0
  show Go _ _ _ _ (T0.setTop (entryFrame m #[(.int i0), (.long i1), (.int i2), (.int i3)] 18))
  rw [ef_rm_law m i0 i1 i2 i3]
  show Go _ _ _ _ (T0.setTop (mkF m 0 #[.val (.int i0), .val (.long i1), .second, .val (.int i2), .val (.int i3), .unset, .unset, .unset, .unset, .unset, .unset, .unset, .unset, .unset, .unset, .unset, .unset, .unset] []))
  refine Go.by (fun _ k => XS.iloadN X0.here X0.hx rfl (X0.cd at_0) rfl  k) ?_
  show Go _ _ _ _ (T0.setTop (mkF m 1 #[.val (.int i0), .val (.long i1), .second, .val (.int i2), .val (.int i3), .unset, .unset, .unset, .unset, .unset, .unset, .unset, .unset, .unset, .unset, .unset, .unset, .unset] [(.int i0)]))
  refine Go.by (fun _ k => XS.lloadN X0.here X0.hx rfl (X0.cd at_1) rfl  k) ?_
  show Go _ _ _ _ (T0.setTop (mkF m 2 #[.val (.int i0), .val (.long i1), .second, .val (.int i2), .val (.int i3), .unset, .unset, .unset, .unset, .unset, .unset, .unset, .unset, .unset, .unset, .unset, .unset, .unset] [(.long i1), (.int i0)]))
  refine Go.by (fun _ k => XS.iconst X0.here X0.hx rfl (X0.cd at_2)  k) ?_
  show Go _ _ _ _ (T0.setTop (mkF m 3 #[.val (.int i0), .val (.long i1), .second, .val (.int i2), .val (.int i3), .unset, .unset, .unset, .unset, .unset, .unset, .unset, .unset, .unset, .unset, .unset, .unset, .unset] [(.int (0 : Int32)), (.long i1), (.int i0)]))
  obtain ⟨_, T1, h1, X1, K1, ⟨r_1, rfl, rfl, p1_0⟩, st1⟩ := X0.stN (W := 0) (hw _ (List.mem_of_getElem? (i := 0) rfl)) (hw _ (List.mem_of_getElem? (i := 1) rfl)) (hw _ (List.mem_of_getElem? (i := 2) rfl)) (hw _ (List.mem_of_getElem? (i := 3) rfl)) (by decide) ((rm_pick l Z a0 hw n0 i0 i1 (0 : Int32) h0 X0.old ).pay (hw _ (List.mem_of_getElem? (i := 3) rfl)) (hw _ (List.mem_of_getElem? (i := 2) rfl)) (by decide) (by decide)) all0 (g := (mkF m 3 #[.val (.int i0), .val (.long i1), .second, .val (.int i2), .val (.int i3), .unset, .unset, .unset, .unset, .unset, .unset, .unset, .unset, .unset, .unset, .unset, .unset, .unset] [(.int (0 : Int32)), (.long i1), (.int i0)])) rfl rfl (argsL := [(.int i0), (.long i1), (.int (0 : Int32))]) (rest := []) (lenOf pd_15 rfl) rfl (by exact Nat.le_of_eq rfl) at_3 rfl (by decide) (by decide)
  refine Go.tr st1 ?_
  show Go _ _ _ _ (T1.setTop (mkF m 6 #[.val (.int i0), .val (.long i1), .second, .val (.int i2), .val (.int i3), .unset, .unset, .unset, .unset, .unset, .unset, .unset, .unset, .unset, .unset, .unset, .unset, .unset] [(.int r_1)]))
  refine Go.by (fun _ k => XS.istore X1.here X1.hx rfl (X1.cd at_6) rfl (l' := #[.val (.int i0), .val (.long i1), .second, .val (.int i2), .val (.int i3), .val (.int r_1), .unset, .unset, .unset, .unset, .unset, .unset, .unset, .unset, .unset, .unset, .unset, .unset]) rfl k) ?_
  show Go _ _ _ _ (T1.setTop (mkF m 8 #[.val (.int i0), .val (.long i1), .second, .val (.int i2), .val (.int i3), .val (.int r_1), .unset, .unset, .unset, .unset, .unset, .unset, .unset, .unset, .unset, .unset, .unset, .unset] []))
  refine Go.by (fun _ k => XS.iloadN X1.here X1.hx rfl (X1.cd at_8) rfl  k) ?_
  show Go _ _ _ _ (T1.setTop (mkF m 9 #[.val (.int i0), .val (.long i1), .second, .val (.int i2), .val (.int i3), .val (.int r_1), .unset, .unset, .unset, .unset, .unset, .unset, .unset, .unset, .unset, .unset, .unset, .unset] [(.int i0)]))
  refine Go.by (fun _ k => XS.lloadN X1.here X1.hx rfl (X1.cd at_9) rfl  k) ?_
  show Go _ _ _ _ (T1.setTop (mkF m 10 #[.val (.int i0), .val (.long i1), .second, .val (.int i2), .val (.int i3), .val (.int r_1), .unset, .unset, .unset, .unset, .unset, .unset, .unset, .unset, .unset, .unset, .unset, .unset] [(.long i1), (.int i0)]))
  refine Go.by (fun _ k => XS.iconst X1.here X1.hx rfl (X1.cd at_10)  k) ?_
  show Go _ _ _ _ (T1.setTop (mkF m 11 #[.val (.int i0), .val (.long i1), .second, .val (.int i2), .val (.int i3), .val (.int r_1), .unset, .unset, .unset, .unset, .unset, .unset, .unset, .unset, .unset, .unset, .unset, .unset] [(.int (1 : Int32)), (.long i1), (.int i0)]))
  obtain ⟨_, T2, h2, X2, K2, ⟨r_2, rfl, rfl, p2_0⟩, st2⟩ := X1.stN (W := 0) (hw _ (List.mem_of_getElem? (i := 0) rfl)) (hw _ (List.mem_of_getElem? (i := 1) rfl)) (hw _ (List.mem_of_getElem? (i := 2) rfl)) (hw _ (List.mem_of_getElem? (i := 3) rfl)) (by decide) ((rm_pick l Z a0 hw n0 i0 i1 (1 : Int32) h0 X1.old ).pay (hw _ (List.mem_of_getElem? (i := 3) rfl)) (hw _ (List.mem_of_getElem? (i := 2) rfl)) (by decide) (by decide)) all0 (g := (mkF m 11 #[.val (.int i0), .val (.long i1), .second, .val (.int i2), .val (.int i3), .val (.int r_1), .unset, .unset, .unset, .unset, .unset, .unset, .unset, .unset, .unset, .unset, .unset, .unset] [(.int (1 : Int32)), (.long i1), (.int i0)])) rfl rfl (argsL := [(.int i0), (.long i1), (.int (1 : Int32))]) (rest := []) (lenOf pd_15 rfl) rfl (by exact Nat.le_of_eq rfl) at_11 rfl (by decide) (by decide)
  refine Go.tr st2 ?_
  show Go _ _ _ _ (T2.setTop (mkF m 14 #[.val (.int i0), .val (.long i1), .second, .val (.int i2), .val (.int i3), .val (.int r_1), .unset, .unset, .unset, .unset, .unset, .unset, .unset, .unset, .unset, .unset, .unset, .unset] [(.int r_2)]))
  refine Go.by (fun _ k => XS.istore X2.here X2.hx rfl (X2.cd at_14) rfl (l' := #[.val (.int i0), .val (.long i1), .second, .val (.int i2), .val (.int i3), .val (.int r_1), .val (.int r_2), .unset, .unset, .unset, .unset, .unset, .unset, .unset, .unset, .unset, .unset, .unset]) rfl k) ?_
  show Go _ _ _ _ (T2.setTop (mkF m 16 #[.val (.int i0), .val (.long i1), .second, .val (.int i2), .val (.int i3), .val (.int r_1), .val (.int r_2), .unset, .unset, .unset, .unset, .unset, .unset, .unset, .unset, .unset, .unset, .unset] []))
  refine Go.by (fun _ k => XS.iloadN X2.here X2.hx rfl (X2.cd at_16) rfl  k) ?_
  show Go _ _ _ _ (T2.setTop (mkF m 17 #[.val (.int i0), .val (.long i1), .second, .val (.int i2), .val (.int i3), .val (.int r_1), .val (.int r_2), .unset, .unset, .unset, .unset, .unset, .unset, .unset, .unset, .unset, .unset, .unset] [(.int i0)]))
  refine Go.by (fun _ k => XS.lloadN X2.here X2.hx rfl (X2.cd at_17) rfl  k) ?_
  show Go _ _ _ _ (T2.setTop (mkF m 18 #[.val (.int i0), .val (.long i1), .second, .val (.int i2), .val (.int i3), .val (.int r_1), .val (.int r_2), .unset, .unset, .unset, .unset, .unset, .unset, .unset, .unset, .unset, .unset, .unset] [(.long i1), (.int i0)]))
  refine Go.by (fun _ k => XS.iconst X2.here X2.hx rfl (X2.cd at_18)  k) ?_
  show Go _ _ _ _ (T2.setTop (mkF m 19 #[.val (.int i0), .val (.long i1), .second, .val (.int i2), .val (.int i3), .val (.int r_1), .val (.int r_2), .unset, .unset, .unset, .unset, .unset, .unset, .unset, .unset, .unset, .unset, .unset] [(.int (2 : Int32)), (.long i1), (.int i0)]))
  obtain ⟨_, T3, h3, X3, K3, ⟨r_3, rfl, rfl, p3_0⟩, st3⟩ := X2.stN (W := 0) (hw _ (List.mem_of_getElem? (i := 0) rfl)) (hw _ (List.mem_of_getElem? (i := 1) rfl)) (hw _ (List.mem_of_getElem? (i := 2) rfl)) (hw _ (List.mem_of_getElem? (i := 3) rfl)) (by decide) ((rm_pick l Z a0 hw n0 i0 i1 (2 : Int32) h0 X2.old ).pay (hw _ (List.mem_of_getElem? (i := 3) rfl)) (hw _ (List.mem_of_getElem? (i := 2) rfl)) (by decide) (by decide)) all0 (g := (mkF m 19 #[.val (.int i0), .val (.long i1), .second, .val (.int i2), .val (.int i3), .val (.int r_1), .val (.int r_2), .unset, .unset, .unset, .unset, .unset, .unset, .unset, .unset, .unset, .unset, .unset] [(.int (2 : Int32)), (.long i1), (.int i0)])) rfl rfl (argsL := [(.int i0), (.long i1), (.int (2 : Int32))]) (rest := []) (lenOf pd_15 rfl) rfl (by exact Nat.le_of_eq rfl) at_19 rfl (by decide) (by decide)
  refine Go.tr st3 ?_
  show Go _ _ _ _ (T3.setTop (mkF m 22 #[.val (.int i0), .val (.long i1), .second, .val (.int i2), .val (.int i3), .val (.int r_1), .val (.int r_2), .unset, .unset, .unset, .unset, .unset, .unset, .unset, .unset, .unset, .unset, .unset] [(.int r_3)]))
  refine Go.by (fun _ k => XS.istore X3.here X3.hx rfl (X3.cd at_22) rfl (l' := #[.val (.int i0), .val (.long i1), .second, .val (.int i2), .val (.int i3), .val (.int r_1), .val (.int r_2), .val (.int r_3), .unset, .unset, .unset, .unset, .unset, .unset, .unset, .unset, .unset, .unset]) rfl k) ?_
  show Go _ _ _ _ (T3.setTop (mkF m 24 #[.val (.int i0), .val (.long i1), .second, .val (.int i2), .val (.int i3), .val (.int r_1), .val (.int r_2), .val (.int r_3), .unset, .unset, .unset, .unset, .unset, .unset, .unset, .unset, .unset, .unset] []))
  refine Go.by (fun _ k => XS.iloadN X3.here X3.hx rfl (X3.cd at_24) rfl  k) ?_
  show Go _ _ _ _ (T3.setTop (mkF m 25 #[.val (.int i0), .val (.long i1), .second, .val (.int i2), .val (.int i3), .val (.int r_1), .val (.int r_2), .val (.int r_3), .unset, .unset, .unset, .unset, .unset, .unset, .unset, .unset, .unset, .unset] [(.int i0)]))
  refine Go.by (fun _ k => XS.lloadN X3.here X3.hx rfl (X3.cd at_25) rfl  k) ?_
  show Go _ _ _ _ (T3.setTop (mkF m 26 #[.val (.int i0), .val (.long i1), .second, .val (.int i2), .val (.int i3), .val (.int r_1), .val (.int r_2), .val (.int r_3), .unset, .unset, .unset, .unset, .unset, .unset, .unset, .unset, .unset, .unset] [(.long i1), (.int i0)]))
  refine Go.by (fun _ k => XS.iconst X3.here X3.hx rfl (X3.cd at_26)  k) ?_
  show Go _ _ _ _ (T3.setTop (mkF m 27 #[.val (.int i0), .val (.long i1), .second, .val (.int i2), .val (.int i3), .val (.int r_1), .val (.int r_2), .val (.int r_3), .unset, .unset, .unset, .unset, .unset, .unset, .unset, .unset, .unset, .unset] [(.int (3 : Int32)), (.long i1), (.int i0)]))
  obtain ⟨_, T4, h4, X4, K4, ⟨r_4, rfl, rfl, p4_0⟩, st4⟩ := X3.stN (W := 0) (hw _ (List.mem_of_getElem? (i := 0) rfl)) (hw _ (List.mem_of_getElem? (i := 1) rfl)) (hw _ (List.mem_of_getElem? (i := 2) rfl)) (hw _ (List.mem_of_getElem? (i := 3) rfl)) (by decide) ((rm_pick l Z a0 hw n0 i0 i1 (3 : Int32) h0 X3.old ).pay (hw _ (List.mem_of_getElem? (i := 3) rfl)) (hw _ (List.mem_of_getElem? (i := 2) rfl)) (by decide) (by decide)) all0 (g := (mkF m 27 #[.val (.int i0), .val (.long i1), .second, .val (.int i2), .val (.int i3), .val (.int r_1), .val (.int r_2), .val (.int r_3), .unset, .unset, .unset, .unset, .unset, .unset, .unset, .unset, .unset, .unset] [(.int (3 : Int32)), (.long i1), (.int i0)])) rfl rfl (argsL := [(.int i0), (.long i1), (.int (3 : Int32))]) (rest := []) (lenOf pd_15 rfl) rfl (by exact Nat.le_of_eq rfl) at_27 rfl (by decide) (by decide)
  refine Go.tr st4 ?_
  show Go _ _ _ _ (T4.setTop (mkF m 30 #[.val (.int i0), .val (.long i1), .second, .val (.int i2), .val (.int i3), .val (.int r_1), .val (.int r_2), .val (.int r_3), .unset, .unset, .unset, .unset, .unset, .unset, .unset, .unset, .unset, .unset] [(.int r_4)]))
  refine Go.by (fun _ k => XS.istore X4.here X4.hx rfl (X4.cd at_30) rfl (l' := #[.val (.int i0), .val (.long i1), .second, .val (.int i2), .val (.int i3), .val (.int r_1), .val (.int r_2), .val (.int r_3), .val (.int r_4), .unset, .unset, .unset, .unset, .unset, .unset, .unset, .unset, .unset]) rfl k) ?_
  show Go _ _ _ _ (T4.setTop (mkF m 32 #[.val (.int i0), .val (.long i1), .second, .val (.int i2), .val (.int i3), .val (.int r_1), .val (.int r_2), .val (.int r_3), .val (.int r_4), .unset, .unset, .unset, .unset, .unset, .unset, .unset, .unset, .unset] []))
  refine Go.by (fun _ k => XS.iloadN X4.here X4.hx rfl (X4.cd at_32) rfl  k) ?_
  show Go _ _ _ _ (T4.setTop (mkF m 33 #[.val (.int i0), .val (.long i1), .second, .val (.int i2), .val (.int i3), .val (.int r_1), .val (.int r_2), .val (.int r_3), .val (.int r_4), .unset, .unset, .unset, .unset, .unset, .unset, .unset, .unset, .unset] [(.int i0)]))
  refine Go.by (fun _ k => XS.lloadN X4.here X4.hx rfl (X4.cd at_33) rfl  k) ?_
  show Go _ _ _ _ (T4.setTop (mkF m 34 #[.val (.int i0), .val (.long i1), .second, .val (.int i2), .val (.int i3), .val (.int r_1), .val (.int r_2), .val (.int r_3), .val (.int r_4), .unset, .unset, .unset, .unset, .unset, .unset, .unset, .unset, .unset] [(.long i1), (.int i0)]))
  refine Go.by (fun _ k => XS.iconst X4.here X4.hx rfl (X4.cd at_34)  k) ?_
  show Go _ _ _ _ (T4.setTop (mkF m 35 #[.val (.int i0), .val (.long i1), .second, .val (.int i2), .val (.int i3), .val (.int r_1), .val (.int r_2), .val (.int r_3), .val (.int r_4), .unset, .unset, .unset, .unset, .unset, .unset, .unset, .unset, .unset] [(.int (4 : Int32)), (.long i1), (.int i0)]))
  obtain ⟨_, T5, h5, X5, K5, ⟨r_5, rfl, rfl, p5_0⟩, st5⟩ := X4.stN (W := 0) (hw _ (List.mem_of_getElem? (i := 0) rfl)) (hw _ (List.mem_of_getElem? (i := 1) rfl)) (hw _ (List.mem_of_getElem? (i := 2) rfl)) (hw _ (List.mem_of_getElem? (i := 3) rfl)) (by decide) ((rm_pick l Z a0 hw n0 i0 i1 (4 : Int32) h0 X4.old ).pay (hw _ (List.mem_of_getElem? (i := 3) rfl)) (hw _ (List.mem_of_getElem? (i := 2) rfl)) (by decide) (by decide)) all0 (g := (mkF m 35 #[.val (.int i0), .val (.long i1), .second, .val (.int i2), .val (.int i3), .val (.int r_1), .val (.int r_2), .val (.int r_3), .val (.int r_4), .unset, .unset, .unset, .unset, .unset, .unset, .unset, .unset, .unset] [(.int (4 : Int32)), (.long i1), (.int i0)])) rfl rfl (argsL := [(.int i0), (.long i1), (.int (4 : Int32))]) (rest := []) (lenOf pd_15 rfl) rfl (by exact Nat.le_of_eq rfl) at_35 rfl (by decide) (by decide)
  refine Go.tr st5 ?_
  show Go _ _ _ _ (T5.setTop (mkF m 38 #[.val (.int i0), .val (.long i1), .second, .val (.int i2), .val (.int i3), .val (.int r_1), .val (.int r_2), .val (.int r_3), .val (.int r_4), .unset, .unset, .unset, .unset, .unset, .unset, .unset, .unset, .unset] [(.int r_5)]))
  refine Go.by (fun _ k => XS.istore X5.here X5.hx rfl (X5.cd at_38) rfl (l' := #[.val (.int i0), .val (.long i1), .second, .val (.int i2), .val (.int i3), .val (.int r_1), .val (.int r_2), .val (.int r_3), .val (.int r_4), .val (.int r_5), .unset, .unset, .unset, .unset, .unset, .unset, .unset, .unset]) rfl k) ?_
  show Go _ _ _ _ (T5.setTop (mkF m 40 #[.val (.int i0), .val (.long i1), .second, .val (.int i2), .val (.int i3), .val (.int r_1), .val (.int r_2), .val (.int r_3), .val (.int r_4), .val (.int r_5), .unset, .unset, .unset, .unset, .unset, .unset, .unset, .unset] []))
  refine Go.by (fun _ k => XS.iloadN X5.here X5.hx rfl (X5.cd at_40) rfl  k) ?_
  show Go _ _ _ _ (T5.setTop (mkF m 41 #[.val (.int i0), .val (.long i1), .second, .val (.int i2), .val (.int i3), .val (.int r_1), .val (.int r_2), .val (.int r_3), .val (.int r_4), .val (.int r_5), .unset, .unset, .unset, .unset, .unset, .unset, .unset, .unset] [(.int i2)]))
  refine Go.by (fun _ k => X5.ldcI (hw _ (List.mem_of_getElem? (i := 4) rfl)) (g := (mkF m 41 #[.val (.int i0), .val (.long i1), .second, .val (.int i2), .val (.int i3), .val (.int r_1), .val (.int r_2), .val (.int r_3), .val (.int r_4), .val (.int r_5), .unset, .unset, .unset, .unset, .unset, .unset, .unset, .unset] [(.int i2)])) rfl at_41 _ k) ?_
  show Go _ _ _ _ (T5.setTop (mkF m 43 #[.val (.int i0), .val (.long i1), .second, .val (.int i2), .val (.int i3), .val (.int r_1), .val (.int r_2), .val (.int r_3), .val (.int r_4), .val (.int r_5), .unset, .unset, .unset, .unset, .unset, .unset, .unset, .unset] [(.int (2147483647 : Int32)), (.int i2)]))
  refine Go.by (fun _ k => XS.iand X5.here X5.hx rfl (X5.cd at_43) rfl k) ?_
  show Go _ _ _ _ (T5.setTop (mkF m 44 #[.val (.int i0), .val (.long i1), .second, .val (.int i2), .val (.int i3), .val (.int r_1), .val (.int r_2), .val (.int r_3), .val (.int r_4), .val (.int r_5), .unset, .unset, .unset, .unset, .unset, .unset, .unset, .unset] [(.int (i2 &&& (2147483647 : Int32)))]))
  refine Go.by (fun _ k => XS.bipush X5.here X5.hx rfl (X5.cd at_44)  k) ?_
  show Go _ _ _ _ (T5.setTop (mkF m 46 #[.val (.int i0), .val (.long i1), .second, .val (.int i2), .val (.int i3), .val (.int r_1), .val (.int r_2), .val (.int r_3), .val (.int r_4), .val (.int r_5), .unset, .unset, .unset, .unset, .unset, .unset, .unset, .unset] [(.int (6 : Int32)), (.int (i2 &&& (2147483647 : Int32)))]))
  refine Go.by (fun _ k => X5.irem (g := (mkF m 46 #[.val (.int i0), .val (.long i1), .second, .val (.int i2), .val (.int i3), .val (.int r_1), .val (.int r_2), .val (.int r_3), .val (.int r_4), .val (.int r_5), .unset, .unset, .unset, .unset, .unset, .unset, .unset, .unset] [(.int (6 : Int32)), (.int (i2 &&& (2147483647 : Int32)))])) rfl rfl (by decide) at_46 _ k) ?_
  show Go _ _ _ _ (T5.setTop (mkF m 47 #[.val (.int i0), .val (.long i1), .second, .val (.int i2), .val (.int i3), .val (.int r_1), .val (.int r_2), .val (.int r_3), .val (.int r_4), .val (.int r_5), .unset, .unset, .unset, .unset, .unset, .unset, .unset, .unset] [(.int ((i2 &&& (2147483647 : Int32)) % (6 : Int32)))]))
  obtain ⟨ln, hln, eln⟩ := own_rem i2 (n := 6) (N := 6) rfl (by decide)
  rw [eln]
  show Go _ _ _ _ (T5.setTop (mkF m 47 #[.val (.int i0), .val (.long i1), .second, .val (.int i2), .val (.int i3), .val (.int r_1), .val (.int r_2), .val (.int r_3), .val (.int r_4), .val (.int r_5), .unset, .unset, .unset, .unset, .unset, .unset, .unset, .unset] [(.int (Int32.ofNat ln))]))
  refine Go.by (fun _ k => XS.istore X5.here X5.hx rfl (X5.cd at_47) rfl (l' := #[.val (.int i0), .val (.long i1), .second, .val (.int i2), .val (.int i3), .val (.int r_1), .val (.int r_2), .val (.int r_3), .val (.int r_4), .val (.int r_5), .val (.int (Int32.ofNat ln)), .unset, .unset, .unset, .unset, .unset, .unset, .unset]) rfl k) ?_
  show Go _ _ _ _ (T5.setTop (mkF m 49 #[.val (.int i0), .val (.long i1), .second, .val (.int i2), .val (.int i3), .val (.int r_1), .val (.int r_2), .val (.int r_3), .val (.int r_4), .val (.int r_5), .val (.int (Int32.ofNat ln)), .unset, .unset, .unset, .unset, .unset, .unset, .unset] []))
  refine Go.by (fun _ k => XS.iload X5.here X5.hx rfl (X5.cd at_49) rfl  k) ?_
  show Go _ _ _ _ (T5.setTop (mkF m 51 #[.val (.int i0), .val (.long i1), .second, .val (.int i2), .val (.int i3), .val (.int r_1), .val (.int r_2), .val (.int r_3), .val (.int r_4), .val (.int r_5), .val (.int (Int32.ofNat ln)), .unset, .unset, .unset, .unset, .unset, .unset, .unset] [(.int i3)]))
  refine Go.by (fun _ k => X5.ldcI (hw _ (List.mem_of_getElem? (i := 4) rfl)) (g := (mkF m 51 #[.val (.int i0), .val (.long i1), .second, .val (.int i2), .val (.int i3), .val (.int r_1), .val (.int r_2), .val (.int r_3), .val (.int r_4), .val (.int r_5), .val (.int (Int32.ofNat ln)), .unset, .unset, .unset, .unset, .unset, .unset, .unset] [(.int i3)])) rfl at_51 _ k) ?_
  show Go _ _ _ _ (T5.setTop (mkF m 53 #[.val (.int i0), .val (.long i1), .second, .val (.int i2), .val (.int i3), .val (.int r_1), .val (.int r_2), .val (.int r_3), .val (.int r_4), .val (.int r_5), .val (.int (Int32.ofNat ln)), .unset, .unset, .unset, .unset, .unset, .unset, .unset] [(.int (2147483647 : Int32)), (.int i3)]))
  refine Go.by (fun _ k => XS.iand X5.here X5.hx rfl (X5.cd at_53) rfl k) ?_
  show Go _ _ _ _ (T5.setTop (mkF m 54 #[.val (.int i0), .val (.long i1), .second, .val (.int i2), .val (.int i3), .val (.int r_1), .val (.int r_2), .val (.int r_3), .val (.int r_4), .val (.int r_5), .val (.int (Int32.ofNat ln)), .unset, .unset, .unset, .unset, .unset, .unset, .unset] [(.int (i3 &&& (2147483647 : Int32)))]))
  refine Go.by (fun _ k => XS.iload X5.here X5.hx rfl (X5.cd at_54) rfl  k) ?_
  show Go _ _ _ _ (T5.setTop (mkF m 56 #[.val (.int i0), .val (.long i1), .second, .val (.int i2), .val (.int i3), .val (.int r_1), .val (.int r_2), .val (.int r_3), .val (.int r_4), .val (.int r_5), .val (.int (Int32.ofNat ln)), .unset, .unset, .unset, .unset, .unset, .unset, .unset] [(.int (Int32.ofNat ln)), (.int (i3 &&& (2147483647 : Int32)))]))
  refine Go.by (fun _ k => XS.iconst X5.here X5.hx rfl (X5.cd at_56)  k) ?_
  show Go _ _ _ _ (T5.setTop (mkF m 57 #[.val (.int i0), .val (.long i1), .second, .val (.int i2), .val (.int i3), .val (.int r_1), .val (.int r_2), .val (.int r_3), .val (.int r_4), .val (.int r_5), .val (.int (Int32.ofNat ln)), .unset, .unset, .unset, .unset, .unset, .unset, .unset] [(.int (1 : Int32)), (.int (Int32.ofNat ln)), (.int (i3 &&& (2147483647 : Int32)))]))
  refine Go.by (fun _ k => XS.iadd X5.here X5.hx rfl (X5.cd at_57) rfl k) ?_
  show Go _ _ _ _ (T5.setTop (mkF m 58 #[.val (.int i0), .val (.long i1), .second, .val (.int i2), .val (.int i3), .val (.int r_1), .val (.int r_2), .val (.int r_3), .val (.int r_4), .val (.int r_5), .val (.int (Int32.ofNat ln)), .unset, .unset, .unset, .unset, .unset, .unset, .unset] [(.int ((Int32.ofNat ln) + (1 : Int32))), (.int (i3 &&& (2147483647 : Int32)))]))
  refine Go.by (fun _ k => X5.irem (g := (mkF m 58 #[.val (.int i0), .val (.long i1), .second, .val (.int i2), .val (.int i3), .val (.int r_1), .val (.int r_2), .val (.int r_3), .val (.int r_4), .val (.int r_5), .val (.int (Int32.ofNat ln)), .unset, .unset, .unset, .unset, .unset, .unset, .unset] [(.int ((Int32.ofNat ln) + (1 : Int32))), (.int (i3 &&& (2147483647 : Int32)))])) rfl rfl (own_nz hln) at_58 _ k) ?_
  show Go _ _ _ _ (T5.setTop (mkF m 59 #[.val (.int i0), .val (.long i1), .second, .val (.int i2), .val (.int i3), .val (.int r_1), .val (.int r_2), .val (.int r_3), .val (.int r_4), .val (.int r_5), .val (.int (Int32.ofNat ln)), .unset, .unset, .unset, .unset, .unset, .unset, .unset] [(.int ((i3 &&& (2147483647 : Int32)) % ((Int32.ofNat ln) + (1 : Int32))))]))
  obtain ⟨oo, hoo, eoo⟩ := own_rem i3 (n := Int32.ofNat ln + (1 : Int32)) (N := ln + 1) (by rw [on_succ]; exact on_toInt (by omega)) (by omega)
  rw [eoo]
  show Go _ _ _ _ (T5.setTop (mkF m 59 #[.val (.int i0), .val (.long i1), .second, .val (.int i2), .val (.int i3), .val (.int r_1), .val (.int r_2), .val (.int r_3), .val (.int r_4), .val (.int r_5), .val (.int (Int32.ofNat ln)), .unset, .unset, .unset, .unset, .unset, .unset, .unset] [(.int (Int32.ofNat oo))]))
  refine Go.by (fun _ k => XS.istore X5.here X5.hx rfl (X5.cd at_59) rfl (l' := #[.val (.int i0), .val (.long i1), .second, .val (.int i2), .val (.int i3), .val (.int r_1), .val (.int r_2), .val (.int r_3), .val (.int r_4), .val (.int r_5), .val (.int (Int32.ofNat ln)), .val (.int (Int32.ofNat oo)), .unset, .unset, .unset, .unset, .unset, .unset]) rfl k) ?_
  show Go _ _ _ _ (T5.setTop (mkF m 61 #[.val (.int i0), .val (.long i1), .second, .val (.int i2), .val (.int i3), .val (.int r_1), .val (.int r_2), .val (.int r_3), .val (.int r_4), .val (.int r_5), .val (.int (Int32.ofNat ln)), .val (.int (Int32.ofNat oo)), .unset, .unset, .unset, .unset, .unset, .unset] []))
  refine Go.by (fun _ k => XS.iload X5.here X5.hx rfl (X5.cd at_61) rfl  k) ?_
  show Go _ _ _ _ (T5.setTop (mkF m 63 #[.val (.int i0), .val (.long i1), .second, .val (.int i2), .val (.int i3), .val (.int r_1), .val (.int r_2), .val (.int r_3), .val (.int r_4), .val (.int r_5), .val (.int (Int32.ofNat ln)), .val (.int (Int32.ofNat oo)), .unset, .unset, .unset, .unset, .unset, .unset] [(.int r_1)]))
  refine Go.by (fun _ k => XS.iload X5.here X5.hx rfl (X5.cd at_63) rfl  k) ?_
  show Go _ _ _ _ (T5.setTop (mkF m 65 #[.val (.int i0), .val (.long i1), .second, .val (.int i2), .val (.int i3), .val (.int r_1), .val (.int r_2), .val (.int r_3), .val (.int r_4), .val (.int r_5), .val (.int (Int32.ofNat ln)), .val (.int (Int32.ofNat oo)), .unset, .unset, .unset, .unset, .unset, .unset] [(.int r_2), (.int r_1)]))
  refine Go.by (fun _ k => XS.iload X5.here X5.hx rfl (X5.cd at_65) rfl  k) ?_
  show Go _ _ _ _ (T5.setTop (mkF m 67 #[.val (.int i0), .val (.long i1), .second, .val (.int i2), .val (.int i3), .val (.int r_1), .val (.int r_2), .val (.int r_3), .val (.int r_4), .val (.int r_5), .val (.int (Int32.ofNat ln)), .val (.int (Int32.ofNat oo)), .unset, .unset, .unset, .unset, .unset, .unset] [(.int r_3), (.int r_2), (.int r_1)]))
  refine Go.by (fun _ k => XS.iload X5.here X5.hx rfl (X5.cd at_67) rfl  k) ?_
  show Go _ _ _ _ (T5.setTop (mkF m 69 #[.val (.int i0), .val (.long i1), .second, .val (.int i2), .val (.int i3), .val (.int r_1), .val (.int r_2), .val (.int r_3), .val (.int r_4), .val (.int r_5), .val (.int (Int32.ofNat ln)), .val (.int (Int32.ofNat oo)), .unset, .unset, .unset, .unset, .unset, .unset] [(.int r_4), (.int r_3), (.int r_2), (.int r_1)]))
  refine Go.by (fun _ k => XS.iload X5.here X5.hx rfl (X5.cd at_69) rfl  k) ?_
  show Go _ _ _ _ (T5.setTop (mkF m 71 #[.val (.int i0), .val (.long i1), .second, .val (.int i2), .val (.int i3), .val (.int r_1), .val (.int r_2), .val (.int r_3), .val (.int r_4), .val (.int r_5), .val (.int (Int32.ofNat ln)), .val (.int (Int32.ofNat oo)), .unset, .unset, .unset, .unset, .unset, .unset] [(.int r_5), (.int r_4), (.int r_3), (.int r_2), (.int r_1)]))
  refine Go.by (fun _ k => XS.iload X5.here X5.hx rfl (X5.cd at_71) rfl  k) ?_
  show Go _ _ _ _ (T5.setTop (mkF m 73 #[.val (.int i0), .val (.long i1), .second, .val (.int i2), .val (.int i3), .val (.int r_1), .val (.int r_2), .val (.int r_3), .val (.int r_4), .val (.int r_5), .val (.int (Int32.ofNat ln)), .val (.int (Int32.ofNat oo)), .unset, .unset, .unset, .unset, .unset, .unset] [(.int (Int32.ofNat ln)), (.int r_5), (.int r_4), (.int r_3), (.int r_2), (.int r_1)]))
  obtain ⟨_, T6, h6, X6, K6, ⟨x_6, t_6, rfl, fr_x_6, fl_x_6, P6_0⟩, st6⟩ := X5.stW (W := 0) (hw _ (List.mem_of_getElem? (i := 5) rfl)) (hw _ (List.mem_of_getElem? (i := 6) rfl)) (hw _ (List.mem_of_getElem? (i := 2) rfl)) (hw _ (List.mem_of_getElem? (i := 7) rfl)) (by decide) ((rm_make l Z a0 hw n0 r_1 r_2 r_3 r_4 r_5 ln zc h0 X5.old Sc nc p1_0 p2_0 p3_0 p4_0 p5_0 hln).pay (hw _ (List.mem_of_getElem? (i := 7) rfl)) (hw _ (List.mem_of_getElem? (i := 2) rfl)) (own_EW hw) (by decide) (by decide)) all0 all0 (g := (mkF m 73 #[.val (.int i0), .val (.long i1), .second, .val (.int i2), .val (.int i3), .val (.int r_1), .val (.int r_2), .val (.int r_3), .val (.int r_4), .val (.int r_5), .val (.int (Int32.ofNat ln)), .val (.int (Int32.ofNat oo)), .unset, .unset, .unset, .unset, .unset, .unset] [(.int (Int32.ofNat ln)), (.int r_5), (.int r_4), (.int r_3), (.int r_2), (.int r_1)])) rfl rfl (argsL := [(.int r_1), (.int r_2), (.int r_3), (.int r_4), (.int r_5), (.int (Int32.ofNat ln))]) (rest := []) (lenOf pd_16 rfl) rfl (by exact Nat.le_of_eq rfl) at_73 rfl (by decide) (by decide)
  refine Go.tr st6 ?_
  have K0_h6 : Keep h0 h6 [] := (Keep.refl h0 []).trans K6 all0
  have sz_x_6 : h0.size ≤ x_6 := Nat.le_trans X5.sz fr_x_6
  show Go _ _ _ _ (T6.setTop (mkF m 76 #[.val (.int i0), .val (.long i1), .second, .val (.int i2), .val (.int i3), .val (.int r_1), .val (.int r_2), .val (.int r_3), .val (.int r_4), .val (.int r_5), .val (.int (Int32.ofNat ln)), .val (.int (Int32.ofNat oo)), .unset, .unset, .unset, .unset, .unset, .unset] [(.ref x_6)]))
  refine Go.by (fun _ k => XS.astore X6.here X6.hx rfl (X6.cd at_76) rfl rfl (l' := #[.val (.int i0), .val (.long i1), .second, .val (.int i2), .val (.int i3), .val (.int r_1), .val (.int r_2), .val (.int r_3), .val (.int r_4), .val (.int r_5), .val (.int (Int32.ofNat ln)), .val (.int (Int32.ofNat oo)), .val (.ref x_6), .unset, .unset, .unset, .unset, .unset]) rfl k) ?_
  show Go _ _ _ _ (T6.setTop (mkF m 78 #[.val (.int i0), .val (.long i1), .second, .val (.int i2), .val (.int i3), .val (.int r_1), .val (.int r_2), .val (.int r_3), .val (.int r_4), .val (.int r_5), .val (.int (Int32.ofNat ln)), .val (.int (Int32.ofNat oo)), .val (.ref x_6), .unset, .unset, .unset, .unset, .unset] []))
  have lt_x_6_7 := P6_0.lt
  have lt_t_6_7 := P6_0.ltT
  obtain ⟨T7, h7, b7, g_b7, X7, E7, A7, D7, st7⟩ := X6.new (hw _ (List.mem_of_getElem? (i := 38) rfl)) (hw _ (List.mem_of_getElem? (i := 39) rfl)) (hw _ (List.mem_of_getElem? (i := 40) rfl)) (g := (mkF m 78 #[.val (.int i0), .val (.long i1), .second, .val (.int i2), .val (.int i3), .val (.int r_1), .val (.int r_2), .val (.int r_3), .val (.int r_4), .val (.int r_5), .val (.int (Int32.ofNat ln)), .val (.int (Int32.ofNat oo)), .val (.ref x_6), .unset, .unset, .unset, .unset, .unset] [])) rfl at_78 (by decide) (by decide)
  refine Go.by st7 ?_
  have ne_x_6_b7 : x_6 ≠ b7 := ne_new lt_x_6_7 g_b7
  have ne_t_6_b7 : t_6 ≠ b7 := ne_new lt_t_6_7 g_b7
  have sz_b7 : h0.size ≤ b7 := Nat.le_trans X6.sz (Nat.le_of_eq g_b7.symm)
  have K0_h7 : Keep h0 h7 [] := K0_h6.ext E7
  have F7_name : Fld Z h7 b7 "com/example/cinderpath/cinderpath/source/SourceFile" "name" "Ljava/lang/String;" .null := D7 (Or.inr (hw _ (List.mem_of_getElem? (i := 49) rfl))) (ty := (.object "java/lang/String")) (by decide)
  have F7_text : Fld Z h7 b7 "com/example/cinderpath/cinderpath/source/SourceFile" "text" "Ljava/lang/String;" .null := D7 (Or.inr (hw _ (List.mem_of_getElem? (i := 51) rfl))) (ty := (.object "java/lang/String")) (by decide)
  have F7_lineStarts : Fld Z h7 b7 "com/example/cinderpath/cinderpath/source/SourceFile" "lineStarts" "[I" .null := D7 (Or.inr (hw _ (List.mem_of_getElem? (i := 190) rfl))) (ty := (.array .int)) (by decide)
  show Go _ _ _ _ (T7.setTop (mkF m 81 #[.val (.int i0), .val (.long i1), .second, .val (.int i2), .val (.int i3), .val (.int r_1), .val (.int r_2), .val (.int r_3), .val (.int r_4), .val (.int r_5), .val (.int (Int32.ofNat ln)), .val (.int (Int32.ofNat oo)), .val (.ref x_6), .unset, .unset, .unset, .unset, .unset] [(.ref b7)]))
  refine Go.by (fun _ k => XS.dup X7.here X7.hx rfl (X7.cd at_81) rfl rfl k) ?_
  show Go _ _ _ _ (T7.setTop (mkF m 82 #[.val (.int i0), .val (.long i1), .second, .val (.int i2), .val (.int i3), .val (.int r_1), .val (.int r_2), .val (.int r_3), .val (.int r_4), .val (.int r_5), .val (.int (Int32.ofNat ln)), .val (.int (Int32.ofNat oo)), .val (.ref x_6), .unset, .unset, .unset, .unset, .unset] [(.ref b7), (.ref b7)]))
  obtain ⟨b8, T8, h8, X8, E8, st8⟩ := X7.ldcS (hw _ (List.mem_of_getElem? (i := 41) rfl)) (own_SA hw) (g := (mkF m 82 #[.val (.int i0), .val (.long i1), .second, .val (.int i2), .val (.int i3), .val (.int r_1), .val (.int r_2), .val (.int r_3), .val (.int r_4), .val (.int r_5), .val (.int (Int32.ofNat ln)), .val (.int (Int32.ofNat oo)), .val (.ref x_6), .unset, .unset, .unset, .unset, .unset] [(.ref b7), (.ref b7)])) rfl at_82 (n := 4) (by decide) (by decide) (by decide) (by decide)
  refine Go.by st8 ?_
  have K0_h8 : Keep h0 h8 [] := K0_h7.ext E8
  show Go _ _ _ _ (T8.setTop (mkF m 84 #[.val (.int i0), .val (.long i1), .second, .val (.int i2), .val (.int i3), .val (.int r_1), .val (.int r_2), .val (.int r_3), .val (.int r_4), .val (.int r_5), .val (.int (Int32.ofNat ln)), .val (.int (Int32.ofNat oo)), .val (.ref x_6), .unset, .unset, .unset, .unset, .unset] [(.ref b8), (.ref b7), (.ref b7)]))
  refine Go.by (fun _ k => XS.aload X8.here X8.hx rfl (X8.cd at_84) rfl rfl k) ?_
  show Go _ _ _ _ (T8.setTop (mkF m 86 #[.val (.int i0), .val (.long i1), .second, .val (.int i2), .val (.int i3), .val (.int r_1), .val (.int r_2), .val (.int r_3), .val (.int r_4), .val (.int r_5), .val (.int (Int32.ofNat ln)), .val (.int (Int32.ofNat oo)), .val (.ref x_6), .unset, .unset, .unset, .unset, .unset] [(.ref x_6), (.ref b8), (.ref b7), (.ref b7)]))
  obtain ⟨tx, htx⟩ : ∃ tx, tx = ([r_1, r_2, r_3, r_4, r_5].take ln) := ⟨_, rfl⟩
  have htl : tx.length = ln := by rw [htx]; simp; omega
  have hp : ∀ c ∈ tx, ¬ (255 : Int32) < c := fun c hc => by
    rw [htx] at hc
    have h5 := List.mem_of_mem_take hc
    simp only [List.mem_cons, List.not_mem_nil, or_false] at h5
    rcases h5 with rfl | rfl | rfl | rfl | rfl
    · exact p1_0.2
    · exact p2_0.2
    · exact p3_0.2
    · exact p4_0.2
    · exact p5_0.2
  have f9 : Str Z h8 x_6 t_6 ([r_1, r_2, r_3, r_4, r_5].take ln) := (P6_0.ext E7).ext E8
  have f10 : Str Z h8 x_6 t_6 tx := (by rw [htx]; exact f9)
  have f11 : Exa Z h8 b7 "com/example/cinderpath/cinderpath/source/SourceFile" := A7.ext E8
  have f12 : Fld Z h8 b7 "com/example/cinderpath/cinderpath/source/SourceFile" "name" "Ljava/lang/String;" .null := F7_name.ext E8
  have f13 : Fld Z h8 b7 "com/example/cinderpath/cinderpath/source/SourceFile" "text" "Ljava/lang/String;" .null := F7_text.ext E8
  have f14 : Fld Z h8 b7 "com/example/cinderpath/cinderpath/source/SourceFile" "lineStarts" "[I" .null := F7_lineStarts.ext E8
  have lt_x_6_15 := f10.lt
  have lt_t_6_15 := f10.ltT
  have lt_b7_15 := (X8.lt (.head _))
  obtain ⟨_, T15, h15, X15, K15, ⟨ls_15, kl_15, rfl, fr_ls_15, fl_ls_15, P15_0, P15_1⟩, st15⟩ := X8.spN (W := 1) rfl (hw _ (List.mem_of_getElem? (i := 44) rfl)) (hw _ (List.mem_of_getElem? (i := 45) rfl)) (hw _ (List.mem_of_getElem? (i := 46) rfl)) (by decide) ((rm_sfi l Z a0 hw n0 b7 b8 x_6 t_6 tx .null .null .null zc vf dd kd cq kq vq iv h8 X8.old f11 f12 f13 f14 f10 Sc nc Sf rf Sd Ad Sh Sq Aq Hq hp (by omega) ne_x_6_b7 ne_t_6_b7 (X8.ge (.head _)) (X8.lt (.head _))).pay (hw _ (List.mem_of_getElem? (i := 46) rfl)) (hw _ (List.mem_of_getElem? (i := 40) rfl)) (by decide) (by decide)) (allS (.head _) all0) (g := (mkF m 86 #[.val (.int i0), .val (.long i1), .second, .val (.int i2), .val (.int i3), .val (.int r_1), .val (.int r_2), .val (.int r_3), .val (.int r_4), .val (.int r_5), .val (.int (Int32.ofNat ln)), .val (.int (Int32.ofNat oo)), .val (.ref x_6), .unset, .unset, .unset, .unset, .unset] [(.ref x_6), (.ref b8), (.ref b7), (.ref b7)])) rfl rfl (a := b7) (argsL := [(.ref b8), (.ref x_6)]) (rest := [(.ref b7)]) (lenOf pd_17 rfl) rfl (by exact Nat.le_of_eq rfl) at_86 rfl (by decide) (by decide)
  refine Go.tr st15 ?_
  have K0_h15 : Keep h0 h15 [] := K0_h8.trans K15 (allS (Or.inr sz_b7) all0)
  have ne_x_6_ls_15 : x_6 ≠ ls_15 := ne_ge lt_x_6_15 fr_ls_15
  have ne_t_6_ls_15 : t_6 ≠ ls_15 := ne_ge lt_t_6_15 fr_ls_15
  have ne_b7_ls_15 : b7 ≠ ls_15 := ne_ge lt_b7_15 fr_ls_15
  have sz_ls_15 : h0.size ≤ ls_15 := Nat.le_trans X8.sz fr_ls_15
  show Go _ _ _ _ (T15.setTop (mkF m 89 #[.val (.int i0), .val (.long i1), .second, .val (.int i2), .val (.int i3), .val (.int r_1), .val (.int r_2), .val (.int r_3), .val (.int r_4), .val (.int r_5), .val (.int (Int32.ofNat ln)), .val (.int (Int32.ofNat oo)), .val (.ref x_6), .unset, .unset, .unset, .unset, .unset] [(.ref b7)]))
  obtain ⟨ns, hns⟩ : ∃ ns, ns = own_pre tx tx.length := ⟨_, rfl⟩
  have hpl := own_pre_len tx tx.length
  have hple := own_pre_le tx tx.length
  rw [← hns] at hpl hple
  have f16 : Arv Z h15 ls_15 kl_15 .int (Int32.ofNat ns.length) (ns.map fun n => Value.int (Int32.ofNat n)) (.int (0 : Int32)) := (by rw [hns]; exact P15_1)
  refine Go.by (fun _ k => XS.astore X15.here X15.hx rfl (X15.cd at_89) rfl rfl (l' := #[.val (.int i0), .val (.long i1), .second, .val (.int i2), .val (.int i3), .val (.int r_1), .val (.int r_2), .val (.int r_3), .val (.int r_4), .val (.int r_5), .val (.int (Int32.ofNat ln)), .val (.int (Int32.ofNat oo)), .val (.ref x_6), .val (.ref b7), .unset, .unset, .unset, .unset]) rfl k) ?_
  show Go _ _ _ _ (T15.setTop (mkF m 91 #[.val (.int i0), .val (.long i1), .second, .val (.int i2), .val (.int i3), .val (.int r_1), .val (.int r_2), .val (.int r_3), .val (.int r_4), .val (.int r_5), .val (.int (Int32.ofNat ln)), .val (.int (Int32.ofNat oo)), .val (.ref x_6), .val (.ref b7), .unset, .unset, .unset, .unset] []))
  refine Go.by (fun _ k => XS.aload X15.here X15.hx rfl (X15.cd at_91) rfl rfl k) ?_
  show Go _ _ _ _ (T15.setTop (mkF m 93 #[.val (.int i0), .val (.long i1), .second, .val (.int i2), .val (.int i3), .val (.int r_1), .val (.int r_2), .val (.int r_3), .val (.int r_4), .val (.int r_5), .val (.int (Int32.ofNat ln)), .val (.int (Int32.ofNat oo)), .val (.ref x_6), .val (.ref b7), .unset, .unset, .unset, .unset] [(.ref b7)]))
  refine Go.by (fun _ k => XS.iload X15.here X15.hx rfl (X15.cd at_93) rfl  k) ?_
  show Go _ _ _ _ (T15.setTop (mkF m 95 #[.val (.int i0), .val (.long i1), .second, .val (.int i2), .val (.int i3), .val (.int r_1), .val (.int r_2), .val (.int r_3), .val (.int r_4), .val (.int r_5), .val (.int (Int32.ofNat ln)), .val (.int (Int32.ofNat oo)), .val (.ref x_6), .val (.ref b7), .unset, .unset, .unset, .unset] [(.int (Int32.ofNat oo)), (.ref b7)]))
  have f18 : Str Z h15 x_6 t_6 tx := (f10).keep K15 (ninS ne_x_6_b7 nin0) (ninS ne_t_6_b7 nin0)
  have lt_x_6_17 := f18.lt
  have lt_t_6_17 := f18.ltT
  have lt_b7_17 := (X15.lt (.head _))
  have lt_ls_15_17 := f16.lt
  have f19 : Exa Z h15 b7 "com/example/cinderpath/cinderpath/source/SourceFile" := (f11).keep K15
  obtain ⟨_, T17, h17, X17, K17, ⟨pp_17, r_17, rfl, fr_pp_17, fl_pp_17, P17_0, P17_1, P17_2, p17_0⟩, st17⟩ := X15.viN (W := 0) (hw _ (List.mem_of_getElem? (i := 191) rfl)) (hw _ (List.mem_of_getElem? (i := 192) rfl)) (hw _ (List.mem_of_getElem? (i := 194) rfl)) (hw _ (List.mem_of_getElem? (i := 193) rfl)) (by decide) ((rm_pos l Z a0 hw n0 b7 oo ls_15 kl_15 ns h15 X15.old P15_0 f16 (by omega) (by omega) (by omega) (fun j => Nat.le_trans (own_g5 hple j) (by omega)) (by omega)).pay (hw _ (List.mem_of_getElem? (i := 195) rfl)) (hw _ (List.mem_of_getElem? (i := 40) rfl)) (by decide) (by decide)) all0 f19 (g := (mkF m 95 #[.val (.int i0), .val (.long i1), .second, .val (.int i2), .val (.int i3), .val (.int r_1), .val (.int r_2), .val (.int r_3), .val (.int r_4), .val (.int r_5), .val (.int (Int32.ofNat ln)), .val (.int (Int32.ofNat oo)), .val (.ref x_6), .val (.ref b7), .unset, .unset, .unset, .unset] [(.int (Int32.ofNat oo)), (.ref b7)])) rfl rfl (argsL := [(.int (Int32.ofNat oo))]) (rest := []) (lenOf pd_18 rfl) rfl (by exact Nat.le_of_eq rfl) at_95 rfl (by decide) (by decide)
  refine Go.tr st17 ?_
  have K0_h17 : Keep h0 h17 [] := K0_h15.trans K17 all0
  have ne_x_6_pp_17 : x_6 ≠ pp_17 := ne_ge lt_x_6_17 fr_pp_17
  have ne_t_6_pp_17 : t_6 ≠ pp_17 := ne_ge lt_t_6_17 fr_pp_17
  have ne_b7_pp_17 : b7 ≠ pp_17 := ne_ge lt_b7_17 fr_pp_17
  have ne_ls_15_pp_17 : ls_15 ≠ pp_17 := ne_ge lt_ls_15_17 fr_pp_17
  have sz_pp_17 : h0.size ≤ pp_17 := Nat.le_trans X15.sz fr_pp_17
  show Go _ _ _ _ (T17.setTop (mkF m 98 #[.val (.int i0), .val (.long i1), .second, .val (.int i2), .val (.int i3), .val (.int r_1), .val (.int r_2), .val (.int r_3), .val (.int r_4), .val (.int r_5), .val (.int (Int32.ofNat ln)), .val (.int (Int32.ofNat oo)), .val (.ref x_6), .val (.ref b7), .unset, .unset, .unset, .unset] [(.ref pp_17)]))
  refine Go.by (fun _ k => XS.astore X17.here X17.hx rfl (X17.cd at_98) rfl rfl (l' := #[.val (.int i0), .val (.long i1), .second, .val (.int i2), .val (.int i3), .val (.int r_1), .val (.int r_2), .val (.int r_3), .val (.int r_4), .val (.int r_5), .val (.int (Int32.ofNat ln)), .val (.int (Int32.ofNat oo)), .val (.ref x_6), .val (.ref b7), .val (.ref pp_17), .unset, .unset, .unset]) rfl k) ?_
  show Go _ _ _ _ (T17.setTop (mkF m 100 #[.val (.int i0), .val (.long i1), .second, .val (.int i2), .val (.int i3), .val (.int r_1), .val (.int r_2), .val (.int r_3), .val (.int r_4), .val (.int r_5), .val (.int (Int32.ofNat ln)), .val (.int (Int32.ofNat oo)), .val (.ref x_6), .val (.ref b7), .val (.ref pp_17), .unset, .unset, .unset] []))
  refine Go.by (fun _ k => XS.iconst X17.here X17.hx rfl (X17.cd at_100)  k) ?_
  show Go _ _ _ _ (T17.setTop (mkF m 101 #[.val (.int i0), .val (.long i1), .second, .val (.int i2), .val (.int i3), .val (.int r_1), .val (.int r_2), .val (.int r_3), .val (.int r_4), .val (.int r_5), .val (.int (Int32.ofNat ln)), .val (.int (Int32.ofNat oo)), .val (.ref x_6), .val (.ref b7), .val (.ref pp_17), .unset, .unset, .unset] [(.int (1 : Int32))]))
  refine Go.by (fun _ k => XS.istore X17.here X17.hx rfl (X17.cd at_101) rfl (l' := #[.val (.int i0), .val (.long i1), .second, .val (.int i2), .val (.int i3), .val (.int r_1), .val (.int r_2), .val (.int r_3), .val (.int r_4), .val (.int r_5), .val (.int (Int32.ofNat ln)), .val (.int (Int32.ofNat oo)), .val (.ref x_6), .val (.ref b7), .val (.ref pp_17), .val (.int (1 : Int32)), .unset, .unset]) rfl k) ?_
  show Go _ _ _ _ (T17.setTop (mkF m 103 #[.val (.int i0), .val (.long i1), .second, .val (.int i2), .val (.int i3), .val (.int r_1), .val (.int r_2), .val (.int r_3), .val (.int r_4), .val (.int r_5), .val (.int (Int32.ofNat ln)), .val (.int (Int32.ofNat oo)), .val (.ref x_6), .val (.ref b7), .val (.ref pp_17), .val (.int (1 : Int32)), .unset, .unset] []))
  refine Go.by (fun _ k => XS.iconst X17.here X17.hx rfl (X17.cd at_103)  k) ?_
  show Go _ _ _ _ (T17.setTop (mkF m 104 #[.val (.int i0), .val (.long i1), .second, .val (.int i2), .val (.int i3), .val (.int r_1), .val (.int r_2), .val (.int r_3), .val (.int r_4), .val (.int r_5), .val (.int (Int32.ofNat ln)), .val (.int (Int32.ofNat oo)), .val (.ref x_6), .val (.ref b7), .val (.ref pp_17), .val (.int (1 : Int32)), .unset, .unset] [(.int (-1 : Int32))]))
  refine Go.by (fun _ k => XS.istore X17.here X17.hx rfl (X17.cd at_104) rfl (l' := #[.val (.int i0), .val (.long i1), .second, .val (.int i2), .val (.int i3), .val (.int r_1), .val (.int r_2), .val (.int r_3), .val (.int r_4), .val (.int r_5), .val (.int (Int32.ofNat ln)), .val (.int (Int32.ofNat oo)), .val (.ref x_6), .val (.ref b7), .val (.ref pp_17), .val (.int (1 : Int32)), .val (.int (-1 : Int32)), .unset]) rfl k) ?_
  show Go _ _ _ _ (T17.setTop (mkF m 106 #[.val (.int i0), .val (.long i1), .second, .val (.int i2), .val (.int i3), .val (.int r_1), .val (.int r_2), .val (.int r_3), .val (.int r_4), .val (.int r_5), .val (.int (Int32.ofNat ln)), .val (.int (Int32.ofNat oo)), .val (.ref x_6), .val (.ref b7), .val (.ref pp_17), .val (.int (1 : Int32)), .val (.int (-1 : Int32)), .unset] []))
  obtain ⟨r20_0, r20_1, hr20, st20⟩ : ∃ (r20_0 : Int32) (r20_1 : Int32), ((((0 : Int32) < (Int32.ofNat oo)) ∧ (r_1 = (10 : Int32)) ∧ r20_0 = ((1 : Int32) + (1 : Int32)) ∧ r20_1 = (0 : Int32)) ∨ (((0 : Int32) < (Int32.ofNat oo)) ∧ ¬ (r_1 = (10 : Int32)) ∧ r20_0 = (1 : Int32) ∧ r20_1 = (-1 : Int32)) ∨ (¬ ((0 : Int32) < (Int32.ofNat oo)) ∧ r20_0 = (1 : Int32) ∧ r20_1 = (-1 : Int32))) ∧ ∀ t, Steps p.tables e below (T17.setTop (mkF m 125 #[.val (.int i0), .val (.long i1), .second, .val (.int i2), .val (.int i3), .val (.int r_1), .val (.int r_2), .val (.int r_3), .val (.int r_4), .val (.int r_5), .val (.int (Int32.ofNat ln)), .val (.int (Int32.ofNat oo)), .val (.ref x_6), .val (.ref b7), .val (.ref pp_17), .val (.int r20_0), .val (.int r20_1), .unset] [])) t → Steps p.tables e below (T17.setTop (mkF m 106 #[.val (.int i0), .val (.long i1), .second, .val (.int i2), .val (.int i3), .val (.int r_1), .val (.int r_2), .val (.int r_3), .val (.int r_4), .val (.int r_5), .val (.int (Int32.ofNat ln)), .val (.int (Int32.ofNat oo)), .val (.ref x_6), .val (.ref b7), .val (.ref pp_17), .val (.int (1 : Int32)), .val (.int (-1 : Int32)), .unset] [])) t := by
    by_cases c20_0 : (0 : Int32) < (Int32.ofNat oo)
    · by_cases c20_1 : r_1 = (10 : Int32)
      · refine ⟨((1 : Int32) + (1 : Int32)), (0 : Int32), Or.inl ⟨c20_0, c20_1, rfl, rfl⟩, fun t k => ?_⟩
        refine XS.iconst X17.here X17.hx rfl (X17.cd at_106)  ?_
        show Steps p.tables e below (T17.setTop (mkF m 107 #[.val (.int i0), .val (.long i1), .second, .val (.int i2), .val (.int i3), .val (.int r_1), .val (.int r_2), .val (.int r_3), .val (.int r_4), .val (.int r_5), .val (.int (Int32.ofNat ln)), .val (.int (Int32.ofNat oo)), .val (.ref x_6), .val (.ref b7), .val (.ref pp_17), .val (.int (1 : Int32)), .val (.int (-1 : Int32)), .unset] [(.int (0 : Int32))])) t
        refine XS.iload X17.here X17.hx rfl (X17.cd at_107) rfl  ?_
        show Steps p.tables e below (T17.setTop (mkF m 109 #[.val (.int i0), .val (.long i1), .second, .val (.int i2), .val (.int i3), .val (.int r_1), .val (.int r_2), .val (.int r_3), .val (.int r_4), .val (.int r_5), .val (.int (Int32.ofNat ln)), .val (.int (Int32.ofNat oo)), .val (.ref x_6), .val (.ref b7), .val (.ref pp_17), .val (.int (1 : Int32)), .val (.int (-1 : Int32)), .unset] [(.int (Int32.ofNat oo)), (.int (0 : Int32))])) t
        refine XS.icmpNo X17.here X17.hx rfl (X17.cd at_109) rfl (XT.ii_ge_f c20_0) ?_
        show Steps p.tables e below (T17.setTop (mkF m 112 #[.val (.int i0), .val (.long i1), .second, .val (.int i2), .val (.int i3), .val (.int r_1), .val (.int r_2), .val (.int r_3), .val (.int r_4), .val (.int r_5), .val (.int (Int32.ofNat ln)), .val (.int (Int32.ofNat oo)), .val (.ref x_6), .val (.ref b7), .val (.ref pp_17), .val (.int (1 : Int32)), .val (.int (-1 : Int32)), .unset] [])) t
        refine XS.iload X17.here X17.hx rfl (X17.cd at_112) rfl  ?_
        show Steps p.tables e below (T17.setTop (mkF m 114 #[.val (.int i0), .val (.long i1), .second, .val (.int i2), .val (.int i3), .val (.int r_1), .val (.int r_2), .val (.int r_3), .val (.int r_4), .val (.int r_5), .val (.int (Int32.ofNat ln)), .val (.int (Int32.ofNat oo)), .val (.ref x_6), .val (.ref b7), .val (.ref pp_17), .val (.int (1 : Int32)), .val (.int (-1 : Int32)), .unset] [(.int r_1)])) t
        refine XS.bipush X17.here X17.hx rfl (X17.cd at_114)  ?_
        show Steps p.tables e below (T17.setTop (mkF m 116 #[.val (.int i0), .val (.long i1), .second, .val (.int i2), .val (.int i3), .val (.int r_1), .val (.int r_2), .val (.int r_3), .val (.int r_4), .val (.int r_5), .val (.int (Int32.ofNat ln)), .val (.int (Int32.ofNat oo)), .val (.ref x_6), .val (.ref b7), .val (.ref pp_17), .val (.int (1 : Int32)), .val (.int (-1 : Int32)), .unset] [(.int (10 : Int32)), (.int r_1)])) t
        refine XS.icmpNo X17.here X17.hx rfl (X17.cd at_116) rfl (XT.ii_ne_f c20_1) ?_
        show Steps p.tables e below (T17.setTop (mkF m 119 #[.val (.int i0), .val (.long i1), .second, .val (.int i2), .val (.int i3), .val (.int r_1), .val (.int r_2), .val (.int r_3), .val (.int r_4), .val (.int r_5), .val (.int (Int32.ofNat ln)), .val (.int (Int32.ofNat oo)), .val (.ref x_6), .val (.ref b7), .val (.ref pp_17), .val (.int (1 : Int32)), .val (.int (-1 : Int32)), .unset] [])) t
        refine XS.iinc X17.here X17.hx rfl (X17.cd at_119) rfl (l' := #[.val (.int i0), .val (.long i1), .second, .val (.int i2), .val (.int i3), .val (.int r_1), .val (.int r_2), .val (.int r_3), .val (.int r_4), .val (.int r_5), .val (.int (Int32.ofNat ln)), .val (.int (Int32.ofNat oo)), .val (.ref x_6), .val (.ref b7), .val (.ref pp_17), .val (.int ((1 : Int32) + (1 : Int32))), .val (.int (-1 : Int32)), .unset]) rfl ?_
        show Steps p.tables e below (T17.setTop (mkF m 122 #[.val (.int i0), .val (.long i1), .second, .val (.int i2), .val (.int i3), .val (.int r_1), .val (.int r_2), .val (.int r_3), .val (.int r_4), .val (.int r_5), .val (.int (Int32.ofNat ln)), .val (.int (Int32.ofNat oo)), .val (.ref x_6), .val (.ref b7), .val (.ref pp_17), .val (.int ((1 : Int32) + (1 : Int32))), .val (.int (-1 : Int32)), .unset] [])) t
        refine XS.iconst X17.here X17.hx rfl (X17.cd at_122)  ?_
        show Steps p.tables e below (T17.setTop (mkF m 123 #[.val (.int i0), .val (.long i1), .second, .val (.int i2), .val (.int i3), .val (.int r_1), .val (.int r_2), .val (.int r_3), .val (.int r_4), .val (.int r_5), .val (.int (Int32.ofNat ln)), .val (.int (Int32.ofNat oo)), .val (.ref x_6), .val (.ref b7), .val (.ref pp_17), .val (.int ((1 : Int32) + (1 : Int32))), .val (.int (-1 : Int32)), .unset] [(.int (0 : Int32))])) t
        refine XS.istore X17.here X17.hx rfl (X17.cd at_123) rfl (l' := #[.val (.int i0), .val (.long i1), .second, .val (.int i2), .val (.int i3), .val (.int r_1), .val (.int r_2), .val (.int r_3), .val (.int r_4), .val (.int r_5), .val (.int (Int32.ofNat ln)), .val (.int (Int32.ofNat oo)), .val (.ref x_6), .val (.ref b7), .val (.ref pp_17), .val (.int ((1 : Int32) + (1 : Int32))), .val (.int (0 : Int32)), .unset]) rfl ?_
        show Steps p.tables e below (T17.setTop (mkF m 125 #[.val (.int i0), .val (.long i1), .second, .val (.int i2), .val (.int i3), .val (.int r_1), .val (.int r_2), .val (.int r_3), .val (.int r_4), .val (.int r_5), .val (.int (Int32.ofNat ln)), .val (.int (Int32.ofNat oo)), .val (.ref x_6), .val (.ref b7), .val (.ref pp_17), .val (.int ((1 : Int32) + (1 : Int32))), .val (.int (0 : Int32)), .unset] [])) t
        exact k
      · refine ⟨(1 : Int32), (-1 : Int32), Or.inr (Or.inl ⟨c20_0, c20_1, rfl, rfl⟩), fun t k => ?_⟩
        refine XS.iconst X17.here X17.hx rfl (X17.cd at_106)  ?_
        show Steps p.tables e below (T17.setTop (mkF m 107 #[.val (.int i0), .val (.long i1), .second, .val (.int i2), .val (.int i3), .val (.int r_1), .val (.int r_2), .val (.int r_3), .val (.int r_4), .val (.int r_5), .val (.int (Int32.ofNat ln)), .val (.int (Int32.ofNat oo)), .val (.ref x_6), .val (.ref b7), .val (.ref pp_17), .val (.int (1 : Int32)), .val (.int (-1 : Int32)), .unset] [(.int (0 : Int32))])) t
        refine XS.iload X17.here X17.hx rfl (X17.cd at_107) rfl  ?_
        show Steps p.tables e below (T17.setTop (mkF m 109 #[.val (.int i0), .val (.long i1), .second, .val (.int i2), .val (.int i3), .val (.int r_1), .val (.int r_2), .val (.int r_3), .val (.int r_4), .val (.int r_5), .val (.int (Int32.ofNat ln)), .val (.int (Int32.ofNat oo)), .val (.ref x_6), .val (.ref b7), .val (.ref pp_17), .val (.int (1 : Int32)), .val (.int (-1 : Int32)), .unset] [(.int (Int32.ofNat oo)), (.int (0 : Int32))])) t
        refine XS.icmpNo X17.here X17.hx rfl (X17.cd at_109) rfl (XT.ii_ge_f c20_0) ?_
        show Steps p.tables e below (T17.setTop (mkF m 112 #[.val (.int i0), .val (.long i1), .second, .val (.int i2), .val (.int i3), .val (.int r_1), .val (.int r_2), .val (.int r_3), .val (.int r_4), .val (.int r_5), .val (.int (Int32.ofNat ln)), .val (.int (Int32.ofNat oo)), .val (.ref x_6), .val (.ref b7), .val (.ref pp_17), .val (.int (1 : Int32)), .val (.int (-1 : Int32)), .unset] [])) t
        refine XS.iload X17.here X17.hx rfl (X17.cd at_112) rfl  ?_
        show Steps p.tables e below (T17.setTop (mkF m 114 #[.val (.int i0), .val (.long i1), .second, .val (.int i2), .val (.int i3), .val (.int r_1), .val (.int r_2), .val (.int r_3), .val (.int r_4), .val (.int r_5), .val (.int (Int32.ofNat ln)), .val (.int (Int32.ofNat oo)), .val (.ref x_6), .val (.ref b7), .val (.ref pp_17), .val (.int (1 : Int32)), .val (.int (-1 : Int32)), .unset] [(.int r_1)])) t
        refine XS.bipush X17.here X17.hx rfl (X17.cd at_114)  ?_
        show Steps p.tables e below (T17.setTop (mkF m 116 #[.val (.int i0), .val (.long i1), .second, .val (.int i2), .val (.int i3), .val (.int r_1), .val (.int r_2), .val (.int r_3), .val (.int r_4), .val (.int r_5), .val (.int (Int32.ofNat ln)), .val (.int (Int32.ofNat oo)), .val (.ref x_6), .val (.ref b7), .val (.ref pp_17), .val (.int (1 : Int32)), .val (.int (-1 : Int32)), .unset] [(.int (10 : Int32)), (.int r_1)])) t
        refine XS.icmpYes X17.here X17.hx rfl (pc0 := 116) (pc' := 125) rfl (X17.cd at_116) rfl (XT.ii_ne_t c20_1) (by decide) (by decide) ?_
        show Steps p.tables e below (T17.setTop (mkF m 125 #[.val (.int i0), .val (.long i1), .second, .val (.int i2), .val (.int i3), .val (.int r_1), .val (.int r_2), .val (.int r_3), .val (.int r_4), .val (.int r_5), .val (.int (Int32.ofNat ln)), .val (.int (Int32.ofNat oo)), .val (.ref x_6), .val (.ref b7), .val (.ref pp_17), .val (.int (1 : Int32)), .val (.int (-1 : Int32)), .unset] [])) t
        exact k
    · refine ⟨(1 : Int32), (-1 : Int32), Or.inr (Or.inr (⟨c20_0, rfl, rfl⟩)), fun t k => ?_⟩
      refine XS.iconst X17.here X17.hx rfl (X17.cd at_106)  ?_
      show Steps p.tables e below (T17.setTop (mkF m 107 #[.val (.int i0), .val (.long i1), .second, .val (.int i2), .val (.int i3), .val (.int r_1), .val (.int r_2), .val (.int r_3), .val (.int r_4), .val (.int r_5), .val (.int (Int32.ofNat ln)), .val (.int (Int32.ofNat oo)), .val (.ref x_6), .val (.ref b7), .val (.ref pp_17), .val (.int (1 : Int32)), .val (.int (-1 : Int32)), .unset] [(.int (0 : Int32))])) t
      refine XS.iload X17.here X17.hx rfl (X17.cd at_107) rfl  ?_
      show Steps p.tables e below (T17.setTop (mkF m 109 #[.val (.int i0), .val (.long i1), .second, .val (.int i2), .val (.int i3), .val (.int r_1), .val (.int r_2), .val (.int r_3), .val (.int r_4), .val (.int r_5), .val (.int (Int32.ofNat ln)), .val (.int (Int32.ofNat oo)), .val (.ref x_6), .val (.ref b7), .val (.ref pp_17), .val (.int (1 : Int32)), .val (.int (-1 : Int32)), .unset] [(.int (Int32.ofNat oo)), (.int (0 : Int32))])) t
      refine XS.icmpYes X17.here X17.hx rfl (pc0 := 109) (pc' := 125) rfl (X17.cd at_109) rfl (XT.ii_ge_t c20_0) (by decide) (by decide) ?_
      show Steps p.tables e below (T17.setTop (mkF m 125 #[.val (.int i0), .val (.long i1), .second, .val (.int i2), .val (.int i3), .val (.int r_1), .val (.int r_2), .val (.int r_3), .val (.int r_4), .val (.int r_5), .val (.int (Int32.ofNat ln)), .val (.int (Int32.ofNat oo)), .val (.ref x_6), .val (.ref b7), .val (.ref pp_17), .val (.int (1 : Int32)), .val (.int (-1 : Int32)), .unset] [])) t
      exact k
  refine Go.by (fun _ k => st20 _ k) ?_
  show Go _ _ _ _ (T17.setTop (mkF m 125 #[.val (.int i0), .val (.long i1), .second, .val (.int i2), .val (.int i3), .val (.int r_1), .val (.int r_2), .val (.int r_3), .val (.int r_4), .val (.int r_5), .val (.int (Int32.ofNat ln)), .val (.int (Int32.ofNat oo)), .val (.ref x_6), .val (.ref b7), .val (.ref pp_17), .val (.int r20_0), .val (.int r20_1), .unset] []))
  have e0 := own_st (i := 0) (o := oo) (p := (1, 0)) (by omega) (by omega) rfl rfl hr20
  obtain ⟨r21_0, r21_1, hr21, st21⟩ : ∃ (r21_0 : Int32) (r21_1 : Int32), ((((1 : Int32) < (Int32.ofNat oo)) ∧ (r_2 = (10 : Int32)) ∧ r21_0 = (r20_0 + (1 : Int32)) ∧ r21_1 = (1 : Int32)) ∨ (((1 : Int32) < (Int32.ofNat oo)) ∧ ¬ (r_2 = (10 : Int32)) ∧ r21_0 = r20_0 ∧ r21_1 = r20_1) ∨ (¬ ((1 : Int32) < (Int32.ofNat oo)) ∧ r21_0 = r20_0 ∧ r21_1 = r20_1)) ∧ ∀ t, Steps p.tables e below (T17.setTop (mkF m 144 #[.val (.int i0), .val (.long i1), .second, .val (.int i2), .val (.int i3), .val (.int r_1), .val (.int r_2), .val (.int r_3), .val (.int r_4), .val (.int r_5), .val (.int (Int32.ofNat ln)), .val (.int (Int32.ofNat oo)), .val (.ref x_6), .val (.ref b7), .val (.ref pp_17), .val (.int r21_0), .val (.int r21_1), .unset] [])) t → Steps p.tables e below (T17.setTop (mkF m 125 #[.val (.int i0), .val (.long i1), .second, .val (.int i2), .val (.int i3), .val (.int r_1), .val (.int r_2), .val (.int r_3), .val (.int r_4), .val (.int r_5), .val (.int (Int32.ofNat ln)), .val (.int (Int32.ofNat oo)), .val (.ref x_6), .val (.ref b7), .val (.ref pp_17), .val (.int r20_0), .val (.int r20_1), .unset] [])) t := by
    by_cases c21_0 : (1 : Int32) < (Int32.ofNat oo)
    · by_cases c21_1 : r_2 = (10 : Int32)
      · refine ⟨(r20_0 + (1 : Int32)), (1 : Int32), Or.inl ⟨c21_0, c21_1, rfl, rfl⟩, fun t k => ?_⟩
        refine XS.iconst X17.here X17.hx rfl (X17.cd at_125)  ?_
        show Steps p.tables e below (T17.setTop (mkF m 126 #[.val (.int i0), .val (.long i1), .second, .val (.int i2), .val (.int i3), .val (.int r_1), .val (.int r_2), .val (.int r_3), .val (.int r_4), .val (.int r_5), .val (.int (Int32.ofNat ln)), .val (.int (Int32.ofNat oo)), .val (.ref x_6), .val (.ref b7), .val (.ref pp_17), .val (.int r20_0), .val (.int r20_1), .unset] [(.int (1 : Int32))])) t
        refine XS.iload X17.here X17.hx rfl (X17.cd at_126) rfl  ?_
        show Steps p.tables e below (T17.setTop (mkF m 128 #[.val (.int i0), .val (.long i1), .second, .val (.int i2), .val (.int i3), .val (.int r_1), .val (.int r_2), .val (.int r_3), .val (.int r_4), .val (.int r_5), .val (.int (Int32.ofNat ln)), .val (.int (Int32.ofNat oo)), .val (.ref x_6), .val (.ref b7), .val (.ref pp_17), .val (.int r20_0), .val (.int r20_1), .unset] [(.int (Int32.ofNat oo)), (.int (1 : Int32))])) t
        refine XS.icmpNo X17.here X17.hx rfl (X17.cd at_128) rfl (XT.ii_ge_f c21_0) ?_
        show Steps p.tables e below (T17.setTop (mkF m 131 #[.val (.int i0), .val (.long i1), .second, .val (.int i2), .val (.int i3), .val (.int r_1), .val (.int r_2), .val (.int r_3), .val (.int r_4), .val (.int r_5), .val (.int (Int32.ofNat ln)), .val (.int (Int32.ofNat oo)), .val (.ref x_6), .val (.ref b7), .val (.ref pp_17), .val (.int r20_0), .val (.int r20_1), .unset] [])) t
        refine XS.iload X17.here X17.hx rfl (X17.cd at_131) rfl  ?_
        show Steps p.tables e below (T17.setTop (mkF m 133 #[.val (.int i0), .val (.long i1), .second, .val (.int i2), .val (.int i3), .val (.int r_1), .val (.int r_2), .val (.int r_3), .val (.int r_4), .val (.int r_5), .val (.int (Int32.ofNat ln)), .val (.int (Int32.ofNat oo)), .val (.ref x_6), .val (.ref b7), .val (.ref pp_17), .val (.int r20_0), .val (.int r20_1), .unset] [(.int r_2)])) t
        refine XS.bipush X17.here X17.hx rfl (X17.cd at_133)  ?_
        show Steps p.tables e below (T17.setTop (mkF m 135 #[.val (.int i0), .val (.long i1), .second, .val (.int i2), .val (.int i3), .val (.int r_1), .val (.int r_2), .val (.int r_3), .val (.int r_4), .val (.int r_5), .val (.int (Int32.ofNat ln)), .val (.int (Int32.ofNat oo)), .val (.ref x_6), .val (.ref b7), .val (.ref pp_17), .val (.int r20_0), .val (.int r20_1), .unset] [(.int (10 : Int32)), (.int r_2)])) t
        refine XS.icmpNo X17.here X17.hx rfl (X17.cd at_135) rfl (XT.ii_ne_f c21_1) ?_
        show Steps p.tables e below (T17.setTop (mkF m 138 #[.val (.int i0), .val (.long i1), .second, .val (.int i2), .val (.int i3), .val (.int r_1), .val (.int r_2), .val (.int r_3), .val (.int r_4), .val (.int r_5), .val (.int (Int32.ofNat ln)), .val (.int (Int32.ofNat oo)), .val (.ref x_6), .val (.ref b7), .val (.ref pp_17), .val (.int r20_0), .val (.int r20_1), .unset] [])) t
        refine XS.iinc X17.here X17.hx rfl (X17.cd at_138) rfl (l' := #[.val (.int i0), .val (.long i1), .second, .val (.int i2), .val (.int i3), .val (.int r_1), .val (.int r_2), .val (.int r_3), .val (.int r_4), .val (.int r_5), .val (.int (Int32.ofNat ln)), .val (.int (Int32.ofNat oo)), .val (.ref x_6), .val (.ref b7), .val (.ref pp_17), .val (.int (r20_0 + (1 : Int32))), .val (.int r20_1), .unset]) rfl ?_
        show Steps p.tables e below (T17.setTop (mkF m 141 #[.val (.int i0), .val (.long i1), .second, .val (.int i2), .val (.int i3), .val (.int r_1), .val (.int r_2), .val (.int r_3), .val (.int r_4), .val (.int r_5), .val (.int (Int32.ofNat ln)), .val (.int (Int32.ofNat oo)), .val (.ref x_6), .val (.ref b7), .val (.ref pp_17), .val (.int (r20_0 + (1 : Int32))), .val (.int r20_1), .unset] [])) t
        refine XS.iconst X17.here X17.hx rfl (X17.cd at_141)  ?_
        show Steps p.tables e below (T17.setTop (mkF m 142 #[.val (.int i0), .val (.long i1), .second, .val (.int i2), .val (.int i3), .val (.int r_1), .val (.int r_2), .val (.int r_3), .val (.int r_4), .val (.int r_5), .val (.int (Int32.ofNat ln)), .val (.int (Int32.ofNat oo)), .val (.ref x_6), .val (.ref b7), .val (.ref pp_17), .val (.int (r20_0 + (1 : Int32))), .val (.int r20_1), .unset] [(.int (1 : Int32))])) t
        refine XS.istore X17.here X17.hx rfl (X17.cd at_142) rfl (l' := #[.val (.int i0), .val (.long i1), .second, .val (.int i2), .val (.int i3), .val (.int r_1), .val (.int r_2), .val (.int r_3), .val (.int r_4), .val (.int r_5), .val (.int (Int32.ofNat ln)), .val (.int (Int32.ofNat oo)), .val (.ref x_6), .val (.ref b7), .val (.ref pp_17), .val (.int (r20_0 + (1 : Int32))), .val (.int (1 : Int32)), .unset]) rfl ?_
        show Steps p.tables e below (T17.setTop (mkF m 144 #[.val (.int i0), .val (.long i1), .second, .val (.int i2), .val (.int i3), .val (.int r_1), .val (.int r_2), .val (.int r_3), .val (.int r_4), .val (.int r_5), .val (.int (Int32.ofNat ln)), .val (.int (Int32.ofNat oo)), .val (.ref x_6), .val (.ref b7), .val (.ref pp_17), .val (.int (r20_0 + (1 : Int32))), .val (.int (1 : Int32)), .unset] [])) t
        exact k
      · refine ⟨r20_0, r20_1, Or.inr (Or.inl ⟨c21_0, c21_1, rfl, rfl⟩), fun t k => ?_⟩
        refine XS.iconst X17.here X17.hx rfl (X17.cd at_125)  ?_
        show Steps p.tables e below (T17.setTop (mkF m 126 #[.val (.int i0), .val (.long i1), .second, .val (.int i2), .val (.int i3), .val (.int r_1), .val (.int r_2), .val (.int r_3), .val (.int r_4), .val (.int r_5), .val (.int (Int32.ofNat ln)), .val (.int (Int32.ofNat oo)), .val (.ref x_6), .val (.ref b7), .val (.ref pp_17), .val (.int r20_0), .val (.int r20_1), .unset] [(.int (1 : Int32))])) t
        refine XS.iload X17.here X17.hx rfl (X17.cd at_126) rfl  ?_
        show Steps p.tables e below (T17.setTop (mkF m 128 #[.val (.int i0), .val (.long i1), .second, .val (.int i2), .val (.int i3), .val (.int r_1), .val (.int r_2), .val (.int r_3), .val (.int r_4), .val (.int r_5), .val (.int (Int32.ofNat ln)), .val (.int (Int32.ofNat oo)), .val (.ref x_6), .val (.ref b7), .val (.ref pp_17), .val (.int r20_0), .val (.int r20_1), .unset] [(.int (Int32.ofNat oo)), (.int (1 : Int32))])) t
        refine XS.icmpNo X17.here X17.hx rfl (X17.cd at_128) rfl (XT.ii_ge_f c21_0) ?_
        show Steps p.tables e below (T17.setTop (mkF m 131 #[.val (.int i0), .val (.long i1), .second, .val (.int i2), .val (.int i3), .val (.int r_1), .val (.int r_2), .val (.int r_3), .val (.int r_4), .val (.int r_5), .val (.int (Int32.ofNat ln)), .val (.int (Int32.ofNat oo)), .val (.ref x_6), .val (.ref b7), .val (.ref pp_17), .val (.int r20_0), .val (.int r20_1), .unset] [])) t
        refine XS.iload X17.here X17.hx rfl (X17.cd at_131) rfl  ?_
        show Steps p.tables e below (T17.setTop (mkF m 133 #[.val (.int i0), .val (.long i1), .second, .val (.int i2), .val (.int i3), .val (.int r_1), .val (.int r_2), .val (.int r_3), .val (.int r_4), .val (.int r_5), .val (.int (Int32.ofNat ln)), .val (.int (Int32.ofNat oo)), .val (.ref x_6), .val (.ref b7), .val (.ref pp_17), .val (.int r20_0), .val (.int r20_1), .unset] [(.int r_2)])) t
        refine XS.bipush X17.here X17.hx rfl (X17.cd at_133)  ?_
        show Steps p.tables e below (T17.setTop (mkF m 135 #[.val (.int i0), .val (.long i1), .second, .val (.int i2), .val (.int i3), .val (.int r_1), .val (.int r_2), .val (.int r_3), .val (.int r_4), .val (.int r_5), .val (.int (Int32.ofNat ln)), .val (.int (Int32.ofNat oo)), .val (.ref x_6), .val (.ref b7), .val (.ref pp_17), .val (.int r20_0), .val (.int r20_1), .unset] [(.int (10 : Int32)), (.int r_2)])) t
        refine XS.icmpYes X17.here X17.hx rfl (pc0 := 135) (pc' := 144) rfl (X17.cd at_135) rfl (XT.ii_ne_t c21_1) (by decide) (by decide) ?_
        show Steps p.tables e below (T17.setTop (mkF m 144 #[.val (.int i0), .val (.long i1), .second, .val (.int i2), .val (.int i3), .val (.int r_1), .val (.int r_2), .val (.int r_3), .val (.int r_4), .val (.int r_5), .val (.int (Int32.ofNat ln)), .val (.int (Int32.ofNat oo)), .val (.ref x_6), .val (.ref b7), .val (.ref pp_17), .val (.int r20_0), .val (.int r20_1), .unset] [])) t
        exact k
    · refine ⟨r20_0, r20_1, Or.inr (Or.inr (⟨c21_0, rfl, rfl⟩)), fun t k => ?_⟩
      refine XS.iconst X17.here X17.hx rfl (X17.cd at_125)  ?_
      show Steps p.tables e below (T17.setTop (mkF m 126 #[.val (.int i0), .val (.long i1), .second, .val (.int i2), .val (.int i3), .val (.int r_1), .val (.int r_2), .val (.int r_3), .val (.int r_4), .val (.int r_5), .val (.int (Int32.ofNat ln)), .val (.int (Int32.ofNat oo)), .val (.ref x_6), .val (.ref b7), .val (.ref pp_17), .val (.int r20_0), .val (.int r20_1), .unset] [(.int (1 : Int32))])) t
      refine XS.iload X17.here X17.hx rfl (X17.cd at_126) rfl  ?_
      show Steps p.tables e below (T17.setTop (mkF m 128 #[.val (.int i0), .val (.long i1), .second, .val (.int i2), .val (.int i3), .val (.int r_1), .val (.int r_2), .val (.int r_3), .val (.int r_4), .val (.int r_5), .val (.int (Int32.ofNat ln)), .val (.int (Int32.ofNat oo)), .val (.ref x_6), .val (.ref b7), .val (.ref pp_17), .val (.int r20_0), .val (.int r20_1), .unset] [(.int (Int32.ofNat oo)), (.int (1 : Int32))])) t
      refine XS.icmpYes X17.here X17.hx rfl (pc0 := 128) (pc' := 144) rfl (X17.cd at_128) rfl (XT.ii_ge_t c21_0) (by decide) (by decide) ?_
      show Steps p.tables e below (T17.setTop (mkF m 144 #[.val (.int i0), .val (.long i1), .second, .val (.int i2), .val (.int i3), .val (.int r_1), .val (.int r_2), .val (.int r_3), .val (.int r_4), .val (.int r_5), .val (.int (Int32.ofNat ln)), .val (.int (Int32.ofNat oo)), .val (.ref x_6), .val (.ref b7), .val (.ref pp_17), .val (.int r20_0), .val (.int r20_1), .unset] [])) t
      exact k
  refine Go.by (fun _ k => st21 _ k) ?_
  show Go _ _ _ _ (T17.setTop (mkF m 144 #[.val (.int i0), .val (.long i1), .second, .val (.int i2), .val (.int i3), .val (.int r_1), .val (.int r_2), .val (.int r_3), .val (.int r_4), .val (.int r_5), .val (.int (Int32.ofNat ln)), .val (.int (Int32.ofNat oo)), .val (.ref x_6), .val (.ref b7), .val (.ref pp_17), .val (.int r21_0), .val (.int r21_1), .unset] []))
  have e1 := own_st (i := 1) (o := oo) (p := (own_step oo (1, 0) 0 (decide (r_1 = 10)))) (by omega) (by omega) e0.1 e0.2 hr21
  obtain ⟨r22_0, r22_1, hr22, st22⟩ : ∃ (r22_0 : Int32) (r22_1 : Int32), ((((2 : Int32) < (Int32.ofNat oo)) ∧ (r_3 = (10 : Int32)) ∧ r22_0 = (r21_0 + (1 : Int32)) ∧ r22_1 = (2 : Int32)) ∨ (((2 : Int32) < (Int32.ofNat oo)) ∧ ¬ (r_3 = (10 : Int32)) ∧ r22_0 = r21_0 ∧ r22_1 = r21_1) ∨ (¬ ((2 : Int32) < (Int32.ofNat oo)) ∧ r22_0 = r21_0 ∧ r22_1 = r21_1)) ∧ ∀ t, Steps p.tables e below (T17.setTop (mkF m 163 #[.val (.int i0), .val (.long i1), .second, .val (.int i2), .val (.int i3), .val (.int r_1), .val (.int r_2), .val (.int r_3), .val (.int r_4), .val (.int r_5), .val (.int (Int32.ofNat ln)), .val (.int (Int32.ofNat oo)), .val (.ref x_6), .val (.ref b7), .val (.ref pp_17), .val (.int r22_0), .val (.int r22_1), .unset] [])) t → Steps p.tables e below (T17.setTop (mkF m 144 #[.val (.int i0), .val (.long i1), .second, .val (.int i2), .val (.int i3), .val (.int r_1), .val (.int r_2), .val (.int r_3), .val (.int r_4), .val (.int r_5), .val (.int (Int32.ofNat ln)), .val (.int (Int32.ofNat oo)), .val (.ref x_6), .val (.ref b7), .val (.ref pp_17), .val (.int r21_0), .val (.int r21_1), .unset] [])) t := by
    by_cases c22_0 : (2 : Int32) < (Int32.ofNat oo)
    · by_cases c22_1 : r_3 = (10 : Int32)
      · refine ⟨(r21_0 + (1 : Int32)), (2 : Int32), Or.inl ⟨c22_0, c22_1, rfl, rfl⟩, fun t k => ?_⟩
        refine XS.iconst X17.here X17.hx rfl (X17.cd at_144)  ?_
        show Steps p.tables e below (T17.setTop (mkF m 145 #[.val (.int i0), .val (.long i1), .second, .val (.int i2), .val (.int i3), .val (.int r_1), .val (.int r_2), .val (.int r_3), .val (.int r_4), .val (.int r_5), .val (.int (Int32.ofNat ln)), .val (.int (Int32.ofNat oo)), .val (.ref x_6), .val (.ref b7), .val (.ref pp_17), .val (.int r21_0), .val (.int r21_1), .unset] [(.int (2 : Int32))])) t
        refine XS.iload X17.here X17.hx rfl (X17.cd at_145) rfl  ?_
        show Steps p.tables e below (T17.setTop (mkF m 147 #[.val (.int i0), .val (.long i1), .second, .val (.int i2), .val (.int i3), .val (.int r_1), .val (.int r_2), .val (.int r_3), .val (.int r_4), .val (.int r_5), .val (.int (Int32.ofNat ln)), .val (.int (Int32.ofNat oo)), .val (.ref x_6), .val (.ref b7), .val (.ref pp_17), .val (.int r21_0), .val (.int r21_1), .unset] [(.int (Int32.ofNat oo)), (.int (2 : Int32))])) t
        refine XS.icmpNo X17.here X17.hx rfl (X17.cd at_147) rfl (XT.ii_ge_f c22_0) ?_
        show Steps p.tables e below (T17.setTop (mkF m 150 #[.val (.int i0), .val (.long i1), .second, .val (.int i2), .val (.int i3), .val (.int r_1), .val (.int r_2), .val (.int r_3), .val (.int r_4), .val (.int r_5), .val (.int (Int32.ofNat ln)), .val (.int (Int32.ofNat oo)), .val (.ref x_6), .val (.ref b7), .val (.ref pp_17), .val (.int r21_0), .val (.int r21_1), .unset] [])) t
        refine XS.iload X17.here X17.hx rfl (X17.cd at_150) rfl  ?_
        show Steps p.tables e below (T17.setTop (mkF m 152 #[.val (.int i0), .val (.long i1), .second, .val (.int i2), .val (.int i3), .val (.int r_1), .val (.int r_2), .val (.int r_3), .val (.int r_4), .val (.int r_5), .val (.int (Int32.ofNat ln)), .val (.int (Int32.ofNat oo)), .val (.ref x_6), .val (.ref b7), .val (.ref pp_17), .val (.int r21_0), .val (.int r21_1), .unset] [(.int r_3)])) t
        refine XS.bipush X17.here X17.hx rfl (X17.cd at_152)  ?_
        show Steps p.tables e below (T17.setTop (mkF m 154 #[.val (.int i0), .val (.long i1), .second, .val (.int i2), .val (.int i3), .val (.int r_1), .val (.int r_2), .val (.int r_3), .val (.int r_4), .val (.int r_5), .val (.int (Int32.ofNat ln)), .val (.int (Int32.ofNat oo)), .val (.ref x_6), .val (.ref b7), .val (.ref pp_17), .val (.int r21_0), .val (.int r21_1), .unset] [(.int (10 : Int32)), (.int r_3)])) t
        refine XS.icmpNo X17.here X17.hx rfl (X17.cd at_154) rfl (XT.ii_ne_f c22_1) ?_
        show Steps p.tables e below (T17.setTop (mkF m 157 #[.val (.int i0), .val (.long i1), .second, .val (.int i2), .val (.int i3), .val (.int r_1), .val (.int r_2), .val (.int r_3), .val (.int r_4), .val (.int r_5), .val (.int (Int32.ofNat ln)), .val (.int (Int32.ofNat oo)), .val (.ref x_6), .val (.ref b7), .val (.ref pp_17), .val (.int r21_0), .val (.int r21_1), .unset] [])) t
        refine XS.iinc X17.here X17.hx rfl (X17.cd at_157) rfl (l' := #[.val (.int i0), .val (.long i1), .second, .val (.int i2), .val (.int i3), .val (.int r_1), .val (.int r_2), .val (.int r_3), .val (.int r_4), .val (.int r_5), .val (.int (Int32.ofNat ln)), .val (.int (Int32.ofNat oo)), .val (.ref x_6), .val (.ref b7), .val (.ref pp_17), .val (.int (r21_0 + (1 : Int32))), .val (.int r21_1), .unset]) rfl ?_
        show Steps p.tables e below (T17.setTop (mkF m 160 #[.val (.int i0), .val (.long i1), .second, .val (.int i2), .val (.int i3), .val (.int r_1), .val (.int r_2), .val (.int r_3), .val (.int r_4), .val (.int r_5), .val (.int (Int32.ofNat ln)), .val (.int (Int32.ofNat oo)), .val (.ref x_6), .val (.ref b7), .val (.ref pp_17), .val (.int (r21_0 + (1 : Int32))), .val (.int r21_1), .unset] [])) t
        refine XS.iconst X17.here X17.hx rfl (X17.cd at_160)  ?_
        show Steps p.tables e below (T17.setTop (mkF m 161 #[.val (.int i0), .val (.long i1), .second, .val (.int i2), .val (.int i3), .val (.int r_1), .val (.int r_2), .val (.int r_3), .val (.int r_4), .val (.int r_5), .val (.int (Int32.ofNat ln)), .val (.int (Int32.ofNat oo)), .val (.ref x_6), .val (.ref b7), .val (.ref pp_17), .val (.int (r21_0 + (1 : Int32))), .val (.int r21_1), .unset] [(.int (2 : Int32))])) t
        refine XS.istore X17.here X17.hx rfl (X17.cd at_161) rfl (l' := #[.val (.int i0), .val (.long i1), .second, .val (.int i2), .val (.int i3), .val (.int r_1), .val (.int r_2), .val (.int r_3), .val (.int r_4), .val (.int r_5), .val (.int (Int32.ofNat ln)), .val (.int (Int32.ofNat oo)), .val (.ref x_6), .val (.ref b7), .val (.ref pp_17), .val (.int (r21_0 + (1 : Int32))), .val (.int (2 : Int32)), .unset]) rfl ?_
        show Steps p.tables e below (T17.setTop (mkF m 163 #[.val (.int i0), .val (.long i1), .second, .val (.int i2), .val (.int i3), .val (.int r_1), .val (.int r_2), .val (.int r_3), .val (.int r_4), .val (.int r_5), .val (.int (Int32.ofNat ln)), .val (.int (Int32.ofNat oo)), .val (.ref x_6), .val (.ref b7), .val (.ref pp_17), .val (.int (r21_0 + (1 : Int32))), .val (.int (2 : Int32)), .unset] [])) t
        exact k
      · refine ⟨r21_0, r21_1, Or.inr (Or.inl ⟨c22_0, c22_1, rfl, rfl⟩), fun t k => ?_⟩
        refine XS.iconst X17.here X17.hx rfl (X17.cd at_144)  ?_
        show Steps p.tables e below (T17.setTop (mkF m 145 #[.val (.int i0), .val (.long i1), .second, .val (.int i2), .val (.int i3), .val (.int r_1), .val (.int r_2), .val (.int r_3), .val (.int r_4), .val (.int r_5), .val (.int (Int32.ofNat ln)), .val (.int (Int32.ofNat oo)), .val (.ref x_6), .val (.ref b7), .val (.ref pp_17), .val (.int r21_0), .val (.int r21_1), .unset] [(.int (2 : Int32))])) t
        refine XS.iload X17.here X17.hx rfl (X17.cd at_145) rfl  ?_
        show Steps p.tables e below (T17.setTop (mkF m 147 #[.val (.int i0), .val (.long i1), .second, .val (.int i2), .val (.int i3), .val (.int r_1), .val (.int r_2), .val (.int r_3), .val (.int r_4), .val (.int r_5), .val (.int (Int32.ofNat ln)), .val (.int (Int32.ofNat oo)), .val (.ref x_6), .val (.ref b7), .val (.ref pp_17), .val (.int r21_0), .val (.int r21_1), .unset] [(.int (Int32.ofNat oo)), (.int (2 : Int32))])) t
        refine XS.icmpNo X17.here X17.hx rfl (X17.cd at_147) rfl (XT.ii_ge_f c22_0) ?_
        show Steps p.tables e below (T17.setTop (mkF m 150 #[.val (.int i0), .val (.long i1), .second, .val (.int i2), .val (.int i3), .val (.int r_1), .val (.int r_2), .val (.int r_3), .val (.int r_4), .val (.int r_5), .val (.int (Int32.ofNat ln)), .val (.int (Int32.ofNat oo)), .val (.ref x_6), .val (.ref b7), .val (.ref pp_17), .val (.int r21_0), .val (.int r21_1), .unset] [])) t
        refine XS.iload X17.here X17.hx rfl (X17.cd at_150) rfl  ?_
        show Steps p.tables e below (T17.setTop (mkF m 152 #[.val (.int i0), .val (.long i1), .second, .val (.int i2), .val (.int i3), .val (.int r_1), .val (.int r_2), .val (.int r_3), .val (.int r_4), .val (.int r_5), .val (.int (Int32.ofNat ln)), .val (.int (Int32.ofNat oo)), .val (.ref x_6), .val (.ref b7), .val (.ref pp_17), .val (.int r21_0), .val (.int r21_1), .unset] [(.int r_3)])) t
        refine XS.bipush X17.here X17.hx rfl (X17.cd at_152)  ?_
        show Steps p.tables e below (T17.setTop (mkF m 154 #[.val (.int i0), .val (.long i1), .second, .val (.int i2), .val (.int i3), .val (.int r_1), .val (.int r_2), .val (.int r_3), .val (.int r_4), .val (.int r_5), .val (.int (Int32.ofNat ln)), .val (.int (Int32.ofNat oo)), .val (.ref x_6), .val (.ref b7), .val (.ref pp_17), .val (.int r21_0), .val (.int r21_1), .unset] [(.int (10 : Int32)), (.int r_3)])) t
        refine XS.icmpYes X17.here X17.hx rfl (pc0 := 154) (pc' := 163) rfl (X17.cd at_154) rfl (XT.ii_ne_t c22_1) (by decide) (by decide) ?_
        show Steps p.tables e below (T17.setTop (mkF m 163 #[.val (.int i0), .val (.long i1), .second, .val (.int i2), .val (.int i3), .val (.int r_1), .val (.int r_2), .val (.int r_3), .val (.int r_4), .val (.int r_5), .val (.int (Int32.ofNat ln)), .val (.int (Int32.ofNat oo)), .val (.ref x_6), .val (.ref b7), .val (.ref pp_17), .val (.int r21_0), .val (.int r21_1), .unset] [])) t
        exact k
    · refine ⟨r21_0, r21_1, Or.inr (Or.inr (⟨c22_0, rfl, rfl⟩)), fun t k => ?_⟩
      refine XS.iconst X17.here X17.hx rfl (X17.cd at_144)  ?_
      show Steps p.tables e below (T17.setTop (mkF m 145 #[.val (.int i0), .val (.long i1), .second, .val (.int i2), .val (.int i3), .val (.int r_1), .val (.int r_2), .val (.int r_3), .val (.int r_4), .val (.int r_5), .val (.int (Int32.ofNat ln)), .val (.int (Int32.ofNat oo)), .val (.ref x_6), .val (.ref b7), .val (.ref pp_17), .val (.int r21_0), .val (.int r21_1), .unset] [(.int (2 : Int32))])) t
      refine XS.iload X17.here X17.hx rfl (X17.cd at_145) rfl  ?_
      show Steps p.tables e below (T17.setTop (mkF m 147 #[.val (.int i0), .val (.long i1), .second, .val (.int i2), .val (.int i3), .val (.int r_1), .val (.int r_2), .val (.int r_3), .val (.int r_4), .val (.int r_5), .val (.int (Int32.ofNat ln)), .val (.int (Int32.ofNat oo)), .val (.ref x_6), .val (.ref b7), .val (.ref pp_17), .val (.int r21_0), .val (.int r21_1), .unset] [(.int (Int32.ofNat oo)), (.int (2 : Int32))])) t
      refine XS.icmpYes X17.here X17.hx rfl (pc0 := 147) (pc' := 163) rfl (X17.cd at_147) rfl (XT.ii_ge_t c22_0) (by decide) (by decide) ?_
      show Steps p.tables e below (T17.setTop (mkF m 163 #[.val (.int i0), .val (.long i1), .second, .val (.int i2), .val (.int i3), .val (.int r_1), .val (.int r_2), .val (.int r_3), .val (.int r_4), .val (.int r_5), .val (.int (Int32.ofNat ln)), .val (.int (Int32.ofNat oo)), .val (.ref x_6), .val (.ref b7), .val (.ref pp_17), .val (.int r21_0), .val (.int r21_1), .unset] [])) t
      exact k
  refine Go.by (fun _ k => st22 _ k) ?_
  show Go _ _ _ _ (T17.setTop (mkF m 163 #[.val (.int i0), .val (.long i1), .second, .val (.int i2), .val (.int i3), .val (.int r_1), .val (.int r_2), .val (.int r_3), .val (.int r_4), .val (.int r_5), .val (.int (Int32.ofNat ln)), .val (.int (Int32.ofNat oo)), .val (.ref x_6), .val (.ref b7), .val (.ref pp_17), .val (.int r22_0), .val (.int r22_1), .unset] []))
  have e2 := own_st (i := 2) (o := oo) (p := (own_step oo (own_step oo (1, 0) 0 (decide (r_1 = 10))) 1 (decide (r_2 = 10)))) (by omega) (by omega) e1.1 e1.2 hr22
  obtain ⟨r23_0, r23_1, hr23, st23⟩ : ∃ (r23_0 : Int32) (r23_1 : Int32), ((((3 : Int32) < (Int32.ofNat oo)) ∧ (r_4 = (10 : Int32)) ∧ r23_0 = (r22_0 + (1 : Int32)) ∧ r23_1 = (3 : Int32)) ∨ (((3 : Int32) < (Int32.ofNat oo)) ∧ ¬ (r_4 = (10 : Int32)) ∧ r23_0 = r22_0 ∧ r23_1 = r22_1) ∨ (¬ ((3 : Int32) < (Int32.ofNat oo)) ∧ r23_0 = r22_0 ∧ r23_1 = r22_1)) ∧ ∀ t, Steps p.tables e below (T17.setTop (mkF m 182 #[.val (.int i0), .val (.long i1), .second, .val (.int i2), .val (.int i3), .val (.int r_1), .val (.int r_2), .val (.int r_3), .val (.int r_4), .val (.int r_5), .val (.int (Int32.ofNat ln)), .val (.int (Int32.ofNat oo)), .val (.ref x_6), .val (.ref b7), .val (.ref pp_17), .val (.int r23_0), .val (.int r23_1), .unset] [])) t → Steps p.tables e below (T17.setTop (mkF m 163 #[.val (.int i0), .val (.long i1), .second, .val (.int i2), .val (.int i3), .val (.int r_1), .val (.int r_2), .val (.int r_3), .val (.int r_4), .val (.int r_5), .val (.int (Int32.ofNat ln)), .val (.int (Int32.ofNat oo)), .val (.ref x_6), .val (.ref b7), .val (.ref pp_17), .val (.int r22_0), .val (.int r22_1), .unset] [])) t := by
    by_cases c23_0 : (3 : Int32) < (Int32.ofNat oo)
    · by_cases c23_1 : r_4 = (10 : Int32)
      · refine ⟨(r22_0 + (1 : Int32)), (3 : Int32), Or.inl ⟨c23_0, c23_1, rfl, rfl⟩, fun t k => ?_⟩
        refine XS.iconst X17.here X17.hx rfl (X17.cd at_163)  ?_
        show Steps p.tables e below (T17.setTop (mkF m 164 #[.val (.int i0), .val (.long i1), .second, .val (.int i2), .val (.int i3), .val (.int r_1), .val (.int r_2), .val (.int r_3), .val (.int r_4), .val (.int r_5), .val (.int (Int32.ofNat ln)), .val (.int (Int32.ofNat oo)), .val (.ref x_6), .val (.ref b7), .val (.ref pp_17), .val (.int r22_0), .val (.int r22_1), .unset] [(.int (3 : Int32))])) t
        refine XS.iload X17.here X17.hx rfl (X17.cd at_164) rfl  ?_
        show Steps p.tables e below (T17.setTop (mkF m 166 #[.val (.int i0), .val (.long i1), .second, .val (.int i2), .val (.int i3), .val (.int r_1), .val (.int r_2), .val (.int r_3), .val (.int r_4), .val (.int r_5), .val (.int (Int32.ofNat ln)), .val (.int (Int32.ofNat oo)), .val (.ref x_6), .val (.ref b7), .val (.ref pp_17), .val (.int r22_0), .val (.int r22_1), .unset] [(.int (Int32.ofNat oo)), (.int (3 : Int32))])) t
        refine XS.icmpNo X17.here X17.hx rfl (X17.cd at_166) rfl (XT.ii_ge_f c23_0) ?_
        show Steps p.tables e below (T17.setTop (mkF m 169 #[.val (.int i0), .val (.long i1), .second, .val (.int i2), .val (.int i3), .val (.int r_1), .val (.int r_2), .val (.int r_3), .val (.int r_4), .val (.int r_5), .val (.int (Int32.ofNat ln)), .val (.int (Int32.ofNat oo)), .val (.ref x_6), .val (.ref b7), .val (.ref pp_17), .val (.int r22_0), .val (.int r22_1), .unset] [])) t
        refine XS.iload X17.here X17.hx rfl (X17.cd at_169) rfl  ?_
        show Steps p.tables e below (T17.setTop (mkF m 171 #[.val (.int i0), .val (.long i1), .second, .val (.int i2), .val (.int i3), .val (.int r_1), .val (.int r_2), .val (.int r_3), .val (.int r_4), .val (.int r_5), .val (.int (Int32.ofNat ln)), .val (.int (Int32.ofNat oo)), .val (.ref x_6), .val (.ref b7), .val (.ref pp_17), .val (.int r22_0), .val (.int r22_1), .unset] [(.int r_4)])) t
        refine XS.bipush X17.here X17.hx rfl (X17.cd at_171)  ?_
        show Steps p.tables e below (T17.setTop (mkF m 173 #[.val (.int i0), .val (.long i1), .second, .val (.int i2), .val (.int i3), .val (.int r_1), .val (.int r_2), .val (.int r_3), .val (.int r_4), .val (.int r_5), .val (.int (Int32.ofNat ln)), .val (.int (Int32.ofNat oo)), .val (.ref x_6), .val (.ref b7), .val (.ref pp_17), .val (.int r22_0), .val (.int r22_1), .unset] [(.int (10 : Int32)), (.int r_4)])) t
        refine XS.icmpNo X17.here X17.hx rfl (X17.cd at_173) rfl (XT.ii_ne_f c23_1) ?_
        show Steps p.tables e below (T17.setTop (mkF m 176 #[.val (.int i0), .val (.long i1), .second, .val (.int i2), .val (.int i3), .val (.int r_1), .val (.int r_2), .val (.int r_3), .val (.int r_4), .val (.int r_5), .val (.int (Int32.ofNat ln)), .val (.int (Int32.ofNat oo)), .val (.ref x_6), .val (.ref b7), .val (.ref pp_17), .val (.int r22_0), .val (.int r22_1), .unset] [])) t
        refine XS.iinc X17.here X17.hx rfl (X17.cd at_176) rfl (l' := #[.val (.int i0), .val (.long i1), .second, .val (.int i2), .val (.int i3), .val (.int r_1), .val (.int r_2), .val (.int r_3), .val (.int r_4), .val (.int r_5), .val (.int (Int32.ofNat ln)), .val (.int (Int32.ofNat oo)), .val (.ref x_6), .val (.ref b7), .val (.ref pp_17), .val (.int (r22_0 + (1 : Int32))), .val (.int r22_1), .unset]) rfl ?_
        show Steps p.tables e below (T17.setTop (mkF m 179 #[.val (.int i0), .val (.long i1), .second, .val (.int i2), .val (.int i3), .val (.int r_1), .val (.int r_2), .val (.int r_3), .val (.int r_4), .val (.int r_5), .val (.int (Int32.ofNat ln)), .val (.int (Int32.ofNat oo)), .val (.ref x_6), .val (.ref b7), .val (.ref pp_17), .val (.int (r22_0 + (1 : Int32))), .val (.int r22_1), .unset] [])) t
        refine XS.iconst X17.here X17.hx rfl (X17.cd at_179)  ?_
        show Steps p.tables e below (T17.setTop (mkF m 180 #[.val (.int i0), .val (.long i1), .second, .val (.int i2), .val (.int i3), .val (.int r_1), .val (.int r_2), .val (.int r_3), .val (.int r_4), .val (.int r_5), .val (.int (Int32.ofNat ln)), .val (.int (Int32.ofNat oo)), .val (.ref x_6), .val (.ref b7), .val (.ref pp_17), .val (.int (r22_0 + (1 : Int32))), .val (.int r22_1), .unset] [(.int (3 : Int32))])) t
        refine XS.istore X17.here X17.hx rfl (X17.cd at_180) rfl (l' := #[.val (.int i0), .val (.long i1), .second, .val (.int i2), .val (.int i3), .val (.int r_1), .val (.int r_2), .val (.int r_3), .val (.int r_4), .val (.int r_5), .val (.int (Int32.ofNat ln)), .val (.int (Int32.ofNat oo)), .val (.ref x_6), .val (.ref b7), .val (.ref pp_17), .val (.int (r22_0 + (1 : Int32))), .val (.int (3 : Int32)), .unset]) rfl ?_
        show Steps p.tables e below (T17.setTop (mkF m 182 #[.val (.int i0), .val (.long i1), .second, .val (.int i2), .val (.int i3), .val (.int r_1), .val (.int r_2), .val (.int r_3), .val (.int r_4), .val (.int r_5), .val (.int (Int32.ofNat ln)), .val (.int (Int32.ofNat oo)), .val (.ref x_6), .val (.ref b7), .val (.ref pp_17), .val (.int (r22_0 + (1 : Int32))), .val (.int (3 : Int32)), .unset] [])) t
        exact k
      · refine ⟨r22_0, r22_1, Or.inr (Or.inl ⟨c23_0, c23_1, rfl, rfl⟩), fun t k => ?_⟩
        refine XS.iconst X17.here X17.hx rfl (X17.cd at_163)  ?_
        show Steps p.tables e below (T17.setTop (mkF m 164 #[.val (.int i0), .val (.long i1), .second, .val (.int i2), .val (.int i3), .val (.int r_1), .val (.int r_2), .val (.int r_3), .val (.int r_4), .val (.int r_5), .val (.int (Int32.ofNat ln)), .val (.int (Int32.ofNat oo)), .val (.ref x_6), .val (.ref b7), .val (.ref pp_17), .val (.int r22_0), .val (.int r22_1), .unset] [(.int (3 : Int32))])) t
        refine XS.iload X17.here X17.hx rfl (X17.cd at_164) rfl  ?_
        show Steps p.tables e below (T17.setTop (mkF m 166 #[.val (.int i0), .val (.long i1), .second, .val (.int i2), .val (.int i3), .val (.int r_1), .val (.int r_2), .val (.int r_3), .val (.int r_4), .val (.int r_5), .val (.int (Int32.ofNat ln)), .val (.int (Int32.ofNat oo)), .val (.ref x_6), .val (.ref b7), .val (.ref pp_17), .val (.int r22_0), .val (.int r22_1), .unset] [(.int (Int32.ofNat oo)), (.int (3 : Int32))])) t
        refine XS.icmpNo X17.here X17.hx rfl (X17.cd at_166) rfl (XT.ii_ge_f c23_0) ?_
        show Steps p.tables e below (T17.setTop (mkF m 169 #[.val (.int i0), .val (.long i1), .second, .val (.int i2), .val (.int i3), .val (.int r_1), .val (.int r_2), .val (.int r_3), .val (.int r_4), .val (.int r_5), .val (.int (Int32.ofNat ln)), .val (.int (Int32.ofNat oo)), .val (.ref x_6), .val (.ref b7), .val (.ref pp_17), .val (.int r22_0), .val (.int r22_1), .unset] [])) t
        refine XS.iload X17.here X17.hx rfl (X17.cd at_169) rfl  ?_
        show Steps p.tables e below (T17.setTop (mkF m 171 #[.val (.int i0), .val (.long i1), .second, .val (.int i2), .val (.int i3), .val (.int r_1), .val (.int r_2), .val (.int r_3), .val (.int r_4), .val (.int r_5), .val (.int (Int32.ofNat ln)), .val (.int (Int32.ofNat oo)), .val (.ref x_6), .val (.ref b7), .val (.ref pp_17), .val (.int r22_0), .val (.int r22_1), .unset] [(.int r_4)])) t
        refine XS.bipush X17.here X17.hx rfl (X17.cd at_171)  ?_
        show Steps p.tables e below (T17.setTop (mkF m 173 #[.val (.int i0), .val (.long i1), .second, .val (.int i2), .val (.int i3), .val (.int r_1), .val (.int r_2), .val (.int r_3), .val (.int r_4), .val (.int r_5), .val (.int (Int32.ofNat ln)), .val (.int (Int32.ofNat oo)), .val (.ref x_6), .val (.ref b7), .val (.ref pp_17), .val (.int r22_0), .val (.int r22_1), .unset] [(.int (10 : Int32)), (.int r_4)])) t
        refine XS.icmpYes X17.here X17.hx rfl (pc0 := 173) (pc' := 182) rfl (X17.cd at_173) rfl (XT.ii_ne_t c23_1) (by decide) (by decide) ?_
        show Steps p.tables e below (T17.setTop (mkF m 182 #[.val (.int i0), .val (.long i1), .second, .val (.int i2), .val (.int i3), .val (.int r_1), .val (.int r_2), .val (.int r_3), .val (.int r_4), .val (.int r_5), .val (.int (Int32.ofNat ln)), .val (.int (Int32.ofNat oo)), .val (.ref x_6), .val (.ref b7), .val (.ref pp_17), .val (.int r22_0), .val (.int r22_1), .unset] [])) t
        exact k
    · refine ⟨r22_0, r22_1, Or.inr (Or.inr (⟨c23_0, rfl, rfl⟩)), fun t k => ?_⟩
      refine XS.iconst X17.here X17.hx rfl (X17.cd at_163)  ?_
      show Steps p.tables e below (T17.setTop (mkF m 164 #[.val (.int i0), .val (.long i1), .second, .val (.int i2), .val (.int i3), .val (.int r_1), .val (.int r_2), .val (.int r_3), .val (.int r_4), .val (.int r_5), .val (.int (Int32.ofNat ln)), .val (.int (Int32.ofNat oo)), .val (.ref x_6), .val (.ref b7), .val (.ref pp_17), .val (.int r22_0), .val (.int r22_1), .unset] [(.int (3 : Int32))])) t
      refine XS.iload X17.here X17.hx rfl (X17.cd at_164) rfl  ?_
      show Steps p.tables e below (T17.setTop (mkF m 166 #[.val (.int i0), .val (.long i1), .second, .val (.int i2), .val (.int i3), .val (.int r_1), .val (.int r_2), .val (.int r_3), .val (.int r_4), .val (.int r_5), .val (.int (Int32.ofNat ln)), .val (.int (Int32.ofNat oo)), .val (.ref x_6), .val (.ref b7), .val (.ref pp_17), .val (.int r22_0), .val (.int r22_1), .unset] [(.int (Int32.ofNat oo)), (.int (3 : Int32))])) t
      refine XS.icmpYes X17.here X17.hx rfl (pc0 := 166) (pc' := 182) rfl (X17.cd at_166) rfl (XT.ii_ge_t c23_0) (by decide) (by decide) ?_
      show Steps p.tables e below (T17.setTop (mkF m 182 #[.val (.int i0), .val (.long i1), .second, .val (.int i2), .val (.int i3), .val (.int r_1), .val (.int r_2), .val (.int r_3), .val (.int r_4), .val (.int r_5), .val (.int (Int32.ofNat ln)), .val (.int (Int32.ofNat oo)), .val (.ref x_6), .val (.ref b7), .val (.ref pp_17), .val (.int r22_0), .val (.int r22_1), .unset] [])) t
      exact k
  refine Go.by (fun _ k => st23 _ k) ?_
  show Go _ _ _ _ (T17.setTop (mkF m 182 #[.val (.int i0), .val (.long i1), .second, .val (.int i2), .val (.int i3), .val (.int r_1), .val (.int r_2), .val (.int r_3), .val (.int r_4), .val (.int r_5), .val (.int (Int32.ofNat ln)), .val (.int (Int32.ofNat oo)), .val (.ref x_6), .val (.ref b7), .val (.ref pp_17), .val (.int r23_0), .val (.int r23_1), .unset] []))
  have e3 := own_st (i := 3) (o := oo) (p := (own_step oo (own_step oo (own_step oo (1, 0) 0 (decide (r_1 = 10))) 1 (decide (r_2 = 10))) 2 (decide (r_3 = 10)))) (by omega) (by omega) e2.1 e2.2 hr23
  obtain ⟨r24_0, r24_1, hr24, st24⟩ : ∃ (r24_0 : Int32) (r24_1 : Int32), ((((4 : Int32) < (Int32.ofNat oo)) ∧ (r_5 = (10 : Int32)) ∧ r24_0 = (r23_0 + (1 : Int32)) ∧ r24_1 = (4 : Int32)) ∨ (((4 : Int32) < (Int32.ofNat oo)) ∧ ¬ (r_5 = (10 : Int32)) ∧ r24_0 = r23_0 ∧ r24_1 = r23_1) ∨ (¬ ((4 : Int32) < (Int32.ofNat oo)) ∧ r24_0 = r23_0 ∧ r24_1 = r23_1)) ∧ ∀ t, Steps p.tables e below (T17.setTop (mkF m 201 #[.val (.int i0), .val (.long i1), .second, .val (.int i2), .val (.int i3), .val (.int r_1), .val (.int r_2), .val (.int r_3), .val (.int r_4), .val (.int r_5), .val (.int (Int32.ofNat ln)), .val (.int (Int32.ofNat oo)), .val (.ref x_6), .val (.ref b7), .val (.ref pp_17), .val (.int r24_0), .val (.int r24_1), .unset] [])) t → Steps p.tables e below (T17.setTop (mkF m 182 #[.val (.int i0), .val (.long i1), .second, .val (.int i2), .val (.int i3), .val (.int r_1), .val (.int r_2), .val (.int r_3), .val (.int r_4), .val (.int r_5), .val (.int (Int32.ofNat ln)), .val (.int (Int32.ofNat oo)), .val (.ref x_6), .val (.ref b7), .val (.ref pp_17), .val (.int r23_0), .val (.int r23_1), .unset] [])) t := by
    by_cases c24_0 : (4 : Int32) < (Int32.ofNat oo)
    · by_cases c24_1 : r_5 = (10 : Int32)
      · refine ⟨(r23_0 + (1 : Int32)), (4 : Int32), Or.inl ⟨c24_0, c24_1, rfl, rfl⟩, fun t k => ?_⟩
        refine XS.iconst X17.here X17.hx rfl (X17.cd at_182)  ?_
        show Steps p.tables e below (T17.setTop (mkF m 183 #[.val (.int i0), .val (.long i1), .second, .val (.int i2), .val (.int i3), .val (.int r_1), .val (.int r_2), .val (.int r_3), .val (.int r_4), .val (.int r_5), .val (.int (Int32.ofNat ln)), .val (.int (Int32.ofNat oo)), .val (.ref x_6), .val (.ref b7), .val (.ref pp_17), .val (.int r23_0), .val (.int r23_1), .unset] [(.int (4 : Int32))])) t
        refine XS.iload X17.here X17.hx rfl (X17.cd at_183) rfl  ?_
        show Steps p.tables e below (T17.setTop (mkF m 185 #[.val (.int i0), .val (.long i1), .second, .val (.int i2), .val (.int i3), .val (.int r_1), .val (.int r_2), .val (.int r_3), .val (.int r_4), .val (.int r_5), .val (.int (Int32.ofNat ln)), .val (.int (Int32.ofNat oo)), .val (.ref x_6), .val (.ref b7), .val (.ref pp_17), .val (.int r23_0), .val (.int r23_1), .unset] [(.int (Int32.ofNat oo)), (.int (4 : Int32))])) t
        refine XS.icmpNo X17.here X17.hx rfl (X17.cd at_185) rfl (XT.ii_ge_f c24_0) ?_
        show Steps p.tables e below (T17.setTop (mkF m 188 #[.val (.int i0), .val (.long i1), .second, .val (.int i2), .val (.int i3), .val (.int r_1), .val (.int r_2), .val (.int r_3), .val (.int r_4), .val (.int r_5), .val (.int (Int32.ofNat ln)), .val (.int (Int32.ofNat oo)), .val (.ref x_6), .val (.ref b7), .val (.ref pp_17), .val (.int r23_0), .val (.int r23_1), .unset] [])) t
        refine XS.iload X17.here X17.hx rfl (X17.cd at_188) rfl  ?_
        show Steps p.tables e below (T17.setTop (mkF m 190 #[.val (.int i0), .val (.long i1), .second, .val (.int i2), .val (.int i3), .val (.int r_1), .val (.int r_2), .val (.int r_3), .val (.int r_4), .val (.int r_5), .val (.int (Int32.ofNat ln)), .val (.int (Int32.ofNat oo)), .val (.ref x_6), .val (.ref b7), .val (.ref pp_17), .val (.int r23_0), .val (.int r23_1), .unset] [(.int r_5)])) t
        refine XS.bipush X17.here X17.hx rfl (X17.cd at_190)  ?_
        show Steps p.tables e below (T17.setTop (mkF m 192 #[.val (.int i0), .val (.long i1), .second, .val (.int i2), .val (.int i3), .val (.int r_1), .val (.int r_2), .val (.int r_3), .val (.int r_4), .val (.int r_5), .val (.int (Int32.ofNat ln)), .val (.int (Int32.ofNat oo)), .val (.ref x_6), .val (.ref b7), .val (.ref pp_17), .val (.int r23_0), .val (.int r23_1), .unset] [(.int (10 : Int32)), (.int r_5)])) t
        refine XS.icmpNo X17.here X17.hx rfl (X17.cd at_192) rfl (XT.ii_ne_f c24_1) ?_
        show Steps p.tables e below (T17.setTop (mkF m 195 #[.val (.int i0), .val (.long i1), .second, .val (.int i2), .val (.int i3), .val (.int r_1), .val (.int r_2), .val (.int r_3), .val (.int r_4), .val (.int r_5), .val (.int (Int32.ofNat ln)), .val (.int (Int32.ofNat oo)), .val (.ref x_6), .val (.ref b7), .val (.ref pp_17), .val (.int r23_0), .val (.int r23_1), .unset] [])) t
        refine XS.iinc X17.here X17.hx rfl (X17.cd at_195) rfl (l' := #[.val (.int i0), .val (.long i1), .second, .val (.int i2), .val (.int i3), .val (.int r_1), .val (.int r_2), .val (.int r_3), .val (.int r_4), .val (.int r_5), .val (.int (Int32.ofNat ln)), .val (.int (Int32.ofNat oo)), .val (.ref x_6), .val (.ref b7), .val (.ref pp_17), .val (.int (r23_0 + (1 : Int32))), .val (.int r23_1), .unset]) rfl ?_
        show Steps p.tables e below (T17.setTop (mkF m 198 #[.val (.int i0), .val (.long i1), .second, .val (.int i2), .val (.int i3), .val (.int r_1), .val (.int r_2), .val (.int r_3), .val (.int r_4), .val (.int r_5), .val (.int (Int32.ofNat ln)), .val (.int (Int32.ofNat oo)), .val (.ref x_6), .val (.ref b7), .val (.ref pp_17), .val (.int (r23_0 + (1 : Int32))), .val (.int r23_1), .unset] [])) t
        refine XS.iconst X17.here X17.hx rfl (X17.cd at_198)  ?_
        show Steps p.tables e below (T17.setTop (mkF m 199 #[.val (.int i0), .val (.long i1), .second, .val (.int i2), .val (.int i3), .val (.int r_1), .val (.int r_2), .val (.int r_3), .val (.int r_4), .val (.int r_5), .val (.int (Int32.ofNat ln)), .val (.int (Int32.ofNat oo)), .val (.ref x_6), .val (.ref b7), .val (.ref pp_17), .val (.int (r23_0 + (1 : Int32))), .val (.int r23_1), .unset] [(.int (4 : Int32))])) t
        refine XS.istore X17.here X17.hx rfl (X17.cd at_199) rfl (l' := #[.val (.int i0), .val (.long i1), .second, .val (.int i2), .val (.int i3), .val (.int r_1), .val (.int r_2), .val (.int r_3), .val (.int r_4), .val (.int r_5), .val (.int (Int32.ofNat ln)), .val (.int (Int32.ofNat oo)), .val (.ref x_6), .val (.ref b7), .val (.ref pp_17), .val (.int (r23_0 + (1 : Int32))), .val (.int (4 : Int32)), .unset]) rfl ?_
        show Steps p.tables e below (T17.setTop (mkF m 201 #[.val (.int i0), .val (.long i1), .second, .val (.int i2), .val (.int i3), .val (.int r_1), .val (.int r_2), .val (.int r_3), .val (.int r_4), .val (.int r_5), .val (.int (Int32.ofNat ln)), .val (.int (Int32.ofNat oo)), .val (.ref x_6), .val (.ref b7), .val (.ref pp_17), .val (.int (r23_0 + (1 : Int32))), .val (.int (4 : Int32)), .unset] [])) t
        exact k
      · refine ⟨r23_0, r23_1, Or.inr (Or.inl ⟨c24_0, c24_1, rfl, rfl⟩), fun t k => ?_⟩
        refine XS.iconst X17.here X17.hx rfl (X17.cd at_182)  ?_
        show Steps p.tables e below (T17.setTop (mkF m 183 #[.val (.int i0), .val (.long i1), .second, .val (.int i2), .val (.int i3), .val (.int r_1), .val (.int r_2), .val (.int r_3), .val (.int r_4), .val (.int r_5), .val (.int (Int32.ofNat ln)), .val (.int (Int32.ofNat oo)), .val (.ref x_6), .val (.ref b7), .val (.ref pp_17), .val (.int r23_0), .val (.int r23_1), .unset] [(.int (4 : Int32))])) t
        refine XS.iload X17.here X17.hx rfl (X17.cd at_183) rfl  ?_
        show Steps p.tables e below (T17.setTop (mkF m 185 #[.val (.int i0), .val (.long i1), .second, .val (.int i2), .val (.int i3), .val (.int r_1), .val (.int r_2), .val (.int r_3), .val (.int r_4), .val (.int r_5), .val (.int (Int32.ofNat ln)), .val (.int (Int32.ofNat oo)), .val (.ref x_6), .val (.ref b7), .val (.ref pp_17), .val (.int r23_0), .val (.int r23_1), .unset] [(.int (Int32.ofNat oo)), (.int (4 : Int32))])) t
        refine XS.icmpNo X17.here X17.hx rfl (X17.cd at_185) rfl (XT.ii_ge_f c24_0) ?_
        show Steps p.tables e below (T17.setTop (mkF m 188 #[.val (.int i0), .val (.long i1), .second, .val (.int i2), .val (.int i3), .val (.int r_1), .val (.int r_2), .val (.int r_3), .val (.int r_4), .val (.int r_5), .val (.int (Int32.ofNat ln)), .val (.int (Int32.ofNat oo)), .val (.ref x_6), .val (.ref b7), .val (.ref pp_17), .val (.int r23_0), .val (.int r23_1), .unset] [])) t
        refine XS.iload X17.here X17.hx rfl (X17.cd at_188) rfl  ?_
        show Steps p.tables e below (T17.setTop (mkF m 190 #[.val (.int i0), .val (.long i1), .second, .val (.int i2), .val (.int i3), .val (.int r_1), .val (.int r_2), .val (.int r_3), .val (.int r_4), .val (.int r_5), .val (.int (Int32.ofNat ln)), .val (.int (Int32.ofNat oo)), .val (.ref x_6), .val (.ref b7), .val (.ref pp_17), .val (.int r23_0), .val (.int r23_1), .unset] [(.int r_5)])) t
        refine XS.bipush X17.here X17.hx rfl (X17.cd at_190)  ?_
        show Steps p.tables e below (T17.setTop (mkF m 192 #[.val (.int i0), .val (.long i1), .second, .val (.int i2), .val (.int i3), .val (.int r_1), .val (.int r_2), .val (.int r_3), .val (.int r_4), .val (.int r_5), .val (.int (Int32.ofNat ln)), .val (.int (Int32.ofNat oo)), .val (.ref x_6), .val (.ref b7), .val (.ref pp_17), .val (.int r23_0), .val (.int r23_1), .unset] [(.int (10 : Int32)), (.int r_5)])) t
        refine XS.icmpYes X17.here X17.hx rfl (pc0 := 192) (pc' := 201) rfl (X17.cd at_192) rfl (XT.ii_ne_t c24_1) (by decide) (by decide) ?_
        show Steps p.tables e below (T17.setTop (mkF m 201 #[.val (.int i0), .val (.long i1), .second, .val (.int i2), .val (.int i3), .val (.int r_1), .val (.int r_2), .val (.int r_3), .val (.int r_4), .val (.int r_5), .val (.int (Int32.ofNat ln)), .val (.int (Int32.ofNat oo)), .val (.ref x_6), .val (.ref b7), .val (.ref pp_17), .val (.int r23_0), .val (.int r23_1), .unset] [])) t
        exact k
    · refine ⟨r23_0, r23_1, Or.inr (Or.inr (⟨c24_0, rfl, rfl⟩)), fun t k => ?_⟩
      refine XS.iconst X17.here X17.hx rfl (X17.cd at_182)  ?_
      show Steps p.tables e below (T17.setTop (mkF m 183 #[.val (.int i0), .val (.long i1), .second, .val (.int i2), .val (.int i3), .val (.int r_1), .val (.int r_2), .val (.int r_3), .val (.int r_4), .val (.int r_5), .val (.int (Int32.ofNat ln)), .val (.int (Int32.ofNat oo)), .val (.ref x_6), .val (.ref b7), .val (.ref pp_17), .val (.int r23_0), .val (.int r23_1), .unset] [(.int (4 : Int32))])) t
      refine XS.iload X17.here X17.hx rfl (X17.cd at_183) rfl  ?_
      show Steps p.tables e below (T17.setTop (mkF m 185 #[.val (.int i0), .val (.long i1), .second, .val (.int i2), .val (.int i3), .val (.int r_1), .val (.int r_2), .val (.int r_3), .val (.int r_4), .val (.int r_5), .val (.int (Int32.ofNat ln)), .val (.int (Int32.ofNat oo)), .val (.ref x_6), .val (.ref b7), .val (.ref pp_17), .val (.int r23_0), .val (.int r23_1), .unset] [(.int (Int32.ofNat oo)), (.int (4 : Int32))])) t
      refine XS.icmpYes X17.here X17.hx rfl (pc0 := 185) (pc' := 201) rfl (X17.cd at_185) rfl (XT.ii_ge_t c24_0) (by decide) (by decide) ?_
      show Steps p.tables e below (T17.setTop (mkF m 201 #[.val (.int i0), .val (.long i1), .second, .val (.int i2), .val (.int i3), .val (.int r_1), .val (.int r_2), .val (.int r_3), .val (.int r_4), .val (.int r_5), .val (.int (Int32.ofNat ln)), .val (.int (Int32.ofNat oo)), .val (.ref x_6), .val (.ref b7), .val (.ref pp_17), .val (.int r23_0), .val (.int r23_1), .unset] [])) t
      exact k
  refine Go.by (fun _ k => st24 _ k) ?_
  show Go _ _ _ _ (T17.setTop (mkF m 201 #[.val (.int i0), .val (.long i1), .second, .val (.int i2), .val (.int i3), .val (.int r_1), .val (.int r_2), .val (.int r_3), .val (.int r_4), .val (.int r_5), .val (.int (Int32.ofNat ln)), .val (.int (Int32.ofNat oo)), .val (.ref x_6), .val (.ref b7), .val (.ref pp_17), .val (.int r24_0), .val (.int r24_1), .unset] []))
  have e4 := own_st (i := 4) (o := oo) (p := (own_step oo (own_step oo (own_step oo (own_step oo (1, 0) 0 (decide (r_1 = 10))) 1 (decide (r_2 = 10))) 2 (decide (r_3 = 10))) 3 (decide (r_4 = 10)))) (by omega) (by omega) e3.1 e3.2 hr24
  have ens : ns = own_prb ([decide (r_1 = 10), decide (r_2 = 10), decide (r_3 = 10), decide (r_4 = 10), decide (r_5 = 10)].take ln) ln := by rw [hns, htl, own_pre_b, htx, List.map_take]; rfl
  have hfin := own_finite (decide (r_1 = 10)) (decide (r_2 = 10)) (decide (r_3 = 10)) (decide (r_4 = 10)) (decide (r_5 = 10)) ⟨ln, hln⟩ ⟨oo, by omega⟩ ⟨r_17, by omega⟩ (by show oo ≤ ln; omega) (by rw [← ens]; exact p17_0.1) (by rw [← ens]; exact p17_0.2.1) (by rw [← ens]; exact p17_0.2.2)
  simp only [← ens] at hfin
  refine Go.by (fun _ k => XS.iload X17.here X17.hx rfl (X17.cd at_201) rfl  k) ?_
  show Go _ _ _ _ (T17.setTop (mkF m 203 #[.val (.int i0), .val (.long i1), .second, .val (.int i2), .val (.int i3), .val (.int r_1), .val (.int r_2), .val (.int r_3), .val (.int r_4), .val (.int r_5), .val (.int (Int32.ofNat ln)), .val (.int (Int32.ofNat oo)), .val (.ref x_6), .val (.ref b7), .val (.ref pp_17), .val (.int r24_0), .val (.int r24_1), .unset] [(.int (Int32.ofNat oo))]))
  refine Go.by (fun _ k => XS.iload X17.here X17.hx rfl (X17.cd at_203) rfl  k) ?_
  show Go _ _ _ _ (T17.setTop (mkF m 205 #[.val (.int i0), .val (.long i1), .second, .val (.int i2), .val (.int i3), .val (.int r_1), .val (.int r_2), .val (.int r_3), .val (.int r_4), .val (.int r_5), .val (.int (Int32.ofNat ln)), .val (.int (Int32.ofNat oo)), .val (.ref x_6), .val (.ref b7), .val (.ref pp_17), .val (.int r24_0), .val (.int r24_1), .unset] [(.int r24_1), (.int (Int32.ofNat oo))]))
  refine Go.by (fun _ k => XS.isub X17.here X17.hx rfl (X17.cd at_205) rfl k) ?_
  show Go _ _ _ _ (T17.setTop (mkF m 206 #[.val (.int i0), .val (.long i1), .second, .val (.int i2), .val (.int i3), .val (.int r_1), .val (.int r_2), .val (.int r_3), .val (.int r_4), .val (.int r_5), .val (.int (Int32.ofNat ln)), .val (.int (Int32.ofNat oo)), .val (.ref x_6), .val (.ref b7), .val (.ref pp_17), .val (.int r24_0), .val (.int r24_1), .unset] [(.int ((Int32.ofNat oo) - r24_1))]))
  refine Go.by (fun _ k => XS.istore X17.here X17.hx rfl (X17.cd at_206) rfl (l' := #[.val (.int i0), .val (.long i1), .second, .val (.int i2), .val (.int i3), .val (.int r_1), .val (.int r_2), .val (.int r_3), .val (.int r_4), .val (.int r_5), .val (.int (Int32.ofNat ln)), .val (.int (Int32.ofNat oo)), .val (.ref x_6), .val (.ref b7), .val (.ref pp_17), .val (.int r24_0), .val (.int r24_1), .val (.int ((Int32.ofNat oo) - r24_1))]) rfl k) ?_
  show Go _ _ _ _ (T17.setTop (mkF m 208 #[.val (.int i0), .val (.long i1), .second, .val (.int i2), .val (.int i3), .val (.int r_1), .val (.int r_2), .val (.int r_3), .val (.int r_4), .val (.int r_5), .val (.int (Int32.ofNat ln)), .val (.int (Int32.ofNat oo)), .val (.ref x_6), .val (.ref b7), .val (.ref pp_17), .val (.int r24_0), .val (.int r24_1), .val (.int ((Int32.ofNat oo) - r24_1))] []))
  refine Go.by (fun _ k => XS.aload X17.here X17.hx rfl (X17.cd at_208) rfl rfl k) ?_
  show Go _ _ _ _ (T17.setTop (mkF m 210 #[.val (.int i0), .val (.long i1), .second, .val (.int i2), .val (.int i3), .val (.int r_1), .val (.int r_2), .val (.int r_3), .val (.int r_4), .val (.int r_5), .val (.int (Int32.ofNat ln)), .val (.int (Int32.ofNat oo)), .val (.ref x_6), .val (.ref b7), .val (.ref pp_17), .val (.int r24_0), .val (.int r24_1), .val (.int ((Int32.ofNat oo) - r24_1))] [(.ref pp_17)]))
  obtain ⟨_, T25, h25, X25, K25, ⟨rfl, rfl⟩, st25⟩ := X17.viN (W := 0) (hw _ (List.mem_of_getElem? (i := 212) rfl)) (hw _ (List.mem_of_getElem? (i := 213) rfl)) (hw _ (List.mem_of_getElem? (i := 215) rfl)) (hw _ (List.mem_of_getElem? (i := 214) rfl)) (by decide) ((rm_gl l Z a0 hw n0 pp_17 (Int32.ofNat r_17 + (1 : Int32)) h17 X17.old P17_1).pay (hw _ (List.mem_of_getElem? (i := 216) rfl)) (hw _ (List.mem_of_getElem? (i := 198) rfl)) (by decide) (by decide)) all0 P17_0 (g := (mkF m 210 #[.val (.int i0), .val (.long i1), .second, .val (.int i2), .val (.int i3), .val (.int r_1), .val (.int r_2), .val (.int r_3), .val (.int r_4), .val (.int r_5), .val (.int (Int32.ofNat ln)), .val (.int (Int32.ofNat oo)), .val (.ref x_6), .val (.ref b7), .val (.ref pp_17), .val (.int r24_0), .val (.int r24_1), .val (.int ((Int32.ofNat oo) - r24_1))] [(.ref pp_17)])) rfl rfl (argsL := []) (rest := []) (lenOf pd_11 rfl) rfl (by exact Nat.le_of_eq rfl) at_210 rfl (by decide) (by decide)
  refine Go.tr st25 ?_
  show Go _ _ _ _ (T25.setTop (mkF m 213 #[.val (.int i0), .val (.long i1), .second, .val (.int i2), .val (.int i3), .val (.int r_1), .val (.int r_2), .val (.int r_3), .val (.int r_4), .val (.int r_5), .val (.int (Int32.ofNat ln)), .val (.int (Int32.ofNat oo)), .val (.ref x_6), .val (.ref b7), .val (.ref pp_17), .val (.int r24_0), .val (.int r24_1), .val (.int ((Int32.ofNat oo) - r24_1))] [(.int (Int32.ofNat r_17 + (1 : Int32)))]))
  refine Go.by (fun _ k => XS.iload X25.here X25.hx rfl (X25.cd at_213) rfl  k) ?_
  show Go _ _ _ _ (T25.setTop (mkF m 215 #[.val (.int i0), .val (.long i1), .second, .val (.int i2), .val (.int i3), .val (.int r_1), .val (.int r_2), .val (.int r_3), .val (.int r_4), .val (.int r_5), .val (.int (Int32.ofNat ln)), .val (.int (Int32.ofNat oo)), .val (.ref x_6), .val (.ref b7), .val (.ref pp_17), .val (.int r24_0), .val (.int r24_1), .val (.int ((Int32.ofNat oo) - r24_1))] [(.int r24_0), (.int (Int32.ofNat r_17 + (1 : Int32)))]))
  refine Go.by (fun _ k => XS.icmpNo X25.here X25.hx rfl (X25.cd at_215) rfl (XT.ii_ne_f (by rw [on_succ, e4.1, hfin.1]; rfl)) k) ?_
  show Go _ _ _ _ (T25.setTop (mkF m 218 #[.val (.int i0), .val (.long i1), .second, .val (.int i2), .val (.int i3), .val (.int r_1), .val (.int r_2), .val (.int r_3), .val (.int r_4), .val (.int r_5), .val (.int (Int32.ofNat ln)), .val (.int (Int32.ofNat oo)), .val (.ref x_6), .val (.ref b7), .val (.ref pp_17), .val (.int r24_0), .val (.int r24_1), .val (.int ((Int32.ofNat oo) - r24_1))] []))
  refine Go.by (fun _ k => XS.aload X25.here X25.hx rfl (X25.cd at_218) rfl rfl k) ?_
  show Go _ _ _ _ (T25.setTop (mkF m 220 #[.val (.int i0), .val (.long i1), .second, .val (.int i2), .val (.int i3), .val (.int r_1), .val (.int r_2), .val (.int r_3), .val (.int r_4), .val (.int r_5), .val (.int (Int32.ofNat ln)), .val (.int (Int32.ofNat oo)), .val (.ref x_6), .val (.ref b7), .val (.ref pp_17), .val (.int r24_0), .val (.int r24_1), .val (.int ((Int32.ofNat oo) - r24_1))] [(.ref pp_17)]))
  obtain ⟨_, T26, h26, X26, K26, ⟨rfl, rfl⟩, st26⟩ := X25.viN (W := 0) (hw _ (List.mem_of_getElem? (i := 217) rfl)) (hw _ (List.mem_of_getElem? (i := 218) rfl)) (hw _ (List.mem_of_getElem? (i := 220) rfl)) (hw _ (List.mem_of_getElem? (i := 219) rfl)) (by decide) ((rm_gc l Z a0 hw n0 pp_17 ((Int32.ofNat oo - Int32.ofNat (ns.getD r_17 0)) + (1 : Int32)) h17 X25.old P17_2).pay (hw _ (List.mem_of_getElem? (i := 221) rfl)) (hw _ (List.mem_of_getElem? (i := 198) rfl)) (by decide) (by decide)) all0 P17_0 (g := (mkF m 220 #[.val (.int i0), .val (.long i1), .second, .val (.int i2), .val (.int i3), .val (.int r_1), .val (.int r_2), .val (.int r_3), .val (.int r_4), .val (.int r_5), .val (.int (Int32.ofNat ln)), .val (.int (Int32.ofNat oo)), .val (.ref x_6), .val (.ref b7), .val (.ref pp_17), .val (.int r24_0), .val (.int r24_1), .val (.int ((Int32.ofNat oo) - r24_1))] [(.ref pp_17)])) rfl rfl (argsL := []) (rest := []) (lenOf pd_11 rfl) rfl (by exact Nat.le_of_eq rfl) at_220 rfl (by decide) (by decide)
  refine Go.tr st26 ?_
  show Go _ _ _ _ (T26.setTop (mkF m 223 #[.val (.int i0), .val (.long i1), .second, .val (.int i2), .val (.int i3), .val (.int r_1), .val (.int r_2), .val (.int r_3), .val (.int r_4), .val (.int r_5), .val (.int (Int32.ofNat ln)), .val (.int (Int32.ofNat oo)), .val (.ref x_6), .val (.ref b7), .val (.ref pp_17), .val (.int r24_0), .val (.int r24_1), .val (.int ((Int32.ofNat oo) - r24_1))] [(.int ((Int32.ofNat oo - Int32.ofNat (ns.getD r_17 0)) + (1 : Int32)))]))
  refine Go.by (fun _ k => XS.iload X26.here X26.hx rfl (X26.cd at_223) rfl  k) ?_
  show Go _ _ _ _ (T26.setTop (mkF m 225 #[.val (.int i0), .val (.long i1), .second, .val (.int i2), .val (.int i3), .val (.int r_1), .val (.int r_2), .val (.int r_3), .val (.int r_4), .val (.int r_5), .val (.int (Int32.ofNat ln)), .val (.int (Int32.ofNat oo)), .val (.ref x_6), .val (.ref b7), .val (.ref pp_17), .val (.int r24_0), .val (.int r24_1), .val (.int ((Int32.ofNat oo) - r24_1))] [(.int ((Int32.ofNat oo) - r24_1)), (.int ((Int32.ofNat oo - Int32.ofNat (ns.getD r_17 0)) + (1 : Int32)))]))
  refine Go.by (fun _ k => XS.icmpNo X26.here X26.hx rfl (X26.cd at_225) rfl (XT.ii_ne_f (own_col (e4.2.trans (congrArg Int32.ofNat hfin.2.symm)))) k) ?_
  show Go _ _ _ _ (T26.setTop (mkF m 228 #[.val (.int i0), .val (.long i1), .second, .val (.int i2), .val (.int i3), .val (.int r_1), .val (.int r_2), .val (.int r_3), .val (.int r_4), .val (.int r_5), .val (.int (Int32.ofNat ln)), .val (.int (Int32.ofNat oo)), .val (.ref x_6), .val (.ref b7), .val (.ref pp_17), .val (.int r24_0), .val (.int r24_1), .val (.int ((Int32.ofNat oo) - r24_1))] []))
  refine Go.by (fun _ k => XS.iconst X26.here X26.hx rfl (X26.cd at_228)  k) ?_
  show Go _ _ _ _ (T26.setTop (mkF m 229 #[.val (.int i0), .val (.long i1), .second, .val (.int i2), .val (.int i3), .val (.int r_1), .val (.int r_2), .val (.int r_3), .val (.int r_4), .val (.int r_5), .val (.int (Int32.ofNat ln)), .val (.int (Int32.ofNat oo)), .val (.ref x_6), .val (.ref b7), .val (.ref pp_17), .val (.int r24_0), .val (.int r24_1), .val (.int ((Int32.ofNat oo) - r24_1))] [(.int (1 : Int32))]))
  refine Go.by (fun _ k => XS.goto X26.here X26.hx rfl (pc0 := 229) (pc' := 233) rfl (X26.cd at_229) (by decide) (by decide) k) ?_
  show Go _ _ _ _ (T26.setTop (mkF m 233 #[.val (.int i0), .val (.long i1), .second, .val (.int i2), .val (.int i3), .val (.int r_1), .val (.int r_2), .val (.int r_3), .val (.int r_4), .val (.int r_5), .val (.int (Int32.ofNat ln)), .val (.int (Int32.ofNat oo)), .val (.ref x_6), .val (.ref b7), .val (.ref pp_17), .val (.int r24_0), .val (.int r24_1), .val (.int ((Int32.ofNat oo) - r24_1))] [(.int (1 : Int32))]))
  exact X26.retN (by simp) rfl at_233 K0_h17 rfl (by decide) (by decide)
theorem own_hasl_aux (c : Cell) : ∀ (l : List Value) (i : Nat), (∀ j, j < l.length → c.slots[i + j]? = l[j]?) → HasL c i l
  | [], _, _ => trivial
  | v :: r, i, h => ⟨by simpa using h 0 (by simp), own_hasl_aux c r (i + 1) (fun j hj => by have := h (j + 1) (by simpa using hj); rw [show i + 1 + j = i + (j + 1) by omega]; simpa using this)⟩
theorem own_hasl (c : Cell) : HasL c 0 c.slots.toList := own_hasl_aux c _ 0 (fun j hj => by rw [Nat.zero_add, Array.getElem?_toList])
theorem own_ix {s : State} {args : Array Value} {j : Int32} (nn : ¬ j < 0) : (Term.sub (Term.index 0) (Term.int 128)).eval args s none [j.toNatClampNeg] s = some (.int (j - 128)) := by
  have e : (Term.index 0).eval args s none [j.toNatClampNeg] s = some (.int j) := idx_at nn
  simp [Term.eval] at e ⊢
  simp [e]
theorem own_boxes {Z : State} {a : Addr} {c : Cell} (B : Bxs Z a c "java/lang/Integer" "I" (256 : Int32) (fun j => .int (j - 128))) (hz : c.slots.size = 256) : ∃ iv : Nat → Addr, ∀ m, m ≤ 5 → c.slots.toList.getD (m + 128) .null = .ref (iv m) ∧ Exa Z Z.heap (iv m) "java/lang/Integer" ∧ Fld Z Z.heap (iv m) "java/lang/Integer" "value" "I" (.int (Int32.ofNat m)) := by
  have h : ∀ m : Nat, ∃ b : Addr, m ≤ 5 → c.slots.toList.getD (m + 128) .null = .ref b ∧ Exa Z Z.heap b "java/lang/Integer" ∧ Fld Z Z.heap b "java/lang/Integer" "value" "I" (.int (Int32.ofNat m)) := fun m => by
    by_cases q : m ≤ 5
    · have e1 : (Int32.ofNat (m + 128)).toNatClampNeg = m + 128 := on_clamp (by omega)
      obtain ⟨b, h1, h2, h3⟩ := B.2.2.2 (Int32.ofNat (m + 128)) (fun z => z.elim (on_nn (by omega)) (fun z => by rw [e1, hz] at z; omega))
      rw [e1] at h1
      refine ⟨b, fun _ => ⟨by rw [List.getD_eq_getElem?_getD, Array.getElem?_toList, h1]; rfl, h2, ?_⟩⟩
      have e2 : Int32.ofNat (m + 128) - 128 = Int32.ofNat m := by rw [Int32.ofNat_add]; exact Int32.add_sub_cancel _ _
      rw [← e2]; exact h3
    · exact ⟨0, fun z => absurd z q⟩
  exact ⟨fun m => Classical.choose (h m), fun m hm => Classical.choose_spec (h m) hm⟩
set_option maxRecDepth 65536 in
set_option maxHeartbeats 40000000 in
theorem comes_1 {Post : Tables → Env → Array Value → State → Outcome → State → Prop} (hpost : ∀ tb e args s v u, (limb_1_1.after args s (.returned v) u = true ∧ limb_1_2.after args s (.returned v) u = true ∧ True) → ReturnedEndW s (.returned v) u (Jvm.fieldLocs frame_1_writes args s ++ Jvm.arrayLocs frame_1_arrays args s ++ Jvm.staticLocs frame_1_statics s) 32 2240 → Post tb e args s (.returned v) u) :
    ArmFor flags0 classFile x code maxLocals ret World_1 tables_1 room_1 Calls_1 rest_1 Pre_1 Post := by
  intro l hfl _ _ p e ha hc hk s m args below hf hA hF happ hP
  obtain ⟨hcalls, hrest, hpre⟩ := hP
  obtain ⟨-, -, -, hnamed, -, -, -, hat⟩ := (Spec.applies_iff hf).mp happ
  obtain ⟨hg, hn⟩ := and_e (Cond.before_iff.mp (show (Jvm.Cond.and given_1 narrow_1).before args s = true from hpre))
  obtain ⟨h1, gv0⟩ := and_e hg
  obtain ⟨gi0, gv1⟩ := and_e gv0
  obtain ⟨gi1, gv2⟩ := and_e gv1
  obtain ⟨gi2, gv3⟩ := and_e gv2
  obtain ⟨w0, w1, w2, w3, rfl⟩ : ∃ w0 w1 w2 w3 : Value, args = #[w0, w1, w2, w3] := by
    have hs : args.size = 4 := by simpa [Cond.value, given_1] using h1
    obtain ⟨L⟩ := args
    match L, hs with
    | [w0, w1, w2, w3], _ => exact ⟨w0, w1, w2, w3, rfl⟩
  have hw := fun d (hd : d ∈ tables_1) => atoms_spec (ws := Jvm.Cond.code x code maxLocals ret :: tables_1) hat d (List.mem_cons_of_mem _ hd)
  obtain ⟨hsets, hown0⟩ := atoms_of _ (rest_1_c_eq ▸ (show rest_1_c.before _ s = true from hrest))
  have hfit : Fit s := fun {y c} hc i hi => by
    obtain ⟨ha, rfl⟩ := Array.getElem?_eq_some_iff.mp hc
    have q := List.all_eq_true.mp ((Array.all_eq_true_iff_forall_mem.mp hF) _ (Array.getElem_mem ha)) i (List.mem_range.mpr hi)
    simpa [Array.getElem?_eq_getElem hi] using q
  obtain ⟨i0, e0⟩ := is_v gi0
  obtain rfl : w0 = (.int i0) := Option.some.inj e0
  obtain ⟨i1, e1⟩ := isL_v gi1
  obtain rfl : w1 = (.long i1) := Option.some.inj e1
  obtain ⟨i2, e2⟩ := is_v gi2
  obtain rfl : w2 = (.int i2) := Option.some.inj e2
  obtain ⟨i3, e3⟩ := is_v gv3
  obtain rfl : w3 = (.int i3) := Option.some.inj e3
  obtain ⟨zc, ec⟩ := is_v (Cond.before_iff.mp (hsets _ (List.mem_of_getElem? (i := 1) rfl)))
  have Sc : Sta s s.heap "java/lang/String" "COMPACT_STRINGS" "Z" (.int zc) := Sta.start ec (Or.inl (hsets _ (List.mem_of_getElem? (i := 0) rfl)))
  have nc : ¬ (zc = (0 : Int32)) := gotF (Cond.eq_ints ec (Term.int_eval (0))) (not_v (Cond.before_iff.mp (hsets _ (List.mem_of_getElem? (i := 2) rfl))))
  obtain ⟨vf, ef, rf⟩ := isR_v (Cond.before_iff.mp (hsets _ (List.mem_of_getElem? (i := 8) rfl)))
  have Sf : Sta s s.heap "jdk/internal/util/Preconditions" "SIOOBE_FORMATTER" "Ljava/util/function/BiFunction;" vf := Sta.start ef (Or.inl (hsets _ (List.mem_of_getElem? (i := 7) rfl)))
  have hcw : Jvm.Lit.compactW.before #[.int i0, .long i1, .int i2, .int i3] s = true := (hsets _ (List.mem_of_getElem? (i := 2) rfl))
  have CH0 : CHv s EL s.vm s.heap := CHv.start (own_EW hw) (fun q hq => hcalls.1 q ((by decide +kernel : ∀ q ∈ EL, q ∈ consts_1) q hq)) hcw (hw _ (List.mem_of_getElem? (i := 27) rfl)) (hw _ (List.mem_of_getElem? (i := 9) rfl))
  obtain ⟨dd, cD, eD, hD1, hD2, hD3⟩ := Jvm.Free.SB.Term.length_small (Cond.eq_int (hsets _ (List.mem_of_getElem? (i := 17) rfl)) rfl)
  obtain ⟨cE, aD⟩ := Arr.start eD (Cond.before_iff.mp (hsets _ (List.mem_of_getElem? (i := 15) rfl)))
  have hDE : cD = cE := Option.some.inj ((State.arrayAt?_spec hD1).1.symm.trans aD.1)
  subst hDE
  have Sd : Sta s s.heap "java/util/ArrayList" "DEFAULTCAPACITY_EMPTY_ELEMENTDATA" "[Ljava/lang/Object;" (.ref dd) := Sta.start eD (Or.inr ⟨(hw _ (List.mem_of_getElem? (i := 57) rfl)), (hsets _ (List.mem_of_getElem? (i := 11) rfl))⟩)
  have Ad : Arv s s.heap dd cD.cls (.object "java/lang/Object") (0 : Int32) [] .null := Arv.start hfit aD hD3 (Value.int.inj hD2).symm (by decide) rfl trivial
  have Sh : Sta s s.heap "java/lang/Integer$IntegerCache" "high" "I" (.int (127 : Int32)) := Sta.start (Cond.eq_int (hsets _ (List.mem_of_getElem? (i := 21) rfl)) rfl) (Or.inl (hsets _ (List.mem_of_getElem? (i := 19) rfl)))
  obtain ⟨cq, cQ, eQ, hQ1, hQ2, hQ3⟩ := Jvm.Free.SB.Term.length_small (Cond.eq_int (hsets _ (List.mem_of_getElem? (i := 24) rfl)) rfl)
  obtain ⟨cR, aQ⟩ := Arr.start eQ (Cond.before_iff.mp (hsets _ (List.mem_of_getElem? (i := 22) rfl)))
  have hQR : cQ = cR := Option.some.inj ((State.arrayAt?_spec hQ1).1.symm.trans aQ.1)
  subst hQR
  have Sq : Sta s s.heap "java/lang/Integer$IntegerCache" "cache" "[Ljava/lang/Integer;" (.ref cq) := Sta.start eQ (Or.inr ⟨(hw _ (List.mem_of_getElem? (i := 84) rfl)), (hsets _ (List.mem_of_getElem? (i := 20) rfl))⟩)
  have bx := Bxs.start (val := fun j => .int (j - 128)) (fun _ => eQ) aQ hQ3 (Value.int.inj hQ2).symm (by decide) (Cond.before_iff.mp (hsets _ (List.mem_of_getElem? (i := 25) rfl))) (fun X j nn hh => eqv_i (own_ix nn) hh)
  have zQ : cQ.slots.size = 256 := bx.2.1
  have Aq : Arv s s.heap cq cQ.cls (.object "java/lang/Integer") (256 : Int32) cQ.slots.toList .null := Arv.start hfit aQ hQ3 (Value.int.inj hQ2).symm (by decide) (by rw [Array.length_toList, zQ]; rfl) (own_hasl _)
  obtain ⟨iv, Hq⟩ := own_boxes bx zQ
  have M := rm_law l s _ hw s.heap.size i0 i1 i2 i3 zc vf dd cD.cls cq cQ.cls cQ.slots.toList iv s.heap (Old.start s) Sc nc Sf rf Sd Ad Sh Sq Aq Hq
  obtain ⟨n, o, h1, h2, h3, v, L, rfl, ⟨K, rfl, N⟩, -, hq⟩ := M p e ha hc hk s m _ below hf ((Spec.applies_iff_loose hf).mp happ).1 ⟨rfl, State.Warmed39.refl s, rfl, CH0, all0⟩ trivial
  exact ⟨n, _, h1, h2, h3, hpost _ _ _ _ _ _ ⟨Cond.after_iff.mpr rfl, Cond.after_iff.mpr (eq_i res_at (Term.int_eval (1)) rfl), trivial⟩ ⟨hq.1, hq.2.1, hq.2.2.1, (hq.2.2.2.sift fun y hy => Or.inr (N y hy)).mono (by decide) (by decide)⟩⟩
theorem main_1_1 : Claimed_1_1 := comes_1 fun _ _ _ _ _ _ h hF => ⟨h.1, hF⟩
theorem main_1_2 : Claimed_1_2 := comes_1 fun _ _ _ _ _ _ h hF => ⟨h.2.1, hF⟩
end Jvm.Pilot.@@N@@
namespace Jvm.Pilot.@@N@@
open Jvm Jvm.ClassFile Sem Op Lib Jvm.Free Jvm.Stand Jvm.Pilot.@@N@@.Jvm.D
/-! MADE BY PROGRAM (witnessworld.py) out of the Statement's table words and the real class files: 37 classes; the members and pool entries that the words name. The judged class is class 1, her method 3. -/
namespace start1
open Jvm.ClassFile
def u (s : String) : CpInfo := .utf8 (stringToUtf16 s)
/-- a pool by its gaps: so many unusable entries, then the entry; so many at the end -/
def gap : Nat → List CpInfo → List CpInfo
  | 0, r => r
  | n + 1, r => .unusable :: gap n r
def poolList (es : List (Nat × CpInfo)) (last : Nat) : List CpInfo := es.foldr (fun e r => gap e.1 (e.2 :: r)) (gap last [])
def pool (es : List (Nat × CpInfo)) (last : Nat) : Array CpInfo := ⟨poolList es last⟩
def fileOf (pool : Array CpInfo) (this : Nat) (attrs : Array Attribute := #[]) (ms : Array MethodInfo := #[]) (fl : Nat := 33) (sup : Nat := 0) (ifs : Array Nat := #[]) (fds : Array FieldInfo := #[]) : ClassFile where
  minorVersion := 0
  majorVersion := 65
  constantPool := pool
  accessFlags := fl
  thisClass := this
  superClass := sup
  interfaces := ifs
  fields := fds
  methods := ms
  attributes := attrs
def plain (name : String) (sup : Option ClassId) : Class where
  name := name
  kind := .ordinary
  loader := none
  accessFlags := 33
  super := sup
  interfaces := #[]
  cf := none
  fields := #[]
  methods := #[]
  instanceTypes := #[]
  staticTypes := #[]
  resolved := #[]
  callSites := []
  init := .initialized
  statics := none
  mirror := none

def pool0 : Array CpInfo := pool [(5, u "<init>"), (0, u "()V"), (1, .class_ 10), (1, u "java/lang/Object")] 113

def k0c0 : Code := { maxStack := 0, maxLocals := 1, code := object_method_1_code, exceptionTable := #[], attributes := #[] }
def k0m0 : Method := { name := "<init>", desc := "()V", sig := { parameters := [], returnType := none }, accessFlags := 1, code := some k0c0 }
/-- java/lang/Object -/
def k0 : Class := { plain "java/lang/Object" none with
  accessFlags := 33
  interfaces := #[]
  cf := some (fileOf pool0 8 #[] #[{ accessFlags := 1, nameIndex := 5, descriptorIndex := 6, attributes := #[] }] 33 0 #[] #[])
  fields := #[]
  methods := #[k0m0]
  instanceTypes := #[]
  staticTypes := #[]
  resolved := Array.replicate 124 none
  statics := none }

def pool1 : Array CpInfo := pool [(2, .class_ 4), (1, u "java/lang/Object"), (0, u "<init>"), (0, u "()V"), (0, .long 255), (1, .class_ 10), (0, u "java/lang/String"), (0, .methodref 9 12), (0, .nameAndType 5 13), (0, u "([C)V"), (0, .methodref 15 16), (0, .class_ 17), (0, .nameAndType 18 19), (0, u "com/example/cinderpath/cinderpath/source/SourceFilePositionPinLaw"), (0, u "pick"), (0, u "(IJI)C"), (0, .integer 2147483647), (0, .methodref 15 22), (0, .nameAndType 23 24), (0, u "make"), (0, u "(CCCCCI)Ljava/lang/String;"), (0, .class_ 26), (0, u "com/example/cinderpath/cinderpath/source/SourceFile"), (0, .string 28), (0, u "f"), (0, .methodref 25 30), (0, .nameAndType 5 31), (0, u "(Ljava/lang/String;Ljava/lang/String;)V"), (0, .methodref 25 33), (0, .nameAndType 34 35), (0, u "position"), (0, u "(I)Lcom/example/cinderpath/cinderpath/source/Position;"), (0, .methodref 37 38), (0, .class_ 39), (0, .nameAndType 40 41), (0, u "com/example/cinderpath/cinderpath/source/Position"), (0, u "line"), (0, u "()I"), (0, .methodref 37 43), (0, .nameAndType 44 41), (0, u "column"), (3, u "law"), (0, u "(IJII)Z")] 2

def k1m0 : Method := { name := "<init>", desc := "()V", sig := { parameters := [], returnType := none }, accessFlags := 1, code := none }
def k1c1 : Code := { maxStack := 4, maxLocals := 4, code := method_2_code, exceptionTable := #[], attributes := #[] }
def k1m1 : Method := { name := "pick", desc := "(IJI)C", sig := { parameters := [.int, .long, .int], returnType := some .char }, accessFlags := 10, code := some k1c1 }
def k1c2 : Code := { maxStack := 6, maxLocals := 6, code := method_3_code, exceptionTable := #[], attributes := #[] }
def k1m2 : Method := { name := "make", desc := "(CCCCCI)Ljava/lang/String;", sig := { parameters := [.char, .char, .char, .char, .char, .int], returnType := some (.object "java/lang/String") }, accessFlags := 10, code := some k1c2 }
def k1c3 : Code := { maxStack := 6, maxLocals := 18, code := code, exceptionTable := #[], attributes := #[] }
def k1m3 : Method := { name := "law", desc := "(IJII)Z", sig := { parameters := [.int, .long, .int, .int], returnType := some .boolean }, accessFlags := 9, code := some k1c3 }
/-- com/example/cinderpath/cinderpath/source/SourceFilePositionPinLaw -/
def k1 : Class := { plain "com/example/cinderpath/cinderpath/source/SourceFilePositionPinLaw" (some 0) with
  accessFlags := 49
  interfaces := #[]
  cf := some (fileOf pool1 15 #[] #[{ accessFlags := 1, nameIndex := 5, descriptorIndex := 6, attributes := #[] }, { accessFlags := 10, nameIndex := 18, descriptorIndex := 19, attributes := #[] }, { accessFlags := 10, nameIndex := 23, descriptorIndex := 24, attributes := #[] }, { accessFlags := 9, nameIndex := 48, descriptorIndex := 49, attributes := #[] }] 49 2 #[] #[])
  fields := #[]
  methods := #[k1m0, k1m1, k1m2, k1m3]
  instanceTypes := #[]
  staticTypes := #[]
  resolved := Array.replicate 52 none
  statics := none }

def pool2 : Array CpInfo := pool [(1, .class_ 2), (0, u "java/io/Serializable"), (0, .class_ 4), (0, u "java/lang/Object")] 2

/-- java/io/Serializable -/
def k2 : Class := { plain "java/io/Serializable" (some 0) with
  accessFlags := 1537
  interfaces := #[]
  cf := some (fileOf pool2 1 #[] #[] 1537 3 #[] #[])
  fields := #[]
  methods := #[]
  instanceTypes := #[]
  staticTypes := #[]
  resolved := Array.replicate 7 none
  statics := none }

def pool3 : Array CpInfo := pool [(1, .class_ 2), (0, u "java/lang/Comparable"), (0, .class_ 4), (0, u "java/lang/Object")] 7

/-- java/lang/Comparable -/
def k3 : Class := { plain "java/lang/Comparable" (some 0) with
  accessFlags := 1537
  interfaces := #[]
  cf := some (fileOf pool3 1 #[] #[] 1537 3 #[] #[])
  fields := #[]
  methods := #[]
  instanceTypes := #[]
  staticTypes := #[]
  resolved := Array.replicate 12 none
  statics := none }

def pool4 : Array CpInfo := pool [(2, .class_ 4), (1, u "java/lang/CharSequence"), (42, .class_ 48), (0, u "java/lang/CharSequence$1CodePointIterator"), (10, .class_ 60), (0, u "java/lang/CharSequence$1CharIterator"), (5, .class_ 67), (0, u "java/lang/Object")] 63

/-- java/lang/CharSequence -/
def k4 : Class := { plain "java/lang/CharSequence" (some 0) with
  accessFlags := 1537
  interfaces := #[]
  cf := some (fileOf pool4 2 #[.nestMembers #[47, 59]] #[] 1537 66 #[] #[])
  fields := #[]
  methods := #[]
  instanceTypes := #[]
  staticTypes := #[]
  resolved := Array.replicate 131 none
  statics := none }

def pool5 : Array CpInfo := pool [(1, .class_ 2), (0, u "java/lang/constant/Constable"), (0, .class_ 4), (0, u "java/lang/Object")] 6

/-- java/lang/constant/Constable -/
def k5 : Class := { plain "java/lang/constant/Constable" (some 0) with
  accessFlags := 1537
  interfaces := #[]
  cf := some (fileOf pool5 1 #[] #[] 1537 3 #[] #[])
  fields := #[]
  methods := #[]
  instanceTypes := #[]
  staticTypes := #[]
  resolved := Array.replicate 11 none
  statics := none }

def pool6 : Array CpInfo := pool [(1, .class_ 2), (0, u "java/lang/constant/ConstantDesc"), (0, .class_ 4), (0, u "java/lang/Object")] 32

/-- java/lang/constant/ConstantDesc -/
def k6 : Class := { plain "java/lang/constant/ConstantDesc" (some 0) with
  accessFlags := 1537
  interfaces := #[]
  cf := some (fileOf pool6 1 #[] #[] 1537 3 #[] #[])
  fields := #[]
  methods := #[]
  instanceTypes := #[]
  staticTypes := #[]
  resolved := Array.replicate 37 none
  statics := none }

def pool7 : Array CpInfo := pool [(1, .methodref 2 3), (0, .class_ 4), (0, .nameAndType 5 6), (0, u "java/lang/Object"), (0, u "<init>"), (0, u "()V"), (0, .string 8), (0, u ""), (0, .fieldref 10 11), (0, .class_ 12), (0, .nameAndType 13 14), (0, u "java/lang/String"), (0, u "value"), (0, u "[B"), (0, .fieldref 10 16), (0, .nameAndType 17 18), (0, u "coder"), (0, u "B"), (2, u "hash"), (0, u "I"), (2, u "hashIsZero"), (0, u "Z"), (0, .methodref 10 28), (0, .nameAndType 5 29), (0, u "([CIILjava/lang/Void;)V"), (8, .fieldref 10 39), (0, .nameAndType 40 26), (0, u "COMPACT_STRINGS"), (1, .class_ 44), (1, u "java/lang/StringUTF16"), (0, u "compress"), (1, .methodref 42 48), (0, .nameAndType 49 50), (0, u "coderFromArrayLen"), (0, u "([BI)B"), (56, .class_ 109), (1, u "java/lang/StringLatin1"), (32, u "()Z"), (34, .methodref 42 178), (0, .nameAndType 45 179), (0, u "([CII)[B"), (154, u "()I"), (0, .methodref 10 336), (0, .nameAndType 17 337), (0, u "()B"), (25, u "([BI)C"), (27, u "(II)V"), (35, u "(I)C"), (64, .methodref 10 493), (0, .nameAndType 494 142), (0, u "isLatin1"), (0, .methodref 107 496), (0, .nameAndType 497 363), (0, u "charAt"), (3, u "checkIndex"), (5, u "length"), (67, .class_ 576), (0, u "java/lang/CharSequence"), (22, u "CASE_INSENSITIVE_ORDER"), (0, u "Ljava/util/Comparator;"), (409, u "([C)V"), (42, .fieldref 1054 1055), (0, .class_ 1056), (0, .nameAndType 1057 1058), (0, u "jdk/internal/util/Preconditions"), (0, u "SIOOBE_FORMATTER"), (0, u "Ljava/util/function/BiFunction;"), (0, .methodref 1054 1060), (0, .nameAndType 501 1061), (0, u "(IILjava/util/function/BiFunction;)I"), (39, u "serialPersistentFields"), (0, u "[Ljava/io/ObjectStreamField;"), (0, .class_ 1104), (0, u "java/lang/String$CaseInsensitiveComparator"), (1, .class_ 1107), (0, u "java/io/Serializable"), (0, .class_ 1109), (0, u "java/lang/Comparable"), (0, .class_ 1111), (0, u "java/lang/constant/Constable"), (0, .class_ 1113), (0, u "java/lang/constant/ConstantDesc"), (2, u "serialVersionUID"), (0, u "J"), (3, u "REPL"), (0, u "C"), (2, u "LATIN1"), (1, u "UTF16")] 323

def k7m0 : Method := { name := "<init>", desc := "()V", sig := { parameters := [], returnType := none }, accessFlags := 1, code := none }
def k7c1 : Code := { maxStack := 5, maxLocals := 2, code := jdk_42_method_3_code, exceptionTable := #[], attributes := #[] }
def k7m1 : Method := { name := "<init>", desc := "([C)V", sig := { parameters := [(.array .char)], returnType := none }, accessFlags := 1, code := some k7c1 }
def k7c2 : Code := { maxStack := 2, maxLocals := 1, code := jdk_42_method_54_code, exceptionTable := #[], attributes := #[] }
def k7m2 : Method := { name := "length", desc := "()I", sig := { parameters := [], returnType := some .int }, accessFlags := 1, code := some k7c2 }
def k7c3 : Code := { maxStack := 2, maxLocals := 2, code := jdk_42_method_56_code, exceptionTable := #[], attributes := #[] }
def k7m3 : Method := { name := "charAt", desc := "(I)C", sig := { parameters := [.int], returnType := some .char }, accessFlags := 1, code := some k7c3 }
def k7c4 : Code := { maxStack := 4, maxLocals := 6, code := jdk_42_method_149_code, exceptionTable := #[], attributes := #[] }
def k7m4 : Method := { name := "<init>", desc := "([CIILjava/lang/Void;)V", sig := { parameters := [(.array .char), .int, .int, (.object "java/lang/Void")], returnType := none }, accessFlags := 2, code := some k7c4 }
def k7c5 : Code := { maxStack := 1, maxLocals := 1, code := jdk_42_method_152_code, exceptionTable := #[], attributes := #[] }
def k7m5 : Method := { name := "coder", desc := "()B", sig := { parameters := [], returnType := some .byte }, accessFlags := 0, code := some k7c5 }
def k7c6 : Code := { maxStack := 1, maxLocals := 1, code := jdk_42_method_154_code, exceptionTable := #[], attributes := #[] }
def k7m6 : Method := { name := "isLatin1", desc := "()Z", sig := { parameters := [], returnType := some .boolean }, accessFlags := 0, code := some k7c6 }
def k7c7 : Code := { maxStack := 3, maxLocals := 2, code := jdk_42_method_155_code, exceptionTable := #[], attributes := #[] }
def k7m7 : Method := { name := "checkIndex", desc := "(II)V", sig := { parameters := [.int, .int], returnType := none }, accessFlags := 8, code := some k7c7 }
/-- java/lang/String -/
def k7 : Class := { plain "java/lang/String" (some 0) with
  accessFlags := 49
  interfaces := #[2, 3, 4, 5, 6]
  cf := some (fileOf pool7 10 #[.nestMembers #[1103]] #[{ accessFlags := 1, nameIndex := 5, descriptorIndex := 6, attributes := #[] }, { accessFlags := 1, nameIndex := 5, descriptorIndex := 1010, attributes := #[] }, { accessFlags := 1, nameIndex := 507, descriptorIndex := 334, attributes := #[] }, { accessFlags := 1, nameIndex := 497, descriptorIndex := 427, attributes := #[] }, { accessFlags := 2, nameIndex := 5, descriptorIndex := 29, attributes := #[] }, { accessFlags := 0, nameIndex := 17, descriptorIndex := 337, attributes := #[] }, { accessFlags := 0, nameIndex := 494, descriptorIndex := 142, attributes := #[] }, { accessFlags := 8, nameIndex := 501, descriptorIndex := 391, attributes := #[] }] 49 2 #[1106, 1108, 575, 1110, 1112] #[{ accessFlags := 18, nameIndex := 13, descriptorIndex := 14, attributes := #[] }, { accessFlags := 18, nameIndex := 17, descriptorIndex := 18, attributes := #[] }, { accessFlags := 2, nameIndex := 21, descriptorIndex := 22, attributes := #[] }, { accessFlags := 2, nameIndex := 25, descriptorIndex := 26, attributes := #[] }, { accessFlags := 26, nameIndex := 1116, descriptorIndex := 1117, attributes := #[] }, { accessFlags := 24, nameIndex := 40, descriptorIndex := 26, attributes := #[] }, { accessFlags := 26, nameIndex := 1101, descriptorIndex := 1102, attributes := #[] }, { accessFlags := 26, nameIndex := 1121, descriptorIndex := 1122, attributes := #[] }, { accessFlags := 25, nameIndex := 599, descriptorIndex := 600, attributes := #[] }, { accessFlags := 24, nameIndex := 1125, descriptorIndex := 18, attributes := #[] }, { accessFlags := 24, nameIndex := 1127, descriptorIndex := 18, attributes := #[] }])
  fields := #[{ name := "value", type := (.array .byte), accessFlags := 18, slot := 0, constantValue := 0 }, { name := "coder", type := .byte, accessFlags := 18, slot := 1, constantValue := 0 }, { name := "hash", type := .int, accessFlags := 2, slot := 2, constantValue := 0 }, { name := "hashIsZero", type := .boolean, accessFlags := 2, slot := 3, constantValue := 0 }, { name := "serialVersionUID", type := .long, accessFlags := 26, slot := 0, constantValue := 0 }, { name := "COMPACT_STRINGS", type := .boolean, accessFlags := 24, slot := 1, constantValue := 0 }, { name := "serialPersistentFields", type := (.array (.object "java/io/ObjectStreamField")), accessFlags := 26, slot := 2, constantValue := 0 }, { name := "REPL", type := .char, accessFlags := 26, slot := 3, constantValue := 0 }, { name := "CASE_INSENSITIVE_ORDER", type := (.object "java/util/Comparator"), accessFlags := 25, slot := 4, constantValue := 0 }, { name := "LATIN1", type := .byte, accessFlags := 24, slot := 5, constantValue := 0 }, { name := "UTF16", type := .byte, accessFlags := 24, slot := 6, constantValue := 0 }]
  methods := #[k7m0, k7m1, k7m2, k7m3, k7m4, k7m5, k7m6, k7m7]
  instanceTypes := #[(.array .byte), .byte, .int, .boolean]
  staticTypes := #[.long, .boolean, (.array (.object "java/io/ObjectStreamField")), .char, (.object "java/util/Comparator"), .byte, .byte]
  resolved := Array.replicate 1451 none
  statics := some 0 }

def pool8 : Array CpInfo := pool [(6, .class_ 8), (1, u "java/lang/Object"), (0, u "<init>"), (0, u "()V"), (1, .class_ 14), (1, u "java/lang/StringUTF16"), (31, u "$assertionsDisabled"), (0, u "Z"), (13, u "HI_BYTE_SHIFT"), (0, u "I"), (2, u "LO_BYTE_SHIFT"), (49, .methodref 12 116), (0, .nameAndType 117 118), (0, u "compress"), (0, u "([CI[BII)I"), (3, u "([CII)[B"), (138, u "coderFromArrayLen"), (0, u "([BI)B"), (106, .class_ 371), (1, u "java/lang/StringUTF16$LinesSpliterator"), (58, u "MAX_LENGTH"), (196, .class_ 628), (0, u "java/lang/StringUTF16$CodePointsSpliterator"), (0, .class_ 630), (0, u "java/lang/StringUTF16$CharsSpliterator")] 4

def k8m0 : Method := { name := "<init>", desc := "()V", sig := { parameters := [], returnType := none }, accessFlags := 0, code := none }
def k8c1 : Code := { maxStack := 2, maxLocals := 2, code := jdk_52_method_15_code, exceptionTable := #[], attributes := #[] }
def k8m1 : Method := { name := "coderFromArrayLen", desc := "([BI)B", sig := { parameters := [(.array .byte), .int], returnType := some .byte }, accessFlags := 8, code := some k8c1 }
def k8c2 : Code := { maxStack := 5, maxLocals := 6, code := jdk_52_method_16_code, exceptionTable := #[], attributes := #[] }
def k8m2 : Method := { name := "compress", desc := "([CII)[B", sig := { parameters := [(.array .char), .int, .int], returnType := some (.array .byte) }, accessFlags := 9, code := some k8c2 }
def k8c3 : Code := { maxStack := 3, maxLocals := 7, code := jdk_52_method_21_code, exceptionTable := #[], attributes := #[] }
def k8m3 : Method := { name := "compress", desc := "([CI[BII)I", sig := { parameters := [(.array .char), .int, (.array .byte), .int, .int], returnType := some .int }, accessFlags := 9, code := some k8c3 }
/-- java/lang/StringUTF16 -/
def k8 : Class := { plain "java/lang/StringUTF16" (some 0) with
  accessFlags := 48
  interfaces := #[]
  cf := some (fileOf pool8 12 #[.nestMembers #[627, 629, 369]] #[{ accessFlags := 0, nameIndex := 9, descriptorIndex := 10, attributes := #[] }, { accessFlags := 8, nameIndex := 261, descriptorIndex := 262, attributes := #[] }, { accessFlags := 9, nameIndex := 117, descriptorIndex := 122, attributes := #[] }, { accessFlags := 9, nameIndex := 117, descriptorIndex := 118, attributes := #[] }] 48 6 #[] #[{ accessFlags := 26, nameIndex := 61, descriptorIndex := 62, attributes := #[] }, { accessFlags := 26, nameIndex := 65, descriptorIndex := 62, attributes := #[] }, { accessFlags := 24, nameIndex := 430, descriptorIndex := 62, attributes := #[] }, { accessFlags := 4120, nameIndex := 46, descriptorIndex := 47, attributes := #[] }])
  fields := #[{ name := "HI_BYTE_SHIFT", type := .int, accessFlags := 26, slot := 0, constantValue := 0 }, { name := "LO_BYTE_SHIFT", type := .int, accessFlags := 26, slot := 1, constantValue := 0 }, { name := "MAX_LENGTH", type := .int, accessFlags := 24, slot := 2, constantValue := 0 }, { name := "$assertionsDisabled", type := .boolean, accessFlags := 4120, slot := 3, constantValue := 0 }]
  methods := #[k8m0, k8m1, k8m2, k8m3]
  instanceTypes := #[]
  staticTypes := #[.int, .int, .int, .boolean]
  resolved := Array.replicate 635 none
  statics := none }

def pool9 : Array CpInfo := pool [(1, .methodref 2 3), (0, .class_ 4), (0, .nameAndType 5 6), (0, u "java/lang/Object"), (0, u "<init>"), (0, u "()V"), (0, .fieldref 8 9), (0, .class_ 10), (0, .nameAndType 11 12), (0, u "com/example/cinderpath/cinderpath/source/SourceFile"), (0, u "name"), (0, u "Ljava/lang/String;"), (0, .fieldref 8 14), (0, .nameAndType 15 12), (0, u "text"), (0, .methodref 8 17), (0, .nameAndType 18 19), (0, u "lineStarts"), (0, u "(Ljava/lang/String;)[I"), (0, .fieldref 8 21), (0, .nameAndType 18 22), (0, u "[I"), (0, .class_ 24), (0, u "java/lang/String"), (23, u "(Ljava/lang/String;Ljava/lang/String;)V"), (0, .class_ 50), (0, u "com/example/cinderpath/cinderpath/source/Position"), (0, .methodref 49 52), (0, .nameAndType 5 53), (0, u "(II)V"), (0, .methodref 23 55), (0, .nameAndType 56 57), (0, u "charAt"), (0, u "(I)C"), (0, .methodref 23 59), (0, .nameAndType 60 61), (0, u "length"), (0, u "()I"), (4, .class_ 67), (0, u "java/util/ArrayList"), (0, .methodref 66 3), (0, .methodref 70 71), (0, .class_ 72), (0, .nameAndType 73 74), (0, u "java/lang/Integer"), (0, u "valueOf"), (0, u "(I)Ljava/lang/Integer;"), (0, .interfaceMethodref 76 77), (0, .class_ 78), (0, .nameAndType 79 80), (0, u "java/util/List"), (0, u "add"), (0, u "(Ljava/lang/Object;)Z"), (0, .interfaceMethodref 76 82), (0, .nameAndType 83 61), (0, u "size"), (0, .interfaceMethodref 76 85), (0, .nameAndType 86 87), (0, u "get"), (0, u "(I)Ljava/lang/Object;"), (0, .methodref 70 89), (0, .nameAndType 90 61), (0, u "intValue"), (8, u "position"), (0, u "(I)Lcom/example/cinderpath/cinderpath/source/Position;")] 6

def k9c0 : Code := { maxStack := 2, maxLocals := 3, code := prog_92_method_1_code, exceptionTable := #[], attributes := #[] }
def k9m0 : Method := { name := "<init>", desc := "(Ljava/lang/String;Ljava/lang/String;)V", sig := { parameters := [(.object "java/lang/String"), (.object "java/lang/String")], returnType := none }, accessFlags := 1, code := some k9c0 }
def k9c1 : Code := { maxStack := 6, maxLocals := 5, code := prog_92_method_5_code, exceptionTable := #[], attributes := #[] }
def k9m1 : Method := { name := "position", desc := "(I)Lcom/example/cinderpath/cinderpath/source/Position;", sig := { parameters := [.int], returnType := some (.object "com/example/cinderpath/cinderpath/source/Position") }, accessFlags := 1, code := some k9c1 }
def k9c2 : Code := { maxStack := 4, maxLocals := 4, code := prog_92_method_7_code, exceptionTable := #[], attributes := #[] }
def k9m2 : Method := { name := "lineStarts", desc := "(Ljava/lang/String;)[I", sig := { parameters := [(.object "java/lang/String")], returnType := some (.array .int) }, accessFlags := 10, code := some k9c2 }
/-- com/example/cinderpath/cinderpath/source/SourceFile -/
def k9 : Class := { plain "com/example/cinderpath/cinderpath/source/SourceFile" (some 0) with
  accessFlags := 49
  interfaces := #[]
  cf := some (fileOf pool9 8 #[] #[{ accessFlags := 1, nameIndex := 5, descriptorIndex := 48, attributes := #[] }, { accessFlags := 1, nameIndex := 99, descriptorIndex := 100, attributes := #[] }, { accessFlags := 10, nameIndex := 18, descriptorIndex := 19, attributes := #[] }] 49 2 #[] #[{ accessFlags := 18, nameIndex := 11, descriptorIndex := 12, attributes := #[] }, { accessFlags := 18, nameIndex := 15, descriptorIndex := 12, attributes := #[] }, { accessFlags := 18, nameIndex := 18, descriptorIndex := 22, attributes := #[] }])
  fields := #[{ name := "name", type := (.object "java/lang/String"), accessFlags := 18, slot := 0, constantValue := 0 }, { name := "text", type := (.object "java/lang/String"), accessFlags := 18, slot := 1, constantValue := 0 }, { name := "lineStarts", type := (.array .int), accessFlags := 18, slot := 2, constantValue := 0 }]
  methods := #[k9m0, k9m1, k9m2]
  instanceTypes := #[(.object "java/lang/String"), (.object "java/lang/String"), (.array .int)]
  staticTypes := #[]
  resolved := Array.replicate 107 none
  statics := none }

def pool10 : Array CpInfo := pool [(8, .class_ 10), (1, u "java/lang/Iterable"), (24, .class_ 36), (0, u "java/lang/Object")] 25

/-- java/lang/Iterable -/
def k10 : Class := { plain "java/lang/Iterable" (some 0) with
  accessFlags := 1537
  interfaces := #[]
  cf := some (fileOf pool10 8 #[] #[] 1537 35 #[] #[])
  fields := #[]
  methods := #[]
  instanceTypes := #[]
  staticTypes := #[]
  resolved := Array.replicate 62 none
  statics := none }

def pool11 : Array CpInfo := pool [(10, .class_ 12), (1, u "java/util/Collection"), (47, .class_ 61), (0, u "java/lang/Object"), (0, .class_ 63), (0, u "java/lang/Iterable")] 51

/-- java/util/Collection -/
def k11 : Class := { plain "java/util/Collection" (some 0) with
  accessFlags := 1537
  interfaces := #[10]
  cf := some (fileOf pool11 10 #[] #[] 1537 60 #[62] #[])
  fields := #[]
  methods := #[]
  instanceTypes := #[]
  staticTypes := #[]
  resolved := Array.replicate 115 none
  statics := none }

def pool12 : Array CpInfo := pool [(1, .methodref 2 3), (0, .class_ 4), (0, .nameAndType 5 6), (0, u "java/lang/Object"), (0, u "<init>"), (0, u "()V"), (1, .class_ 10), (1, u "java/util/AbstractCollection"), (66, .class_ 78), (0, u "java/util/Collection")] 81

def k12c0 : Code := { maxStack := 1, maxLocals := 1, code := jdk_22_method_1_code, exceptionTable := #[], attributes := #[] }
def k12m0 : Method := { name := "<init>", desc := "()V", sig := { parameters := [], returnType := none }, accessFlags := 4, code := some k12c0 }
/-- java/util/AbstractCollection -/
def k12 : Class := { plain "java/util/AbstractCollection" (some 0) with
  accessFlags := 1057
  interfaces := #[11]
  cf := some (fileOf pool12 8 #[] #[{ accessFlags := 4, nameIndex := 5, descriptorIndex := 6, attributes := #[] }] 1057 2 #[77] #[])
  fields := #[]
  methods := #[k12m0]
  instanceTypes := #[]
  staticTypes := #[]
  resolved := Array.replicate 160 none
  statics := none }

def pool13 : Array CpInfo := pool [(8, .class_ 10), (1, u "java/util/SequencedCollection"), (15, .class_ 27), (0, u "java/lang/Object"), (0, .class_ 29), (0, u "java/util/Collection")] 27

/-- java/util/SequencedCollection -/
def k13 : Class := { plain "java/util/SequencedCollection" (some 0) with
  accessFlags := 1537
  interfaces := #[11]
  cf := some (fileOf pool13 8 #[] #[] 1537 26 #[28] #[])
  fields := #[]
  methods := #[]
  instanceTypes := #[]
  staticTypes := #[]
  resolved := Array.replicate 57 none
  statics := none }

def pool14 : Array CpInfo := pool [(8, .class_ 10), (1, u "java/util/List"), (49, u "add"), (3, u "(Ljava/lang/Object;)Z"), (10, u "get"), (0, u "(I)Ljava/lang/Object;"), (2, u "size"), (0, u "()I"), (22, .class_ 104), (0, u "java/lang/Object"), (15, .class_ 121), (0, u "java/util/SequencedCollection")] 129

def k14m0 : Method := { name := "size", desc := "()I", sig := { parameters := [], returnType := some .int }, accessFlags := 1025, code := none }
def k14m1 : Method := { name := "add", desc := "(Ljava/lang/Object;)Z", sig := { parameters := [(.object "java/lang/Object")], returnType := some .boolean }, accessFlags := 1025, code := none }
def k14m2 : Method := { name := "get", desc := "(I)Ljava/lang/Object;", sig := { parameters := [.int], returnType := some (.object "java/lang/Object") }, accessFlags := 1025, code := none }
/-- java/util/List -/
def k14 : Class := { plain "java/util/List" (some 0) with
  accessFlags := 1537
  interfaces := #[13]
  cf := some (fileOf pool14 8 #[] #[{ accessFlags := 1025, nameIndex := 79, descriptorIndex := 80, attributes := #[] }, { accessFlags := 1025, nameIndex := 60, descriptorIndex := 64, attributes := #[] }, { accessFlags := 1025, nameIndex := 75, descriptorIndex := 76, attributes := #[] }] 1537 103 #[120] #[])
  fields := #[]
  methods := #[k14m0, k14m1, k14m2]
  instanceTypes := #[]
  staticTypes := #[]
  resolved := Array.replicate 251 none
  statics := none }

def pool15 : Array CpInfo := pool [(1, .methodref 2 3), (0, .class_ 4), (0, .nameAndType 5 6), (0, u "java/util/AbstractCollection"), (0, u "<init>"), (0, u "()V"), (0, .fieldref 8 9), (0, .class_ 10), (0, .nameAndType 11 12), (0, u "java/util/AbstractList"), (0, u "modCount"), (0, u "I"), (64, .class_ 78), (0, u "java/util/AbstractList$Itr"), (3, .class_ 83), (0, u "java/util/AbstractList$ListItr"), (9, .class_ 94), (0, u "java/util/AbstractList$RandomAccessSubList"), (3, .class_ 99), (0, u "java/util/AbstractList$SubList"), (33, .class_ 134), (0, u "java/util/List"), (73, .class_ 209), (0, u "java/util/AbstractList$SubList$1"), (0, .class_ 211), (0, u "java/util/AbstractList$RandomAccessSpliterator")] 6

def k15c0 : Code := { maxStack := 2, maxLocals := 1, code := jdk_39_method_1_code, exceptionTable := #[], attributes := #[] }
def k15m0 : Method := { name := "<init>", desc := "()V", sig := { parameters := [], returnType := none }, accessFlags := 4, code := some k15c0 }
/-- java/util/AbstractList -/
def k15 : Class := { plain "java/util/AbstractList" (some 12) with
  accessFlags := 1057
  interfaces := #[14]
  cf := some (fileOf pool15 8 #[.nestMembers #[93, 98, 208, 210, 82, 77]] #[{ accessFlags := 4, nameIndex := 5, descriptorIndex := 6, attributes := #[] }] 1057 2 #[133] #[{ accessFlags := 132, nameIndex := 11, descriptorIndex := 12, attributes := #[] }])
  fields := #[{ name := "modCount", type := .int, accessFlags := 132, slot := 0, constantValue := 0 }]
  methods := #[k15m0]
  instanceTypes := #[.int]
  staticTypes := #[]
  resolved := Array.replicate 218 none
  statics := none }

def pool16 : Array CpInfo := pool [(1, .class_ 2), (0, u "java/util/RandomAccess"), (0, .class_ 4), (0, u "java/lang/Object")] 2

/-- java/util/RandomAccess -/
def k16 : Class := { plain "java/util/RandomAccess" (some 0) with
  accessFlags := 1537
  interfaces := #[]
  cf := some (fileOf pool16 1 #[] #[] 1537 3 #[] #[])
  fields := #[]
  methods := #[]
  instanceTypes := #[]
  staticTypes := #[]
  resolved := Array.replicate 7 none
  statics := none }

def pool17 : Array CpInfo := pool [(1, .class_ 2), (0, u "java/lang/Cloneable"), (0, .class_ 4), (0, u "java/lang/Object")] 2

/-- java/lang/Cloneable -/
def k17 : Class := { plain "java/lang/Cloneable" (some 0) with
  accessFlags := 1537
  interfaces := #[]
  cf := some (fileOf pool17 1 #[] #[] 1537 3 #[] #[])
  fields := #[]
  methods := #[]
  instanceTypes := #[]
  staticTypes := #[]
  resolved := Array.replicate 7 none
  statics := none }

def pool18 : Array CpInfo := pool [(1, .methodref 2 3), (0, .class_ 4), (0, .nameAndType 5 6), (0, u "java/util/AbstractList"), (0, u "<init>"), (0, u "()V"), (0, .class_ 8), (0, u "java/lang/Object"), (0, .fieldref 10 11), (0, .class_ 12), (0, .nameAndType 13 14), (0, u "java/util/ArrayList"), (0, u "elementData"), (0, u "[Ljava/lang/Object;"), (2, u "EMPTY_ELEMENTDATA"), (21, .fieldref 10 40), (0, .nameAndType 41 14), (0, u "DEFAULTCAPACITY_EMPTY_ELEMENTDATA"), (5, u "()[Ljava/lang/Object;"), (0, .fieldref 10 49), (0, .nameAndType 50 51), (0, u "size"), (0, u "I"), (11, .fieldref 10 64), (0, .nameAndType 65 51), (0, u "modCount"), (3, .methodref 10 70), (0, .nameAndType 71 72), (0, u "grow"), (0, u "(I)[Ljava/lang/Object;"), (6, .methodref 80 81), (0, .class_ 82), (0, .nameAndType 83 84), (0, u "java/lang/Math"), (0, u "max"), (0, u "(II)I"), (11, u "(Ljava/lang/Object;)Z"), (21, .methodref 119 120), (0, .class_ 121), (0, .nameAndType 122 84), (0, u "java/util/Objects"), (0, u "checkIndex"), (0, .methodref 10 124), (0, .nameAndType 13 125), (0, u "(I)Ljava/lang/Object;"), (3, .methodref 10 130), (0, .nameAndType 71 47), (0, .methodref 10 132), (0, .nameAndType 133 134), (0, u "add"), (0, u "(Ljava/lang/Object;[Ljava/lang/Object;I)V"), (13, .class_ 149), (0, u "java/util/List"), (36, u "()I"), (75, .class_ 263), (0, u "java/util/ArrayList$ListItr"), (3, .class_ 268), (0, u "java/util/ArrayList$Itr"), (7, .class_ 277), (0, u "java/util/ArrayList$SubList"), (12, .class_ 291), (0, u "java/util/ArrayList$ArrayListSpliterator"), (37, .class_ 330), (0, u "java/util/RandomAccess"), (0, .class_ 332), (0, u "java/lang/Cloneable"), (0, .class_ 334), (0, u "java/io/Serializable"), (0, u "serialVersionUID"), (0, u "J"), (3, u "DEFAULT_CAPACITY"), (40, u "get"), (118, .class_ 501), (0, u "java/util/ArrayList$SubList$2"), (0, .class_ 503), (0, u "java/util/ArrayList$SubList$1")] 5

def k18c0 : Code := { maxStack := 2, maxLocals := 1, code := jdk_38_method_2_code, exceptionTable := #[], attributes := #[] }
def k18m0 : Method := { name := "<init>", desc := "()V", sig := { parameters := [], returnType := none }, accessFlags := 1, code := some k18c0 }
def k18c1 : Code := { maxStack := 4, maxLocals := 4, code := jdk_38_method_6_code, exceptionTable := #[], attributes := #[] }
def k18m1 : Method := { name := "grow", desc := "(I)[Ljava/lang/Object;", sig := { parameters := [.int], returnType := some (.array (.object "java/lang/Object")) }, accessFlags := 2, code := some k18c1 }
def k18c2 : Code := { maxStack := 3, maxLocals := 1, code := jdk_38_method_7_code, exceptionTable := #[], attributes := #[] }
def k18m2 : Method := { name := "grow", desc := "()[Ljava/lang/Object;", sig := { parameters := [], returnType := some (.array (.object "java/lang/Object")) }, accessFlags := 2, code := some k18c2 }
def k18c3 : Code := { maxStack := 1, maxLocals := 1, code := jdk_38_method_8_code, exceptionTable := #[], attributes := #[] }
def k18m3 : Method := { name := "size", desc := "()I", sig := { parameters := [], returnType := some .int }, accessFlags := 1, code := some k18c3 }
def k18c4 : Code := { maxStack := 2, maxLocals := 2, code := jdk_38_method_18_code, exceptionTable := #[], attributes := #[] }
def k18m4 : Method := { name := "elementData", desc := "(I)Ljava/lang/Object;", sig := { parameters := [.int], returnType := some (.object "java/lang/Object") }, accessFlags := 0, code := some k18c4 }
def k18c5 : Code := { maxStack := 2, maxLocals := 2, code := jdk_38_method_20_code, exceptionTable := #[], attributes := #[] }
def k18m5 : Method := { name := "get", desc := "(I)Ljava/lang/Object;", sig := { parameters := [.int], returnType := some (.object "java/lang/Object") }, accessFlags := 1, code := some k18c5 }
def k18c6 : Code := { maxStack := 3, maxLocals := 4, code := jdk_38_method_24_code, exceptionTable := #[], attributes := #[] }
def k18m6 : Method := { name := "add", desc := "(Ljava/lang/Object;[Ljava/lang/Object;I)V", sig := { parameters := [(.object "java/lang/Object"), (.array (.object "java/lang/Object")), .int], returnType := none }, accessFlags := 2, code := some k18c6 }
def k18c7 : Code := { maxStack := 4, maxLocals := 2, code := jdk_38_method_25_code, exceptionTable := #[], attributes := #[] }
def k18m7 : Method := { name := "add", desc := "(Ljava/lang/Object;)Z", sig := { parameters := [(.object "java/lang/Object")], returnType := some .boolean }, accessFlags := 1, code := some k18c7 }
/-- java/util/ArrayList -/
def k18 : Class := { plain "java/util/ArrayList" (some 15) with
  accessFlags := 33
  interfaces := #[14, 16, 17, 2]
  cf := some (fileOf pool18 10 #[.nestMembers #[290, 276, 500, 502, 262, 267]] #[{ accessFlags := 1, nameIndex := 5, descriptorIndex := 6, attributes := #[] }, { accessFlags := 2, nameIndex := 71, descriptorIndex := 72, attributes := #[] }, { accessFlags := 2, nameIndex := 71, descriptorIndex := 47, attributes := #[] }, { accessFlags := 1, nameIndex := 50, descriptorIndex := 186, attributes := #[] }, { accessFlags := 0, nameIndex := 13, descriptorIndex := 125, attributes := #[] }, { accessFlags := 1, nameIndex := 381, descriptorIndex := 125, attributes := #[] }, { accessFlags := 2, nameIndex := 133, descriptorIndex := 134, attributes := #[] }, { accessFlags := 1, nameIndex := 133, descriptorIndex := 96, attributes := #[] }] 33 2 #[148, 329, 331, 333] #[{ accessFlags := 26, nameIndex := 335, descriptorIndex := 336, attributes := #[] }, { accessFlags := 26, nameIndex := 340, descriptorIndex := 51, attributes := #[] }, { accessFlags := 26, nameIndex := 17, descriptorIndex := 14, attributes := #[] }, { accessFlags := 26, nameIndex := 41, descriptorIndex := 14, attributes := #[] }, { accessFlags := 128, nameIndex := 13, descriptorIndex := 14, attributes := #[] }, { accessFlags := 2, nameIndex := 50, descriptorIndex := 51, attributes := #[] }])
  fields := #[{ name := "serialVersionUID", type := .long, accessFlags := 26, slot := 0, constantValue := 0 }, { name := "DEFAULT_CAPACITY", type := .int, accessFlags := 26, slot := 1, constantValue := 0 }, { name := "EMPTY_ELEMENTDATA", type := (.array (.object "java/lang/Object")), accessFlags := 26, slot := 2, constantValue := 0 }, { name := "DEFAULTCAPACITY_EMPTY_ELEMENTDATA", type := (.array (.object "java/lang/Object")), accessFlags := 26, slot := 3, constantValue := 0 }, { name := "elementData", type := (.array (.object "java/lang/Object")), accessFlags := 128, slot := 1, constantValue := 0 }, { name := "size", type := .int, accessFlags := 2, slot := 2, constantValue := 0 }]
  methods := #[k18m0, k18m1, k18m2, k18m3, k18m4, k18m5, k18m6, k18m7]
  instanceTypes := #[.int, (.array (.object "java/lang/Object")), .int]
  staticTypes := #[.long, .int, (.array (.object "java/lang/Object")), (.array (.object "java/lang/Object"))]
  resolved := Array.replicate 509 none
  statics := some 1 }

def pool19 : Array CpInfo := pool [(2, .class_ 4), (1, u "java/lang/Object"), (0, u "<init>"), (0, u "()V"), (1, .class_ 10), (1, u "java/lang/Number"), (2, .class_ 14), (0, u "java/io/Serializable"), (0, u "serialVersionUID"), (0, u "J")] 20

def k19m0 : Method := { name := "<init>", desc := "()V", sig := { parameters := [], returnType := none }, accessFlags := 1, code := none }
/-- java/lang/Number -/
def k19 : Class := { plain "java/lang/Number" (some 0) with
  accessFlags := 1057
  interfaces := #[2]
  cf := some (fileOf pool19 8 #[] #[{ accessFlags := 1, nameIndex := 5, descriptorIndex := 6, attributes := #[] }] 1057 2 #[13] #[{ accessFlags := 26, nameIndex := 15, descriptorIndex := 16, attributes := #[] }])
  fields := #[{ name := "serialVersionUID", type := .long, accessFlags := 26, slot := 0, constantValue := 0 }]
  methods := #[k19m0]
  instanceTypes := #[]
  staticTypes := #[.long]
  resolved := Array.replicate 37 none
  statics := none }

def pool20 : Array CpInfo := pool [(1, .class_ 2), (0, u "java/lang/Integer"), (16, u "digits"), (0, u "[C"), (64, u "DigitOnes"), (0, u "[B"), (2, u "DigitTens"), (31, u "()I"), (65, u "valueOf"), (0, u "(I)Ljava/lang/Integer;"), (0, .class_ 190), (0, u "java/lang/Integer$IntegerCache"), (0, .fieldref 189 192), (0, .nameAndType 193 194), (0, u "high"), (0, u "I"), (0, .fieldref 189 196), (0, .nameAndType 197 198), (0, u "cache"), (0, u "[Ljava/lang/Integer;"), (4, .class_ 204), (0, u "java/lang/Number"), (0, .fieldref 1 206), (0, .nameAndType 207 194), (0, u "value"), (5, u "intValue"), (88, u "TYPE"), (0, u "Ljava/lang/Class;"), (0, .class_ 305), (0, u "java/lang/Comparable"), (0, .class_ 307), (0, u "java/lang/constant/Constable"), (0, .class_ 309), (0, u "java/lang/constant/ConstantDesc"), (0, u "MIN_VALUE"), (1, u "MAX_VALUE"), (3, u "SIZE"), (1, u "BYTES"), (1, u "serialVersionUID"), (0, u "J")] 131

def k20c0 : Code := { maxStack := 3, maxLocals := 1, code := jdk_33_method_22_code, exceptionTable := #[], attributes := #[] }
def k20m0 : Method := { name := "valueOf", desc := "(I)Ljava/lang/Integer;", sig := { parameters := [.int], returnType := some (.object "java/lang/Integer") }, accessFlags := 9, code := some k20c0 }
def k20c1 : Code := { maxStack := 1, maxLocals := 1, code := jdk_33_method_27_code, exceptionTable := #[], attributes := #[] }
def k20m1 : Method := { name := "intValue", desc := "()I", sig := { parameters := [], returnType := some .int }, accessFlags := 1, code := some k20c1 }
/-- java/lang/Integer -/
def k20 : Class := { plain "java/lang/Integer" (some 19) with
  accessFlags := 49
  interfaces := #[3, 5, 6]
  cf := some (fileOf pool20 1 #[.nestMembers #[189]] #[{ accessFlags := 9, nameIndex := 187, descriptorIndex := 188, attributes := #[] }, { accessFlags := 1, nameIndex := 213, descriptorIndex := 121, attributes := #[] }] 49 203 #[304, 306, 308] #[{ accessFlags := 25, nameIndex := 310, descriptorIndex := 194, attributes := #[] }, { accessFlags := 25, nameIndex := 312, descriptorIndex := 194, attributes := #[] }, { accessFlags := 25, nameIndex := 302, descriptorIndex := 303, attributes := #[] }, { accessFlags := 24, nameIndex := 19, descriptorIndex := 20, attributes := #[] }, { accessFlags := 24, nameIndex := 89, descriptorIndex := 86, attributes := #[] }, { accessFlags := 24, nameIndex := 85, descriptorIndex := 86, attributes := #[] }, { accessFlags := 18, nameIndex := 207, descriptorIndex := 194, attributes := #[] }, { accessFlags := 25, nameIndex := 316, descriptorIndex := 194, attributes := #[] }, { accessFlags := 25, nameIndex := 318, descriptorIndex := 194, attributes := #[] }, { accessFlags := 26, nameIndex := 320, descriptorIndex := 321, attributes := #[] }])
  fields := #[{ name := "MIN_VALUE", type := .int, accessFlags := 25, slot := 0, constantValue := 0 }, { name := "MAX_VALUE", type := .int, accessFlags := 25, slot := 1, constantValue := 0 }, { name := "TYPE", type := (.object "java/lang/Class"), accessFlags := 25, slot := 2, constantValue := 0 }, { name := "digits", type := (.array .char), accessFlags := 24, slot := 3, constantValue := 0 }, { name := "DigitTens", type := (.array .byte), accessFlags := 24, slot := 4, constantValue := 0 }, { name := "DigitOnes", type := (.array .byte), accessFlags := 24, slot := 5, constantValue := 0 }, { name := "value", type := .int, accessFlags := 18, slot := 0, constantValue := 0 }, { name := "SIZE", type := .int, accessFlags := 25, slot := 6, constantValue := 0 }, { name := "BYTES", type := .int, accessFlags := 25, slot := 7, constantValue := 0 }, { name := "serialVersionUID", type := .long, accessFlags := 26, slot := 8, constantValue := 0 }]
  methods := #[k20m0, k20m1]
  instanceTypes := #[.int]
  staticTypes := #[.int, .int, (.object "java/lang/Class"), (.array .char), (.array .byte), (.array .byte), .int, .int, .long]
  resolved := Array.replicate 453 none
  statics := none }

def pool21 : Array CpInfo := pool [(2, .class_ 4), (1, u "java/lang/Object"), (0, u "<init>"), (0, u "()V"), (0, .class_ 8), (0, u "java/lang/Integer"), (7, .class_ 18), (1, u "java/lang/Integer$IntegerCache"), (0, u "$assertionsDisabled"), (0, u "Z"), (26, u "high"), (0, u "I"), (8, u "archivedCache"), (0, u "[Ljava/lang/Integer;"), (12, u "cache"), (0, u "low")] 27

def k21m0 : Method := { name := "<init>", desc := "()V", sig := { parameters := [], returnType := none }, accessFlags := 2, code := none }
/-- java/lang/Integer$IntegerCache -/
def k21 : Class := { plain "java/lang/Integer$IntegerCache" (some 0) with
  accessFlags := 48
  interfaces := #[]
  cf := some (fileOf pool21 16 #[.nestHost 7] #[{ accessFlags := 2, nameIndex := 5, descriptorIndex := 6, attributes := #[] }] 48 2 #[] #[{ accessFlags := 24, nameIndex := 72, descriptorIndex := 48, attributes := #[] }, { accessFlags := 24, nameIndex := 47, descriptorIndex := 48, attributes := #[] }, { accessFlags := 24, nameIndex := 71, descriptorIndex := 58, attributes := #[] }, { accessFlags := 8, nameIndex := 57, descriptorIndex := 58, attributes := #[] }, { accessFlags := 4120, nameIndex := 19, descriptorIndex := 20, attributes := #[] }])
  fields := #[{ name := "low", type := .int, accessFlags := 24, slot := 0, constantValue := 0 }, { name := "high", type := .int, accessFlags := 24, slot := 1, constantValue := 0 }, { name := "cache", type := (.array (.object "java/lang/Integer")), accessFlags := 24, slot := 2, constantValue := 0 }, { name := "archivedCache", type := (.array (.object "java/lang/Integer")), accessFlags := 8, slot := 3, constantValue := 0 }, { name := "$assertionsDisabled", type := .boolean, accessFlags := 4120, slot := 4, constantValue := 0 }]
  methods := #[k21m0]
  instanceTypes := #[]
  staticTypes := #[.int, .int, (.array (.object "java/lang/Integer")), (.array (.object "java/lang/Integer")), .boolean]
  resolved := Array.replicate 100 none
  statics := some 2 }

def pool22 : Array CpInfo := pool [(1, .class_ 2), (0, u "java/lang/Math"), (1, .class_ 6), (1, u "java/lang/Object"), (0, u "<init>"), (0, u "()V"), (89, .class_ 100), (1, u "java/lang/Math$RandomNumberGeneratorHolder"), (71, u "negativeZeroFloatBits"), (0, u "J"), (2, u "negativeZeroDoubleBits"), (21, u "max"), (46, u "$assertionsDisabled"), (0, u "Z"), (88, u "(II)I"), (2, u "twoToTheDoubleScaleDown"), (0, u "D"), (4, u "twoToTheDoubleScaleUp"), (9, u "E"), (3, u "PI"), (2, u "TAU"), (2, u "DEGREES_TO_RADIANS"), (0, u "RADIANS_TO_DEGREES")] 94

def k22m0 : Method := { name := "<init>", desc := "()V", sig := { parameters := [], returnType := none }, accessFlags := 2, code := none }
def k22c1 : Code := { maxStack := 2, maxLocals := 2, code := jdk_29_method_65_code, exceptionTable := #[], attributes := #[] }
def k22m1 : Method := { name := "max", desc := "(II)I", sig := { parameters := [.int, .int], returnType := some .int }, accessFlags := 9, code := some k22c1 }
/-- java/lang/Math -/
def k22 : Class := { plain "java/lang/Math" (some 0) with
  accessFlags := 49
  interfaces := #[]
  cf := some (fileOf pool22 1 #[.nestMembers #[98]] #[{ accessFlags := 2, nameIndex := 7, descriptorIndex := 8, attributes := #[] }, { accessFlags := 9, nameIndex := 198, descriptorIndex := 335, attributes := #[] }] 49 4 #[] #[{ accessFlags := 25, nameIndex := 354, descriptorIndex := 339, attributes := #[] }, { accessFlags := 25, nameIndex := 358, descriptorIndex := 339, attributes := #[] }, { accessFlags := 25, nameIndex := 361, descriptorIndex := 339, attributes := #[] }, { accessFlags := 26, nameIndex := 364, descriptorIndex := 339, attributes := #[] }, { accessFlags := 26, nameIndex := 365, descriptorIndex := 339, attributes := #[] }, { accessFlags := 26, nameIndex := 172, descriptorIndex := 173, attributes := #[] }, { accessFlags := 26, nameIndex := 176, descriptorIndex := 173, attributes := #[] }, { accessFlags := 8, nameIndex := 344, descriptorIndex := 339, attributes := #[] }, { accessFlags := 8, nameIndex := 338, descriptorIndex := 339, attributes := #[] }, { accessFlags := 4120, nameIndex := 245, descriptorIndex := 246, attributes := #[] }])
  fields := #[{ name := "E", type := .double, accessFlags := 25, slot := 0, constantValue := 0 }, { name := "PI", type := .double, accessFlags := 25, slot := 1, constantValue := 0 }, { name := "TAU", type := .double, accessFlags := 25, slot := 2, constantValue := 0 }, { name := "DEGREES_TO_RADIANS", type := .double, accessFlags := 26, slot := 3, constantValue := 0 }, { name := "RADIANS_TO_DEGREES", type := .double, accessFlags := 26, slot := 4, constantValue := 0 }, { name := "negativeZeroFloatBits", type := .long, accessFlags := 26, slot := 5, constantValue := 0 }, { name := "negativeZeroDoubleBits", type := .long, accessFlags := 26, slot := 6, constantValue := 0 }, { name := "twoToTheDoubleScaleUp", type := .double, accessFlags := 8, slot := 7, constantValue := 0 }, { name := "twoToTheDoubleScaleDown", type := .double, accessFlags := 8, slot := 8, constantValue := 0 }, { name := "$assertionsDisabled", type := .boolean, accessFlags := 4120, slot := 9, constantValue := 0 }]
  methods := #[k22m0, k22m1]
  instanceTypes := #[]
  staticTypes := #[.double, .double, .double, .double, .double, .long, .long, .double, .double, .boolean]
  resolved := Array.replicate 460 none
  statics := none }

def pool23 : Array CpInfo := pool [(1, .class_ 2), (0, u "java/lang/String"), (1, .class_ 6), (1, u "java/lang/Object"), (0, u "<init>"), (0, u "()V"), (0, .methodref 1 10), (0, .nameAndType 11 12), (0, u "checkIndex"), (0, u "(II)V"), (1, .class_ 16), (1, u "java/lang/StringLatin1"), (36, u "([BI)C"), (67, u "$assertionsDisabled"), (0, u "Z"), (98, .class_ 223), (1, u "java/lang/StringLatin1$LinesSpliterator"), (28, u "charAt"), (137, .class_ 391), (0, u "java/lang/StringLatin1$CharsSpliterator")] 3

def k23m0 : Method := { name := "<init>", desc := "()V", sig := { parameters := [], returnType := none }, accessFlags := 0, code := none }
def k23c1 : Code := { maxStack := 2, maxLocals := 2, code := jdk_43_method_2_code, exceptionTable := #[], attributes := #[] }
def k23m1 : Method := { name := "charAt", desc := "([BI)C", sig := { parameters := [(.array .byte), .int], returnType := some .char }, accessFlags := 9, code := some k23c1 }
/-- java/lang/StringLatin1 -/
def k23 : Class := { plain "java/lang/StringLatin1" (some 0) with
  accessFlags := 48
  interfaces := #[]
  cf := some (fileOf pool23 14 #[.nestMembers #[390, 221]] #[{ accessFlags := 0, nameIndex := 7, descriptorIndex := 8, attributes := #[] }, { accessFlags := 9, nameIndex := 252, descriptorIndex := 53, attributes := #[] }] 48 4 #[] #[{ accessFlags := 4120, nameIndex := 121, descriptorIndex := 122, attributes := #[] }])
  fields := #[{ name := "$assertionsDisabled", type := .boolean, accessFlags := 4120, slot := 0, constantValue := 0 }]
  methods := #[k23m0, k23m1]
  instanceTypes := #[]
  staticTypes := #[.boolean]
  resolved := Array.replicate 395 none
  statics := none }

def pool24 : Array CpInfo := pool [(2, .class_ 4), (1, u "java/lang/Object"), (0, u "<init>"), (0, u "()V"), (17, .class_ 26), (1, u "jdk/internal/util/Preconditions"), (6, u "checkIndex"), (21, .class_ 56), (0, u "jdk/internal/util/Preconditions$4"), (57, .class_ 115), (0, u "jdk/internal/util/Preconditions$1"), (7, u "SIOOBE_FORMATTER"), (0, u "Ljava/util/function/BiFunction;"), (0, .class_ 126), (0, u "jdk/internal/util/Preconditions$2"), (3, u "AIOOBE_FORMATTER"), (0, .class_ 132), (0, u "jdk/internal/util/Preconditions$3"), (3, u "IOOBE_FORMATTER"), (41, u "(IILjava/util/function/BiFunction;)I")] 15

def k24m0 : Method := { name := "<init>", desc := "()V", sig := { parameters := [], returnType := none }, accessFlags := 1, code := none }
def k24c1 : Code := { maxStack := 3, maxLocals := 3, code := jdk_41_method_11_code, exceptionTable := #[], attributes := #[] }
def k24m1 : Method := { name := "checkIndex", desc := "(IILjava/util/function/BiFunction;)I", sig := { parameters := [.int, .int, (.object "java/util/function/BiFunction")], returnType := some .int }, accessFlags := 9, code := some k24c1 }
/-- jdk/internal/util/Preconditions -/
def k24 : Class := { plain "jdk/internal/util/Preconditions" (some 0) with
  accessFlags := 33
  interfaces := #[]
  cf := some (fileOf pool24 24 #[.nestMembers #[55, 131, 125, 114]] #[{ accessFlags := 1, nameIndex := 5, descriptorIndex := 6, attributes := #[] }, { accessFlags := 9, nameIndex := 33, descriptorIndex := 178, attributes := #[] }] 33 2 #[] #[{ accessFlags := 25, nameIndex := 123, descriptorIndex := 124, attributes := #[] }, { accessFlags := 25, nameIndex := 130, descriptorIndex := 124, attributes := #[] }, { accessFlags := 25, nameIndex := 136, descriptorIndex := 124, attributes := #[] }])
  fields := #[{ name := "SIOOBE_FORMATTER", type := (.object "java/util/function/BiFunction"), accessFlags := 25, slot := 0, constantValue := 0 }, { name := "AIOOBE_FORMATTER", type := (.object "java/util/function/BiFunction"), accessFlags := 25, slot := 1, constantValue := 0 }, { name := "IOOBE_FORMATTER", type := (.object "java/util/function/BiFunction"), accessFlags := 25, slot := 2, constantValue := 0 }]
  methods := #[k24m0, k24m1]
  instanceTypes := #[]
  staticTypes := #[(.object "java/util/function/BiFunction"), (.object "java/util/function/BiFunction"), (.object "java/util/function/BiFunction")]
  resolved := Array.replicate 194 none
  statics := some 3 }

def pool25 : Array CpInfo := pool [(2, .class_ 4), (1, u "java/lang/Object"), (0, u "<init>"), (0, u "()V"), (35, .class_ 44), (1, u "java/util/Objects"), (60, .methodref 106 107), (0, .class_ 108), (0, .nameAndType 109 110), (0, u "jdk/internal/util/Preconditions"), (0, u "checkIndex"), (0, u "(IILjava/util/function/BiFunction;)I"), (60, u "(II)I")] 12

def k25m0 : Method := { name := "<init>", desc := "()V", sig := { parameters := [], returnType := none }, accessFlags := 2, code := none }
def k25c1 : Code := { maxStack := 3, maxLocals := 2, code := jdk_31_method_17_code, exceptionTable := #[], attributes := #[] }
def k25m1 : Method := { name := "checkIndex", desc := "(II)I", sig := { parameters := [.int, .int], returnType := some .int }, accessFlags := 9, code := some k25c1 }
/-- java/util/Objects -/
def k25 : Class := { plain "java/util/Objects" (some 0) with
  accessFlags := 49
  interfaces := #[]
  cf := some (fileOf pool25 42 #[] #[{ accessFlags := 2, nameIndex := 5, descriptorIndex := 6, attributes := #[] }, { accessFlags := 9, nameIndex := 109, descriptorIndex := 171, attributes := #[] }] 49 2 #[] #[])
  fields := #[]
  methods := #[k25m0, k25m1]
  instanceTypes := #[]
  staticTypes := #[]
  resolved := Array.replicate 184 none
  statics := none }

def pool26 : Array CpInfo := pool [(1, .methodref 2 3), (0, .class_ 4), (0, .nameAndType 5 6), (0, u "java/lang/Object"), (0, u "<init>"), (0, u "()V"), (0, .class_ 8), (0, u "java/lang/Record")] 13

def k26c0 : Code := { maxStack := 1, maxLocals := 1, code := jdk_30_method_1_code, exceptionTable := #[], attributes := #[] }
def k26m0 : Method := { name := "<init>", desc := "()V", sig := { parameters := [], returnType := none }, accessFlags := 4, code := some k26c0 }
/-- java/lang/Record -/
def k26 : Class := { plain "java/lang/Record" (some 0) with
  accessFlags := 1057
  interfaces := #[]
  cf := some (fileOf pool26 7 #[] #[{ accessFlags := 4, nameIndex := 5, descriptorIndex := 6, attributes := #[] }] 1057 2 #[] #[])
  fields := #[]
  methods := #[k26m0]
  instanceTypes := #[]
  staticTypes := #[]
  resolved := Array.replicate 22 none
  statics := none }

def pool27 : Array CpInfo := pool [(1, .methodref 2 3), (0, .class_ 4), (0, .nameAndType 5 6), (0, u "java/lang/Record"), (0, u "<init>"), (0, u "()V"), (0, .fieldref 8 9), (0, .class_ 10), (0, .nameAndType 11 12), (0, u "com/example/cinderpath/cinderpath/source/Position"), (0, u "line"), (0, u "I"), (0, .fieldref 8 14), (0, .nameAndType 15 12), (0, u "column"), (12, u "(II)V"), (5, u "()I")] 30

def k27c0 : Code := { maxStack := 2, maxLocals := 3, code := prog_91_method_1_code, exceptionTable := #[], attributes := #[] }
def k27m0 : Method := { name := "<init>", desc := "(II)V", sig := { parameters := [.int, .int], returnType := none }, accessFlags := 1, code := some k27c0 }
def k27c1 : Code := { maxStack := 1, maxLocals := 1, code := prog_91_method_5_code, exceptionTable := #[], attributes := #[] }
def k27m1 : Method := { name := "line", desc := "()I", sig := { parameters := [], returnType := some .int }, accessFlags := 1, code := some k27c1 }
def k27c2 : Code := { maxStack := 1, maxLocals := 1, code := prog_91_method_6_code, exceptionTable := #[], attributes := #[] }
def k27m2 : Method := { name := "column", desc := "()I", sig := { parameters := [], returnType := some .int }, accessFlags := 1, code := some k27c2 }
/-- com/example/cinderpath/cinderpath/source/Position -/
def k27 : Class := { plain "com/example/cinderpath/cinderpath/source/Position" (some 26) with
  accessFlags := 49
  interfaces := #[]
  cf := some (fileOf pool27 8 #[] #[{ accessFlags := 1, nameIndex := 5, descriptorIndex := 28, attributes := #[] }, { accessFlags := 1, nameIndex := 11, descriptorIndex := 34, attributes := #[] }, { accessFlags := 1, nameIndex := 15, descriptorIndex := 34, attributes := #[] }] 49 2 #[] #[{ accessFlags := 18, nameIndex := 11, descriptorIndex := 12, attributes := #[] }, { accessFlags := 18, nameIndex := 15, descriptorIndex := 12, attributes := #[] }])
  fields := #[{ name := "line", type := .int, accessFlags := 18, slot := 0, constantValue := 0 }, { name := "column", type := .int, accessFlags := 18, slot := 1, constantValue := 0 }]
  methods := #[k27m0, k27m1, k27m2]
  instanceTypes := #[.int, .int]
  staticTypes := #[]
  resolved := Array.replicate 65 none
  statics := none }

def pool28 : Array CpInfo := pool [(9, u "<init>"), (6, .class_ 18), (1, u "java/lang/Object"), (0, u "()V"), (1, .class_ 23), (1, u "jdk/internal/util/ArraysSupport"), (0, u "LOG2_ARRAY_LONG_INDEX_SCALE"), (0, u "I"), (2, u "U"), (0, u "Ljdk/internal/misc/Unsafe;"), (8, u "BIG_ENDIAN"), (0, u "Z"), (8, u "LOG2_BYTE_BIT_SIZE"), (4, u "LOG2_ARRAY_INT_INDEX_SCALE"), (54, u "JLA"), (0, u "Ljdk/internal/access/JavaLangAccess;"), (11, u "LOG2_ARRAY_BOOLEAN_INDEX_SCALE"), (9, u "LOG2_ARRAY_BYTE_INDEX_SCALE"), (5, u "LOG2_ARRAY_CHAR_INDEX_SCALE"), (5, u "LOG2_ARRAY_SHORT_INDEX_SCALE"), (18, u "LOG2_ARRAY_FLOAT_INDEX_SCALE"), (24, u "LOG2_ARRAY_DOUBLE_INDEX_SCALE"), (89, u "T_BOOLEAN"), (2, u "T_CHAR"), (1, u "T_FLOAT"), (1, u "T_DOUBLE"), (1, u "T_BYTE"), (1, u "T_SHORT"), (1, u "T_INT"), (1, u "T_LONG"), (1, u "SOFT_MAX_ARRAY_LENGTH")] 83

def k28m0 : Method := { name := "<init>", desc := "()V", sig := { parameters := [], returnType := none }, accessFlags := 2, code := none }
/-- jdk/internal/util/ArraysSupport -/
def k28 : Class := { plain "jdk/internal/util/ArraysSupport" (some 0) with
  accessFlags := 33
  interfaces := #[]
  cf := some (fileOf pool28 21 #[] #[{ accessFlags := 2, nameIndex := 9, descriptorIndex := 19, attributes := #[] }] 33 16 #[] #[{ accessFlags := 24, nameIndex := 28, descriptorIndex := 29, attributes := #[] }, { accessFlags := 26, nameIndex := 38, descriptorIndex := 39, attributes := #[] }, { accessFlags := 25, nameIndex := 121, descriptorIndex := 25, attributes := #[] }, { accessFlags := 25, nameIndex := 131, descriptorIndex := 25, attributes := #[] }, { accessFlags := 25, nameIndex := 137, descriptorIndex := 25, attributes := #[] }, { accessFlags := 25, nameIndex := 143, descriptorIndex := 25, attributes := #[] }, { accessFlags := 25, nameIndex := 53, descriptorIndex := 25, attributes := #[] }, { accessFlags := 25, nameIndex := 24, descriptorIndex := 25, attributes := #[] }, { accessFlags := 25, nameIndex := 162, descriptorIndex := 25, attributes := #[] }, { accessFlags := 25, nameIndex := 187, descriptorIndex := 25, attributes := #[] }, { accessFlags := 26, nameIndex := 48, descriptorIndex := 25, attributes := #[] }, { accessFlags := 25, nameIndex := 277, descriptorIndex := 25, attributes := #[] }, { accessFlags := 25, nameIndex := 280, descriptorIndex := 25, attributes := #[] }, { accessFlags := 25, nameIndex := 282, descriptorIndex := 25, attributes := #[] }, { accessFlags := 25, nameIndex := 284, descriptorIndex := 25, attributes := #[] }, { accessFlags := 25, nameIndex := 286, descriptorIndex := 25, attributes := #[] }, { accessFlags := 25, nameIndex := 288, descriptorIndex := 25, attributes := #[] }, { accessFlags := 25, nameIndex := 290, descriptorIndex := 25, attributes := #[] }, { accessFlags := 25, nameIndex := 292, descriptorIndex := 25, attributes := #[] }, { accessFlags := 26, nameIndex := 108, descriptorIndex := 109, attributes := #[] }, { accessFlags := 25, nameIndex := 294, descriptorIndex := 25, attributes := #[] }])
  fields := #[{ name := "U", type := (.object "jdk/internal/misc/Unsafe"), accessFlags := 24, slot := 0, constantValue := 0 }, { name := "BIG_ENDIAN", type := .boolean, accessFlags := 26, slot := 1, constantValue := 0 }, { name := "LOG2_ARRAY_BOOLEAN_INDEX_SCALE", type := .int, accessFlags := 25, slot := 2, constantValue := 0 }, { name := "LOG2_ARRAY_BYTE_INDEX_SCALE", type := .int, accessFlags := 25, slot := 3, constantValue := 0 }, { name := "LOG2_ARRAY_CHAR_INDEX_SCALE", type := .int, accessFlags := 25, slot := 4, constantValue := 0 }, { name := "LOG2_ARRAY_SHORT_INDEX_SCALE", type := .int, accessFlags := 25, slot := 5, constantValue := 0 }, { name := "LOG2_ARRAY_INT_INDEX_SCALE", type := .int, accessFlags := 25, slot := 6, constantValue := 0 }, { name := "LOG2_ARRAY_LONG_INDEX_SCALE", type := .int, accessFlags := 25, slot := 7, constantValue := 0 }, { name := "LOG2_ARRAY_FLOAT_INDEX_SCALE", type := .int, accessFlags := 25, slot := 8, constantValue := 0 }, { name := "LOG2_ARRAY_DOUBLE_INDEX_SCALE", type := .int, accessFlags := 25, slot := 9, constantValue := 0 }, { name := "LOG2_BYTE_BIT_SIZE", type := .int, accessFlags := 26, slot := 10, constantValue := 0 }, { name := "T_BOOLEAN", type := .int, accessFlags := 25, slot := 11, constantValue := 0 }, { name := "T_CHAR", type := .int, accessFlags := 25, slot := 12, constantValue := 0 }, { name := "T_FLOAT", type := .int, accessFlags := 25, slot := 13, constantValue := 0 }, { name := "T_DOUBLE", type := .int, accessFlags := 25, slot := 14, constantValue := 0 }, { name := "T_BYTE", type := .int, accessFlags := 25, slot := 15, constantValue := 0 }, { name := "T_SHORT", type := .int, accessFlags := 25, slot := 16, constantValue := 0 }, { name := "T_INT", type := .int, accessFlags := 25, slot := 17, constantValue := 0 }, { name := "T_LONG", type := .int, accessFlags := 25, slot := 18, constantValue := 0 }, { name := "JLA", type := (.object "jdk/internal/access/JavaLangAccess"), accessFlags := 26, slot := 19, constantValue := 0 }, { name := "SOFT_MAX_ARRAY_LENGTH", type := .int, accessFlags := 25, slot := 20, constantValue := 0 }]
  methods := #[k28m0]
  instanceTypes := #[]
  staticTypes := #[(.object "jdk/internal/misc/Unsafe"), .boolean, .int, .int, .int, .int, .int, .int, .int, .int, .int, .int, .int, .int, .int, .int, .int, .int, .int, (.object "jdk/internal/access/JavaLangAccess"), .int]
  resolved := Array.replicate 378 none
  statics := none }

/-- the primitive byte -/
def k29 : Class := { plain "byte" none with kind := .primitive 'B', accessFlags := 0x411 }
/-- [B -/
def k30 : Class := { plain "[B" (some 0) with kind := .array 29 .byte, interfaces := #[17, 2], accessFlags := 1041 }

/-- the primitive char -/
def k31 : Class := { plain "char" none with kind := .primitive 'C', accessFlags := 0x411 }
/-- [C -/
def k32 : Class := { plain "[C" (some 0) with kind := .array 31 .char, interfaces := #[17, 2], accessFlags := 1041 }

/-- the primitive int -/
def k33 : Class := { plain "int" none with kind := .primitive 'I', accessFlags := 0x411 }
/-- [I -/
def k34 : Class := { plain "[I" (some 0) with kind := .array 33 .int, interfaces := #[17, 2], accessFlags := 1041 }

/-- [Ljava/lang/Integer; -/
def k35 : Class := { plain "[Ljava/lang/Integer;" (some 0) with kind := .array 20 (.object "java/lang/Integer"), interfaces := #[17, 2], accessFlags := 1041 }

/-- [Ljava/lang/Object; -/
def k36 : Class := { plain "[Ljava/lang/Object;" (some 0) with kind := .array 0 (.object "java/lang/Object"), interfaces := #[17, 2], accessFlags := 1041 }

def heap : Heap := #[{ cls := 7, slots := #[.long 0, .int 1, .null, .int 0, .null, .int 0, .int 0], vm := .statics 7 },
  { cls := 18, slots := #[.long 0, .int 0, .ref 261, .ref 262], vm := .statics 18 },
  { cls := 21, slots := #[.int 0, .int 127, .ref 4, .null, .int 0], vm := .statics 21 },
  { cls := 24, slots := #[.null, .null, .null], vm := .statics 24 },
  { cls := 35, slots := #[.ref 5, .ref 6, .ref 7, .ref 8, .ref 9, .ref 10, .ref 11, .ref 12, .ref 13, .ref 14, .ref 15, .ref 16, .ref 17, .ref 18, .ref 19, .ref 20, .ref 21, .ref 22, .ref 23, .ref 24, .ref 25, .ref 26, .ref 27, .ref 28, .ref 29, .ref 30, .ref 31, .ref 32, .ref 33, .ref 34, .ref 35, .ref 36, .ref 37, .ref 38, .ref 39, .ref 40, .ref 41, .ref 42, .ref 43, .ref 44, .ref 45, .ref 46, .ref 47, .ref 48, .ref 49, .ref 50, .ref 51, .ref 52, .ref 53, .ref 54, .ref 55, .ref 56, .ref 57, .ref 58, .ref 59, .ref 60, .ref 61, .ref 62, .ref 63, .ref 64, .ref 65, .ref 66, .ref 67, .ref 68, .ref 69, .ref 70, .ref 71, .ref 72, .ref 73, .ref 74, .ref 75, .ref 76, .ref 77, .ref 78, .ref 79, .ref 80, .ref 81, .ref 82, .ref 83, .ref 84, .ref 85, .ref 86, .ref 87, .ref 88, .ref 89, .ref 90, .ref 91, .ref 92, .ref 93, .ref 94, .ref 95, .ref 96, .ref 97, .ref 98, .ref 99, .ref 100, .ref 101, .ref 102, .ref 103, .ref 104, .ref 105, .ref 106, .ref 107, .ref 108, .ref 109, .ref 110, .ref 111, .ref 112, .ref 113, .ref 114, .ref 115, .ref 116, .ref 117, .ref 118, .ref 119, .ref 120, .ref 121, .ref 122, .ref 123, .ref 124, .ref 125, .ref 126, .ref 127, .ref 128, .ref 129, .ref 130, .ref 131, .ref 132, .ref 133, .ref 134, .ref 135, .ref 136, .ref 137, .ref 138, .ref 139, .ref 140, .ref 141, .ref 142, .ref 143, .ref 144, .ref 145, .ref 146, .ref 147, .ref 148, .ref 149, .ref 150, .ref 151, .ref 152, .ref 153, .ref 154, .ref 155, .ref 156, .ref 157, .ref 158, .ref 159, .ref 160, .ref 161, .ref 162, .ref 163, .ref 164, .ref 165, .ref 166, .ref 167, .ref 168, .ref 169, .ref 170, .ref 171, .ref 172, .ref 173, .ref 174, .ref 175, .ref 176, .ref 177, .ref 178, .ref 179, .ref 180, .ref 181, .ref 182, .ref 183, .ref 184, .ref 185, .ref 186, .ref 187, .ref 188, .ref 189, .ref 190, .ref 191, .ref 192, .ref 193, .ref 194, .ref 195, .ref 196, .ref 197, .ref 198, .ref 199, .ref 200, .ref 201, .ref 202, .ref 203, .ref 204, .ref 205, .ref 206, .ref 207, .ref 208, .ref 209, .ref 210, .ref 211, .ref 212, .ref 213, .ref 214, .ref 215, .ref 216, .ref 217, .ref 218, .ref 219, .ref 220, .ref 221, .ref 222, .ref 223, .ref 224, .ref 225, .ref 226, .ref 227, .ref 228, .ref 229, .ref 230, .ref 231, .ref 232, .ref 233, .ref 234, .ref 235, .ref 236, .ref 237, .ref 238, .ref 239, .ref 240, .ref 241, .ref 242, .ref 243, .ref 244, .ref 245, .ref 246, .ref 247, .ref 248, .ref 249, .ref 250, .ref 251, .ref 252, .ref 253, .ref 254, .ref 255, .ref 256, .ref 257, .ref 258, .ref 259, .ref 260], vm := .none },
  { cls := 20, slots := #[.int (-128)], vm := .none },
  { cls := 20, slots := #[.int (-127)], vm := .none },
  { cls := 20, slots := #[.int (-126)], vm := .none },
  { cls := 20, slots := #[.int (-125)], vm := .none },
  { cls := 20, slots := #[.int (-124)], vm := .none },
  { cls := 20, slots := #[.int (-123)], vm := .none },
  { cls := 20, slots := #[.int (-122)], vm := .none },
  { cls := 20, slots := #[.int (-121)], vm := .none },
  { cls := 20, slots := #[.int (-120)], vm := .none },
  { cls := 20, slots := #[.int (-119)], vm := .none },
  { cls := 20, slots := #[.int (-118)], vm := .none },
  { cls := 20, slots := #[.int (-117)], vm := .none },
  { cls := 20, slots := #[.int (-116)], vm := .none },
  { cls := 20, slots := #[.int (-115)], vm := .none },
  { cls := 20, slots := #[.int (-114)], vm := .none },
  { cls := 20, slots := #[.int (-113)], vm := .none },
  { cls := 20, slots := #[.int (-112)], vm := .none },
  { cls := 20, slots := #[.int (-111)], vm := .none },
  { cls := 20, slots := #[.int (-110)], vm := .none },
  { cls := 20, slots := #[.int (-109)], vm := .none },
  { cls := 20, slots := #[.int (-108)], vm := .none },
  { cls := 20, slots := #[.int (-107)], vm := .none },
  { cls := 20, slots := #[.int (-106)], vm := .none },
  { cls := 20, slots := #[.int (-105)], vm := .none },
  { cls := 20, slots := #[.int (-104)], vm := .none },
  { cls := 20, slots := #[.int (-103)], vm := .none },
  { cls := 20, slots := #[.int (-102)], vm := .none },
  { cls := 20, slots := #[.int (-101)], vm := .none },
  { cls := 20, slots := #[.int (-100)], vm := .none },
  { cls := 20, slots := #[.int (-99)], vm := .none },
  { cls := 20, slots := #[.int (-98)], vm := .none },
  { cls := 20, slots := #[.int (-97)], vm := .none },
  { cls := 20, slots := #[.int (-96)], vm := .none },
  { cls := 20, slots := #[.int (-95)], vm := .none },
  { cls := 20, slots := #[.int (-94)], vm := .none },
  { cls := 20, slots := #[.int (-93)], vm := .none },
  { cls := 20, slots := #[.int (-92)], vm := .none },
  { cls := 20, slots := #[.int (-91)], vm := .none },
  { cls := 20, slots := #[.int (-90)], vm := .none },
  { cls := 20, slots := #[.int (-89)], vm := .none },
  { cls := 20, slots := #[.int (-88)], vm := .none },
  { cls := 20, slots := #[.int (-87)], vm := .none },
  { cls := 20, slots := #[.int (-86)], vm := .none },
  { cls := 20, slots := #[.int (-85)], vm := .none },
  { cls := 20, slots := #[.int (-84)], vm := .none },
  { cls := 20, slots := #[.int (-83)], vm := .none },
  { cls := 20, slots := #[.int (-82)], vm := .none },
  { cls := 20, slots := #[.int (-81)], vm := .none },
  { cls := 20, slots := #[.int (-80)], vm := .none },
  { cls := 20, slots := #[.int (-79)], vm := .none },
  { cls := 20, slots := #[.int (-78)], vm := .none },
  { cls := 20, slots := #[.int (-77)], vm := .none },
  { cls := 20, slots := #[.int (-76)], vm := .none },
  { cls := 20, slots := #[.int (-75)], vm := .none },
  { cls := 20, slots := #[.int (-74)], vm := .none },
  { cls := 20, slots := #[.int (-73)], vm := .none },
  { cls := 20, slots := #[.int (-72)], vm := .none },
  { cls := 20, slots := #[.int (-71)], vm := .none },
  { cls := 20, slots := #[.int (-70)], vm := .none },
  { cls := 20, slots := #[.int (-69)], vm := .none },
  { cls := 20, slots := #[.int (-68)], vm := .none },
  { cls := 20, slots := #[.int (-67)], vm := .none },
  { cls := 20, slots := #[.int (-66)], vm := .none },
  { cls := 20, slots := #[.int (-65)], vm := .none },
  { cls := 20, slots := #[.int (-64)], vm := .none },
  { cls := 20, slots := #[.int (-63)], vm := .none },
  { cls := 20, slots := #[.int (-62)], vm := .none },
  { cls := 20, slots := #[.int (-61)], vm := .none },
  { cls := 20, slots := #[.int (-60)], vm := .none },
  { cls := 20, slots := #[.int (-59)], vm := .none },
  { cls := 20, slots := #[.int (-58)], vm := .none },
  { cls := 20, slots := #[.int (-57)], vm := .none },
  { cls := 20, slots := #[.int (-56)], vm := .none },
  { cls := 20, slots := #[.int (-55)], vm := .none },
  { cls := 20, slots := #[.int (-54)], vm := .none },
  { cls := 20, slots := #[.int (-53)], vm := .none },
  { cls := 20, slots := #[.int (-52)], vm := .none },
  { cls := 20, slots := #[.int (-51)], vm := .none },
  { cls := 20, slots := #[.int (-50)], vm := .none },
  { cls := 20, slots := #[.int (-49)], vm := .none },
  { cls := 20, slots := #[.int (-48)], vm := .none },
  { cls := 20, slots := #[.int (-47)], vm := .none },
  { cls := 20, slots := #[.int (-46)], vm := .none },
  { cls := 20, slots := #[.int (-45)], vm := .none },
  { cls := 20, slots := #[.int (-44)], vm := .none },
  { cls := 20, slots := #[.int (-43)], vm := .none },
  { cls := 20, slots := #[.int (-42)], vm := .none },
  { cls := 20, slots := #[.int (-41)], vm := .none },
  { cls := 20, slots := #[.int (-40)], vm := .none },
  { cls := 20, slots := #[.int (-39)], vm := .none },
  { cls := 20, slots := #[.int (-38)], vm := .none },
  { cls := 20, slots := #[.int (-37)], vm := .none },
  { cls := 20, slots := #[.int (-36)], vm := .none },
  { cls := 20, slots := #[.int (-35)], vm := .none },
  { cls := 20, slots := #[.int (-34)], vm := .none },
  { cls := 20, slots := #[.int (-33)], vm := .none },
  { cls := 20, slots := #[.int (-32)], vm := .none },
  { cls := 20, slots := #[.int (-31)], vm := .none },
  { cls := 20, slots := #[.int (-30)], vm := .none },
  { cls := 20, slots := #[.int (-29)], vm := .none },
  { cls := 20, slots := #[.int (-28)], vm := .none },
  { cls := 20, slots := #[.int (-27)], vm := .none },
  { cls := 20, slots := #[.int (-26)], vm := .none },
  { cls := 20, slots := #[.int (-25)], vm := .none },
  { cls := 20, slots := #[.int (-24)], vm := .none },
  { cls := 20, slots := #[.int (-23)], vm := .none },
  { cls := 20, slots := #[.int (-22)], vm := .none },
  { cls := 20, slots := #[.int (-21)], vm := .none },
  { cls := 20, slots := #[.int (-20)], vm := .none },
  { cls := 20, slots := #[.int (-19)], vm := .none },
  { cls := 20, slots := #[.int (-18)], vm := .none },
  { cls := 20, slots := #[.int (-17)], vm := .none },
  { cls := 20, slots := #[.int (-16)], vm := .none },
  { cls := 20, slots := #[.int (-15)], vm := .none },
  { cls := 20, slots := #[.int (-14)], vm := .none },
  { cls := 20, slots := #[.int (-13)], vm := .none },
  { cls := 20, slots := #[.int (-12)], vm := .none },
  { cls := 20, slots := #[.int (-11)], vm := .none },
  { cls := 20, slots := #[.int (-10)], vm := .none },
  { cls := 20, slots := #[.int (-9)], vm := .none },
  { cls := 20, slots := #[.int (-8)], vm := .none },
  { cls := 20, slots := #[.int (-7)], vm := .none },
  { cls := 20, slots := #[.int (-6)], vm := .none },
  { cls := 20, slots := #[.int (-5)], vm := .none },
  { cls := 20, slots := #[.int (-4)], vm := .none },
  { cls := 20, slots := #[.int (-3)], vm := .none },
  { cls := 20, slots := #[.int (-2)], vm := .none },
  { cls := 20, slots := #[.int (-1)], vm := .none },
  { cls := 20, slots := #[.int 0], vm := .none },
  { cls := 20, slots := #[.int 1], vm := .none },
  { cls := 20, slots := #[.int 2], vm := .none },
  { cls := 20, slots := #[.int 3], vm := .none },
  { cls := 20, slots := #[.int 4], vm := .none },
  { cls := 20, slots := #[.int 5], vm := .none },
  { cls := 20, slots := #[.int 6], vm := .none },
  { cls := 20, slots := #[.int 7], vm := .none },
  { cls := 20, slots := #[.int 8], vm := .none },
  { cls := 20, slots := #[.int 9], vm := .none },
  { cls := 20, slots := #[.int 10], vm := .none },
  { cls := 20, slots := #[.int 11], vm := .none },
  { cls := 20, slots := #[.int 12], vm := .none },
  { cls := 20, slots := #[.int 13], vm := .none },
  { cls := 20, slots := #[.int 14], vm := .none },
  { cls := 20, slots := #[.int 15], vm := .none },
  { cls := 20, slots := #[.int 16], vm := .none },
  { cls := 20, slots := #[.int 17], vm := .none },
  { cls := 20, slots := #[.int 18], vm := .none },
  { cls := 20, slots := #[.int 19], vm := .none },
  { cls := 20, slots := #[.int 20], vm := .none },
  { cls := 20, slots := #[.int 21], vm := .none },
  { cls := 20, slots := #[.int 22], vm := .none },
  { cls := 20, slots := #[.int 23], vm := .none },
  { cls := 20, slots := #[.int 24], vm := .none },
  { cls := 20, slots := #[.int 25], vm := .none },
  { cls := 20, slots := #[.int 26], vm := .none },
  { cls := 20, slots := #[.int 27], vm := .none },
  { cls := 20, slots := #[.int 28], vm := .none },
  { cls := 20, slots := #[.int 29], vm := .none },
  { cls := 20, slots := #[.int 30], vm := .none },
  { cls := 20, slots := #[.int 31], vm := .none },
  { cls := 20, slots := #[.int 32], vm := .none },
  { cls := 20, slots := #[.int 33], vm := .none },
  { cls := 20, slots := #[.int 34], vm := .none },
  { cls := 20, slots := #[.int 35], vm := .none },
  { cls := 20, slots := #[.int 36], vm := .none },
  { cls := 20, slots := #[.int 37], vm := .none },
  { cls := 20, slots := #[.int 38], vm := .none },
  { cls := 20, slots := #[.int 39], vm := .none },
  { cls := 20, slots := #[.int 40], vm := .none },
  { cls := 20, slots := #[.int 41], vm := .none },
  { cls := 20, slots := #[.int 42], vm := .none },
  { cls := 20, slots := #[.int 43], vm := .none },
  { cls := 20, slots := #[.int 44], vm := .none },
  { cls := 20, slots := #[.int 45], vm := .none },
  { cls := 20, slots := #[.int 46], vm := .none },
  { cls := 20, slots := #[.int 47], vm := .none },
  { cls := 20, slots := #[.int 48], vm := .none },
  { cls := 20, slots := #[.int 49], vm := .none },
  { cls := 20, slots := #[.int 50], vm := .none },
  { cls := 20, slots := #[.int 51], vm := .none },
  { cls := 20, slots := #[.int 52], vm := .none },
  { cls := 20, slots := #[.int 53], vm := .none },
  { cls := 20, slots := #[.int 54], vm := .none },
  { cls := 20, slots := #[.int 55], vm := .none },
  { cls := 20, slots := #[.int 56], vm := .none },
  { cls := 20, slots := #[.int 57], vm := .none },
  { cls := 20, slots := #[.int 58], vm := .none },
  { cls := 20, slots := #[.int 59], vm := .none },
  { cls := 20, slots := #[.int 60], vm := .none },
  { cls := 20, slots := #[.int 61], vm := .none },
  { cls := 20, slots := #[.int 62], vm := .none },
  { cls := 20, slots := #[.int 63], vm := .none },
  { cls := 20, slots := #[.int 64], vm := .none },
  { cls := 20, slots := #[.int 65], vm := .none },
  { cls := 20, slots := #[.int 66], vm := .none },
  { cls := 20, slots := #[.int 67], vm := .none },
  { cls := 20, slots := #[.int 68], vm := .none },
  { cls := 20, slots := #[.int 69], vm := .none },
  { cls := 20, slots := #[.int 70], vm := .none },
  { cls := 20, slots := #[.int 71], vm := .none },
  { cls := 20, slots := #[.int 72], vm := .none },
  { cls := 20, slots := #[.int 73], vm := .none },
  { cls := 20, slots := #[.int 74], vm := .none },
  { cls := 20, slots := #[.int 75], vm := .none },
  { cls := 20, slots := #[.int 76], vm := .none },
  { cls := 20, slots := #[.int 77], vm := .none },
  { cls := 20, slots := #[.int 78], vm := .none },
  { cls := 20, slots := #[.int 79], vm := .none },
  { cls := 20, slots := #[.int 80], vm := .none },
  { cls := 20, slots := #[.int 81], vm := .none },
  { cls := 20, slots := #[.int 82], vm := .none },
  { cls := 20, slots := #[.int 83], vm := .none },
  { cls := 20, slots := #[.int 84], vm := .none },
  { cls := 20, slots := #[.int 85], vm := .none },
  { cls := 20, slots := #[.int 86], vm := .none },
  { cls := 20, slots := #[.int 87], vm := .none },
  { cls := 20, slots := #[.int 88], vm := .none },
  { cls := 20, slots := #[.int 89], vm := .none },
  { cls := 20, slots := #[.int 90], vm := .none },
  { cls := 20, slots := #[.int 91], vm := .none },
  { cls := 20, slots := #[.int 92], vm := .none },
  { cls := 20, slots := #[.int 93], vm := .none },
  { cls := 20, slots := #[.int 94], vm := .none },
  { cls := 20, slots := #[.int 95], vm := .none },
  { cls := 20, slots := #[.int 96], vm := .none },
  { cls := 20, slots := #[.int 97], vm := .none },
  { cls := 20, slots := #[.int 98], vm := .none },
  { cls := 20, slots := #[.int 99], vm := .none },
  { cls := 20, slots := #[.int 100], vm := .none },
  { cls := 20, slots := #[.int 101], vm := .none },
  { cls := 20, slots := #[.int 102], vm := .none },
  { cls := 20, slots := #[.int 103], vm := .none },
  { cls := 20, slots := #[.int 104], vm := .none },
  { cls := 20, slots := #[.int 105], vm := .none },
  { cls := 20, slots := #[.int 106], vm := .none },
  { cls := 20, slots := #[.int 107], vm := .none },
  { cls := 20, slots := #[.int 108], vm := .none },
  { cls := 20, slots := #[.int 109], vm := .none },
  { cls := 20, slots := #[.int 110], vm := .none },
  { cls := 20, slots := #[.int 111], vm := .none },
  { cls := 20, slots := #[.int 112], vm := .none },
  { cls := 20, slots := #[.int 113], vm := .none },
  { cls := 20, slots := #[.int 114], vm := .none },
  { cls := 20, slots := #[.int 115], vm := .none },
  { cls := 20, slots := #[.int 116], vm := .none },
  { cls := 20, slots := #[.int 117], vm := .none },
  { cls := 20, slots := #[.int 118], vm := .none },
  { cls := 20, slots := #[.int 119], vm := .none },
  { cls := 20, slots := #[.int 120], vm := .none },
  { cls := 20, slots := #[.int 121], vm := .none },
  { cls := 20, slots := #[.int 122], vm := .none },
  { cls := 20, slots := #[.int 123], vm := .none },
  { cls := 20, slots := #[.int 124], vm := .none },
  { cls := 20, slots := #[.int 125], vm := .none },
  { cls := 20, slots := #[.int 126], vm := .none },
  { cls := 20, slots := #[.int 127], vm := .none },
  { cls := 36, slots := #[], vm := .none },
  { cls := 36, slots := #[], vm := .none }]
def classes : Array Class := #[k0, k1, k2, k3, k4, k5, k6, k7, k8, k9, k10, k11, k12, k13, k14, k15, k16, k17, k18, k19, k20, k21, k22, k23, k24, k25, k26, k27, k28, k29, k30, k31, k32, k33, k34, k35, k36]
def interned : List (Array UInt16 × Addr) := []
def slotsUsed : Nat := 531
def theMethod : MethodId := ⟨1, 3⟩
def args0 : Array Value := #[.int 5, .long 5, .int 5, .int 5]
def aboutOver (below : List Frame) : State where
  vm := { classes := classes, interned := interned.toArray }
  heap := heap
  slotsUsed := slotsUsed
  threads := #[{ frames := .invoking theMethod args0 :: below }]
def below0 : List Frame := [.native { method := ⟨0, 0⟩, args := #[] }]
def about1 : State := aboutOver below0
def p0 : Program := .bare "" "" ""
def e0 : Env := launch0.env 0 0 0
theorem w_frames : about1.frames = Frame.invoking theMethod args0 :: below0 := rfl
set_option maxRecDepth 65536 in
theorem w_args : argsFit about1.vm theMethod args0 = true := by decide +kernel
set_option maxRecDepth 65536 in
theorem w_heap : heapFits about1 = true := by decide +kernel
set_option maxRecDepth 65536 in
theorem w_runnable : about1.curStatus? = some .runnable := by decide +kernel
set_option maxRecDepth 65536 in
theorem w_alone : about1.alone = true := by decide +kernel
set_option maxRecDepth 65536 in
theorem w_named : about1.methodNamed? x = some theMethod := by decide +kernel
set_option maxRecDepth 65536 in
theorem w_hears : about1.hears theMethod below0 = true := by decide +kernel
set_option maxRecDepth 65536 in
theorem w_ripe : about1.ripe theMethod args0 below0 = true := by decide +kernel
theorem w_running : about1.status = .running := rfl
set_option maxRecDepth 65536 in
theorem w_room : about1.hasRoom e0.platform room_1 = true :=
  launch0.hasRoom_least _ room_1 (by decide +kernel) (by decide +kernel) (by decide +kernel) (by decide +kernel) (by decide +kernel) (by decide +kernel)
theorem allAtoms_all (ts : List Jvm.Cond) (a : Array Jvm.Value) (st : Jvm.State) : (allAtoms ts).before a st = ts.all (fun c => c.before a st) := by
  induction ts with
  | nil => rfl
  | cons c t ih =>
    show (Jvm.Cond.and c (allAtoms t)).before a st = _
    rw [Jvm.Cond.before_and, ih, List.all_cons]
def words1 : List Jvm.Cond := Jvm.Cond.code x code maxLocals ret :: tables_1
/-- a 'code' word, met by the world's own term for the bytes: nothing is compared byte by byte -/
theorem code_word {y : MethodName} {bytes : ByteArray} {mx : Nat} {rt : Option FieldType} {a : Array Value} {s : State} {m : MethodId} {meth : Method} {c : Code} (h1 : s.methodNamed? y = some m) (h2 : s.vm.method? m = some meth) (h3 : meth.code = some c) (h4 : c.code = bytes)
    (h5 : (c.maxLocals == mx && c.exceptionTable.isEmpty && decide (c.maxStack ≤ mostOperands) && decide (meth.sig.returnType = rt) && !meth.locks && decide (parseMethodDescriptor y.desc = some meth.sig)) = true) : (Jvm.Cond.code y bytes mx rt).before a s = true := by
  simp only [Bool.and_eq_true, beq_iff_eq, Bool.not_eq_true', decide_eq_true_eq] at h5
  obtain ⟨⟨⟨⟨⟨g1, g2⟩, g3⟩, g4⟩, g5⟩, g6⟩ := h5
  simp [Cond.before, Cond.holds, Cond.value, h1, h2, h3, h4, g1, g2, g3, g4, g5, g6]
def isCode : Jvm.Cond → Bool
  | .code _ _ _ _ => true
  | _ => false
theorem all_split {L : List Jvm.Cond} {P : Jvm.Cond → Bool} (h1 : L.all (fun c => isCode c || P c) = true) (h2 : ∀ c ∈ L.filter isCode, P c = true) : L.all P = true := by
  refine List.all_eq_true.mpr fun c hc => ?_
  have h := List.all_eq_true.mp h1 c hc
  rcases Bool.eq_false_or_eq_true (isCode c) with hi | hi
  · exact h2 c (List.mem_filter.mpr ⟨hc, hi⟩)
  · simpa [hi] using h
set_option maxRecDepth 65536 in
theorem w_c0 : (Jvm.Cond.code x code maxLocals ret).before args0 about1 = true := code_word (m := ⟨1, 3⟩) (meth := k1m3) (c := k1c3) (by decide +kernel) rfl rfl rfl (by decide +kernel)
set_option maxRecDepth 65536 in
theorem w_c1 : (Jvm.Cond.code ({ cls := "com/example/cinderpath/cinderpath/source/SourceFilePositionPinLaw", name := "pick", desc := "(IJI)C" } : Jvm.MethodName) method_2_code (4 : Nat) (Option.some Jvm.ClassFile.FieldType.char)).before args0 about1 = true := code_word (m := ⟨1, 1⟩) (meth := k1m1) (c := k1c1) (by decide +kernel) rfl rfl rfl (by decide +kernel)
set_option maxRecDepth 65536 in
theorem w_c2 : (Jvm.Cond.code ({ cls := "com/example/cinderpath/cinderpath/source/SourceFilePositionPinLaw", name := "make", desc := "(CCCCCI)Ljava/lang/String;" } : Jvm.MethodName) method_3_code (6 : Nat) (Option.some (Jvm.ClassFile.FieldType.object "java/lang/String"))).before args0 about1 = true := code_word (m := ⟨1, 2⟩) (meth := k1m2) (c := k1c2) (by decide +kernel) rfl rfl rfl (by decide +kernel)
set_option maxRecDepth 65536 in
theorem w_c3 : (Jvm.Cond.code ({ cls := "java/lang/String", name := "<init>", desc := "([C)V" } : Jvm.MethodName) jdk_42_method_3_code (2 : Nat) (Option.none : Option Jvm.ClassFile.FieldType)).before args0 about1 = true := code_word (m := ⟨7, 1⟩) (meth := k7m1) (c := k7c1) (by decide +kernel) rfl rfl rfl (by decide +kernel)
set_option maxRecDepth 65536 in
theorem w_c4 : (Jvm.Cond.code ({ cls := "java/lang/String", name := "<init>", desc := "([CIILjava/lang/Void;)V" } : Jvm.MethodName) jdk_42_method_149_code (6 : Nat) (Option.none : Option Jvm.ClassFile.FieldType)).before args0 about1 = true := code_word (m := ⟨7, 4⟩) (meth := k7m4) (c := k7c4) (by decide +kernel) rfl rfl rfl (by decide +kernel)
set_option maxRecDepth 65536 in
theorem w_c5 : (Jvm.Cond.code ({ cls := "java/lang/Object", name := "<init>", desc := "()V" } : Jvm.MethodName) object_method_1_code (1 : Nat) (Option.none : Option Jvm.ClassFile.FieldType)).before args0 about1 = true := code_word (m := ⟨0, 0⟩) (meth := k0m0) (c := k0c0) (by decide +kernel) rfl rfl rfl (by decide +kernel)
set_option maxRecDepth 65536 in
theorem w_c6 : (Jvm.Cond.code ({ cls := "java/lang/StringUTF16", name := "compress", desc := "([CII)[B" } : Jvm.MethodName) jdk_52_method_16_code (6 : Nat) (Option.some (Jvm.ClassFile.FieldType.array Jvm.ClassFile.FieldType.byte))).before args0 about1 = true := code_word (m := ⟨8, 2⟩) (meth := k8m2) (c := k8c2) (by decide +kernel) rfl rfl rfl (by decide +kernel)
set_option maxRecDepth 65536 in
theorem w_c7 : (Jvm.Cond.code ({ cls := "java/lang/StringUTF16", name := "compress", desc := "([CI[BII)I" } : Jvm.MethodName) jdk_52_method_21_code (7 : Nat) (Option.some Jvm.ClassFile.FieldType.int)).before args0 about1 = true := code_word (m := ⟨8, 3⟩) (meth := k8m3) (c := k8c3) (by decide +kernel) rfl rfl rfl (by decide +kernel)
set_option maxRecDepth 65536 in
theorem w_c8 : (Jvm.Cond.code ({ cls := "java/lang/StringUTF16", name := "coderFromArrayLen", desc := "([BI)B" } : Jvm.MethodName) jdk_52_method_15_code (2 : Nat) (Option.some Jvm.ClassFile.FieldType.byte)).before args0 about1 = true := code_word (m := ⟨8, 1⟩) (meth := k8m1) (c := k8c1) (by decide +kernel) rfl rfl rfl (by decide +kernel)
set_option maxRecDepth 65536 in
theorem w_c9 : (Jvm.Cond.code ({ cls := "com/example/cinderpath/cinderpath/source/SourceFile", name := "<init>", desc := "(Ljava/lang/String;Ljava/lang/String;)V" } : Jvm.MethodName) prog_92_method_1_code (3 : Nat) (Option.none : Option Jvm.ClassFile.FieldType)).before args0 about1 = true := code_word (m := ⟨9, 0⟩) (meth := k9m0) (c := k9c0) (by decide +kernel) rfl rfl rfl (by decide +kernel)
set_option maxRecDepth 65536 in
theorem w_c10 : (Jvm.Cond.code ({ cls := "com/example/cinderpath/cinderpath/source/SourceFile", name := "lineStarts", desc := "(Ljava/lang/String;)[I" } : Jvm.MethodName) prog_92_method_7_code (4 : Nat) (Option.some (Jvm.ClassFile.FieldType.array Jvm.ClassFile.FieldType.int))).before args0 about1 = true := code_word (m := ⟨9, 2⟩) (meth := k9m2) (c := k9c2) (by decide +kernel) rfl rfl rfl (by decide +kernel)
set_option maxRecDepth 65536 in
theorem w_c11 : (Jvm.Cond.code ({ cls := "java/util/ArrayList", name := "<init>", desc := "()V" } : Jvm.MethodName) jdk_38_method_2_code (1 : Nat) (Option.none : Option Jvm.ClassFile.FieldType)).before args0 about1 = true := code_word (m := ⟨18, 0⟩) (meth := k18m0) (c := k18c0) (by decide +kernel) rfl rfl rfl (by decide +kernel)
set_option maxRecDepth 65536 in
theorem w_c12 : (Jvm.Cond.code ({ cls := "java/util/AbstractList", name := "<init>", desc := "()V" } : Jvm.MethodName) jdk_39_method_1_code (1 : Nat) (Option.none : Option Jvm.ClassFile.FieldType)).before args0 about1 = true := code_word (m := ⟨15, 0⟩) (meth := k15m0) (c := k15c0) (by decide +kernel) rfl rfl rfl (by decide +kernel)
set_option maxRecDepth 65536 in
theorem w_c13 : (Jvm.Cond.code ({ cls := "java/util/AbstractCollection", name := "<init>", desc := "()V" } : Jvm.MethodName) jdk_22_method_1_code (1 : Nat) (Option.none : Option Jvm.ClassFile.FieldType)).before args0 about1 = true := code_word (m := ⟨12, 0⟩) (meth := k12m0) (c := k12c0) (by decide +kernel) rfl rfl rfl (by decide +kernel)
set_option maxRecDepth 65536 in
theorem w_c14 : (Jvm.Cond.code ({ cls := "java/lang/Integer", name := "valueOf", desc := "(I)Ljava/lang/Integer;" } : Jvm.MethodName) jdk_33_method_22_code (1 : Nat) (Option.some (Jvm.ClassFile.FieldType.object "java/lang/Integer"))).before args0 about1 = true := code_word (m := ⟨20, 0⟩) (meth := k20m0) (c := k20c0) (by decide +kernel) rfl rfl rfl (by decide +kernel)
set_option maxRecDepth 65536 in
theorem w_c15 : (Jvm.Cond.code ({ cls := "java/util/ArrayList", name := "add", desc := "(Ljava/lang/Object;)Z" } : Jvm.MethodName) jdk_38_method_25_code (2 : Nat) (Option.some Jvm.ClassFile.FieldType.boolean)).before args0 about1 = true := code_word (m := ⟨18, 7⟩) (meth := k18m7) (c := k18c7) (by decide +kernel) rfl rfl rfl (by decide +kernel)
set_option maxRecDepth 65536 in
theorem w_c16 : (Jvm.Cond.code ({ cls := "java/util/ArrayList", name := "add", desc := "(Ljava/lang/Object;[Ljava/lang/Object;I)V" } : Jvm.MethodName) jdk_38_method_24_code (4 : Nat) (Option.none : Option Jvm.ClassFile.FieldType)).before args0 about1 = true := code_word (m := ⟨18, 6⟩) (meth := k18m6) (c := k18c6) (by decide +kernel) rfl rfl rfl (by decide +kernel)
set_option maxRecDepth 65536 in
theorem w_c17 : (Jvm.Cond.code ({ cls := "java/util/ArrayList", name := "grow", desc := "()[Ljava/lang/Object;" } : Jvm.MethodName) jdk_38_method_7_code (1 : Nat) (Option.some (Jvm.ClassFile.FieldType.array (Jvm.ClassFile.FieldType.object "java/lang/Object")))).before args0 about1 = true := code_word (m := ⟨18, 2⟩) (meth := k18m2) (c := k18c2) (by decide +kernel) rfl rfl rfl (by decide +kernel)
set_option maxRecDepth 65536 in
theorem w_c18 : (Jvm.Cond.code ({ cls := "java/util/ArrayList", name := "grow", desc := "(I)[Ljava/lang/Object;" } : Jvm.MethodName) jdk_38_method_6_code (4 : Nat) (Option.some (Jvm.ClassFile.FieldType.array (Jvm.ClassFile.FieldType.object "java/lang/Object")))).before args0 about1 = true := code_word (m := ⟨18, 1⟩) (meth := k18m1) (c := k18c1) (by decide +kernel) rfl rfl rfl (by decide +kernel)
set_option maxRecDepth 65536 in
theorem w_c19 : (Jvm.Cond.code ({ cls := "java/lang/Math", name := "max", desc := "(II)I" } : Jvm.MethodName) jdk_29_method_65_code (2 : Nat) (Option.some Jvm.ClassFile.FieldType.int)).before args0 about1 = true := code_word (m := ⟨22, 1⟩) (meth := k22m1) (c := k22c1) (by decide +kernel) rfl rfl rfl (by decide +kernel)
set_option maxRecDepth 65536 in
theorem w_c20 : (Jvm.Cond.code ({ cls := "java/lang/String", name := "length", desc := "()I" } : Jvm.MethodName) jdk_42_method_54_code (1 : Nat) (Option.some Jvm.ClassFile.FieldType.int)).before args0 about1 = true := code_word (m := ⟨7, 2⟩) (meth := k7m2) (c := k7c2) (by decide +kernel) rfl rfl rfl (by decide +kernel)
set_option maxRecDepth 65536 in
theorem w_c21 : (Jvm.Cond.code ({ cls := "java/lang/String", name := "coder", desc := "()B" } : Jvm.MethodName) jdk_42_method_152_code (1 : Nat) (Option.some Jvm.ClassFile.FieldType.byte)).before args0 about1 = true := code_word (m := ⟨7, 5⟩) (meth := k7m5) (c := k7c5) (by decide +kernel) rfl rfl rfl (by decide +kernel)
set_option maxRecDepth 65536 in
theorem w_c22 : (Jvm.Cond.code ({ cls := "java/lang/String", name := "charAt", desc := "(I)C" } : Jvm.MethodName) jdk_42_method_56_code (2 : Nat) (Option.some Jvm.ClassFile.FieldType.char)).before args0 about1 = true := code_word (m := ⟨7, 3⟩) (meth := k7m3) (c := k7c3) (by decide +kernel) rfl rfl rfl (by decide +kernel)
set_option maxRecDepth 65536 in
theorem w_c23 : (Jvm.Cond.code ({ cls := "java/lang/String", name := "isLatin1", desc := "()Z" } : Jvm.MethodName) jdk_42_method_154_code (1 : Nat) (Option.some Jvm.ClassFile.FieldType.boolean)).before args0 about1 = true := code_word (m := ⟨7, 6⟩) (meth := k7m6) (c := k7c6) (by decide +kernel) rfl rfl rfl (by decide +kernel)
set_option maxRecDepth 65536 in
theorem w_c24 : (Jvm.Cond.code ({ cls := "java/lang/StringLatin1", name := "charAt", desc := "([BI)C" } : Jvm.MethodName) jdk_43_method_2_code (2 : Nat) (Option.some Jvm.ClassFile.FieldType.char)).before args0 about1 = true := code_word (m := ⟨23, 1⟩) (meth := k23m1) (c := k23c1) (by decide +kernel) rfl rfl rfl (by decide +kernel)
set_option maxRecDepth 65536 in
theorem w_c25 : (Jvm.Cond.code ({ cls := "java/lang/String", name := "checkIndex", desc := "(II)V" } : Jvm.MethodName) jdk_42_method_155_code (2 : Nat) (Option.none : Option Jvm.ClassFile.FieldType)).before args0 about1 = true := code_word (m := ⟨7, 7⟩) (meth := k7m7) (c := k7c7) (by decide +kernel) rfl rfl rfl (by decide +kernel)
set_option maxRecDepth 65536 in
theorem w_c26 : (Jvm.Cond.code ({ cls := "jdk/internal/util/Preconditions", name := "checkIndex", desc := "(IILjava/util/function/BiFunction;)I" } : Jvm.MethodName) jdk_41_method_11_code (3 : Nat) (Option.some Jvm.ClassFile.FieldType.int)).before args0 about1 = true := code_word (m := ⟨24, 1⟩) (meth := k24m1) (c := k24c1) (by decide +kernel) rfl rfl rfl (by decide +kernel)
set_option maxRecDepth 65536 in
theorem w_c27 : (Jvm.Cond.code ({ cls := "java/util/ArrayList", name := "size", desc := "()I" } : Jvm.MethodName) jdk_38_method_8_code (1 : Nat) (Option.some Jvm.ClassFile.FieldType.int)).before args0 about1 = true := code_word (m := ⟨18, 3⟩) (meth := k18m3) (c := k18c3) (by decide +kernel) rfl rfl rfl (by decide +kernel)
set_option maxRecDepth 65536 in
theorem w_c28 : (Jvm.Cond.code ({ cls := "java/util/ArrayList", name := "get", desc := "(I)Ljava/lang/Object;" } : Jvm.MethodName) jdk_38_method_20_code (2 : Nat) (Option.some (Jvm.ClassFile.FieldType.object "java/lang/Object"))).before args0 about1 = true := code_word (m := ⟨18, 5⟩) (meth := k18m5) (c := k18c5) (by decide +kernel) rfl rfl rfl (by decide +kernel)
set_option maxRecDepth 65536 in
theorem w_c29 : (Jvm.Cond.code ({ cls := "java/util/Objects", name := "checkIndex", desc := "(II)I" } : Jvm.MethodName) jdk_31_method_17_code (2 : Nat) (Option.some Jvm.ClassFile.FieldType.int)).before args0 about1 = true := code_word (m := ⟨25, 1⟩) (meth := k25m1) (c := k25c1) (by decide +kernel) rfl rfl rfl (by decide +kernel)
set_option maxRecDepth 65536 in
theorem w_c30 : (Jvm.Cond.code ({ cls := "java/util/ArrayList", name := "elementData", desc := "(I)Ljava/lang/Object;" } : Jvm.MethodName) jdk_38_method_18_code (2 : Nat) (Option.some (Jvm.ClassFile.FieldType.object "java/lang/Object"))).before args0 about1 = true := code_word (m := ⟨18, 4⟩) (meth := k18m4) (c := k18c4) (by decide +kernel) rfl rfl rfl (by decide +kernel)
set_option maxRecDepth 65536 in
theorem w_c31 : (Jvm.Cond.code ({ cls := "java/lang/Integer", name := "intValue", desc := "()I" } : Jvm.MethodName) jdk_33_method_27_code (1 : Nat) (Option.some Jvm.ClassFile.FieldType.int)).before args0 about1 = true := code_word (m := ⟨20, 1⟩) (meth := k20m1) (c := k20c1) (by decide +kernel) rfl rfl rfl (by decide +kernel)
set_option maxRecDepth 65536 in
theorem w_c32 : (Jvm.Cond.code ({ cls := "com/example/cinderpath/cinderpath/source/SourceFile", name := "position", desc := "(I)Lcom/example/cinderpath/cinderpath/source/Position;" } : Jvm.MethodName) prog_92_method_5_code (5 : Nat) (Option.some (Jvm.ClassFile.FieldType.object "com/example/cinderpath/cinderpath/source/Position"))).before args0 about1 = true := code_word (m := ⟨9, 1⟩) (meth := k9m1) (c := k9c1) (by decide +kernel) rfl rfl rfl (by decide +kernel)
set_option maxRecDepth 65536 in
theorem w_c33 : (Jvm.Cond.code ({ cls := "com/example/cinderpath/cinderpath/source/Position", name := "<init>", desc := "(II)V" } : Jvm.MethodName) prog_91_method_1_code (3 : Nat) (Option.none : Option Jvm.ClassFile.FieldType)).before args0 about1 = true := code_word (m := ⟨27, 0⟩) (meth := k27m0) (c := k27c0) (by decide +kernel) rfl rfl rfl (by decide +kernel)
set_option maxRecDepth 65536 in
theorem w_c34 : (Jvm.Cond.code ({ cls := "java/lang/Record", name := "<init>", desc := "()V" } : Jvm.MethodName) jdk_30_method_1_code (1 : Nat) (Option.none : Option Jvm.ClassFile.FieldType)).before args0 about1 = true := code_word (m := ⟨26, 0⟩) (meth := k26m0) (c := k26c0) (by decide +kernel) rfl rfl rfl (by decide +kernel)
set_option maxRecDepth 65536 in
theorem w_c35 : (Jvm.Cond.code ({ cls := "com/example/cinderpath/cinderpath/source/Position", name := "line", desc := "()I" } : Jvm.MethodName) prog_91_method_5_code (1 : Nat) (Option.some Jvm.ClassFile.FieldType.int)).before args0 about1 = true := code_word (m := ⟨27, 1⟩) (meth := k27m1) (c := k27c1) (by decide +kernel) rfl rfl rfl (by decide +kernel)
set_option maxRecDepth 65536 in
theorem w_c36 : (Jvm.Cond.code ({ cls := "com/example/cinderpath/cinderpath/source/Position", name := "column", desc := "()I" } : Jvm.MethodName) prog_91_method_6_code (1 : Nat) (Option.some Jvm.ClassFile.FieldType.int)).before args0 about1 = true := code_word (m := ⟨27, 2⟩) (meth := k27m2) (c := k27c2) (by decide +kernel) rfl rfl rfl (by decide +kernel)
def codes1 : List Jvm.Cond := [Jvm.Cond.code x code maxLocals ret, Jvm.Cond.code ({ cls := "com/example/cinderpath/cinderpath/source/SourceFilePositionPinLaw", name := "pick", desc := "(IJI)C" } : Jvm.MethodName) method_2_code (4 : Nat) (Option.some Jvm.ClassFile.FieldType.char), Jvm.Cond.code ({ cls := "com/example/cinderpath/cinderpath/source/SourceFilePositionPinLaw", name := "make", desc := "(CCCCCI)Ljava/lang/String;" } : Jvm.MethodName) method_3_code (6 : Nat) (Option.some (Jvm.ClassFile.FieldType.object "java/lang/String")), Jvm.Cond.code ({ cls := "java/lang/String", name := "<init>", desc := "([C)V" } : Jvm.MethodName) jdk_42_method_3_code (2 : Nat) (Option.none : Option Jvm.ClassFile.FieldType), Jvm.Cond.code ({ cls := "java/lang/String", name := "<init>", desc := "([CIILjava/lang/Void;)V" } : Jvm.MethodName) jdk_42_method_149_code (6 : Nat) (Option.none : Option Jvm.ClassFile.FieldType), Jvm.Cond.code ({ cls := "java/lang/Object", name := "<init>", desc := "()V" } : Jvm.MethodName) object_method_1_code (1 : Nat) (Option.none : Option Jvm.ClassFile.FieldType), Jvm.Cond.code ({ cls := "java/lang/StringUTF16", name := "compress", desc := "([CII)[B" } : Jvm.MethodName) jdk_52_method_16_code (6 : Nat) (Option.some (Jvm.ClassFile.FieldType.array Jvm.ClassFile.FieldType.byte)), Jvm.Cond.code ({ cls := "java/lang/StringUTF16", name := "compress", desc := "([CI[BII)I" } : Jvm.MethodName) jdk_52_method_21_code (7 : Nat) (Option.some Jvm.ClassFile.FieldType.int), Jvm.Cond.code ({ cls := "java/lang/StringUTF16", name := "coderFromArrayLen", desc := "([BI)B" } : Jvm.MethodName) jdk_52_method_15_code (2 : Nat) (Option.some Jvm.ClassFile.FieldType.byte), Jvm.Cond.code ({ cls := "com/example/cinderpath/cinderpath/source/SourceFile", name := "<init>", desc := "(Ljava/lang/String;Ljava/lang/String;)V" } : Jvm.MethodName) prog_92_method_1_code (3 : Nat) (Option.none : Option Jvm.ClassFile.FieldType), Jvm.Cond.code ({ cls := "com/example/cinderpath/cinderpath/source/SourceFile", name := "lineStarts", desc := "(Ljava/lang/String;)[I" } : Jvm.MethodName) prog_92_method_7_code (4 : Nat) (Option.some (Jvm.ClassFile.FieldType.array Jvm.ClassFile.FieldType.int)), Jvm.Cond.code ({ cls := "java/util/ArrayList", name := "<init>", desc := "()V" } : Jvm.MethodName) jdk_38_method_2_code (1 : Nat) (Option.none : Option Jvm.ClassFile.FieldType), Jvm.Cond.code ({ cls := "java/util/AbstractList", name := "<init>", desc := "()V" } : Jvm.MethodName) jdk_39_method_1_code (1 : Nat) (Option.none : Option Jvm.ClassFile.FieldType), Jvm.Cond.code ({ cls := "java/util/AbstractCollection", name := "<init>", desc := "()V" } : Jvm.MethodName) jdk_22_method_1_code (1 : Nat) (Option.none : Option Jvm.ClassFile.FieldType), Jvm.Cond.code ({ cls := "java/lang/Integer", name := "valueOf", desc := "(I)Ljava/lang/Integer;" } : Jvm.MethodName) jdk_33_method_22_code (1 : Nat) (Option.some (Jvm.ClassFile.FieldType.object "java/lang/Integer")), Jvm.Cond.code ({ cls := "java/util/ArrayList", name := "add", desc := "(Ljava/lang/Object;)Z" } : Jvm.MethodName) jdk_38_method_25_code (2 : Nat) (Option.some Jvm.ClassFile.FieldType.boolean), Jvm.Cond.code ({ cls := "java/util/ArrayList", name := "add", desc := "(Ljava/lang/Object;[Ljava/lang/Object;I)V" } : Jvm.MethodName) jdk_38_method_24_code (4 : Nat) (Option.none : Option Jvm.ClassFile.FieldType), Jvm.Cond.code ({ cls := "java/util/ArrayList", name := "grow", desc := "()[Ljava/lang/Object;" } : Jvm.MethodName) jdk_38_method_7_code (1 : Nat) (Option.some (Jvm.ClassFile.FieldType.array (Jvm.ClassFile.FieldType.object "java/lang/Object"))), Jvm.Cond.code ({ cls := "java/util/ArrayList", name := "grow", desc := "(I)[Ljava/lang/Object;" } : Jvm.MethodName) jdk_38_method_6_code (4 : Nat) (Option.some (Jvm.ClassFile.FieldType.array (Jvm.ClassFile.FieldType.object "java/lang/Object"))), Jvm.Cond.code ({ cls := "java/lang/Math", name := "max", desc := "(II)I" } : Jvm.MethodName) jdk_29_method_65_code (2 : Nat) (Option.some Jvm.ClassFile.FieldType.int), Jvm.Cond.code ({ cls := "java/lang/String", name := "length", desc := "()I" } : Jvm.MethodName) jdk_42_method_54_code (1 : Nat) (Option.some Jvm.ClassFile.FieldType.int), Jvm.Cond.code ({ cls := "java/lang/String", name := "coder", desc := "()B" } : Jvm.MethodName) jdk_42_method_152_code (1 : Nat) (Option.some Jvm.ClassFile.FieldType.byte), Jvm.Cond.code ({ cls := "java/lang/String", name := "charAt", desc := "(I)C" } : Jvm.MethodName) jdk_42_method_56_code (2 : Nat) (Option.some Jvm.ClassFile.FieldType.char), Jvm.Cond.code ({ cls := "java/lang/String", name := "isLatin1", desc := "()Z" } : Jvm.MethodName) jdk_42_method_154_code (1 : Nat) (Option.some Jvm.ClassFile.FieldType.boolean), Jvm.Cond.code ({ cls := "java/lang/StringLatin1", name := "charAt", desc := "([BI)C" } : Jvm.MethodName) jdk_43_method_2_code (2 : Nat) (Option.some Jvm.ClassFile.FieldType.char), Jvm.Cond.code ({ cls := "java/lang/String", name := "checkIndex", desc := "(II)V" } : Jvm.MethodName) jdk_42_method_155_code (2 : Nat) (Option.none : Option Jvm.ClassFile.FieldType), Jvm.Cond.code ({ cls := "jdk/internal/util/Preconditions", name := "checkIndex", desc := "(IILjava/util/function/BiFunction;)I" } : Jvm.MethodName) jdk_41_method_11_code (3 : Nat) (Option.some Jvm.ClassFile.FieldType.int), Jvm.Cond.code ({ cls := "java/util/ArrayList", name := "size", desc := "()I" } : Jvm.MethodName) jdk_38_method_8_code (1 : Nat) (Option.some Jvm.ClassFile.FieldType.int), Jvm.Cond.code ({ cls := "java/util/ArrayList", name := "get", desc := "(I)Ljava/lang/Object;" } : Jvm.MethodName) jdk_38_method_20_code (2 : Nat) (Option.some (Jvm.ClassFile.FieldType.object "java/lang/Object")), Jvm.Cond.code ({ cls := "java/util/Objects", name := "checkIndex", desc := "(II)I" } : Jvm.MethodName) jdk_31_method_17_code (2 : Nat) (Option.some Jvm.ClassFile.FieldType.int), Jvm.Cond.code ({ cls := "java/util/ArrayList", name := "elementData", desc := "(I)Ljava/lang/Object;" } : Jvm.MethodName) jdk_38_method_18_code (2 : Nat) (Option.some (Jvm.ClassFile.FieldType.object "java/lang/Object")), Jvm.Cond.code ({ cls := "java/lang/Integer", name := "intValue", desc := "()I" } : Jvm.MethodName) jdk_33_method_27_code (1 : Nat) (Option.some Jvm.ClassFile.FieldType.int), Jvm.Cond.code ({ cls := "com/example/cinderpath/cinderpath/source/SourceFile", name := "position", desc := "(I)Lcom/example/cinderpath/cinderpath/source/Position;" } : Jvm.MethodName) prog_92_method_5_code (5 : Nat) (Option.some (Jvm.ClassFile.FieldType.object "com/example/cinderpath/cinderpath/source/Position")), Jvm.Cond.code ({ cls := "com/example/cinderpath/cinderpath/source/Position", name := "<init>", desc := "(II)V" } : Jvm.MethodName) prog_91_method_1_code (3 : Nat) (Option.none : Option Jvm.ClassFile.FieldType), Jvm.Cond.code ({ cls := "java/lang/Record", name := "<init>", desc := "()V" } : Jvm.MethodName) jdk_30_method_1_code (1 : Nat) (Option.none : Option Jvm.ClassFile.FieldType), Jvm.Cond.code ({ cls := "com/example/cinderpath/cinderpath/source/Position", name := "line", desc := "()I" } : Jvm.MethodName) prog_91_method_5_code (1 : Nat) (Option.some Jvm.ClassFile.FieldType.int), Jvm.Cond.code ({ cls := "com/example/cinderpath/cinderpath/source/Position", name := "column", desc := "()I" } : Jvm.MethodName) prog_91_method_6_code (1 : Nat) (Option.some Jvm.ClassFile.FieldType.int)]
set_option maxRecDepth 65536 in
theorem codes_eq : words1.filter isCode = codes1 := rfl
theorem w_codes : ∀ c ∈ words1.filter isCode, c.before args0 about1 = true := by
  rw [codes_eq]
  intro c hc
  simp only [codes1, List.mem_cons, List.not_mem_nil, or_false] at hc
  rcases hc with rfl | rfl | rfl | rfl | rfl | rfl | rfl | rfl | rfl | rfl | rfl | rfl | rfl | rfl | rfl | rfl | rfl | rfl | rfl | rfl | rfl | rfl | rfl | rfl | rfl | rfl | rfl | rfl | rfl | rfl | rfl | rfl | rfl | rfl | rfl | rfl | rfl
  · exact w_c0
  · exact w_c1
  · exact w_c2
  · exact w_c3
  · exact w_c4
  · exact w_c5
  · exact w_c6
  · exact w_c7
  · exact w_c8
  · exact w_c9
  · exact w_c10
  · exact w_c11
  · exact w_c12
  · exact w_c13
  · exact w_c14
  · exact w_c15
  · exact w_c16
  · exact w_c17
  · exact w_c18
  · exact w_c19
  · exact w_c20
  · exact w_c21
  · exact w_c22
  · exact w_c23
  · exact w_c24
  · exact w_c25
  · exact w_c26
  · exact w_c27
  · exact w_c28
  · exact w_c29
  · exact w_c30
  · exact w_c31
  · exact w_c32
  · exact w_c33
  · exact w_c34
  · exact w_c35
  · exact w_c36
set_option maxRecDepth 65536 in
theorem w_t1 : (words1.take 24).all (fun c => isCode c || c.before args0 about1) = true := by decide +kernel
set_option maxRecDepth 65536 in
theorem w_t2 : ((words1.drop 24).take 24).all (fun c => isCode c || c.before args0 about1) = true := by decide +kernel
set_option maxRecDepth 65536 in
theorem w_t3 : (((words1.drop 24).drop 24).take 24).all (fun c => isCode c || c.before args0 about1) = true := by decide +kernel
set_option maxRecDepth 65536 in
theorem w_t4 : ((((words1.drop 24).drop 24).drop 24).take 24).all (fun c => isCode c || c.before args0 about1) = true := by decide +kernel
set_option maxRecDepth 65536 in
theorem w_t5 : (((((words1.drop 24).drop 24).drop 24).drop 24).take 24).all (fun c => isCode c || c.before args0 about1) = true := by decide +kernel
set_option maxRecDepth 65536 in
theorem w_t6 : ((((((words1.drop 24).drop 24).drop 24).drop 24).drop 24).take 24).all (fun c => isCode c || c.before args0 about1) = true := by decide +kernel
set_option maxRecDepth 65536 in
theorem w_t7 : (((((((words1.drop 24).drop 24).drop 24).drop 24).drop 24).drop 24).take 24).all (fun c => isCode c || c.before args0 about1) = true := by decide +kernel
set_option maxRecDepth 65536 in
theorem w_t8 : ((((((((words1.drop 24).drop 24).drop 24).drop 24).drop 24).drop 24).drop 24).take 24).all (fun c => isCode c || c.before args0 about1) = true := by decide +kernel
set_option maxRecDepth 65536 in
theorem w_t9 : (((((((((words1.drop 24).drop 24).drop 24).drop 24).drop 24).drop 24).drop 24).drop 24).take 24).all (fun c => isCode c || c.before args0 about1) = true := by decide +kernel
set_option maxRecDepth 65536 in
theorem w_t10 : (((((((((words1.drop 24).drop 24).drop 24).drop 24).drop 24).drop 24).drop 24).drop 24).drop 24).all (fun c => isCode c || c.before args0 about1) = true := by decide +kernel
theorem w_tables : (allAtoms (Jvm.Cond.code x code maxLocals ret :: tables_1)).before args0 about1 = true := by
  rw [allAtoms_all]
  show words1.all (fun c => c.before args0 about1) = true
  refine all_split ?_ w_codes
  rw [← List.take_append_drop 24 words1, List.all_append, w_t1, ← List.take_append_drop 24 (words1.drop 24), List.all_append, w_t2, ← List.take_append_drop 24 ((words1.drop 24).drop 24), List.all_append, w_t3, ← List.take_append_drop 24 (((words1.drop 24).drop 24).drop 24), List.all_append, w_t4, ← List.take_append_drop 24 ((((words1.drop 24).drop 24).drop 24).drop 24), List.all_append, w_t5, ← List.take_append_drop 24 (((((words1.drop 24).drop 24).drop 24).drop 24).drop 24), List.all_append, w_t6, ← List.take_append_drop 24 ((((((words1.drop 24).drop 24).drop 24).drop 24).drop 24).drop 24), List.all_append, w_t7, ← List.take_append_drop 24 (((((((words1.drop 24).drop 24).drop 24).drop 24).drop 24).drop 24).drop 24), List.all_append, w_t8, ← List.take_append_drop 24 ((((((((words1.drop 24).drop 24).drop 24).drop 24).drop 24).drop 24).drop 24).drop 24), List.all_append, w_t9, w_t10]
  rfl
set_option maxRecDepth 65536 in
theorem w_rest : rest_1_c.before args0 about1 = true := by decide +kernel
set_option maxRecDepth 65536 in
theorem w_case : (Jvm.Cond.and given_1 narrow_1).before args0 about1 = true := by decide +kernel
set_option maxRecDepth 65536 in
theorem w_consts : constsHeld consts_1 about1 := Jvm.Lit.constsHeldB_iff.mp (by decide +kernel)
theorem w_applies : (headSpec (Jvm.Cond.code x code maxLocals ret :: tables_1) room_1).applies x e0.platform about1 = true :=
  (Spec.applies_iff w_frames).mpr ⟨w_running, w_runnable, w_alone, w_named, w_hears, w_ripe, w_room, w_tables⟩
theorem atStart : AtStart classFile x code maxLocals ret World_1 tables_1 room_1 Calls_1 rest_1 Pre_1 launch0 p0 e0 about1 theMethod args0 below0 :=
  ⟨lists_1, trivial, launch0.admits_env _ _ _, launch0.least_env, fairChoices_fair.cas, fairChoices_fair.clock, w_frames, w_args, w_heap, w_applies, ⟨w_consts, trivial⟩, w_rest, w_case⟩
end start1
theorem witness_1 : WitnessClaimed_1 := ⟨start1.p0, start1.e0, start1.about1, start1.theMethod, start1.args0, start1.below0, start1.atStart⟩
end Jvm.Pilot.@@N@@
