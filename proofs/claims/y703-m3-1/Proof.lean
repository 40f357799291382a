import JvmDerived
import JvmDerived.Pilot.@@N@@Statement
import JvmDerived.Pilot.@@N@@Code
set_option linter.unusedVariables false
set_option linter.unusedSimpArgs false
/- laws to paste: Road.backV, Road.codOf (cut by pick.py; bodies as the Statement names them) -/
namespace Jvm.Pilot.@@N@@
namespace StrChars
open Jvm Sem ClassFile Op Lib Jvm.Stand Jvm.Free.XT Jvm.Free.ALB Jvm.Free.JM Jvm.Free
open Jvm.Lib.Cold (StaticIs)
/-- a char array whose places are chars -/
def Ch (a : Addr) (A : Cell) (U : State) : Prop := Arr .char a A U ∧ Typed .char A
theorem Ch.mv {a : Addr} {A : Cell} {U U' : State} (h : Ch a A U) (hal : U.vm.Alike U'.vm) (hh : U'.heap = U.heap) : Ch a A U' := ⟨h.1.mv hal hh, h.2⟩
theorem Ch.keep {a : Addr} {A : Cell} {U U' : State} (h : Ch a A U) (hal : U.vm.Alike U'.vm) (hk : U'.heap[a]? = some A) : Ch a A U' := ⟨h.1.keep hal hk, h.2⟩
/-- what place i of a char[]'s cell holds -/
def cv (A : Cell) (i : Nat) : Int32 := match A.slots[i]? with | some (.int x) => x | _ => 0
theorem Ch.get {a : Addr} {A : Cell} {U : State} (h : Ch a A U) {i : Nat} (hi : i < A.slots.size) : A.slots[i]? = some (.int (cv A i)) := by
  have e := Array.getElem?_eq_getElem hi
  have f := h.2 i _ e
  unfold cv; rw [e]
  generalize A.slots[i] = v at f
  cases v <;> simp [fits] at f ⊢
/-- the byte that i2b leaves of a char -/
def lo8 (x : Int32) : Int32 := x.toInt8.toInt32
theorem fits_lo8 (y : Int32) : fits .byte (.int (lo8 y)) = true := by
  have h1 := y.toInt8.le_toInt
  have h2 := y.toInt8.toInt_lt
  simp only [lo8, fits, Bool.and_eq_true, decide_eq_true_eq, Int32.le_iff_toInt_le, Int8.toInt_toInt32, show (-128 : Int32).toInt = -128 from by decide, show (127 : Int32).toInt = 127 from by decide]
  omega
/-- A' is A but that each place j of lo .. hi - 1 holds f j -/
def Laid (A A' : Cell) (lo hi : Nat) (f : Nat → Value) : Prop := A'.cls = A.cls ∧ A'.vm = A.vm ∧ A'.slots.size = A.slots.size ∧ ∀ i, A'.slots[i]? = if lo ≤ i ∧ i < hi then some (f i) else A.slots[i]?
theorem Laid.zero (A : Cell) (lo : Nat) (f : Nat → Value) : Laid A A lo (lo + 0) f := ⟨rfl, rfl, rfl, fun i => by rw [if_neg (by omega)]⟩
theorem Laid.step {A Ak : Cell} {lo k : Nat} {f : Nat → Value} {v : Value} (h : Laid A Ak lo k f) (hlo : lo ≤ k) (hk : k < Ak.slots.size) (hv : v = f k) : Laid A (Ak.setSlot k v) lo (k + 1) f := by
  refine ⟨h.1, h.2.1, by simpa [Cell.setSlot] using h.2.2.1, fun i => ?_⟩
  by_cases e : k = i
  · subst e; rw [Cell.slots_setSlot_self v hk, if_pos (by omega), hv]
  · rw [Cell.slots_setSlot_ne v e, h.2.2.2 i]
    by_cases q : lo ≤ i ∧ i < k
    · rw [if_pos q, if_pos (by omega)]
    · rw [if_neg q, if_neg (by omega)]
def U16 : String := "java/lang/StringUTF16"
namespace Cmp5
def yN : MethodName := ⟨"java/lang/StringUTF16", "compress", "([CI[BII)I"⟩
abbrev yB : ByteArray := jdk_52_method_21_code
theorem d0 : decode yB 0 = .ok (.iconst 0, 1) := by decide +kernel
theorem d1 : decode yB 1 = .ok (.istore 5, 2) := by decide +kernel
theorem d3 : decode yB 3 = .ok (.iload 5, 2) := by decide +kernel
theorem d5 : decode yB 5 = .ok (.iload 4, 2) := by decide +kernel
theorem d7 : decode yB 7 = .ok (.if_icmp (.ge) 37, 3) := by decide +kernel
theorem d10 : decode yB 10 = .ok (.aload_n 0, 1) := by decide +kernel
theorem d11 : decode yB 11 = .ok (.iload_n 1, 1) := by decide +kernel
theorem d12 : decode yB 12 = .ok (.caload, 1) := by decide +kernel
theorem d13 : decode yB 13 = .ok (.istore 6, 2) := by decide +kernel
theorem d15 : decode yB 15 = .ok (.iload 6, 2) := by decide +kernel
theorem d17 : decode yB 17 = .ok (.sipush 255, 3) := by decide +kernel
theorem d20 : decode yB 20 = .ok (.if_icmp (.le) 6, 3) := by decide +kernel
theorem d26 : decode yB 26 = .ok (.aload_n 2, 1) := by decide +kernel
theorem d27 : decode yB 27 = .ok (.iload_n 3, 1) := by decide +kernel
theorem d28 : decode yB 28 = .ok (.iload 6, 2) := by decide +kernel
theorem d30 : decode yB 30 = .ok (.i2b, 1) := by decide +kernel
theorem d31 : decode yB 31 = .ok (.bastore, 1) := by decide +kernel
theorem d32 : decode yB 32 = .ok (.iinc 1 1, 3) := by decide +kernel
theorem d35 : decode yB 35 = .ok (.iinc 3 1, 3) := by decide +kernel
theorem d38 : decode yB 38 = .ok (.iinc 5 1, 3) := by decide +kernel
theorem d41 : decode yB 41 = .ok (.goto (-38), 3) := by decide +kernel
theorem d44 : decode yB 44 = .ok (.iload 4, 2) := by decide +kernel
theorem d46 : decode yB 46 = .ok (.ireturn, 1) := by decide +kernel
def site : List Cond := []
def tab : Cond := tabOf yN yB 7 (some .int) site
def P (b : Addr) (A : Cell) (d : Addr) (B : Cell) (o q len : Nat) (args : Array Value) (s : State) : Prop := args = #[.ref b, .int (Int32.ofNat o), .ref d, .int (Int32.ofNat q), .int (Int32.ofNat len)] ∧ Ch b A s ∧ Arr .byte d B s ∧ b ≠ d ∧ o + len ≤ A.slots.size ∧ q + len ≤ B.slots.size ∧ ∀ i, i < len → ¬ 255 < cv A (o + i)
def E (b : Addr) (A : Cell) (d : Addr) (B : Cell) (o q len : Nat) (r : Option Value) (s u : State) : Prop := r = some (.int (Int32.ofNat len)) ∧ ∃ B', Put d B' s u ∧ Laid B B' q (q + len) (fun j => Value.int (lo8 (cv A (o + (j - q)))))
/-- no char of the range above 255: len; the places written hold each char's low byte -/
theorem law (l : Launch) (b : Addr) (A : Cell) (d : Addr) (B : Cell) (o q len : Nat) : Law l yN 5 5 0 0 yB 7 (some .int) site (P b A d B o q len) (E b A d B o q len) (copyLocs d q len) 0 0 := by
  refine Law.of_walk (plainFor_of_name (by decide +kernel)) (by decide +kernel) (by decide +kernel) (by decide) (fun _ _ h => by rw [h.1]; rfl) (fun _ U U' hal hh h => ⟨h.1, h.2.1.mv hal hh, h.2.2.1.mv hal hh, h.2.2.2⟩) (fun r U U' V V' h1 hal h2 h => ⟨h.1, h.2.elim fun B' q => ⟨B', q.1.mv h1 h2, q.2⟩⟩) ?_
  intro p e s m args below meth c s₁ X0 hexec hbytes hml hret hlk hnm hown hh0 W hP
  obtain ⟨rfl, hA, hB, hne, l1, l2, hp⟩ := hP
  have c1 : Steps p.tables e below (s₁.setTop (entryFrame m #[.ref b, .int (Int32.ofNat o), .ref d, .int (Int32.ofNat q), .int (Int32.ofNat len)] 7)) (s₁.setTop (mkF m 0 #[.val (.ref b), .val (.int (Int32.ofNat o)), .val (.ref d), .val (.int (Int32.ofNat q)), .val (.int (Int32.ofNat len)), .unset, .unset] [])) := entry rfl
  have hA0 := hA.1.mv X0.warmed.alike hh0
  have hB0 := hB.mv X0.warmed.alike hh0
  have a31 := hA.1.2.2.2
  have c2 : Steps p.tables e below (s₁.setTop (entryFrame m #[.ref b, .int (Int32.ofNat o), .ref d, .int (Int32.ofNat q), .int (Int32.ofNat len)] 7)) (s₁.setTop (mkF m 3 #[.val (.ref b), .val (.int (Int32.ofNat o)), .val (.ref d), .val (.int (Int32.ofNat q)), .val (.int (Int32.ofNat len)), .val (.int 0), .unset] [])) := c1.trans (by
    refine iconstV X0.here hexec rfl 0 (hb hbytes d0) (by decide) ?_
    refine XS.istore X0.here hexec rfl (hb hbytes d1) rfl rfl ?_
    exact Steps.refl _)
  have loop : ∀ (r i : Nat), i + r = len → ∀ (z : Slot), (z = .unset ∨ ∃ w, z = .val w ∧ w.category = 1) → ∀ (Tl : State) (Bk : Cell), Stand p l e { frames := 0, locals := 0, cells := 0, slots := 0 } s m #[.ref b, .int (Int32.ofNat o), .ref d, .int (Int32.ofNat q), .int (Int32.ofNat len)] below meth c Tl ([] ++ copyLocs d q i) 0 0 → Put d Bk s₁ Tl → Laid B Bk q (q + i) (fun j => Value.int (lo8 (cv A (o + (j - q))))) →
      Steps p.tables e below (s₁.setTop (entryFrame m #[.ref b, .int (Int32.ofNat o), .ref d, .int (Int32.ofNat q), .int (Int32.ofNat len)] 7)) (Tl.setTop (mkF m 3 #[.val (.ref b), .val (.int (Int32.ofNat (o + i))), .val (.ref d), .val (.int (Int32.ofNat (q + i))), .val (.int (Int32.ofNat len)), .val (.int (Int32.ofNat i)), z] [])) → ∃ (T' : State) (B' : Cell) (z' : Slot), Stand p l e { frames := 0, locals := 0, cells := 0, slots := 0 } s m #[.ref b, .int (Int32.ofNat o), .ref d, .int (Int32.ofNat q), .int (Int32.ofNat len)] below meth c T' ([] ++ copyLocs d q len) 0 0 ∧ Put d B' s₁ T' ∧ Laid B B' q (q + len) (fun j => Value.int (lo8 (cv A (o + (j - q))))) ∧
      Steps p.tables e below (s₁.setTop (entryFrame m #[.ref b, .int (Int32.ofNat o), .ref d, .int (Int32.ofNat q), .int (Int32.ofNat len)] 7)) (T'.setTop (mkF m 3 #[.val (.ref b), .val (.int (Int32.ofNat (o + len))), .val (.ref d), .val (.int (Int32.ofNat (q + len))), .val (.int (Int32.ofNat len)), .val (.int (Int32.ofNat len)), z'] [])) := by
    intro r
    induction r with
    | zero =>
      intro i hi z hz Tl Bk Xl pl fl cl
      have hil : i = len := by omega
      rw [hil] at Xl fl cl
      exact ⟨Tl, Bk, z, Xl, pl, fl, cl⟩
    | succ r ih =>
      intro i hi z hz Tl Bk Xl pl fl cl
      have all := X0.warmed.alike.symm.trans Xl.warmed.alike
      have hAl := hA0.keep all (pl.other hne hA0.1)
      have hBk := hB0.like all pl.1 fl.1 fl.2.1 fl.2.2.1
      have hlt : q + i < Bk.slots.size := by rw [fl.2.2.1]; omega
      have c3 : Steps p.tables e below (s₁.setTop (entryFrame m #[.ref b, .int (Int32.ofNat o), .ref d, .int (Int32.ofNat q), .int (Int32.ofNat len)] 7)) (Tl.setTop (mkF m 12 #[.val (.ref b), .val (.int (Int32.ofNat (o + i))), .val (.ref d), .val (.int (Int32.ofNat (q + i))), .val (.int (Int32.ofNat len)), .val (.int (Int32.ofNat i)), z] [.int (Int32.ofNat (o + i)), .ref b])) := cl.trans (by
        refine XS.iload Xl.here hexec rfl (hb hbytes d3) rfl ?_
        refine XS.iload Xl.here hexec rfl (hb hbytes d5) rfl ?_
        refine XS.icmpNo Xl.here hexec rfl (hb hbytes d7) rfl (ii_ge_f (lt32 (by omega) (by omega))) ?_
        refine XS.aloadN Xl.here hexec rfl (hb hbytes d10) rfl rfl ?_
        refine XS.iloadN Xl.here hexec rfl (hb hbytes d11) rfl ?_
        exact Steps.refl _)
      have c4 : Steps p.tables e below (s₁.setTop (entryFrame m #[.ref b, .int (Int32.ofNat o), .ref d, .int (Int32.ofNat q), .int (Int32.ofNat len)] 7)) (Tl.setTop (mkF m 13 #[.val (.ref b), .val (.int (Int32.ofNat (o + i))), .val (.ref d), .val (.int (Int32.ofNat (q + i))), .val (.int (Int32.ofNat len)), .val (.int (Int32.ofNat i)), z] [.int (cv A (o + i))])) := c3.trans (by
        refine Xl.aget hexec hAl rfl (hA.get (i := o + i) (by omega)) rfl rfl (hb hbytes d12) ?_
        exact Steps.refl _)
      have c5 : Steps p.tables e below (s₁.setTop (entryFrame m #[.ref b, .int (Int32.ofNat o), .ref d, .int (Int32.ofNat q), .int (Int32.ofNat len)] 7)) (Tl.setTop (mkF m 15 #[.val (.ref b), .val (.int (Int32.ofNat (o + i))), .val (.ref d), .val (.int (Int32.ofNat (q + i))), .val (.int (Int32.ofNat len)), .val (.int (Int32.ofNat i)), .val (.int (cv A (o + i)))] [])) := c4.trans (by
        refine XS.istoreS Xl.here hexec rfl (hb hbytes d13) rfl rfl hz ?_
        exact Steps.refl _)
      have c6 : Steps p.tables e below (s₁.setTop (entryFrame m #[.ref b, .int (Int32.ofNat o), .ref d, .int (Int32.ofNat q), .int (Int32.ofNat len)] 7)) (Tl.setTop (mkF m 31 #[.val (.ref b), .val (.int (Int32.ofNat (o + i))), .val (.ref d), .val (.int (Int32.ofNat (q + i))), .val (.int (Int32.ofNat len)), .val (.int (Int32.ofNat i)), .val (.int (cv A (o + i)))] [.int (lo8 (cv A (o + i))), .int (Int32.ofNat (q + i)), .ref d])) := c5.trans (by
        refine XS.iload Xl.here hexec rfl (hb hbytes d15) rfl ?_
        refine sipushV Xl.here hexec rfl 255 (hb hbytes d17) (by decide) ?_
        refine XS.icmpYes Xl.here hexec rfl (pc0 := 20) rfl (hb hbytes d20) rfl (ii_le_t (hp i (by omega))) (by decide) rfl ?_
        refine XS.aloadN Xl.here hexec rfl (hb hbytes d26) rfl rfl ?_
        refine XS.iloadN Xl.here hexec rfl (hb hbytes d27) rfl ?_
        refine XS.iload Xl.here hexec rfl (hb hbytes d28) rfl ?_
        refine i2b Xl.here hexec rfl (hb hbytes d30) rfl ?_
        exact Steps.refl _)
      obtain ⟨T7, X7, p7, st7⟩ := Xl.aput hexec hBk rfl hlt rfl (fits_lo8 (cv A (o + i))) (g := (mkF m 31 #[.val (.ref b), .val (.int (Int32.ofNat (o + i))), .val (.ref d), .val (.int (Int32.ofNat (q + i))), .val (.int (Int32.ofNat len)), .val (.int (Int32.ofNat i)), .val (.int (cv A (o + i)))] [.int (lo8 (cv A (o + i))), .int (Int32.ofNat (q + i)), .ref d])) rfl (rest := []) rfl (hb hbytes d31)
      have c8 : Steps p.tables e below (s₁.setTop (entryFrame m #[.ref b, .int (Int32.ofNat o), .ref d, .int (Int32.ofNat q), .int (Int32.ofNat len)] 7)) (T7.setTop (mkF m 32 #[.val (.ref b), .val (.int (Int32.ofNat (o + i))), .val (.ref d), .val (.int (Int32.ofNat (q + i))), .val (.int (Int32.ofNat len)), .val (.int (Int32.ofNat i)), .val (.int (cv A (o + i)))] [])) := c6.trans (st7 _ (Steps.refl _))
      have c9 : Steps p.tables e below (s₁.setTop (entryFrame m #[.ref b, .int (Int32.ofNat o), .ref d, .int (Int32.ofNat q), .int (Int32.ofNat len)] 7)) (T7.setTop (mkF m 3 #[.val (.ref b), .val (.int (Int32.ofNat (o + i) + 1)), .val (.ref d), .val (.int (Int32.ofNat (q + i) + 1)), .val (.int (Int32.ofNat len)), .val (.int (Int32.ofNat i + 1)), .val (.int (cv A (o + i)))] [])) := c8.trans (by
        refine iincV X7.here hexec rfl 1 (hb hbytes d32) (by decide) rfl rfl ?_
        refine iincV X7.here hexec rfl 1 (hb hbytes d35) (by decide) rfl rfl ?_
        refine iincV X7.here hexec rfl 1 (hb hbytes d38) (by decide) rfl rfl ?_
        refine XS.goto X7.here hexec rfl (pc0 := 41) rfl (hb hbytes d41) (by decide) rfl ?_
        exact Steps.refl _)
      have c10 : Steps p.tables e below (s₁.setTop (entryFrame m #[.ref b, .int (Int32.ofNat o), .ref d, .int (Int32.ofNat q), .int (Int32.ofNat len)] 7)) (T7.setTop (mkF m 3 #[.val (.ref b), .val (.int (Int32.ofNat (o + (i + 1)))), .val (.ref d), .val (.int (Int32.ofNat (q + (i + 1)))), .val (.int (Int32.ofNat len)), .val (.int (Int32.ofNat (i + 1))), .val (.int (cv A (o + i)))] [])) := by
        have := c9
        rw [succ32, succ32, succ32] at this
        exact this
      exact ih (i + 1) (by omega) _ (Or.inr ⟨_, rfl, rfl⟩) T7 _ (by rw [copyLocs_step, ← List.append_assoc]; exact X7) (pl.trans p7) (fl.step (by omega) hlt (by simp)) c10
  obtain ⟨T9, B9, z9, X9, p9, f9, g9⟩ := loop len 0 (by omega) .unset (Or.inl rfl) s₁ B (by simpa [copyLocs] using X0) ⟨hB0.1, fun _ _ => rfl, rfl⟩ (Laid.zero _ _ _) c2
  have c11 : Steps p.tables e below (s₁.setTop (entryFrame m #[.ref b, .int (Int32.ofNat o), .ref d, .int (Int32.ofNat q), .int (Int32.ofNat len)] 7)) (T9.setTop (mkF m 46 #[.val (.ref b), .val (.int (Int32.ofNat (o + len))), .val (.ref d), .val (.int (Int32.ofNat (q + len))), .val (.int (Int32.ofNat len)), .val (.int (Int32.ofNat len)), z9] [.int (Int32.ofNat len)])) := g9.trans (by
    refine XS.iload X9.here hexec rfl (hb hbytes d3) rfl ?_
    refine XS.iload X9.here hexec rfl (hb hbytes d5) rfl ?_
    refine XS.icmpYes X9.here hexec rfl (pc0 := 7) rfl (hb hbytes d7) rfl (ii_ge_t (nlt32 (by omega) (Nat.le_refl _))) (by decide) rfl ?_
    refine XS.iload X9.here hexec rfl (hb hbytes d44) rfl ?_
    exact Steps.refl _)
  exact ⟨T9, some (.int (Int32.ofNat len)), _, _, _, X9, by simp, rfl, rfl, (fun h => by cases h), ⟨rfl, B9, p9.from hh0, f9⟩, fun fs hl => c11.trans (X9.ireturnOut hexec hret rfl (Or.inl rfl) (hb hbytes d46) hl)⟩
end Cmp5
namespace Cmp3
def yN : MethodName := ⟨"java/lang/StringUTF16", "compress", "([CII)[B"⟩
abbrev yB : ByteArray := jdk_52_method_16_code
theorem d0 : decode yB 0 = .ok (.iload_n 2, 1) := by decide +kernel
theorem d1 : decode yB 1 = .ok (.newarray .byte, 2) := by decide +kernel
theorem d3 : decode yB 3 = .ok (.astore_n 3, 1) := by decide +kernel
theorem d4 : decode yB 4 = .ok (.aload_n 0, 1) := by decide +kernel
theorem d5 : decode yB 5 = .ok (.iload_n 1, 1) := by decide +kernel
theorem d6 : decode yB 6 = .ok (.aload_n 3, 1) := by decide +kernel
theorem d7 : decode yB 7 = .ok (.iconst 0, 1) := by decide +kernel
theorem d8 : decode yB 8 = .ok (.iload_n 2, 1) := by decide +kernel
theorem d9 : decode yB 9 = .ok (.invokestatic 115, 3) := by decide +kernel
theorem d12 : decode yB 12 = .ok (.istore 4, 2) := by decide +kernel
theorem d14 : decode yB 14 = .ok (.iload 4, 2) := by decide +kernel
theorem d16 : decode yB 16 = .ok (.iload_n 2, 1) := by decide +kernel
theorem d17 : decode yB 17 = .ok (.if_icmp (.eq) 40, 3) := by decide +kernel
theorem d57 : decode yB 57 = .ok (.aload_n 3, 1) := by decide +kernel
theorem d58 : decode yB 58 = .ok (.areturn, 1) := by decide +kernel
def site : List Cond := [.arrayClass .byte, Cmp5.tab] ++ staticW U16 115 Cmp5.yN
def tab : Cond := tabOf yN yB 6 (some (.array .byte)) site
def P (b : Addr) (A : Cell) (o len : Nat) (args : Array Value) (s : State) : Prop := args = #[.ref b, .int (Int32.ofNat o), .int (Int32.ofNat len)] ∧ Ch b A s ∧ o + len ≤ A.slots.size ∧ len ≤ 536870912 ∧ ∀ i, i < len → ¬ 255 < cv A (o + i)
def E (b : Addr) (A : Cell) (o len : Nat) (r : Option Value) (s u : State) : Prop := NewArr .byte "[B" len (fun j => .int (lo8 (cv A (o + j)))) r s u ∧ u.heap.size = s.heap.size + 1
/-- no char of the range above 255: a new byte[] of their low bytes -/
theorem law (l : Launch) (b : Addr) (A : Cell) (o len : Nat) : Law l yN 3 3 1 18 yB 6 (some (.array .byte)) site (P b A o len) (E b A o len) [] 1 len := by
  refine Law.of_walk (plainFor_of_name (by decide +kernel)) (by decide +kernel) (by decide +kernel) (by decide) (fun _ _ h => by rw [h.1]; rfl) (fun _ U U' hal hh h => ⟨h.1, h.2.1.mv hal hh, h.2.2⟩) (fun r U U' V V' h1 hal h2 h => ⟨NewArr.mv r U U' V V' h1 hal h2 h.1, by rw [h1, h2]; exact h.2⟩) ?_
  intro p e s m args below meth c s₁ X0 hexec hbytes hml hret hlk hnm hown hh0 W hP
  obtain ⟨rfl, hA, l1, l2, hp⟩ := hP
  have a31 := hA.1.2.2.2
  have c1 : Steps p.tables e below (s₁.setTop (entryFrame m #[.ref b, .int (Int32.ofNat o), .int (Int32.ofNat len)] 6)) (s₁.setTop (mkF m 0 #[.val (.ref b), .val (.int (Int32.ofNat o)), .val (.int (Int32.ofNat len)), .unset, .unset, .unset] [])) := entry rfl
  have c2 : Steps p.tables e below (s₁.setTop (entryFrame m #[.ref b, .int (Int32.ofNat o), .int (Int32.ofNat len)] 6)) (s₁.setTop (mkF m 1 #[.val (.ref b), .val (.int (Int32.ofNat o)), .val (.int (Int32.ofNat len)), .unset, .unset, .unset] [.int (Int32.ofNat len)])) := c1.trans (by
    refine XS.iloadN X0.here hexec rfl (hb hbytes d0) rfl ?_
    exact Steps.refl _)
  obtain ⟨T3, B3, X3, ba3, bs3, bv3, bh3, bf3, st3⟩ := X0.anew hexec (atype := .byte) (wk W (.arrayClass .byte)) rfl (by show len * 1 ≤ _; omega) (by omega) (g := (mkF m 1 #[.val (.ref b), .val (.int (Int32.ofNat o)), .val (.int (Int32.ofNat len)), .unset, .unset, .unset] [.int (Int32.ofNat len)])) rfl (hb hbytes d1) (rest := []) rfl (Nat.le_refl _) (by show 0 + len ≤ len; omega)
  rw [hh0] at ba3 st3
  have kp3 : XT.Kept s T3 := (XT.Kept.of_eq hh0).push bh3
  have hA3 := hA.keep X3.warmed.alike (kp3 _ _ hA.1.1)
  have hne : b ≠ s.heap.size := hA.1.ne
  have c4 : Steps p.tables e below (s₁.setTop (entryFrame m #[.ref b, .int (Int32.ofNat o), .int (Int32.ofNat len)] 6)) (T3.setTop (mkF m 3 #[.val (.ref b), .val (.int (Int32.ofNat o)), .val (.int (Int32.ofNat len)), .unset, .unset, .unset] [.ref s.heap.size])) := c2.trans (st3 _ (Steps.refl _))
  have c5 : Steps p.tables e below (s₁.setTop (entryFrame m #[.ref b, .int (Int32.ofNat o), .int (Int32.ofNat len)] 6)) (T3.setTop (mkF m 9 #[.val (.ref b), .val (.int (Int32.ofNat o)), .val (.int (Int32.ofNat len)), .val (.ref s.heap.size), .unset, .unset] [.int (Int32.ofNat len), .int 0, .ref s.heap.size, .int (Int32.ofNat o), .ref b])) := c4.trans (by
    refine XS.astoreN X3.here hexec rfl (hb hbytes d3) rfl rfl rfl ?_
    refine XS.aloadN X3.here hexec rfl (hb hbytes d4) rfl rfl ?_
    refine XS.iloadN X3.here hexec rfl (hb hbytes d5) rfl ?_
    refine XS.aloadN X3.here hexec rfl (hb hbytes d6) rfl rfl ?_
    refine iconstV X3.here hexec rfl 0 (hb hbytes d7) (by decide) ?_
    refine XS.iloadN X3.here hexec rfl (hb hbytes d8) rfl ?_
    exact Steps.refl _)
  obtain ⟨v6, T6, X6, E6, g6⟩ := X3.callS hexec (Cmp5.law l b A s.heap.size B3 o 0 len) hown (wks W (staticW U16 115 Cmp5.yN)) (wk W Cmp5.tab) (W := 0) (Nat.le_of_ble_eq_true rfl) (Nat.le_of_ble_eq_true rfl) (Nat.le_refl _) (by show 0 + len + 0 ≤ len; omega) (g := (mkF m 9 #[.val (.ref b), .val (.int (Int32.ofNat o)), .val (.int (Int32.ofNat len)), .val (.ref s.heap.size), .unset, .unset] [.int (Int32.ofNat len), .int (Int32.ofNat 0), .ref s.heap.size, .int (Int32.ofNat o), .ref b])) rfl (by rw [hml]; rfl) c5 (argsL := [.ref b, .int (Int32.ofNat o), .ref s.heap.size, .int (Int32.ofNat 0), .int (Int32.ofNat len)]) (rest := []) rfl rfl (by show 2 * 0 + 0 ≤ _; decide) (hb hbytes d9) (⟨rfl, hA3, ba3, hne, l1, by rw [bs3]; simp, hp⟩)
  obtain ⟨rfl, B6, p6, f6⟩ := E6
  have c7 : Steps p.tables e below (s₁.setTop (entryFrame m #[.ref b, .int (Int32.ofNat o), .int (Int32.ofNat len)] 6)) (T6.setTop (mkF m 12 #[.val (.ref b), .val (.int (Int32.ofNat o)), .val (.int (Int32.ofNat len)), .val (.ref s.heap.size), .unset, .unset] [.int (Int32.ofNat len)])) := g6
  have c8 : Steps p.tables e below (s₁.setTop (entryFrame m #[.ref b, .int (Int32.ofNat o), .int (Int32.ofNat len)] 6)) (T6.setTop (mkF m 58 #[.val (.ref b), .val (.int (Int32.ofNat o)), .val (.int (Int32.ofNat len)), .val (.ref s.heap.size), .val (.int (Int32.ofNat len)), .unset] [.ref s.heap.size])) := c7.trans (by
    refine XS.istore X6.here hexec rfl (hb hbytes d12) rfl rfl ?_
    refine XS.iload X6.here hexec rfl (hb hbytes d14) rfl ?_
    refine XS.iloadN X6.here hexec rfl (hb hbytes d16) rfl ?_
    refine XS.icmpYes X6.here hexec rfl (pc0 := 17) rfl (hb hbytes d17) rfl (ii_eq_t rfl) (by decide) rfl ?_
    refine XS.aloadN X6.here hexec rfl (hb hbytes d57) rfl rfl ?_
    exact Steps.refl _)
  have X8 := X6.wide (L' := []) (cells' := 1) (slots' := len) (fun x hx hlt => by
    simp only [List.nil_append, copyLocs, List.mem_map, List.mem_range] at hx
    obtain ⟨i, -, rfl⟩ := hx
    exact absurd hlt (Nat.lt_irrefl _)) (Nat.le_refl _) (by omega)
  exact ⟨T6, some (.ref s.heap.size), _, _, _, X8, rfl, rfl, rfl, (fun h => by cases h), ⟨⟨rfl, B6, ba3.like (X3.warmed.alike.symm.trans X6.warmed.alike) p6.1 f6.1 f6.2.1 f6.2.2.1, f6.2.1.trans bv3, by rw [X6.warmed.alike.findClass, f6.1]; exact bf3, by rw [f6.2.2.1, bs3]; simp, fun j hj => by rw [f6.2.2.2 j, if_pos (by omega)]; rfl, kp3.put p6 (Nat.le_refl _)⟩, by rw [p6.2.2, bh3, hh0]; simp⟩, fun fs hl => c8.trans (X8.areturnOut hexec rfl hret rfl (hb hbytes d58) hl)⟩
end Cmp3
namespace CodL
def yN : MethodName := ⟨"java/lang/StringUTF16", "coderFromArrayLen", "([BI)B"⟩
abbrev yB : ByteArray := jdk_52_method_15_code
theorem d0 : decode yB 0 = .ok (.iload_n 1, 1) := by decide +kernel
theorem d1 : decode yB 1 = .ok (.aload_n 0, 1) := by decide +kernel
theorem d2 : decode yB 2 = .ok (.arraylength, 1) := by decide +kernel
theorem d3 : decode yB 3 = .ok (.isub, 1) := by decide +kernel
theorem d4 : decode yB 4 = .ok (.bipush 31, 2) := by decide +kernel
theorem d6 : decode yB 6 = .ok (.iushr, 1) := by decide +kernel
theorem d7 : decode yB 7 = .ok (.i2b, 1) := by decide +kernel
theorem d8 : decode yB 8 = .ok (.ireturn, 1) := by decide +kernel
def site : List Cond := []
def tab : Cond := tabOf yN yB 2 (some .byte) site
def P (d : Addr) (B : Cell) (args : Array Value) (s : State) : Prop := args = #[.ref d, .int (Int32.ofNat B.slots.size)] ∧ Arr .byte d B s
def E (r : Option Value) (s u : State) : Prop := XT.PureE (some (.int 0)) r s u
/-- an array as long as the number of chars: LATIN1 -/
theorem law (l : Launch) (d : Addr) (B : Cell) : Law l yN 2 2 0 0 yB 2 (some .byte) site (P d B) E [] 0 0 := by
  refine Law.of_walk (plainFor_of_name (by decide +kernel)) (by decide +kernel) (by decide +kernel) (by decide) (fun _ _ h => by rw [h.1]; rfl) (fun _ U U' hal hh h => ⟨h.1, h.2.mv hal hh⟩) (fun r U U' V V' h1 hal h2 h => XT.PureE.mv r U U' V V' h1 hal h2 h) ?_
  intro p e s m args below meth c s₁ X0 hexec hbytes hml hret hlk hnm hown hh0 W hP
  obtain ⟨rfl, hB⟩ := hP
  have hB0 := hB.mv X0.warmed.alike hh0
  have c1 : Steps p.tables e below (s₁.setTop (entryFrame m #[.ref d, .int (Int32.ofNat B.slots.size)] 2)) (s₁.setTop (mkF m 0 #[.val (.ref d), .val (.int (Int32.ofNat B.slots.size))] [])) := entry rfl
  have c2 : Steps p.tables e below (s₁.setTop (entryFrame m #[.ref d, .int (Int32.ofNat B.slots.size)] 2)) (s₁.setTop (mkF m 2 #[.val (.ref d), .val (.int (Int32.ofNat B.slots.size))] [.ref d, .int (Int32.ofNat B.slots.size)])) := c1.trans (by
    refine XS.iloadN X0.here hexec rfl (hb hbytes d0) rfl ?_
    refine XS.aloadN X0.here hexec rfl (hb hbytes d1) rfl rfl ?_
    exact Steps.refl _)
  have c3 : Steps p.tables e below (s₁.setTop (entryFrame m #[.ref d, .int (Int32.ofNat B.slots.size)] 2)) (s₁.setTop (mkF m 8 #[.val (.ref d), .val (.int (Int32.ofNat B.slots.size))] [.int (lo8 (ushr (Int32.ofNat B.slots.size - Int32.ofNat B.slots.size) 31))])) := c2.trans (by
    refine X0.alen hexec hB0 rfl rfl (hb hbytes d2) ?_
    refine XS.isub X0.here hexec rfl (hb hbytes d3) rfl ?_
    refine bipushV X0.here hexec rfl 31 (hb hbytes d4) (by decide) ?_
    refine iushr X0.here hexec rfl (hb hbytes d6) rfl ?_
    refine i2b X0.here hexec rfl (hb hbytes d7) rfl ?_
    exact Steps.refl _)
  have e0 : lo8 (ushr (Int32.ofNat B.slots.size - Int32.ofNat B.slots.size) 31) = 0 := by rw [Int32.sub_self]; decide
  rw [e0] at c3
  exact ⟨s₁, some (.int 0), _, _, _, X0, rfl, rfl, rfl, (fun h => by cases h), ⟨rfl, hh0⟩, fun fs hl => c3.trans (X0.ireturnOut hexec hret rfl (Or.inr (Or.inr (Or.inl rfl))) (hb hbytes d8) hl)⟩
end CodL
/-- the String at a is Latin-1 over a new byte[] (the heap's one new cell): the low bytes of the len chars of A from o on; every cell but a is kept -/
def Got (a : Addr) (D : Cell) (fV fC : Field) (A : Cell) (o len : Nat) (r : Option Value) (s u : State) : Prop := r = none ∧ ∃ D' V : Cell, Blank "java/lang/String" a D' u ∧ Same D D' [fV.slot, fC.slot] ∧ D'.slots[fV.slot]? = some (.ref s.heap.size) ∧ D'.slots[fC.slot]? = some (.int 0) ∧ Arr .byte s.heap.size V u ∧ V.vm = .none ∧ u.vm.findClass "[B" = some V.cls ∧ V.slots.size = len ∧ (∀ j, j < len → V.slots[j]? = some (.int (lo8 (cv A (o + j))))) ∧ (∀ (y : Addr) (c : Cell), y ≠ a → s.heap[y]? = some c → u.heap[y]? = some c) ∧ u.heap.size = s.heap.size + 1
theorem Got.mv {a : Addr} {D A : Cell} {fV fC : Field} {o len : Nat} : ∀ r (U U' V V' : State), U'.heap = U.heap → V.vm.Alike V'.vm → V'.heap = V.heap → Got a D fV fC A o len r U V → Got a D fV fC A o len r U' V' :=
  fun r U U' V V' h1 hal h2 ⟨e0, D', X, a1, a2, a3, a4, a5, a6, a7, a8, a9, a10, a11⟩ => ⟨e0, D', X, a1.mv hal h2, a2, by rw [h1]; exact a3, a4, by rw [h1]; exact a5.mv hal h2, a6, by rw [hal.findClass]; exact a7, a8, a9, by rw [h1, h2]; exact a10, by rw [h1, h2]; exact a11⟩
namespace New4
def yN : MethodName := ⟨"java/lang/String", "<init>", "([CIILjava/lang/Void;)V"⟩
abbrev yB : ByteArray := jdk_42_method_149_code
theorem d0 : decode yB 0 = .ok (.aload_n 0, 1) := by decide +kernel
theorem d1 : decode yB 1 = .ok (.invokespecial 1, 3) := by decide +kernel
theorem d4 : decode yB 4 = .ok (.iload_n 3, 1) := by decide +kernel
theorem d5 : decode yB 5 = .ok (.ifCond (.ne) 22, 3) := by decide +kernel
theorem d27 : decode yB 27 = .ok (.getstatic 38, 3) := by decide +kernel
theorem d30 : decode yB 30 = .ok (.ifCond (.eq) 28, 3) := by decide +kernel
theorem d33 : decode yB 33 = .ok (.aload_n 1, 1) := by decide +kernel
theorem d34 : decode yB 34 = .ok (.iload_n 2, 1) := by decide +kernel
theorem d35 : decode yB 35 = .ok (.iload_n 3, 1) := by decide +kernel
theorem d36 : decode yB 36 = .ok (.invokestatic 177, 3) := by decide +kernel
theorem d39 : decode yB 39 = .ok (.astore 5, 2) := by decide +kernel
theorem d41 : decode yB 41 = .ok (.aload_n 0, 1) := by decide +kernel
theorem d42 : decode yB 42 = .ok (.aload 5, 2) := by decide +kernel
theorem d44 : decode yB 44 = .ok (.iload_n 3, 1) := by decide +kernel
theorem d45 : decode yB 45 = .ok (.invokestatic 47, 3) := by decide +kernel
theorem d48 : decode yB 48 = .ok (.putfield 15, 3) := by decide +kernel
theorem d51 : decode yB 51 = .ok (.aload_n 0, 1) := by decide +kernel
theorem d52 : decode yB 52 = .ok (.aload 5, 2) := by decide +kernel
theorem d54 : decode yB 54 = .ok (.putfield 9, 3) := by decide +kernel
theorem d57 : decode yB 57 = .ok (.return_, 1) := by decide +kernel
def site : List Cond := [.fieldLink "java/lang/String" 38 "java/lang/String" "COMPACT_STRINGS" "Z", Cmp3.tab, CodL.tab, .laysFinal "java/lang/String" "java/lang/String" "value" "[B", .fieldLink "java/lang/String" 9 "java/lang/String" "value" "[B", .laysFinal "java/lang/String" "java/lang/String" "coder" "B", .fieldLink "java/lang/String" 15 "java/lang/String" "coder" "B"] ++ objW "java/lang/String" 1 ++ staticW "java/lang/String" 177 Cmp3.yN ++ staticW "java/lang/String" 47 CodL.yN
def tab : Cond := tabOf yN yB 6 none site
def P (a : Addr) (D : Cell) (fV fC : Field) (b : Addr) (A : Cell) (z : Int32) (o len : Nat) (args : Array Value) (s : State) : Prop := args = #[.ref a, .ref b, .int (Int32.ofNat o), .int (Int32.ofNat len), .null] ∧ Blank "java/lang/String" a D s ∧ Found "java/lang/String" "value" "[B" fV s ∧ Found "java/lang/String" "coder" "B" fC s ∧ Ch b A s ∧ StaticIs s "java/lang/String" "COMPACT_STRINGS" "Z" (.int z) ∧ ¬ z = 0 ∧ 0 < len ∧ o + len ≤ A.slots.size ∧ len ≤ 536870912 ∧ ∀ i, i < len → ¬ 255 < cv A (o + i)
def E (a : Addr) (D : Cell) (fV fC : Field) (A : Cell) (o len : Nat) (r : Option Value) (s u : State) : Prop := Got a D fV fC A o len r s u
/-- len > 0, no char of the range above 255: a Latin-1 String of their low bytes -/
theorem law (l : Launch) (a : Addr) (D : Cell) (fV fC : Field) (b : Addr) (A : Cell) (z : Int32) (o len : Nat) : Law l yN 5 4 2 35 yB 6 none site (P a D fV fC b A z o len) (E a D fV fC A o len) [⟨a, fC.slot⟩, ⟨a, fV.slot⟩] 1 len := by
  refine Law.of_walk (plainFor_of_name (by decide +kernel)) (by decide +kernel) (by decide +kernel) (by decide) (fun _ _ h => by rw [h.1]; rfl) (fun _ U U' hal hh h => ⟨h.1, h.2.1.mv hal hh, h.2.2.1.al hal, h.2.2.2.1.al hal, h.2.2.2.2.1.mv hal hh, h.2.2.2.2.2.1.there hal hh, h.2.2.2.2.2.2⟩) (fun r U U' V V' h1 hal h2 h => Got.mv r U U' V V' h1 hal h2 h) ?_
  intro p e s m args below meth c s₁ X0 hexec hbytes hml hret hlk hnm hown hh0 W hP
  obtain ⟨rfl, hB, f1, f2, hA, s1, hz, l0, l1, l2, hp⟩ := hP
  have a31 := hA.1.2.2.2
  have c1 : Steps p.tables e below (s₁.setTop (entryFrame m #[.ref a, .ref b, .int (Int32.ofNat o), .int (Int32.ofNat len), .null] 6)) (s₁.setTop (mkF m 0 #[.val (.ref a), .val (.ref b), .val (.int (Int32.ofNat o)), .val (.int (Int32.ofNat len)), .val .null, .unset] [])) := entry rfl
  have c2 : Steps p.tables e below (s₁.setTop (entryFrame m #[.ref a, .ref b, .int (Int32.ofNat o), .int (Int32.ofNat len), .null] 6)) (s₁.setTop (mkF m 1 #[.val (.ref a), .val (.ref b), .val (.int (Int32.ofNat o)), .val (.int (Int32.ofNat len)), .val .null, .unset] [.ref a])) := c1.trans (by
    refine XS.aloadN X0.here hexec rfl (hb hbytes d0) rfl rfl ?_
    exact Steps.refl _)
  obtain ⟨T3, X3, q3, st3⟩ := X0.oinit hexec hown (wks W (objW "java/lang/String" 1)) (g := (mkF m 1 #[.val (.ref a), .val (.ref b), .val (.int (Int32.ofNat o)), .val (.int (Int32.ofNat len)), .val .null, .unset] [.ref a])) rfl (by rw [hml]; rfl) (rest := []) rfl (hb hbytes d1) (W := 0) (by show 2 * 0 + 0 ≤ _; decide) (Nat.le_of_ble_eq_true rfl) (Nat.le_of_ble_eq_true rfl)
  have hh3 := q3.trans hh0
  have c4 : Steps p.tables e below (s₁.setTop (entryFrame m #[.ref a, .ref b, .int (Int32.ofNat o), .int (Int32.ofNat len), .null] 6)) (T3.setTop (mkF m 27 #[.val (.ref a), .val (.ref b), .val (.int (Int32.ofNat o)), .val (.int (Int32.ofNat len)), .val .null, .unset] [])) := (c2.trans (st3 _ (Steps.refl _))).trans (by
    refine XS.iloadN X3.here hexec rfl (hb hbytes d4) rfl ?_
    refine XS.ifYes X3.here hexec rfl (pc0 := 5) rfl (hb hbytes d5) rfl (i0_ne_t (nz32 (by omega) l0)) (by decide) rfl ?_
    exact Steps.refl _)
  obtain ⟨T5, X5, q5, st5⟩ := X3.sget hexec hown (wk W (.fieldLink "java/lang/String" 38 "java/lang/String" "COMPACT_STRINGS" "Z")) s1 (fun _ _ h => by rw [hh3]; exact h) (g := (mkF m 27 #[.val (.ref a), .val (.ref b), .val (.int (Int32.ofNat o)), .val (.int (Int32.ofNat len)), .val .null, .unset] [])) rfl (hb hbytes d27)
  have hh5 := q5.trans hh3
  have c6 : Steps p.tables e below (s₁.setTop (entryFrame m #[.ref a, .ref b, .int (Int32.ofNat o), .int (Int32.ofNat len), .null] 6)) (T5.setTop (mkF m 30 #[.val (.ref a), .val (.ref b), .val (.int (Int32.ofNat o)), .val (.int (Int32.ofNat len)), .val .null, .unset] [.int z])) := c4.trans (st5 _ (Steps.refl _))
  have c7 : Steps p.tables e below (s₁.setTop (entryFrame m #[.ref a, .ref b, .int (Int32.ofNat o), .int (Int32.ofNat len), .null] 6)) (T5.setTop (mkF m 36 #[.val (.ref a), .val (.ref b), .val (.int (Int32.ofNat o)), .val (.int (Int32.ofNat len)), .val .null, .unset] [.int (Int32.ofNat len), .int (Int32.ofNat o), .ref b])) := c6.trans (by
    refine XS.ifNo X5.here hexec rfl (hb hbytes d30) rfl (i0_eq_f hz) ?_
    refine XS.aloadN X5.here hexec rfl (hb hbytes d33) rfl rfl ?_
    refine XS.iloadN X5.here hexec rfl (hb hbytes d34) rfl ?_
    refine XS.iloadN X5.here hexec rfl (hb hbytes d35) rfl ?_
    exact Steps.refl _)
  obtain ⟨v8, T8, X8, E8, g8⟩ := X5.callS hexec (Cmp3.law l b A o len) hown (wks W (staticW "java/lang/String" 177 Cmp3.yN)) (wk W Cmp3.tab) (W := 0) (Nat.le_of_ble_eq_true rfl) (Nat.le_of_ble_eq_true rfl) (Nat.le_refl _) (by show 0 + len ≤ len; omega) (g := (mkF m 36 #[.val (.ref a), .val (.ref b), .val (.int (Int32.ofNat o)), .val (.int (Int32.ofNat len)), .val .null, .unset] [.int (Int32.ofNat len), .int (Int32.ofNat o), .ref b])) rfl (by rw [hml]; rfl) c7 (argsL := [.ref b, .int (Int32.ofNat o), .int (Int32.ofNat len)]) (rest := []) rfl rfl (by show 2 * 0 + 0 ≤ _; decide) (hb hbytes d36) (⟨rfl, hA.mv X5.warmed.alike hh5, l1, l2, hp⟩)
  obtain ⟨e8, z8⟩ := E8
  obtain ⟨rfl, N, n1, n2, n3, n4, n5, n6⟩ := NewArr.mv _ T5 s _ _ hh5.symm (Vm.Alike.refl _) rfl e8
  rw [hh5] at z8
  have hB1 := hB.keep X8.warmed.alike (n6 _ _ hB.1)
  have hne : s.heap.size ≠ a := (Nat.ne_of_lt (Array.getElem?_eq_some_iff.mp hB.1).1).symm
  have c9 : Steps p.tables e below (s₁.setTop (entryFrame m #[.ref a, .ref b, .int (Int32.ofNat o), .int (Int32.ofNat len), .null] 6)) (T8.setTop (mkF m 39 #[.val (.ref a), .val (.ref b), .val (.int (Int32.ofNat o)), .val (.int (Int32.ofNat len)), .val .null, .unset] [.ref s.heap.size])) := g8
  have c10 : Steps p.tables e below (s₁.setTop (entryFrame m #[.ref a, .ref b, .int (Int32.ofNat o), .int (Int32.ofNat len), .null] 6)) (T8.setTop (mkF m 45 #[.val (.ref a), .val (.ref b), .val (.int (Int32.ofNat o)), .val (.int (Int32.ofNat len)), .val .null, .val (.ref s.heap.size)] [.int (Int32.ofNat N.slots.size), .ref s.heap.size, .ref a])) := by
    have hc : Steps p.tables e below (s₁.setTop (entryFrame m #[.ref a, .ref b, .int (Int32.ofNat o), .int (Int32.ofNat len), .null] 6)) (T8.setTop (mkF m 45 #[.val (.ref a), .val (.ref b), .val (.int (Int32.ofNat o)), .val (.int (Int32.ofNat len)), .val .null, .val (.ref s.heap.size)] [.int (Int32.ofNat len), .ref s.heap.size, .ref a])) := c9.trans (by
      refine XS.astore X8.here hexec rfl (hb hbytes d39) rfl rfl rfl ?_
      refine XS.aloadN X8.here hexec rfl (hb hbytes d41) rfl rfl ?_
      refine XS.aload X8.here hexec rfl (hb hbytes d42) rfl rfl ?_
      refine XS.iloadN X8.here hexec rfl (hb hbytes d44) rfl ?_
      exact Steps.refl _)
    rw [n4]; exact hc
  obtain ⟨v11, T11, X11, E11, g11⟩ := X8.callS hexec (CodL.law l s.heap.size N) hown (wks W (staticW "java/lang/String" 47 CodL.yN)) (wk W CodL.tab) (W := 1) (Nat.le_of_ble_eq_true rfl) (Nat.le_of_ble_eq_true rfl) (Nat.le_refl _) (by show 0 + len + 0 ≤ len; omega) (g := (mkF m 45 #[.val (.ref a), .val (.ref b), .val (.int (Int32.ofNat o)), .val (.int (Int32.ofNat len)), .val .null, .val (.ref s.heap.size)] [.int (Int32.ofNat N.slots.size), .ref s.heap.size, .ref a])) rfl (by rw [hml]; rfl) c10 (argsL := [.ref s.heap.size, .int (Int32.ofNat N.slots.size)]) (rest := [.ref a]) rfl rfl (by show 2 * 0 + (1 + 0) ≤ _; decide) (hb hbytes d45) (⟨rfl, n1⟩)
  obtain ⟨rfl, q11⟩ := E11
  have hB11 := hB1.mv (X8.warmed.alike.symm.trans X11.warmed.alike) q11
  have c12 : Steps p.tables e below (s₁.setTop (entryFrame m #[.ref a, .ref b, .int (Int32.ofNat o), .int (Int32.ofNat len), .null] 6)) (T11.setTop (mkF m 48 #[.val (.ref a), .val (.ref b), .val (.int (Int32.ofNat o)), .val (.int (Int32.ofNat len)), .val .null, .val (.ref s.heap.size)] [.int 0, .ref a])) := g11
  obtain ⟨T13, X13, p13, bl13, sl13, st13⟩ := X11.finit hexec hown (wk W (.fieldLink "java/lang/String" 15 "java/lang/String" "coder" "B")) (Or.inr ⟨_, (wk W (.laysFinal "java/lang/String" "java/lang/String" "coder" "B"))⟩) (Or.inl ⟨rfl, hnm⟩) f2 (Or.inl rfl) hB11 (t := .byte) (by decide +kernel) rfl (g := (mkF m 48 #[.val (.ref a), .val (.ref b), .val (.int (Int32.ofNat o)), .val (.int (Int32.ofNat len)), .val .null, .val (.ref s.heap.size)] [.int 0, .ref a])) rfl (rest := []) rfl (hb hbytes d48)
  have c14 : Steps p.tables e below (s₁.setTop (entryFrame m #[.ref a, .ref b, .int (Int32.ofNat o), .int (Int32.ofNat len), .null] 6)) (T13.setTop (mkF m 54 #[.val (.ref a), .val (.ref b), .val (.int (Int32.ofNat o)), .val (.int (Int32.ofNat len)), .val .null, .val (.ref s.heap.size)] [.ref s.heap.size, .ref a])) := (c12.trans (st13 _ (Steps.refl _))).trans (by
    refine XS.aloadN X13.here hexec rfl (hb hbytes d51) rfl rfl ?_
    refine XS.aload X13.here hexec rfl (hb hbytes d52) rfl rfl ?_
    exact Steps.refl _)
  obtain ⟨T15, X15, p15, bl15, sl15, st15⟩ := X13.finit hexec hown (wk W (.fieldLink "java/lang/String" 9 "java/lang/String" "value" "[B")) (Or.inr ⟨_, (wk W (.laysFinal "java/lang/String" "java/lang/String" "value" "[B"))⟩) (Or.inl ⟨rfl, hnm⟩) f1 (Or.inl rfl) bl13 (t := (.array .byte)) (by decide +kernel) rfl (g := (mkF m 54 #[.val (.ref a), .val (.ref b), .val (.int (Int32.ofNat o)), .val (.int (Int32.ofNat len)), .val .null, .val (.ref s.heap.size)] [.ref s.heap.size, .ref a])) rfl (rest := []) rfl (hb hbytes d54)
  have c16 : Steps p.tables e below (s₁.setTop (entryFrame m #[.ref a, .ref b, .int (Int32.ofNat o), .int (Int32.ofNat len), .null] 6)) (T15.setTop (mkF m 57 #[.val (.ref a), .val (.ref b), .val (.int (Int32.ofNat o)), .val (.int (Int32.ofNat len)), .val .null, .val (.ref s.heap.size)] [])) := c14.trans (st15 _ (Steps.refl _))
  have ap := apart (Or.inr ⟨_, (wk W (.laysFinal "java/lang/String" "java/lang/String" "value" "[B"))⟩) (Or.inr ⟨_, (wk W (.laysFinal "java/lang/String" "java/lang/String" "coder" "B"))⟩) f1 f2 (t₁ := .array .byte) (t₂ := .byte) (by decide +kernel) (by decide +kernel) (by decide)
  have al := X8.warmed.alike.symm.trans X15.warmed.alike
  have n7 : T11.heap[s.heap.size]? = some N := by rw [q11]; exact n1.1
  exact ⟨T15, none, _, _, _, X15, by simp, rfl, by omega, (fun _ => rfl), ⟨rfl, _, N, bl15, ((Same.refl D _).set _ (by simp)).set _ (by simp), sl15, (Cell.slots_setSlot_ne _ ap).trans sl13, n1.keep al (p15.other hne (p13.other hne n7)), n2, by rw [al.findClass]; exact n3, n4, n5, fun y c h1 h2 => p15.other h1 (p13.other h1 (by rw [q11]; exact n6 y c h2)), by rw [p15.2.2, p13.2.2, q11]; exact z8⟩, fun fs hl => c16.trans (X15.returnOut hexec hret (hb hbytes d57) hl)⟩
end New4
namespace New1
def yN : MethodName := ⟨"java/lang/String", "<init>", "([C)V"⟩
abbrev yB : ByteArray := jdk_42_method_3_code
theorem d0 : decode yB 0 = .ok (.aload_n 0, 1) := by decide +kernel
theorem d1 : decode yB 1 = .ok (.aload_n 1, 1) := by decide +kernel
theorem d2 : decode yB 2 = .ok (.iconst 0, 1) := by decide +kernel
theorem d3 : decode yB 3 = .ok (.aload_n 1, 1) := by decide +kernel
theorem d4 : decode yB 4 = .ok (.arraylength, 1) := by decide +kernel
theorem d5 : decode yB 5 = .ok (.aconst_null, 1) := by decide +kernel
theorem d6 : decode yB 6 = .ok (.invokespecial 27, 3) := by decide +kernel
theorem d9 : decode yB 9 = .ok (.return_, 1) := by decide +kernel
def site : List Cond := [New4.tab] ++ initW "java/lang/String" 27 New4.yN
def tab : Cond := tabOf yN yB 2 none site
def P (a : Addr) (D : Cell) (fV fC : Field) (b : Addr) (A : Cell) (z : Int32) (args : Array Value) (s : State) : Prop := args = #[.ref a, .ref b] ∧ Blank "java/lang/String" a D s ∧ Found "java/lang/String" "value" "[B" fV s ∧ Found "java/lang/String" "coder" "B" fC s ∧ Ch b A s ∧ StaticIs s "java/lang/String" "COMPACT_STRINGS" "Z" (.int z) ∧ ¬ z = 0 ∧ 0 < A.slots.size ∧ A.slots.size ≤ 536870912 ∧ ∀ i, i < A.slots.size → ¬ 255 < cv A i
def E (a : Addr) (D : Cell) (fV fC : Field) (A : Cell) (r : Option Value) (s u : State) : Prop := Got a D fV fC A 0 A.slots.size r s u
/-- new String(chars), not empty, no char above 255: a Latin-1 String of their low bytes -/
theorem law (l : Launch) (a : Addr) (D : Cell) (fV fC : Field) (b : Addr) (A : Cell) (z : Int32) : Law l yN 2 1 3 52 yB 2 none site (P a D fV fC b A z) (E a D fV fC A) [⟨a, fC.slot⟩, ⟨a, fV.slot⟩] 1 A.slots.size := by
  refine Law.of_walk (plainFor_of_name (by decide +kernel)) (by decide +kernel) (by decide +kernel) (by decide) (fun _ _ h => by rw [h.1]; rfl) (fun _ U U' hal hh h => ⟨h.1, h.2.1.mv hal hh, h.2.2.1.al hal, h.2.2.2.1.al hal, h.2.2.2.2.1.mv hal hh, h.2.2.2.2.2.1.there hal hh, h.2.2.2.2.2.2⟩) (fun r U U' V V' h1 hal h2 h => Got.mv r U U' V V' h1 hal h2 h) ?_
  intro p e s m args below meth c s₁ X0 hexec hbytes hml hret hlk hnm hown hh0 W hP
  obtain ⟨rfl, hB, f1, f2, hA, s1, hz, l0, l2, hp⟩ := hP
  have c1 : Steps p.tables e below (s₁.setTop (entryFrame m #[.ref a, .ref b] 2)) (s₁.setTop (mkF m 0 #[.val (.ref a), .val (.ref b)] [])) := entry rfl
  have c2 : Steps p.tables e below (s₁.setTop (entryFrame m #[.ref a, .ref b] 2)) (s₁.setTop (mkF m 6 #[.val (.ref a), .val (.ref b)] [.null, .int (Int32.ofNat A.slots.size), .int 0, .ref b, .ref a])) := c1.trans (by
    refine XS.aloadN X0.here hexec rfl (hb hbytes d0) rfl rfl ?_
    refine XS.aloadN X0.here hexec rfl (hb hbytes d1) rfl rfl ?_
    refine iconstV X0.here hexec rfl 0 (hb hbytes d2) (by decide) ?_
    refine XS.aloadN X0.here hexec rfl (hb hbytes d3) rfl rfl ?_
    refine X0.alen hexec (hA.1.mv X0.warmed.alike hh0) rfl rfl (hb hbytes d4) ?_
    refine XS.aconstNull X0.here hexec rfl (hb hbytes d5) ?_
    exact Steps.refl _)
  obtain ⟨v3, T3, X3, E3, g3⟩ := X0.callN hexec (New4.law l a D fV fC b A z 0 A.slots.size) rfl hown (wks W (initW "java/lang/String" 27 New4.yN)) (W New4.tab (by simp only [site, List.mem_cons, List.mem_append, true_or, or_true])) (W := 0) (Nat.le_of_ble_eq_true rfl) (Nat.le_of_ble_eq_true rfl) (Nat.le_refl _) (by show 0 + A.slots.size ≤ A.slots.size; omega) (g := (mkF m 6 #[.val (.ref a), .val (.ref b)] [.null, .int (Int32.ofNat A.slots.size), .int (Int32.ofNat 0), .ref b, .ref a])) rfl (by rw [hml]; rfl) c2 (argsL := [.ref b, .int (Int32.ofNat 0), .int (Int32.ofNat A.slots.size), .null]) (rest := []) rfl rfl (by show 2 * 0 + 0 ≤ _; decide) (hb hbytes d6) (⟨rfl, hB.mv X0.warmed.alike hh0, f1.al X0.warmed.alike, f2.al X0.warmed.alike, hA.mv X0.warmed.alike hh0, s1.there X0.warmed.alike hh0, hz, l0, by omega, l2, fun i hi => by rw [Nat.zero_add]; exact hp i hi⟩)
  have e0 := Got.mv _ s₁ s _ _ hh0.symm (Vm.Alike.refl _) rfl E3
  obtain rfl := e0.1
  have c4 : Steps p.tables e below (s₁.setTop (entryFrame m #[.ref a, .ref b] 2)) (T3.setTop (mkF m 9 #[.val (.ref a), .val (.ref b)] [])) := g3
  exact ⟨T3, none, _, _, _, X3, by simp, rfl, by omega, (fun _ => rfl), e0, fun fs hl => c4.trans (X3.returnOut hexec hret (hb hbytes d9) hl)⟩
theorem pays {l : Launch} {R : Room} {p : Program} {e : Env} {below : List Frame} {s : State} {sargs : Array Value} {len W : Nat} (a : Addr) (D : Cell) (fV fC : Field) (b : Addr) (A : Cell) (z : Int32) (htab : tab.before sargs s = true) (hfr : 4 ≤ R.frames) (hlo : W + 65 ≤ R.locals) :
    Back l R p e below s sargs yN len W (fun A₁ a₁ => A₁.cells + 1 ≤ R.cells ∧ A₁.slots + A.slots.size ≤ R.slots ∧ P a D fV fC b A z a₁ A₁.U) (fun A₁ _ v₁ B₁ => E a D fV fC A v₁ A₁.U B₁.U ∧ B₁.locs = A₁.locs ++ [⟨a, fC.slot⟩, ⟨a, fV.slot⟩] ∧ B₁.cells = A₁.cells + 1 ∧ B₁.slots = A₁.slots + A.slots.size) :=
  (law l a D fV fC b A z).pays htab hfr (by omega)
end New1
end StrChars
namespace StrChars.Road
open Jvm Sem ClassFile Op Lib Jvm.Stand Jvm.Free Jvm.Free.XT
open Jvm.Lib.Cold (StaticIs)
abbrev ST : String := "java/lang/String"
/-- every table word that New1's law asks, flat -/
abbrev words : List Jvm.Cond := [.code New1.yN New1.yB 2 none, .initialized ST, .methodLink ST 27 New4.yN, .instanceMethod New4.yN,
  .code New4.yN New4.yB 6 none, .fieldLink ST 38 ST "COMPACT_STRINGS" "Z", .laysFinal ST ST "value" "[B", .fieldLink ST 9 ST "value" "[B", .laysFinal ST ST "coder" "B", .fieldLink ST 15 ST "coder" "B",
  .methodLink ST 1 Lib.objectInit, .instanceMethod Lib.objectInit, .code Lib.objectInit ⟨#[0xb1]⟩ 1 none, .methodLink ST 177 Cmp3.yN, .static Cmp3.yN, .methodLink ST 47 CodL.yN, .static CodL.yN,
  .code Cmp3.yN Cmp3.yB 6 (some (.array .byte)), .initialized U16, .arrayClass .byte, .methodLink U16 115 Cmp5.yN, .static Cmp5.yN, .code Cmp5.yN Cmp5.yB 7 (some .int), .code CodL.yN CodL.yB 2 (some .byte)]
theorem tab_of {a : Array Value} {s : State} (h : ∀ w ∈ words, w.before a s = true) : New1.tab.before a s = true := by
  have h5 : Cmp5.tab.before a s = true := unparts (wk h (.code Cmp5.yN Cmp5.yB 7 (some .int))) (wks h (.initialized Cmp5.yN.cls :: Cmp5.site))
  have hc : CodL.tab.before a s = true := unparts (wk h (.code CodL.yN CodL.yB 2 (some .byte))) (wks h (.initialized CodL.yN.cls :: CodL.site))
  have q5 : ∀ w ∈ Cmp5.tab :: words, w.before a s = true := fun w hw => (List.mem_cons.mp hw).elim (fun e => e ▸ h5) (h w)
  have h3 : Cmp3.tab.before a s = true := unparts (wk q5 (.code Cmp3.yN Cmp3.yB 6 (some (.array .byte)))) (wks q5 (.initialized Cmp3.yN.cls :: Cmp3.site))
  have q3 : ∀ w ∈ Cmp3.tab :: CodL.tab :: words, w.before a s = true := fun w hw => (List.mem_cons.mp hw).elim (fun e => e ▸ h3) fun hw => (List.mem_cons.mp hw).elim (fun e => e ▸ hc) (h w)
  have h4 : New4.tab.before a s = true := unparts (wk q3 (.code New4.yN New4.yB 6 none)) (wks q3 (.initialized New4.yN.cls :: New4.site))
  have q4 : ∀ w ∈ New4.tab :: words, w.before a s = true := fun w hw => (List.mem_cons.mp hw).elim (fun e => e ▸ h4) (h w)
  exact unparts (wk q4 (.code New1.yN New1.yB 2 none)) (wks q4 (.initialized New1.yN.cls :: New1.site))
/-- the words ride from the start Z to the walk's own state -/
theorem moved {Z s : State} {a0 args : Array Value} (hZ : Z.Warmed39 s.vm) (hw : ∀ d ∈ words, d.before a0 Z = true) : ∀ d ∈ words, d.before args s = true := fun d hd => by
  have q := hw d hd
  have t : ∀ d ∈ words, d = .arrayClass .byte ∨ (d.onTables && d.keepsFace) = true := by decide +kernel
  rcases t d hd with rfl | t
  · exact RoadKit.mvA hZ q
  · exact RoadKit.mv hZ q t
/-- WHAT COMES BACK, over the tables of the start Z: h the heap at the call, h' behind it -/
def Q (Z : State) (x : Addr) (A : Cell) (h : Heap) (v : Option Value) (h' : Heap) (L : List Loc) : Prop := v = none ∧ (∀ y ∈ L, y.base = x) ∧ RoadKit.Keep h h' [x] ∧ h'.size = h.size + 1 ∧ RoadKit.Exa Z h' x ST ∧ RoadKit.Fld Z h' x ST "value" "[B" (.ref h.size) ∧ RoadKit.Fld Z h' x ST "coder" "B" (.int 0) ∧
  (∃ V : Cell, RoadKit.Arr Z h' h.size V .byte ∧ V.vm = .none ∧ Z.vm.findClass "[B" = some V.cls ∧ V.slots.size = A.slots.size ∧ ∀ j, j < A.slots.size → V.slots[j]? = some (.int (lo8 (cv A j)))) ∧
  ∀ (O n d : String) (w : Value), RoadKit.Fld Z h x O n d w → RoadKit.slotOf Z O n d ≠ RoadKit.slotOf Z ST "value" "[B" → RoadKit.slotOf Z O n d ≠ RoadKit.slotOf Z ST "coder" "B" → RoadKit.Fld Z h' x O n d w
/-- **new String(chars) AT A CALL, IN THE ROAD'S FORM**: for specialBack behind newO: x the fresh String, b the char[] with the cell A -/
theorem back {p : Program} {l : Launch} {e : Env} {R : Room} {s : State} {args : Array Value} {below : List Frame} {len W : Nat} {Z : State} {a0 : Array Value} {h : Heap} (hZ : Z.Warmed39 s.vm) (hw : ∀ d ∈ words, d.before a0 Z = true) {kI : Nat} (wi : (Jvm.Cond.instantiable ST kI).before a0 Z = true)
    {x b : Addr} {A : Cell} {z : Int32} {v0 c0 : Value} (E : RoadKit.Exa Z h x ST) (V : RoadKit.Fld Z h x ST "value" "[B" v0) (C : RoadKit.Fld Z h x ST "coder" "B" c0) (K : RoadKit.Arr Z h b A .char) (hty : Typed .char A) (S : RoadKit.Sta Z h ST "COMPACT_STRINGS" "Z" (.int z)) (hz : ¬ z = 0)
    (l0 : 0 < A.slots.size) (l2 : A.slots.size ≤ 536870912) (hp : ∀ i, i < A.slots.size → ¬ 255 < cv A i) (hfr : 4 ≤ R.frames) (hlo : W + 65 ≤ R.locals) :
    Back l R p e below s args New1.yN len W (fun P a => a = #[.ref x, .ref b] ∧ P.U.heap = h ∧ P.cells + 1 ≤ R.cells ∧ P.slots + A.slots.size ≤ R.slots)
      (fun P _ v B => ∃ L, Q Z x A h v B.U.heap L ∧ B.locs = P.locs ++ L ∧ B.cells = P.cells + 1 ∧ B.slots = P.slots + A.slots.size) := by
  intro m meth c P g ig mk a X hg hsize hdg hW hn hp'
  obtain ⟨rfl, rfl, r1, r2⟩ := hp'
  have al : Z.vm.Alike P.U.vm := hZ.alike.trans X.warmed.alike
  obtain ⟨D, cfV, kV, iV, fV, hD, gV, stV, knV, obV, asV, slV⟩ := id V
  obtain ⟨D', cfC, kC, iC, fC, hD', gC, stC, -, -, asC, slC⟩ := id C
  cases hD.symm.trans hD'
  obtain ⟨D2, kD, e1, e2, e3, e4, e5⟩ := id E
  cases hD.symm.trans e1
  obtain ⟨c2, k2, i1, i2, i3, -⟩ := Cond.instantiable_spec wi
  cases e2.symm.trans i1
  cases e3.symm.trans i2
  obtain ⟨kU, u1, u2⟩ := al.2.2 _ _ e3
  have hB : Blank ST x D P.U := ⟨hD, ⟨knV, fun q hq => by rw [hq] at obV; cases obV⟩, by rw [al.findClass]; exact e2, kU, u1, by rw [u2]; exact i3, by rw [u2]; exact e5 i3⟩
  have F1 : Found ST "value" "[B" fV P.U := ⟨SBG.found_only al ⟨cfV, kV, iV, gV⟩, stV⟩
  have F2 : Found ST "coder" "B" fC P.U := ⟨SBG.found_only al ⟨cfC, kC, iC, gC⟩, stC⟩
  have hA : Ch b A P.U := ⟨⟨K.1, State.isArrayOf_alike al K.2.1, K.2.2, by omega⟩, hty⟩
  have hS : StaticIs P.U ST "COMPACT_STRINGS" "Z" (.int z) := by
    obtain ⟨cfS, iS, kS, fS, st, cS, t1, t2, t3, t4, t5, t6, t7⟩ := S
    exact StaticIs.there (s := { Z with heap := P.U.heap }) ⟨cfS, iS, kS, fS, st, cS, t1, t2, t3, t4, t5, (fun q => by rw [q] at t6; cases t6), t7⟩ al rfl
  obtain ⟨v, B, X', ⟨⟨hv, E', V', q1, q2, q3, q4, q5, q6, q7, q8, q9, q10, q11⟩, hl, hc, hs⟩, st⟩ := New1.pays x D fV fC b A z (tab_of (moved hZ hw)) hfr hlo m meth c P g ig mk _ X hg hsize hdg hW hn ⟨r1, r2, rfl, hB, F1, F2, hA, hS, hz, l0, l2, hp⟩
  have al' : Z.vm.Alike B.U.vm := hZ.alike.trans X'.warmed.alike
  have hsz : E'.slots.size = D.slots.size := by
    obtain ⟨-, -, -, kB, w1, w2, w3⟩ := q1
    obtain ⟨kB', y1, y2⟩ := al'.2.2 _ _ e3
    rw [q2.2.1] at w1
    cases w1.symm.trans y1
    rw [w3, e5 i3, y2]
  refine ⟨v, B, X', ⟨_, ⟨hv, ?_, ⟨by omega, fun y cy hy hn' => q10 y cy (by simpa using hn') hy, fun y cy hy => ?_⟩, q11, ⟨E', _, q1.1, by rw [q2.2.1]; exact e2, by rw [q2.2.1]; exact e3, by rw [q2.1]; exact obV, fun _ => by rw [hsz]; exact e5 i3⟩,
    ⟨E', cfV, kV, iV, fV, q1.1, gV, stV, by rw [q2.1]; exact knV, by rw [q2.1]; exact obV, by rw [q2.2.1]; exact asV, q3⟩, ⟨E', cfC, kC, iC, fC, q1.1, gC, stC, by rw [q2.1]; exact knV, by rw [q2.1]; exact obV, by rw [q2.2.1]; exact asC, q4⟩,
    ⟨V', ⟨q5.1, State.isArrayOf_alike al'.symm q5.2.1, q5.2.2.1⟩, q6, by rw [← al'.findClass]; exact q7, q8, fun j hj => by have := q9 j hj; rwa [Nat.zero_add] at this⟩, fun O n d w F n1 n2 => ?_⟩, hl, hc, hs⟩, st⟩
  · intro y hy
    simp only [List.mem_cons, List.not_mem_nil, or_false] at hy
    rcases hy with rfl | rfl <;> rfl
  · by_cases q : y = x
    · subst q
      cases hD.symm.trans hy
      exact ⟨E', q1.1, q2.2.1, q2.1, hsz⟩
    · exact ⟨cy, q10 y cy q hy, rfl, rfl, rfl⟩
  · obtain ⟨D3, cf, k, i, f, g1, g2, g3, g4, g5, g6, g7⟩ := F
    cases hD.symm.trans g1
    simp only [RoadKit.slotOf, g2, gV, gC, Option.map_some, Option.getD_some] at n1 n2
    exact ⟨E', cf, k, i, f, q1.1, g2, g3, by rw [q2.1]; exact g4, by rw [q2.1]; exact g5, by rw [q2.2.1]; exact g6, by rw [q2.2.2 f.slot (by simp [n1, n2])]; exact g7⟩
end StrChars.Road
namespace StrChars.Road
open Jvm Sem ClassFile Op Lib Jvm.Stand Jvm.Free Jvm.Free.XT
/-- WHAT COMES BACK, the byte[] as a list of values -/
def QA (Z : State) (x : Addr) (zn : Int32) (cs : List Int32) (h : Heap) (v : Option Value) (h' : Heap) (L : List Loc) : Prop := v = none ∧ (∀ y ∈ L, y.base = x) ∧ RoadKit.Keep h h' [x] ∧ h'.size = h.size + 1 ∧ RoadKit.Exa Z h' x ST ∧ RoadKit.Fld Z h' x ST "value" "[B" (.ref h.size) ∧ RoadKit.Fld Z h' x ST "coder" "B" (.int 0) ∧
  (∃ kb, Z.vm.findClass "[B" = some kb ∧ RoadKit.Arv Z h' h.size kb .byte zn (cs.map fun c => .int (lo8 c)) (.int 0)) ∧
  ∀ (O n d : String) (w : Value), RoadKit.Fld Z h x O n d w → RoadKit.slotOf Z O n d ≠ RoadKit.slotOf Z ST "value" "[B" → RoadKit.slotOf Z O n d ≠ RoadKit.slotOf Z ST "coder" "B" → RoadKit.Fld Z h' x O n d w
/-- **new String(chars) AT A CALL, THE ARRAYS AS LISTS**: the char[] at b holds cs, not empty, no char above 255 -/
theorem backArv {p : Program} {l : Launch} {e : Env} {R : Room} {s : State} {args : Array Value} {below : List Frame} {len W : Nat} {Z : State} {a0 : Array Value} {h : Heap} (hZ : Z.Warmed39 s.vm) (hw : ∀ d ∈ words, d.before a0 Z = true) {kI : Nat} (wi : (Jvm.Cond.instantiable ST kI).before a0 Z = true)
    {x b : Addr} {k : ClassId} {zn z : Int32} {cs : List Int32} {dv v0 c0 : Value} (E : RoadKit.Exa Z h x ST) (V : RoadKit.Fld Z h x ST "value" "[B" v0) (C : RoadKit.Fld Z h x ST "coder" "B" c0) (K : RoadKit.Arv Z h b k .char zn (cs.map Value.int) dv) (S : RoadKit.Sta Z h ST "COMPACT_STRINGS" "Z" (.int z)) (hz : ¬ z = 0)
    (hlen : zn.toNatClampNeg = cs.length) (h0 : 0 < cs.length) (hbig : cs.length ≤ 536870912) (hall : ∀ c ∈ cs, ¬ 255 < c) (hfr : 4 ≤ R.frames) (hlo : W + 65 ≤ R.locals) :
    Back l R p e below s args New1.yN len W (fun P a => a = #[.ref x, .ref b] ∧ P.U.heap = h ∧ P.cells + 1 ≤ R.cells ∧ P.slots + cs.length ≤ R.slots)
      (fun P _ v B => ∃ L, QA Z x zn cs h v B.U.heap L ∧ B.locs = P.locs ++ L ∧ B.cells = P.cells + 1 ∧ B.slots = P.slots + cs.length) := by
  obtain ⟨A, K1, K2, K3, K4, K5, K6⟩ := K
  have e : A.slots.size = cs.length := K3.trans hlen
  have hat : ∀ (i : Nat) (hi : i < cs.length), A.slots[i]? = some (.int cs[i]) := fun i hi => by rw [K5 i (by omega)]; simp [List.getD_eq_getElem?_getD, hi]
  have hcv : ∀ (i : Nat) (hi : i < cs.length), cv A i = cs[i] := fun i hi => by unfold cv; rw [hat i hi]
  have hty : Typed .char A := fun i v hv => by
    have hi : i < A.slots.size := (Array.getElem?_eq_some_iff.mp hv).1
    have q := K5 i hi
    rw [hv] at q
    rw [Option.some.inj q]
    exact K6 i hi
  refine Back.mono (back hZ hw wi E V C K1 hty S hz (by omega) (by omega) (fun i hi => by rw [hcv i (by omega)]; exact hall _ (List.getElem_mem _)) hfr hlo) (fun P a hp => ⟨hp.1, hp.2.1, hp.2.2.1, by rw [e]; exact hp.2.2.2⟩) (fun P a v B hp hq => ?_)
  obtain ⟨L, ⟨q1, q2, q3, q4, q5, q6, q7, ⟨V', v1, v2, v3, v4, v5⟩, q9⟩, hl, hc, hs⟩ := hq
  refine ⟨L, ⟨q1, q2, q3, q4, q5, q6, q7, ⟨V'.cls, v3, V', v1, rfl, by rw [v4, e, hlen], K4, fun i hi => ?_, fun i hi => ?_⟩, q9⟩, hl, hc, by rw [hs, e]⟩
  · have hi' : i < cs.length := by omega
    rw [v5 i (by omega), hcv i hi']; simp [List.getD_eq_getElem?_getD, hi']
  · have hi' : i < cs.length := by omega
    simp only [List.getD_eq_getElem?_getD, List.getElem?_map, List.getElem?_eq_getElem hi', Option.map_some, Option.getD_some]
    exact fits_lo8 _
end StrChars.Road
namespace StrChars.Road
open Jvm Sem ClassFile Op Lib Jvm.Stand Jvm.Free Jvm.Free.XT
/-- WHAT COMES BACK, in the writer's own shape -/
def QV (Z : State) (x : Addr) (N : Int32) (bs : List Int32) (h : Heap) (n0 : Nat) (v : Option Value) (h' : Heap) (L : List Loc) : Prop := v = none ∧ RoadKit.Fr n0 L ∧ RoadKit.Keep h h' [x] ∧ RoadKit.Exa Z h' x ST ∧ RoadKit.Fld Z h' x ST "coder" "B" (.int 0) ∧
  ∃ (t : Addr) (kb : ClassId), n0 ≤ t ∧ h.size ≤ t ∧ ¬ t = x ∧ RoadKit.Fld Z h' x ST "value" "[B" (.ref t) ∧ RoadKit.Arv Z h' t kb .byte N (bs.map Value.int) (.int 0)
/-- **new String(chars) AT A CALL, FOR THE WRITER**: a char[] of n known ints, each 0 to 255 -/
theorem backV {p : Program} {l : Launch} {e : Env} {R : Room} {s : State} {args : Array Value} {below : List Frame} {len W : Nat} {Z : State} {a0 : Array Value} {h : Heap} (hZ : Z.Warmed39 s.vm) (hw : ∀ d ∈ words, d.before a0 Z = true) {kI : Nat} (wi : (Jvm.Cond.instantiable ST kI).before a0 Z = true)
    {x b : Addr} {kC : ClassId} {cs bs : List Int32} {d v0 c0 : Value} {z N : Int32} {n n0 : Nat} (hx0 : n0 ≤ x) (hh0 : n0 ≤ h.size) (E : RoadKit.Exa Z h x ST) (V : RoadKit.Fld Z h x ST "value" "[B" v0) (C : RoadKit.Fld Z h x ST "coder" "B" c0) (K : RoadKit.Arv Z h b kC .char N (cs.map Value.int) d) (S : RoadKit.Sta Z h ST "COMPACT_STRINGS" "Z" (.int z)) (hz : ¬ z = 0)
    (hn : cs.length = n) (hN : N = Int32.ofNat n) (l0 : 0 < n) (l2 : n ≤ 4000) (hp : ∀ c ∈ cs, ¬ c < 0 ∧ ¬ (255 : Int32) < c) (hb : bs = cs.map (fun c => c.toInt8.toInt32)) (hfr : 4 ≤ R.frames) (hlo : W + 65 ≤ R.locals) :
    Back l R p e below s args (⟨"java/lang/String", "<init>", "([C)V"⟩ : MethodName) len W (fun P a => a = #[.ref x, .ref b] ∧ P.U.heap = h ∧ P.cells + 1 ≤ R.cells ∧ P.slots + n ≤ R.slots)
      (fun P _ v B => ∃ L, QV Z x N bs h n0 v B.U.heap L ∧ B.locs = P.locs ++ L ∧ B.cells = P.cells + 1 ∧ B.slots = P.slots + n) := by
  subst hn hN hb
  refine Back.mono (backArv hZ hw wi E V C K S hz (n32 (by omega)) l0 (by omega) (fun c hc => (hp c hc).2) hfr hlo) (fun P a hp => hp) (fun P a v B hp hq => ?_)
  obtain ⟨L, ⟨q1, q2, q3, q4, q5, q6, q7, ⟨kb, v1, v2⟩, q9⟩, hl, hc, hs⟩ := hq
  exact ⟨L, ⟨q1, fun y hy => by rw [q2 y hy]; exact hx0, q3, q5, q7, h.size, kb, hh0, Nat.le_refl _, Nat.ne_of_gt E.lt, q6, by rw [List.map_map]; exact v2⟩, hl, hc, hs⟩
end StrChars.Road
namespace StrChars
open Jvm Sem ClassFile Op Lib Jvm.Stand Jvm.Free.XT Jvm.Free.ALB Jvm.Free.JM Jvm.Free
open Jvm.Lib.Cold (StaticIs)
def hi8 (x : Int32) : Int32 := lo8 (x >>> ((8 : Int32) &&& 31))
end StrChars
namespace StrChars.Road
open Jvm Sem ClassFile Op Lib Jvm.Stand Jvm.Free Jvm.Free.XT
open Jvm.Lib.Cold (StaticIs)
/-- the bytes of the chars cs, low before high -/
def wideBytes : List Int32 → List Value
  | [] => []
  | c :: cs => .int (lo8 c) :: .int (hi8 c) :: wideBytes cs
/-- an array of N2 bytes vs codes the chars cs by the coder cd -/
def CodA (cs : List Int32) (cd N2 : Int32) (vs : List Value) : Prop := (cd = 0 ∧ N2 = Int32.ofNat cs.length ∧ vs = (cs.map fun c => Value.int (lo8 c)) ∧ ∀ c ∈ cs, ¬ 255 < c) ∨ (cd = 1 ∧ N2 = Int32.ofNat (2 * cs.length) ∧ vs = wideBytes cs ∧ ∃ c ∈ cs, 255 < c)
end StrChars.Road
namespace StrChars.Road
open Jvm Sem ClassFile Op Lib Jvm.Stand Jvm.Free Jvm.Free.XT
open Jvm.Lib.Cold (StaticIs)
/-- what backV says of its String, as the contracts of this text ask it: cs's low bytes, coder 0 -/
theorem codOf {cs : List Int32} {n : Nat} (hn : cs.length = n) (hb : ∀ c ∈ cs, ¬ 255 < c) : CodA cs 0 (Int32.ofNat n) ((cs.map lo8).map Value.int) := Or.inl ⟨rfl, by rw [hn], by simp [List.map_map, Function.comp_def], hb⟩
end StrChars.Road
end Jvm.Pilot.@@N@@

namespace Jvm.Pilot.@@N@@
namespace OK
open Jvm Jvm.ClassFile Sem Op Lib Bundle Jvm.Stand Jvm.Free Jvm.LawKit Jvm.RoadKit
/-! own layer: one predicate for "the walk stands here" (Wk), one for the goal (Go), one for contracts (Ct narrow, Cw wide) -/
def Go (p : Program) (e : Env) (below : List Frame) (Fin : State → Outcome → Prop) (U : State) : Prop := ∃ t o, Steps p.tables e below U t ∧ t.status = .running ∧ Ended t below o ∧ Fin t o
theorem Go.by {p : Program} {e : Env} {below : List Frame} {Fin : State → Outcome → Prop} {U U' : State} (st : ∀ t, Steps p.tables e below U' t → Steps p.tables e below U t) (k : Go p e below Fin U') : Go p e below Fin U := by
  obtain ⟨t, o, h1, h2⟩ := k
  exact ⟨t, o, st _ h1, h2⟩
theorem Go.tr {p : Program} {e : Env} {below : List Frame} {Fin : State → Outcome → Prop} {U U' : State} (st : Steps p.tables e below U U') (k : Go p e below Fin U') : Go p e below Fin U := by
  obtain ⟨t, o, h1, h2⟩ := k
  exact ⟨t, o, st.trans h1, h2⟩
def Cst (p : Program) (meth : Method) (c : Code) (y : MethodName) (bytes : ByteArray) (maxL : Nat) (ret : Option FieldType) : Prop := p.tables.exec = Jvm.exec ∧ c.code = bytes ∧ c.maxLocals = maxL ∧ meth.name = y.name ∧ meth.sig.returnType = ret ∧ meth.locks = false
def Sfs (Z : State) (EL : List (String × Nat)) (n0 : Nat) (vm : Vm) (h : Heap) (sf : List Addr) : Prop := ∀ x ∈ sf, n0 ≤ x ∧ x < h.size ∧ Safe Z EL vm h x
theorem Sfs.go {Z : State} {EL : List (String × Nat)} {n0 : Nat} {vm vm1 : Vm} {h h' : Heap} {sf : List Addr} (S : Sfs Z EL n0 vm h sf) (D : CHr Z EL vm h vm1 h') : Sfs Z EL n0 vm1 h' sf := fun x hx =>
  ⟨(S x hx).1, Nat.lt_of_lt_of_le (S x hx).2.1 D.2.1, D.safe (S x hx).2.1 (S x hx).2.2⟩
def Ende (b : Bool) (s : State) (o : Outcome) (t : State) (L : List Loc) (k n : Nat) : Prop := match b with | true => ReturnedEndW s o t L k n | false => FrameEnd s o t L k n
def Wk (b : Bool) (p : Program) (l : Launch) (e : Env) (R : Room) (s : State) (m : MethodId) (args : Array Value) (below : List Frame) (meth : Method) (c : Code) (Z : State) (EL : List (String × Nat)) (y : MethodName) (bytes : ByteArray) (maxL : Nat) (ret : Option FieldType) (n0 : Nat) (h0 : Heap) (T : State) (h : Heap) (sf : List Addr) (cells slots : Nat) : Prop :=
  ∃ (vm0 : Vm) (k0 : Nat) (locs : List Loc) (a0 : Array Value), Stand p l e R (s.setVm vm0) m args below meth c T locs cells slots ∧ T.heap = h ∧ (b = false → vm0 = s.vm) ∧ s.Since vm0 k0 ∧ k0 ≤ h.size ∧ Z.Warmed39 vm0 ∧ vm0.findClass y.cls = some m.cls ∧ Fr n0 locs ∧ CHr Z EL s.vm h0 vm0 h ∧ Sfs Z EL n0 vm0 h sf ∧ EW Z a0 EL ∧ Old Z n0 h ∧ Cst p meth c y bytes maxL ret
def Fi (b : Bool) (R : Room) (s : State) (Z : State) (EL : List (String × Nat)) (n0 : Nat) (h0 : Heap) (ws : List Addr) (Q : Option Value → Heap → Prop) (t : State) (o : Outcome) : Prop :=
  ∃ v L, o = .returned v ∧ Keep h0 t.heap ws ∧ Q v t.heap ∧ Fr n0 L ∧ CHr Z EL s.vm h0 t.vm t.heap ∧ Ende b s o t L R.cells R.slots
section Walk
variable {b : Bool} {p : Program} {l : Launch} {e : Env} {R : Room} {s : State} {m : MethodId} {args : Array Value} {below : List Frame} {meth : Method} {c : Code} {Z : State} {EL : List (String × Nat)} {y : MethodName} {bytes : ByteArray} {maxL : Nat} {ret : Option FieldType} {n0 : Nat} {h0 : Heap} {T : State} {h h' : Heap} {sf ws : List Addr} {cells slots : Nat} {a0 : Array Value} {Q : Option Value → Heap → Prop}
theorem Wk.here (X : Wk b p l e R s m args below meth c Z EL y bytes maxL ret n0 h0 T h sf cells slots) : At T m c below := by obtain ⟨_, _, _, _, X, -⟩ := X; exact X.here
theorem Wk.cst (X : Wk b p l e R s m args below meth c Z EL y bytes maxL ret n0 h0 T h sf cells slots) : Cst p meth c y bytes maxL ret := by obtain ⟨_, _, _, _, _, _, _, _, _, _, _, _, _, _, _, _, C⟩ := X; exact C
theorem Wk.hx (X : Wk b p l e R s m args below meth c Z EL y bytes maxL ret n0 h0 T h sf cells slots) : p.tables.exec = Jvm.exec := X.cst.1
theorem Wk.cd (X : Wk b p l e R s m args below meth c Z EL y bytes maxL ret n0 h0 T h sf cells slots) {pc : Nat} {r : Except DecodeError (Instr × Nat)} (d : decode bytes pc = r) : decode c.code pc = r := by rw [X.cst.2.1]; exact d
theorem Wk.eh (X : Wk b p l e R s m args below meth c Z EL y bytes maxL ret n0 h0 T h sf cells slots) : T.heap = h := by obtain ⟨_, _, _, _, _, q, -⟩ := X; exact q
theorem Wk.old (X : Wk b p l e R s m args below meth c Z EL y bytes maxL ret n0 h0 T h sf cells slots) : Old Z n0 h := by obtain ⟨_, _, _, _, _, _, _, _, _, _, _, _, _, _, _, O, -⟩ := X; exact O
theorem Wk.nle (X : Wk b p l e R s m args below meth c Z EL y bytes maxL ret n0 h0 T h sf cells slots) : n0 ≤ h.size := by have := X.old; rw [← this.1]; exact this.2.1
theorem Wk.sz (X : Wk b p l e R s m args below meth c Z EL y bytes maxL ret n0 h0 T h sf cells slots) : h0.size ≤ h.size := by obtain ⟨_, _, _, _, _, _, _, _, _, _, _, _, A, -⟩ := X; exact A.2.1
theorem Wk.ge (X : Wk b p l e R s m args below meth c Z EL y bytes maxL ret n0 h0 T h sf cells slots) {x : Addr} (hx : x ∈ sf) : n0 ≤ x := by obtain ⟨_, _, _, _, _, _, _, _, _, _, _, _, _, S, -⟩ := X; exact (S x hx).1
theorem Wk.lt (X : Wk b p l e R s m args below meth c Z EL y bytes maxL ret n0 h0 T h sf cells slots) {x : Addr} (hx : x ∈ sf) : x < h.size := by obtain ⟨_, _, _, _, _, _, _, _, _, _, _, _, _, S, -⟩ := X; exact (S x hx).2.1
theorem Wk.sub (X : Wk b p l e R s m args below meth c Z EL y bytes maxL ret n0 h0 T h sf cells slots) {sf' : List Addr} (q : ∀ x ∈ sf', x ∈ sf) : Wk b p l e R s m args below meth c Z EL y bytes maxL ret n0 h0 T h sf' cells slots := by
  obtain ⟨vm0, k0, locs, a0, x1, x2, x3, x4, x5, x6, x7, x8, x9, x10, x11⟩ := X
  exact ⟨vm0, k0, locs, a0, x1, x2, x3, x4, x5, x6, x7, x8, x9, fun z hz => x10 z (q z hz), x11⟩
/-- the core: from the parts at (vm0, h) to the parts at (vm1, h') -/
theorem Wk.up {vm0 vm1 : Vm} {k1 cells' slots' : Nat} {locs' : List Loc} {T' : State} (X' : Stand p l e R (s.setVm vm1) m args below meth c T' locs' cells' slots') (e' : T'.heap = h') (hb : b = false → vm1 = s.vm) (hS : s.Since vm1 k1) (hk : k1 ≤ h'.size) (hZ : Z.Warmed39 vm1) (ho : vm1.findClass y.cls = some m.cls) (N : Fr n0 locs')
    (A : CHr Z EL s.vm h0 vm0 h) (D : CHr Z EL vm0 h vm1 h') (S : Sfs Z EL n0 vm0 h sf) (hE : EW Z a0 EL) (O : Old Z n0 h') (C : Cst p meth c y bytes maxL ret) : Wk b p l e R s m args below meth c Z EL y bytes maxL ret n0 h0 T' h' sf cells' slots' :=
  ⟨vm1, k1, locs', a0, X', e', hb, hS, hk, hZ, ho, N, A.trans D, S.go D, hE, O, C⟩
theorem Sfs.new {vm0 : Vm} {a : Addr} (S : Sfs Z EL n0 vm0 h sf) (H : CHv Z EL vm0 h) (E : Ext h h') (hn : n0 ≤ h.size) (ha : a = h.size) (hl : a < h'.size) : Sfs Z EL n0 vm0 h' (a :: sf) := fun z hz => by
  subst ha
  rcases List.mem_cons.mp hz with rfl | hz
  · exact ⟨hn, hl, Safe.ext E H (Safe.new (Nat.le_refl _))⟩
  · exact (S.go (CHr.ext E H)) z hz
/-! ### the end -/
theorem Wk.fin (X : Wk b p l e R s m args below meth c Z EL y bytes maxL ret n0 h0 T h sf cells slots) {v : Option Value} (hv : ret = none → v = none) (K : Keep h0 h ws) (q : Q v h) (hc : cells ≤ R.cells) (hs : slots ≤ R.slots) {U : State}
    (st : ∀ fs, (∀ (f : JFrame) (acts : List Action), f.method = m → f.locked = none → f.entered = [] → (doReturn e (T.setTop f) acts v).1 = T.setFrames fs) → Steps p.tables e below U (T.setFrames fs)) : Go p e below (Fi b R s Z EL n0 h0 ws Q) U := by
  obtain ⟨vm0, k0, locs, a0, x1, rfl, x3, x4, x5, x6, x7, x8, x9, x10, x11, x12, C⟩ := X
  obtain ⟨c1, c2, c3, c4, c5, c6⟩ := C
  have A := x9.trans (CHv.at x1 x6 x11 x9.1)
  cases b with
  | true =>
    obtain ⟨fs, r1, r2, r3, r4⟩ := x1.leaveW x4 x5 (v := v) (fun q => hv (c5.symm.trans q)) c6
    exact ⟨_, _, st fs r1, r2, r3, v, locs, rfl, K, q, x8, A, r4.1, r4.2.1, r4.2.2.1, r4.2.2.2.mono hc hs⟩
  | false =>
    obtain rfl := x3 rfl
    obtain ⟨fs, r1, r2, r3, r4, r5⟩ := x1.leave (v := v) (fun q => hv (c5.symm.trans q)) c6
    exact ⟨_, _, st fs r1, r2, r3, v, locs, rfl, K, q, x8, A, ⟨_, rfl⟩, r4, r5.mono hc hs⟩
theorem Wk.retV (X : Wk b p l e R s m args below meth c Z EL y bytes maxL none n0 h0 T h sf cells slots) {pc : Nat} {Ls : Array Slot} (d : decode bytes pc = .ok (.return_, 1)) (K : Keep h0 h ws) (q : Q none h) (hc : cells ≤ R.cells) (hs : slots ≤ R.slots) :
    Go p e below (Fi b R s Z EL n0 h0 ws Q) (T.setTop (mkF m pc Ls [])) := by
  refine X.fin (v := none) (fun _ => rfl) K q hc hs fun fs hr => ?_
  have d := X.cd d
  obtain ⟨vm0, k0, locs, a0, x1, rfl, x3, x4, x5, x6, x7, x8, x9, x10, x11, x12, c1, c2, c3, c4, c5, c6⟩ := X
  exact x1.returnOut c1 c5 d hr
theorem Wk.retO (X : Wk b p l e R s m args below meth c Z EL y bytes maxL ret n0 h0 T h sf cells slots) {pc : Nat} {Ls : Array Slot} {w : Value} {t : FieldType} {i : Instr} {rest : List Value} (ht : ret = some t) (hn : narrow t w = w)
    (hi : (i = .ireturn ∧ (t = .int ∨ t = .boolean ∨ t = .byte ∨ t = .char ∨ t = .short) ∧ ∃ z, w = .int z) ∨ (i = .lreturn ∧ t = .long ∧ ∃ z, w = .long z) ∨ (i = .dreturn ∧ t = .double ∧ ∃ z, w = .double z) ∨ (i = .freturn ∧ t = .float ∧ ∃ z, w = .float z) ∨ (i = .areturn ∧ t.isReference = true ∧ w.isRef = true))
    (d : decode bytes pc = .ok (i, 1)) (K : Keep h0 h ws) (q : Q (some w) h) (hc : cells ≤ R.cells) (hs : slots ≤ R.slots) :
    Go p e below (Fi b R s Z EL n0 h0 ws Q) (T.setTop (mkF m pc Ls (w :: rest))) := by
  refine X.fin (v := some w) (fun z => by rw [ht] at z; cases z) K q hc hs fun fs hr => ?_
  have d := X.cd d
  obtain ⟨vm0, k0, locs, a0, x1, rfl, x3, x4, x5, x6, x7, x8, x9, x10, x11, x12, c1, c2, c3, c4, c5, c6⟩ := X
  exact retOut x1 c1 (c5.trans ht) hn hi d hr
theorem Wk.retI (X : Wk b p l e R s m args below meth c Z EL y bytes maxL (some .int) n0 h0 T h sf cells slots) {pc : Nat} {Ls : Array Slot} {z : Int32} {rest : List Value} (d : decode bytes pc = .ok (.ireturn, 1)) (K : Keep h0 h ws) (q : Q (some (.int z)) h) (hc : cells ≤ R.cells) (hs : slots ≤ R.slots) :
    Go p e below (Fi b R s Z EL n0 h0 ws Q) (T.setTop (mkF m pc Ls (.int z :: rest))) := X.retO rfl rfl (Or.inl ⟨rfl, Or.inl rfl, z, rfl⟩) d K q hc hs
theorem Wk.retJ (X : Wk b p l e R s m args below meth c Z EL y bytes maxL (some .long) n0 h0 T h sf cells slots) {pc : Nat} {Ls : Array Slot} {z : Int64} {rest : List Value} (d : decode bytes pc = .ok (.lreturn, 1)) (K : Keep h0 h ws) (q : Q (some (.long z)) h) (hc : cells ≤ R.cells) (hs : slots ≤ R.slots) :
    Go p e below (Fi b R s Z EL n0 h0 ws Q) (T.setTop (mkF m pc Ls (.long z :: rest))) := X.retO rfl rfl (Or.inr (Or.inl ⟨rfl, rfl, z, rfl⟩)) d K q hc hs
/-- boolean, byte, char, short: the value fits already -/
theorem Wk.retN {t : FieldType} (X : Wk b p l e R s m args below meth c Z EL y bytes maxL (some t) n0 h0 T h sf cells slots) {pc : Nat} {Ls : Array Slot} {z : Int32} {rest : List Value} (ht : t = .boolean ∨ t = .byte ∨ t = .char ∨ t = .short) (hz : nar t z = z) (d : decode bytes pc = .ok (.ireturn, 1)) (K : Keep h0 h ws) (q : Q (some (.int z)) h) (hc : cells ≤ R.cells) (hs : slots ≤ R.slots) :
    Go p e below (Fi b R s Z EL n0 h0 ws Q) (T.setTop (mkF m pc Ls (.int z :: rest))) := by
  have hn : narrow t (.int z) = .int z := by
    have : narrow t (.int z) = .int (nar t z) := by rcases ht with rfl | rfl | rfl | rfl <;> rfl
    rw [this, hz]
  exact X.retO rfl hn (Or.inl ⟨rfl, Or.inr ht, z, rfl⟩) d K q hc hs
theorem Wk.retR {t : FieldType} (X : Wk b p l e R s m args below meth c Z EL y bytes maxL (some t) n0 h0 T h sf cells slots) {pc : Nat} {Ls : Array Slot} {w : Value} {rest : List Value} (ht : t.isReference = true) (hw : w.isRef = true) (d : decode bytes pc = .ok (.areturn, 1)) (K : Keep h0 h ws) (q : Q (some w) h) (hc : cells ≤ R.cells) (hs : slots ≤ R.slots) :
    Go p e below (Fi b R s Z EL n0 h0 ws Q) (T.setTop (mkF m pc Ls (w :: rest))) := by
  have hn : narrow t w = w := by cases w <;> simp [Value.isRef] at hw <;> cases t <;> rfl
  exact X.retO rfl hn (Or.inr (Or.inr (Or.inr (Or.inr ⟨rfl, ht, hw⟩)))) d K q hc hs
/-! ### steps on the heap -/
theorem Wk.new (X : Wk b p l e R s m args below meth c Z EL y bytes maxL ret n0 h0 T h sf cells slots) {a1 : Array Value} {C : String} {index n : Nat} (w : (Cond.classLink y.cls index C).before a1 Z = true) (wi : (Cond.instantiable C n).before a1 Z = true) (wz : (Cond.initialized C).before a1 Z = true) {g : JFrame} (hg : g.method = m) (hd : decode bytes g.pc = .ok (.new index, 3)) (hc : cells + 1 ≤ R.cells) (hl : slots + n ≤ R.slots) :
    ∃ (T' : State) (h' : Heap) (a : Addr), a = h.size ∧ Wk b p l e R s m args below meth c Z EL y bytes maxL ret n0 h0 T' h' (a :: sf) (cells + 1) (slots + n) ∧ Ext h h' ∧ Exa Z h' a C ∧ (∀ {O nm d : String} {ty : FieldType}, Laid Z a1 C O nm d → parseFieldDescriptor d = some ty → Fld Z h' a O nm d (defaultValue ty)) ∧
      ∀ t, Steps p.tables e below (T'.setTop { g with pc := g.pc + 3, stack := .ref a :: g.stack }) t → Steps p.tables e below (T.setTop g) t := by
  have hd := X.cd hd
  have hn := X.nle
  obtain ⟨vm0, k0, locs, a0, x1, rfl, x3, x4, x5, x6, x7, x8, x9, x10, x11, x12, C⟩ := X
  obtain ⟨T', h', X', e', E, F, D, -, st⟩ := newO x1 C.1 (s := s.setVm vm0) x6 x7 w wi wz rfl hg hd hc hl
  exact ⟨T', h', _, rfl, ⟨vm0, k0, locs, a0, X', e', x3, x4, Nat.le_trans x5 E.1, x6, x7, x8, x9.trans (CHr.ext E x9.1), x10.new x9.1 E hn rfl F.lt, x11, x12.ext E, C⟩, E, F, D, st⟩
theorem rep_get (d : Value) (n i : Nat) : (List.replicate n d).getD i d = ([] : List Value).getD i d := by
  simp only [List.getD_eq_getElem?_getD, List.getElem?_nil, Option.getD_none]
  rw [List.getElem?_replicate]
  split <;> rfl
theorem Wk.newP (X : Wk b p l e R s m args below meth c Z EL y bytes maxL ret n0 h0 T h sf cells slots) {a1 : Array Value} {aty : ArrayType} (w : (Cond.arrayClass (newarray.typeOf aty)).before a1 Z = true) {g : JFrame} (hg : g.method = m) (hd : decode bytes g.pc = .ok (.newarray aty, 2)) {n : Int32} {rest : List Value} (hs : g.stack = .int n :: rest)
    (hn : ¬ n < 0) {cap : Nat} (hcap : n.toNatClampNeg ≤ cap) (hb : cap * 8 ≤ 536870912) (hc : cells + 1 ≤ R.cells) (hl : slots + cap ≤ R.slots) {vs : List Value} (hv : List.replicate n.toNatClampNeg (defaultValue (newarray.typeOf aty)) = vs) :
    ∃ (T' : State) (h' : Heap) (a : Addr) (k : ClassId), a = h.size ∧ Wk b p l e R s m args below meth c Z EL y bytes maxL ret n0 h0 T' h' (a :: sf) (cells + 1) (slots + cap) ∧ Ext h h' ∧ Arv Z h' a k (newarray.typeOf aty) n vs (defaultValue (newarray.typeOf aty)) ∧
      ∀ t, Steps p.tables e below (T'.setTop { g with pc := g.pc + 2, stack := .ref a :: rest }) t → Steps p.tables e below (T.setTop g) t := by
  have hd := X.cd hd
  have hnl := X.nle
  obtain ⟨vm0, k0, locs, a0, x1, rfl, x3, x4, x5, x6, x7, x8, x9, x10, x11, x12, C⟩ := X
  obtain ⟨T', h', k, X', e', E, F, st⟩ := RoadKit.newP x1 C.1 (s := s.setVm vm0) x6 w rfl hg hd hs hn hcap hb hc hl
  have G := (Arv.new F hn).pad (vs' := vs) (fun i => by rw [← hv]; exact rep_get _ _ _)
  exact ⟨T', h', _, k, rfl, ⟨vm0, k0, locs, a0, X', e', x3, x4, Nat.le_trans x5 E.1, x6, x7, x8, x9.trans (CHr.ext E x9.1), x10.new x9.1 E hnl rfl F.lt, x11, x12.ext E, C⟩, E, G, st⟩
theorem Wk.newR (X : Wk b p l e R s m args below meth c Z EL y bytes maxL ret n0 h0 T h sf cells slots) {a1 : Array Value} {C : String} {index : Nat} (w : (Cond.classLink y.cls index C).before a1 Z = true) (w2 : (Cond.arrayOver (.object C)).before a1 Z = true) {g : JFrame} (hg : g.method = m) (hd : decode bytes g.pc = .ok (.anewarray index, 3)) {n : Int32} {rest : List Value} (hs : g.stack = .int n :: rest)
    (hn : ¬ n < 0) {cap : Nat} (hcap : n.toNatClampNeg ≤ cap) (hb : cap * 8 ≤ 536870912) (hc : cells + 1 ≤ R.cells) (hl : slots + cap ≤ R.slots) {vs : List Value} (hv : List.replicate n.toNatClampNeg Value.null = vs) {ad : String} (had : "[" ++ (FieldType.object C).toString = ad) :
    ∃ (T' : State) (h' : Heap) (a : Addr) (k : ClassId), a = h.size ∧ Wk b p l e R s m args below meth c Z EL y bytes maxL ret n0 h0 T' h' (a :: sf) (cells + 1) (slots + cap) ∧ Ext h h' ∧ Arv Z h' a k (.object C) n vs .null ∧ Exa Z h' a ad ∧ Ovr Z k C ∧
      ∀ t, Steps p.tables e below (T'.setTop { g with pc := g.pc + 3, stack := .ref a :: rest }) t → Steps p.tables e below (T.setTop g) t := by
  have hd := X.cd hd
  have hnl := X.nle
  obtain ⟨vm0, k0, locs, a0, x1, rfl, x3, x4, x5, x6, x7, x8, x9, x10, x11, x12, CC⟩ := X
  obtain ⟨T', h', k, X', e', E, F, F2, O, st⟩ := newRE x1 CC.1 (s := s.setVm vm0) x6 x7 w w2 rfl hg hd hs hn hcap hb hc hl had
  have G := (Arv.new F hn).pad (vs' := vs) (fun i => by rw [← hv]; exact rep_get _ _ _)
  exact ⟨T', h', _, k, rfl, ⟨vm0, k0, locs, a0, X', e', x3, x4, Nat.le_trans x5 E.1, x6, x7, x8, x9.trans (CHr.ext E x9.1), x10.new x9.1 E hnl rfl F.lt, x11, x12.ext E, CC⟩, E, G, F2, O, st⟩
theorem Wk.getF (X : Wk b p l e R s m args below meth c Z EL y bytes maxL ret n0 h0 T h sf cells slots) {a1 : Array Value} {R0 O n d host : String} {index : Nat} (w : (Cond.fieldLink y.cls index R0 n d).before a1 Z = true ∨ (Cond.fieldLinkNest y.cls index R0 n d host).before a1 Z = true) (via : Via Z R0 O n d) {a : Addr} {v : Value} (F : Fld Z h a O n d v)
    {g : JFrame} (hg : g.method = m) {rest : List Value} (hs : g.stack = .ref a :: rest) (hd : decode bytes g.pc = .ok (.getfield index, 3)) :
    ∃ T' : State, Wk b p l e R s m args below meth c Z EL y bytes maxL ret n0 h0 T' h sf cells slots ∧ ∀ t, Steps p.tables e below (T'.setTop { g with pc := g.pc + 3, stack := v :: rest }) t → Steps p.tables e below (T.setTop g) t := by
  have hd := X.cd hd
  obtain ⟨vm0, k0, locs, a0, x1, rfl, x3, x4, x5, x6, x7, x8, x9, x10, x11, x12, C⟩ := X
  obtain ⟨T', X', e', st⟩ := RoadKit.getF x1 C.1 (s := s.setVm vm0) x6 x7 w via rfl F hg hs hd
  exact ⟨T', ⟨vm0, k0, locs, a0, X', e', x3, x4, x5, x6, x7, x8, x9, x10, x11, x12, C⟩, st⟩
theorem Wk.getS (X : Wk b p l e R s m args below meth c Z EL y bytes maxL ret n0 h0 T h sf cells slots) {a1 : Array Value} {R0 O n d : String} {index : Nat} (w : (Cond.fieldLink y.cls index R0 n d).before a1 Z = true) (via : Via Z R0 O n d) {v : Value} (F : Sta Z Z.heap O n d v)
    {g : JFrame} (hg : g.method = m) (hd : decode bytes g.pc = .ok (.getstatic index, 3)) :
    ∃ T' : State, Wk b p l e R s m args below meth c Z EL y bytes maxL ret n0 h0 T' h sf cells slots ∧ ∀ t, Steps p.tables e below (T'.setTop { g with pc := g.pc + 3, stack := v :: g.stack }) t → Steps p.tables e below (T.setTop g) t := by
  have hd := X.cd hd
  obtain ⟨vm0, k0, locs, a0, x1, rfl, x3, x4, x5, x6, x7, x8, x9, x10, x11, x12, C⟩ := X
  obtain ⟨T', X', e', st⟩ := RoadKit.getS x1 C.1 (s := s.setVm vm0) (host := "") x6 x7 w via rfl (F.ext x12.2) hg hd
  exact ⟨T', ⟨vm0, k0, locs, a0, X', e', x3, x4, x5, x6, x7, x8, x9, x10, x11, x12, C⟩, st⟩
theorem Wk.wr {vm0 : Vm} {k0 : Nat} {locs : List Loc} {T' : State} {a : Addr} {sl sl' : Nat} {v : Value} (x1' : Stand p l e R (s.setVm vm0) m args below meth c T' (locs ++ [⟨a, sl'⟩]) cells slots) (e' : T'.heap = h') (W : Wr h h' a sl v) (x3 : b = false → vm0 = s.vm) (x4 : s.Since vm0 k0) (x5 : k0 ≤ h.size) (x6 : Z.Warmed39 vm0) (x7 : vm0.findClass y.cls = some m.cls) (x8 : Fr n0 locs) (x9 : CHr Z EL s.vm h0 vm0 h) (x10 : Sfs Z EL n0 vm0 h sf) (x11 : EW Z a0 EL) (x12 : Old Z n0 h) (C : Cst p meth c y bytes maxL ret) (hm : a ∈ sf) :
    Wk b p l e R s m args below meth c Z EL y bytes maxL ret n0 h0 T' h' sf cells slots := by
  have D : CHr Z EL vm0 h vm0 h' := CHr.wr W (x10 a hm).2.2 x9.1
  exact ⟨vm0, k0, _, a0, x1', e', x3, x4, by rw [W.size]; exact x5, x6, x7, x8.snoc x1' (x10 a hm).1, x9.trans D, x10.go D, x11, x12.wr W (x10 a hm).1, C⟩
theorem Wk.putF (X : Wk b p l e R s m args below meth c Z EL y bytes maxL ret n0 h0 T h sf cells slots) {a1 : Array Value} {R0 O n d host C : String} {index kk : Nat} {ty : FieldType} (w : (Cond.fieldLink y.cls index R0 n d).before a1 Z = true ∨ (Cond.fieldLinkNest y.cls index R0 n d host).before a1 Z = true) (via : Via Z R0 O n d) {a : Addr} {v old : Value} (F : Fld Z h a O n d old) (E : Exa Z h a C)
    (L : (Cond.lays C O n d).before a1 Z = true ∨ ((Cond.laysFinal C O n d).before a1 Z = true ∧ y.cls = O ∧ y.name = "<init>")) (wi : (Cond.instantiable C kk).before a1 Z = true) (hm : a ∈ sf)
    (hty : parseFieldDescriptor d = some ty) (hn : narrow ty v = v) (hf : fits ty v = true) {g : JFrame} (hg : g.method = m) {rest : List Value} (hs : g.stack = v :: .ref a :: rest) (hd : decode bytes g.pc = .ok (.putfield index, 3)) :
    ∃ (T' : State) (h' : Heap), Wk b p l e R s m args below meth c Z EL y bytes maxL ret n0 h0 T' h' sf cells slots ∧ Wr h h' a (RoadKit.slotOf Z O n d) v ∧ ∀ t, Steps p.tables e below (T'.setTop { g with pc := g.pc + 3, stack := rest }) t → Steps p.tables e below (T.setTop g) t := by
  have hd := X.cd hd
  obtain ⟨vm0, k0, locs, a0, x1, rfl, x3, x4, x5, x6, x7, x8, x9, x10, x11, x12, CC⟩ := X
  obtain ⟨T', h', X', e', W, st⟩ := RoadKit.putF x1 CC.1 (s := s.setVm vm0) x6 x7 w via rfl F E (L.imp id fun q => ⟨q.1, q.2.1, CC.2.2.2.1.trans q.2.2⟩) wi hty hn hf hg hs hd
  exact ⟨T', h', Wk.wr X' e' W x3 x4 x5 x6 x7 x8 x9 x10 x11 x12 CC hm, W, st⟩
theorem Wk.putFN (X : Wk b p l e R s m args below meth c Z EL y bytes maxL ret n0 h0 T h sf cells slots) {a1 : Array Value} {R0 O n d C : String} {index kk : Nat} {ty : FieldType} (w : (Cond.fieldLink y.cls index R0 n d).before a1 Z = true) (via : Via Z R0 O n d) {a : Addr} {v v' old : Value} (F : Fld Z h a O n d old) (E : Exa Z h a C)
    (L : (Cond.lays C O n d).before a1 Z = true ∨ ((Cond.laysFinal C O n d).before a1 Z = true ∧ y.cls = O ∧ y.name = "<init>")) (wi : (Cond.instantiable C kk).before a1 Z = true) (hm : a ∈ sf)
    (hty : parseFieldDescriptor d = some ty) (hn : narrow ty v = v') (hf : fits ty v' = true) {g : JFrame} (hg : g.method = m) {rest : List Value} (hs : g.stack = v :: .ref a :: rest) (hd : decode bytes g.pc = .ok (.putfield index, 3)) :
    ∃ (T' : State) (h' : Heap), Wk b p l e R s m args below meth c Z EL y bytes maxL ret n0 h0 T' h' sf cells slots ∧ Wr h h' a (RoadKit.slotOf Z O n d) v' ∧ ∀ t, Steps p.tables e below (T'.setTop { g with pc := g.pc + 3, stack := rest }) t → Steps p.tables e below (T.setTop g) t := by
  have hd := X.cd hd
  obtain ⟨vm0, k0, locs, a0, x1, rfl, x3, x4, x5, x6, x7, x8, x9, x10, x11, x12, CC⟩ := X
  obtain ⟨T', h', X', e', W, st⟩ := RoadKit.putFN x1 CC.1 (s := s.setVm vm0) x6 x7 w via rfl F E (L.imp id fun q => ⟨q.1, q.2.1, CC.2.2.2.1.trans q.2.2⟩) wi hty hn hf hg hs hd
  exact ⟨T', h', Wk.wr X' e' W x3 x4 x5 x6 x7 x8 x9 x10 x11 x12 CC hm, W, st⟩
theorem Wk.stC (X : Wk b p l e R s m args below meth c Z EL y bytes maxL ret n0 h0 T h sf cells slots) {a : Addr} {k : ClassId} {n : Int32} {vs vs' : List Value} {dv : Value} (F : Arv Z h a k .char n vs dv) (hm : a ∈ sf) {j x x' : Int32} (hj : ¬ j < 0 ∧ j < n) {i : Nat} (hi : j.toNatClampNeg = i) (hl : i < vs.length) (hx : nar .char x = x') (hv : vs.set i (.int x') = vs')
    {g : JFrame} (hg : g.method = m) {rest : List Value} (hs : g.stack = .int x :: .int j :: .ref a :: rest) (hd : decode bytes g.pc = .ok (.castore, 1)) :
    ∃ (T' : State) (h' : Heap), Wk b p l e R s m args below meth c Z EL y bytes maxL ret n0 h0 T' h' sf cells slots ∧ Keep h h' [a] ∧ Arv Z h' a k .char n vs' dv ∧ ∀ t, Steps p.tables e below (T'.setTop { g with pc := g.pc + 1, stack := rest }) t → Steps p.tables e below (T.setTop g) t := by
  have hd := X.cd hd
  obtain ⟨vm0, k0, locs, a0, x1, rfl, x3, x4, x5, x6, x7, x8, x9, x10, x11, x12, CC⟩ := X
  obtain ⟨cl, A, q1, q2, q3, q4, q5⟩ := F
  obtain ⟨T', h', X', e', W, st⟩ := RoadKit.stC x1 CC.1 (s := s.setVm vm0) x6 rfl A (inb_of q2 hj) hg hs hd
  subst hx hv
  exact ⟨T', h', Wk.wr X' e' W x3 x4 x5 x6 x7 x8 x9 x10 x11 x12 CC hm, Keep.of_wr W, Arv.set A q1 q2 q3 q4 q5 (fits_nar_char x) W i hi hl, st⟩
theorem Wk.stB (X : Wk b p l e R s m args below meth c Z EL y bytes maxL ret n0 h0 T h sf cells slots) {a : Addr} {k : ClassId} {n : Int32} {vs vs' : List Value} {dv : Value} (F : Arv Z h a k .byte n vs dv) (hm : a ∈ sf) {j x x' : Int32} (hj : ¬ j < 0 ∧ j < n) {i : Nat} (hi : j.toNatClampNeg = i) (hl : i < vs.length) (hx : x.toInt8.toInt32 = x') (hv : vs.set i (.int x') = vs')
    {g : JFrame} (hg : g.method = m) {rest : List Value} (hs : g.stack = .int x :: .int j :: .ref a :: rest) (hd : decode bytes g.pc = .ok (.bastore, 1)) :
    ∃ (T' : State) (h' : Heap), Wk b p l e R s m args below meth c Z EL y bytes maxL ret n0 h0 T' h' sf cells slots ∧ Keep h h' [a] ∧ Arv Z h' a k .byte n vs' dv ∧ ∀ t, Steps p.tables e below (T'.setTop { g with pc := g.pc + 1, stack := rest }) t → Steps p.tables e below (T.setTop g) t := by
  have hd := X.cd hd
  obtain ⟨vm0, k0, locs, a0, x1, rfl, x3, x4, x5, x6, x7, x8, x9, x10, x11, x12, CC⟩ := X
  obtain ⟨cl, A, q1, q2, q3, q4, q5⟩ := F
  obtain ⟨T', h', X', e', W, st⟩ := RoadKit.stB x1 CC.1 (s := s.setVm vm0) x6 rfl A (inb_of q2 hj) hg hs hd
  subst hx hv
  exact ⟨T', h', Wk.wr X' e' W x3 x4 x5 x6 x7 x8 x9 x10 x11 x12 CC hm, Keep.of_wr W, Arv.set A q1 q2 q3 q4 q5 (fits_nar_byte x) W i hi hl, st⟩
theorem Wk.stI (X : Wk b p l e R s m args below meth c Z EL y bytes maxL ret n0 h0 T h sf cells slots) {a : Addr} {k : ClassId} {n : Int32} {vs vs' : List Value} {dv : Value} (F : Arv Z h a k .int n vs dv) (hm : a ∈ sf) {j x : Int32} (hj : ¬ j < 0 ∧ j < n) {i : Nat} (hi : j.toNatClampNeg = i) (hl : i < vs.length) (hv : vs.set i (.int x) = vs')
    {g : JFrame} (hg : g.method = m) {rest : List Value} (hs : g.stack = .int x :: .int j :: .ref a :: rest) (hd : decode bytes g.pc = .ok (.iastore, 1)) :
    ∃ (T' : State) (h' : Heap), Wk b p l e R s m args below meth c Z EL y bytes maxL ret n0 h0 T' h' sf cells slots ∧ Keep h h' [a] ∧ Arv Z h' a k .int n vs' dv ∧ ∀ t, Steps p.tables e below (T'.setTop { g with pc := g.pc + 1, stack := rest }) t → Steps p.tables e below (T.setTop g) t := by
  have hd := X.cd hd
  obtain ⟨vm0, k0, locs, a0, x1, rfl, x3, x4, x5, x6, x7, x8, x9, x10, x11, x12, CC⟩ := X
  obtain ⟨cl, A, q1, q2, q3, q4, q5⟩ := F
  obtain ⟨T', h', X', e', W, st⟩ := RoadKit.stI x1 CC.1 (s := s.setVm vm0) x6 rfl A (inb_of q2 hj) hg hs hd
  subst hv
  exact ⟨T', h', Wk.wr X' e' W x3 x4 x5 x6 x7 x8 x9 x10 x11 x12 CC hm, Keep.of_wr W, Arv.set A q1 q2 q3 q4 q5 rfl W i hi hl, st⟩
theorem Wk.stR (X : Wk b p l e R s m args below meth c Z EL y bytes maxL ret n0 h0 T h sf cells slots) {a : Addr} {k : ClassId} {n : Int32} {vs vs' : List Value} {dv : Value} {ty : FieldType} (F : Arv Z h a k ty n vs dv) (hm : a ∈ sf) {C : String} (O : Ovr Z k C) {r : Addr} (I : Ins Z h r C true) (hty : ty.isReference = true) (hfit : fits ty (.ref r) = true) {j : Int32} (hj : ¬ j < 0 ∧ j < n) {i : Nat} (hi : j.toNatClampNeg = i) (hl : i < vs.length) (hv : vs.set i (.ref r) = vs')
    {g : JFrame} (hg : g.method = m) {rest : List Value} (hs : g.stack = .ref r :: .int j :: .ref a :: rest) (hd : decode bytes g.pc = .ok (.aastore, 1)) :
    ∃ (T' : State) (h' : Heap), Wk b p l e R s m args below meth c Z EL y bytes maxL ret n0 h0 T' h' sf cells slots ∧ Keep h h' [a] ∧ Arv Z h' a k ty n vs' dv ∧ ∀ t, Steps p.tables e below (T'.setTop { g with pc := g.pc + 1, stack := rest }) t → Steps p.tables e below (T.setTop g) t := by
  have hd := X.cd hd
  obtain ⟨vm0, k0, locs, a0, x1, rfl, x3, x4, x5, x6, x7, x8, x9, x10, x11, x12, CC⟩ := X
  obtain ⟨cl, A, q1, q2, q3, q4, q5⟩ := F
  obtain ⟨T', h', X', e', W, st⟩ := RoadKit.stR x1 CC.1 (s := s.setVm vm0) x6 rfl A (inb_of q2 hj) hty (Sto.ofV A q1 O I) hg hs hd
  subst hv
  exact ⟨T', h', Wk.wr X' e' W x3 x4 x5 x6 x7 x8 x9 x10 x11 x12 CC hm, Keep.of_wr W, Arv.set A q1 q2 q3 q4 q5 hfit W i hi hl, st⟩
theorem Wk.len (X : Wk b p l e R s m args below meth c Z EL y bytes maxL ret n0 h0 T h sf cells slots) {a : Addr} {k : ClassId} {n : Int32} {vs : List Value} {dv : Value} {ty : FieldType} (F : Arv Z h a k ty n vs dv)
    {g : JFrame} (hg : g.method = m) {rest : List Value} (hs : g.stack = .ref a :: rest) (hd : decode bytes g.pc = .ok (.arraylength, 1)) :
    ∀ t, Steps p.tables e below (T.setTop { g with pc := g.pc + 1, stack := .int n :: rest }) t → Steps p.tables e below (T.setTop g) t := by
  have hd := X.cd hd
  obtain ⟨vm0, k0, locs, a0, x1, rfl, x3, x4, x5, x6, x7, x8, x9, x10, x11, x12, CC⟩ := X
  obtain ⟨cl, A, q1, q2, q3, q4, q5⟩ := F
  intro t ht
  refine x1.arraylength CC.1 (cell := cl) A.1 (State.isArrayOf_alike (T := s.setVm vm0) x6.alike A.2.1) (g := g) hg (rest := rest) hs hd _ ?_
  rw [len_of q2 q3]; exact ht
theorem Wk.ldA (X : Wk b p l e R s m args below meth c Z EL y bytes maxL ret n0 h0 T h sf cells slots) {a : Addr} {k : ClassId} {n : Int32} {vs : List Value} {dv : Value} {ty : FieldType} (F : Arv Z h a k ty n vs dv) {j : Int32} (hj : ¬ j < 0 ∧ j < n) {v : Value} (hv : vs.getD j.toNatClampNeg dv = v)
    {i : Instr} (hi : (i = .iaload ∧ ty = .int) ∨ (i = .caload ∧ ty = .char) ∨ (i = .baload ∧ ty = .byte) ∨ (i = .aaload ∧ ty.isReference = true)) {g : JFrame} (hg : g.method = m) {rest : List Value} (hs : g.stack = .int j :: .ref a :: rest) (hd : decode bytes g.pc = .ok (i, 1)) :
    ∀ t, Steps p.tables e below (T.setTop { g with pc := g.pc + 1, stack := v :: rest }) t → Steps p.tables e below (T.setTop g) t := by
  have hd := X.cd hd
  obtain ⟨vm0, k0, locs, a0, x1, rfl, x3, x4, x5, x6, x7, x8, x9, x10, x11, x12, CC⟩ := X
  obtain ⟨cl, A, q1, q2, q3, q4, q5⟩ := F
  intro t ht
  have hin := inb_of q2 hj
  have hA := State.isArrayOf_alike (T := s.setVm vm0) x6.alike A.2.1
  rcases hi with ⟨rfl, rfl⟩ | ⟨rfl, rfl⟩ | ⟨rfl, rfl⟩ | ⟨rfl, hr⟩
  · exact x1.iaload CC.1 (j := j) (v := v) A.1 hA A.2.2 hin (q4.at hin hv) hg hs hd _ ht
  · exact x1.caload CC.1 (j := j) (v := v) A.1 hA A.2.2 hin (q4.at hin hv) hg hs hd _ ht
  · exact x1.baloadBytes CC.1 (j := j) (v := v) A.1 hA A.2.2 hin (q4.at hin hv) hg hs hd _ ht
  · exact x1.aaload CC.1 (j := j) (v := v) A.1 hA hr A.2.2 hin (q4.at hin hv) hg hs hd _ ht
theorem Wk.ldcI (X : Wk b p l e R s m args below meth c Z EL y bytes maxL ret n0 h0 T h sf cells slots) {a1 : Array Value} {index : Nat} {v : Int32} (w : (Cond.constant y.cls index v).before a1 Z = true) {g : JFrame} (hg : g.method = m) (hd : decode bytes g.pc = .ok (.ldc index, 2)) :
    ∀ t, Steps p.tables e below (T.setTop { g with pc := g.pc + 2, stack := .int v :: g.stack }) t → Steps p.tables e below (T.setTop g) t := by
  have hd := X.cd hd
  obtain ⟨vm0, k0, locs, a0, x1, rfl, x3, x4, x5, x6, x7, x8, x9, x10, x11, x12, CC⟩ := X
  exact x1.ldcInt CC.1 x7 (mvT (s := s.setVm vm0) x6 w) hg hd
theorem Wk.ldc2 (X : Wk b p l e R s m args below meth c Z EL y bytes maxL ret n0 h0 T h sf cells slots) {a1 : Array Value} {index : Nat} {v : Int64} (w : (Cond.constantLong y.cls index v).before a1 Z = true) {g : JFrame} (hg : g.method = m) (hd : decode bytes g.pc = .ok (.ldc2_w index, 3)) :
    ∀ t, Steps p.tables e below (T.setTop { g with pc := g.pc + 3, stack := .long v :: g.stack }) t → Steps p.tables e below (T.setTop g) t := by
  have hd := X.cd hd
  obtain ⟨vm0, k0, locs, a0, x1, rfl, x3, x4, x5, x6, x7, x8, x9, x10, x11, x12, CC⟩ := X
  exact x1.ldc2Long CC.1 x7 (mvT (s := s.setVm vm0) x6 w) hg hd
theorem Wk.irem (X : Wk b p l e R s m args below meth c Z EL y bytes maxL ret n0 h0 T h sf cells slots) {x y' : Int32} {g : JFrame} (hg : g.method = m) {rest : List Value} (hs : g.stack = .int y' :: .int x :: rest) (hy : y' ≠ 0) (hd : decode bytes g.pc = .ok (.irem, 1)) :
    ∀ t, Steps p.tables e below (T.setTop { g with pc := g.pc + 1, stack := .int (x % y') :: rest }) t → Steps p.tables e below (T.setTop g) t := by
  have hd := X.cd hd
  obtain ⟨vm0, k0, locs, a0, x1, rfl, x3, x4, x5, x6, x7, x8, x9, x10, x11, x12, CC⟩ := X
  exact fun t ht => iremM x1 CC.1 hg hd hs hy ht
theorem Wk.acmp (X : Wk b p l e R s m args below meth c Z EL y bytes maxL ret n0 h0 T h sf cells slots) {cd : ACond} {x y' : Value} (h1 : x.isRef = true) (h2 : y'.isRef = true) {g : JFrame} (hg : g.method = m) {rest : List Value} {o : Int} {pc0 pc' : Nat} {same : Bool} (hpc : g.pc = pc0) (hd : decode bytes g.pc = .ok (.if_acmp cd o, 3)) (hs : g.stack = y' :: x :: rest) (hq : decide (x = y') = same) (ho : 0 ≤ (pc0 : Int) + o) (hp : pc' = if acV cd same = true then ((pc0 : Int) + o).toNat else pc0 + 3) :
    ∀ t, Steps p.tables e below (T.setTop { g with pc := pc', stack := rest }) t → Steps p.tables e below (T.setTop g) t := by
  have hd := X.cd hd
  obtain ⟨vm0, k0, locs, a0, x1, rfl, x3, x4, x5, x6, x7, x8, x9, x10, x11, x12, CC⟩ := X
  exact fun t ht => Jvm.RoadKit.acmp x1 CC.1 hg h1 h2 hpc hd hs hq ho hp ht
theorem Wk.initO (X : Wk b p l e R s m args below meth c Z EL y bytes maxL ret n0 h0 T h sf cells slots) {a1 : Array Value} {idx : Nat} (w1 : (Cond.methodLink y.cls idx Lib.objectInit).before a1 Z = true) (w2 : (Cond.instanceMethod Lib.objectInit).before a1 Z = true) (w3 : (Cond.code Lib.objectInit ⟨#[0xb1]⟩ 1 none).before a1 Z = true) {g : JFrame} (hg : g.method = m) (hsize : g.locals.size = maxL) {a : Addr} {rest : List Value} (hs : g.stack = .ref a :: rest) (hd : decode bytes g.pc = .ok (.invokespecial idx, 3))
    (hf : 1 ≤ R.frames) {W : Nat} (hW : 2 * g.monitorRoom + (rest.map fun v => v.category).sum ≤ W) (hl : W + 12 ≤ R.locals) :
    ∃ T' : State, Wk b p l e R s m args below meth c Z EL y bytes maxL ret n0 h0 T' h sf cells slots ∧ ∀ t, Steps p.tables e below (T'.setTop { g with pc := g.pc + 3, stack := rest }) t → Steps p.tables e below (T.setTop g) t := by
  have hd := X.cd hd
  obtain ⟨vm0, k0, locs, a0, x1, rfl, x3, x4, x5, x6, x7, x8, x9, x10, x11, x12, CC⟩ := X
  obtain ⟨T', X', e', st⟩ := RoadKit.initO x1 CC.1 (s := s.setVm vm0) x6 x7 w1 w2 w3 rfl hg (hsize.trans CC.2.2.1.symm) hs hd hf hW hl
  exact ⟨T', ⟨vm0, k0, locs, a0, X', e', x3, x4, x5, x6, x7, x8, x9, x10, x11, x12, CC⟩, st⟩
theorem Wk.castY (X : Wk b p l e R s m args below meth c Z EL y bytes maxL ret n0 h0 T h sf cells slots) {a1 : Array Value} {K : String} {index : Nat} (w : (Cond.classLink y.cls index K).before a1 Z = true) {a : Addr} (F : Ins Z h a K true) {g : JFrame} (hg : g.method = m) {rest : List Value} (hs : g.stack = .ref a :: rest) (hd : decode bytes g.pc = .ok (.checkcast index, 3)) :
    ∃ T' : State, Wk b p l e R s m args below meth c Z EL y bytes maxL ret n0 h0 T' h sf cells slots ∧ ∀ t, Steps p.tables e below (T'.setTop { g with pc := g.pc + 3 }) t → Steps p.tables e below (T.setTop g) t := by
  have hd := X.cd hd
  obtain ⟨vm0, k0, locs, a0, x1, rfl, x3, x4, x5, x6, x7, x8, x9, x10, x11, x12, CC⟩ := X
  obtain ⟨T', X', e', st⟩ := RoadKit.castY x1 CC.1 (s := s.setVm vm0) x6 x7 w rfl F hg hs hd
  exact ⟨T', ⟨vm0, k0, locs, a0, X', e', x3, x4, x5, x6, x7, x8, x9, x10, x11, x12, CC⟩, st⟩
theorem Wk.instY (X : Wk b p l e R s m args below meth c Z EL y bytes maxL ret n0 h0 T h sf cells slots) {a1 : Array Value} {K : String} {index : Nat} (w : (Cond.classLink y.cls index K).before a1 Z = true) {a : Addr} (F : Ins Z h a K true) {g : JFrame} (hg : g.method = m) {rest : List Value} (hs : g.stack = .ref a :: rest) (hd : decode bytes g.pc = .ok (.instanceof index, 3)) :
    ∃ T' : State, Wk b p l e R s m args below meth c Z EL y bytes maxL ret n0 h0 T' h sf cells slots ∧ ∀ t, Steps p.tables e below (T'.setTop { g with pc := g.pc + 3, stack := .int 1 :: rest }) t → Steps p.tables e below (T.setTop g) t := by
  have hd := X.cd hd
  obtain ⟨vm0, k0, locs, a0, x1, rfl, x3, x4, x5, x6, x7, x8, x9, x10, x11, x12, CC⟩ := X
  obtain ⟨T', X', e', st⟩ := RoadKit.instY x1 CC.1 (s := s.setVm vm0) x6 x7 w rfl F hg hs hd
  exact ⟨T', ⟨vm0, k0, locs, a0, X', e', x3, x4, x5, x6, x7, x8, x9, x10, x11, x12, CC⟩, st⟩
theorem Wk.instNo (X : Wk b p l e R s m args below meth c Z EL y bytes maxL ret n0 h0 T h sf cells slots) {a1 : Array Value} {K C : String} {index : Nat} (w : (Cond.classLink y.cls index K).before a1 Z = true) {a : Addr} (E : Exa Z h a C) (F : ∃ c t, Z.vm.findClass C = some c ∧ Z.vm.findClass K = some t ∧ Z.vm.assignable c t = false) {g : JFrame} (hg : g.method = m) {rest : List Value} (hs : g.stack = .ref a :: rest) (hd : decode bytes g.pc = .ok (.instanceof index, 3)) :
    ∃ T' : State, Wk b p l e R s m args below meth c Z EL y bytes maxL ret n0 h0 T' h sf cells slots ∧ ∀ t, Steps p.tables e below (T'.setTop { g with pc := g.pc + 3, stack := .int 0 :: rest }) t → Steps p.tables e below (T.setTop g) t := by
  have hd := X.cd hd
  obtain ⟨vm0, k0, locs, a0, x1, rfl, x3, x4, x5, x6, x7, x8, x9, x10, x11, x12, CC⟩ := X
  obtain ⟨T', X', e', st⟩ := RoadKit.instNo x1 CC.1 (s := s.setVm vm0) x6 x7 w rfl E F hg hs hd
  exact ⟨T', ⟨vm0, k0, locs, a0, X', e', x3, x4, x5, x6, x7, x8, x9, x10, x11, x12, CC⟩, st⟩
theorem Wk.instNull (X : Wk b p l e R s m args below meth c Z EL y bytes maxL ret n0 h0 T h sf cells slots) {index : Nat} {g : JFrame} (hg : g.method = m) {rest : List Value} (hs : g.stack = .null :: rest) (hd : decode bytes g.pc = .ok (.instanceof index, 3)) :
    ∀ t, Steps p.tables e below (T.setTop { g with pc := g.pc + 3, stack := .int 0 :: rest }) t → Steps p.tables e below (T.setTop g) t := by
  have hd := X.cd hd
  obtain ⟨vm0, k0, locs, a0, x1, rfl, x3, x4, x5, x6, x7, x8, x9, x10, x11, x12, CC⟩ := X
  exact Stand.instanceofNull x1 CC.1 hg hs hd
/-! ### String constants (a wide walk alone) -/
theorem Wk.ldcS (X : Wk true p l e R s m args below meth c Z EL y bytes maxL ret n0 h0 T h sf cells slots) {a1 : Array Value} {text : String} {index : Nat} (w : (Cond.stringLink y.cls index text).before a1 Z = true) (wS : ∀ a ∈ Bundle.stringAtoms, a.before a1 Z = true)
    {g : JFrame} (hg : g.method = m) (hd : decode bytes g.pc = .ok (.ldc index, 2)) {n : Nat} (hn : 4 * text.toList.length ≤ n) (hbig : n ≤ 536870912) (hc : cells + 2 ≤ R.cells) (hl : slots + (n + 4) ≤ R.slots) :
    ∃ (a : Addr) (T' : State) (h' : Heap), Wk true p l e R s m args below meth c Z EL y bytes maxL ret n0 h0 T' h' sf (cells + 2) (slots + (n + 4)) ∧ Ext h h' ∧ ∀ t, Steps p.tables e below (T'.setTop { g with pc := g.pc + 2, stack := .ref a :: g.stack }) t → Steps p.tables e below (T.setTop g) t := by
  have hd := X.cd hd
  obtain ⟨vm0, k0, locs, a0, x1, rfl, x3, x4, x5, x6, x7, x8, x9, x10, x11, x12, CC⟩ := X
  obtain ⟨a, T', h', k1, X', e', E, hS, hk, hZ, ho, D, -, st⟩ := ldcOH (a0 := a1) (EL := EL) x1 CC.1 x6 x7 w wS rfl x4 x5 (by intro q hq; obtain ⟨t, t1, t2⟩ := x11 q hq; exact ⟨t, by simpa only [Cond.before, Cond.holds, Cond.value] using t1, t2⟩) x9.1 hg hd hn hbig hc hl
  exact ⟨a, T', h', ⟨T'.vm, k1, locs, a0, X', e', fun q => (nomatch q), hS, hk, hZ, ho, x8, x9.trans D, x10.go D, x11, x12.ext E, CC⟩, E, st⟩
theorem Wk.ldcR (X : Wk true p l e R s m args below meth c Z EL y bytes maxL ret n0 h0 T h sf cells slots) {a1 : Array Value} {text : String} {index : Nat} (w : (Cond.stringLink y.cls index text).before a1 Z = true) (wS : ∀ a ∈ Bundle.stringAtoms, a.before a1 Z = true) (hmem : (y.cls, index) ∈ EL)
    {vs : List Value} {z : Int32} (ht : (∀ c ∈ text.toList, c.toNat < 256) ∧ text.toList.map (fun c => Value.int (Jvm.Lit.byteI c.toNat.toUInt16)) = vs) (hz : ¬ z < 0) (hl : z.toNatClampNeg = vs.length)
    {g : JFrame} (hg : g.method = m) (hd : decode bytes g.pc = .ok (.ldc index, 2)) {n : Nat} (hn : 4 * text.toList.length ≤ n) (hbig : n ≤ 536870912) (hc : cells + 2 ≤ R.cells) (hl' : slots + (n + 4) ≤ R.slots) :
    ∃ (a bb : Addr) (k : ClassId) (T' : State) (h' : Heap), Wk true p l e R s m args below meth c Z EL y bytes maxL ret n0 h0 T' h' sf (cells + 2) (slots + (n + 4)) ∧ Ext h h' ∧ Exa Z h' a "java/lang/String" ∧ Fld Z h' a "java/lang/String" "coder" "B" (.int 0) ∧ Fld Z h' a "java/lang/String" "value" "[B" (.ref bb) ∧ Arv Z h' bb k .byte z vs (.int 0) ∧ (∀ x ∈ sf, x ≠ a ∧ x ≠ bb) ∧
      ∀ t, Steps p.tables e below (T'.setTop { g with pc := g.pc + 2, stack := .ref a :: g.stack }) t → Steps p.tables e below (T.setTop g) t := by
  have hd := X.cd hd
  obtain ⟨vm0, k0, locs, a0, x1, rfl, x3, x4, x5, x6, x7, x8, x9, x10, x11, x12, CC⟩ := X
  obtain ⟨a, T', h', k1, bb, k, X', e', E, hS, hk, hZ, ho, F1, F2, F3, F4, -, -, D, -, hne, st⟩ := ldcCH (a0 := a1) (EL := EL) x1 CC.1 x6 x7 w wS rfl x4 x5 (by intro q hq; obtain ⟨t, t1, t2⟩ := x11 q hq; exact ⟨t, by simpa only [Cond.before, Cond.holds, Cond.value] using t1, t2⟩) hmem x9.1 ht hz hl hg hd hn hbig hc hl'
  have S' := x10.go D
  exact ⟨a, bb, k, T', h', ⟨T'.vm, k1, locs, a0, X', e', fun q => (nomatch q), hS, hk, hZ, ho, x8, x9.trans D, S', x11, x12.ext E, CC⟩, E, F1, F2, F3, F4, fun x hx => hne x (S' x hx).2.2, st⟩
end Walk
/-! ### contracts -/
def Ct (l : Launch) (y : MethodName) (bytes : ByteArray) (maxL : Nat) (ret : Option FieldType) (wl : List Cond) (rm : Room) (Z : State) (n0 : Nat) (as' : Array Value) (h : Heap) (ws : List Addr) (Q : Option Value → Heap → Prop) : Prop :=
  MetFree l y (head1 (Cond.code y bytes maxL ret :: wl) rm) (fun a U => a = as' ∧ Z.Warmed39 U.vm ∧ U.heap = h) (fun _ _ _ _ _ => True) (fun _ U o U' => ∃ v L, o = .returned v ∧ (Keep h U'.heap ws ∧ Q v U'.heap ∧ Fr n0 L) ∧ FrameEnd U o U' L rm.cells rm.slots)
def Cw (l : Launch) (y : MethodName) (bytes : ByteArray) (maxL : Nat) (ret : Option FieldType) (wl : List Cond) (rm : Room) (Z : State) (EL : List (String × Nat)) (n0 : Nat) (as' : Array Value) (h : Heap) (ws sv : List Addr) (Q : Option Value → Heap → Prop) : Prop :=
  MetFree l y (head1 (Cond.code y bytes maxL ret :: wl) rm) (fun a U => a = as' ∧ Z.Warmed39 U.vm ∧ U.heap = h ∧ CHv Z EL U.vm h ∧ ∀ x ∈ sv, Safe Z EL U.vm h x) (fun _ _ _ _ _ => True) (fun _ U o U' => ∃ v L, o = .returned v ∧ (Keep h U'.heap ws ∧ Q v U'.heap ∧ Fr n0 L) ∧ CHr Z EL U.vm h U'.vm U'.heap ∧ ReturnedEndW U o U' L rm.cells rm.slots)
section Con
variable {l : Launch} {y : MethodName} {bytes : ByteArray} {maxL : Nat} {ret : Option FieldType} {wl : List Cond} {rm : Room} {Z : State} {EL : List (String × Nat)} {n0 : Nat} {as' : Array Value} {h : Heap} {ws sv : List Addr} {Q : Option Value → Heap → Prop} {a0 : Array Value}
theorem Ct.of_walk (hp : plainFor y = true) (hO : Old Z n0 h) (hws : ∀ x ∈ ws, n0 ≤ x ∧ x < h.size)
    (body : ∀ (p : Program) (e : Env) (s : State) (m : MethodId) (below : List Frame) (meth : Method) (c : Code) (T : State), Wk false p l e rm s m as' below meth c Z [] y bytes maxL ret n0 h T h ws 0 0 → Go p e below (Fi false rm s Z [] n0 h ws Q) (T.setTop (entryFrame m as' maxL))) : Ct l y bytes maxL ret wl rm Z n0 as' h ws Q := by
  refine MetFree.of_bodySF hp hisR ?_
  intro p e s m args below meth c s₁ Bd hml0 hP hK
  obtain ⟨rfl, hZ, hh⟩ := hP
  have X0 : Stand p l e rm s m args below meth c s₁ [] 0 0 := Stand.of_body Bd
  have e0 : s₁.heap = h := by rw [← hh, Bd.state]; rfl
  have H0 : CHv Z [] s.vm h := fun q hq => nomatch hq
  have W0 : Wk false p l e rm s m args below meth c Z [] y bytes maxL ret n0 h s₁ h ws 0 0 :=
    ⟨s.vm, 0, [], #[], X0, e0, fun _ => rfl, (State.WarmedH.refl s).since 0, Nat.zero_le _, hZ, findClass_of_methodNamed Bd.named, Fr.nil n0, CHr.refl H0, fun x hx => ⟨(hws x hx).1, (hws x hx).2, fun B => by obtain ⟨q, hq, -⟩ := B; cases hq⟩, EW.nil, hO, Bd.exec, Bd.bytes, hml0, (name_of_methodNamed Bd.named Bd.method).1, Bd.returns, Bd.notSynchronized⟩
  obtain ⟨t, o, h1, h2, h3, v, L, rfl, K, q, N, A, E⟩ := body p e s m below meth c s₁ W0
  exact ⟨t, _, h1, h2, h3, v, L, rfl, ⟨K, q, N⟩, E⟩
theorem Cw.of_walk (hp : plainFor y = true) (hO : Old Z n0 h) (hE : EW Z a0 EL) (hws : ∀ x ∈ sv, n0 ≤ x ∧ x < h.size)
    (body : ∀ (p : Program) (e : Env) (s : State) (m : MethodId) (below : List Frame) (meth : Method) (c : Code) (T : State), Wk true p l e rm s m as' below meth c Z EL y bytes maxL ret n0 h T h sv 0 0 → Go p e below (Fi true rm s Z EL n0 h ws Q) (T.setTop (entryFrame m as' maxL))) : Cw l y bytes maxL ret wl rm Z EL n0 as' h ws sv Q := by
  refine MetFree.of_bodySF hp hisR ?_
  intro p e s m args below meth c s₁ Bd hml0 hP hK
  obtain ⟨rfl, hZ, hh, H0, hS⟩ := hP
  have X0 : Stand p l e rm s m args below meth c s₁ [] 0 0 := Stand.of_body Bd
  have e0 : s₁.heap = h := by rw [← hh, Bd.state]; rfl
  have W0 : Wk true p l e rm s m args below meth c Z EL y bytes maxL ret n0 h s₁ h sv 0 0 :=
    ⟨s.vm, 0, [], a0, X0, e0, fun _ => rfl, (State.WarmedH.refl s).since 0, Nat.zero_le _, hZ, findClass_of_methodNamed Bd.named, Fr.nil n0, CHr.refl H0, fun x hx => ⟨(hws x hx).1, (hws x hx).2, hS x hx⟩, hE, hO, Bd.exec, Bd.bytes, hml0, (name_of_methodNamed Bd.named Bd.method).1, Bd.returns, Bd.notSynchronized⟩
  obtain ⟨t, o, h1, h2, h3, v, L, rfl, K, q, N, A, E⟩ := body p e s m below meth c s₁ W0
  exact ⟨t, _, h1, h2, h3, v, L, rfl, ⟨K, q, N⟩, A, E⟩
variable {R : Room} {p : Program} {e : Env} {below : List Frame} {s : State} {args : Array Value} {len W : Nat}
def Pay (l : Launch) (R : Room) (p : Program) (e : Env) (below : List Frame) (s : State) (args : Array Value) (Z : State) (n0 : Nat) (y : MethodName) (len W : Nat) (as' : Array Value) (h : Heap) (kc ks : Nat) (ws : List Addr) (Q : Option Value → Heap → Prop) : Prop :=
  ∀ vm0, Z.Warmed39 vm0 → Back l R p e below (s.setVm vm0) args y len W (fun A a => a = as' ∧ A.U.heap = h ∧ A.cells + kc ≤ R.cells ∧ A.slots + ks ≤ R.slots) (fun A _ v B => ∃ L, (Keep h B.U.heap ws ∧ Q v B.U.heap ∧ Fr n0 L) ∧ B.locs = A.locs ++ L ∧ B.cells = A.cells + kc ∧ B.slots = A.slots + ks)
def PayW (l : Launch) (R : Room) (p : Program) (e : Env) (below : List Frame) (s : State) (args : Array Value) (Z : State) (EL : List (String × Nat)) (n0 : Nat) (y : MethodName) (len W : Nat) (as' : Array Value) (h : Heap) (kc ks : Nat) (ws sv : List Addr) (Q : Option Value → Heap → Prop) : Prop :=
  ∀ vm0, Z.Warmed39 vm0 → CHv Z EL vm0 h → (∀ x ∈ sv, x < h.size ∧ Safe Z EL vm0 h x) → BackS l R p e below (s.setVm vm0) args y len W (fun A a => a = as' ∧ A.U.heap = h ∧ A.cells + kc ≤ R.cells ∧ A.slots + ks ≤ R.slots) (fun A _ v B => ∃ L, (Keep h B.U.heap ws ∧ Q v B.U.heap ∧ Fr n0 L) ∧ B.locs = A.locs ++ L ∧ B.cells = A.cells + kc ∧ B.slots = A.slots + ks ∧ CHr Z EL vm0 h B.U.vm B.U.heap)
theorem Ct.pay (hM : Ct l y bytes maxL ret [] rm Z n0 as' h ws Q) (wc : (Cond.code y bytes maxL ret).before a0 Z = true) (wz : (Cond.initialized y.cls).before a0 Z = true) (hf : rm.frames + 1 ≤ R.frames) (hl : W + (maxL + 11) + rm.locals ≤ R.locals) :
    Pay l R p e below s args Z n0 y len W as' h rm.cells rm.slots ws Q := fun vm0 hZ => backOf (s := s.setVm vm0) (Q := fun v h' L => Keep h h' ws ∧ Q v h' ∧ Fr n0 L) hM hZ wc wz hf hl
theorem Cw.pay (hM : Cw l y bytes maxL ret [] rm Z EL n0 as' h ws sv Q) (wc : (Cond.code y bytes maxL ret).before a0 Z = true) (wz : (Cond.initialized y.cls).before a0 Z = true) (hE : EW Z a0 EL) (hf : rm.frames + 1 ≤ R.frames) (hl : W + (maxL + 11) + rm.locals ≤ R.locals) :
    PayW l R p e below s args Z EL n0 y len W as' h rm.cells rm.slots ws sv Q := fun vm0 hZ H hS =>
  BackS.of_freeW (bytes := bytes) (maxL := maxL) (ret := ret) (E := fun _ first o t L k n => k = rm.cells ∧ n = rm.slots ∧ (∃ v, o = .returned v ∧ (Keep h t.heap ws ∧ Q v t.heap ∧ Fr n0 L)) ∧ CHr Z EL first.vm h t.vm t.heap) hM hf hl
    (fun m meth c A a Y hp => by
      have hU : Z.Warmed39 A.U.vm := wtrans (s := s.setVm vm0) hZ Y.warmed
      exact ⟨by show (Cond.and _ .tt).before a A.U = true; rw [Cond.before_and, mv hU wc]; rfl, mv hU wc, mv hU wz, hp.2.2.1, hp.2.2.2⟩)
    (fun m meth c A a g mk Y hp => by
      have q := CHv.at Y hZ hE H
      exact ⟨hp.1, wtrans (s := s.setVm vm0) hZ Y.warmed, hp.2.1, q.1, fun x hx => q.safe (hS x hx).1 (hS x hx).2⟩)
    (fun _ _ _ _ _ _ _ _ _ => trivial)
    (fun _ _ _ _ ⟨v, L, h1, h2, h3, h4⟩ => ⟨L, _, _, h4, rfl, rfl, ⟨v, h1, h2⟩, h3⟩)
    (fun m meth c A a g mk v t L k n Y hp _ _ ⟨e1, e2, ⟨v', e3, e4⟩, e5⟩ => by
      cases e3; subst e1 e2
      exact ⟨L, e4, rfl, rfl, rfl, (CHv.at Y hZ hE H).trans e5⟩)
end Con
/-! ### calls -/
section Calls
variable {b : Bool} {p : Program} {l : Launch} {e : Env} {R : Room} {s : State} {m : MethodId} {args : Array Value} {below : List Frame} {meth : Method} {c : Code} {Z : State} {EL : List (String × Nat)} {y : MethodName} {bytes : ByteArray} {maxL : Nat} {ret : Option FieldType} {n0 : Nat} {h0 : Heap} {T : State} {h h' : Heap} {sf ws sv : List Addr} {cells slots : Nat} {a1 : Array Value} {Q : Option Value → Heap → Prop} {y' z' : MethodName} {index W kc ks : Nat} {as' : Array Value}
theorem Wk.aftN {vm0 : Vm} {k0 : Nat} {locs : List Loc} {a0 : Array Value} {v : Option Value} {B : Pt} (X' : Stand p l e R (s.setVm vm0) m args below meth c B.U B.locs B.cells B.slots) (po : ∃ L, (Keep h B.U.heap ws ∧ Q v B.U.heap ∧ Fr n0 L) ∧ B.locs = locs ++ L ∧ B.cells = cells + kc ∧ B.slots = slots + ks)
    (x3 : b = false → vm0 = s.vm) (x4 : s.Since vm0 k0) (x5 : k0 ≤ h.size) (x6 : Z.Warmed39 vm0) (x7 : vm0.findClass y.cls = some m.cls) (x8 : Fr n0 locs) (x9 : CHr Z EL s.vm h0 vm0 h) (x10 : Sfs Z EL n0 vm0 h sf) (x11 : EW Z a0 EL) (x12 : Old Z n0 h) (C : Cst p meth c y bytes maxL ret) (hm : ∀ x ∈ ws, x ∈ sf) :
    Wk b p l e R s m args below meth c Z EL y bytes maxL ret n0 h0 B.U B.U.heap sf (cells + kc) (slots + ks) ∧ Keep h B.U.heap ws ∧ Q v B.U.heap := by
  obtain ⟨L, ⟨K, q, N⟩, l1, l2, l3⟩ := po
  have D : CHr Z EL vm0 h vm0 B.U.heap := CHr.keep K (fun x hx => (x10 x (hm x hx)).2.2) x9.1
  rw [l1, l2, l3] at X'
  exact ⟨⟨vm0, k0, _, a0, X', rfl, x3, x4, Nat.le_trans x5 K.1, x6, x7, x8.app N, x9.trans D, x10.go D, x11, x12.keep K (fun x hx => (x10 x (hm x hx)).1), C⟩, K, q⟩
theorem Wk.aftW {vm0 : Vm} {k0 : Nat} {locs : List Loc} {a0 : Array Value} {v : Option Value} {B : Pt} (X' : Stand p l e R ((s.setVm vm0).setVm B.U.vm) m args below meth c B.U B.locs B.cells B.slots) (hS : (s.setVm vm0).Since B.U.vm B.U.heap.size) (po : ∃ L, (Keep h B.U.heap ws ∧ Q v B.U.heap ∧ Fr n0 L) ∧ B.locs = locs ++ L ∧ B.cells = cells + kc ∧ B.slots = slots + ks ∧ CHr Z EL vm0 h B.U.vm B.U.heap)
    (x4 : s.Since vm0 k0) (x5 : k0 ≤ h.size) (x6 : Z.Warmed39 vm0) (x7 : vm0.findClass y.cls = some m.cls) (x8 : Fr n0 locs) (x9 : CHr Z EL s.vm h0 vm0 h) (x10 : Sfs Z EL n0 vm0 h sf) (x11 : EW Z a0 EL) (x12 : Old Z n0 h) (C : Cst p meth c y bytes maxL ret) (hm : ∀ x ∈ ws, x ∈ sf) :
    Wk true p l e R s m args below meth c Z EL y bytes maxL ret n0 h0 B.U B.U.heap sf (cells + kc) (slots + ks) ∧ Keep h B.U.heap ws ∧ Q v B.U.heap := by
  obtain ⟨L, ⟨K, q, N⟩, l1, l2, l3, D⟩ := po
  rw [l1, l2, l3] at X'
  have hk : k0 ≤ B.U.heap.size := Nat.le_trans x5 K.1
  exact ⟨⟨B.U.vm, _, _, a0, X', rfl, fun q => (by cases q), x4.trans hS hk, Nat.le_refl _, State.Warmed39.trans (t := s.setVm vm0) x6 hS.1, (hS.1.alike.findClass _ _).trans x7, x8.app N, x9.trans D, x10.go D, x11, x12.keep K (fun x hx => (x10 x (hm x hx)).1), C⟩, K, q⟩
theorem Wk.spN (X : Wk b p l e R s m args below meth c Z EL y bytes maxL ret n0 h0 T h sf cells slots) (hy1 : y'.name = "<init>") (w1 : (Cond.methodLink y.cls index y').before a1 Z = true) (w2 : (Cond.instanceMethod y').before a1 Z = true) {bytes' : ByteArray} {maxL' : Nat} (w3 : (Cond.code y' bytes' maxL' none).before a1 Z = true) (hy : y'.cls ≠ "java/lang/invoke/MethodHandle" ∧ y'.cls ≠ "java/lang/invoke/VarHandle")
    (hK : Pay l R p e below s args Z n0 y' 3 W as' h kc ks ws Q) (hm : ∀ x ∈ ws, x ∈ sf) {g : JFrame} (hg : g.method = m) (hsize : g.locals.size = maxL) {a : Addr} {argsL rest : List Value} (hlen : ∀ sig, parseMethodDescriptor y'.desc = some sig → argsL.length = sig.parameters.length) (hstack : g.stack = argsL.reverse ++ .ref a :: rest) (hW : 2 * g.monitorRoom + (rest.map fun v => v.category).sum ≤ W)
    (hd : decode bytes g.pc = .ok (.invokespecial index, 3)) (ha : (.ref a :: argsL).toArray = as') (hc : cells + kc ≤ R.cells) (hs : slots + ks ≤ R.slots) :
    ∃ (v : Option Value) (T' : State) (h' : Heap), Wk b p l e R s m args below meth c Z EL y bytes maxL ret n0 h0 T' h' sf (cells + kc) (slots + ks) ∧ Keep h h' ws ∧ Q v h' ∧ Steps p.tables e below (T.setTop g) (T'.setTop { g with pc := g.pc + 3, stack := v.toList ++ rest }) := by
  have hd := X.cd hd
  obtain ⟨vm0, k0, locs, a0, x1, rfl, x3, x4, x5, x6, x7, x8, x9, x10, x11, x12, CC⟩ := X
  obtain ⟨v, vm₁, B, hW1, X', po, st⟩ := x1.specialBack CC.1 hy1 x7 (mvT (s := s.setVm vm0) x6 w1) (mvT (s := s.setVm vm0) x6 w2) (mvT (s := s.setVm vm0) x6 w3) hy (hK vm0 x6) hg (hsize.trans CC.2.2.1.symm) (Steps.refl _) hlen hstack hW hd (fun _ _ => ⟨ha, rfl, hc, hs⟩)
  obtain ⟨q1, q2, q3⟩ := Wk.aftN X' po x3 x4 x5 x6 x7 x8 x9 x10 x11 x12 CC hm
  exact ⟨v, _, _, q1, q2, q3, st⟩
theorem Wk.spW (X : Wk true p l e R s m args below meth c Z EL y bytes maxL ret n0 h0 T h sf cells slots) (hy1 : y'.name = "<init>") (w1 : (Cond.methodLink y.cls index y').before a1 Z = true) (w2 : (Cond.instanceMethod y').before a1 Z = true) {bytes' : ByteArray} {maxL' : Nat} (w3 : (Cond.code y' bytes' maxL' none).before a1 Z = true) (hy : y'.cls ≠ "java/lang/invoke/MethodHandle" ∧ y'.cls ≠ "java/lang/invoke/VarHandle")
    (hK : PayW l R p e below s args Z EL n0 y' 3 W as' h kc ks ws sv Q) (hm : ∀ x ∈ ws, x ∈ sf) (hv : ∀ x ∈ sv, x ∈ sf) {g : JFrame} (hg : g.method = m) (hsize : g.locals.size = maxL) {a : Addr} {argsL rest : List Value} (hlen : ∀ sig, parseMethodDescriptor y'.desc = some sig → argsL.length = sig.parameters.length) (hstack : g.stack = argsL.reverse ++ .ref a :: rest) (hW : 2 * g.monitorRoom + (rest.map fun v => v.category).sum ≤ W)
    (hd : decode bytes g.pc = .ok (.invokespecial index, 3)) (ha : (.ref a :: argsL).toArray = as') (hc : cells + kc ≤ R.cells) (hs : slots + ks ≤ R.slots) :
    ∃ (v : Option Value) (T' : State) (h' : Heap), Wk true p l e R s m args below meth c Z EL y bytes maxL ret n0 h0 T' h' sf (cells + kc) (slots + ks) ∧ Keep h h' ws ∧ Q v h' ∧ Steps p.tables e below (T.setTop g) (T'.setTop { g with pc := g.pc + 3, stack := v.toList ++ rest }) := by
  have hd := X.cd hd
  obtain ⟨vm0, k0, locs, a0, x1, rfl, x3, x4, x5, x6, x7, x8, x9, x10, x11, x12, CC⟩ := X
  obtain ⟨v, vm₁, B, hW1, X', hS, -, po, st⟩ := x1.specialBackS CC.1 hy1 x7 (mvT (s := s.setVm vm0) x6 w1) (mvT (s := s.setVm vm0) x6 w2) (mvT (s := s.setVm vm0) x6 w3) hy (hK vm0 x6 x9.1 (fun x hx => (x10 x (hv x hx)).2)) hg (hsize.trans CC.2.2.1.symm) (Steps.refl _) hlen hstack hW hd (fun _ _ => ⟨ha, rfl, hc, hs⟩)
  obtain ⟨q1, q2, q3⟩ := Wk.aftW X' hS po x4 x5 x6 x7 x8 x9 x10 x11 x12 CC hm
  exact ⟨v, _, _, q1, q2, q3, st⟩
theorem Wk.stN (X : Wk b p l e R s m args below meth c Z EL y bytes maxL ret n0 h0 T h sf cells slots) (w1 : (Cond.methodLink y.cls index y').before a1 Z = true) (w2 : (Cond.static y').before a1 Z = true) (wz : (Cond.initialized y'.cls).before a1 Z = true) {bytes' : ByteArray} {maxL' : Nat} {ret' : Option FieldType} (w3 : (Cond.code y' bytes' maxL' ret').before a1 Z = true) (hy : y'.cls ≠ "java/lang/invoke/MethodHandle" ∧ y'.cls ≠ "java/lang/invoke/VarHandle")
    (hK : Pay l R p e below s args Z n0 y' 3 W as' h kc ks ws Q) (hm : ∀ x ∈ ws, x ∈ sf) {g : JFrame} (hg : g.method = m) (hsize : g.locals.size = maxL) {argsL rest : List Value} (hlen : ∀ sig, parseMethodDescriptor y'.desc = some sig → argsL.length = sig.parameters.length) (hstack : g.stack = argsL.reverse ++ rest) (hW : 2 * g.monitorRoom + (rest.map fun v => v.category).sum ≤ W)
    (hd : decode bytes g.pc = .ok (.invokestatic index, 3)) (ha : argsL.toArray = as') (hc : cells + kc ≤ R.cells) (hs : slots + ks ≤ R.slots) :
    ∃ (v : Option Value) (T' : State) (h' : Heap), Wk b p l e R s m args below meth c Z EL y bytes maxL ret n0 h0 T' h' sf (cells + kc) (slots + ks) ∧ Keep h h' ws ∧ Q v h' ∧ Steps p.tables e below (T.setTop g) (T'.setTop { g with pc := g.pc + 3, stack := v.toList ++ rest }) := by
  have hd := X.cd hd
  obtain ⟨vm0, k0, locs, a0, x1, rfl, x3, x4, x5, x6, x7, x8, x9, x10, x11, x12, CC⟩ := X
  obtain ⟨v, vm₁, B, hW1, X', po, st⟩ := Jvm.LawKit.callS x1 CC.1 x7 (mvT (s := s.setVm vm0) x6 w1) (mvT (s := s.setVm vm0) x6 w2) (mvT (s := s.setVm vm0) x6 wz) (mvT (s := s.setVm vm0) x6 w3) hy (hK vm0 x6) hg (hsize.trans CC.2.2.1.symm) hlen hstack hW hd (fun _ _ => ⟨ha, rfl, hc, hs⟩)
  obtain ⟨q1, q2, q3⟩ := Wk.aftN X' po x3 x4 x5 x6 x7 x8 x9 x10 x11 x12 CC hm
  exact ⟨v, _, _, q1, q2, q3, st _ (Steps.refl _)⟩
theorem Wk.stW (X : Wk true p l e R s m args below meth c Z EL y bytes maxL ret n0 h0 T h sf cells slots) (w1 : (Cond.methodLink y.cls index y').before a1 Z = true) (w2 : (Cond.static y').before a1 Z = true) (wz : (Cond.initialized y'.cls).before a1 Z = true) {bytes' : ByteArray} {maxL' : Nat} {ret' : Option FieldType} (w3 : (Cond.code y' bytes' maxL' ret').before a1 Z = true) (hy : y'.cls ≠ "java/lang/invoke/MethodHandle" ∧ y'.cls ≠ "java/lang/invoke/VarHandle")
    (hK : PayW l R p e below s args Z EL n0 y' 3 W as' h kc ks ws sv Q) (hm : ∀ x ∈ ws, x ∈ sf) (hv : ∀ x ∈ sv, x ∈ sf) {g : JFrame} (hg : g.method = m) (hsize : g.locals.size = maxL) {argsL rest : List Value} (hlen : ∀ sig, parseMethodDescriptor y'.desc = some sig → argsL.length = sig.parameters.length) (hstack : g.stack = argsL.reverse ++ rest) (hW : 2 * g.monitorRoom + (rest.map fun v => v.category).sum ≤ W)
    (hd : decode bytes g.pc = .ok (.invokestatic index, 3)) (ha : argsL.toArray = as') (hc : cells + kc ≤ R.cells) (hs : slots + ks ≤ R.slots) :
    ∃ (v : Option Value) (T' : State) (h' : Heap), Wk true p l e R s m args below meth c Z EL y bytes maxL ret n0 h0 T' h' sf (cells + kc) (slots + ks) ∧ Keep h h' ws ∧ Q v h' ∧ Steps p.tables e below (T.setTop g) (T'.setTop { g with pc := g.pc + 3, stack := v.toList ++ rest }) := by
  have hd := X.cd hd
  obtain ⟨vm0, k0, locs, a0, x1, rfl, x3, x4, x5, x6, x7, x8, x9, x10, x11, x12, CC⟩ := X
  obtain ⟨v, vm₁, B, hW1, X', hS, -, po, st⟩ := callSS x1 CC.1 x7 (mvT (s := s.setVm vm0) x6 w1) (mvT (s := s.setVm vm0) x6 w2) (mvT (s := s.setVm vm0) x6 wz) (mvT (s := s.setVm vm0) x6 w3) hy (hK vm0 x6 x9.1 (fun x hx => (x10 x (hv x hx)).2)) hg (hsize.trans CC.2.2.1.symm) hlen hstack hW hd (fun _ _ => ⟨ha, rfl, hc, hs⟩)
  obtain ⟨q1, q2, q3⟩ := Wk.aftW X' hS po x4 x5 x6 x7 x8 x9 x10 x11 x12 CC hm
  exact ⟨v, _, _, q1, q2, q3, st⟩
theorem Wk.viN (X : Wk b p l e R s m args below meth c Z EL y bytes maxL ret n0 h0 T h sf cells slots) {C : String} (w1 : (Cond.methodLink y.cls index y').before a1 Z = true) (w2 : (Cond.declares y').before a1 Z = true) (w3 : (Cond.selects C y' y').before a1 Z = true) (w4 : (Cond.instanceMethod y').before a1 Z = true) (hy : y'.cls ≠ "java/lang/invoke/MethodHandle" ∧ y'.cls ≠ "java/lang/invoke/VarHandle")
    (hK : Pay l R p e below s args Z n0 y' 3 W as' h kc ks ws Q) (hm : ∀ x ∈ ws, x ∈ sf) {a : Addr} (E : Exa Z h a C) {g : JFrame} (hg : g.method = m) (hsize : g.locals.size = maxL) {argsL rest : List Value} (hlen : ∀ sig, parseMethodDescriptor y'.desc = some sig → argsL.length = sig.parameters.length) (hstack : g.stack = argsL.reverse ++ .ref a :: rest) (hW : 2 * g.monitorRoom + (rest.map fun v => v.category).sum ≤ W)
    (hd : decode bytes g.pc = .ok (.invokevirtual index, 3)) (ha : (.ref a :: argsL).toArray = as') (hc : cells + kc ≤ R.cells) (hs : slots + ks ≤ R.slots) :
    ∃ (v : Option Value) (T' : State) (h' : Heap), Wk b p l e R s m args below meth c Z EL y bytes maxL ret n0 h0 T' h' sf (cells + kc) (slots + ks) ∧ Keep h h' ws ∧ Q v h' ∧ Steps p.tables e below (T.setTop g) (T'.setTop { g with pc := g.pc + 3, stack := v.toList ++ rest }) := by
  have hd := X.cd hd
  obtain ⟨vm0, k0, locs, a0, x1, rfl, x3, x4, x5, x6, x7, x8, x9, x10, x11, x12, CC⟩ := X
  obtain ⟨cq, kq, q1, q2, q3⟩ := isOf (s := s.setVm vm0) (T := T) x6 rfl E
  obtain ⟨v, vm₁, B, hW1, X', po, st⟩ := x1.virtualBack CC.1 x7 (mvT (s := s.setVm vm0) x6 w1) (mvT (s := s.setVm vm0) x6 w2) (notFace_of_selects (args := #[]) (mvT (s := s.setVm vm0) x6 w3)) (mvT (s := s.setVm vm0) x6 w3) (mvT (s := s.setVm vm0) x6 w4) hy (hK vm0 x6) q1 q3 hg (hsize.trans CC.2.2.1.symm) (Steps.refl _) hlen hstack hW hd (fun _ _ => ⟨ha, rfl, hc, hs⟩)
  obtain ⟨q1, q2, q3⟩ := Wk.aftN X' po x3 x4 x5 x6 x7 x8 x9 x10 x11 x12 CC hm
  exact ⟨v, _, _, q1, q2, q3, st⟩
theorem Wk.viW (X : Wk true p l e R s m args below meth c Z EL y bytes maxL ret n0 h0 T h sf cells slots) {C : String} (w1 : (Cond.methodLink y.cls index y').before a1 Z = true) (w2 : (Cond.declares y').before a1 Z = true) (w3 : (Cond.selects C y' y').before a1 Z = true) (w4 : (Cond.instanceMethod y').before a1 Z = true) (hy : y'.cls ≠ "java/lang/invoke/MethodHandle" ∧ y'.cls ≠ "java/lang/invoke/VarHandle")
    (hK : PayW l R p e below s args Z EL n0 y' 3 W as' h kc ks ws sv Q) (hm : ∀ x ∈ ws, x ∈ sf) (hv : ∀ x ∈ sv, x ∈ sf) {a : Addr} (E : Exa Z h a C) {g : JFrame} (hg : g.method = m) (hsize : g.locals.size = maxL) {argsL rest : List Value} (hlen : ∀ sig, parseMethodDescriptor y'.desc = some sig → argsL.length = sig.parameters.length) (hstack : g.stack = argsL.reverse ++ .ref a :: rest) (hW : 2 * g.monitorRoom + (rest.map fun v => v.category).sum ≤ W)
    (hd : decode bytes g.pc = .ok (.invokevirtual index, 3)) (ha : (.ref a :: argsL).toArray = as') (hc : cells + kc ≤ R.cells) (hs : slots + ks ≤ R.slots) :
    ∃ (v : Option Value) (T' : State) (h' : Heap), Wk true p l e R s m args below meth c Z EL y bytes maxL ret n0 h0 T' h' sf (cells + kc) (slots + ks) ∧ Keep h h' ws ∧ Q v h' ∧ Steps p.tables e below (T.setTop g) (T'.setTop { g with pc := g.pc + 3, stack := v.toList ++ rest }) := by
  have hd := X.cd hd
  obtain ⟨vm0, k0, locs, a0, x1, rfl, x3, x4, x5, x6, x7, x8, x9, x10, x11, x12, CC⟩ := X
  obtain ⟨cq, kq, q1, q2, q3⟩ := isOf (s := s.setVm vm0) (T := T) x6 rfl E
  obtain ⟨v, vm₁, B, hW1, X', hS, -, po, st⟩ := x1.virtualBackS CC.1 x7 (mvT (s := s.setVm vm0) x6 w1) (mvT (s := s.setVm vm0) x6 w2) (notFace_of_selects (args := #[]) (mvT (s := s.setVm vm0) x6 w3)) (mvT (s := s.setVm vm0) x6 w3) (mvT (s := s.setVm vm0) x6 w4) hy (hK vm0 x6 x9.1 (fun x hx => (x10 x (hv x hx)).2)) q1 q3 hg (hsize.trans CC.2.2.1.symm) (Steps.refl _) hlen hstack hW hd (fun _ _ => ⟨ha, rfl, hc, hs⟩)
  obtain ⟨q1, q2, q3⟩ := Wk.aftW X' hS po x4 x5 x6 x7 x8 x9 x10 x11 x12 CC hm
  exact ⟨v, _, _, q1, q2, q3, st⟩
end Calls
end OK
end Jvm.Pilot.@@N@@
namespace Jvm.Pilot.@@N@@
namespace OK
open Jvm Jvm.ClassFile Sem Op Lib Bundle Jvm.Stand Jvm.Free Jvm.LawKit Jvm.RoadKit
theorem ne_new {b a n : Nat} (l : b < n) (g : a = n) : b ≠ a := by omega
theorem ne_ge {b t n : Nat} (l : b < n) (g : n ≤ t) : b ≠ t := by omega
theorem own_nar_ref {v : Value} (hv : v.isRef = true) {t : FieldType} (ht : t.isReference = true) : narrow t v = v := by cases v <;> simp [Value.isRef] at hv <;> cases t <;> rfl
theorem own_fit_ref {v : Value} (hv : v.isRef = true) {t : FieldType} (ht : t.isReference = true) : fits t v = true := by cases v <;> simp [Value.isRef] at hv <;> cases t <;> simp [FieldType.isReference] at ht <;> rfl
theorem up255 (cs : List Int32) (h : ∀ c ∈ cs, ¬ c < 0 ∧ ¬ (255 : Int32) < c) : ∀ c ∈ cs, ¬ c < 0 ∧ ¬ (65535 : Int32) < c := fun c hc => ⟨(h c hc).1, fun q => (h c hc).2 (by rw [Int32.lt_iff_toInt_lt] at q ⊢; have e1 : (65535 : Int32).toInt = 65535 := rfl; have e2 : (255 : Int32).toInt = 255 := rfl; omega)⟩
theorem and255 (x : Int32) : ¬ (x &&& (255 : Int32)) < 0 ∧ ¬ (255 : Int32) < (x &&& (255 : Int32)) := by
  have t : ∀ k : Fin 256, ¬ (Int32.ofNat k.val) < 0 ∧ ¬ (255 : Int32) < (Int32.ofNat k.val) := by decide +kernel
  have h : (x &&& 255).toBitVec.toNat < 256 := by
    simp only [Int32.toBitVec_and, BitVec.toNat_and]
    exact Nat.lt_succ_of_le Nat.and_le_right
  have e : (x &&& 255) = Int32.ofNat (x &&& 255).toBitVec.toNat := by
    apply Int32.toBitVec_inj.mp
    show _ = BitVec.ofNat 32 _
    rw [BitVec.ofNat_toNat]; simp
  rw [e]
  exact t ⟨_, h⟩
theorem c255 (x : Int32) : ¬ (x &&& (255 : Int32)).toUInt32.toUInt16.toUInt32.toInt32 < 0 ∧ ¬ (255 : Int32) < (x &&& (255 : Int32)).toUInt32.toUInt16.toUInt32.toInt32 := by rw [i2c_mask]; exact and255 x
theorem nar_i2c (x : Int32) : nar .char x.toUInt32.toUInt16.toUInt32.toInt32 = x.toUInt32.toUInt16.toUInt32.toInt32 := by simp only [nar, UInt32.toUInt32_toInt32, UInt16.toUInt16_toUInt32]
theorem i2b_idem (c : Int32) : c.toInt8.toInt32.toInt8.toInt32 = c.toInt8.toInt32 := by simp
theorem all1 {P : Int32 → Prop} {a : Int32} {L : List Int32} (q : P a) (r : ∀ x ∈ L, P x) : ∀ x ∈ a :: L, P x := fun x z => (List.mem_cons.mp z).elim (fun u => u ▸ q) (r x)
theorem alln {P : Int32 → Prop} : ∀ x ∈ ([] : List Int32), P x := fun _ q => nomatch q
theorem z01_no {A B : Prop} {r : Int32} (h : (r = 1 ∧ A) ∨ (r = 0 ∧ B)) (z : r = 0) : B := by
  rcases h with ⟨q, _⟩ | ⟨_, q⟩
  · rw [z] at q; exact absurd q (by decide)
  · exact q
theorem z01_yes {A B : Prop} {r : Int32} (h : (r = 1 ∧ A) ∨ (r = 0 ∧ B)) (z : ¬ r = 0) : A := by
  rcases h with ⟨_, q⟩ | ⟨q, _⟩
  · exact q
  · exact absurd q z
theorem z01_b {A B : Prop} {p : Int32} (h : (p = 1 ∧ A) ∨ (p = 0 ∧ B)) : nar .boolean p = p := by rcases h with ⟨rfl, _⟩ | ⟨rfl, _⟩ <;> rfl
theorem z01_eq {A B : Prop} {r q : Int32} (h : A ↔ B) (h1 : (r = 1 ∧ A) ∨ (r = 0 ∧ ¬ A)) (h2 : (q = 1 ∧ B) ∨ (q = 0 ∧ ¬ B)) : r = q := by
  rcases h1 with ⟨rfl, a⟩ | ⟨rfl, a⟩ <;> rcases h2 with ⟨rfl, b⟩ | ⟨rfl, b⟩ <;> first | rfl | exact absurd (h.mp a) b | exact absurd (h.mpr b) a
/-- an object of C, a direct heir of Object, is no K, K another ordinary class -/
theorem notInst {Z : State} {a0 : Array Value} {C K : String} {n : Nat} (w : (Jvm.Cond.superclass C "java/lang/Object").before a0 Z = true) (w0 : (Jvm.Cond.noSuperclass "java/lang/Object").before a0 Z = true) (wi : (Jvm.Cond.instantiable K n).before a0 Z = true) (hn : C ≠ K) (hk : "java/lang/Object" ≠ K) : ∃ c t, Z.vm.findClass C = some c ∧ Z.vm.findClass K = some t ∧ Z.vm.assignable c t = false := by
  obtain ⟨c0, k0, a1, a2, a3, -, -⟩ := Cond.noSuperclass_spec w0
  obtain ⟨t, kt, b1, b2, b3, b4, -⟩ := Cond.instantiable_spec wi
  have ne0 := ids_ne a1 b1 hk
  have N0 : NS Z "java/lang/Object" K := ⟨c0, t, a1, b1, fun fuel => by
    cases fuel with
    | zero => rfl
    | succ f => simp [Vm.isSubclassAux, ne0, a2, a3]⟩
  obtain ⟨c, t', h0, g0, n3⟩ := NS.step w N0 hn
  cases b1.symm.trans g0
  obtain ⟨p, k, kp, h1, h2, h3, h4, h5, -, h7⟩ := Cond.superclass_spec h0 w
  have ne := ids_ne h0 g0 hn
  have b5 : kt.isInterface = false := by cases hq : kt.isInterface <;> simp [hq] at b4 ⊢
  refine ⟨c, t, h0, g0, ?_⟩
  show Z.vm.assignableAux (255 + 1) c t = false
  simp [Vm.assignableAux, ne, h2, b2, h5, b3, b5, Vm.isSubclass, n3]
/-- a String object at x whose byte[] lies at t and that spells cs -/
def Str (Z : State) (h : Heap) (x t : Addr) (cs : List Int32) : Prop := ∃ (kb : ClassId) (cd N : Int32) (vs : List Value), Exa Z h x "java/lang/String" ∧ Fld Z h x "java/lang/String" "value" "[B" (.ref t) ∧ Fld Z h x "java/lang/String" "coder" "B" (.int cd) ∧ Arv Z h t kb .byte N vs (.int 0) ∧ StrChars.Road.CodA cs cd N vs ∧ (∀ c ∈ cs, ¬ c < 0 ∧ ¬ (65535 : Int32) < c) ∧ cs.length ≤ 4000
section Strs
variable {Z : State} {h h' : Heap} {x t : Addr} {cs : List Int32} {ws : List Addr} {n0 : Nat} {a0 : Array Value} {l : Launch} {R : Room} {p : Program} {e : Env} {below : List Frame} {s : State} {args : Array Value} {len W : Nat}
theorem Str.ext (F : Str Z h x t cs) (E : Ext h h') : Str Z h' x t cs := by obtain ⟨kb, cd, N, vs, f1, f2, f3, f4, r⟩ := F; exact ⟨kb, cd, N, vs, f1.ext E, f2.ext E, f3.ext E, f4.ext E, r⟩
theorem Str.keep (F : Str Z h x t cs) (K : Keep h h' ws) (q1 : x ∉ ws) (q2 : t ∉ ws) : Str Z h' x t cs := by obtain ⟨kb, cd, N, vs, f1, f2, f3, f4, r⟩ := F; exact ⟨kb, cd, N, vs, f1.keep K, f2.keep K q1, f3.keep K q1, f4.keep K q2, r⟩
theorem Str.other {a : Addr} {sl : Nat} {v : Value} (F : Str Z h x t cs) (W : Wr h h' a sl v) (q1 : x ≠ a) (q2 : t ≠ a) : Str Z h' x t cs := F.keep (Keep.of_wr W) (ninS q1 nin0) (ninS q2 nin0)
theorem Str.exa (F : Str Z h x t cs) : Exa Z h x "java/lang/String" := by obtain ⟨kb, cd, N, vs, f1, -⟩ := F; exact f1
theorem Str.lt (F : Str Z h x t cs) : x < h.size := F.exa.lt
theorem Str.ltT (F : Str Z h x t cs) : t < h.size := by obtain ⟨kb, cd, N, vs, f1, f2, f3, f4, r⟩ := F; exact f4.lt
theorem Str.lit {kb : ClassId} {N : Int32} {vs : List Value} (f1 : Exa Z h x "java/lang/String") (f3 : Fld Z h x "java/lang/String" "coder" "B" (.int 0)) (f2 : Fld Z h x "java/lang/String" "value" "[B" (.ref t)) (f4 : Arv Z h t kb .byte N vs (.int 0)) (hN : N = Int32.ofNat cs.length) (hv : vs = cs.map fun c => Value.int (StrChars.lo8 c)) (hp : ∀ c ∈ cs, ¬ c < 0 ∧ ¬ (255 : Int32) < c) (hl : cs.length ≤ 4000) : Str Z h x t cs :=
  ⟨kb, 0, N, vs, f1, f2, f3, f4, Or.inl ⟨rfl, hN, hv, fun c hc => (hp c hc).2⟩, up255 cs hp, hl⟩
theorem payNew (hw : ∀ d ∈ StrChars.Road.words, d.before a0 Z = true) (wi : (Jvm.Cond.instantiable "java/lang/String" 4).before a0 Z = true) {bb : Addr} {kC : ClassId} {d v0 c0 : Value} {z N : Int32} {n : Nat} (hO : Old Z n0 h) (hx0 : n0 ≤ x) (E : Exa Z h x "java/lang/String") (V : Fld Z h x "java/lang/String" "value" "[B" v0) (C : Fld Z h x "java/lang/String" "coder" "B" c0) (K : Arv Z h bb kC .char N (cs.map Value.int) d) (S : Sta Z Z.heap "java/lang/String" "COMPACT_STRINGS" "Z" (.int z)) (hz : ¬ z = 0)
    (hn : cs.length = n) (hN : N = Int32.ofNat n) (l0 : 0 < n) (l2 : n ≤ 4000) (hp : ∀ c ∈ cs, ¬ c < 0 ∧ ¬ (255 : Int32) < c) (hfr : 4 ≤ R.frames) (hlo : W + 65 ≤ R.locals) :
    Pay l R p e below s args Z n0 (⟨"java/lang/String", "<init>", "([C)V"⟩ : MethodName) len W #[.ref x, .ref bb] h 1 n [x] (fun v h' => ∃ t : Addr, v = none ∧ h.size ≤ t ∧ t < h'.size ∧ Str Z h' x t cs) := fun vm0 hZ =>
  Back.mono (StrChars.Road.backV (s := s.setVm vm0) hZ hw wi hx0 (by rw [← hO.1]; exact hO.2.1) E V C K (S.ext hO.2) hz hn hN l0 l2 hp rfl hfr hlo) (fun P a hp => hp) (fun P a v B _ hq => by
    obtain ⟨L, ⟨q1, q2, q3, q4, q5, t, kb, t1, t2, t3, q6, q7⟩, hl, hc, hs⟩ := hq
    exact ⟨L, ⟨q3, ⟨t, q1, t2, q7.lt, kb, 0, N, _, q4, q6, q5, q7, hN ▸ StrChars.Road.codOf hn (fun c hc => (hp c hc).2), up255 cs hp, by omega⟩, q2⟩, hl, hc, hs⟩)
end Strs
end OK
end Jvm.Pilot.@@N@@
namespace Jvm.Pilot.@@N@@
namespace OK
open Jvm Jvm.ClassFile Sem Op Lib Bundle Jvm.Stand Jvm.Free Jvm.LawKit Jvm.RoadKit
section Calls6
variable {b : Bool} {p : Program} {l : Launch} {e : Env} {R : Room} {s : State} {m : MethodId} {args : Array Value} {below : List Frame} {meth : Method} {c : Code} {Z : State} {EL : List (String × Nat)} {y : MethodName} {bytes : ByteArray} {maxL : Nat} {ret : Option FieldType} {n0 : Nat} {h0 : Heap} {T : State} {h h' : Heap} {sf ws sv : List Addr} {cells slots : Nat} {a1 : Array Value} {Q : Option Value → Heap → Prop} {y' z' : MethodName} {index W kc ks : Nat} {as' : Array Value}
theorem Wk.pvN (X : Wk b p l e R s m args below meth c Z EL y bytes maxL ret n0 h0 T h sf cells slots) (w1 : (Cond.methodLink y.cls index y').before a1 Z = true) (w2 : (Cond.instanceMethod y').before a1 Z = true) (w3 : (Cond.selects y'.cls y' y').before a1 Z = true) (w4 : (Cond.privateMethod y').before a1 Z = true) {bytes' : ByteArray} {maxL' : Nat} {ret' : Option FieldType} (w5 : (Cond.code y' bytes' maxL' ret').before a1 Z = true) (hy : y'.cls ≠ "java/lang/invoke/MethodHandle" ∧ y'.cls ≠ "java/lang/invoke/VarHandle")
    (hK : Pay l R p e below s args Z n0 y' 3 W as' h kc ks ws Q) (hm : ∀ x ∈ ws, x ∈ sf) {C : String} {a : Addr} (E : Exa Z h a C) {g : JFrame} (hg : g.method = m) (hsize : g.locals.size = maxL) {argsL rest : List Value} (hlen : ∀ sig, parseMethodDescriptor y'.desc = some sig → argsL.length = sig.parameters.length) (hstack : g.stack = argsL.reverse ++ .ref a :: rest) (hW : 2 * g.monitorRoom + (rest.map fun v => v.category).sum ≤ W)
    (hd : decode bytes g.pc = .ok (.invokevirtual index, 3)) (ha : (.ref a :: argsL).toArray = as') (hc : cells + kc ≤ R.cells) (hs : slots + ks ≤ R.slots) :
    ∃ (v : Option Value) (T' : State) (h' : Heap), Wk b p l e R s m args below meth c Z EL y bytes maxL ret n0 h0 T' h' sf (cells + kc) (slots + ks) ∧ Keep h h' ws ∧ Q v h' ∧ Steps p.tables e below (T.setTop g) (T'.setTop { g with pc := g.pc + 3, stack := v.toList ++ rest }) := by
  have hd := X.cd hd
  obtain ⟨vm0, k0, locs, a0, x1, rfl, x3, x4, x5, x6, x7, x8, x9, x10, x11, x12, CC⟩ := X
  obtain ⟨cl, q1, q2⟩ := E.cell
  obtain ⟨v, vm₁, B, hW1, X', po, st⟩ := x1.privateBack CC.1 x7 (mvT (s := s.setVm vm0) x6 w1) (mvT (s := s.setVm vm0) x6 w2) (mvT (s := s.setVm vm0) x6 w3) (Cond.privateMethod_at (mvP (args := args) (s := s.setVm vm0) x6 w4)) (mvT (s := s.setVm vm0) x6 w5) hy (hK vm0 x6) hg (hsize.trans CC.2.2.1.symm) (Steps.refl _) q1 q2 hlen hstack hW hd (fun _ _ => ⟨ha, rfl, hc, hs⟩)
  obtain ⟨q1, q2, q3⟩ := Wk.aftN X' po x3 x4 x5 x6 x7 x8 x9 x10 x11 x12 CC hm
  exact ⟨v, _, _, q1, q2, q3, st⟩
theorem Wk.ifN (X : Wk b p l e R s m args below meth c Z EL y bytes maxL ret n0 h0 T h sf cells slots) {C : String} {count : Nat} (w1 : (Cond.methodLink y.cls index y').before a1 Z = true) (w2 : (Cond.declares y').before a1 Z = true) (w3 : (Cond.interfaceMethod y'.cls y'.cls y'.name y'.desc).before a1 Z = true) (k3 : ((Cond.interfaceMethod y'.cls y'.cls y'.name y'.desc).onTables && (Cond.interfaceMethod y'.cls y'.cls y'.name y'.desc).keepsFace) = true) (w4 : (Cond.selects C y' z').before a1 Z = true) (w5 : (Cond.instanceMethod z').before a1 Z = true) (w6 : (Cond.publicMethod z').before a1 Z = true) (w7 : (Cond.unhidden C y'.name y'.desc).before a1 Z = true) (w8 : (Cond.castable C y'.cls).before a1 Z = true) (hy : y'.cls ≠ "java/lang/invoke/MethodHandle" ∧ y'.cls ≠ "java/lang/invoke/VarHandle")
    (hK : Pay l R p e below s args Z n0 z' 5 W as' h kc ks ws Q) (hm : ∀ x ∈ ws, x ∈ sf) {a : Addr} (E : Exa Z h a C) {g : JFrame} (hg : g.method = m) (hsize : g.locals.size = maxL) {argsL rest : List Value} (hlen : ∀ sig, parseMethodDescriptor y'.desc = some sig → argsL.length = sig.parameters.length) (hstack : g.stack = argsL.reverse ++ .ref a :: rest) (hW : 2 * g.monitorRoom + (rest.map fun v => v.category).sum ≤ W)
    (hd : decode bytes g.pc = .ok (.invokeinterface index count, 5)) (ha : (.ref a :: argsL).toArray = as') (hc : cells + kc ≤ R.cells) (hs : slots + ks ≤ R.slots) :
    ∃ (v : Option Value) (T' : State) (h' : Heap), Wk b p l e R s m args below meth c Z EL y bytes maxL ret n0 h0 T' h' sf (cells + kc) (slots + ks) ∧ Keep h h' ws ∧ Q v h' ∧ Steps p.tables e below (T.setTop g) (T'.setTop { g with pc := g.pc + 5, stack := v.toList ++ rest }) := by
  have hd := X.cd hd
  obtain ⟨vm0, k0, locs, a0, x1, rfl, x3, x4, x5, x6, x7, x8, x9, x10, x11, x12, CC⟩ := X
  obtain ⟨cq, kq, q1, q2, q3⟩ := isOf (s := s.setVm vm0) (T := T) x6 rfl E
  obtain ⟨v, vm₁, B, hW1, X', po, st⟩ := x1.interfaceBack CC.1 x7 (mvT (s := s.setVm vm0) x6 w1) (mvT (s := s.setVm vm0) x6 w2) (mvT (s := s.setVm vm0) x6 w3 k3) (mvT (s := s.setVm vm0) x6 w4) (mvT (s := s.setVm vm0) x6 w5) (mvT (s := s.setVm vm0) x6 w6) (mvT (s := s.setVm vm0) x6 w7) (mvT (s := s.setVm vm0) x6 w8) hy (hK vm0 x6) q1 q2 q3 hg (hsize.trans CC.2.2.1.symm) (Steps.refl _) hlen hstack hW hd (fun _ _ => ⟨ha, rfl, hc, hs⟩)
  obtain ⟨q1, q2, q3⟩ := Wk.aftN X' po x3 x4 x5 x6 x7 x8 x9 x10 x11 x12 CC hm
  exact ⟨v, _, _, q1, q2, q3, st⟩
theorem Wk.voN (X : Wk b p l e R s m args below meth c Z EL y bytes maxL ret n0 h0 T h sf cells slots) {C : String} (w1 : (Cond.methodLink y.cls index y').before a1 Z = true) (w2 : (Cond.declares y').before a1 Z = true) (hnf : ∀ vm0, Z.Warmed39 vm0 → NotFace (s.setVm vm0) y') (w3 : (Cond.selects C y' z').before a1 Z = true) (w4 : (Cond.instanceMethod z').before a1 Z = true) (hy : y'.cls ≠ "java/lang/invoke/MethodHandle" ∧ y'.cls ≠ "java/lang/invoke/VarHandle")
    (hK : Pay l R p e below s args Z n0 z' 3 W as' h kc ks ws Q) (hm : ∀ x ∈ ws, x ∈ sf) {a : Addr} (E : Exa Z h a C) {g : JFrame} (hg : g.method = m) (hsize : g.locals.size = maxL) {argsL rest : List Value} (hlen : ∀ sig, parseMethodDescriptor y'.desc = some sig → argsL.length = sig.parameters.length) (hstack : g.stack = argsL.reverse ++ .ref a :: rest) (hW : 2 * g.monitorRoom + (rest.map fun v => v.category).sum ≤ W)
    (hd : decode bytes g.pc = .ok (.invokevirtual index, 3)) (ha : (.ref a :: argsL).toArray = as') (hc : cells + kc ≤ R.cells) (hs : slots + ks ≤ R.slots) :
    ∃ (v : Option Value) (T' : State) (h' : Heap), Wk b p l e R s m args below meth c Z EL y bytes maxL ret n0 h0 T' h' sf (cells + kc) (slots + ks) ∧ Keep h h' ws ∧ Q v h' ∧ Steps p.tables e below (T.setTop g) (T'.setTop { g with pc := g.pc + 3, stack := v.toList ++ rest }) := by
  have hd := X.cd hd
  obtain ⟨vm0, k0, locs, a0, x1, rfl, x3, x4, x5, x6, x7, x8, x9, x10, x11, x12, CC⟩ := X
  obtain ⟨cq, kq, q1, q2, q3⟩ := isOf (s := s.setVm vm0) (T := T) x6 rfl E
  obtain ⟨v, vm₁, B, hW1, X', po, st⟩ := x1.virtualBack CC.1 x7 (mvT (s := s.setVm vm0) x6 w1) (mvT (s := s.setVm vm0) x6 w2) (hnf vm0 x6) (mvT (s := s.setVm vm0) x6 w3) (mvT (s := s.setVm vm0) x6 w4) hy (hK vm0 x6) q1 q3 hg (hsize.trans CC.2.2.1.symm) (Steps.refl _) hlen hstack hW hd (fun _ _ => ⟨ha, rfl, hc, hs⟩)
  obtain ⟨q1, q2, q3⟩ := Wk.aftN X' po x3 x4 x5 x6 x7 x8 x9 x10 x11 x12 CC hm
  exact ⟨v, _, _, q1, q2, q3, st⟩
theorem Wk.pvW (X : Wk true p l e R s m args below meth c Z EL y bytes maxL ret n0 h0 T h sf cells slots) (w1 : (Cond.methodLink y.cls index y').before a1 Z = true) (w2 : (Cond.instanceMethod y').before a1 Z = true) (w3 : (Cond.selects y'.cls y' y').before a1 Z = true) (w4 : (Cond.privateMethod y').before a1 Z = true) {bytes' : ByteArray} {maxL' : Nat} {ret' : Option FieldType} (w5 : (Cond.code y' bytes' maxL' ret').before a1 Z = true) (hy : y'.cls ≠ "java/lang/invoke/MethodHandle" ∧ y'.cls ≠ "java/lang/invoke/VarHandle")
    (hK : PayW l R p e below s args Z EL n0 y' 3 W as' h kc ks ws sv Q) (hm : ∀ x ∈ ws, x ∈ sf) (hv : ∀ x ∈ sv, x ∈ sf) {C : String} {a : Addr} (E : Exa Z h a C) {g : JFrame} (hg : g.method = m) (hsize : g.locals.size = maxL) {argsL rest : List Value} (hlen : ∀ sig, parseMethodDescriptor y'.desc = some sig → argsL.length = sig.parameters.length) (hstack : g.stack = argsL.reverse ++ .ref a :: rest) (hW : 2 * g.monitorRoom + (rest.map fun v => v.category).sum ≤ W)
    (hd : decode bytes g.pc = .ok (.invokevirtual index, 3)) (ha : (.ref a :: argsL).toArray = as') (hc : cells + kc ≤ R.cells) (hs : slots + ks ≤ R.slots) :
    ∃ (v : Option Value) (T' : State) (h' : Heap), Wk true p l e R s m args below meth c Z EL y bytes maxL ret n0 h0 T' h' sf (cells + kc) (slots + ks) ∧ Keep h h' ws ∧ Q v h' ∧ Steps p.tables e below (T.setTop g) (T'.setTop { g with pc := g.pc + 3, stack := v.toList ++ rest }) := by
  have hd := X.cd hd
  obtain ⟨vm0, k0, locs, a0, x1, rfl, x3, x4, x5, x6, x7, x8, x9, x10, x11, x12, CC⟩ := X
  obtain ⟨cl, q1, q2⟩ := E.cell
  obtain ⟨v, vm₁, B, hW1, X', hS, -, po, st⟩ := x1.privateBackS CC.1 x7 (mvT (s := s.setVm vm0) x6 w1) (mvT (s := s.setVm vm0) x6 w2) (mvT (s := s.setVm vm0) x6 w3) (Cond.privateMethod_at (mvP (args := args) (s := s.setVm vm0) x6 w4)) (mvT (s := s.setVm vm0) x6 w5) hy (hK vm0 x6 x9.1 (fun x hx => (x10 x (hv x hx)).2)) hg (hsize.trans CC.2.2.1.symm) (Steps.refl _) q1 q2 hlen hstack hW hd (fun _ _ => ⟨ha, rfl, hc, hs⟩)
  obtain ⟨q1, q2, q3⟩ := Wk.aftW X' hS po x4 x5 x6 x7 x8 x9 x10 x11 x12 CC hm
  exact ⟨v, _, _, q1, q2, q3, st⟩
theorem Wk.ifW (X : Wk true p l e R s m args below meth c Z EL y bytes maxL ret n0 h0 T h sf cells slots) {C : String} {count : Nat} (w1 : (Cond.methodLink y.cls index y').before a1 Z = true) (w2 : (Cond.declares y').before a1 Z = true) (w3 : (Cond.interfaceMethod y'.cls y'.cls y'.name y'.desc).before a1 Z = true) (k3 : ((Cond.interfaceMethod y'.cls y'.cls y'.name y'.desc).onTables && (Cond.interfaceMethod y'.cls y'.cls y'.name y'.desc).keepsFace) = true) (w4 : (Cond.selects C y' z').before a1 Z = true) (w5 : (Cond.instanceMethod z').before a1 Z = true) (w6 : (Cond.publicMethod z').before a1 Z = true) (w7 : (Cond.unhidden C y'.name y'.desc).before a1 Z = true) (w8 : (Cond.castable C y'.cls).before a1 Z = true) (hy : y'.cls ≠ "java/lang/invoke/MethodHandle" ∧ y'.cls ≠ "java/lang/invoke/VarHandle")
    (hK : PayW l R p e below s args Z EL n0 z' 5 W as' h kc ks ws sv Q) (hm : ∀ x ∈ ws, x ∈ sf) (hv : ∀ x ∈ sv, x ∈ sf) {a : Addr} (E : Exa Z h a C) {g : JFrame} (hg : g.method = m) (hsize : g.locals.size = maxL) {argsL rest : List Value} (hlen : ∀ sig, parseMethodDescriptor y'.desc = some sig → argsL.length = sig.parameters.length) (hstack : g.stack = argsL.reverse ++ .ref a :: rest) (hW : 2 * g.monitorRoom + (rest.map fun v => v.category).sum ≤ W)
    (hd : decode bytes g.pc = .ok (.invokeinterface index count, 5)) (ha : (.ref a :: argsL).toArray = as') (hc : cells + kc ≤ R.cells) (hs : slots + ks ≤ R.slots) :
    ∃ (v : Option Value) (T' : State) (h' : Heap), Wk true p l e R s m args below meth c Z EL y bytes maxL ret n0 h0 T' h' sf (cells + kc) (slots + ks) ∧ Keep h h' ws ∧ Q v h' ∧ Steps p.tables e below (T.setTop g) (T'.setTop { g with pc := g.pc + 5, stack := v.toList ++ rest }) := by
  have hd := X.cd hd
  obtain ⟨vm0, k0, locs, a0, x1, rfl, x3, x4, x5, x6, x7, x8, x9, x10, x11, x12, CC⟩ := X
  obtain ⟨cq, kq, q1, q2, q3⟩ := isOf (s := s.setVm vm0) (T := T) x6 rfl E
  obtain ⟨v, vm₁, B, hW1, X', hS, -, po, st⟩ := x1.interfaceBackS CC.1 x7 (mvT (s := s.setVm vm0) x6 w1) (mvT (s := s.setVm vm0) x6 w2) (mvT (s := s.setVm vm0) x6 w3 k3) (mvT (s := s.setVm vm0) x6 w4) (mvT (s := s.setVm vm0) x6 w5) (mvT (s := s.setVm vm0) x6 w6) (mvT (s := s.setVm vm0) x6 w7) (mvT (s := s.setVm vm0) x6 w8) hy (hK vm0 x6 x9.1 (fun x hx => (x10 x (hv x hx)).2)) q1 q2 q3 hg (hsize.trans CC.2.2.1.symm) (Steps.refl _) hlen hstack hW hd (fun _ _ => ⟨ha, rfl, hc, hs⟩)
  obtain ⟨q1, q2, q3⟩ := Wk.aftW X' hS po x4 x5 x6 x7 x8 x9 x10 x11 x12 CC hm
  exact ⟨v, _, _, q1, q2, q3, st⟩
theorem Wk.voW (X : Wk true p l e R s m args below meth c Z EL y bytes maxL ret n0 h0 T h sf cells slots) {C : String} (w1 : (Cond.methodLink y.cls index y').before a1 Z = true) (w2 : (Cond.declares y').before a1 Z = true) (hnf : ∀ vm0, Z.Warmed39 vm0 → NotFace (s.setVm vm0) y') (w3 : (Cond.selects C y' z').before a1 Z = true) (w4 : (Cond.instanceMethod z').before a1 Z = true) (hy : y'.cls ≠ "java/lang/invoke/MethodHandle" ∧ y'.cls ≠ "java/lang/invoke/VarHandle")
    (hK : PayW l R p e below s args Z EL n0 z' 3 W as' h kc ks ws sv Q) (hm : ∀ x ∈ ws, x ∈ sf) (hv : ∀ x ∈ sv, x ∈ sf) {a : Addr} (E : Exa Z h a C) {g : JFrame} (hg : g.method = m) (hsize : g.locals.size = maxL) {argsL rest : List Value} (hlen : ∀ sig, parseMethodDescriptor y'.desc = some sig → argsL.length = sig.parameters.length) (hstack : g.stack = argsL.reverse ++ .ref a :: rest) (hW : 2 * g.monitorRoom + (rest.map fun v => v.category).sum ≤ W)
    (hd : decode bytes g.pc = .ok (.invokevirtual index, 3)) (ha : (.ref a :: argsL).toArray = as') (hc : cells + kc ≤ R.cells) (hs : slots + ks ≤ R.slots) :
    ∃ (v : Option Value) (T' : State) (h' : Heap), Wk true p l e R s m args below meth c Z EL y bytes maxL ret n0 h0 T' h' sf (cells + kc) (slots + ks) ∧ Keep h h' ws ∧ Q v h' ∧ Steps p.tables e below (T.setTop g) (T'.setTop { g with pc := g.pc + 3, stack := v.toList ++ rest }) := by
  have hd := X.cd hd
  obtain ⟨vm0, k0, locs, a0, x1, rfl, x3, x4, x5, x6, x7, x8, x9, x10, x11, x12, CC⟩ := X
  obtain ⟨cq, kq, q1, q2, q3⟩ := isOf (s := s.setVm vm0) (T := T) x6 rfl E
  obtain ⟨v, vm₁, B, hW1, X', hS, -, po, st⟩ := x1.virtualBackS CC.1 x7 (mvT (s := s.setVm vm0) x6 w1) (mvT (s := s.setVm vm0) x6 w2) (hnf vm0 x6) (mvT (s := s.setVm vm0) x6 w3) (mvT (s := s.setVm vm0) x6 w4) hy (hK vm0 x6 x9.1 (fun x hx => (x10 x (hv x hx)).2)) q1 q3 hg (hsize.trans CC.2.2.1.symm) (Steps.refl _) hlen hstack hW hd (fun _ _ => ⟨ha, rfl, hc, hs⟩)
  obtain ⟨q1, q2, q3⟩ := Wk.aftW X' hS po x4 x5 x6 x7 x8 x9 x10 x11 x12 CC hm
  exact ⟨v, _, _, q1, q2, q3, st⟩
theorem Wk.addE (X : Wk b p l e R s m args below meth c Z EL y bytes maxL ret n0 h0 T h sf cells slots) {C : String} {a : Addr} (E : Exa Z h a C) (h1 : C ≠ "java/lang/String") (h2 : C ≠ "[B") (hn : n0 ≤ a) : Wk b p l e R s m args below meth c Z EL y bytes maxL ret n0 h0 T h (a :: sf) cells slots := by
  obtain ⟨vm0, k0, locs, a0, x1, x2, x3, x4, x5, x6, x7, x8, x9, x10, x11⟩ := X
  exact ⟨vm0, k0, locs, a0, x1, x2, x3, x4, x5, x6, x7, x8, x9, fun z hz => (List.mem_cons.mp hz).elim (fun q => by subst q; exact ⟨hn, E.lt, Safe.exa x6.alike E h1 h2⟩) (x10 z), x11⟩
theorem Wk.addA (X : Wk b p l e R s m args below meth c Z EL y bytes maxL ret n0 h0 T h sf cells slots) {a : Addr} {k : ClassId} {ty : FieldType} {n : Int32} {vs : List Value} {dv : Value} (F : Arv Z h a k ty n vs dv) (h1 : ty ≠ .byte) (hn : n0 ≤ a) : Wk b p l e R s m args below meth c Z EL y bytes maxL ret n0 h0 T h (a :: sf) cells slots := by
  obtain ⟨vm0, k0, locs, a0, x1, x2, x3, x4, x5, x6, x7, x8, x9, x10, x11⟩ := X
  exact ⟨vm0, k0, locs, a0, x1, x2, x3, x4, x5, x6, x7, x8, x9, fun z hz => (List.mem_cons.mp hz).elim (fun q => by subst q; exact ⟨hn, F.lt, Safe.arv x6.alike F h1⟩) (x10 z), x11⟩
theorem ins_keep {a : Addr} {C : String} {bo : Bool} (F : Ins Z h a C bo) (K : Keep h h' ws) : Ins Z h' a C bo := by
  obtain ⟨cell, k, h1, h2, h3⟩ := F
  obtain ⟨c2, q, r1, r2, r3⟩ := K.2.2 a cell h1
  exact ⟨c2, k, q, h2, by rw [r1, r2]; exact h3⟩
end Calls6
end OK
end Jvm.Pilot.@@N@@
namespace Jvm.Pilot.@@N@@
open Jvm Jvm.ClassFile Sem Op Lib Jvm.Free Jvm.Stand Jvm.LawKit Jvm.RoadKit Bundle Jvm.Pilot.@@N@@.Jvm.D Jvm.Pilot.@@N@@.OK
def own_ki (k : Int32) : Int32 := (k &&& (2147483647 : Int32)) % (5 : Int32)
def own_pick (sk0 sk1 sk2 sk3 sk4 : Addr) (k : Int32) : Addr := if own_ki k = 0 then sk0 else if own_ki k = 1 then sk1 else if own_ki k = 2 then sk2 else if own_ki k = 3 then sk3 else sk4
theorem own_pick_r (sk0 sk1 sk2 sk3 sk4 : Addr) (k : Int32) : own_pick sk0 sk1 sk2 sk3 sk4 k = sk0 ∨ own_pick sk0 sk1 sk2 sk3 sk4 k = sk1 ∨ own_pick sk0 sk1 sk2 sk3 sk4 k = sk2 ∨ own_pick sk0 sk1 sk2 sk3 sk4 k = sk3 ∨ own_pick sk0 sk1 sk2 sk3 sk4 k = sk4 := by
  unfold own_pick
  by_cases h0 : own_ki k = 0
  · simp [h0]
  · by_cases h1 : own_ki k = 1
    · simp [h1]
    · by_cases h2 : own_ki k = 2
      · simp [h2]
      · by_cases h3 : own_ki k = 3
        · simp [h3]
        · simp [h0, h1, h2, h3]
theorem own_nb {b : Int32} (h : b = 0 ∨ b = 1) : narrow .boolean (.int b) = .int b := by rcases h with rfl | rfl <;> rfl
theorem own_fb {b : Int32} (h : b = 0 ∨ b = 1) : fits .boolean (.int b) = true := by rcases h with rfl | rfl <;> rfl
theorem own_lt12 {x : Int32} (h : x < 1) : x < 2 := by rw [Int32.lt_iff_toInt_lt] at *; have e1 : (1 : Int32).toInt = 1 := rfl; have e2 : (2 : Int32).toInt = 2 := rfl; omega
theorem own_fin {b g r : Int32} {rs sk0 sk1 sk2 sk3 sk4 : Addr} (n1 : sk0 ≠ sk1) (n2 : sk0 ≠ sk2) (n3 : sk0 ≠ sk3) (n4 : sk0 ≠ sk4) (hs : rs = sk0 ∨ rs = sk1 ∨ rs = sk2 ∨ rs = sk3 ∨ rs = sk4) (hp : (g = 1 ∧ (¬ b = 0 ∧ ¬ rs = sk0)) ∨ (g = 0 ∧ ¬ (¬ b = 0 ∧ ¬ rs = sk0)))
    (hx : (b = 0 ∧ r = 0) ∨ (¬ b = 0 ∧ rs = sk1 ∧ r = 1) ∨ (¬ b = 0 ∧ ¬ rs = sk1 ∧ rs = sk2 ∧ r = 1) ∨ (¬ b = 0 ∧ ¬ rs = sk1 ∧ ¬ rs = sk2 ∧ rs = sk3 ∧ r = 1) ∨ (¬ b = 0 ∧ ¬ rs = sk1 ∧ ¬ rs = sk2 ∧ ¬ rs = sk3 ∧ rs = sk4 ∧ r = 1) ∨ (¬ b = 0 ∧ ¬ rs = sk1 ∧ ¬ rs = sk2 ∧ ¬ rs = sk3 ∧ ¬ rs = sk4 ∧ r = 0)) : g = r := by
  rcases hp with ⟨rfl, hb, h0⟩ | ⟨rfl, hn⟩
  · rcases hx with ⟨q, _⟩ | ⟨_, _, q⟩ | ⟨_, _, _, q⟩ | ⟨_, _, _, _, q⟩ | ⟨_, _, _, _, _, q⟩ | ⟨_, q1, q2, q3, q4, q⟩
    · exact absurd q hb
    · exact q.symm
    · exact q.symm
    · exact q.symm
    · exact q.symm
    · rcases hs with z | z | z | z | z
      · exact absurd z h0
      · exact absurd z q1
      · exact absurd z q2
      · exact absurd z q3
      · exact absurd z q4
  · rcases hx with ⟨_, q⟩ | ⟨hb, z, q⟩ | ⟨hb, _, z, q⟩ | ⟨hb, _, _, z, q⟩ | ⟨hb, _, _, _, z, q⟩ | ⟨_, _, _, _, _, q⟩
    · exact q.symm
    · exact absurd ⟨hb, fun e => n1 (e.symm.trans z)⟩ hn
    · exact absurd ⟨hb, fun e => n2 (e.symm.trans z)⟩ hn
    · exact absurd ⟨hb, fun e => n3 (e.symm.trans z)⟩ hn
    · exact absurd ⟨hb, fun e => n4 (e.symm.trans z)⟩ hn
    · exact q.symm
def own_min (a b : Int32) : Int32 := if b < a then b else a
def own_max (a b : Int32) : Int32 := if a < b then b else a
theorem ef_rm_max (m : MethodId) (x0 : Int32) (x1 : Int32) : entryFrame m #[(.int x0), (.int x1)] 2 = mkF m 0 #[.val (.int x0), .val (.int x1)] [] := by first | (simp [entryFrame, mkF, argsToLocals, Value.category]; done) | rfl
def Q_rm_max (Z : State) (a : Int32) (b : Int32) (h0 : Heap) (ov : Option Value) (hz : Heap) : Prop := ov = some (.int (own_max a b)) ∧ h0 = hz
theorem pf_max_11 : plainFor (⟨"java/lang/Math", "max", "(II)I"⟩ : MethodName) = true := by decide +kernel
theorem d_jdk_29_method_65_0 : decode jdk_29_method_65_code 0 = .ok (.iload_n 0, 1) := by decide +kernel
theorem d_jdk_29_method_65_1 : decode jdk_29_method_65_code 1 = .ok (.iload_n 1, 1) := by decide +kernel
theorem d_jdk_29_method_65_2 : decode jdk_29_method_65_code 2 = .ok (.if_icmp .lt 7, 3) := by decide +kernel
theorem d_jdk_29_method_65_9 : decode jdk_29_method_65_code 9 = .ok (.iload_n 1, 1) := by decide +kernel
theorem d_jdk_29_method_65_10 : decode jdk_29_method_65_code 10 = .ok (.ireturn, 1) := by decide +kernel
theorem d_jdk_29_method_65_5 : decode jdk_29_method_65_code 5 = .ok (.iload_n 0, 1) := by decide +kernel
theorem d_jdk_29_method_65_6 : decode jdk_29_method_65_code 6 = .ok (.goto 4, 3) := by decide +kernel
abbrev RM_rm_max : Room := { frames := 0, cells := 0, slots := 0, locals := 0 }
set_option maxRecDepth 65536 in
set_option maxHeartbeats 40000000 in
theorem rm_max (l : Launch) (Z : State) (a0 : Array Value) (hw : ∀ d ∈ tables_1, d.before a0 Z = true) (n0 : Nat) (a : Int32) (b : Int32) (h0 : Heap) (hO : Old Z n0 h0)  :
    Ct l (⟨"java/lang/Math", "max", "(II)I"⟩ : MethodName) jdk_29_method_65_code 2 (some .int) [] RM_rm_max Z n0 #[(.int a), (.int b)] h0 [] (Q_rm_max Z a b h0) := by
  refine Ct.of_walk pf_max_11 hO all0 ?_
  intro p e s m below meth c T0 X0
  rw [ef_rm_max m a b]
  show Go _ _ _ _ (T0.setTop (mkF m 0 #[.val (.int a), .val (.int b)] []))
  refine Go.by (fun _ k => XS.iloadN X0.here X0.hx rfl (X0.cd d_jdk_29_method_65_0) rfl  k) ?_
  show Go _ _ _ _ (T0.setTop (mkF m 1 #[.val (.int a), .val (.int b)] [(.int a)]))
  refine Go.by (fun _ k => XS.iloadN X0.here X0.hx rfl (X0.cd d_jdk_29_method_65_1) rfl  k) ?_
  show Go _ _ _ _ (T0.setTop (mkF m 2 #[.val (.int a), .val (.int b)] [(.int b), (.int a)]))
  by_cases cq : a < b
  · refine Go.by (fun _ k => XS.icmpYes X0.here X0.hx rfl (pc0 := 2) (pc' := 9) rfl (X0.cd d_jdk_29_method_65_2) rfl (XT.ii_lt_t cq) (by decide) (by decide) k) ?_
    show Go _ _ _ _ (T0.setTop (mkF m 9 #[.val (.int a), .val (.int b)] []))
    refine Go.by (fun _ k => XS.iloadN X0.here X0.hx rfl (X0.cd d_jdk_29_method_65_9) rfl  k) ?_
    show Go _ _ _ _ (T0.setTop (mkF m 10 #[.val (.int a), .val (.int b)] [(.int b)]))
    exact X0.retI d_jdk_29_method_65_10 (Keep.refl h0 []) ⟨(congrArg (fun z => some (Value.int z)) ((if_pos cq).symm)), rfl⟩ (by decide) (by decide)
  · refine Go.by (fun _ k => XS.icmpNo X0.here X0.hx rfl (X0.cd d_jdk_29_method_65_2) rfl (XT.ii_lt_f cq) k) ?_
    show Go _ _ _ _ (T0.setTop (mkF m 5 #[.val (.int a), .val (.int b)] []))
    refine Go.by (fun _ k => XS.iloadN X0.here X0.hx rfl (X0.cd d_jdk_29_method_65_5) rfl  k) ?_
    show Go _ _ _ _ (T0.setTop (mkF m 6 #[.val (.int a), .val (.int b)] [(.int a)]))
    refine Go.by (fun _ k => XS.goto X0.here X0.hx rfl (pc0 := 6) (pc' := 10) rfl (X0.cd d_jdk_29_method_65_6) (by decide) (by decide) k) ?_
    show Go _ _ _ _ (T0.setTop (mkF m 10 #[.val (.int a), .val (.int b)] [(.int a)]))
    exact X0.retI d_jdk_29_method_65_10 (Keep.refl h0 []) ⟨(congrArg (fun z => some (Value.int z)) ((if_neg cq).symm)), rfl⟩ (by decide) (by decide)
theorem ef_rm_pick (m : MethodId) (x0 : Int32) : entryFrame m #[(.int x0)] 2 = mkF m 0 #[.val (.int x0), .unset] [] := by first | (simp [entryFrame, mkF, argsToLocals, Value.category]; done) | rfl
def Q_rm_pick (Z : State) (v : Int32) (sk0 : Addr) (sk1 : Addr) (sk2 : Addr) (sk3 : Addr) (sk4 : Addr) (h0 : Heap) (ov : Option Value) (hz : Heap) : Prop := ∃ (r : Addr), ov = some (.ref r) ∧ h0 = hz ∧ (r = own_pick sk0 sk1 sk2 sk3 sk4 v)
theorem pn_0 : plainName "com/example/cinderpath/cinderpath/ir/SignatureReadsInputPinLaw" = true := by first | (simp [plainName, overriddenIn]; done) | decide +kernel
theorem d_method_2_0 : decode method_2_code 0 = .ok (.iload_n 0, 1) := by decide +kernel
theorem d_method_2_1 : decode method_2_code 1 = .ok (.ldc 7, 2) := by decide +kernel
theorem d_method_2_3 : decode method_2_code 3 = .ok (.iand, 1) := by decide +kernel
theorem d_method_2_4 : decode method_2_code 4 = .ok (.iconst 5, 1) := by decide +kernel
theorem d_method_2_5 : decode method_2_code 5 = .ok (.irem, 1) := by decide +kernel
theorem d_method_2_6 : decode method_2_code 6 = .ok (.istore_n 1, 1) := by decide +kernel
theorem d_method_2_7 : decode method_2_code 7 = .ok (.iload_n 1, 1) := by decide +kernel
theorem d_method_2_8 : decode method_2_code 8 = .ok (.ifCond .ne 7, 3) := by decide +kernel
theorem d_method_2_11 : decode method_2_code 11 = .ok (.getstatic 8, 3) := by decide +kernel
theorem d_method_2_14 : decode method_2_code 14 = .ok (.areturn, 1) := by decide +kernel
theorem d_method_2_15 : decode method_2_code 15 = .ok (.iload_n 1, 1) := by decide +kernel
theorem d_method_2_16 : decode method_2_code 16 = .ok (.iconst 1, 1) := by decide +kernel
theorem d_method_2_17 : decode method_2_code 17 = .ok (.if_icmp .ne 7, 3) := by decide +kernel
theorem d_method_2_20 : decode method_2_code 20 = .ok (.getstatic 14, 3) := by decide +kernel
theorem d_method_2_23 : decode method_2_code 23 = .ok (.areturn, 1) := by decide +kernel
theorem d_method_2_24 : decode method_2_code 24 = .ok (.iload_n 1, 1) := by decide +kernel
theorem d_method_2_25 : decode method_2_code 25 = .ok (.iconst 2, 1) := by decide +kernel
theorem d_method_2_26 : decode method_2_code 26 = .ok (.if_icmp .ne 7, 3) := by decide +kernel
theorem d_method_2_29 : decode method_2_code 29 = .ok (.getstatic 17, 3) := by decide +kernel
theorem d_method_2_32 : decode method_2_code 32 = .ok (.areturn, 1) := by decide +kernel
theorem d_method_2_33 : decode method_2_code 33 = .ok (.iload_n 1, 1) := by decide +kernel
theorem d_method_2_34 : decode method_2_code 34 = .ok (.iconst 3, 1) := by decide +kernel
theorem d_method_2_35 : decode method_2_code 35 = .ok (.if_icmp .ne 7, 3) := by decide +kernel
theorem d_method_2_38 : decode method_2_code 38 = .ok (.getstatic 20, 3) := by decide +kernel
theorem d_method_2_41 : decode method_2_code 41 = .ok (.areturn, 1) := by decide +kernel
theorem d_method_2_42 : decode method_2_code 42 = .ok (.getstatic 23, 3) := by decide +kernel
theorem d_method_2_45 : decode method_2_code 45 = .ok (.areturn, 1) := by decide +kernel
abbrev RM_rm_pick : Room := { frames := 0, cells := 0, slots := 0, locals := 0 }
set_option maxRecDepth 65536 in
set_option maxHeartbeats 40000000 in
theorem rm_pick (l : Launch) (Z : State) (a0 : Array Value) (hw : ∀ d ∈ tables_1, d.before a0 Z = true) (n0 : Nat) (v : Int32) (sk0 : Addr) (sk1 : Addr) (sk2 : Addr) (sk3 : Addr) (sk4 : Addr) (h0 : Heap) (hO : Old Z n0 h0) (Sk0 : Sta Z Z.heap "com/example/cinderpath/cinderpath/ir/ScalarType" "VOID" "Lcom/example/cinderpath/cinderpath/ir/ScalarType;" (.ref sk0)) (Sk1 : Sta Z Z.heap "com/example/cinderpath/cinderpath/ir/ScalarType" "INT" "Lcom/example/cinderpath/cinderpath/ir/ScalarType;" (.ref sk1)) (Sk2 : Sta Z Z.heap "com/example/cinderpath/cinderpath/ir/ScalarType" "BOOL" "Lcom/example/cinderpath/cinderpath/ir/ScalarType;" (.ref sk2)) (Sk3 : Sta Z Z.heap "com/example/cinderpath/cinderpath/ir/ScalarType" "FLOAT" "Lcom/example/cinderpath/cinderpath/ir/ScalarType;" (.ref sk3)) (Sk4 : Sta Z Z.heap "com/example/cinderpath/cinderpath/ir/ScalarType" "STRING" "Lcom/example/cinderpath/cinderpath/ir/ScalarType;" (.ref sk4)) :
    Ct l (⟨"com/example/cinderpath/cinderpath/ir/SignatureReadsInputPinLaw", "pick", "(I)Lcom/example/cinderpath/cinderpath/ir/ScalarType;"⟩ : MethodName) method_2_code 2 (some (.object "com/example/cinderpath/cinderpath/ir/ScalarType")) [] RM_rm_pick Z n0 #[(.int v)] h0 [] (Q_rm_pick Z v sk0 sk1 sk2 sk3 sk4 h0) := by
  refine Ct.of_walk (plainFor_of_name pn_0) hO all0 ?_
  intro p e s m below meth c T0 X0
  rw [ef_rm_pick m v]
  show Go _ _ _ _ (T0.setTop (mkF m 0 #[.val (.int v), .unset] []))
  refine Go.by (fun _ k => XS.iloadN X0.here X0.hx rfl (X0.cd d_method_2_0) rfl  k) ?_
  show Go _ _ _ _ (T0.setTop (mkF m 1 #[.val (.int v), .unset] [(.int v)]))
  refine Go.by (fun _ k => X0.ldcI (hw _ (List.mem_of_getElem? (i := 4) rfl)) (g := (mkF m 1 #[.val (.int v), .unset] [(.int v)])) rfl d_method_2_1 _ k) ?_
  show Go _ _ _ _ (T0.setTop (mkF m 3 #[.val (.int v), .unset] [(.int (2147483647 : Int32)), (.int v)]))
  refine Go.by (fun _ k => XS.iand X0.here X0.hx rfl (X0.cd d_method_2_3) rfl k) ?_
  show Go _ _ _ _ (T0.setTop (mkF m 4 #[.val (.int v), .unset] [(.int (v &&& (2147483647 : Int32)))]))
  refine Go.by (fun _ k => XS.iconst X0.here X0.hx rfl (X0.cd d_method_2_4)  k) ?_
  show Go _ _ _ _ (T0.setTop (mkF m 5 #[.val (.int v), .unset] [(.int (5 : Int32)), (.int (v &&& (2147483647 : Int32)))]))
  refine Go.by (fun _ k => X0.irem (g := (mkF m 5 #[.val (.int v), .unset] [(.int (5 : Int32)), (.int (v &&& (2147483647 : Int32)))])) rfl rfl (by decide) d_method_2_5 _ k) ?_
  show Go _ _ _ _ (T0.setTop (mkF m 6 #[.val (.int v), .unset] [(.int ((v &&& (2147483647 : Int32)) % (5 : Int32)))]))
  refine Go.by (fun _ k => XS.istoreN X0.here X0.hx rfl (X0.cd d_method_2_6) rfl (l' := #[.val (.int v), .val (.int ((v &&& (2147483647 : Int32)) % (5 : Int32)))]) rfl k) ?_
  show Go _ _ _ _ (T0.setTop (mkF m 7 #[.val (.int v), .val (.int ((v &&& (2147483647 : Int32)) % (5 : Int32)))] []))
  refine Go.by (fun _ k => XS.iloadN X0.here X0.hx rfl (X0.cd d_method_2_7) rfl  k) ?_
  show Go _ _ _ _ (T0.setTop (mkF m 8 #[.val (.int v), .val (.int ((v &&& (2147483647 : Int32)) % (5 : Int32)))] [(.int ((v &&& (2147483647 : Int32)) % (5 : Int32)))]))
  by_cases c0 : ((v &&& (2147483647 : Int32)) % (5 : Int32)) = 0
  · refine Go.by (fun _ k => XS.ifNo X0.here X0.hx rfl (X0.cd d_method_2_8) rfl (XT.i0_ne_f c0) k) ?_
    show Go _ _ _ _ (T0.setTop (mkF m 11 #[.val (.int v), .val (.int ((v &&& (2147483647 : Int32)) % (5 : Int32)))] []))
    obtain ⟨T1, X1, st1⟩ := X0.getS (hw _ (List.mem_of_getElem? (i := 5) rfl)) Via.refl Sk0 (g := (mkF m 11 #[.val (.int v), .val (.int ((v &&& (2147483647 : Int32)) % (5 : Int32)))] [])) rfl d_method_2_11
    refine Go.by st1 ?_
    show Go _ _ _ _ (T1.setTop (mkF m 14 #[.val (.int v), .val (.int ((v &&& (2147483647 : Int32)) % (5 : Int32)))] [(.ref sk0)]))
    exact X1.retR rfl rfl d_method_2_14 (Keep.refl h0 []) ⟨sk0, rfl, rfl, (if_pos c0).symm⟩ (by decide) (by decide)
  · refine Go.by (fun _ k => XS.ifYes X0.here X0.hx rfl (pc0 := 8) (pc' := 15) rfl (X0.cd d_method_2_8) rfl (XT.i0_ne_t c0) (by decide) (by decide) k) ?_
    show Go _ _ _ _ (T0.setTop (mkF m 15 #[.val (.int v), .val (.int ((v &&& (2147483647 : Int32)) % (5 : Int32)))] []))
    refine Go.by (fun _ k => XS.iloadN X0.here X0.hx rfl (X0.cd d_method_2_15) rfl  k) ?_
    show Go _ _ _ _ (T0.setTop (mkF m 16 #[.val (.int v), .val (.int ((v &&& (2147483647 : Int32)) % (5 : Int32)))] [(.int ((v &&& (2147483647 : Int32)) % (5 : Int32)))]))
    refine Go.by (fun _ k => XS.iconst X0.here X0.hx rfl (X0.cd d_method_2_16)  k) ?_
    show Go _ _ _ _ (T0.setTop (mkF m 17 #[.val (.int v), .val (.int ((v &&& (2147483647 : Int32)) % (5 : Int32)))] [(.int (1 : Int32)), (.int ((v &&& (2147483647 : Int32)) % (5 : Int32)))]))
    by_cases c1 : ((v &&& (2147483647 : Int32)) % (5 : Int32)) = (1 : Int32)
    · refine Go.by (fun _ k => XS.icmpNo X0.here X0.hx rfl (X0.cd d_method_2_17) rfl (XT.ii_ne_f c1) k) ?_
      show Go _ _ _ _ (T0.setTop (mkF m 20 #[.val (.int v), .val (.int ((v &&& (2147483647 : Int32)) % (5 : Int32)))] []))
      obtain ⟨T2, X2, st2⟩ := X0.getS (hw _ (List.mem_of_getElem? (i := 123) rfl)) Via.refl Sk1 (g := (mkF m 20 #[.val (.int v), .val (.int ((v &&& (2147483647 : Int32)) % (5 : Int32)))] [])) rfl d_method_2_20
      refine Go.by st2 ?_
      show Go _ _ _ _ (T2.setTop (mkF m 23 #[.val (.int v), .val (.int ((v &&& (2147483647 : Int32)) % (5 : Int32)))] [(.ref sk1)]))
      exact X2.retR rfl rfl d_method_2_23 (Keep.refl h0 []) ⟨sk1, rfl, rfl, ((if_neg c0).trans (if_pos c1)).symm⟩ (by decide) (by decide)
    · refine Go.by (fun _ k => XS.icmpYes X0.here X0.hx rfl (pc0 := 17) (pc' := 24) rfl (X0.cd d_method_2_17) rfl (XT.ii_ne_t c1) (by decide) (by decide) k) ?_
      show Go _ _ _ _ (T0.setTop (mkF m 24 #[.val (.int v), .val (.int ((v &&& (2147483647 : Int32)) % (5 : Int32)))] []))
      refine Go.by (fun _ k => XS.iloadN X0.here X0.hx rfl (X0.cd d_method_2_24) rfl  k) ?_
      show Go _ _ _ _ (T0.setTop (mkF m 25 #[.val (.int v), .val (.int ((v &&& (2147483647 : Int32)) % (5 : Int32)))] [(.int ((v &&& (2147483647 : Int32)) % (5 : Int32)))]))
      refine Go.by (fun _ k => XS.iconst X0.here X0.hx rfl (X0.cd d_method_2_25)  k) ?_
      show Go _ _ _ _ (T0.setTop (mkF m 26 #[.val (.int v), .val (.int ((v &&& (2147483647 : Int32)) % (5 : Int32)))] [(.int (2 : Int32)), (.int ((v &&& (2147483647 : Int32)) % (5 : Int32)))]))
      by_cases c2 : ((v &&& (2147483647 : Int32)) % (5 : Int32)) = (2 : Int32)
      · refine Go.by (fun _ k => XS.icmpNo X0.here X0.hx rfl (X0.cd d_method_2_26) rfl (XT.ii_ne_f c2) k) ?_
        show Go _ _ _ _ (T0.setTop (mkF m 29 #[.val (.int v), .val (.int ((v &&& (2147483647 : Int32)) % (5 : Int32)))] []))
        obtain ⟨T3, X3, st3⟩ := X0.getS (hw _ (List.mem_of_getElem? (i := 125) rfl)) Via.refl Sk2 (g := (mkF m 29 #[.val (.int v), .val (.int ((v &&& (2147483647 : Int32)) % (5 : Int32)))] [])) rfl d_method_2_29
        refine Go.by st3 ?_
        show Go _ _ _ _ (T3.setTop (mkF m 32 #[.val (.int v), .val (.int ((v &&& (2147483647 : Int32)) % (5 : Int32)))] [(.ref sk2)]))
        exact X3.retR rfl rfl d_method_2_32 (Keep.refl h0 []) ⟨sk2, rfl, rfl, ((if_neg c0).trans ((if_neg c1).trans (if_pos c2))).symm⟩ (by decide) (by decide)
      · refine Go.by (fun _ k => XS.icmpYes X0.here X0.hx rfl (pc0 := 26) (pc' := 33) rfl (X0.cd d_method_2_26) rfl (XT.ii_ne_t c2) (by decide) (by decide) k) ?_
        show Go _ _ _ _ (T0.setTop (mkF m 33 #[.val (.int v), .val (.int ((v &&& (2147483647 : Int32)) % (5 : Int32)))] []))
        refine Go.by (fun _ k => XS.iloadN X0.here X0.hx rfl (X0.cd d_method_2_33) rfl  k) ?_
        show Go _ _ _ _ (T0.setTop (mkF m 34 #[.val (.int v), .val (.int ((v &&& (2147483647 : Int32)) % (5 : Int32)))] [(.int ((v &&& (2147483647 : Int32)) % (5 : Int32)))]))
        refine Go.by (fun _ k => XS.iconst X0.here X0.hx rfl (X0.cd d_method_2_34)  k) ?_
        show Go _ _ _ _ (T0.setTop (mkF m 35 #[.val (.int v), .val (.int ((v &&& (2147483647 : Int32)) % (5 : Int32)))] [(.int (3 : Int32)), (.int ((v &&& (2147483647 : Int32)) % (5 : Int32)))]))
        by_cases c3 : ((v &&& (2147483647 : Int32)) % (5 : Int32)) = (3 : Int32)
        · refine Go.by (fun _ k => XS.icmpNo X0.here X0.hx rfl (X0.cd d_method_2_35) rfl (XT.ii_ne_f c3) k) ?_
          show Go _ _ _ _ (T0.setTop (mkF m 38 #[.val (.int v), .val (.int ((v &&& (2147483647 : Int32)) % (5 : Int32)))] []))
          obtain ⟨T4, X4, st4⟩ := X0.getS (hw _ (List.mem_of_getElem? (i := 127) rfl)) Via.refl Sk3 (g := (mkF m 38 #[.val (.int v), .val (.int ((v &&& (2147483647 : Int32)) % (5 : Int32)))] [])) rfl d_method_2_38
          refine Go.by st4 ?_
          show Go _ _ _ _ (T4.setTop (mkF m 41 #[.val (.int v), .val (.int ((v &&& (2147483647 : Int32)) % (5 : Int32)))] [(.ref sk3)]))
          exact X4.retR rfl rfl d_method_2_41 (Keep.refl h0 []) ⟨sk3, rfl, rfl, ((if_neg c0).trans ((if_neg c1).trans ((if_neg c2).trans (if_pos c3)))).symm⟩ (by decide) (by decide)
        · refine Go.by (fun _ k => XS.icmpYes X0.here X0.hx rfl (pc0 := 35) (pc' := 42) rfl (X0.cd d_method_2_35) rfl (XT.ii_ne_t c3) (by decide) (by decide) k) ?_
          show Go _ _ _ _ (T0.setTop (mkF m 42 #[.val (.int v), .val (.int ((v &&& (2147483647 : Int32)) % (5 : Int32)))] []))
          obtain ⟨T5, X5, st5⟩ := X0.getS (hw _ (List.mem_of_getElem? (i := 129) rfl)) Via.refl Sk4 (g := (mkF m 42 #[.val (.int v), .val (.int ((v &&& (2147483647 : Int32)) % (5 : Int32)))] [])) rfl d_method_2_42
          refine Go.by st5 ?_
          show Go _ _ _ _ (T5.setTop (mkF m 45 #[.val (.int v), .val (.int ((v &&& (2147483647 : Int32)) % (5 : Int32)))] [(.ref sk4)]))
          exact X5.retR rfl rfl d_method_2_45 (Keep.refl h0 []) ⟨sk4, rfl, rfl, ((if_neg c0).trans ((if_neg c1).trans ((if_neg c2).trans (if_neg c3)))).symm⟩ (by decide) (by decide)
theorem ef_rm_ac (m : MethodId) (x0 : Addr) : entryFrame m #[(.ref x0)] 1 = mkF m 0 #[.val (.ref x0)] [] := by first | (simp [entryFrame, mkF, argsToLocals, Value.category]; done) | rfl
def Q_rm_ac (Z : State) (a1 : Addr) (h0 : Heap) (ov : Option Value) (hz : Heap) : Prop := ov = none ∧ h0 = hz
theorem pn_1 : plainName "java/util/AbstractCollection" = true := by first | (simp [plainName, overriddenIn]; done) | decide +kernel
theorem d_jdk_22_method_1_0 : decode jdk_22_method_1_code 0 = .ok (.aload_n 0, 1) := by decide +kernel
theorem d_jdk_22_method_1_1 : decode jdk_22_method_1_code 1 = .ok (.invokespecial 1, 3) := by decide +kernel
theorem d_jdk_22_method_1_4 : decode jdk_22_method_1_code 4 = .ok (.return_, 1) := by decide +kernel
abbrev RM_rm_ac : Room := { frames := 1, cells := 0, slots := 0, locals := 12 }
set_option maxRecDepth 65536 in
set_option maxHeartbeats 40000000 in
theorem rm_ac (l : Launch) (Z : State) (a0 : Array Value) (hw : ∀ d ∈ tables_1, d.before a0 Z = true) (n0 : Nat) (a1 : Addr) (h0 : Heap) (hO : Old Z n0 h0)  :
    Ct l (⟨"java/util/AbstractCollection", "<init>", "()V"⟩ : MethodName) jdk_22_method_1_code 1 none [] RM_rm_ac Z n0 #[(.ref a1)] h0 [] (Q_rm_ac Z a1 h0) := by
  refine Ct.of_walk (plainFor_of_name pn_1) hO all0 ?_
  intro p e s m below meth c T0 X0
  rw [ef_rm_ac m a1]
  show Go _ _ _ _ (T0.setTop (mkF m 0 #[.val (.ref a1)] []))
  refine Go.by (fun _ k => XS.aloadN X0.here X0.hx rfl (X0.cd d_jdk_22_method_1_0) rfl rfl k) ?_
  show Go _ _ _ _ (T0.setTop (mkF m 1 #[.val (.ref a1)] [(.ref a1)]))
  obtain ⟨T1, X1, st1⟩ := X0.initO (hw _ (List.mem_of_getElem? (i := 56) rfl)) (hw _ (List.mem_of_getElem? (i := 20) rfl)) (hw _ (List.mem_of_getElem? (i := 21) rfl)) (g := (mkF m 1 #[.val (.ref a1)] [(.ref a1)])) rfl rfl rfl d_jdk_22_method_1_1 (by decide) (W := 0) (by exact Nat.le_of_eq rfl) (by decide)
  refine Go.by st1 ?_
  show Go _ _ _ _ (T1.setTop (mkF m 4 #[.val (.ref a1)] []))
  exact X1.retV d_jdk_22_method_1_4 (Keep.refl h0 []) ⟨rfl, rfl⟩ (by decide) (by decide)
theorem ef_rm_rec (m : MethodId) (x0 : Addr) : entryFrame m #[(.ref x0)] 1 = mkF m 0 #[.val (.ref x0)] [] := by first | (simp [entryFrame, mkF, argsToLocals, Value.category]; done) | rfl
def Q_rm_rec (Z : State) (a1 : Addr) (h0 : Heap) (ov : Option Value) (hz : Heap) : Prop := ov = none ∧ h0 = hz
theorem pn_2 : plainName "java/lang/Record" = true := by first | (simp [plainName, overriddenIn]; done) | decide +kernel
theorem d_jdk_30_method_1_0 : decode jdk_30_method_1_code 0 = .ok (.aload_n 0, 1) := by decide +kernel
theorem d_jdk_30_method_1_1 : decode jdk_30_method_1_code 1 = .ok (.invokespecial 1, 3) := by decide +kernel
theorem d_jdk_30_method_1_4 : decode jdk_30_method_1_code 4 = .ok (.return_, 1) := by decide +kernel
abbrev RM_rm_rec : Room := { frames := 1, cells := 0, slots := 0, locals := 12 }
set_option maxRecDepth 65536 in
set_option maxHeartbeats 40000000 in
theorem rm_rec (l : Launch) (Z : State) (a0 : Array Value) (hw : ∀ d ∈ tables_1, d.before a0 Z = true) (n0 : Nat) (a1 : Addr) (h0 : Heap) (hO : Old Z n0 h0)  :
    Ct l (⟨"java/lang/Record", "<init>", "()V"⟩ : MethodName) jdk_30_method_1_code 1 none [] RM_rm_rec Z n0 #[(.ref a1)] h0 [] (Q_rm_rec Z a1 h0) := by
  refine Ct.of_walk (plainFor_of_name pn_2) hO all0 ?_
  intro p e s m below meth c T0 X0
  rw [ef_rm_rec m a1]
  show Go _ _ _ _ (T0.setTop (mkF m 0 #[.val (.ref a1)] []))
  refine Go.by (fun _ k => XS.aloadN X0.here X0.hx rfl (X0.cd d_jdk_30_method_1_0) rfl rfl k) ?_
  show Go _ _ _ _ (T0.setTop (mkF m 1 #[.val (.ref a1)] [(.ref a1)]))
  obtain ⟨T1, X1, st1⟩ := X0.initO (hw _ (List.mem_of_getElem? (i := 108) rfl)) (hw _ (List.mem_of_getElem? (i := 20) rfl)) (hw _ (List.mem_of_getElem? (i := 21) rfl)) (g := (mkF m 1 #[.val (.ref a1)] [(.ref a1)])) rfl rfl rfl d_jdk_30_method_1_1 (by decide) (W := 0) (by exact Nat.le_of_eq rfl) (by decide)
  refine Go.by st1 ?_
  show Go _ _ _ _ (T1.setTop (mkF m 4 #[.val (.ref a1)] []))
  exact X1.retV d_jdk_30_method_1_4 (Keep.refl h0 []) ⟨rfl, rfl⟩ (by decide) (by decide)
theorem ef_rm_abl (m : MethodId) (x0 : Addr) : entryFrame m #[(.ref x0)] 1 = mkF m 0 #[.val (.ref x0)] [] := by first | (simp [entryFrame, mkF, argsToLocals, Value.category]; done) | rfl
def Q_rm_abl (Z : State) (a1 : Addr) (u0 : Value) (u1 : Value) (u2 : Value) (h0 : Heap) (ov : Option Value) (hz : Heap) : Prop := ov = none ∧ Fld Z hz a1 "java/util/AbstractList" "modCount" "I" (.int (0 : Int32)) ∧ Fld Z hz a1 "java/util/ArrayList" "elementData" "[Ljava/lang/Object;" u1 ∧ Fld Z hz a1 "java/util/ArrayList" "size" "I" u2
theorem pn_3 : plainName "java/util/AbstractList" = true := by first | (simp [plainName, overriddenIn]; done) | decide +kernel
theorem d_jdk_39_method_1_0 : decode jdk_39_method_1_code 0 = .ok (.aload_n 0, 1) := by decide +kernel
theorem pd_0 : parseMethodDescriptor "()V" = some ⟨[], none⟩ := by decide +kernel
theorem d_jdk_39_method_1_1 : decode jdk_39_method_1_code 1 = .ok (.invokespecial 1, 3) := by decide +kernel
theorem d_jdk_39_method_1_4 : decode jdk_39_method_1_code 4 = .ok (.aload_n 0, 1) := by decide +kernel
theorem d_jdk_39_method_1_5 : decode jdk_39_method_1_code 5 = .ok (.iconst 0, 1) := by decide +kernel
theorem d_jdk_39_method_1_6 : decode jdk_39_method_1_code 6 = .ok (.putfield 7, 3) := by decide +kernel
theorem d_jdk_39_method_1_9 : decode jdk_39_method_1_code 9 = .ok (.return_, 1) := by decide +kernel
abbrev RM_rm_abl : Room := { frames := 2, cells := 0, slots := 0, locals := 24 }
set_option maxRecDepth 65536 in
set_option maxHeartbeats 40000000 in
theorem rm_abl (l : Launch) (Z : State) (a0 : Array Value) (hw : ∀ d ∈ tables_1, d.before a0 Z = true) (n0 : Nat) (a1 : Addr) (u0 : Value) (u1 : Value) (u2 : Value) (h0 : Heap) (hO : Old Z n0 h0) (pr0 : Exa Z h0 a1 "java/util/ArrayList") (pr1 : Fld Z h0 a1 "java/util/AbstractList" "modCount" "I" u0) (pr2 : Fld Z h0 a1 "java/util/ArrayList" "elementData" "[Ljava/lang/Object;" u1) (pr3 : Fld Z h0 a1 "java/util/ArrayList" "size" "I" u2) (g_a1 : n0 ≤ a1) (l_a1 : a1 < h0.size) :
    Ct l (⟨"java/util/AbstractList", "<init>", "()V"⟩ : MethodName) jdk_39_method_1_code 1 none [] RM_rm_abl Z n0 #[(.ref a1)] h0 [a1] (Q_rm_abl Z a1 u0 u1 u2 h0) := by
  refine Ct.of_walk (plainFor_of_name pn_3) hO (allS ⟨g_a1, l_a1⟩ all0) ?_
  intro p e s m below meth c T0 X0
  rw [ef_rm_abl m a1]
  show Go _ _ _ _ (T0.setTop (mkF m 0 #[.val (.ref a1)] []))
  refine Go.by (fun _ k => XS.aloadN X0.here X0.hx rfl (X0.cd d_jdk_39_method_1_0) rfl rfl k) ?_
  show Go _ _ _ _ (T0.setTop (mkF m 1 #[.val (.ref a1)] [(.ref a1)]))
  obtain ⟨_, T1, h1, X1, K1, ⟨rfl, rfl⟩, st1⟩ := X0.spN (W := 0) rfl (hw _ (List.mem_of_getElem? (i := 50) rfl)) (hw _ (List.mem_of_getElem? (i := 51) rfl)) (hw _ (List.mem_of_getElem? (i := 55) rfl)) (by decide) ((rm_ac l Z a0 hw n0 a1 h0 X0.old ).pay (hw _ (List.mem_of_getElem? (i := 55) rfl)) (hw _ (List.mem_of_getElem? (i := 54) rfl)) (by decide) (by decide)) all0 (g := (mkF m 1 #[.val (.ref a1)] [(.ref a1)])) rfl rfl (a := a1) (argsL := []) (rest := []) (lenOf pd_0 rfl) rfl (by exact Nat.le_of_eq rfl) d_jdk_39_method_1_1 rfl (by decide) (by decide)
  refine Go.tr st1 ?_
  show Go _ _ _ _ (T1.setTop (mkF m 4 #[.val (.ref a1)] []))
  refine Go.by (fun _ k => XS.aloadN X1.here X1.hx rfl (X1.cd d_jdk_39_method_1_4) rfl rfl k) ?_
  show Go _ _ _ _ (T1.setTop (mkF m 5 #[.val (.ref a1)] [(.ref a1)]))
  refine Go.by (fun _ k => XS.iconst X1.here X1.hx rfl (X1.cd d_jdk_39_method_1_5)  k) ?_
  show Go _ _ _ _ (T1.setTop (mkF m 6 #[.val (.ref a1)] [(.int (0 : Int32)), (.ref a1)]))
  obtain ⟨T2, h2, X2, W2, st2⟩ := X1.putF (host := "") (Or.inl (hw _ (List.mem_of_getElem? (i := 57) rfl))) Via.refl pr1 pr0 (Or.inl (hw _ (List.mem_of_getElem? (i := 58) rfl))) (hw _ (List.mem_of_getElem? (i := 39) rfl)) (.head _) (ty := .int) (by decide) rfl rfl (g := (mkF m 6 #[.val (.ref a1)] [(.int (0 : Int32)), (.ref a1)])) rfl rfl d_jdk_39_method_1_6
  refine Go.by st2 ?_
  have K0_h2 : Keep h0 h2 [a1] := (Keep.refl h0 [a1]).wr W2 (Or.inl (.head _))
  have F2 : Fld Z h2 a1 "java/util/AbstractList" "modCount" "I" (.int (0 : Int32)) := pr1.same W2
  show Go _ _ _ _ (T2.setTop (mkF m 9 #[.val (.ref a1)] []))
  have f3 : Fld Z h2 a1 "java/util/ArrayList" "elementData" "[Ljava/lang/Object;" u1 := (pr2).other W2 (Or.inr (slot_ne (Or.inl (hw _ (List.mem_of_getElem? (i := 61) rfl))) (Or.inl (hw _ (List.mem_of_getElem? (i := 58) rfl))) (by decide) (t := (.array (.object "java/lang/Object"))) (t' := .int) (by decide) (by decide)))
  have f4 : Fld Z h2 a1 "java/util/ArrayList" "size" "I" u2 := (pr3).other W2 (Or.inr (slot_ne (Or.inl (hw _ (List.mem_of_getElem? (i := 74) rfl))) (Or.inl (hw _ (List.mem_of_getElem? (i := 58) rfl))) (by decide) (t := .int) (t' := .int) (by decide) (by decide)))
  exact X2.retV d_jdk_39_method_1_9 K0_h2 ⟨rfl, F2, f3, f4⟩ (by decide) (by decide)
theorem ef_rm_ali (m : MethodId) (x0 : Addr) : entryFrame m #[(.ref x0)] 1 = mkF m 0 #[.val (.ref x0)] [] := by first | (simp [entryFrame, mkF, argsToLocals, Value.category]; done) | rfl
def Q_rm_ali (Z : State) (a1 : Addr) (u0 : Value) (u1 : Value) (dd : Addr) (kd : ClassId) (h0 : Heap) (ov : Option Value) (hz : Heap) : Prop := ov = none ∧ Fld Z hz a1 "java/util/AbstractList" "modCount" "I" (.int (0 : Int32)) ∧ Fld Z hz a1 "java/util/ArrayList" "elementData" "[Ljava/lang/Object;" (.ref dd) ∧ Fld Z hz a1 "java/util/ArrayList" "size" "I" (.int (0 : Int32))
theorem pn_4 : plainName "java/util/ArrayList" = true := by first | (simp [plainName, overriddenIn]; done) | decide +kernel
theorem d_jdk_38_method_2_0 : decode jdk_38_method_2_code 0 = .ok (.aload_n 0, 1) := by decide +kernel
theorem d_jdk_38_method_2_1 : decode jdk_38_method_2_code 1 = .ok (.invokespecial 1, 3) := by decide +kernel
theorem d_jdk_38_method_2_4 : decode jdk_38_method_2_code 4 = .ok (.aload_n 0, 1) := by decide +kernel
theorem d_jdk_38_method_2_5 : decode jdk_38_method_2_code 5 = .ok (.getstatic 39, 3) := by decide +kernel
theorem d_jdk_38_method_2_8 : decode jdk_38_method_2_code 8 = .ok (.putfield 9, 3) := by decide +kernel
theorem d_jdk_38_method_2_11 : decode jdk_38_method_2_code 11 = .ok (.return_, 1) := by decide +kernel
abbrev RM_rm_ali : Room := { frames := 3, cells := 0, slots := 0, locals := 36 }
set_option maxRecDepth 65536 in
set_option maxHeartbeats 40000000 in
theorem rm_ali (l : Launch) (Z : State) (a0 : Array Value) (hw : ∀ d ∈ tables_1, d.before a0 Z = true) (n0 : Nat) (a1 : Addr) (u0 : Value) (u1 : Value) (dd : Addr) (kd : ClassId) (h0 : Heap) (hO : Old Z n0 h0) (pr0 : Exa Z h0 a1 "java/util/ArrayList") (pr1 : Fld Z h0 a1 "java/util/AbstractList" "modCount" "I" u0) (pr2 : Fld Z h0 a1 "java/util/ArrayList" "elementData" "[Ljava/lang/Object;" u1) (pr3 : Fld Z h0 a1 "java/util/ArrayList" "size" "I" (.int (0 : Int32))) (Sd : Sta Z Z.heap "java/util/ArrayList" "DEFAULTCAPACITY_EMPTY_ELEMENTDATA" "[Ljava/lang/Object;" (.ref dd)) (Ad : Arv Z Z.heap dd kd (.object "java/lang/Object") (0 : Int32) [] .null) (g_a1 : n0 ≤ a1) (l_a1 : a1 < h0.size) :
    Ct l (⟨"java/util/ArrayList", "<init>", "()V"⟩ : MethodName) jdk_38_method_2_code 1 none [] RM_rm_ali Z n0 #[(.ref a1)] h0 [a1] (Q_rm_ali Z a1 u0 u1 dd kd h0) := by
  refine Ct.of_walk (plainFor_of_name pn_4) hO (allS ⟨g_a1, l_a1⟩ all0) ?_
  intro p e s m below meth c T0 X0
  rw [ef_rm_ali m a1]
  show Go _ _ _ _ (T0.setTop (mkF m 0 #[.val (.ref a1)] []))
  refine Go.by (fun _ k => XS.aloadN X0.here X0.hx rfl (X0.cd d_jdk_38_method_2_0) rfl rfl k) ?_
  show Go _ _ _ _ (T0.setTop (mkF m 1 #[.val (.ref a1)] [(.ref a1)]))
  obtain ⟨_, T1, h1, X1, K1, ⟨rfl, P1_0, P1_1, P1_2⟩, st1⟩ := X0.spN (W := 0) rfl (hw _ (List.mem_of_getElem? (i := 44) rfl)) (hw _ (List.mem_of_getElem? (i := 45) rfl)) (hw _ (List.mem_of_getElem? (i := 49) rfl)) (by decide) ((rm_abl l Z a0 hw n0 a1 u0 u1 (.int (0 : Int32)) h0 X0.old pr0 pr1 pr2 pr3 (X0.ge (.head _)) (X0.lt (.head _))).pay (hw _ (List.mem_of_getElem? (i := 49) rfl)) (hw _ (List.mem_of_getElem? (i := 48) rfl)) (by decide) (by decide)) (allS (.head _) all0) (g := (mkF m 1 #[.val (.ref a1)] [(.ref a1)])) rfl rfl (a := a1) (argsL := []) (rest := []) (lenOf pd_0 rfl) rfl (by exact Nat.le_of_eq rfl) d_jdk_38_method_2_1 rfl (by decide) (by decide)
  refine Go.tr st1 ?_
  have K0_h1 : Keep h0 h1 [a1] := (Keep.refl h0 [a1]).trans K1 (allS (Or.inl (.head _)) all0)
  show Go _ _ _ _ (T1.setTop (mkF m 4 #[.val (.ref a1)] []))
  refine Go.by (fun _ k => XS.aloadN X1.here X1.hx rfl (X1.cd d_jdk_38_method_2_4) rfl rfl k) ?_
  show Go _ _ _ _ (T1.setTop (mkF m 5 #[.val (.ref a1)] [(.ref a1)]))
  obtain ⟨T2, X2, st2⟩ := X1.getS (hw _ (List.mem_of_getElem? (i := 59) rfl)) Via.refl Sd (g := (mkF m 5 #[.val (.ref a1)] [(.ref a1)])) rfl d_jdk_38_method_2_5
  refine Go.by st2 ?_
  show Go _ _ _ _ (T2.setTop (mkF m 8 #[.val (.ref a1)] [(.ref dd), (.ref a1)]))
  have f4 : Exa Z h1 a1 "java/util/ArrayList" := (pr0).keep K1
  obtain ⟨T3, h3, X3, W3, st3⟩ := X2.putF (host := "") (Or.inl (hw _ (List.mem_of_getElem? (i := 60) rfl))) Via.refl P1_1 f4 (Or.inl (hw _ (List.mem_of_getElem? (i := 61) rfl))) (hw _ (List.mem_of_getElem? (i := 39) rfl)) (.head _) (ty := (.array (.object "java/lang/Object"))) (by decide) rfl rfl (g := (mkF m 8 #[.val (.ref a1)] [(.ref dd), (.ref a1)])) rfl rfl d_jdk_38_method_2_8
  refine Go.by st3 ?_
  have K0_h3 : Keep h0 h3 [a1] := K0_h1.wr W3 (Or.inl (.head _))
  have F3 : Fld Z h3 a1 "java/util/ArrayList" "elementData" "[Ljava/lang/Object;" (.ref dd) := P1_1.same W3
  show Go _ _ _ _ (T3.setTop (mkF m 11 #[.val (.ref a1)] []))
  have f5 : Fld Z h3 a1 "java/util/AbstractList" "modCount" "I" (.int (0 : Int32)) := (P1_0).other W3 (Or.inr (slot_ne (Or.inl (hw _ (List.mem_of_getElem? (i := 58) rfl))) (Or.inl (hw _ (List.mem_of_getElem? (i := 61) rfl))) (by decide) (t := .int) (t' := (.array (.object "java/lang/Object"))) (by decide) (by decide)))
  have f6 : Fld Z h3 a1 "java/util/ArrayList" "size" "I" (.int (0 : Int32)) := (P1_2).other W3 (Or.inr (slot_ne (Or.inl (hw _ (List.mem_of_getElem? (i := 74) rfl))) (Or.inl (hw _ (List.mem_of_getElem? (i := 61) rfl))) (by decide) (t := .int) (t' := (.array (.object "java/lang/Object"))) (by decide) (by decide)))
  exact X3.retV d_jdk_38_method_2_11 K0_h3 ⟨rfl, f5, F3, f6⟩ (by decide) (by decide)
theorem ef_rm_gri (m : MethodId) (x0 : Addr) (x1 : Int32) : entryFrame m #[(.ref x0), (.int x1)] 4 = mkF m 0 #[.val (.ref x0), .val (.int x1), .unset, .unset] [] := by first | (simp [entryFrame, mkF, argsToLocals, Value.category]; done) | rfl
def Q_rm_gri (Z : State) (a1 : Addr) (u0 : Value) (u2 : Value) (dd : Addr) (kd : ClassId) (h0 : Heap) (ov : Option Value) (hz : Heap) : Prop := ∃ (ea : Addr), ∃ (ke : ClassId), ov = some (.ref ea) ∧ h0.size ≤ ea ∧ ea < hz.size ∧ Fld Z hz a1 "java/util/AbstractList" "modCount" "I" u0 ∧ Fld Z hz a1 "java/util/ArrayList" "elementData" "[Ljava/lang/Object;" (.ref ea) ∧ Fld Z hz a1 "java/util/ArrayList" "size" "I" u2 ∧ Arv Z hz ea ke (.object "java/lang/Object") (10 : Int32) [.null, .null, .null, .null, .null, .null, .null, .null, .null, .null] .null ∧ (Ovr Z ke "java/lang/Object")
theorem d_jdk_38_method_6_0 : decode jdk_38_method_6_code 0 = .ok (.aload_n 0, 1) := by decide +kernel
theorem d_jdk_38_method_6_1 : decode jdk_38_method_6_code 1 = .ok (.getfield 9, 3) := by decide +kernel
theorem d_jdk_38_method_6_4 : decode jdk_38_method_6_code 4 = .ok (.arraylength, 1) := by decide +kernel
theorem d_jdk_38_method_6_5 : decode jdk_38_method_6_code 5 = .ok (.istore_n 2, 1) := by decide +kernel
theorem d_jdk_38_method_6_6 : decode jdk_38_method_6_code 6 = .ok (.iload_n 2, 1) := by decide +kernel
theorem d_jdk_38_method_6_7 : decode jdk_38_method_6_code 7 = .ok (.ifCond .gt 13, 3) := by decide +kernel
theorem d_jdk_38_method_6_10 : decode jdk_38_method_6_code 10 = .ok (.aload_n 0, 1) := by decide +kernel
theorem d_jdk_38_method_6_11 : decode jdk_38_method_6_code 11 = .ok (.getfield 9, 3) := by decide +kernel
theorem d_jdk_38_method_6_14 : decode jdk_38_method_6_code 14 = .ok (.getstatic 39, 3) := by decide +kernel
theorem d_jdk_38_method_6_17 : decode jdk_38_method_6_code 17 = .ok (.if_acmp .eq 28, 3) := by decide +kernel
theorem d_jdk_38_method_6_45 : decode jdk_38_method_6_code 45 = .ok (.aload_n 0, 1) := by decide +kernel
theorem d_jdk_38_method_6_46 : decode jdk_38_method_6_code 46 = .ok (.bipush 10, 2) := by decide +kernel
theorem d_jdk_38_method_6_48 : decode jdk_38_method_6_code 48 = .ok (.iload_n 1, 1) := by decide +kernel
theorem pd_1 : parseMethodDescriptor "(II)I" = some ⟨[.int, .int], some .int⟩ := by decide +kernel
theorem d_jdk_38_method_6_49 : decode jdk_38_method_6_code 49 = .ok (.invokestatic 79, 3) := by decide +kernel
theorem d_jdk_38_method_6_52 : decode jdk_38_method_6_code 52 = .ok (.anewarray 7, 3) := by decide +kernel
theorem d_jdk_38_method_6_55 : decode jdk_38_method_6_code 55 = .ok (.dup_x1, 1) := by decide +kernel
theorem d_jdk_38_method_6_56 : decode jdk_38_method_6_code 56 = .ok (.putfield 9, 3) := by decide +kernel
theorem d_jdk_38_method_6_59 : decode jdk_38_method_6_code 59 = .ok (.areturn, 1) := by decide +kernel
abbrev RM_rm_gri : Room := { frames := 1, cells := 1, slots := 10, locals := 14 }
set_option maxRecDepth 65536 in
set_option maxHeartbeats 40000000 in
theorem rm_gri (l : Launch) (Z : State) (a0 : Array Value) (hw : ∀ d ∈ tables_1, d.before a0 Z = true) (n0 : Nat) (a1 : Addr) (u0 : Value) (u2 : Value) (dd : Addr) (kd : ClassId) (h0 : Heap) (hO : Old Z n0 h0) (pr0 : Exa Z h0 a1 "java/util/ArrayList") (pr1 : Fld Z h0 a1 "java/util/AbstractList" "modCount" "I" u0) (pr2 : Fld Z h0 a1 "java/util/ArrayList" "elementData" "[Ljava/lang/Object;" (.ref dd)) (pr3 : Fld Z h0 a1 "java/util/ArrayList" "size" "I" u2) (Sd : Sta Z Z.heap "java/util/ArrayList" "DEFAULTCAPACITY_EMPTY_ELEMENTDATA" "[Ljava/lang/Object;" (.ref dd)) (Ad : Arv Z Z.heap dd kd (.object "java/lang/Object") (0 : Int32) [] .null) (g_a1 : n0 ≤ a1) (l_a1 : a1 < h0.size) :
    Ct l (⟨"java/util/ArrayList", "grow", "(I)[Ljava/lang/Object;"⟩ : MethodName) jdk_38_method_6_code 4 (some (.array (.object "java/lang/Object"))) [] RM_rm_gri Z n0 #[(.ref a1), (.int (1 : Int32))] h0 [a1] (Q_rm_gri Z a1 u0 u2 dd kd h0) := by
  refine Ct.of_walk (plainFor_of_name pn_4) hO (allS ⟨g_a1, l_a1⟩ all0) ?_
  intro p e s m below meth c T0 X0
  rw [ef_rm_gri m a1 (1 : Int32)]
  show Go _ _ _ _ (T0.setTop (mkF m 0 #[.val (.ref a1), .val (.int (1 : Int32)), .unset, .unset] []))
  refine Go.by (fun _ k => XS.aloadN X0.here X0.hx rfl (X0.cd d_jdk_38_method_6_0) rfl rfl k) ?_
  show Go _ _ _ _ (T0.setTop (mkF m 1 #[.val (.ref a1), .val (.int (1 : Int32)), .unset, .unset] [(.ref a1)]))
  obtain ⟨T1, X1, st1⟩ := X0.getF (host := "") (Or.inl (hw _ (List.mem_of_getElem? (i := 60) rfl))) Via.refl pr2 (g := (mkF m 1 #[.val (.ref a1), .val (.int (1 : Int32)), .unset, .unset] [(.ref a1)])) rfl rfl d_jdk_38_method_6_1
  refine Go.by st1 ?_
  show Go _ _ _ _ (T1.setTop (mkF m 4 #[.val (.ref a1), .val (.int (1 : Int32)), .unset, .unset] [(.ref dd)]))
  have f2 : Arv Z h0 dd kd (.object "java/lang/Object") (0 : Int32) [] .null := (show Arv Z Z.heap dd kd (.object "java/lang/Object") (0 : Int32) [] .null from Ad).ext X1.old.2
  refine Go.by (fun _ k => X1.len f2 (g := (mkF m 4 #[.val (.ref a1), .val (.int (1 : Int32)), .unset, .unset] [(.ref dd)])) rfl rfl d_jdk_38_method_6_4 _ k) ?_
  show Go _ _ _ _ (T1.setTop (mkF m 5 #[.val (.ref a1), .val (.int (1 : Int32)), .unset, .unset] [(.int (0 : Int32))]))
  refine Go.by (fun _ k => XS.istoreN X1.here X1.hx rfl (X1.cd d_jdk_38_method_6_5) rfl (l' := #[.val (.ref a1), .val (.int (1 : Int32)), .val (.int (0 : Int32)), .unset]) rfl k) ?_
  show Go _ _ _ _ (T1.setTop (mkF m 6 #[.val (.ref a1), .val (.int (1 : Int32)), .val (.int (0 : Int32)), .unset] []))
  refine Go.by (fun _ k => XS.iloadN X1.here X1.hx rfl (X1.cd d_jdk_38_method_6_6) rfl  k) ?_
  show Go _ _ _ _ (T1.setTop (mkF m 7 #[.val (.ref a1), .val (.int (1 : Int32)), .val (.int (0 : Int32)), .unset] [(.int (0 : Int32))]))
  refine Go.by (fun _ k => XS.ifNo X1.here X1.hx rfl (X1.cd d_jdk_38_method_6_7) rfl (XT.i0_gt_f (by decide)) k) ?_
  show Go _ _ _ _ (T1.setTop (mkF m 10 #[.val (.ref a1), .val (.int (1 : Int32)), .val (.int (0 : Int32)), .unset] []))
  refine Go.by (fun _ k => XS.aloadN X1.here X1.hx rfl (X1.cd d_jdk_38_method_6_10) rfl rfl k) ?_
  show Go _ _ _ _ (T1.setTop (mkF m 11 #[.val (.ref a1), .val (.int (1 : Int32)), .val (.int (0 : Int32)), .unset] [(.ref a1)]))
  obtain ⟨T3, X3, st3⟩ := X1.getF (host := "") (Or.inl (hw _ (List.mem_of_getElem? (i := 60) rfl))) Via.refl pr2 (g := (mkF m 11 #[.val (.ref a1), .val (.int (1 : Int32)), .val (.int (0 : Int32)), .unset] [(.ref a1)])) rfl rfl d_jdk_38_method_6_11
  refine Go.by st3 ?_
  show Go _ _ _ _ (T3.setTop (mkF m 14 #[.val (.ref a1), .val (.int (1 : Int32)), .val (.int (0 : Int32)), .unset] [(.ref dd)]))
  obtain ⟨T4, X4, st4⟩ := X3.getS (hw _ (List.mem_of_getElem? (i := 59) rfl)) Via.refl Sd (g := (mkF m 14 #[.val (.ref a1), .val (.int (1 : Int32)), .val (.int (0 : Int32)), .unset] [(.ref dd)])) rfl d_jdk_38_method_6_14
  refine Go.by st4 ?_
  show Go _ _ _ _ (T4.setTop (mkF m 17 #[.val (.ref a1), .val (.int (1 : Int32)), .val (.int (0 : Int32)), .unset] [(.ref dd), (.ref dd)]))
  refine Go.by (fun _ k => X4.acmp (cd := .eq) (x := (.ref dd)) (y' := (.ref dd)) rfl rfl (g := (mkF m 17 #[.val (.ref a1), .val (.int (1 : Int32)), .val (.int (0 : Int32)), .unset] [(.ref dd), (.ref dd)])) rfl (pc0 := 17) (pc' := 45) (same := true) rfl d_jdk_38_method_6_17 rfl (decide_eq_true rfl) (by decide) (by decide) _ k) ?_
  show Go _ _ _ _ (T4.setTop (mkF m 45 #[.val (.ref a1), .val (.int (1 : Int32)), .val (.int (0 : Int32)), .unset] []))
  refine Go.by (fun _ k => XS.aloadN X4.here X4.hx rfl (X4.cd d_jdk_38_method_6_45) rfl rfl k) ?_
  show Go _ _ _ _ (T4.setTop (mkF m 46 #[.val (.ref a1), .val (.int (1 : Int32)), .val (.int (0 : Int32)), .unset] [(.ref a1)]))
  refine Go.by (fun _ k => XS.bipush X4.here X4.hx rfl (X4.cd d_jdk_38_method_6_46)  k) ?_
  show Go _ _ _ _ (T4.setTop (mkF m 48 #[.val (.ref a1), .val (.int (1 : Int32)), .val (.int (0 : Int32)), .unset] [(.int (10 : Int32)), (.ref a1)]))
  refine Go.by (fun _ k => XS.iloadN X4.here X4.hx rfl (X4.cd d_jdk_38_method_6_48) rfl  k) ?_
  show Go _ _ _ _ (T4.setTop (mkF m 49 #[.val (.ref a1), .val (.int (1 : Int32)), .val (.int (0 : Int32)), .unset] [(.int (1 : Int32)), (.int (10 : Int32)), (.ref a1)]))
  obtain ⟨_, T5, h5, X5, K5, ⟨rfl, rfl⟩, st5⟩ := X4.stN (W := 1) (hw _ (List.mem_of_getElem? (i := 90) rfl)) (hw _ (List.mem_of_getElem? (i := 91) rfl)) (hw _ (List.mem_of_getElem? (i := 92) rfl)) (hw _ (List.mem_of_getElem? (i := 93) rfl)) (by decide) ((rm_max l Z a0 hw n0 (10 : Int32) (1 : Int32) h0 X4.old ).pay (hw _ (List.mem_of_getElem? (i := 93) rfl)) (hw _ (List.mem_of_getElem? (i := 92) rfl)) (by decide) (by decide)) all0 (g := (mkF m 49 #[.val (.ref a1), .val (.int (1 : Int32)), .val (.int (0 : Int32)), .unset] [(.int (1 : Int32)), (.int (10 : Int32)), (.ref a1)])) rfl rfl (argsL := [(.int (10 : Int32)), (.int (1 : Int32))]) (rest := [(.ref a1)]) (lenOf pd_1 rfl) rfl (by exact Nat.le_of_eq rfl) d_jdk_38_method_6_49 rfl (by decide) (by decide)
  refine Go.tr st5 ?_
  show Go _ _ _ _ (T5.setTop (mkF m 52 #[.val (.ref a1), .val (.int (1 : Int32)), .val (.int (0 : Int32)), .unset] [(.int (own_max (10 : Int32) (1 : Int32))), (.ref a1)]))
  show Go _ _ _ _ (T5.setTop (mkF m 52 #[.val (.ref a1), .val (.int (1 : Int32)), .val (.int (0 : Int32)), .unset] [(.int (10 : Int32)), (.ref a1)]))
  have lt_a1_6 := (X5.lt (.head _))
  obtain ⟨T6, h6, b6, k6, g_b6, X6, E6, A6, B6, O6, st6⟩ := X5.newR (hw _ (List.mem_of_getElem? (i := 94) rfl)) (hw _ (List.mem_of_getElem? (i := 95) rfl)) (g := (mkF m 52 #[.val (.ref a1), .val (.int (1 : Int32)), .val (.int (0 : Int32)), .unset] [(.int (10 : Int32)), (.ref a1)])) rfl d_jdk_38_method_6_52 rfl (by decide) (cap := 10) (by decide) (by decide) (by decide) (by decide) (vs := [.null, .null, .null, .null, .null, .null, .null, .null, .null, .null]) rfl (ad := "[Ljava/lang/Object;") (by decide)
  refine Go.by st6 ?_
  have ne_a1_b6 : a1 ≠ b6 := ne_new lt_a1_6 g_b6
  have sz_b6 : h0.size ≤ b6 := Nat.le_trans X5.sz (Nat.le_of_eq g_b6.symm)
  have K0_h6 : Keep h0 h6 [a1] := (Keep.refl h0 [a1]).ext E6
  show Go _ _ _ _ (T6.setTop (mkF m 55 #[.val (.ref a1), .val (.int (1 : Int32)), .val (.int (0 : Int32)), .unset] [(.ref b6), (.ref a1)]))
  refine Go.by (fun _ k => XS.dupX1 X6.here X6.hx rfl (X6.cd d_jdk_38_method_6_55) rfl rfl rfl k) ?_
  show Go _ _ _ _ (T6.setTop (mkF m 56 #[.val (.ref a1), .val (.int (1 : Int32)), .val (.int (0 : Int32)), .unset] [(.ref b6), (.ref a1), (.ref b6)]))
  have f8 : Fld Z h6 a1 "java/util/ArrayList" "elementData" "[Ljava/lang/Object;" (.ref dd) := pr2.ext E6
  have f9 : Exa Z h6 a1 "java/util/ArrayList" := pr0.ext E6
  obtain ⟨T7, h7, X7, W7, st7⟩ := X6.putF (host := "") (Or.inl (hw _ (List.mem_of_getElem? (i := 60) rfl))) Via.refl f8 f9 (Or.inl (hw _ (List.mem_of_getElem? (i := 61) rfl))) (hw _ (List.mem_of_getElem? (i := 39) rfl)) (.tail _ (.head _)) (ty := (.array (.object "java/lang/Object"))) (by decide) rfl rfl (g := (mkF m 56 #[.val (.ref a1), .val (.int (1 : Int32)), .val (.int (0 : Int32)), .unset] [(.ref b6), (.ref a1), (.ref b6)])) rfl rfl d_jdk_38_method_6_56
  refine Go.by st7 ?_
  have K0_h7 : Keep h0 h7 [a1] := K0_h6.wr W7 (Or.inl (.head _))
  have F7 : Fld Z h7 a1 "java/util/ArrayList" "elementData" "[Ljava/lang/Object;" (.ref b6) := f8.same W7
  show Go _ _ _ _ (T7.setTop (mkF m 59 #[.val (.ref a1), .val (.int (1 : Int32)), .val (.int (0 : Int32)), .unset] [(.ref b6)]))
  have f10 : Fld Z h7 a1 "java/util/AbstractList" "modCount" "I" u0 := (pr1.ext E6).other W7 (Or.inr (slot_ne (Or.inl (hw _ (List.mem_of_getElem? (i := 58) rfl))) (Or.inl (hw _ (List.mem_of_getElem? (i := 61) rfl))) (by decide) (t := .int) (t' := (.array (.object "java/lang/Object"))) (by decide) (by decide)))
  have f11 : Fld Z h7 a1 "java/util/ArrayList" "size" "I" u2 := (pr3.ext E6).other W7 (Or.inr (slot_ne (Or.inl (hw _ (List.mem_of_getElem? (i := 74) rfl))) (Or.inl (hw _ (List.mem_of_getElem? (i := 61) rfl))) (by decide) (t := .int) (t' := (.array (.object "java/lang/Object"))) (by decide) (by decide)))
  have f12 : Arv Z h7 b6 k6 (.object "java/lang/Object") (10 : Int32) [.null, .null, .null, .null, .null, .null, .null, .null, .null, .null] .null := (A6).other W7 ne_a1_b6.symm
  exact X7.retR rfl rfl d_jdk_38_method_6_59 K0_h7 ⟨b6, k6, rfl, sz_b6, (X7.lt (.head _)), f10, F7, f11, f12, O6⟩ (by decide) (by decide)
theorem ef_rm_gr0 (m : MethodId) (x0 : Addr) : entryFrame m #[(.ref x0)] 1 = mkF m 0 #[.val (.ref x0)] [] := by first | (simp [entryFrame, mkF, argsToLocals, Value.category]; done) | rfl
def Q_rm_gr0 (Z : State) (a1 : Addr) (u0 : Value) (dd : Addr) (kd : ClassId) (h0 : Heap) (ov : Option Value) (hz : Heap) : Prop := ∃ (ea : Addr), ∃ (ke : ClassId), ov = some (.ref ea) ∧ h0.size ≤ ea ∧ ea < hz.size ∧ Fld Z hz a1 "java/util/AbstractList" "modCount" "I" u0 ∧ Fld Z hz a1 "java/util/ArrayList" "elementData" "[Ljava/lang/Object;" (.ref ea) ∧ Fld Z hz a1 "java/util/ArrayList" "size" "I" (.int (0 : Int32)) ∧ Arv Z hz ea ke (.object "java/lang/Object") (10 : Int32) [.null, .null, .null, .null, .null, .null, .null, .null, .null, .null] .null ∧ (Ovr Z ke "java/lang/Object")
theorem d_jdk_38_method_7_0 : decode jdk_38_method_7_code 0 = .ok (.aload_n 0, 1) := by decide +kernel
theorem d_jdk_38_method_7_1 : decode jdk_38_method_7_code 1 = .ok (.aload_n 0, 1) := by decide +kernel
theorem d_jdk_38_method_7_2 : decode jdk_38_method_7_code 2 = .ok (.getfield 48, 3) := by decide +kernel
theorem d_jdk_38_method_7_5 : decode jdk_38_method_7_code 5 = .ok (.iconst 1, 1) := by decide +kernel
theorem d_jdk_38_method_7_6 : decode jdk_38_method_7_code 6 = .ok (.iadd, 1) := by decide +kernel
theorem pd_2 : parseMethodDescriptor "(I)[Ljava/lang/Object;" = some ⟨[.int], some (.array (.object "java/lang/Object"))⟩ := by decide +kernel
theorem d_jdk_38_method_7_7 : decode jdk_38_method_7_code 7 = .ok (.invokevirtual 69, 3) := by decide +kernel
theorem d_jdk_38_method_7_10 : decode jdk_38_method_7_code 10 = .ok (.areturn, 1) := by decide +kernel
abbrev RM_rm_gr0 : Room := { frames := 2, cells := 1, slots := 10, locals := 29 }
set_option maxRecDepth 65536 in
set_option maxHeartbeats 40000000 in
theorem rm_gr0 (l : Launch) (Z : State) (a0 : Array Value) (hw : ∀ d ∈ tables_1, d.before a0 Z = true) (n0 : Nat) (a1 : Addr) (u0 : Value) (dd : Addr) (kd : ClassId) (h0 : Heap) (hO : Old Z n0 h0) (pr0 : Exa Z h0 a1 "java/util/ArrayList") (pr1 : Fld Z h0 a1 "java/util/AbstractList" "modCount" "I" u0) (pr2 : Fld Z h0 a1 "java/util/ArrayList" "elementData" "[Ljava/lang/Object;" (.ref dd)) (pr3 : Fld Z h0 a1 "java/util/ArrayList" "size" "I" (.int (0 : Int32))) (Sd : Sta Z Z.heap "java/util/ArrayList" "DEFAULTCAPACITY_EMPTY_ELEMENTDATA" "[Ljava/lang/Object;" (.ref dd)) (Ad : Arv Z Z.heap dd kd (.object "java/lang/Object") (0 : Int32) [] .null) (g_a1 : n0 ≤ a1) (l_a1 : a1 < h0.size) :
    Ct l (⟨"java/util/ArrayList", "grow", "()[Ljava/lang/Object;"⟩ : MethodName) jdk_38_method_7_code 1 (some (.array (.object "java/lang/Object"))) [] RM_rm_gr0 Z n0 #[(.ref a1)] h0 [a1] (Q_rm_gr0 Z a1 u0 dd kd h0) := by
  refine Ct.of_walk (plainFor_of_name pn_4) hO (allS ⟨g_a1, l_a1⟩ all0) ?_
  intro p e s m below meth c T0 X0
  rw [ef_rm_gr0 m a1]
  show Go _ _ _ _ (T0.setTop (mkF m 0 #[.val (.ref a1)] []))
  refine Go.by (fun _ k => XS.aloadN X0.here X0.hx rfl (X0.cd d_jdk_38_method_7_0) rfl rfl k) ?_
  show Go _ _ _ _ (T0.setTop (mkF m 1 #[.val (.ref a1)] [(.ref a1)]))
  refine Go.by (fun _ k => XS.aloadN X0.here X0.hx rfl (X0.cd d_jdk_38_method_7_1) rfl rfl k) ?_
  show Go _ _ _ _ (T0.setTop (mkF m 2 #[.val (.ref a1)] [(.ref a1), (.ref a1)]))
  obtain ⟨T1, X1, st1⟩ := X0.getF (host := "") (Or.inl (hw _ (List.mem_of_getElem? (i := 73) rfl))) Via.refl pr3 (g := (mkF m 2 #[.val (.ref a1)] [(.ref a1), (.ref a1)])) rfl rfl d_jdk_38_method_7_2
  refine Go.by st1 ?_
  show Go _ _ _ _ (T1.setTop (mkF m 5 #[.val (.ref a1)] [(.int (0 : Int32)), (.ref a1)]))
  refine Go.by (fun _ k => XS.iconst X1.here X1.hx rfl (X1.cd d_jdk_38_method_7_5)  k) ?_
  show Go _ _ _ _ (T1.setTop (mkF m 6 #[.val (.ref a1)] [(.int (1 : Int32)), (.int (0 : Int32)), (.ref a1)]))
  refine Go.by (fun _ k => XS.iadd X1.here X1.hx rfl (X1.cd d_jdk_38_method_7_6) rfl k) ?_
  show Go _ _ _ _ (T1.setTop (mkF m 7 #[.val (.ref a1)] [(.int ((0 : Int32) + (1 : Int32))), (.ref a1)]))
  show Go _ _ _ _ (T1.setTop (mkF m 7 #[.val (.ref a1)] [(.int (1 : Int32)), (.ref a1)]))
  have lt_a1_2 := (X1.lt (.head _))
  obtain ⟨_, T2, h2, X2, K2, ⟨ea_2, ke_2, rfl, fr_ea_2, fl_ea_2, P2_0, P2_1, P2_2, P2_3, p2_0⟩, st2⟩ := X1.pvN (W := 0) (hw _ (List.mem_of_getElem? (i := 85) rfl)) (hw _ (List.mem_of_getElem? (i := 86) rfl)) (hw _ (List.mem_of_getElem? (i := 88) rfl)) (hw _ (List.mem_of_getElem? (i := 87) rfl)) (hw _ (List.mem_of_getElem? (i := 89) rfl)) (by decide) ((rm_gri l Z a0 hw n0 a1 u0 (.int (0 : Int32)) dd kd h0 X1.old pr0 pr1 pr2 pr3 Sd Ad (X1.ge (.head _)) (X1.lt (.head _))).pay (hw _ (List.mem_of_getElem? (i := 89) rfl)) (hw _ (List.mem_of_getElem? (i := 40) rfl)) (by decide) (by decide)) (allS (.head _) all0) pr0 (g := (mkF m 7 #[.val (.ref a1)] [(.int (1 : Int32)), (.ref a1)])) rfl rfl (argsL := [(.int (1 : Int32))]) (rest := []) (lenOf pd_2 rfl) rfl (by exact Nat.le_of_eq rfl) d_jdk_38_method_7_7 rfl (by decide) (by decide)
  refine Go.tr st2 ?_
  have K0_h2 : Keep h0 h2 [a1] := (Keep.refl h0 [a1]).trans K2 (allS (Or.inl (.head _)) all0)
  have ne_a1_ea_2 : a1 ≠ ea_2 := ne_ge lt_a1_2 fr_ea_2
  have sz_ea_2 : h0.size ≤ ea_2 := Nat.le_trans X1.sz fr_ea_2
  show Go _ _ _ _ (T2.setTop (mkF m 10 #[.val (.ref a1)] [(.ref ea_2)]))
  exact X2.retR rfl rfl d_jdk_38_method_7_10 K0_h2 ⟨ea_2, ke_2, rfl, sz_ea_2, P2_3.lt, P2_0, P2_1, P2_2, P2_3, p2_0⟩ (by decide) (by decide)
theorem ef_rm_ad3 (m : MethodId) (x0 : Addr) (x1 : Addr) (x2 : Addr) (x3 : Int32) : entryFrame m #[(.ref x0), (.ref x1), (.ref x2), (.int x3)] 4 = mkF m 0 #[.val (.ref x0), .val (.ref x1), .val (.ref x2), .val (.int x3)] [] := by first | (simp [entryFrame, mkF, argsToLocals, Value.category]; done) | rfl
def Q_rm_ad3 (Z : State) (a1 : Addr) (a2 : Addr) (u0 : Value) (dd : Addr) (kd : ClassId) (h0 : Heap) (ov : Option Value) (hz : Heap) : Prop := ∃ (ea : Addr), ∃ (ke : ClassId), ov = none ∧ h0.size ≤ ea ∧ ea < hz.size ∧ Fld Z hz a1 "java/util/AbstractList" "modCount" "I" u0 ∧ Fld Z hz a1 "java/util/ArrayList" "elementData" "[Ljava/lang/Object;" (.ref ea) ∧ Fld Z hz a1 "java/util/ArrayList" "size" "I" (.int (1 : Int32)) ∧ Arv Z hz ea ke (.object "java/lang/Object") (10 : Int32) [(.ref a2), .null, .null, .null, .null, .null, .null, .null, .null, .null] .null ∧ (Ovr Z ke "java/lang/Object")
theorem d_jdk_38_method_24_0 : decode jdk_38_method_24_code 0 = .ok (.iload_n 3, 1) := by decide +kernel
theorem d_jdk_38_method_24_1 : decode jdk_38_method_24_code 1 = .ok (.aload_n 2, 1) := by decide +kernel
theorem d_jdk_38_method_24_2 : decode jdk_38_method_24_code 2 = .ok (.arraylength, 1) := by decide +kernel
theorem d_jdk_38_method_24_3 : decode jdk_38_method_24_code 3 = .ok (.if_icmp .ne 8, 3) := by decide +kernel
theorem d_jdk_38_method_24_6 : decode jdk_38_method_24_code 6 = .ok (.aload_n 0, 1) := by decide +kernel
theorem pd_3 : parseMethodDescriptor "()[Ljava/lang/Object;" = some ⟨[], some (.array (.object "java/lang/Object"))⟩ := by decide +kernel
theorem d_jdk_38_method_24_7 : decode jdk_38_method_24_code 7 = .ok (.invokevirtual 129, 3) := by decide +kernel
theorem d_jdk_38_method_24_10 : decode jdk_38_method_24_code 10 = .ok (.astore_n 2, 1) := by decide +kernel
theorem d_jdk_38_method_24_11 : decode jdk_38_method_24_code 11 = .ok (.aload_n 2, 1) := by decide +kernel
theorem d_jdk_38_method_24_12 : decode jdk_38_method_24_code 12 = .ok (.iload_n 3, 1) := by decide +kernel
theorem d_jdk_38_method_24_13 : decode jdk_38_method_24_code 13 = .ok (.aload_n 1, 1) := by decide +kernel
theorem d_jdk_38_method_24_14 : decode jdk_38_method_24_code 14 = .ok (.aastore, 1) := by decide +kernel
theorem d_jdk_38_method_24_15 : decode jdk_38_method_24_code 15 = .ok (.aload_n 0, 1) := by decide +kernel
theorem d_jdk_38_method_24_16 : decode jdk_38_method_24_code 16 = .ok (.iload_n 3, 1) := by decide +kernel
theorem d_jdk_38_method_24_17 : decode jdk_38_method_24_code 17 = .ok (.iconst 1, 1) := by decide +kernel
theorem d_jdk_38_method_24_18 : decode jdk_38_method_24_code 18 = .ok (.iadd, 1) := by decide +kernel
theorem d_jdk_38_method_24_19 : decode jdk_38_method_24_code 19 = .ok (.putfield 48, 3) := by decide +kernel
theorem d_jdk_38_method_24_22 : decode jdk_38_method_24_code 22 = .ok (.return_, 1) := by decide +kernel
abbrev RM_rm_ad3 : Room := { frames := 3, cells := 1, slots := 10, locals := 41 }
set_option maxRecDepth 65536 in
set_option maxHeartbeats 40000000 in
theorem rm_ad3 (l : Launch) (Z : State) (a0 : Array Value) (hw : ∀ d ∈ tables_1, d.before a0 Z = true) (n0 : Nat) (a1 : Addr) (a2 : Addr) (u0 : Value) (dd : Addr) (kd : ClassId) (h0 : Heap) (hO : Old Z n0 h0) (pr0 : Exa Z h0 a1 "java/util/ArrayList") (pr1 : Fld Z h0 a1 "java/util/AbstractList" "modCount" "I" u0) (pr2 : Fld Z h0 a1 "java/util/ArrayList" "elementData" "[Ljava/lang/Object;" (.ref dd)) (pr3 : Fld Z h0 a1 "java/util/ArrayList" "size" "I" (.int (0 : Int32))) (pr4 : Ins Z h0 a2 "java/lang/Object" true) (Sd : Sta Z Z.heap "java/util/ArrayList" "DEFAULTCAPACITY_EMPTY_ELEMENTDATA" "[Ljava/lang/Object;" (.ref dd)) (Ad : Arv Z Z.heap dd kd (.object "java/lang/Object") (0 : Int32) [] .null) (g_a1 : n0 ≤ a1) (l_a1 : a1 < h0.size) :
    Ct l (⟨"java/util/ArrayList", "add", "(Ljava/lang/Object;[Ljava/lang/Object;I)V"⟩ : MethodName) jdk_38_method_24_code 4 none [] RM_rm_ad3 Z n0 #[(.ref a1), (.ref a2), (.ref dd), (.int (0 : Int32))] h0 [a1] (Q_rm_ad3 Z a1 a2 u0 dd kd h0) := by
  refine Ct.of_walk (plainFor_of_name pn_4) hO (allS ⟨g_a1, l_a1⟩ all0) ?_
  intro p e s m below meth c T0 X0
  rw [ef_rm_ad3 m a1 a2 dd (0 : Int32)]
  show Go _ _ _ _ (T0.setTop (mkF m 0 #[.val (.ref a1), .val (.ref a2), .val (.ref dd), .val (.int (0 : Int32))] []))
  refine Go.by (fun _ k => XS.iloadN X0.here X0.hx rfl (X0.cd d_jdk_38_method_24_0) rfl  k) ?_
  show Go _ _ _ _ (T0.setTop (mkF m 1 #[.val (.ref a1), .val (.ref a2), .val (.ref dd), .val (.int (0 : Int32))] [(.int (0 : Int32))]))
  refine Go.by (fun _ k => XS.aloadN X0.here X0.hx rfl (X0.cd d_jdk_38_method_24_1) rfl rfl k) ?_
  show Go _ _ _ _ (T0.setTop (mkF m 2 #[.val (.ref a1), .val (.ref a2), .val (.ref dd), .val (.int (0 : Int32))] [(.ref dd), (.int (0 : Int32))]))
  have f1 : Arv Z h0 dd kd (.object "java/lang/Object") (0 : Int32) [] .null := (show Arv Z Z.heap dd kd (.object "java/lang/Object") (0 : Int32) [] .null from Ad).ext X0.old.2
  refine Go.by (fun _ k => X0.len f1 (g := (mkF m 2 #[.val (.ref a1), .val (.ref a2), .val (.ref dd), .val (.int (0 : Int32))] [(.ref dd), (.int (0 : Int32))])) rfl rfl d_jdk_38_method_24_2 _ k) ?_
  show Go _ _ _ _ (T0.setTop (mkF m 3 #[.val (.ref a1), .val (.ref a2), .val (.ref dd), .val (.int (0 : Int32))] [(.int (0 : Int32)), (.int (0 : Int32))]))
  refine Go.by (fun _ k => XS.icmpNo X0.here X0.hx rfl (X0.cd d_jdk_38_method_24_3) rfl (XT.ii_ne_f (by decide)) k) ?_
  show Go _ _ _ _ (T0.setTop (mkF m 6 #[.val (.ref a1), .val (.ref a2), .val (.ref dd), .val (.int (0 : Int32))] []))
  refine Go.by (fun _ k => XS.aloadN X0.here X0.hx rfl (X0.cd d_jdk_38_method_24_6) rfl rfl k) ?_
  show Go _ _ _ _ (T0.setTop (mkF m 7 #[.val (.ref a1), .val (.ref a2), .val (.ref dd), .val (.int (0 : Int32))] [(.ref a1)]))
  have lt_a1_2 := (X0.lt (.head _))
  obtain ⟨_, T2, h2, X2, K2, ⟨ea_2, ke_2, rfl, fr_ea_2, fl_ea_2, P2_0, P2_1, P2_2, P2_3, p2_0⟩, st2⟩ := X0.pvN (W := 0) (hw _ (List.mem_of_getElem? (i := 80) rfl)) (hw _ (List.mem_of_getElem? (i := 81) rfl)) (hw _ (List.mem_of_getElem? (i := 83) rfl)) (hw _ (List.mem_of_getElem? (i := 82) rfl)) (hw _ (List.mem_of_getElem? (i := 84) rfl)) (by decide) ((rm_gr0 l Z a0 hw n0 a1 u0 dd kd h0 X0.old pr0 pr1 pr2 pr3 Sd Ad (X0.ge (.head _)) (X0.lt (.head _))).pay (hw _ (List.mem_of_getElem? (i := 84) rfl)) (hw _ (List.mem_of_getElem? (i := 40) rfl)) (by decide) (by decide)) (allS (.head _) all0) pr0 (g := (mkF m 7 #[.val (.ref a1), .val (.ref a2), .val (.ref dd), .val (.int (0 : Int32))] [(.ref a1)])) rfl rfl (argsL := []) (rest := []) (lenOf pd_3 rfl) rfl (by exact Nat.le_of_eq rfl) d_jdk_38_method_24_7 rfl (by decide) (by decide)
  refine Go.tr st2 ?_
  have K0_h2 : Keep h0 h2 [a1] := (Keep.refl h0 [a1]).trans K2 (allS (Or.inl (.head _)) all0)
  have ne_a1_ea_2 : a1 ≠ ea_2 := ne_ge lt_a1_2 fr_ea_2
  have sz_ea_2 : h0.size ≤ ea_2 := Nat.le_trans X0.sz fr_ea_2
  show Go _ _ _ _ (T2.setTop (mkF m 10 #[.val (.ref a1), .val (.ref a2), .val (.ref dd), .val (.int (0 : Int32))] [(.ref ea_2)]))
  have X3 := X2.addA P2_3 (by decide) (Nat.le_trans X0.nle sz_ea_2)
  refine Go.by (fun _ k => XS.astoreN X3.here X3.hx rfl (X3.cd d_jdk_38_method_24_10) rfl rfl (l' := #[.val (.ref a1), .val (.ref a2), .val (.ref ea_2), .val (.int (0 : Int32))]) rfl k) ?_
  show Go _ _ _ _ (T2.setTop (mkF m 11 #[.val (.ref a1), .val (.ref a2), .val (.ref ea_2), .val (.int (0 : Int32))] []))
  refine Go.by (fun _ k => XS.aloadN X3.here X3.hx rfl (X3.cd d_jdk_38_method_24_11) rfl rfl k) ?_
  show Go _ _ _ _ (T2.setTop (mkF m 12 #[.val (.ref a1), .val (.ref a2), .val (.ref ea_2), .val (.int (0 : Int32))] [(.ref ea_2)]))
  refine Go.by (fun _ k => XS.iloadN X3.here X3.hx rfl (X3.cd d_jdk_38_method_24_12) rfl  k) ?_
  show Go _ _ _ _ (T2.setTop (mkF m 13 #[.val (.ref a1), .val (.ref a2), .val (.ref ea_2), .val (.int (0 : Int32))] [(.int (0 : Int32)), (.ref ea_2)]))
  refine Go.by (fun _ k => XS.aloadN X3.here X3.hx rfl (X3.cd d_jdk_38_method_24_13) rfl rfl k) ?_
  show Go _ _ _ _ (T2.setTop (mkF m 14 #[.val (.ref a1), .val (.ref a2), .val (.ref ea_2), .val (.int (0 : Int32))] [(.ref a2), (.int (0 : Int32)), (.ref ea_2)]))
  have f4 : Ins Z h2 a2 "java/lang/Object" true := ins_keep (pr4) K2
  obtain ⟨T5, h5, X5, W5, A5, st5⟩ := X3.stR P2_3 (.head _) p2_0 f4 rfl rfl ⟨by decide, by decide⟩ (i := 0) rfl (Nat.le_of_ble_eq_true rfl) (vs' := [(.ref a2), .null, .null, .null, .null, .null, .null, .null, .null, .null]) rfl (g := (mkF m 14 #[.val (.ref a1), .val (.ref a2), .val (.ref ea_2), .val (.int (0 : Int32))] [(.ref a2), (.int (0 : Int32)), (.ref ea_2)])) rfl rfl d_jdk_38_method_24_14
  refine Go.by st5 ?_
  have K0_h5 : Keep h0 h5 [a1] := K0_h2.trans W5 (allS (Or.inr sz_ea_2) all0)
  show Go _ _ _ _ (T5.setTop (mkF m 15 #[.val (.ref a1), .val (.ref a2), .val (.ref ea_2), .val (.int (0 : Int32))] []))
  refine Go.by (fun _ k => XS.aloadN X5.here X5.hx rfl (X5.cd d_jdk_38_method_24_15) rfl rfl k) ?_
  show Go _ _ _ _ (T5.setTop (mkF m 16 #[.val (.ref a1), .val (.ref a2), .val (.ref ea_2), .val (.int (0 : Int32))] [(.ref a1)]))
  refine Go.by (fun _ k => XS.iloadN X5.here X5.hx rfl (X5.cd d_jdk_38_method_24_16) rfl  k) ?_
  show Go _ _ _ _ (T5.setTop (mkF m 17 #[.val (.ref a1), .val (.ref a2), .val (.ref ea_2), .val (.int (0 : Int32))] [(.int (0 : Int32)), (.ref a1)]))
  refine Go.by (fun _ k => XS.iconst X5.here X5.hx rfl (X5.cd d_jdk_38_method_24_17)  k) ?_
  show Go _ _ _ _ (T5.setTop (mkF m 18 #[.val (.ref a1), .val (.ref a2), .val (.ref ea_2), .val (.int (0 : Int32))] [(.int (1 : Int32)), (.int (0 : Int32)), (.ref a1)]))
  refine Go.by (fun _ k => XS.iadd X5.here X5.hx rfl (X5.cd d_jdk_38_method_24_18) rfl k) ?_
  show Go _ _ _ _ (T5.setTop (mkF m 19 #[.val (.ref a1), .val (.ref a2), .val (.ref ea_2), .val (.int (0 : Int32))] [(.int ((0 : Int32) + (1 : Int32))), (.ref a1)]))
  have f7 : Fld Z h5 a1 "java/util/ArrayList" "size" "I" (.int (0 : Int32)) := (P2_2).keep W5 (ninS ne_a1_ea_2 nin0)
  have f8 : Exa Z h5 a1 "java/util/ArrayList" := ((pr0).keep K2).keep W5
  obtain ⟨T6, h6, X6, W6, st6⟩ := X5.putF (host := "") (Or.inl (hw _ (List.mem_of_getElem? (i := 73) rfl))) Via.refl f7 f8 (Or.inl (hw _ (List.mem_of_getElem? (i := 74) rfl))) (hw _ (List.mem_of_getElem? (i := 39) rfl)) (.tail _ (.head _)) (ty := .int) (by decide) rfl rfl (g := (mkF m 19 #[.val (.ref a1), .val (.ref a2), .val (.ref ea_2), .val (.int (0 : Int32))] [(.int ((0 : Int32) + (1 : Int32))), (.ref a1)])) rfl rfl d_jdk_38_method_24_19
  refine Go.by st6 ?_
  have K0_h6 : Keep h0 h6 [a1] := K0_h5.wr W6 (Or.inl (.head _))
  have F6 : Fld Z h6 a1 "java/util/ArrayList" "size" "I" (.int ((0 : Int32) + (1 : Int32))) := f7.same W6
  show Go _ _ _ _ (T6.setTop (mkF m 22 #[.val (.ref a1), .val (.ref a2), .val (.ref ea_2), .val (.int (0 : Int32))] []))
  have f9 : Fld Z h6 a1 "java/util/AbstractList" "modCount" "I" u0 := ((P2_0).keep W5 (ninS ne_a1_ea_2 nin0)).other W6 (Or.inr (slot_ne (Or.inl (hw _ (List.mem_of_getElem? (i := 58) rfl))) (Or.inl (hw _ (List.mem_of_getElem? (i := 74) rfl))) (by decide) (t := .int) (t' := .int) (by decide) (by decide)))
  have f10 : Fld Z h6 a1 "java/util/ArrayList" "elementData" "[Ljava/lang/Object;" (.ref ea_2) := ((P2_1).keep W5 (ninS ne_a1_ea_2 nin0)).other W6 (Or.inr (slot_ne (Or.inl (hw _ (List.mem_of_getElem? (i := 61) rfl))) (Or.inl (hw _ (List.mem_of_getElem? (i := 74) rfl))) (by decide) (t := (.array (.object "java/lang/Object"))) (t' := .int) (by decide) (by decide)))
  have f11 : Arv Z h6 ea_2 ke_2 (.object "java/lang/Object") (10 : Int32) [(.ref a2), .null, .null, .null, .null, .null, .null, .null, .null, .null] .null := (A5).other W6 ne_a1_ea_2.symm
  exact X6.retV d_jdk_38_method_24_22 K0_h6 ⟨ea_2, ke_2, rfl, sz_ea_2, (X6.lt (.head _)), f9, f10, F6, f11, p2_0⟩ (by decide) (by decide)
theorem ef_rm_ad1 (m : MethodId) (x0 : Addr) (x1 : Addr) : entryFrame m #[(.ref x0), (.ref x1)] 2 = mkF m 0 #[.val (.ref x0), .val (.ref x1)] [] := by first | (simp [entryFrame, mkF, argsToLocals, Value.category]; done) | rfl
def Q_rm_ad1 (Z : State) (a1 : Addr) (a2 : Addr) (w0 : Int32) (dd : Addr) (kd : ClassId) (h0 : Heap) (ov : Option Value) (hz : Heap) : Prop := ∃ (ea : Addr), ∃ (ke : ClassId), ov = some (.int (1 : Int32)) ∧ h0.size ≤ ea ∧ ea < hz.size ∧ Fld Z hz a1 "java/util/AbstractList" "modCount" "I" (.int (w0 + (1 : Int32))) ∧ Fld Z hz a1 "java/util/ArrayList" "elementData" "[Ljava/lang/Object;" (.ref ea) ∧ Fld Z hz a1 "java/util/ArrayList" "size" "I" (.int (1 : Int32)) ∧ Arv Z hz ea ke (.object "java/lang/Object") (10 : Int32) [(.ref a2), .null, .null, .null, .null, .null, .null, .null, .null, .null] .null ∧ (Ovr Z ke "java/lang/Object")
theorem d_jdk_38_method_25_0 : decode jdk_38_method_25_code 0 = .ok (.aload_n 0, 1) := by decide +kernel
theorem d_jdk_38_method_25_1 : decode jdk_38_method_25_code 1 = .ok (.dup, 1) := by decide +kernel
theorem d_jdk_38_method_25_2 : decode jdk_38_method_25_code 2 = .ok (.getfield 63, 3) := by decide +kernel
theorem d_jdk_38_method_25_5 : decode jdk_38_method_25_code 5 = .ok (.iconst 1, 1) := by decide +kernel
theorem d_jdk_38_method_25_6 : decode jdk_38_method_25_code 6 = .ok (.iadd, 1) := by decide +kernel
theorem d_jdk_38_method_25_7 : decode jdk_38_method_25_code 7 = .ok (.putfield 63, 3) := by decide +kernel
theorem d_jdk_38_method_25_10 : decode jdk_38_method_25_code 10 = .ok (.aload_n 0, 1) := by decide +kernel
theorem d_jdk_38_method_25_11 : decode jdk_38_method_25_code 11 = .ok (.aload_n 1, 1) := by decide +kernel
theorem d_jdk_38_method_25_12 : decode jdk_38_method_25_code 12 = .ok (.aload_n 0, 1) := by decide +kernel
theorem d_jdk_38_method_25_13 : decode jdk_38_method_25_code 13 = .ok (.getfield 9, 3) := by decide +kernel
theorem d_jdk_38_method_25_16 : decode jdk_38_method_25_code 16 = .ok (.aload_n 0, 1) := by decide +kernel
theorem d_jdk_38_method_25_17 : decode jdk_38_method_25_code 17 = .ok (.getfield 48, 3) := by decide +kernel
theorem pd_4 : parseMethodDescriptor "(Ljava/lang/Object;[Ljava/lang/Object;I)V" = some ⟨[(.object "java/lang/Object"), (.array (.object "java/lang/Object")), .int], none⟩ := by decide +kernel
theorem d_jdk_38_method_25_20 : decode jdk_38_method_25_code 20 = .ok (.invokevirtual 131, 3) := by decide +kernel
theorem d_jdk_38_method_25_23 : decode jdk_38_method_25_code 23 = .ok (.iconst 1, 1) := by decide +kernel
theorem d_jdk_38_method_25_24 : decode jdk_38_method_25_code 24 = .ok (.ireturn, 1) := by decide +kernel
abbrev RM_rm_ad1 : Room := { frames := 4, cells := 1, slots := 10, locals := 56 }
set_option maxRecDepth 65536 in
set_option maxHeartbeats 40000000 in
theorem rm_ad1 (l : Launch) (Z : State) (a0 : Array Value) (hw : ∀ d ∈ tables_1, d.before a0 Z = true) (n0 : Nat) (a1 : Addr) (a2 : Addr) (w0 : Int32) (dd : Addr) (kd : ClassId) (h0 : Heap) (hO : Old Z n0 h0) (pr0 : Exa Z h0 a1 "java/util/ArrayList") (pr1 : Fld Z h0 a1 "java/util/AbstractList" "modCount" "I" (.int w0)) (pr2 : Fld Z h0 a1 "java/util/ArrayList" "elementData" "[Ljava/lang/Object;" (.ref dd)) (pr3 : Fld Z h0 a1 "java/util/ArrayList" "size" "I" (.int (0 : Int32))) (pr4 : Ins Z h0 a2 "java/lang/Object" true) (Sd : Sta Z Z.heap "java/util/ArrayList" "DEFAULTCAPACITY_EMPTY_ELEMENTDATA" "[Ljava/lang/Object;" (.ref dd)) (Ad : Arv Z Z.heap dd kd (.object "java/lang/Object") (0 : Int32) [] .null) (g_a1 : n0 ≤ a1) (l_a1 : a1 < h0.size) :
    Ct l (⟨"java/util/ArrayList", "add", "(Ljava/lang/Object;)Z"⟩ : MethodName) jdk_38_method_25_code 2 (some .boolean) [] RM_rm_ad1 Z n0 #[(.ref a1), (.ref a2)] h0 [a1] (Q_rm_ad1 Z a1 a2 w0 dd kd h0) := by
  refine Ct.of_walk (plainFor_of_name pn_4) hO (allS ⟨g_a1, l_a1⟩ all0) ?_
  intro p e s m below meth c T0 X0
  rw [ef_rm_ad1 m a1 a2]
  show Go _ _ _ _ (T0.setTop (mkF m 0 #[.val (.ref a1), .val (.ref a2)] []))
  refine Go.by (fun _ k => XS.aloadN X0.here X0.hx rfl (X0.cd d_jdk_38_method_25_0) rfl rfl k) ?_
  show Go _ _ _ _ (T0.setTop (mkF m 1 #[.val (.ref a1), .val (.ref a2)] [(.ref a1)]))
  refine Go.by (fun _ k => XS.dup X0.here X0.hx rfl (X0.cd d_jdk_38_method_25_1) rfl rfl k) ?_
  show Go _ _ _ _ (T0.setTop (mkF m 2 #[.val (.ref a1), .val (.ref a2)] [(.ref a1), (.ref a1)]))
  obtain ⟨T1, X1, st1⟩ := X0.getF (host := "") (Or.inl (hw _ (List.mem_of_getElem? (i := 71) rfl))) (Via.of (hw _ (List.mem_of_getElem? (i := 72) rfl))) pr1 (g := (mkF m 2 #[.val (.ref a1), .val (.ref a2)] [(.ref a1), (.ref a1)])) rfl rfl d_jdk_38_method_25_2
  refine Go.by st1 ?_
  show Go _ _ _ _ (T1.setTop (mkF m 5 #[.val (.ref a1), .val (.ref a2)] [(.int w0), (.ref a1)]))
  refine Go.by (fun _ k => XS.iconst X1.here X1.hx rfl (X1.cd d_jdk_38_method_25_5)  k) ?_
  show Go _ _ _ _ (T1.setTop (mkF m 6 #[.val (.ref a1), .val (.ref a2)] [(.int (1 : Int32)), (.int w0), (.ref a1)]))
  refine Go.by (fun _ k => XS.iadd X1.here X1.hx rfl (X1.cd d_jdk_38_method_25_6) rfl k) ?_
  show Go _ _ _ _ (T1.setTop (mkF m 7 #[.val (.ref a1), .val (.ref a2)] [(.int (w0 + (1 : Int32))), (.ref a1)]))
  obtain ⟨T2, h2, X2, W2, st2⟩ := X1.putF (host := "") (Or.inl (hw _ (List.mem_of_getElem? (i := 71) rfl))) (Via.of (hw _ (List.mem_of_getElem? (i := 72) rfl))) pr1 pr0 (Or.inl (hw _ (List.mem_of_getElem? (i := 58) rfl))) (hw _ (List.mem_of_getElem? (i := 39) rfl)) (.head _) (ty := .int) (by decide) rfl rfl (g := (mkF m 7 #[.val (.ref a1), .val (.ref a2)] [(.int (w0 + (1 : Int32))), (.ref a1)])) rfl rfl d_jdk_38_method_25_7
  refine Go.by st2 ?_
  have K0_h2 : Keep h0 h2 [a1] := (Keep.refl h0 [a1]).wr W2 (Or.inl (.head _))
  have F2 : Fld Z h2 a1 "java/util/AbstractList" "modCount" "I" (.int (w0 + (1 : Int32))) := pr1.same W2
  show Go _ _ _ _ (T2.setTop (mkF m 10 #[.val (.ref a1), .val (.ref a2)] []))
  refine Go.by (fun _ k => XS.aloadN X2.here X2.hx rfl (X2.cd d_jdk_38_method_25_10) rfl rfl k) ?_
  show Go _ _ _ _ (T2.setTop (mkF m 11 #[.val (.ref a1), .val (.ref a2)] [(.ref a1)]))
  refine Go.by (fun _ k => XS.aloadN X2.here X2.hx rfl (X2.cd d_jdk_38_method_25_11) rfl rfl k) ?_
  show Go _ _ _ _ (T2.setTop (mkF m 12 #[.val (.ref a1), .val (.ref a2)] [(.ref a2), (.ref a1)]))
  refine Go.by (fun _ k => XS.aloadN X2.here X2.hx rfl (X2.cd d_jdk_38_method_25_12) rfl rfl k) ?_
  show Go _ _ _ _ (T2.setTop (mkF m 13 #[.val (.ref a1), .val (.ref a2)] [(.ref a1), (.ref a2), (.ref a1)]))
  have f3 : Fld Z h2 a1 "java/util/ArrayList" "elementData" "[Ljava/lang/Object;" (.ref dd) := (pr2).other W2 (Or.inr (slot_ne (Or.inl (hw _ (List.mem_of_getElem? (i := 61) rfl))) (Or.inl (hw _ (List.mem_of_getElem? (i := 58) rfl))) (by decide) (t := (.array (.object "java/lang/Object"))) (t' := .int) (by decide) (by decide)))
  obtain ⟨T4, X4, st4⟩ := X2.getF (host := "") (Or.inl (hw _ (List.mem_of_getElem? (i := 60) rfl))) Via.refl f3 (g := (mkF m 13 #[.val (.ref a1), .val (.ref a2)] [(.ref a1), (.ref a2), (.ref a1)])) rfl rfl d_jdk_38_method_25_13
  refine Go.by st4 ?_
  show Go _ _ _ _ (T4.setTop (mkF m 16 #[.val (.ref a1), .val (.ref a2)] [(.ref dd), (.ref a2), (.ref a1)]))
  refine Go.by (fun _ k => XS.aloadN X4.here X4.hx rfl (X4.cd d_jdk_38_method_25_16) rfl rfl k) ?_
  show Go _ _ _ _ (T4.setTop (mkF m 17 #[.val (.ref a1), .val (.ref a2)] [(.ref a1), (.ref dd), (.ref a2), (.ref a1)]))
  have f5 : Fld Z h2 a1 "java/util/ArrayList" "size" "I" (.int (0 : Int32)) := (pr3).other W2 (Or.inr (slot_ne (Or.inl (hw _ (List.mem_of_getElem? (i := 74) rfl))) (Or.inl (hw _ (List.mem_of_getElem? (i := 58) rfl))) (by decide) (t := .int) (t' := .int) (by decide) (by decide)))
  obtain ⟨T6, X6, st6⟩ := X4.getF (host := "") (Or.inl (hw _ (List.mem_of_getElem? (i := 73) rfl))) Via.refl f5 (g := (mkF m 17 #[.val (.ref a1), .val (.ref a2)] [(.ref a1), (.ref dd), (.ref a2), (.ref a1)])) rfl rfl d_jdk_38_method_25_17
  refine Go.by st6 ?_
  show Go _ _ _ _ (T6.setTop (mkF m 20 #[.val (.ref a1), .val (.ref a2)] [(.int (0 : Int32)), (.ref dd), (.ref a2), (.ref a1)]))
  have f7 : Exa Z h2 a1 "java/util/ArrayList" := (pr0).wr W2
  have f8 : Ins Z h2 a2 "java/lang/Object" true := (pr4).wr W2
  have lt_a1_9 := (X6.lt (.head _))
  obtain ⟨_, T9, h9, X9, K9, ⟨ea_9, ke_9, rfl, fr_ea_9, fl_ea_9, P9_0, P9_1, P9_2, P9_3, p9_0⟩, st9⟩ := X6.pvN (W := 0) (hw _ (List.mem_of_getElem? (i := 75) rfl)) (hw _ (List.mem_of_getElem? (i := 76) rfl)) (hw _ (List.mem_of_getElem? (i := 78) rfl)) (hw _ (List.mem_of_getElem? (i := 77) rfl)) (hw _ (List.mem_of_getElem? (i := 79) rfl)) (by decide) ((rm_ad3 l Z a0 hw n0 a1 a2 (.int (w0 + (1 : Int32))) dd kd h2 X6.old f7 F2 f3 f5 f8 Sd Ad (X6.ge (.head _)) (X6.lt (.head _))).pay (hw _ (List.mem_of_getElem? (i := 79) rfl)) (hw _ (List.mem_of_getElem? (i := 40) rfl)) (by decide) (by decide)) (allS (.head _) all0) f7 (g := (mkF m 20 #[.val (.ref a1), .val (.ref a2)] [(.int (0 : Int32)), (.ref dd), (.ref a2), (.ref a1)])) rfl rfl (argsL := [(.ref a2), (.ref dd), (.int (0 : Int32))]) (rest := []) (lenOf pd_4 rfl) rfl (by exact Nat.le_of_eq rfl) d_jdk_38_method_25_20 rfl (by decide) (by decide)
  refine Go.tr st9 ?_
  have K0_h9 : Keep h0 h9 [a1] := K0_h2.trans K9 (allS (Or.inl (.head _)) all0)
  have ne_a1_ea_9 : a1 ≠ ea_9 := ne_ge lt_a1_9 fr_ea_9
  have sz_ea_9 : h0.size ≤ ea_9 := Nat.le_trans X6.sz fr_ea_9
  show Go _ _ _ _ (T9.setTop (mkF m 23 #[.val (.ref a1), .val (.ref a2)] []))
  refine Go.by (fun _ k => XS.iconst X9.here X9.hx rfl (X9.cd d_jdk_38_method_25_23)  k) ?_
  show Go _ _ _ _ (T9.setTop (mkF m 24 #[.val (.ref a1), .val (.ref a2)] [(.int (1 : Int32))]))
  exact X9.retN (by simp) rfl d_jdk_38_method_25_24 K0_h9 ⟨ea_9, ke_9, rfl, sz_ea_9, P9_3.lt, P9_0, P9_1, P9_2, P9_3, p9_0⟩ (by decide) (by decide)
theorem ef_rm_bd3 (m : MethodId) (x0 : Addr) (x1 : Addr) (x2 : Addr) (x3 : Int32) : entryFrame m #[(.ref x0), (.ref x1), (.ref x2), (.int x3)] 4 = mkF m 0 #[.val (.ref x0), .val (.ref x1), .val (.ref x2), .val (.int x3)] [] := by first | (simp [entryFrame, mkF, argsToLocals, Value.category]; done) | rfl
def Q_rm_bd3 (Z : State) (a1 : Addr) (a2 : Addr) (a3 : Addr) (ea : Addr) (ke : ClassId) (u0 : Value) (h0 : Heap) (ov : Option Value) (hz : Heap) : Prop := ov = none ∧ Fld Z hz a1 "java/util/AbstractList" "modCount" "I" u0 ∧ Fld Z hz a1 "java/util/ArrayList" "elementData" "[Ljava/lang/Object;" (.ref ea) ∧ Fld Z hz a1 "java/util/ArrayList" "size" "I" (.int (2 : Int32)) ∧ Arv Z hz ea ke (.object "java/lang/Object") (10 : Int32) [(.ref a3), (.ref a2), .null, .null, .null, .null, .null, .null, .null, .null] .null
abbrev RM_rm_bd3 : Room := { frames := 0, cells := 0, slots := 0, locals := 0 }
set_option maxRecDepth 65536 in
set_option maxHeartbeats 40000000 in
theorem rm_bd3 (l : Launch) (Z : State) (a0 : Array Value) (hw : ∀ d ∈ tables_1, d.before a0 Z = true) (n0 : Nat) (a1 : Addr) (a2 : Addr) (a3 : Addr) (ea : Addr) (ke : ClassId) (u0 : Value) (h0 : Heap) (hO : Old Z n0 h0) (pr0 : Exa Z h0 a1 "java/util/ArrayList") (pr1 : Fld Z h0 a1 "java/util/AbstractList" "modCount" "I" u0) (pr2 : Fld Z h0 a1 "java/util/ArrayList" "elementData" "[Ljava/lang/Object;" (.ref ea)) (pr3 : Fld Z h0 a1 "java/util/ArrayList" "size" "I" (.int (1 : Int32))) (pr4 : Ins Z h0 a2 "java/lang/Object" true) (pr5 : Arv Z h0 ea ke (.object "java/lang/Object") (10 : Int32) [(.ref a3), .null, .null, .null, .null, .null, .null, .null, .null, .null] .null) (hov : Ovr Z ke "java/lang/Object") (hae : a1 ≠ ea) (g_a1 : n0 ≤ a1) (l_a1 : a1 < h0.size) (g_ea : n0 ≤ ea) (l_ea : ea < h0.size) :
    Ct l (⟨"java/util/ArrayList", "add", "(Ljava/lang/Object;[Ljava/lang/Object;I)V"⟩ : MethodName) jdk_38_method_24_code 4 none [] RM_rm_bd3 Z n0 #[(.ref a1), (.ref a2), (.ref ea), (.int (1 : Int32))] h0 [a1, ea] (Q_rm_bd3 Z a1 a2 a3 ea ke u0 h0) := by
  refine Ct.of_walk (plainFor_of_name pn_4) hO (allS ⟨g_a1, l_a1⟩ (allS ⟨g_ea, l_ea⟩ all0)) ?_
  intro p e s m below meth c T0 X0
  rw [ef_rm_bd3 m a1 a2 ea (1 : Int32)]
  show Go _ _ _ _ (T0.setTop (mkF m 0 #[.val (.ref a1), .val (.ref a2), .val (.ref ea), .val (.int (1 : Int32))] []))
  refine Go.by (fun _ k => XS.iloadN X0.here X0.hx rfl (X0.cd d_jdk_38_method_24_0) rfl  k) ?_
  show Go _ _ _ _ (T0.setTop (mkF m 1 #[.val (.ref a1), .val (.ref a2), .val (.ref ea), .val (.int (1 : Int32))] [(.int (1 : Int32))]))
  refine Go.by (fun _ k => XS.aloadN X0.here X0.hx rfl (X0.cd d_jdk_38_method_24_1) rfl rfl k) ?_
  show Go _ _ _ _ (T0.setTop (mkF m 2 #[.val (.ref a1), .val (.ref a2), .val (.ref ea), .val (.int (1 : Int32))] [(.ref ea), (.int (1 : Int32))]))
  refine Go.by (fun _ k => X0.len pr5 (g := (mkF m 2 #[.val (.ref a1), .val (.ref a2), .val (.ref ea), .val (.int (1 : Int32))] [(.ref ea), (.int (1 : Int32))])) rfl rfl d_jdk_38_method_24_2 _ k) ?_
  show Go _ _ _ _ (T0.setTop (mkF m 3 #[.val (.ref a1), .val (.ref a2), .val (.ref ea), .val (.int (1 : Int32))] [(.int (10 : Int32)), (.int (1 : Int32))]))
  refine Go.by (fun _ k => XS.icmpYes X0.here X0.hx rfl (pc0 := 3) (pc' := 11) rfl (X0.cd d_jdk_38_method_24_3) rfl (XT.ii_ne_t (by decide)) (by decide) (by decide) k) ?_
  show Go _ _ _ _ (T0.setTop (mkF m 11 #[.val (.ref a1), .val (.ref a2), .val (.ref ea), .val (.int (1 : Int32))] []))
  refine Go.by (fun _ k => XS.aloadN X0.here X0.hx rfl (X0.cd d_jdk_38_method_24_11) rfl rfl k) ?_
  show Go _ _ _ _ (T0.setTop (mkF m 12 #[.val (.ref a1), .val (.ref a2), .val (.ref ea), .val (.int (1 : Int32))] [(.ref ea)]))
  refine Go.by (fun _ k => XS.iloadN X0.here X0.hx rfl (X0.cd d_jdk_38_method_24_12) rfl  k) ?_
  show Go _ _ _ _ (T0.setTop (mkF m 13 #[.val (.ref a1), .val (.ref a2), .val (.ref ea), .val (.int (1 : Int32))] [(.int (1 : Int32)), (.ref ea)]))
  refine Go.by (fun _ k => XS.aloadN X0.here X0.hx rfl (X0.cd d_jdk_38_method_24_13) rfl rfl k) ?_
  show Go _ _ _ _ (T0.setTop (mkF m 14 #[.val (.ref a1), .val (.ref a2), .val (.ref ea), .val (.int (1 : Int32))] [(.ref a2), (.int (1 : Int32)), (.ref ea)]))
  obtain ⟨T1, h1, X1, W1, A1, st1⟩ := X0.stR pr5 (.tail _ (.head _)) hov pr4 rfl rfl ⟨by decide, by decide⟩ (i := 1) rfl (Nat.le_of_ble_eq_true rfl) (vs' := [(.ref a3), (.ref a2), .null, .null, .null, .null, .null, .null, .null, .null]) rfl (g := (mkF m 14 #[.val (.ref a1), .val (.ref a2), .val (.ref ea), .val (.int (1 : Int32))] [(.ref a2), (.int (1 : Int32)), (.ref ea)])) rfl rfl d_jdk_38_method_24_14
  refine Go.by st1 ?_
  have K0_h1 : Keep h0 h1 [a1, ea] := (Keep.refl h0 [a1, ea]).trans W1 (allS (Or.inl (.tail _ (.head _))) all0)
  show Go _ _ _ _ (T1.setTop (mkF m 15 #[.val (.ref a1), .val (.ref a2), .val (.ref ea), .val (.int (1 : Int32))] []))
  refine Go.by (fun _ k => XS.aloadN X1.here X1.hx rfl (X1.cd d_jdk_38_method_24_15) rfl rfl k) ?_
  show Go _ _ _ _ (T1.setTop (mkF m 16 #[.val (.ref a1), .val (.ref a2), .val (.ref ea), .val (.int (1 : Int32))] [(.ref a1)]))
  refine Go.by (fun _ k => XS.iloadN X1.here X1.hx rfl (X1.cd d_jdk_38_method_24_16) rfl  k) ?_
  show Go _ _ _ _ (T1.setTop (mkF m 17 #[.val (.ref a1), .val (.ref a2), .val (.ref ea), .val (.int (1 : Int32))] [(.int (1 : Int32)), (.ref a1)]))
  refine Go.by (fun _ k => XS.iconst X1.here X1.hx rfl (X1.cd d_jdk_38_method_24_17)  k) ?_
  show Go _ _ _ _ (T1.setTop (mkF m 18 #[.val (.ref a1), .val (.ref a2), .val (.ref ea), .val (.int (1 : Int32))] [(.int (1 : Int32)), (.int (1 : Int32)), (.ref a1)]))
  refine Go.by (fun _ k => XS.iadd X1.here X1.hx rfl (X1.cd d_jdk_38_method_24_18) rfl k) ?_
  show Go _ _ _ _ (T1.setTop (mkF m 19 #[.val (.ref a1), .val (.ref a2), .val (.ref ea), .val (.int (1 : Int32))] [(.int ((1 : Int32) + (1 : Int32))), (.ref a1)]))
  have f3 : Fld Z h1 a1 "java/util/ArrayList" "size" "I" (.int (1 : Int32)) := (pr3).keep W1 (ninS hae nin0)
  have f4 : Exa Z h1 a1 "java/util/ArrayList" := (pr0).keep W1
  obtain ⟨T2, h2, X2, W2, st2⟩ := X1.putF (host := "") (Or.inl (hw _ (List.mem_of_getElem? (i := 73) rfl))) Via.refl f3 f4 (Or.inl (hw _ (List.mem_of_getElem? (i := 74) rfl))) (hw _ (List.mem_of_getElem? (i := 39) rfl)) (.head _) (ty := .int) (by decide) rfl rfl (g := (mkF m 19 #[.val (.ref a1), .val (.ref a2), .val (.ref ea), .val (.int (1 : Int32))] [(.int ((1 : Int32) + (1 : Int32))), (.ref a1)])) rfl rfl d_jdk_38_method_24_19
  refine Go.by st2 ?_
  have K0_h2 : Keep h0 h2 [a1, ea] := K0_h1.wr W2 (Or.inl (.head _))
  have F2 : Fld Z h2 a1 "java/util/ArrayList" "size" "I" (.int ((1 : Int32) + (1 : Int32))) := f3.same W2
  show Go _ _ _ _ (T2.setTop (mkF m 22 #[.val (.ref a1), .val (.ref a2), .val (.ref ea), .val (.int (1 : Int32))] []))
  have f5 : Fld Z h2 a1 "java/util/AbstractList" "modCount" "I" u0 := ((pr1).keep W1 (ninS hae nin0)).other W2 (Or.inr (slot_ne (Or.inl (hw _ (List.mem_of_getElem? (i := 58) rfl))) (Or.inl (hw _ (List.mem_of_getElem? (i := 74) rfl))) (by decide) (t := .int) (t' := .int) (by decide) (by decide)))
  have f6 : Fld Z h2 a1 "java/util/ArrayList" "elementData" "[Ljava/lang/Object;" (.ref ea) := ((pr2).keep W1 (ninS hae nin0)).other W2 (Or.inr (slot_ne (Or.inl (hw _ (List.mem_of_getElem? (i := 61) rfl))) (Or.inl (hw _ (List.mem_of_getElem? (i := 74) rfl))) (by decide) (t := (.array (.object "java/lang/Object"))) (t' := .int) (by decide) (by decide)))
  have f7 : Arv Z h2 ea ke (.object "java/lang/Object") (10 : Int32) [(.ref a3), (.ref a2), .null, .null, .null, .null, .null, .null, .null, .null] .null := (A1).other W2 hae.symm
  exact X2.retV d_jdk_38_method_24_22 K0_h2 ⟨rfl, f5, f6, F2, f7⟩ (by decide) (by decide)
theorem ef_rm_bd1 (m : MethodId) (x0 : Addr) (x1 : Addr) : entryFrame m #[(.ref x0), (.ref x1)] 2 = mkF m 0 #[.val (.ref x0), .val (.ref x1)] [] := by first | (simp [entryFrame, mkF, argsToLocals, Value.category]; done) | rfl
def Q_rm_bd1 (Z : State) (a1 : Addr) (a2 : Addr) (a3 : Addr) (ea : Addr) (ke : ClassId) (w0 : Int32) (h0 : Heap) (ov : Option Value) (hz : Heap) : Prop := ov = some (.int (1 : Int32)) ∧ Fld Z hz a1 "java/util/AbstractList" "modCount" "I" (.int (w0 + (1 : Int32))) ∧ Fld Z hz a1 "java/util/ArrayList" "elementData" "[Ljava/lang/Object;" (.ref ea) ∧ Fld Z hz a1 "java/util/ArrayList" "size" "I" (.int (2 : Int32)) ∧ Arv Z hz ea ke (.object "java/lang/Object") (10 : Int32) [(.ref a3), (.ref a2), .null, .null, .null, .null, .null, .null, .null, .null] .null
abbrev RM_rm_bd1 : Room := { frames := 1, cells := 0, slots := 0, locals := 15 }
set_option maxRecDepth 65536 in
set_option maxHeartbeats 40000000 in
theorem rm_bd1 (l : Launch) (Z : State) (a0 : Array Value) (hw : ∀ d ∈ tables_1, d.before a0 Z = true) (n0 : Nat) (a1 : Addr) (a2 : Addr) (a3 : Addr) (ea : Addr) (ke : ClassId) (w0 : Int32) (h0 : Heap) (hO : Old Z n0 h0) (pr0 : Exa Z h0 a1 "java/util/ArrayList") (pr1 : Fld Z h0 a1 "java/util/AbstractList" "modCount" "I" (.int w0)) (pr2 : Fld Z h0 a1 "java/util/ArrayList" "elementData" "[Ljava/lang/Object;" (.ref ea)) (pr3 : Fld Z h0 a1 "java/util/ArrayList" "size" "I" (.int (1 : Int32))) (pr4 : Ins Z h0 a2 "java/lang/Object" true) (pr5 : Arv Z h0 ea ke (.object "java/lang/Object") (10 : Int32) [(.ref a3), .null, .null, .null, .null, .null, .null, .null, .null, .null] .null) (hov : Ovr Z ke "java/lang/Object") (hae : a1 ≠ ea) (g_a1 : n0 ≤ a1) (l_a1 : a1 < h0.size) (g_ea : n0 ≤ ea) (l_ea : ea < h0.size) :
    Ct l (⟨"java/util/ArrayList", "add", "(Ljava/lang/Object;)Z"⟩ : MethodName) jdk_38_method_25_code 2 (some .boolean) [] RM_rm_bd1 Z n0 #[(.ref a1), (.ref a2)] h0 [a1, ea] (Q_rm_bd1 Z a1 a2 a3 ea ke w0 h0) := by
  refine Ct.of_walk (plainFor_of_name pn_4) hO (allS ⟨g_a1, l_a1⟩ (allS ⟨g_ea, l_ea⟩ all0)) ?_
  intro p e s m below meth c T0 X0
  rw [ef_rm_bd1 m a1 a2]
  show Go _ _ _ _ (T0.setTop (mkF m 0 #[.val (.ref a1), .val (.ref a2)] []))
  refine Go.by (fun _ k => XS.aloadN X0.here X0.hx rfl (X0.cd d_jdk_38_method_25_0) rfl rfl k) ?_
  show Go _ _ _ _ (T0.setTop (mkF m 1 #[.val (.ref a1), .val (.ref a2)] [(.ref a1)]))
  refine Go.by (fun _ k => XS.dup X0.here X0.hx rfl (X0.cd d_jdk_38_method_25_1) rfl rfl k) ?_
  show Go _ _ _ _ (T0.setTop (mkF m 2 #[.val (.ref a1), .val (.ref a2)] [(.ref a1), (.ref a1)]))
  obtain ⟨T1, X1, st1⟩ := X0.getF (host := "") (Or.inl (hw _ (List.mem_of_getElem? (i := 71) rfl))) (Via.of (hw _ (List.mem_of_getElem? (i := 72) rfl))) pr1 (g := (mkF m 2 #[.val (.ref a1), .val (.ref a2)] [(.ref a1), (.ref a1)])) rfl rfl d_jdk_38_method_25_2
  refine Go.by st1 ?_
  show Go _ _ _ _ (T1.setTop (mkF m 5 #[.val (.ref a1), .val (.ref a2)] [(.int w0), (.ref a1)]))
  refine Go.by (fun _ k => XS.iconst X1.here X1.hx rfl (X1.cd d_jdk_38_method_25_5)  k) ?_
  show Go _ _ _ _ (T1.setTop (mkF m 6 #[.val (.ref a1), .val (.ref a2)] [(.int (1 : Int32)), (.int w0), (.ref a1)]))
  refine Go.by (fun _ k => XS.iadd X1.here X1.hx rfl (X1.cd d_jdk_38_method_25_6) rfl k) ?_
  show Go _ _ _ _ (T1.setTop (mkF m 7 #[.val (.ref a1), .val (.ref a2)] [(.int (w0 + (1 : Int32))), (.ref a1)]))
  obtain ⟨T2, h2, X2, W2, st2⟩ := X1.putF (host := "") (Or.inl (hw _ (List.mem_of_getElem? (i := 71) rfl))) (Via.of (hw _ (List.mem_of_getElem? (i := 72) rfl))) pr1 pr0 (Or.inl (hw _ (List.mem_of_getElem? (i := 58) rfl))) (hw _ (List.mem_of_getElem? (i := 39) rfl)) (.head _) (ty := .int) (by decide) rfl rfl (g := (mkF m 7 #[.val (.ref a1), .val (.ref a2)] [(.int (w0 + (1 : Int32))), (.ref a1)])) rfl rfl d_jdk_38_method_25_7
  refine Go.by st2 ?_
  have K0_h2 : Keep h0 h2 [a1, ea] := (Keep.refl h0 [a1, ea]).wr W2 (Or.inl (.head _))
  have F2 : Fld Z h2 a1 "java/util/AbstractList" "modCount" "I" (.int (w0 + (1 : Int32))) := pr1.same W2
  show Go _ _ _ _ (T2.setTop (mkF m 10 #[.val (.ref a1), .val (.ref a2)] []))
  refine Go.by (fun _ k => XS.aloadN X2.here X2.hx rfl (X2.cd d_jdk_38_method_25_10) rfl rfl k) ?_
  show Go _ _ _ _ (T2.setTop (mkF m 11 #[.val (.ref a1), .val (.ref a2)] [(.ref a1)]))
  refine Go.by (fun _ k => XS.aloadN X2.here X2.hx rfl (X2.cd d_jdk_38_method_25_11) rfl rfl k) ?_
  show Go _ _ _ _ (T2.setTop (mkF m 12 #[.val (.ref a1), .val (.ref a2)] [(.ref a2), (.ref a1)]))
  refine Go.by (fun _ k => XS.aloadN X2.here X2.hx rfl (X2.cd d_jdk_38_method_25_12) rfl rfl k) ?_
  show Go _ _ _ _ (T2.setTop (mkF m 13 #[.val (.ref a1), .val (.ref a2)] [(.ref a1), (.ref a2), (.ref a1)]))
  have f3 : Fld Z h2 a1 "java/util/ArrayList" "elementData" "[Ljava/lang/Object;" (.ref ea) := (pr2).other W2 (Or.inr (slot_ne (Or.inl (hw _ (List.mem_of_getElem? (i := 61) rfl))) (Or.inl (hw _ (List.mem_of_getElem? (i := 58) rfl))) (by decide) (t := (.array (.object "java/lang/Object"))) (t' := .int) (by decide) (by decide)))
  obtain ⟨T4, X4, st4⟩ := X2.getF (host := "") (Or.inl (hw _ (List.mem_of_getElem? (i := 60) rfl))) Via.refl f3 (g := (mkF m 13 #[.val (.ref a1), .val (.ref a2)] [(.ref a1), (.ref a2), (.ref a1)])) rfl rfl d_jdk_38_method_25_13
  refine Go.by st4 ?_
  show Go _ _ _ _ (T4.setTop (mkF m 16 #[.val (.ref a1), .val (.ref a2)] [(.ref ea), (.ref a2), (.ref a1)]))
  refine Go.by (fun _ k => XS.aloadN X4.here X4.hx rfl (X4.cd d_jdk_38_method_25_16) rfl rfl k) ?_
  show Go _ _ _ _ (T4.setTop (mkF m 17 #[.val (.ref a1), .val (.ref a2)] [(.ref a1), (.ref ea), (.ref a2), (.ref a1)]))
  have f5 : Fld Z h2 a1 "java/util/ArrayList" "size" "I" (.int (1 : Int32)) := (pr3).other W2 (Or.inr (slot_ne (Or.inl (hw _ (List.mem_of_getElem? (i := 74) rfl))) (Or.inl (hw _ (List.mem_of_getElem? (i := 58) rfl))) (by decide) (t := .int) (t' := .int) (by decide) (by decide)))
  obtain ⟨T6, X6, st6⟩ := X4.getF (host := "") (Or.inl (hw _ (List.mem_of_getElem? (i := 73) rfl))) Via.refl f5 (g := (mkF m 17 #[.val (.ref a1), .val (.ref a2)] [(.ref a1), (.ref ea), (.ref a2), (.ref a1)])) rfl rfl d_jdk_38_method_25_17
  refine Go.by st6 ?_
  show Go _ _ _ _ (T6.setTop (mkF m 20 #[.val (.ref a1), .val (.ref a2)] [(.int (1 : Int32)), (.ref ea), (.ref a2), (.ref a1)]))
  have f7 : Exa Z h2 a1 "java/util/ArrayList" := (pr0).wr W2
  have f8 : Ins Z h2 a2 "java/lang/Object" true := (pr4).wr W2
  have f9 : Arv Z h2 ea ke (.object "java/lang/Object") (10 : Int32) [(.ref a3), .null, .null, .null, .null, .null, .null, .null, .null, .null] .null := (pr5).other W2 hae.symm
  obtain ⟨_, T10, h10, X10, K10, ⟨rfl, P10_0, P10_1, P10_2, P10_3⟩, st10⟩ := X6.pvN (W := 0) (hw _ (List.mem_of_getElem? (i := 75) rfl)) (hw _ (List.mem_of_getElem? (i := 76) rfl)) (hw _ (List.mem_of_getElem? (i := 78) rfl)) (hw _ (List.mem_of_getElem? (i := 77) rfl)) (hw _ (List.mem_of_getElem? (i := 79) rfl)) (by decide) ((rm_bd3 l Z a0 hw n0 a1 a2 a3 ea ke (.int (w0 + (1 : Int32))) h2 X6.old f7 F2 f3 f5 f8 f9 hov hae (X6.ge (.head _)) (X6.lt (.head _)) (X6.ge (.tail _ (.head _))) (X6.lt (.tail _ (.head _)))).pay (hw _ (List.mem_of_getElem? (i := 79) rfl)) (hw _ (List.mem_of_getElem? (i := 40) rfl)) (by decide) (by decide)) (allS (.head _) (allS (.tail _ (.head _)) all0)) f7 (g := (mkF m 20 #[.val (.ref a1), .val (.ref a2)] [(.int (1 : Int32)), (.ref ea), (.ref a2), (.ref a1)])) rfl rfl (argsL := [(.ref a2), (.ref ea), (.int (1 : Int32))]) (rest := []) (lenOf pd_4 rfl) rfl (by exact Nat.le_of_eq rfl) d_jdk_38_method_25_20 rfl (by decide) (by decide)
  refine Go.tr st10 ?_
  have K0_h10 : Keep h0 h10 [a1, ea] := K0_h2.trans K10 (allS (Or.inl (.head _)) (allS (Or.inl (.tail _ (.head _))) all0))
  show Go _ _ _ _ (T10.setTop (mkF m 23 #[.val (.ref a1), .val (.ref a2)] []))
  refine Go.by (fun _ k => XS.iconst X10.here X10.hx rfl (X10.cd d_jdk_38_method_25_23)  k) ?_
  show Go _ _ _ _ (T10.setTop (mkF m 24 #[.val (.ref a1), .val (.ref a2)] [(.int (1 : Int32))]))
  exact X10.retN (by simp) rfl d_jdk_38_method_25_24 K0_h10 ⟨rfl, P10_0, P10_1, P10_2, P10_3⟩ (by decide) (by decide)
theorem ef_rm_sgi (m : MethodId) (x0 : Addr) (x1 : Addr) (x2 : Addr) (x3 : Addr) (x4 : Int32) : entryFrame m #[(.ref x0), (.ref x1), (.ref x2), (.ref x3), (.int x4)] 5 = mkF m 0 #[.val (.ref x0), .val (.ref x1), .val (.ref x2), .val (.ref x3), .val (.int x4)] [] := by first | (simp [entryFrame, mkF, argsToLocals, Value.category]; done) | rfl
def Q_rm_sgi (Z : State) (a1 : Addr) (a2 : Addr) (a3 : Addr) (a4 : Addr) (bl : Int32) (v0 : Value) (v1 : Value) (v2 : Value) (v3 : Value) (h0 : Heap) (ov : Option Value) (hz : Heap) : Prop := ov = none ∧ Fld Z hz a1 "com/example/cinderpath/cinderpath/ir/Signature" "result" "Lcom/example/cinderpath/cinderpath/ir/ScalarType;" (.ref a3) ∧ Fld Z hz a1 "com/example/cinderpath/cinderpath/ir/Signature" "builtin" "Z" (.int bl)
theorem pn_5 : plainName "com/example/cinderpath/cinderpath/ir/Signature" = true := by first | (simp [plainName, overriddenIn]; done) | decide +kernel
theorem d_prog_63_method_1_0 : decode prog_63_method_1_code 0 = .ok (.aload_n 0, 1) := by decide +kernel
theorem d_prog_63_method_1_1 : decode prog_63_method_1_code 1 = .ok (.invokespecial 1, 3) := by decide +kernel
theorem d_prog_63_method_1_4 : decode prog_63_method_1_code 4 = .ok (.aload_n 0, 1) := by decide +kernel
theorem d_prog_63_method_1_5 : decode prog_63_method_1_code 5 = .ok (.aload_n 1, 1) := by decide +kernel
theorem d_prog_63_method_1_6 : decode prog_63_method_1_code 6 = .ok (.putfield 7, 3) := by decide +kernel
theorem d_prog_63_method_1_9 : decode prog_63_method_1_code 9 = .ok (.aload_n 0, 1) := by decide +kernel
theorem d_prog_63_method_1_10 : decode prog_63_method_1_code 10 = .ok (.aload_n 2, 1) := by decide +kernel
theorem d_prog_63_method_1_11 : decode prog_63_method_1_code 11 = .ok (.putfield 13, 3) := by decide +kernel
theorem d_prog_63_method_1_14 : decode prog_63_method_1_code 14 = .ok (.aload_n 0, 1) := by decide +kernel
theorem d_prog_63_method_1_15 : decode prog_63_method_1_code 15 = .ok (.aload_n 3, 1) := by decide +kernel
theorem d_prog_63_method_1_16 : decode prog_63_method_1_code 16 = .ok (.putfield 17, 3) := by decide +kernel
theorem d_prog_63_method_1_19 : decode prog_63_method_1_code 19 = .ok (.aload_n 0, 1) := by decide +kernel
theorem d_prog_63_method_1_20 : decode prog_63_method_1_code 20 = .ok (.iload 4, 2) := by decide +kernel
theorem d_prog_63_method_1_22 : decode prog_63_method_1_code 22 = .ok (.putfield 21, 3) := by decide +kernel
theorem d_prog_63_method_1_25 : decode prog_63_method_1_code 25 = .ok (.return_, 1) := by decide +kernel
abbrev RM_rm_sgi : Room := { frames := 2, cells := 0, slots := 0, locals := 24 }
set_option maxRecDepth 65536 in
set_option maxHeartbeats 40000000 in
theorem rm_sgi (l : Launch) (Z : State) (a0 : Array Value) (hw : ∀ d ∈ tables_1, d.before a0 Z = true) (n0 : Nat) (a1 : Addr) (a2 : Addr) (a3 : Addr) (a4 : Addr) (bl : Int32) (v0 : Value) (v1 : Value) (v2 : Value) (v3 : Value) (h0 : Heap) (hO : Old Z n0 h0) (pr0 : Exa Z h0 a1 "com/example/cinderpath/cinderpath/ir/Signature") (pr1 : Fld Z h0 a1 "com/example/cinderpath/cinderpath/ir/Signature" "name" "Ljava/lang/String;" v0) (pr2 : Fld Z h0 a1 "com/example/cinderpath/cinderpath/ir/Signature" "result" "Lcom/example/cinderpath/cinderpath/ir/ScalarType;" v1) (pr3 : Fld Z h0 a1 "com/example/cinderpath/cinderpath/ir/Signature" "parameters" "Ljava/util/List;" v2) (pr4 : Fld Z h0 a1 "com/example/cinderpath/cinderpath/ir/Signature" "builtin" "Z" v3) (hb : bl = 0 ∨ bl = 1) (g_a1 : n0 ≤ a1) (l_a1 : a1 < h0.size) :
    Ct l (⟨"com/example/cinderpath/cinderpath/ir/Signature", "<init>", "(Ljava/lang/String;Lcom/example/cinderpath/cinderpath/ir/ScalarType;Ljava/util/List;Z)V"⟩ : MethodName) prog_63_method_1_code 5 none [] RM_rm_sgi Z n0 #[(.ref a1), (.ref a2), (.ref a3), (.ref a4), (.int bl)] h0 [a1] (Q_rm_sgi Z a1 a2 a3 a4 bl v0 v1 v2 v3 h0) := by
  refine Ct.of_walk (plainFor_of_name pn_5) hO (allS ⟨g_a1, l_a1⟩ all0) ?_
  intro p e s m below meth c T0 X0
  rw [ef_rm_sgi m a1 a2 a3 a4 bl]
  show Go _ _ _ _ (T0.setTop (mkF m 0 #[.val (.ref a1), .val (.ref a2), .val (.ref a3), .val (.ref a4), .val (.int bl)] []))
  refine Go.by (fun _ k => XS.aloadN X0.here X0.hx rfl (X0.cd d_prog_63_method_1_0) rfl rfl k) ?_
  show Go _ _ _ _ (T0.setTop (mkF m 1 #[.val (.ref a1), .val (.ref a2), .val (.ref a3), .val (.ref a4), .val (.int bl)] [(.ref a1)]))
  obtain ⟨_, T1, h1, X1, K1, ⟨rfl, rfl⟩, st1⟩ := X0.spN (W := 0) rfl (hw _ (List.mem_of_getElem? (i := 103) rfl)) (hw _ (List.mem_of_getElem? (i := 104) rfl)) (hw _ (List.mem_of_getElem? (i := 107) rfl)) (by decide) ((rm_rec l Z a0 hw n0 a1 h0 X0.old ).pay (hw _ (List.mem_of_getElem? (i := 107) rfl)) (hw _ (List.mem_of_getElem? (i := 106) rfl)) (by decide) (by decide)) all0 (g := (mkF m 1 #[.val (.ref a1), .val (.ref a2), .val (.ref a3), .val (.ref a4), .val (.int bl)] [(.ref a1)])) rfl rfl (a := a1) (argsL := []) (rest := []) (lenOf pd_0 rfl) rfl (by exact Nat.le_of_eq rfl) d_prog_63_method_1_1 rfl (by decide) (by decide)
  refine Go.tr st1 ?_
  show Go _ _ _ _ (T1.setTop (mkF m 4 #[.val (.ref a1), .val (.ref a2), .val (.ref a3), .val (.ref a4), .val (.int bl)] []))
  refine Go.by (fun _ k => XS.aloadN X1.here X1.hx rfl (X1.cd d_prog_63_method_1_4) rfl rfl k) ?_
  show Go _ _ _ _ (T1.setTop (mkF m 5 #[.val (.ref a1), .val (.ref a2), .val (.ref a3), .val (.ref a4), .val (.int bl)] [(.ref a1)]))
  refine Go.by (fun _ k => XS.aloadN X1.here X1.hx rfl (X1.cd d_prog_63_method_1_5) rfl rfl k) ?_
  show Go _ _ _ _ (T1.setTop (mkF m 6 #[.val (.ref a1), .val (.ref a2), .val (.ref a3), .val (.ref a4), .val (.int bl)] [(.ref a2), (.ref a1)]))
  obtain ⟨T2, h2, X2, W2, st2⟩ := X1.putF (host := "") (Or.inl (hw _ (List.mem_of_getElem? (i := 109) rfl))) Via.refl pr1 pr0 (Or.inr ⟨(hw _ (List.mem_of_getElem? (i := 110) rfl)), rfl, rfl⟩) (hw _ (List.mem_of_getElem? (i := 98) rfl)) (.head _) (ty := (.object "java/lang/String")) (by decide) rfl rfl (g := (mkF m 6 #[.val (.ref a1), .val (.ref a2), .val (.ref a3), .val (.ref a4), .val (.int bl)] [(.ref a2), (.ref a1)])) rfl rfl d_prog_63_method_1_6
  refine Go.by st2 ?_
  have K0_h2 : Keep h0 h2 [a1] := (Keep.refl h0 [a1]).wr W2 (Or.inl (.head _))
  have F2 : Fld Z h2 a1 "com/example/cinderpath/cinderpath/ir/Signature" "name" "Ljava/lang/String;" (.ref a2) := pr1.same W2
  show Go _ _ _ _ (T2.setTop (mkF m 9 #[.val (.ref a1), .val (.ref a2), .val (.ref a3), .val (.ref a4), .val (.int bl)] []))
  refine Go.by (fun _ k => XS.aloadN X2.here X2.hx rfl (X2.cd d_prog_63_method_1_9) rfl rfl k) ?_
  show Go _ _ _ _ (T2.setTop (mkF m 10 #[.val (.ref a1), .val (.ref a2), .val (.ref a3), .val (.ref a4), .val (.int bl)] [(.ref a1)]))
  refine Go.by (fun _ k => XS.aloadN X2.here X2.hx rfl (X2.cd d_prog_63_method_1_10) rfl rfl k) ?_
  show Go _ _ _ _ (T2.setTop (mkF m 11 #[.val (.ref a1), .val (.ref a2), .val (.ref a3), .val (.ref a4), .val (.int bl)] [(.ref a3), (.ref a1)]))
  have f4 : Fld Z h2 a1 "com/example/cinderpath/cinderpath/ir/Signature" "result" "Lcom/example/cinderpath/cinderpath/ir/ScalarType;" v1 := (pr2).other W2 (Or.inr (slot_ne (Or.inr (hw _ (List.mem_of_getElem? (i := 112) rfl))) (Or.inr (hw _ (List.mem_of_getElem? (i := 110) rfl))) (by decide) (t := (.object "com/example/cinderpath/cinderpath/ir/ScalarType")) (t' := (.object "java/lang/String")) (by decide) (by decide)))
  have f5 : Exa Z h2 a1 "com/example/cinderpath/cinderpath/ir/Signature" := (pr0).wr W2
  obtain ⟨T3, h3, X3, W3, st3⟩ := X2.putF (host := "") (Or.inl (hw _ (List.mem_of_getElem? (i := 111) rfl))) Via.refl f4 f5 (Or.inr ⟨(hw _ (List.mem_of_getElem? (i := 112) rfl)), rfl, rfl⟩) (hw _ (List.mem_of_getElem? (i := 98) rfl)) (.head _) (ty := (.object "com/example/cinderpath/cinderpath/ir/ScalarType")) (by decide) rfl rfl (g := (mkF m 11 #[.val (.ref a1), .val (.ref a2), .val (.ref a3), .val (.ref a4), .val (.int bl)] [(.ref a3), (.ref a1)])) rfl rfl d_prog_63_method_1_11
  refine Go.by st3 ?_
  have K0_h3 : Keep h0 h3 [a1] := K0_h2.wr W3 (Or.inl (.head _))
  have F3 : Fld Z h3 a1 "com/example/cinderpath/cinderpath/ir/Signature" "result" "Lcom/example/cinderpath/cinderpath/ir/ScalarType;" (.ref a3) := f4.same W3
  show Go _ _ _ _ (T3.setTop (mkF m 14 #[.val (.ref a1), .val (.ref a2), .val (.ref a3), .val (.ref a4), .val (.int bl)] []))
  refine Go.by (fun _ k => XS.aloadN X3.here X3.hx rfl (X3.cd d_prog_63_method_1_14) rfl rfl k) ?_
  show Go _ _ _ _ (T3.setTop (mkF m 15 #[.val (.ref a1), .val (.ref a2), .val (.ref a3), .val (.ref a4), .val (.int bl)] [(.ref a1)]))
  refine Go.by (fun _ k => XS.aloadN X3.here X3.hx rfl (X3.cd d_prog_63_method_1_15) rfl rfl k) ?_
  show Go _ _ _ _ (T3.setTop (mkF m 16 #[.val (.ref a1), .val (.ref a2), .val (.ref a3), .val (.ref a4), .val (.int bl)] [(.ref a4), (.ref a1)]))
  have f7 : Fld Z h3 a1 "com/example/cinderpath/cinderpath/ir/Signature" "parameters" "Ljava/util/List;" v2 := ((pr3).other W2 (Or.inr (slot_ne (Or.inr (hw _ (List.mem_of_getElem? (i := 114) rfl))) (Or.inr (hw _ (List.mem_of_getElem? (i := 110) rfl))) (by decide) (t := (.object "java/util/List")) (t' := (.object "java/lang/String")) (by decide) (by decide)))).other W3 (Or.inr (slot_ne (Or.inr (hw _ (List.mem_of_getElem? (i := 114) rfl))) (Or.inr (hw _ (List.mem_of_getElem? (i := 112) rfl))) (by decide) (t := (.object "java/util/List")) (t' := (.object "com/example/cinderpath/cinderpath/ir/ScalarType")) (by decide) (by decide)))
  have f8 : Exa Z h3 a1 "com/example/cinderpath/cinderpath/ir/Signature" := (f5).wr W3
  obtain ⟨T6, h6, X6, W6, st6⟩ := X3.putF (host := "") (Or.inl (hw _ (List.mem_of_getElem? (i := 113) rfl))) Via.refl f7 f8 (Or.inr ⟨(hw _ (List.mem_of_getElem? (i := 114) rfl)), rfl, rfl⟩) (hw _ (List.mem_of_getElem? (i := 98) rfl)) (.head _) (ty := (.object "java/util/List")) (by decide) rfl rfl (g := (mkF m 16 #[.val (.ref a1), .val (.ref a2), .val (.ref a3), .val (.ref a4), .val (.int bl)] [(.ref a4), (.ref a1)])) rfl rfl d_prog_63_method_1_16
  refine Go.by st6 ?_
  have K0_h6 : Keep h0 h6 [a1] := K0_h3.wr W6 (Or.inl (.head _))
  have F6 : Fld Z h6 a1 "com/example/cinderpath/cinderpath/ir/Signature" "parameters" "Ljava/util/List;" (.ref a4) := f7.same W6
  show Go _ _ _ _ (T6.setTop (mkF m 19 #[.val (.ref a1), .val (.ref a2), .val (.ref a3), .val (.ref a4), .val (.int bl)] []))
  refine Go.by (fun _ k => XS.aloadN X6.here X6.hx rfl (X6.cd d_prog_63_method_1_19) rfl rfl k) ?_
  show Go _ _ _ _ (T6.setTop (mkF m 20 #[.val (.ref a1), .val (.ref a2), .val (.ref a3), .val (.ref a4), .val (.int bl)] [(.ref a1)]))
  refine Go.by (fun _ k => XS.iload X6.here X6.hx rfl (X6.cd d_prog_63_method_1_20) rfl  k) ?_
  show Go _ _ _ _ (T6.setTop (mkF m 22 #[.val (.ref a1), .val (.ref a2), .val (.ref a3), .val (.ref a4), .val (.int bl)] [(.int bl), (.ref a1)]))
  have f10 : Fld Z h6 a1 "com/example/cinderpath/cinderpath/ir/Signature" "builtin" "Z" v3 := (((pr4).other W2 (Or.inr (slot_ne (Or.inr (hw _ (List.mem_of_getElem? (i := 116) rfl))) (Or.inr (hw _ (List.mem_of_getElem? (i := 110) rfl))) (by decide) (t := .boolean) (t' := (.object "java/lang/String")) (by decide) (by decide)))).other W3 (Or.inr (slot_ne (Or.inr (hw _ (List.mem_of_getElem? (i := 116) rfl))) (Or.inr (hw _ (List.mem_of_getElem? (i := 112) rfl))) (by decide) (t := .boolean) (t' := (.object "com/example/cinderpath/cinderpath/ir/ScalarType")) (by decide) (by decide)))).other W6 (Or.inr (slot_ne (Or.inr (hw _ (List.mem_of_getElem? (i := 116) rfl))) (Or.inr (hw _ (List.mem_of_getElem? (i := 114) rfl))) (by decide) (t := .boolean) (t' := (.object "java/util/List")) (by decide) (by decide)))
  have f11 : Exa Z h6 a1 "com/example/cinderpath/cinderpath/ir/Signature" := (f8).wr W6
  obtain ⟨T9, h9, X9, W9, st9⟩ := X6.putFN (hw _ (List.mem_of_getElem? (i := 115) rfl)) Via.refl f10 f11 (Or.inr ⟨(hw _ (List.mem_of_getElem? (i := 116) rfl)), rfl, rfl⟩) (hw _ (List.mem_of_getElem? (i := 98) rfl)) (.head _) (ty := .boolean) (v' := .int bl) (by decide) (own_nb hb) (own_fb hb) (g := (mkF m 22 #[.val (.ref a1), .val (.ref a2), .val (.ref a3), .val (.ref a4), .val (.int bl)] [(.int bl), (.ref a1)])) rfl rfl d_prog_63_method_1_22
  refine Go.by st9 ?_
  have K0_h9 : Keep h0 h9 [a1] := K0_h6.wr W9 (Or.inl (.head _))
  have F9 : Fld Z h9 a1 "com/example/cinderpath/cinderpath/ir/Signature" "builtin" "Z" (.int bl) := f10.same W9
  show Go _ _ _ _ (T9.setTop (mkF m 25 #[.val (.ref a1), .val (.ref a2), .val (.ref a3), .val (.ref a4), .val (.int bl)] []))
  have f12 : Fld Z h9 a1 "com/example/cinderpath/cinderpath/ir/Signature" "result" "Lcom/example/cinderpath/cinderpath/ir/ScalarType;" (.ref a3) := ((F3).other W6 (Or.inr (slot_ne (Or.inr (hw _ (List.mem_of_getElem? (i := 112) rfl))) (Or.inr (hw _ (List.mem_of_getElem? (i := 114) rfl))) (by decide) (t := (.object "com/example/cinderpath/cinderpath/ir/ScalarType")) (t' := (.object "java/util/List")) (by decide) (by decide)))).other W9 (Or.inr (slot_ne (Or.inr (hw _ (List.mem_of_getElem? (i := 112) rfl))) (Or.inr (hw _ (List.mem_of_getElem? (i := 116) rfl))) (by decide) (t := (.object "com/example/cinderpath/cinderpath/ir/ScalarType")) (t' := .boolean) (by decide) (by decide)))
  exact X9.retV d_prog_63_method_1_25 K0_h9 ⟨rfl, f12, F9⟩ (by decide) (by decide)
theorem ef_rm_ri (m : MethodId) (x0 : Addr) : entryFrame m #[(.ref x0)] 1 = mkF m 0 #[.val (.ref x0)] [] := by first | (simp [entryFrame, mkF, argsToLocals, Value.category]; done) | rfl
def Q_rm_ri (Z : State) (a1 : Addr) (a3 : Addr) (bl : Int32) (sk0 : Addr) (sk1 : Addr) (sk2 : Addr) (sk3 : Addr) (sk4 : Addr) (h0 : Heap) (ov : Option Value) (hz : Heap) : Prop := ∃ (r : Int32), ov = some (.int r) ∧ h0 = hz ∧ ((r = 1 ∧ (¬ bl = 0 ∧ ¬ a3 = sk0)) ∨ (r = 0 ∧ ¬ (¬ bl = 0 ∧ ¬ a3 = sk0)))
theorem d_prog_63_method_2_0 : decode prog_63_method_2_code 0 = .ok (.aload_n 0, 1) := by decide +kernel
theorem d_prog_63_method_2_1 : decode prog_63_method_2_code 1 = .ok (.getfield 21, 3) := by decide +kernel
theorem d_prog_63_method_2_4 : decode prog_63_method_2_code 4 = .ok (.ifCond .eq 17, 3) := by decide +kernel
theorem d_prog_63_method_2_21 : decode prog_63_method_2_code 21 = .ok (.iconst 0, 1) := by decide +kernel
theorem d_prog_63_method_2_22 : decode prog_63_method_2_code 22 = .ok (.ireturn, 1) := by decide +kernel
theorem d_prog_63_method_2_7 : decode prog_63_method_2_code 7 = .ok (.aload_n 0, 1) := by decide +kernel
theorem d_prog_63_method_2_8 : decode prog_63_method_2_code 8 = .ok (.getfield 13, 3) := by decide +kernel
theorem d_prog_63_method_2_11 : decode prog_63_method_2_code 11 = .ok (.getstatic 25, 3) := by decide +kernel
theorem d_prog_63_method_2_14 : decode prog_63_method_2_code 14 = .ok (.if_acmp .eq 7, 3) := by decide +kernel
theorem d_prog_63_method_2_17 : decode prog_63_method_2_code 17 = .ok (.iconst 1, 1) := by decide +kernel
theorem d_prog_63_method_2_18 : decode prog_63_method_2_code 18 = .ok (.goto 4, 3) := by decide +kernel
abbrev RM_rm_ri : Room := { frames := 0, cells := 0, slots := 0, locals := 0 }
set_option maxRecDepth 65536 in
set_option maxHeartbeats 40000000 in
theorem rm_ri (l : Launch) (Z : State) (a0 : Array Value) (hw : ∀ d ∈ tables_1, d.before a0 Z = true) (n0 : Nat) (a1 : Addr) (a3 : Addr) (bl : Int32) (sk0 : Addr) (sk1 : Addr) (sk2 : Addr) (sk3 : Addr) (sk4 : Addr) (h0 : Heap) (hO : Old Z n0 h0) (pr0 : Fld Z h0 a1 "com/example/cinderpath/cinderpath/ir/Signature" "result" "Lcom/example/cinderpath/cinderpath/ir/ScalarType;" (.ref a3)) (pr1 : Fld Z h0 a1 "com/example/cinderpath/cinderpath/ir/Signature" "builtin" "Z" (.int bl)) (Sk0 : Sta Z Z.heap "com/example/cinderpath/cinderpath/ir/ScalarType" "VOID" "Lcom/example/cinderpath/cinderpath/ir/ScalarType;" (.ref sk0)) (Sk1 : Sta Z Z.heap "com/example/cinderpath/cinderpath/ir/ScalarType" "INT" "Lcom/example/cinderpath/cinderpath/ir/ScalarType;" (.ref sk1)) (Sk2 : Sta Z Z.heap "com/example/cinderpath/cinderpath/ir/ScalarType" "BOOL" "Lcom/example/cinderpath/cinderpath/ir/ScalarType;" (.ref sk2)) (Sk3 : Sta Z Z.heap "com/example/cinderpath/cinderpath/ir/ScalarType" "FLOAT" "Lcom/example/cinderpath/cinderpath/ir/ScalarType;" (.ref sk3)) (Sk4 : Sta Z Z.heap "com/example/cinderpath/cinderpath/ir/ScalarType" "STRING" "Lcom/example/cinderpath/cinderpath/ir/ScalarType;" (.ref sk4)) :
    Ct l (⟨"com/example/cinderpath/cinderpath/ir/Signature", "readsInput", "()Z"⟩ : MethodName) prog_63_method_2_code 1 (some .boolean) [] RM_rm_ri Z n0 #[(.ref a1)] h0 [] (Q_rm_ri Z a1 a3 bl sk0 sk1 sk2 sk3 sk4 h0) := by
  refine Ct.of_walk (plainFor_of_name pn_5) hO all0 ?_
  intro p e s m below meth c T0 X0
  rw [ef_rm_ri m a1]
  show Go _ _ _ _ (T0.setTop (mkF m 0 #[.val (.ref a1)] []))
  refine Go.by (fun _ k => XS.aloadN X0.here X0.hx rfl (X0.cd d_prog_63_method_2_0) rfl rfl k) ?_
  show Go _ _ _ _ (T0.setTop (mkF m 1 #[.val (.ref a1)] [(.ref a1)]))
  obtain ⟨T1, X1, st1⟩ := X0.getF (host := "") (Or.inl (hw _ (List.mem_of_getElem? (i := 115) rfl))) Via.refl pr1 (g := (mkF m 1 #[.val (.ref a1)] [(.ref a1)])) rfl rfl d_prog_63_method_2_1
  refine Go.by st1 ?_
  show Go _ _ _ _ (T1.setTop (mkF m 4 #[.val (.ref a1)] [(.int bl)]))
  by_cases c0 : bl = 0
  · refine Go.by (fun _ k => XS.ifYes X1.here X1.hx rfl (pc0 := 4) (pc' := 21) rfl (X1.cd d_prog_63_method_2_4) rfl (XT.i0_eq_t c0) (by decide) (by decide) k) ?_
    show Go _ _ _ _ (T1.setTop (mkF m 21 #[.val (.ref a1)] []))
    refine Go.by (fun _ k => XS.iconst X1.here X1.hx rfl (X1.cd d_prog_63_method_2_21)  k) ?_
    show Go _ _ _ _ (T1.setTop (mkF m 22 #[.val (.ref a1)] [(.int (0 : Int32))]))
    exact X1.retN (by simp) rfl d_prog_63_method_2_22 (Keep.refl h0 []) ⟨(0 : Int32), rfl, rfl, Or.inr ⟨rfl, fun z => z.1 c0⟩⟩ (by decide) (by decide)
  · refine Go.by (fun _ k => XS.ifNo X1.here X1.hx rfl (X1.cd d_prog_63_method_2_4) rfl (XT.i0_eq_f c0) k) ?_
    show Go _ _ _ _ (T1.setTop (mkF m 7 #[.val (.ref a1)] []))
    refine Go.by (fun _ k => XS.aloadN X1.here X1.hx rfl (X1.cd d_prog_63_method_2_7) rfl rfl k) ?_
    show Go _ _ _ _ (T1.setTop (mkF m 8 #[.val (.ref a1)] [(.ref a1)]))
    obtain ⟨T2, X2, st2⟩ := X1.getF (host := "") (Or.inl (hw _ (List.mem_of_getElem? (i := 111) rfl))) Via.refl pr0 (g := (mkF m 8 #[.val (.ref a1)] [(.ref a1)])) rfl rfl d_prog_63_method_2_8
    refine Go.by st2 ?_
    show Go _ _ _ _ (T2.setTop (mkF m 11 #[.val (.ref a1)] [(.ref a3)]))
    obtain ⟨T3, X3, st3⟩ := X2.getS (hw _ (List.mem_of_getElem? (i := 122) rfl)) Via.refl Sk0 (g := (mkF m 11 #[.val (.ref a1)] [(.ref a3)])) rfl d_prog_63_method_2_11
    refine Go.by st3 ?_
    show Go _ _ _ _ (T3.setTop (mkF m 14 #[.val (.ref a1)] [(.ref sk0), (.ref a3)]))
    by_cases c1 : (Value.ref a3) = (Value.ref sk0)
    · refine Go.by (fun _ k => X3.acmp (cd := .eq) (x := (.ref a3)) (y' := (.ref sk0)) rfl rfl (g := (mkF m 14 #[.val (.ref a1)] [(.ref sk0), (.ref a3)])) rfl (pc0 := 14) (pc' := 21) (same := true) rfl d_prog_63_method_2_14 rfl (decide_eq_true c1) (by decide) (by decide) _ k) ?_
      show Go _ _ _ _ (T3.setTop (mkF m 21 #[.val (.ref a1)] []))
      refine Go.by (fun _ k => XS.iconst X3.here X3.hx rfl (X3.cd d_prog_63_method_2_21)  k) ?_
      show Go _ _ _ _ (T3.setTop (mkF m 22 #[.val (.ref a1)] [(.int (0 : Int32))]))
      exact X3.retN (by simp) rfl d_prog_63_method_2_22 (Keep.refl h0 []) ⟨(0 : Int32), rfl, rfl, Or.inr ⟨rfl, fun z => z.2 (Value.ref.inj c1)⟩⟩ (by decide) (by decide)
    · refine Go.by (fun _ k => X3.acmp (cd := .eq) (x := (.ref a3)) (y' := (.ref sk0)) rfl rfl (g := (mkF m 14 #[.val (.ref a1)] [(.ref sk0), (.ref a3)])) rfl (pc0 := 14) (pc' := 17) (same := false) rfl d_prog_63_method_2_14 rfl (decide_eq_false c1) (by decide) (by decide) _ k) ?_
      show Go _ _ _ _ (T3.setTop (mkF m 17 #[.val (.ref a1)] []))
      refine Go.by (fun _ k => XS.iconst X3.here X3.hx rfl (X3.cd d_prog_63_method_2_17)  k) ?_
      show Go _ _ _ _ (T3.setTop (mkF m 18 #[.val (.ref a1)] [(.int (1 : Int32))]))
      refine Go.by (fun _ k => XS.goto X3.here X3.hx rfl (pc0 := 18) (pc' := 22) rfl (X3.cd d_prog_63_method_2_18) (by decide) (by decide) k) ?_
      show Go _ _ _ _ (T3.setTop (mkF m 22 #[.val (.ref a1)] [(.int (1 : Int32))]))
      exact X3.retN (by simp) rfl d_prog_63_method_2_22 (Keep.refl h0 []) ⟨(1 : Int32), rfl, rfl, Or.inl ⟨rfl, c0, fun z => c1 (by rw [z])⟩⟩ (by decide) (by decide)
theorem ef_rm_ati (m : MethodId) (x0 : Addr) (x1 : Addr) (x2 : Int32) : entryFrame m #[(.ref x0), (.ref x1), (.int x2)] 3 = mkF m 0 #[.val (.ref x0), .val (.ref x1), .val (.int x2)] [] := by first | (simp [entryFrame, mkF, argsToLocals, Value.category]; done) | rfl
def Q_rm_ati (Z : State) (a1 : Addr) (a2 : Addr) (vv : Int32) (u0 : Value) (u1 : Value) (h0 : Heap) (ov : Option Value) (hz : Heap) : Prop := ov = none
theorem pn_6 : plainName "com/example/cinderpath/cinderpath/ir/ArrayType" = true := by first | (simp [plainName, overriddenIn]; done) | decide +kernel
theorem d_prog_43_method_1_0 : decode prog_43_method_1_code 0 = .ok (.aload_n 0, 1) := by decide +kernel
theorem d_prog_43_method_1_1 : decode prog_43_method_1_code 1 = .ok (.invokespecial 1, 3) := by decide +kernel
theorem d_prog_43_method_1_4 : decode prog_43_method_1_code 4 = .ok (.aload_n 0, 1) := by decide +kernel
theorem d_prog_43_method_1_5 : decode prog_43_method_1_code 5 = .ok (.aload_n 1, 1) := by decide +kernel
theorem d_prog_43_method_1_6 : decode prog_43_method_1_code 6 = .ok (.putfield 7, 3) := by decide +kernel
theorem d_prog_43_method_1_9 : decode prog_43_method_1_code 9 = .ok (.aload_n 0, 1) := by decide +kernel
theorem d_prog_43_method_1_10 : decode prog_43_method_1_code 10 = .ok (.iload_n 2, 1) := by decide +kernel
theorem d_prog_43_method_1_11 : decode prog_43_method_1_code 11 = .ok (.putfield 13, 3) := by decide +kernel
theorem d_prog_43_method_1_14 : decode prog_43_method_1_code 14 = .ok (.return_, 1) := by decide +kernel
abbrev RM_rm_ati : Room := { frames := 2, cells := 0, slots := 0, locals := 24 }
set_option maxRecDepth 65536 in
set_option maxHeartbeats 40000000 in
theorem rm_ati (l : Launch) (Z : State) (a0 : Array Value) (hw : ∀ d ∈ tables_1, d.before a0 Z = true) (n0 : Nat) (a1 : Addr) (a2 : Addr) (vv : Int32) (u0 : Value) (u1 : Value) (h0 : Heap) (hO : Old Z n0 h0) (pr0 : Exa Z h0 a1 "com/example/cinderpath/cinderpath/ir/ArrayType") (pr1 : Fld Z h0 a1 "com/example/cinderpath/cinderpath/ir/ArrayType" "element" "Lcom/example/cinderpath/cinderpath/ir/ScalarType;" u0) (pr2 : Fld Z h0 a1 "com/example/cinderpath/cinderpath/ir/ArrayType" "size" "I" u1) (g_a1 : n0 ≤ a1) (l_a1 : a1 < h0.size) :
    Ct l (⟨"com/example/cinderpath/cinderpath/ir/ArrayType", "<init>", "(Lcom/example/cinderpath/cinderpath/ir/ScalarType;I)V"⟩ : MethodName) prog_43_method_1_code 3 none [] RM_rm_ati Z n0 #[(.ref a1), (.ref a2), (.int vv)] h0 [a1] (Q_rm_ati Z a1 a2 vv u0 u1 h0) := by
  refine Ct.of_walk (plainFor_of_name pn_6) hO (allS ⟨g_a1, l_a1⟩ all0) ?_
  intro p e s m below meth c T0 X0
  rw [ef_rm_ati m a1 a2 vv]
  show Go _ _ _ _ (T0.setTop (mkF m 0 #[.val (.ref a1), .val (.ref a2), .val (.int vv)] []))
  refine Go.by (fun _ k => XS.aloadN X0.here X0.hx rfl (X0.cd d_prog_43_method_1_0) rfl rfl k) ?_
  show Go _ _ _ _ (T0.setTop (mkF m 1 #[.val (.ref a1), .val (.ref a2), .val (.int vv)] [(.ref a1)]))
  obtain ⟨_, T1, h1, X1, K1, ⟨rfl, rfl⟩, st1⟩ := X0.spN (W := 0) rfl (hw _ (List.mem_of_getElem? (i := 137) rfl)) (hw _ (List.mem_of_getElem? (i := 104) rfl)) (hw _ (List.mem_of_getElem? (i := 107) rfl)) (by decide) ((rm_rec l Z a0 hw n0 a1 h0 X0.old ).pay (hw _ (List.mem_of_getElem? (i := 107) rfl)) (hw _ (List.mem_of_getElem? (i := 106) rfl)) (by decide) (by decide)) all0 (g := (mkF m 1 #[.val (.ref a1), .val (.ref a2), .val (.int vv)] [(.ref a1)])) rfl rfl (a := a1) (argsL := []) (rest := []) (lenOf pd_0 rfl) rfl (by exact Nat.le_of_eq rfl) d_prog_43_method_1_1 rfl (by decide) (by decide)
  refine Go.tr st1 ?_
  show Go _ _ _ _ (T1.setTop (mkF m 4 #[.val (.ref a1), .val (.ref a2), .val (.int vv)] []))
  refine Go.by (fun _ k => XS.aloadN X1.here X1.hx rfl (X1.cd d_prog_43_method_1_4) rfl rfl k) ?_
  show Go _ _ _ _ (T1.setTop (mkF m 5 #[.val (.ref a1), .val (.ref a2), .val (.int vv)] [(.ref a1)]))
  refine Go.by (fun _ k => XS.aloadN X1.here X1.hx rfl (X1.cd d_prog_43_method_1_5) rfl rfl k) ?_
  show Go _ _ _ _ (T1.setTop (mkF m 6 #[.val (.ref a1), .val (.ref a2), .val (.int vv)] [(.ref a2), (.ref a1)]))
  obtain ⟨T2, h2, X2, W2, st2⟩ := X1.putF (host := "") (Or.inl (hw _ (List.mem_of_getElem? (i := 138) rfl))) Via.refl pr1 pr0 (Or.inr ⟨(hw _ (List.mem_of_getElem? (i := 139) rfl)), rfl, rfl⟩) (hw _ (List.mem_of_getElem? (i := 132) rfl)) (.head _) (ty := (.object "com/example/cinderpath/cinderpath/ir/ScalarType")) (by decide) rfl rfl (g := (mkF m 6 #[.val (.ref a1), .val (.ref a2), .val (.int vv)] [(.ref a2), (.ref a1)])) rfl rfl d_prog_43_method_1_6
  refine Go.by st2 ?_
  have K0_h2 : Keep h0 h2 [a1] := (Keep.refl h0 [a1]).wr W2 (Or.inl (.head _))
  have F2 : Fld Z h2 a1 "com/example/cinderpath/cinderpath/ir/ArrayType" "element" "Lcom/example/cinderpath/cinderpath/ir/ScalarType;" (.ref a2) := pr1.same W2
  show Go _ _ _ _ (T2.setTop (mkF m 9 #[.val (.ref a1), .val (.ref a2), .val (.int vv)] []))
  refine Go.by (fun _ k => XS.aloadN X2.here X2.hx rfl (X2.cd d_prog_43_method_1_9) rfl rfl k) ?_
  show Go _ _ _ _ (T2.setTop (mkF m 10 #[.val (.ref a1), .val (.ref a2), .val (.int vv)] [(.ref a1)]))
  refine Go.by (fun _ k => XS.iloadN X2.here X2.hx rfl (X2.cd d_prog_43_method_1_10) rfl  k) ?_
  show Go _ _ _ _ (T2.setTop (mkF m 11 #[.val (.ref a1), .val (.ref a2), .val (.int vv)] [(.int vv), (.ref a1)]))
  have f4 : Fld Z h2 a1 "com/example/cinderpath/cinderpath/ir/ArrayType" "size" "I" u1 := (pr2).other W2 (Or.inr (slot_ne (Or.inr (hw _ (List.mem_of_getElem? (i := 141) rfl))) (Or.inr (hw _ (List.mem_of_getElem? (i := 139) rfl))) (by decide) (t := .int) (t' := (.object "com/example/cinderpath/cinderpath/ir/ScalarType")) (by decide) (by decide)))
  have f5 : Exa Z h2 a1 "com/example/cinderpath/cinderpath/ir/ArrayType" := (pr0).wr W2
  obtain ⟨T3, h3, X3, W3, st3⟩ := X2.putF (host := "") (Or.inl (hw _ (List.mem_of_getElem? (i := 140) rfl))) Via.refl f4 f5 (Or.inr ⟨(hw _ (List.mem_of_getElem? (i := 141) rfl)), rfl, rfl⟩) (hw _ (List.mem_of_getElem? (i := 132) rfl)) (.head _) (ty := .int) (by decide) rfl rfl (g := (mkF m 11 #[.val (.ref a1), .val (.ref a2), .val (.int vv)] [(.int vv), (.ref a1)])) rfl rfl d_prog_43_method_1_11
  refine Go.by st3 ?_
  have K0_h3 : Keep h0 h3 [a1] := K0_h2.wr W3 (Or.inl (.head _))
  have F3 : Fld Z h3 a1 "com/example/cinderpath/cinderpath/ir/ArrayType" "size" "I" (.int vv) := f4.same W3
  show Go _ _ _ _ (T3.setTop (mkF m 14 #[.val (.ref a1), .val (.ref a2), .val (.int vv)] []))
  exact X3.retV d_prog_43_method_1_14 K0_h3 rfl (by decide) (by decide)
theorem ef_rm_law (m : MethodId) (x0 : Int32) (x1 : Int32) (x2 : Int32) (x3 : Int32) (x4 : Int32) (x5 : Int32) : entryFrame m #[(.int x0), (.int x1), (.int x2), (.int x3), (.int x4), (.int x5)] 15 = mkF m 0 #[.val (.int x0), .val (.int x1), .val (.int x2), .val (.int x3), .val (.int x4), .val (.int x5), .unset, .unset, .unset, .unset, .unset, .unset, .unset, .unset, .unset] [] := by first | (simp [entryFrame, mkF, argsToLocals, Value.category]; done) | rfl
def Q_rm_law (Z : State) (i0 : Int32) (i1 : Int32) (i2 : Int32) (i3 : Int32) (i4 : Int32) (i5 : Int32) (zc : Int32) (sk0 : Addr) (sk1 : Addr) (sk2 : Addr) (sk3 : Addr) (sk4 : Addr) (dd : Addr) (kd : ClassId) (h0 : Heap) (ov : Option Value) (hz : Heap) : Prop := ov = some (.int (1 : Int32))
theorem pd_5 : parseMethodDescriptor "(I)Lcom/example/cinderpath/cinderpath/ir/ScalarType;" = some ⟨[.int], some (.object "com/example/cinderpath/cinderpath/ir/ScalarType")⟩ := by decide +kernel
theorem pd_6 : parseMethodDescriptor "([C)V" = some ⟨[(.array .char)], none⟩ := by decide +kernel
theorem pd_7 : parseMethodDescriptor "(Ljava/lang/String;Lcom/example/cinderpath/cinderpath/ir/ScalarType;Ljava/util/List;Z)V" = some ⟨[(.object "java/lang/String"), (.object "com/example/cinderpath/cinderpath/ir/ScalarType"), (.object "java/util/List"), .boolean], none⟩ := by decide +kernel
theorem pd_8 : parseMethodDescriptor "()Z" = some ⟨[], some .boolean⟩ := by decide +kernel
theorem pd_9 : parseMethodDescriptor "(Ljava/lang/Object;)Z" = some ⟨[(.object "java/lang/Object")], some .boolean⟩ := by decide +kernel
theorem pd_10 : parseMethodDescriptor "(Lcom/example/cinderpath/cinderpath/ir/ScalarType;I)V" = some ⟨[(.object "com/example/cinderpath/cinderpath/ir/ScalarType"), .int], none⟩ := by decide +kernel
set_option maxRecDepth 65536 in
set_option maxHeartbeats 40000000 in
theorem rm_law (l : Launch) (Z : State) (a0 : Array Value) (hw : ∀ d ∈ tables_1, d.before a0 Z = true) (n0 : Nat) (i0 : Int32) (i1 : Int32) (i2 : Int32) (i3 : Int32) (i4 : Int32) (i5 : Int32) (zc : Int32) (sk0 : Addr) (sk1 : Addr) (sk2 : Addr) (sk3 : Addr) (sk4 : Addr) (dd : Addr) (kd : ClassId) (h0 : Heap) (hO : Old Z n0 h0) (Sc : Sta Z Z.heap "java/lang/String" "COMPACT_STRINGS" "Z" (.int zc)) (nc : ¬ (zc = (0 : Int32))) (Sk0 : Sta Z Z.heap "com/example/cinderpath/cinderpath/ir/ScalarType" "VOID" "Lcom/example/cinderpath/cinderpath/ir/ScalarType;" (.ref sk0)) (Sk1 : Sta Z Z.heap "com/example/cinderpath/cinderpath/ir/ScalarType" "INT" "Lcom/example/cinderpath/cinderpath/ir/ScalarType;" (.ref sk1)) (Sk2 : Sta Z Z.heap "com/example/cinderpath/cinderpath/ir/ScalarType" "BOOL" "Lcom/example/cinderpath/cinderpath/ir/ScalarType;" (.ref sk2)) (Sk3 : Sta Z Z.heap "com/example/cinderpath/cinderpath/ir/ScalarType" "FLOAT" "Lcom/example/cinderpath/cinderpath/ir/ScalarType;" (.ref sk3)) (Sk4 : Sta Z Z.heap "com/example/cinderpath/cinderpath/ir/ScalarType" "STRING" "Lcom/example/cinderpath/cinderpath/ir/ScalarType;" (.ref sk4)) (Sd : Sta Z Z.heap "java/util/ArrayList" "DEFAULTCAPACITY_EMPTY_ELEMENTDATA" "[Ljava/lang/Object;" (.ref dd)) (Ad : Arv Z Z.heap dd kd (.object "java/lang/Object") (0 : Int32) [] .null) (Ek0 : Exa Z Z.heap sk0 "com/example/cinderpath/cinderpath/ir/ScalarType") (Ek1 : Exa Z Z.heap sk1 "com/example/cinderpath/cinderpath/ir/ScalarType") (Ek2 : Exa Z Z.heap sk2 "com/example/cinderpath/cinderpath/ir/ScalarType") (Ek3 : Exa Z Z.heap sk3 "com/example/cinderpath/cinderpath/ir/ScalarType") (Ek4 : Exa Z Z.heap sk4 "com/example/cinderpath/cinderpath/ir/ScalarType") (hk1 : sk0 ≠ sk1) (hk2 : sk0 ≠ sk2) (hk3 : sk0 ≠ sk3) (hk4 : sk0 ≠ sk4) :
    Ct l x code maxLocals ret tables_1 room_1 Z n0 #[(.int i0), (.int i1), (.int i2), (.int i3), (.int i4), (.int i5)] h0 [] (Q_rm_law Z i0 i1 i2 i3 i4 i5 zc sk0 sk1 sk2 sk3 sk4 dd kd h0) := by
  refine Ct.of_walk (plainFor_of_name pn_0) hO all0 ?_
  intro p e s m below meth c T0 X0
  show Go _ _ _ _ (T0.setTop (entryFrame m #[(.int i0), (.int i1), (.int i2), (.int i3), (.int i4), (.int i5)] 15))
  rw [ef_rm_law m i0 i1 i2 i3 i4 i5]
  show Go _ _ _ _ (T0.setTop (mkF m 0 #[.val (.int i0), .val (.int i1), .val (.int i2), .val (.int i3), .val (.int i4), .val (.int i5), .unset, .unset, .unset, .unset, .unset, .unset, .unset, .unset, .unset] []))
  have Ek : ∀ v, Exa Z Z.heap (own_pick sk0 sk1 sk2 sk3 sk4 v) "com/example/cinderpath/cinderpath/ir/ScalarType" := fun v => by rcases own_pick_r sk0 sk1 sk2 sk3 sk4 v with z | z | z | z | z <;> rw [z] <;> assumption
  refine Go.by (fun _ k => XS.iloadN X0.here X0.hx rfl (X0.cd at_0) rfl  k) ?_
  show Go _ _ _ _ (T0.setTop (mkF m 1 #[.val (.int i0), .val (.int i1), .val (.int i2), .val (.int i3), .val (.int i4), .val (.int i5), .unset, .unset, .unset, .unset, .unset, .unset, .unset, .unset, .unset] [(.int i0)]))
  obtain ⟨_, T1, h1, X1, K1, ⟨r_1, rfl, rfl, p1_0⟩, st1⟩ := X0.stN (W := 0) (hw _ (List.mem_of_getElem? (i := 0) rfl)) (hw _ (List.mem_of_getElem? (i := 1) rfl)) (hw _ (List.mem_of_getElem? (i := 2) rfl)) (hw _ (List.mem_of_getElem? (i := 3) rfl)) (by decide) ((rm_pick l Z a0 hw n0 i0 sk0 sk1 sk2 sk3 sk4 h0 X0.old Sk0 Sk1 Sk2 Sk3 Sk4).pay (hw _ (List.mem_of_getElem? (i := 3) rfl)) (hw _ (List.mem_of_getElem? (i := 2) rfl)) (by decide) (by decide)) all0 (g := (mkF m 1 #[.val (.int i0), .val (.int i1), .val (.int i2), .val (.int i3), .val (.int i4), .val (.int i5), .unset, .unset, .unset, .unset, .unset, .unset, .unset, .unset, .unset] [(.int i0)])) rfl rfl (argsL := [(.int i0)]) (rest := []) (lenOf pd_5 rfl) rfl (by exact Nat.le_of_eq rfl) at_1 rfl (by decide) (by decide)
  refine Go.tr st1 ?_
  show Go _ _ _ _ (T1.setTop (mkF m 4 #[.val (.int i0), .val (.int i1), .val (.int i2), .val (.int i3), .val (.int i4), .val (.int i5), .unset, .unset, .unset, .unset, .unset, .unset, .unset, .unset, .unset] [(.ref r_1)]))
  refine Go.by (fun _ k => XS.astore X1.here X1.hx rfl (X1.cd at_4) rfl rfl (l' := #[.val (.int i0), .val (.int i1), .val (.int i2), .val (.int i3), .val (.int i4), .val (.int i5), .val (.ref r_1), .unset, .unset, .unset, .unset, .unset, .unset, .unset, .unset]) rfl k) ?_
  show Go _ _ _ _ (T1.setTop (mkF m 6 #[.val (.int i0), .val (.int i1), .val (.int i2), .val (.int i3), .val (.int i4), .val (.int i5), .val (.ref r_1), .unset, .unset, .unset, .unset, .unset, .unset, .unset, .unset] []))
  refine Go.by (fun _ k => XS.iloadN X1.here X1.hx rfl (X1.cd at_6) rfl  k) ?_
  show Go _ _ _ _ (T1.setTop (mkF m 7 #[.val (.int i0), .val (.int i1), .val (.int i2), .val (.int i3), .val (.int i4), .val (.int i5), .val (.ref r_1), .unset, .unset, .unset, .unset, .unset, .unset, .unset, .unset] [(.int i1)]))
  refine Go.by (fun _ k => XS.iconst X1.here X1.hx rfl (X1.cd at_7)  k) ?_
  show Go _ _ _ _ (T1.setTop (mkF m 8 #[.val (.int i0), .val (.int i1), .val (.int i2), .val (.int i3), .val (.int i4), .val (.int i5), .val (.ref r_1), .unset, .unset, .unset, .unset, .unset, .unset, .unset, .unset] [(.int (1 : Int32)), (.int i1)]))
  refine Go.by (fun _ k => XS.iand X1.here X1.hx rfl (X1.cd at_8) rfl k) ?_
  show Go _ _ _ _ (T1.setTop (mkF m 9 #[.val (.int i0), .val (.int i1), .val (.int i2), .val (.int i3), .val (.int i4), .val (.int i5), .val (.ref r_1), .unset, .unset, .unset, .unset, .unset, .unset, .unset, .unset] [(.int (i1 &&& (1 : Int32)))]))
  obtain ⟨r2_0, hr2, st2⟩ : ∃ (r2_0 : Int32), ((((i1 &&& (1 : Int32)) = 0) ∧ r2_0 = (0 : Int32)) ∨ (¬ ((i1 &&& (1 : Int32)) = 0) ∧ r2_0 = (1 : Int32))) ∧ ∀ t, Steps p.tables e below (T1.setTop (mkF m 17 #[.val (.int i0), .val (.int i1), .val (.int i2), .val (.int i3), .val (.int i4), .val (.int i5), .val (.ref r_1), .unset, .unset, .unset, .unset, .unset, .unset, .unset, .unset] [(.int r2_0)])) t → Steps p.tables e below (T1.setTop (mkF m 9 #[.val (.int i0), .val (.int i1), .val (.int i2), .val (.int i3), .val (.int i4), .val (.int i5), .val (.ref r_1), .unset, .unset, .unset, .unset, .unset, .unset, .unset, .unset] [(.int (i1 &&& (1 : Int32)))])) t := by
    by_cases c2_0 : (i1 &&& (1 : Int32)) = 0
    · refine ⟨(0 : Int32), Or.inl ⟨c2_0, rfl⟩, fun t k => ?_⟩
      refine XS.ifYes X1.here X1.hx rfl (pc0 := 9) (pc' := 16) rfl (X1.cd at_9) rfl (XT.i0_eq_t c2_0) (by decide) (by decide) ?_
      show Steps p.tables e below (T1.setTop (mkF m 16 #[.val (.int i0), .val (.int i1), .val (.int i2), .val (.int i3), .val (.int i4), .val (.int i5), .val (.ref r_1), .unset, .unset, .unset, .unset, .unset, .unset, .unset, .unset] [])) t
      refine XS.iconst X1.here X1.hx rfl (X1.cd at_16)  ?_
      show Steps p.tables e below (T1.setTop (mkF m 17 #[.val (.int i0), .val (.int i1), .val (.int i2), .val (.int i3), .val (.int i4), .val (.int i5), .val (.ref r_1), .unset, .unset, .unset, .unset, .unset, .unset, .unset, .unset] [(.int (0 : Int32))])) t
      exact k
    · refine ⟨(1 : Int32), Or.inr (⟨c2_0, rfl⟩), fun t k => ?_⟩
      refine XS.ifNo X1.here X1.hx rfl (X1.cd at_9) rfl (XT.i0_eq_f c2_0) ?_
      show Steps p.tables e below (T1.setTop (mkF m 12 #[.val (.int i0), .val (.int i1), .val (.int i2), .val (.int i3), .val (.int i4), .val (.int i5), .val (.ref r_1), .unset, .unset, .unset, .unset, .unset, .unset, .unset, .unset] [])) t
      refine XS.iconst X1.here X1.hx rfl (X1.cd at_12)  ?_
      show Steps p.tables e below (T1.setTop (mkF m 13 #[.val (.int i0), .val (.int i1), .val (.int i2), .val (.int i3), .val (.int i4), .val (.int i5), .val (.ref r_1), .unset, .unset, .unset, .unset, .unset, .unset, .unset, .unset] [(.int (1 : Int32))])) t
      refine XS.goto X1.here X1.hx rfl (pc0 := 13) (pc' := 17) rfl (X1.cd at_13) (by decide) (by decide) ?_
      show Steps p.tables e below (T1.setTop (mkF m 17 #[.val (.int i0), .val (.int i1), .val (.int i2), .val (.int i3), .val (.int i4), .val (.int i5), .val (.ref r_1), .unset, .unset, .unset, .unset, .unset, .unset, .unset, .unset] [(.int (1 : Int32))])) t
      exact k
  refine Go.by (fun _ k => st2 _ k) ?_
  show Go _ _ _ _ (T1.setTop (mkF m 17 #[.val (.int i0), .val (.int i1), .val (.int i2), .val (.int i3), .val (.int i4), .val (.int i5), .val (.ref r_1), .unset, .unset, .unset, .unset, .unset, .unset, .unset, .unset] [(.int r2_0)]))
  refine Go.by (fun _ k => XS.istore X1.here X1.hx rfl (X1.cd at_17) rfl (l' := #[.val (.int i0), .val (.int i1), .val (.int i2), .val (.int i3), .val (.int i4), .val (.int i5), .val (.ref r_1), .val (.int r2_0), .unset, .unset, .unset, .unset, .unset, .unset, .unset]) rfl k) ?_
  show Go _ _ _ _ (T1.setTop (mkF m 19 #[.val (.int i0), .val (.int i1), .val (.int i2), .val (.int i3), .val (.int i4), .val (.int i5), .val (.ref r_1), .val (.int r2_0), .unset, .unset, .unset, .unset, .unset, .unset, .unset] []))
  refine Go.by (fun _ k => XS.iconst X1.here X1.hx rfl (X1.cd at_19)  k) ?_
  show Go _ _ _ _ (T1.setTop (mkF m 20 #[.val (.int i0), .val (.int i1), .val (.int i2), .val (.int i3), .val (.int i4), .val (.int i5), .val (.ref r_1), .val (.int r2_0), .unset, .unset, .unset, .unset, .unset, .unset, .unset] [(.int (2 : Int32))]))
  obtain ⟨T3, h3, b3, k3, g_b3, X3, E3, A3, st3⟩ := X1.newP (hw _ (List.mem_of_getElem? (i := 8) rfl)) (g := (mkF m 20 #[.val (.int i0), .val (.int i1), .val (.int i2), .val (.int i3), .val (.int i4), .val (.int i5), .val (.ref r_1), .val (.int r2_0), .unset, .unset, .unset, .unset, .unset, .unset, .unset] [(.int (2 : Int32))])) rfl at_20 rfl (by decide) (cap := 2) (by decide) (by decide) (by decide) (by decide) (vs := [(.int (0 : Int32)), (.int (0 : Int32))]) rfl
  refine Go.by st3 ?_
  have sz_b3 : h0.size ≤ b3 := Nat.le_trans X1.sz (Nat.le_of_eq g_b3.symm)
  have K0_h3 : Keep h0 h3 [] := (Keep.refl h0 []).ext E3
  have F3 : Arv Z h3 b3 k3 .char (2 : Int32) [(.int (0 : Int32)), (.int (0 : Int32))] (.int (0 : Int32)) := A3
  show Go _ _ _ _ (T3.setTop (mkF m 22 #[.val (.int i0), .val (.int i1), .val (.int i2), .val (.int i3), .val (.int i4), .val (.int i5), .val (.ref r_1), .val (.int r2_0), .unset, .unset, .unset, .unset, .unset, .unset, .unset] [(.ref b3)]))
  refine Go.by (fun _ k => XS.astore X3.here X3.hx rfl (X3.cd at_22) rfl rfl (l' := #[.val (.int i0), .val (.int i1), .val (.int i2), .val (.int i3), .val (.int i4), .val (.int i5), .val (.ref r_1), .val (.int r2_0), .val (.ref b3), .unset, .unset, .unset, .unset, .unset, .unset]) rfl k) ?_
  show Go _ _ _ _ (T3.setTop (mkF m 24 #[.val (.int i0), .val (.int i1), .val (.int i2), .val (.int i3), .val (.int i4), .val (.int i5), .val (.ref r_1), .val (.int r2_0), .val (.ref b3), .unset, .unset, .unset, .unset, .unset, .unset] []))
  refine Go.by (fun _ k => XS.aload X3.here X3.hx rfl (X3.cd at_24) rfl rfl k) ?_
  show Go _ _ _ _ (T3.setTop (mkF m 26 #[.val (.int i0), .val (.int i1), .val (.int i2), .val (.int i3), .val (.int i4), .val (.int i5), .val (.ref r_1), .val (.int r2_0), .val (.ref b3), .unset, .unset, .unset, .unset, .unset, .unset] [(.ref b3)]))
  refine Go.by (fun _ k => XS.iconst X3.here X3.hx rfl (X3.cd at_26)  k) ?_
  show Go _ _ _ _ (T3.setTop (mkF m 27 #[.val (.int i0), .val (.int i1), .val (.int i2), .val (.int i3), .val (.int i4), .val (.int i5), .val (.ref r_1), .val (.int r2_0), .val (.ref b3), .unset, .unset, .unset, .unset, .unset, .unset] [(.int (0 : Int32)), (.ref b3)]))
  refine Go.by (fun _ k => XS.iloadN X3.here X3.hx rfl (X3.cd at_27) rfl  k) ?_
  show Go _ _ _ _ (T3.setTop (mkF m 28 #[.val (.int i0), .val (.int i1), .val (.int i2), .val (.int i3), .val (.int i4), .val (.int i5), .val (.ref r_1), .val (.int r2_0), .val (.ref b3), .unset, .unset, .unset, .unset, .unset, .unset] [(.int i2), (.int (0 : Int32)), (.ref b3)]))
  refine Go.by (fun _ k => XS.sipush X3.here X3.hx rfl (X3.cd at_28)  k) ?_
  show Go _ _ _ _ (T3.setTop (mkF m 31 #[.val (.int i0), .val (.int i1), .val (.int i2), .val (.int i3), .val (.int i4), .val (.int i5), .val (.ref r_1), .val (.int r2_0), .val (.ref b3), .unset, .unset, .unset, .unset, .unset, .unset] [(.int (255 : Int32)), (.int i2), (.int (0 : Int32)), (.ref b3)]))
  refine Go.by (fun _ k => XS.iand X3.here X3.hx rfl (X3.cd at_31) rfl k) ?_
  show Go _ _ _ _ (T3.setTop (mkF m 32 #[.val (.int i0), .val (.int i1), .val (.int i2), .val (.int i3), .val (.int i4), .val (.int i5), .val (.ref r_1), .val (.int r2_0), .val (.ref b3), .unset, .unset, .unset, .unset, .unset, .unset] [(.int (i2 &&& (255 : Int32))), (.int (0 : Int32)), (.ref b3)]))
  refine Go.by (fun _ k => XS.i2c X3.here X3.hx rfl (X3.cd at_32) rfl k) ?_
  show Go _ _ _ _ (T3.setTop (mkF m 33 #[.val (.int i0), .val (.int i1), .val (.int i2), .val (.int i3), .val (.int i4), .val (.int i5), .val (.ref r_1), .val (.int r2_0), .val (.ref b3), .unset, .unset, .unset, .unset, .unset, .unset] [(.int (((i2 &&& (255 : Int32))).toUInt32.toUInt16.toUInt32.toInt32)), (.int (0 : Int32)), (.ref b3)]))
  obtain ⟨T4, h4, X4, W4, A4, st4⟩ := X3.stC (x' := (((i2 &&& (255 : Int32))).toUInt32.toUInt16.toUInt32.toInt32)) F3 (.head _) ⟨by decide, by decide⟩ (i := 0) rfl (Nat.le_of_ble_eq_true rfl) (nar_i2c _) (vs' := [(.int (((i2 &&& (255 : Int32))).toUInt32.toUInt16.toUInt32.toInt32)), (.int (0 : Int32))]) rfl (g := (mkF m 33 #[.val (.int i0), .val (.int i1), .val (.int i2), .val (.int i3), .val (.int i4), .val (.int i5), .val (.ref r_1), .val (.int r2_0), .val (.ref b3), .unset, .unset, .unset, .unset, .unset, .unset] [(.int (((i2 &&& (255 : Int32))).toUInt32.toUInt16.toUInt32.toInt32)), (.int (0 : Int32)), (.ref b3)])) rfl rfl at_33
  refine Go.by st4 ?_
  have K0_h4 : Keep h0 h4 [] := K0_h3.trans W4 (allS (Or.inr sz_b3) all0)
  show Go _ _ _ _ (T4.setTop (mkF m 34 #[.val (.int i0), .val (.int i1), .val (.int i2), .val (.int i3), .val (.int i4), .val (.int i5), .val (.ref r_1), .val (.int r2_0), .val (.ref b3), .unset, .unset, .unset, .unset, .unset, .unset] []))
  refine Go.by (fun _ k => XS.aload X4.here X4.hx rfl (X4.cd at_34) rfl rfl k) ?_
  show Go _ _ _ _ (T4.setTop (mkF m 36 #[.val (.int i0), .val (.int i1), .val (.int i2), .val (.int i3), .val (.int i4), .val (.int i5), .val (.ref r_1), .val (.int r2_0), .val (.ref b3), .unset, .unset, .unset, .unset, .unset, .unset] [(.ref b3)]))
  refine Go.by (fun _ k => XS.iconst X4.here X4.hx rfl (X4.cd at_36)  k) ?_
  show Go _ _ _ _ (T4.setTop (mkF m 37 #[.val (.int i0), .val (.int i1), .val (.int i2), .val (.int i3), .val (.int i4), .val (.int i5), .val (.ref r_1), .val (.int r2_0), .val (.ref b3), .unset, .unset, .unset, .unset, .unset, .unset] [(.int (1 : Int32)), (.ref b3)]))
  refine Go.by (fun _ k => XS.iloadN X4.here X4.hx rfl (X4.cd at_37) rfl  k) ?_
  show Go _ _ _ _ (T4.setTop (mkF m 38 #[.val (.int i0), .val (.int i1), .val (.int i2), .val (.int i3), .val (.int i4), .val (.int i5), .val (.ref r_1), .val (.int r2_0), .val (.ref b3), .unset, .unset, .unset, .unset, .unset, .unset] [(.int i3), (.int (1 : Int32)), (.ref b3)]))
  refine Go.by (fun _ k => XS.sipush X4.here X4.hx rfl (X4.cd at_38)  k) ?_
  show Go _ _ _ _ (T4.setTop (mkF m 41 #[.val (.int i0), .val (.int i1), .val (.int i2), .val (.int i3), .val (.int i4), .val (.int i5), .val (.ref r_1), .val (.int r2_0), .val (.ref b3), .unset, .unset, .unset, .unset, .unset, .unset] [(.int (255 : Int32)), (.int i3), (.int (1 : Int32)), (.ref b3)]))
  refine Go.by (fun _ k => XS.iand X4.here X4.hx rfl (X4.cd at_41) rfl k) ?_
  show Go _ _ _ _ (T4.setTop (mkF m 42 #[.val (.int i0), .val (.int i1), .val (.int i2), .val (.int i3), .val (.int i4), .val (.int i5), .val (.ref r_1), .val (.int r2_0), .val (.ref b3), .unset, .unset, .unset, .unset, .unset, .unset] [(.int (i3 &&& (255 : Int32))), (.int (1 : Int32)), (.ref b3)]))
  refine Go.by (fun _ k => XS.i2c X4.here X4.hx rfl (X4.cd at_42) rfl k) ?_
  show Go _ _ _ _ (T4.setTop (mkF m 43 #[.val (.int i0), .val (.int i1), .val (.int i2), .val (.int i3), .val (.int i4), .val (.int i5), .val (.ref r_1), .val (.int r2_0), .val (.ref b3), .unset, .unset, .unset, .unset, .unset, .unset] [(.int (((i3 &&& (255 : Int32))).toUInt32.toUInt16.toUInt32.toInt32)), (.int (1 : Int32)), (.ref b3)]))
  obtain ⟨T5, h5, X5, W5, A5, st5⟩ := X4.stC (x' := (((i3 &&& (255 : Int32))).toUInt32.toUInt16.toUInt32.toInt32)) A4 (.head _) ⟨by decide, by decide⟩ (i := 1) rfl (Nat.le_of_ble_eq_true rfl) (nar_i2c _) (vs' := [(.int (((i2 &&& (255 : Int32))).toUInt32.toUInt16.toUInt32.toInt32)), (.int (((i3 &&& (255 : Int32))).toUInt32.toUInt16.toUInt32.toInt32))]) rfl (g := (mkF m 43 #[.val (.int i0), .val (.int i1), .val (.int i2), .val (.int i3), .val (.int i4), .val (.int i5), .val (.ref r_1), .val (.int r2_0), .val (.ref b3), .unset, .unset, .unset, .unset, .unset, .unset] [(.int (((i3 &&& (255 : Int32))).toUInt32.toUInt16.toUInt32.toInt32)), (.int (1 : Int32)), (.ref b3)])) rfl rfl at_43
  refine Go.by st5 ?_
  have K0_h5 : Keep h0 h5 [] := K0_h4.trans W5 (allS (Or.inr sz_b3) all0)
  show Go _ _ _ _ (T5.setTop (mkF m 44 #[.val (.int i0), .val (.int i1), .val (.int i2), .val (.int i3), .val (.int i4), .val (.int i5), .val (.ref r_1), .val (.int r2_0), .val (.ref b3), .unset, .unset, .unset, .unset, .unset, .unset] []))
  have lt_b3_6 := (X5.lt (.head _))
  obtain ⟨T6, h6, b6, g_b6, X6, E6, A6, D6, st6⟩ := X5.new (hw _ (List.mem_of_getElem? (i := 9) rfl)) (hw _ (List.mem_of_getElem? (i := 10) rfl)) (hw _ (List.mem_of_getElem? (i := 11) rfl)) (g := (mkF m 44 #[.val (.int i0), .val (.int i1), .val (.int i2), .val (.int i3), .val (.int i4), .val (.int i5), .val (.ref r_1), .val (.int r2_0), .val (.ref b3), .unset, .unset, .unset, .unset, .unset, .unset] [])) rfl at_44 (by decide) (by decide)
  refine Go.by st6 ?_
  have ne_b3_b6 : b3 ≠ b6 := ne_new lt_b3_6 g_b6
  have sz_b6 : h0.size ≤ b6 := Nat.le_trans X5.sz (Nat.le_of_eq g_b6.symm)
  have K0_h6 : Keep h0 h6 [] := K0_h5.ext E6
  have F6_coder : Fld Z h6 b6 "java/lang/String" "coder" "B" (.int (0 : Int32)) := D6 (Or.inr (hw _ (List.mem_of_getElem? (i := 35) rfl))) (ty := .byte) (by decide)
  have F6_value : Fld Z h6 b6 "java/lang/String" "value" "[B" .null := D6 (Or.inr (hw _ (List.mem_of_getElem? (i := 37) rfl))) (ty := (.array .byte)) (by decide)
  show Go _ _ _ _ (T6.setTop (mkF m 47 #[.val (.int i0), .val (.int i1), .val (.int i2), .val (.int i3), .val (.int i4), .val (.int i5), .val (.ref r_1), .val (.int r2_0), .val (.ref b3), .unset, .unset, .unset, .unset, .unset, .unset] [(.ref b6)]))
  refine Go.by (fun _ k => XS.dup X6.here X6.hx rfl (X6.cd at_47) rfl rfl k) ?_
  show Go _ _ _ _ (T6.setTop (mkF m 48 #[.val (.int i0), .val (.int i1), .val (.int i2), .val (.int i3), .val (.int i4), .val (.int i5), .val (.ref r_1), .val (.int r2_0), .val (.ref b3), .unset, .unset, .unset, .unset, .unset, .unset] [(.ref b6), (.ref b6)]))
  refine Go.by (fun _ k => XS.aload X6.here X6.hx rfl (X6.cd at_48) rfl rfl k) ?_
  show Go _ _ _ _ (T6.setTop (mkF m 50 #[.val (.int i0), .val (.int i1), .val (.int i2), .val (.int i3), .val (.int i4), .val (.int i5), .val (.ref r_1), .val (.int r2_0), .val (.ref b3), .unset, .unset, .unset, .unset, .unset, .unset] [(.ref b3), (.ref b6), (.ref b6)]))
  have f7 : Arv Z h6 b3 k3 .char (2 : Int32) [(.int (((i2 &&& (255 : Int32))).toUInt32.toUInt16.toUInt32.toInt32)), (.int (((i3 &&& (255 : Int32))).toUInt32.toUInt16.toUInt32.toInt32))] (.int (0 : Int32)) := A5.ext E6
  have lt_b3_8 := (X6.lt (.tail _ (.head _)))
  have lt_b6_8 := (X6.lt (.head _))
  obtain ⟨_, T8, h8, X8, K8, ⟨t_8, rfl, fr_t_8, fl_t_8, P8_0⟩, st8⟩ := X6.spN (W := 1) rfl (hw _ (List.mem_of_getElem? (i := 12) rfl)) (hw _ (List.mem_of_getElem? (i := 13) rfl)) (hw _ (List.mem_of_getElem? (i := 14) rfl)) (by decide) (payNew (fun d hd => hw d ((by decide +kernel : ∀ d ∈ StrChars.Road.words, d ∈ tables_1) d hd)) (hw _ (List.mem_of_getElem? (i := 10) rfl)) (cs := [(((i2 &&& (255 : Int32))).toUInt32.toUInt16.toUInt32.toInt32), (((i3 &&& (255 : Int32))).toUInt32.toUInt16.toUInt32.toInt32)]) (n := 2) X6.old (X6.ge (.head _)) A6 F6_value F6_coder f7 Sc nc rfl rfl (by decide) (by decide) (all1 (c255 _) (all1 (c255 _) alln)) (by decide) (by decide)) (allS (.head _) all0) (g := (mkF m 50 #[.val (.int i0), .val (.int i1), .val (.int i2), .val (.int i3), .val (.int i4), .val (.int i5), .val (.ref r_1), .val (.int r2_0), .val (.ref b3), .unset, .unset, .unset, .unset, .unset, .unset] [(.ref b3), (.ref b6), (.ref b6)])) rfl rfl (a := b6) (argsL := [(.ref b3)]) (rest := [(.ref b6)]) (lenOf pd_6 rfl) rfl (by exact Nat.le_of_eq rfl) at_50 rfl (by decide) (by decide)
  refine Go.tr st8 ?_
  have K0_h8 : Keep h0 h8 [] := K0_h6.trans K8 (allS (Or.inr sz_b6) all0)
  have ne_b3_t_8 : b3 ≠ t_8 := ne_ge lt_b3_8 fr_t_8
  have ne_b6_t_8 : b6 ≠ t_8 := ne_ge lt_b6_8 fr_t_8
  have sz_t_8 : h0.size ≤ t_8 := Nat.le_trans X6.sz fr_t_8
  show Go _ _ _ _ (T8.setTop (mkF m 53 #[.val (.int i0), .val (.int i1), .val (.int i2), .val (.int i3), .val (.int i4), .val (.int i5), .val (.ref r_1), .val (.int r2_0), .val (.ref b3), .unset, .unset, .unset, .unset, .unset, .unset] [(.ref b6)]))
  refine Go.by (fun _ k => XS.astore X8.here X8.hx rfl (X8.cd at_53) rfl rfl (l' := #[.val (.int i0), .val (.int i1), .val (.int i2), .val (.int i3), .val (.int i4), .val (.int i5), .val (.ref r_1), .val (.int r2_0), .val (.ref b3), .val (.ref b6), .unset, .unset, .unset, .unset, .unset]) rfl k) ?_
  show Go _ _ _ _ (T8.setTop (mkF m 55 #[.val (.int i0), .val (.int i1), .val (.int i2), .val (.int i3), .val (.int i4), .val (.int i5), .val (.ref r_1), .val (.int r2_0), .val (.ref b3), .val (.ref b6), .unset, .unset, .unset, .unset, .unset] []))
  refine Go.by (fun _ k => XS.iloadN X8.here X8.hx rfl (X8.cd at_55) rfl  k) ?_
  show Go _ _ _ _ (T8.setTop (mkF m 56 #[.val (.int i0), .val (.int i1), .val (.int i2), .val (.int i3), .val (.int i4), .val (.int i5), .val (.ref r_1), .val (.int r2_0), .val (.ref b3), .val (.ref b6), .unset, .unset, .unset, .unset, .unset] [(.int i1)]))
  refine Go.by (fun _ k => XS.iconst X8.here X8.hx rfl (X8.cd at_56)  k) ?_
  show Go _ _ _ _ (T8.setTop (mkF m 57 #[.val (.int i0), .val (.int i1), .val (.int i2), .val (.int i3), .val (.int i4), .val (.int i5), .val (.ref r_1), .val (.int r2_0), .val (.ref b3), .val (.ref b6), .unset, .unset, .unset, .unset, .unset] [(.int (1 : Int32)), (.int i1)]))
  refine Go.by (fun _ k => XS.iushr X8.here X8.hx rfl (X8.cd at_57) rfl k) ?_
  show Go _ _ _ _ (T8.setTop (mkF m 58 #[.val (.int i0), .val (.int i1), .val (.int i2), .val (.int i3), .val (.int i4), .val (.int i5), .val (.ref r_1), .val (.int r2_0), .val (.ref b3), .val (.ref b6), .unset, .unset, .unset, .unset, .unset] [(.int (XT.ushr i1 (1 : Int32)))]))
  refine Go.by (fun _ k => XS.iconst X8.here X8.hx rfl (X8.cd at_58)  k) ?_
  show Go _ _ _ _ (T8.setTop (mkF m 59 #[.val (.int i0), .val (.int i1), .val (.int i2), .val (.int i3), .val (.int i4), .val (.int i5), .val (.ref r_1), .val (.int r2_0), .val (.ref b3), .val (.ref b6), .unset, .unset, .unset, .unset, .unset] [(.int (3 : Int32)), (.int (XT.ushr i1 (1 : Int32)))]))
  refine Go.by (fun _ k => XS.iand X8.here X8.hx rfl (X8.cd at_59) rfl k) ?_
  show Go _ _ _ _ (T8.setTop (mkF m 60 #[.val (.int i0), .val (.int i1), .val (.int i2), .val (.int i3), .val (.int i4), .val (.int i5), .val (.ref r_1), .val (.int r2_0), .val (.ref b3), .val (.ref b6), .unset, .unset, .unset, .unset, .unset] [(.int ((XT.ushr i1 (1 : Int32)) &&& (3 : Int32)))]))
  refine Go.by (fun _ k => XS.istore X8.here X8.hx rfl (X8.cd at_60) rfl (l' := #[.val (.int i0), .val (.int i1), .val (.int i2), .val (.int i3), .val (.int i4), .val (.int i5), .val (.ref r_1), .val (.int r2_0), .val (.ref b3), .val (.ref b6), .val (.int ((XT.ushr i1 (1 : Int32)) &&& (3 : Int32))), .unset, .unset, .unset, .unset]) rfl k) ?_
  show Go _ _ _ _ (T8.setTop (mkF m 62 #[.val (.int i0), .val (.int i1), .val (.int i2), .val (.int i3), .val (.int i4), .val (.int i5), .val (.ref r_1), .val (.int r2_0), .val (.ref b3), .val (.ref b6), .val (.int ((XT.ushr i1 (1 : Int32)) &&& (3 : Int32))), .unset, .unset, .unset, .unset] []))
  have lt_b3_9 := (X8.lt (.tail _ (.head _)))
  have lt_b6_9 := (X8.lt (.head _))
  have lt_t_8_9 := P8_0.ltT
  obtain ⟨T9, h9, b9, g_b9, X9, E9, A9, D9, st9⟩ := X8.new (hw _ (List.mem_of_getElem? (i := 38) rfl)) (hw _ (List.mem_of_getElem? (i := 39) rfl)) (hw _ (List.mem_of_getElem? (i := 40) rfl)) (g := (mkF m 62 #[.val (.int i0), .val (.int i1), .val (.int i2), .val (.int i3), .val (.int i4), .val (.int i5), .val (.ref r_1), .val (.int r2_0), .val (.ref b3), .val (.ref b6), .val (.int ((XT.ushr i1 (1 : Int32)) &&& (3 : Int32))), .unset, .unset, .unset, .unset] [])) rfl at_62 (by decide) (by decide)
  refine Go.by st9 ?_
  have ne_b3_b9 : b3 ≠ b9 := ne_new lt_b3_9 g_b9
  have ne_b6_b9 : b6 ≠ b9 := ne_new lt_b6_9 g_b9
  have ne_t_8_b9 : t_8 ≠ b9 := ne_new lt_t_8_9 g_b9
  have sz_b9 : h0.size ≤ b9 := Nat.le_trans X8.sz (Nat.le_of_eq g_b9.symm)
  have K0_h9 : Keep h0 h9 [] := K0_h8.ext E9
  have F9_modCount : Fld Z h9 b9 "java/util/AbstractList" "modCount" "I" (.int (0 : Int32)) := D9 (Or.inl (hw _ (List.mem_of_getElem? (i := 58) rfl))) (ty := .int) (by decide)
  have F9_elementData : Fld Z h9 b9 "java/util/ArrayList" "elementData" "[Ljava/lang/Object;" .null := D9 (Or.inl (hw _ (List.mem_of_getElem? (i := 61) rfl))) (ty := (.array (.object "java/lang/Object"))) (by decide)
  have F9_size : Fld Z h9 b9 "java/util/ArrayList" "size" "I" (.int (0 : Int32)) := D9 (Or.inl (hw _ (List.mem_of_getElem? (i := 74) rfl))) (ty := .int) (by decide)
  show Go _ _ _ _ (T9.setTop (mkF m 65 #[.val (.int i0), .val (.int i1), .val (.int i2), .val (.int i3), .val (.int i4), .val (.int i5), .val (.ref r_1), .val (.int r2_0), .val (.ref b3), .val (.ref b6), .val (.int ((XT.ushr i1 (1 : Int32)) &&& (3 : Int32))), .unset, .unset, .unset, .unset] [(.ref b9)]))
  refine Go.by (fun _ k => XS.dup X9.here X9.hx rfl (X9.cd at_65) rfl rfl k) ?_
  show Go _ _ _ _ (T9.setTop (mkF m 66 #[.val (.int i0), .val (.int i1), .val (.int i2), .val (.int i3), .val (.int i4), .val (.int i5), .val (.ref r_1), .val (.int r2_0), .val (.ref b3), .val (.ref b6), .val (.int ((XT.ushr i1 (1 : Int32)) &&& (3 : Int32))), .unset, .unset, .unset, .unset] [(.ref b9), (.ref b9)]))
  obtain ⟨_, T10, h10, X10, K10, ⟨rfl, P10_0, P10_1, P10_2⟩, st10⟩ := X9.spN (W := 1) rfl (hw _ (List.mem_of_getElem? (i := 41) rfl)) (hw _ (List.mem_of_getElem? (i := 42) rfl)) (hw _ (List.mem_of_getElem? (i := 43) rfl)) (by decide) ((rm_ali l Z a0 hw n0 b9 (.int (0 : Int32)) .null dd kd h9 X9.old A9 F9_modCount F9_elementData F9_size Sd Ad (X9.ge (.head _)) (X9.lt (.head _))).pay (hw _ (List.mem_of_getElem? (i := 43) rfl)) (hw _ (List.mem_of_getElem? (i := 40) rfl)) (by decide) (by decide)) (allS (.head _) all0) (g := (mkF m 66 #[.val (.int i0), .val (.int i1), .val (.int i2), .val (.int i3), .val (.int i4), .val (.int i5), .val (.ref r_1), .val (.int r2_0), .val (.ref b3), .val (.ref b6), .val (.int ((XT.ushr i1 (1 : Int32)) &&& (3 : Int32))), .unset, .unset, .unset, .unset] [(.ref b9), (.ref b9)])) rfl rfl (a := b9) (argsL := []) (rest := [(.ref b9)]) (lenOf pd_0 rfl) rfl (by exact Nat.le_of_eq rfl) at_66 rfl (by decide) (by decide)
  refine Go.tr st10 ?_
  have K0_h10 : Keep h0 h10 [] := K0_h9.trans K10 (allS (Or.inr sz_b9) all0)
  show Go _ _ _ _ (T10.setTop (mkF m 69 #[.val (.int i0), .val (.int i1), .val (.int i2), .val (.int i3), .val (.int i4), .val (.int i5), .val (.ref r_1), .val (.int r2_0), .val (.ref b3), .val (.ref b6), .val (.int ((XT.ushr i1 (1 : Int32)) &&& (3 : Int32))), .unset, .unset, .unset, .unset] [(.ref b9)]))
  refine Go.by (fun _ k => XS.astore X10.here X10.hx rfl (X10.cd at_69) rfl rfl (l' := #[.val (.int i0), .val (.int i1), .val (.int i2), .val (.int i3), .val (.int i4), .val (.int i5), .val (.ref r_1), .val (.int r2_0), .val (.ref b3), .val (.ref b6), .val (.int ((XT.ushr i1 (1 : Int32)) &&& (3 : Int32))), .val (.ref b9), .unset, .unset, .unset]) rfl k) ?_
  show Go _ _ _ _ (T10.setTop (mkF m 71 #[.val (.int i0), .val (.int i1), .val (.int i2), .val (.int i3), .val (.int i4), .val (.int i5), .val (.ref r_1), .val (.int r2_0), .val (.ref b3), .val (.ref b6), .val (.int ((XT.ushr i1 (1 : Int32)) &&& (3 : Int32))), .val (.ref b9), .unset, .unset, .unset] []))
  refine Go.by (fun _ k => XS.iload X10.here X10.hx rfl (X10.cd at_71) rfl  k) ?_
  show Go _ _ _ _ (T10.setTop (mkF m 73 #[.val (.int i0), .val (.int i1), .val (.int i2), .val (.int i3), .val (.int i4), .val (.int i5), .val (.ref r_1), .val (.int r2_0), .val (.ref b3), .val (.ref b6), .val (.int ((XT.ushr i1 (1 : Int32)) &&& (3 : Int32))), .val (.ref b9), .unset, .unset, .unset] [(.int ((XT.ushr i1 (1 : Int32)) &&& (3 : Int32)))]))
  refine Go.by (fun _ k => XS.iconst X10.here X10.hx rfl (X10.cd at_73)  k) ?_
  show Go _ _ _ _ (T10.setTop (mkF m 74 #[.val (.int i0), .val (.int i1), .val (.int i2), .val (.int i3), .val (.int i4), .val (.int i5), .val (.ref r_1), .val (.int r2_0), .val (.ref b3), .val (.ref b6), .val (.int ((XT.ushr i1 (1 : Int32)) &&& (3 : Int32))), .val (.ref b9), .unset, .unset, .unset] [(.int (1 : Int32)), (.int ((XT.ushr i1 (1 : Int32)) &&& (3 : Int32)))]))
  have hb2 : r2_0 = 0 ∨ r2_0 = 1 := by rcases hr2 with ⟨_, q⟩ | ⟨_, q⟩ <;> first | exact Or.inl q | exact Or.inr q
  by_cases cn : ((XT.ushr i1 (1 : Int32)) &&& (3 : Int32)) < (1 : Int32)
  · refine Go.by (fun _ k => XS.icmpYes X10.here X10.hx rfl (pc0 := 74) (pc' := 90) rfl (X10.cd at_74) rfl (XT.ii_lt_t cn) (by decide) (by decide) k) ?_
    show Go _ _ _ _ (T10.setTop (mkF m 90 #[.val (.int i0), .val (.int i1), .val (.int i2), .val (.int i3), .val (.int i4), .val (.int i5), .val (.ref r_1), .val (.int r2_0), .val (.ref b3), .val (.ref b6), .val (.int ((XT.ushr i1 (1 : Int32)) &&& (3 : Int32))), .val (.ref b9), .unset, .unset, .unset] []))
    refine Go.by (fun _ k => XS.iload X10.here X10.hx rfl (X10.cd at_90) rfl  k) ?_
    show Go _ _ _ _ (T10.setTop (mkF m 92 #[.val (.int i0), .val (.int i1), .val (.int i2), .val (.int i3), .val (.int i4), .val (.int i5), .val (.ref r_1), .val (.int r2_0), .val (.ref b3), .val (.ref b6), .val (.int ((XT.ushr i1 (1 : Int32)) &&& (3 : Int32))), .val (.ref b9), .unset, .unset, .unset] [(.int ((XT.ushr i1 (1 : Int32)) &&& (3 : Int32)))]))
    refine Go.by (fun _ k => XS.iconst X10.here X10.hx rfl (X10.cd at_92)  k) ?_
    show Go _ _ _ _ (T10.setTop (mkF m 93 #[.val (.int i0), .val (.int i1), .val (.int i2), .val (.int i3), .val (.int i4), .val (.int i5), .val (.ref r_1), .val (.int r2_0), .val (.ref b3), .val (.ref b6), .val (.int ((XT.ushr i1 (1 : Int32)) &&& (3 : Int32))), .val (.ref b9), .unset, .unset, .unset] [(.int (2 : Int32)), (.int ((XT.ushr i1 (1 : Int32)) &&& (3 : Int32)))]))
    refine Go.by (fun _ k => XS.icmpYes X10.here X10.hx rfl (pc0 := 93) (pc' := 118) rfl (X10.cd at_93) rfl (XT.ii_lt_t (own_lt12 cn)) (by decide) (by decide) k) ?_
    show Go _ _ _ _ (T10.setTop (mkF m 118 #[.val (.int i0), .val (.int i1), .val (.int i2), .val (.int i3), .val (.int i4), .val (.int i5), .val (.ref r_1), .val (.int r2_0), .val (.ref b3), .val (.ref b6), .val (.int ((XT.ushr i1 (1 : Int32)) &&& (3 : Int32))), .val (.ref b9), .unset, .unset, .unset] []))
    have f12 : Str Z h10 b6 t_8 [(((i2 &&& (255 : Int32))).toUInt32.toUInt16.toUInt32.toInt32), (((i3 &&& (255 : Int32))).toUInt32.toUInt16.toUInt32.toInt32)] := (P8_0.ext E9).keep K10 (ninS ne_b6_b9 nin0) (ninS ne_t_8_b9 nin0)
    have lt_b3_11 := (X10.lt (.tail _ (.tail _ (.head _))))
    have lt_b6_11 := (X10.lt (.tail _ (.head _)))
    have lt_t_8_11 := f12.ltT
    have lt_b9_11 := (X10.lt (.head _))
    obtain ⟨T11, h11, b11, g_b11, X11, E11, A11, D11, st11⟩ := X10.new (hw _ (List.mem_of_getElem? (i := 97) rfl)) (hw _ (List.mem_of_getElem? (i := 98) rfl)) (hw _ (List.mem_of_getElem? (i := 99) rfl)) (g := (mkF m 118 #[.val (.int i0), .val (.int i1), .val (.int i2), .val (.int i3), .val (.int i4), .val (.int i5), .val (.ref r_1), .val (.int r2_0), .val (.ref b3), .val (.ref b6), .val (.int ((XT.ushr i1 (1 : Int32)) &&& (3 : Int32))), .val (.ref b9), .unset, .unset, .unset] [])) rfl at_118 (by decide) (by decide)
    refine Go.by st11 ?_
    have ne_b3_b11 : b3 ≠ b11 := ne_new lt_b3_11 g_b11
    have ne_b6_b11 : b6 ≠ b11 := ne_new lt_b6_11 g_b11
    have ne_t_8_b11 : t_8 ≠ b11 := ne_new lt_t_8_11 g_b11
    have ne_b9_b11 : b9 ≠ b11 := ne_new lt_b9_11 g_b11
    have sz_b11 : h0.size ≤ b11 := Nat.le_trans X10.sz (Nat.le_of_eq g_b11.symm)
    have K0_h11 : Keep h0 h11 [] := K0_h10.ext E11
    have F11_name : Fld Z h11 b11 "com/example/cinderpath/cinderpath/ir/Signature" "name" "Ljava/lang/String;" .null := D11 (Or.inr (hw _ (List.mem_of_getElem? (i := 110) rfl))) (ty := (.object "java/lang/String")) (by decide)
    have F11_result : Fld Z h11 b11 "com/example/cinderpath/cinderpath/ir/Signature" "result" "Lcom/example/cinderpath/cinderpath/ir/ScalarType;" .null := D11 (Or.inr (hw _ (List.mem_of_getElem? (i := 112) rfl))) (ty := (.object "com/example/cinderpath/cinderpath/ir/ScalarType")) (by decide)
    have F11_parameters : Fld Z h11 b11 "com/example/cinderpath/cinderpath/ir/Signature" "parameters" "Ljava/util/List;" .null := D11 (Or.inr (hw _ (List.mem_of_getElem? (i := 114) rfl))) (ty := (.object "java/util/List")) (by decide)
    have F11_builtin : Fld Z h11 b11 "com/example/cinderpath/cinderpath/ir/Signature" "builtin" "Z" (.int (0 : Int32)) := D11 (Or.inr (hw _ (List.mem_of_getElem? (i := 116) rfl))) (ty := .boolean) (by decide)
    show Go _ _ _ _ (T11.setTop (mkF m 121 #[.val (.int i0), .val (.int i1), .val (.int i2), .val (.int i3), .val (.int i4), .val (.int i5), .val (.ref r_1), .val (.int r2_0), .val (.ref b3), .val (.ref b6), .val (.int ((XT.ushr i1 (1 : Int32)) &&& (3 : Int32))), .val (.ref b9), .unset, .unset, .unset] [(.ref b11)]))
    refine Go.by (fun _ k => XS.dup X11.here X11.hx rfl (X11.cd at_121) rfl rfl k) ?_
    show Go _ _ _ _ (T11.setTop (mkF m 122 #[.val (.int i0), .val (.int i1), .val (.int i2), .val (.int i3), .val (.int i4), .val (.int i5), .val (.ref r_1), .val (.int r2_0), .val (.ref b3), .val (.ref b6), .val (.int ((XT.ushr i1 (1 : Int32)) &&& (3 : Int32))), .val (.ref b9), .unset, .unset, .unset] [(.ref b11), (.ref b11)]))
    refine Go.by (fun _ k => XS.aload X11.here X11.hx rfl (X11.cd at_122) rfl rfl k) ?_
    show Go _ _ _ _ (T11.setTop (mkF m 124 #[.val (.int i0), .val (.int i1), .val (.int i2), .val (.int i3), .val (.int i4), .val (.int i5), .val (.ref r_1), .val (.int r2_0), .val (.ref b3), .val (.ref b6), .val (.int ((XT.ushr i1 (1 : Int32)) &&& (3 : Int32))), .val (.ref b9), .unset, .unset, .unset] [(.ref b6), (.ref b11), (.ref b11)]))
    refine Go.by (fun _ k => XS.aload X11.here X11.hx rfl (X11.cd at_124) rfl rfl k) ?_
    show Go _ _ _ _ (T11.setTop (mkF m 126 #[.val (.int i0), .val (.int i1), .val (.int i2), .val (.int i3), .val (.int i4), .val (.int i5), .val (.ref r_1), .val (.int r2_0), .val (.ref b3), .val (.ref b6), .val (.int ((XT.ushr i1 (1 : Int32)) &&& (3 : Int32))), .val (.ref b9), .unset, .unset, .unset] [(.ref r_1), (.ref b6), (.ref b11), (.ref b11)]))
    refine Go.by (fun _ k => XS.aload X11.here X11.hx rfl (X11.cd at_126) rfl rfl k) ?_
    show Go _ _ _ _ (T11.setTop (mkF m 128 #[.val (.int i0), .val (.int i1), .val (.int i2), .val (.int i3), .val (.int i4), .val (.int i5), .val (.ref r_1), .val (.int r2_0), .val (.ref b3), .val (.ref b6), .val (.int ((XT.ushr i1 (1 : Int32)) &&& (3 : Int32))), .val (.ref b9), .unset, .unset, .unset] [(.ref b9), (.ref r_1), (.ref b6), (.ref b11), (.ref b11)]))
    refine Go.by (fun _ k => XS.iload X11.here X11.hx rfl (X11.cd at_128) rfl  k) ?_
    show Go _ _ _ _ (T11.setTop (mkF m 130 #[.val (.int i0), .val (.int i1), .val (.int i2), .val (.int i3), .val (.int i4), .val (.int i5), .val (.ref r_1), .val (.int r2_0), .val (.ref b3), .val (.ref b6), .val (.int ((XT.ushr i1 (1 : Int32)) &&& (3 : Int32))), .val (.ref b9), .unset, .unset, .unset] [(.int r2_0), (.ref b9), (.ref r_1), (.ref b6), (.ref b11), (.ref b11)]))
    obtain ⟨_, T13, h13, X13, K13, ⟨rfl, P13_0, P13_1⟩, st13⟩ := X11.spN (W := 1) rfl (hw _ (List.mem_of_getElem? (i := 100) rfl)) (hw _ (List.mem_of_getElem? (i := 101) rfl)) (hw _ (List.mem_of_getElem? (i := 102) rfl)) (by decide) ((rm_sgi l Z a0 hw n0 b11 b6 r_1 b9 r2_0 .null .null .null (.int (0 : Int32)) h11 X11.old A11 F11_name F11_result F11_parameters F11_builtin hb2 (X11.ge (.head _)) (X11.lt (.head _))).pay (hw _ (List.mem_of_getElem? (i := 102) rfl)) (hw _ (List.mem_of_getElem? (i := 99) rfl)) (by decide) (by decide)) (allS (.head _) all0) (g := (mkF m 130 #[.val (.int i0), .val (.int i1), .val (.int i2), .val (.int i3), .val (.int i4), .val (.int i5), .val (.ref r_1), .val (.int r2_0), .val (.ref b3), .val (.ref b6), .val (.int ((XT.ushr i1 (1 : Int32)) &&& (3 : Int32))), .val (.ref b9), .unset, .unset, .unset] [(.int r2_0), (.ref b9), (.ref r_1), (.ref b6), (.ref b11), (.ref b11)])) rfl rfl (a := b11) (argsL := [(.ref b6), (.ref r_1), (.ref b9), (.int r2_0)]) (rest := [(.ref b11)]) (lenOf pd_7 rfl) rfl (by exact Nat.le_of_eq rfl) at_130 rfl (by decide) (by decide)
    refine Go.tr st13 ?_
    have K0_h13 : Keep h0 h13 [] := K0_h11.trans K13 (allS (Or.inr sz_b11) all0)
    show Go _ _ _ _ (T13.setTop (mkF m 133 #[.val (.int i0), .val (.int i1), .val (.int i2), .val (.int i3), .val (.int i4), .val (.int i5), .val (.ref r_1), .val (.int r2_0), .val (.ref b3), .val (.ref b6), .val (.int ((XT.ushr i1 (1 : Int32)) &&& (3 : Int32))), .val (.ref b9), .unset, .unset, .unset] [(.ref b11)]))
    refine Go.by (fun _ k => XS.astore X13.here X13.hx rfl (X13.cd at_133) rfl rfl (l' := #[.val (.int i0), .val (.int i1), .val (.int i2), .val (.int i3), .val (.int i4), .val (.int i5), .val (.ref r_1), .val (.int r2_0), .val (.ref b3), .val (.ref b6), .val (.int ((XT.ushr i1 (1 : Int32)) &&& (3 : Int32))), .val (.ref b9), .val (.ref b11), .unset, .unset]) rfl k) ?_
    show Go _ _ _ _ (T13.setTop (mkF m 135 #[.val (.int i0), .val (.int i1), .val (.int i2), .val (.int i3), .val (.int i4), .val (.int i5), .val (.ref r_1), .val (.int r2_0), .val (.ref b3), .val (.ref b6), .val (.int ((XT.ushr i1 (1 : Int32)) &&& (3 : Int32))), .val (.ref b9), .val (.ref b11), .unset, .unset] []))
    refine Go.by (fun _ k => XS.aload X13.here X13.hx rfl (X13.cd at_135) rfl rfl k) ?_
    show Go _ _ _ _ (T13.setTop (mkF m 137 #[.val (.int i0), .val (.int i1), .val (.int i2), .val (.int i3), .val (.int i4), .val (.int i5), .val (.ref r_1), .val (.int r2_0), .val (.ref b3), .val (.ref b6), .val (.int ((XT.ushr i1 (1 : Int32)) &&& (3 : Int32))), .val (.ref b9), .val (.ref b11), .unset, .unset] [(.ref b11)]))
    have f15 : Exa Z h13 b11 "com/example/cinderpath/cinderpath/ir/Signature" := (A11).keep K13
    obtain ⟨_, T14, h14, X14, K14, ⟨r_14, rfl, rfl, p14_0⟩, st14⟩ := X13.viN (W := 0) (hw _ (List.mem_of_getElem? (i := 117) rfl)) (hw _ (List.mem_of_getElem? (i := 118) rfl)) (hw _ (List.mem_of_getElem? (i := 120) rfl)) (hw _ (List.mem_of_getElem? (i := 119) rfl)) (by decide) ((rm_ri l Z a0 hw n0 b11 r_1 r2_0 sk0 sk1 sk2 sk3 sk4 h13 X13.old P13_0 P13_1 Sk0 Sk1 Sk2 Sk3 Sk4).pay (hw _ (List.mem_of_getElem? (i := 121) rfl)) (hw _ (List.mem_of_getElem? (i := 99) rfl)) (by decide) (by decide)) all0 f15 (g := (mkF m 137 #[.val (.int i0), .val (.int i1), .val (.int i2), .val (.int i3), .val (.int i4), .val (.int i5), .val (.ref r_1), .val (.int r2_0), .val (.ref b3), .val (.ref b6), .val (.int ((XT.ushr i1 (1 : Int32)) &&& (3 : Int32))), .val (.ref b9), .val (.ref b11), .unset, .unset] [(.ref b11)])) rfl rfl (argsL := []) (rest := []) (lenOf pd_8 rfl) rfl (by exact Nat.le_of_eq rfl) at_137 rfl (by decide) (by decide)
    refine Go.tr st14 ?_
    show Go _ _ _ _ (T14.setTop (mkF m 140 #[.val (.int i0), .val (.int i1), .val (.int i2), .val (.int i3), .val (.int i4), .val (.int i5), .val (.ref r_1), .val (.int r2_0), .val (.ref b3), .val (.ref b6), .val (.int ((XT.ushr i1 (1 : Int32)) &&& (3 : Int32))), .val (.ref b9), .val (.ref b11), .unset, .unset] [(.int r_14)]))
    refine Go.by (fun _ k => XS.istore X14.here X14.hx rfl (X14.cd at_140) rfl (l' := #[.val (.int i0), .val (.int i1), .val (.int i2), .val (.int i3), .val (.int i4), .val (.int i5), .val (.ref r_1), .val (.int r2_0), .val (.ref b3), .val (.ref b6), .val (.int ((XT.ushr i1 (1 : Int32)) &&& (3 : Int32))), .val (.ref b9), .val (.ref b11), .val (.int r_14), .unset]) rfl k) ?_
    show Go _ _ _ _ (T14.setTop (mkF m 142 #[.val (.int i0), .val (.int i1), .val (.int i2), .val (.int i3), .val (.int i4), .val (.int i5), .val (.ref r_1), .val (.int r2_0), .val (.ref b3), .val (.ref b6), .val (.int ((XT.ushr i1 (1 : Int32)) &&& (3 : Int32))), .val (.ref b9), .val (.ref b11), .val (.int r_14), .unset] []))
    refine Go.by (fun _ k => XS.iload X14.here X14.hx rfl (X14.cd at_142) rfl  k) ?_
    show Go _ _ _ _ (T14.setTop (mkF m 144 #[.val (.int i0), .val (.int i1), .val (.int i2), .val (.int i3), .val (.int i4), .val (.int i5), .val (.ref r_1), .val (.int r2_0), .val (.ref b3), .val (.ref b6), .val (.int ((XT.ushr i1 (1 : Int32)) &&& (3 : Int32))), .val (.ref b9), .val (.ref b11), .val (.int r_14), .unset] [(.int r2_0)]))
    obtain ⟨T16, r16_0, X16, hr16, st16⟩ : ∃ (T16 : State) (r16_0 : Int32), Wk false p l e room_1 s m #[(.int i0), (.int i1), (.int i2), (.int i3), (.int i4), (.int i5)] below meth c Z [] x code 15 (some .boolean) n0 h0 T16 h13 [b11, b9, b6, b3] 5 15 ∧ (((r2_0 = 0) ∧ r16_0 = (0 : Int32)) ∨ (¬ (r2_0 = 0) ∧ ((Value.ref r_1) = (Value.ref sk1)) ∧ r16_0 = (1 : Int32)) ∨ (¬ (r2_0 = 0) ∧ ¬ ((Value.ref r_1) = (Value.ref sk1)) ∧ ((Value.ref r_1) = (Value.ref sk2)) ∧ r16_0 = (1 : Int32)) ∨ (¬ (r2_0 = 0) ∧ ¬ ((Value.ref r_1) = (Value.ref sk1)) ∧ ¬ ((Value.ref r_1) = (Value.ref sk2)) ∧ ((Value.ref r_1) = (Value.ref sk3)) ∧ r16_0 = (1 : Int32)) ∨ (¬ (r2_0 = 0) ∧ ¬ ((Value.ref r_1) = (Value.ref sk1)) ∧ ¬ ((Value.ref r_1) = (Value.ref sk2)) ∧ ¬ ((Value.ref r_1) = (Value.ref sk3)) ∧ ((Value.ref r_1) = (Value.ref sk4)) ∧ r16_0 = (1 : Int32)) ∨ (¬ (r2_0 = 0) ∧ ¬ ((Value.ref r_1) = (Value.ref sk1)) ∧ ¬ ((Value.ref r_1) = (Value.ref sk2)) ∧ ¬ ((Value.ref r_1) = (Value.ref sk3)) ∧ ¬ ((Value.ref r_1) = (Value.ref sk4)) ∧ r16_0 = (0 : Int32))) ∧ ∀ t, Steps p.tables e below (T16.setTop (mkF m 212 #[.val (.int i0), .val (.int i1), .val (.int i2), .val (.int i3), .val (.int i4), .val (.int i5), .val (.ref r_1), .val (.int r2_0), .val (.ref b3), .val (.ref b6), .val (.int ((XT.ushr i1 (1 : Int32)) &&& (3 : Int32))), .val (.ref b9), .val (.ref b11), .val (.int r_14), .val (.int r16_0)] [])) t → Steps p.tables e below (T14.setTop (mkF m 144 #[.val (.int i0), .val (.int i1), .val (.int i2), .val (.int i3), .val (.int i4), .val (.int i5), .val (.ref r_1), .val (.int r2_0), .val (.ref b3), .val (.ref b6), .val (.int ((XT.ushr i1 (1 : Int32)) &&& (3 : Int32))), .val (.ref b9), .val (.ref b11), .val (.int r_14), .unset] [(.int r2_0)])) t := by
      by_cases c16_0 : r2_0 = 0
      · refine ⟨T14, (0 : Int32), X14, Or.inl ⟨c16_0, rfl⟩, fun t k => ?_⟩
        refine XS.ifNo X14.here X14.hx rfl (X14.cd at_144) rfl (XT.i0_ne_f c16_0) ?_
        show Steps p.tables e below (T14.setTop (mkF m 147 #[.val (.int i0), .val (.int i1), .val (.int i2), .val (.int i3), .val (.int i4), .val (.int i5), .val (.ref r_1), .val (.int r2_0), .val (.ref b3), .val (.ref b6), .val (.int ((XT.ushr i1 (1 : Int32)) &&& (3 : Int32))), .val (.ref b9), .val (.ref b11), .val (.int r_14), .unset] [])) t
        refine XS.iconst X14.here X14.hx rfl (X14.cd at_147)  ?_
        show Steps p.tables e below (T14.setTop (mkF m 148 #[.val (.int i0), .val (.int i1), .val (.int i2), .val (.int i3), .val (.int i4), .val (.int i5), .val (.ref r_1), .val (.int r2_0), .val (.ref b3), .val (.ref b6), .val (.int ((XT.ushr i1 (1 : Int32)) &&& (3 : Int32))), .val (.ref b9), .val (.ref b11), .val (.int r_14), .unset] [(.int (0 : Int32))])) t
        refine XS.istore X14.here X14.hx rfl (X14.cd at_148) rfl (l' := #[.val (.int i0), .val (.int i1), .val (.int i2), .val (.int i3), .val (.int i4), .val (.int i5), .val (.ref r_1), .val (.int r2_0), .val (.ref b3), .val (.ref b6), .val (.int ((XT.ushr i1 (1 : Int32)) &&& (3 : Int32))), .val (.ref b9), .val (.ref b11), .val (.int r_14), .val (.int (0 : Int32))]) rfl ?_
        show Steps p.tables e below (T14.setTop (mkF m 150 #[.val (.int i0), .val (.int i1), .val (.int i2), .val (.int i3), .val (.int i4), .val (.int i5), .val (.ref r_1), .val (.int r2_0), .val (.ref b3), .val (.ref b6), .val (.int ((XT.ushr i1 (1 : Int32)) &&& (3 : Int32))), .val (.ref b9), .val (.ref b11), .val (.int r_14), .val (.int (0 : Int32))] [])) t
        refine XS.goto X14.here X14.hx rfl (pc0 := 150) (pc' := 212) rfl (X14.cd at_150) (by decide) (by decide) ?_
        show Steps p.tables e below (T14.setTop (mkF m 212 #[.val (.int i0), .val (.int i1), .val (.int i2), .val (.int i3), .val (.int i4), .val (.int i5), .val (.ref r_1), .val (.int r2_0), .val (.ref b3), .val (.ref b6), .val (.int ((XT.ushr i1 (1 : Int32)) &&& (3 : Int32))), .val (.ref b9), .val (.ref b11), .val (.int r_14), .val (.int (0 : Int32))] [])) t
        exact k
      · obtain ⟨T17, X17, st17⟩ := X14.getS (hw _ (List.mem_of_getElem? (i := 123) rfl)) Via.refl Sk1 (g := (mkF m 155 #[.val (.int i0), .val (.int i1), .val (.int i2), .val (.int i3), .val (.int i4), .val (.int i5), .val (.ref r_1), .val (.int r2_0), .val (.ref b3), .val (.ref b6), .val (.int ((XT.ushr i1 (1 : Int32)) &&& (3 : Int32))), .val (.ref b9), .val (.ref b11), .val (.int r_14), .unset] [(.ref r_1)])) rfl at_155
        by_cases c16_1 : (Value.ref r_1) = (Value.ref sk1)
        · refine ⟨T17, (1 : Int32), X17, Or.inr (Or.inl ⟨c16_0, c16_1, rfl⟩), fun t k => ?_⟩
          refine XS.ifYes X14.here X14.hx rfl (pc0 := 144) (pc' := 153) rfl (X14.cd at_144) rfl (XT.i0_ne_t c16_0) (by decide) (by decide) ?_
          show Steps p.tables e below (T14.setTop (mkF m 153 #[.val (.int i0), .val (.int i1), .val (.int i2), .val (.int i3), .val (.int i4), .val (.int i5), .val (.ref r_1), .val (.int r2_0), .val (.ref b3), .val (.ref b6), .val (.int ((XT.ushr i1 (1 : Int32)) &&& (3 : Int32))), .val (.ref b9), .val (.ref b11), .val (.int r_14), .unset] [])) t
          refine XS.aload X14.here X14.hx rfl (X14.cd at_153) rfl rfl ?_
          show Steps p.tables e below (T14.setTop (mkF m 155 #[.val (.int i0), .val (.int i1), .val (.int i2), .val (.int i3), .val (.int i4), .val (.int i5), .val (.ref r_1), .val (.int r2_0), .val (.ref b3), .val (.ref b6), .val (.int ((XT.ushr i1 (1 : Int32)) &&& (3 : Int32))), .val (.ref b9), .val (.ref b11), .val (.int r_14), .unset] [(.ref r_1)])) t
          refine st17 _ ?_
          show Steps p.tables e below (T17.setTop (mkF m 158 #[.val (.int i0), .val (.int i1), .val (.int i2), .val (.int i3), .val (.int i4), .val (.int i5), .val (.ref r_1), .val (.int r2_0), .val (.ref b3), .val (.ref b6), .val (.int ((XT.ushr i1 (1 : Int32)) &&& (3 : Int32))), .val (.ref b9), .val (.ref b11), .val (.int r_14), .unset] [(.ref sk1), (.ref r_1)])) t
          refine X17.acmp (cd := .ne) (x := (.ref r_1)) (y' := (.ref sk1)) rfl rfl (g := (mkF m 158 #[.val (.int i0), .val (.int i1), .val (.int i2), .val (.int i3), .val (.int i4), .val (.int i5), .val (.ref r_1), .val (.int r2_0), .val (.ref b3), .val (.ref b6), .val (.int ((XT.ushr i1 (1 : Int32)) &&& (3 : Int32))), .val (.ref b9), .val (.ref b11), .val (.int r_14), .unset] [(.ref sk1), (.ref r_1)])) rfl (pc0 := 158) (pc' := 161) (same := true) rfl at_158 rfl (decide_eq_true c16_1) (by decide) (by decide) _ ?_
          show Steps p.tables e below (T17.setTop (mkF m 161 #[.val (.int i0), .val (.int i1), .val (.int i2), .val (.int i3), .val (.int i4), .val (.int i5), .val (.ref r_1), .val (.int r2_0), .val (.ref b3), .val (.ref b6), .val (.int ((XT.ushr i1 (1 : Int32)) &&& (3 : Int32))), .val (.ref b9), .val (.ref b11), .val (.int r_14), .unset] [])) t
          refine XS.iconst X17.here X17.hx rfl (X17.cd at_161)  ?_
          show Steps p.tables e below (T17.setTop (mkF m 162 #[.val (.int i0), .val (.int i1), .val (.int i2), .val (.int i3), .val (.int i4), .val (.int i5), .val (.ref r_1), .val (.int r2_0), .val (.ref b3), .val (.ref b6), .val (.int ((XT.ushr i1 (1 : Int32)) &&& (3 : Int32))), .val (.ref b9), .val (.ref b11), .val (.int r_14), .unset] [(.int (1 : Int32))])) t
          refine XS.istore X17.here X17.hx rfl (X17.cd at_162) rfl (l' := #[.val (.int i0), .val (.int i1), .val (.int i2), .val (.int i3), .val (.int i4), .val (.int i5), .val (.ref r_1), .val (.int r2_0), .val (.ref b3), .val (.ref b6), .val (.int ((XT.ushr i1 (1 : Int32)) &&& (3 : Int32))), .val (.ref b9), .val (.ref b11), .val (.int r_14), .val (.int (1 : Int32))]) rfl ?_
          show Steps p.tables e below (T17.setTop (mkF m 164 #[.val (.int i0), .val (.int i1), .val (.int i2), .val (.int i3), .val (.int i4), .val (.int i5), .val (.ref r_1), .val (.int r2_0), .val (.ref b3), .val (.ref b6), .val (.int ((XT.ushr i1 (1 : Int32)) &&& (3 : Int32))), .val (.ref b9), .val (.ref b11), .val (.int r_14), .val (.int (1 : Int32))] [])) t
          refine XS.goto X17.here X17.hx rfl (pc0 := 164) (pc' := 212) rfl (X17.cd at_164) (by decide) (by decide) ?_
          show Steps p.tables e below (T17.setTop (mkF m 212 #[.val (.int i0), .val (.int i1), .val (.int i2), .val (.int i3), .val (.int i4), .val (.int i5), .val (.ref r_1), .val (.int r2_0), .val (.ref b3), .val (.ref b6), .val (.int ((XT.ushr i1 (1 : Int32)) &&& (3 : Int32))), .val (.ref b9), .val (.ref b11), .val (.int r_14), .val (.int (1 : Int32))] [])) t
          exact k
        · obtain ⟨T18, X18, st18⟩ := X17.getS (hw _ (List.mem_of_getElem? (i := 125) rfl)) Via.refl Sk2 (g := (mkF m 169 #[.val (.int i0), .val (.int i1), .val (.int i2), .val (.int i3), .val (.int i4), .val (.int i5), .val (.ref r_1), .val (.int r2_0), .val (.ref b3), .val (.ref b6), .val (.int ((XT.ushr i1 (1 : Int32)) &&& (3 : Int32))), .val (.ref b9), .val (.ref b11), .val (.int r_14), .unset] [(.ref r_1)])) rfl at_169
          by_cases c16_2 : (Value.ref r_1) = (Value.ref sk2)
          · refine ⟨T18, (1 : Int32), X18, Or.inr (Or.inr (Or.inl ⟨c16_0, c16_1, c16_2, rfl⟩)), fun t k => ?_⟩
            refine XS.ifYes X14.here X14.hx rfl (pc0 := 144) (pc' := 153) rfl (X14.cd at_144) rfl (XT.i0_ne_t c16_0) (by decide) (by decide) ?_
            show Steps p.tables e below (T14.setTop (mkF m 153 #[.val (.int i0), .val (.int i1), .val (.int i2), .val (.int i3), .val (.int i4), .val (.int i5), .val (.ref r_1), .val (.int r2_0), .val (.ref b3), .val (.ref b6), .val (.int ((XT.ushr i1 (1 : Int32)) &&& (3 : Int32))), .val (.ref b9), .val (.ref b11), .val (.int r_14), .unset] [])) t
            refine XS.aload X14.here X14.hx rfl (X14.cd at_153) rfl rfl ?_
            show Steps p.tables e below (T14.setTop (mkF m 155 #[.val (.int i0), .val (.int i1), .val (.int i2), .val (.int i3), .val (.int i4), .val (.int i5), .val (.ref r_1), .val (.int r2_0), .val (.ref b3), .val (.ref b6), .val (.int ((XT.ushr i1 (1 : Int32)) &&& (3 : Int32))), .val (.ref b9), .val (.ref b11), .val (.int r_14), .unset] [(.ref r_1)])) t
            refine st17 _ ?_
            show Steps p.tables e below (T17.setTop (mkF m 158 #[.val (.int i0), .val (.int i1), .val (.int i2), .val (.int i3), .val (.int i4), .val (.int i5), .val (.ref r_1), .val (.int r2_0), .val (.ref b3), .val (.ref b6), .val (.int ((XT.ushr i1 (1 : Int32)) &&& (3 : Int32))), .val (.ref b9), .val (.ref b11), .val (.int r_14), .unset] [(.ref sk1), (.ref r_1)])) t
            refine X17.acmp (cd := .ne) (x := (.ref r_1)) (y' := (.ref sk1)) rfl rfl (g := (mkF m 158 #[.val (.int i0), .val (.int i1), .val (.int i2), .val (.int i3), .val (.int i4), .val (.int i5), .val (.ref r_1), .val (.int r2_0), .val (.ref b3), .val (.ref b6), .val (.int ((XT.ushr i1 (1 : Int32)) &&& (3 : Int32))), .val (.ref b9), .val (.ref b11), .val (.int r_14), .unset] [(.ref sk1), (.ref r_1)])) rfl (pc0 := 158) (pc' := 167) (same := false) rfl at_158 rfl (decide_eq_false c16_1) (by decide) (by decide) _ ?_
            show Steps p.tables e below (T17.setTop (mkF m 167 #[.val (.int i0), .val (.int i1), .val (.int i2), .val (.int i3), .val (.int i4), .val (.int i5), .val (.ref r_1), .val (.int r2_0), .val (.ref b3), .val (.ref b6), .val (.int ((XT.ushr i1 (1 : Int32)) &&& (3 : Int32))), .val (.ref b9), .val (.ref b11), .val (.int r_14), .unset] [])) t
            refine XS.aload X17.here X17.hx rfl (X17.cd at_167) rfl rfl ?_
            show Steps p.tables e below (T17.setTop (mkF m 169 #[.val (.int i0), .val (.int i1), .val (.int i2), .val (.int i3), .val (.int i4), .val (.int i5), .val (.ref r_1), .val (.int r2_0), .val (.ref b3), .val (.ref b6), .val (.int ((XT.ushr i1 (1 : Int32)) &&& (3 : Int32))), .val (.ref b9), .val (.ref b11), .val (.int r_14), .unset] [(.ref r_1)])) t
            refine st18 _ ?_
            show Steps p.tables e below (T18.setTop (mkF m 172 #[.val (.int i0), .val (.int i1), .val (.int i2), .val (.int i3), .val (.int i4), .val (.int i5), .val (.ref r_1), .val (.int r2_0), .val (.ref b3), .val (.ref b6), .val (.int ((XT.ushr i1 (1 : Int32)) &&& (3 : Int32))), .val (.ref b9), .val (.ref b11), .val (.int r_14), .unset] [(.ref sk2), (.ref r_1)])) t
            refine X18.acmp (cd := .ne) (x := (.ref r_1)) (y' := (.ref sk2)) rfl rfl (g := (mkF m 172 #[.val (.int i0), .val (.int i1), .val (.int i2), .val (.int i3), .val (.int i4), .val (.int i5), .val (.ref r_1), .val (.int r2_0), .val (.ref b3), .val (.ref b6), .val (.int ((XT.ushr i1 (1 : Int32)) &&& (3 : Int32))), .val (.ref b9), .val (.ref b11), .val (.int r_14), .unset] [(.ref sk2), (.ref r_1)])) rfl (pc0 := 172) (pc' := 175) (same := true) rfl at_172 rfl (decide_eq_true c16_2) (by decide) (by decide) _ ?_
            show Steps p.tables e below (T18.setTop (mkF m 175 #[.val (.int i0), .val (.int i1), .val (.int i2), .val (.int i3), .val (.int i4), .val (.int i5), .val (.ref r_1), .val (.int r2_0), .val (.ref b3), .val (.ref b6), .val (.int ((XT.ushr i1 (1 : Int32)) &&& (3 : Int32))), .val (.ref b9), .val (.ref b11), .val (.int r_14), .unset] [])) t
            refine XS.iconst X18.here X18.hx rfl (X18.cd at_175)  ?_
            show Steps p.tables e below (T18.setTop (mkF m 176 #[.val (.int i0), .val (.int i1), .val (.int i2), .val (.int i3), .val (.int i4), .val (.int i5), .val (.ref r_1), .val (.int r2_0), .val (.ref b3), .val (.ref b6), .val (.int ((XT.ushr i1 (1 : Int32)) &&& (3 : Int32))), .val (.ref b9), .val (.ref b11), .val (.int r_14), .unset] [(.int (1 : Int32))])) t
            refine XS.istore X18.here X18.hx rfl (X18.cd at_176) rfl (l' := #[.val (.int i0), .val (.int i1), .val (.int i2), .val (.int i3), .val (.int i4), .val (.int i5), .val (.ref r_1), .val (.int r2_0), .val (.ref b3), .val (.ref b6), .val (.int ((XT.ushr i1 (1 : Int32)) &&& (3 : Int32))), .val (.ref b9), .val (.ref b11), .val (.int r_14), .val (.int (1 : Int32))]) rfl ?_
            show Steps p.tables e below (T18.setTop (mkF m 178 #[.val (.int i0), .val (.int i1), .val (.int i2), .val (.int i3), .val (.int i4), .val (.int i5), .val (.ref r_1), .val (.int r2_0), .val (.ref b3), .val (.ref b6), .val (.int ((XT.ushr i1 (1 : Int32)) &&& (3 : Int32))), .val (.ref b9), .val (.ref b11), .val (.int r_14), .val (.int (1 : Int32))] [])) t
            refine XS.goto X18.here X18.hx rfl (pc0 := 178) (pc' := 212) rfl (X18.cd at_178) (by decide) (by decide) ?_
            show Steps p.tables e below (T18.setTop (mkF m 212 #[.val (.int i0), .val (.int i1), .val (.int i2), .val (.int i3), .val (.int i4), .val (.int i5), .val (.ref r_1), .val (.int r2_0), .val (.ref b3), .val (.ref b6), .val (.int ((XT.ushr i1 (1 : Int32)) &&& (3 : Int32))), .val (.ref b9), .val (.ref b11), .val (.int r_14), .val (.int (1 : Int32))] [])) t
            exact k
          · obtain ⟨T19, X19, st19⟩ := X18.getS (hw _ (List.mem_of_getElem? (i := 127) rfl)) Via.refl Sk3 (g := (mkF m 183 #[.val (.int i0), .val (.int i1), .val (.int i2), .val (.int i3), .val (.int i4), .val (.int i5), .val (.ref r_1), .val (.int r2_0), .val (.ref b3), .val (.ref b6), .val (.int ((XT.ushr i1 (1 : Int32)) &&& (3 : Int32))), .val (.ref b9), .val (.ref b11), .val (.int r_14), .unset] [(.ref r_1)])) rfl at_183
            by_cases c16_3 : (Value.ref r_1) = (Value.ref sk3)
            · refine ⟨T19, (1 : Int32), X19, Or.inr (Or.inr (Or.inr (Or.inl ⟨c16_0, c16_1, c16_2, c16_3, rfl⟩))), fun t k => ?_⟩
              refine XS.ifYes X14.here X14.hx rfl (pc0 := 144) (pc' := 153) rfl (X14.cd at_144) rfl (XT.i0_ne_t c16_0) (by decide) (by decide) ?_
              show Steps p.tables e below (T14.setTop (mkF m 153 #[.val (.int i0), .val (.int i1), .val (.int i2), .val (.int i3), .val (.int i4), .val (.int i5), .val (.ref r_1), .val (.int r2_0), .val (.ref b3), .val (.ref b6), .val (.int ((XT.ushr i1 (1 : Int32)) &&& (3 : Int32))), .val (.ref b9), .val (.ref b11), .val (.int r_14), .unset] [])) t
              refine XS.aload X14.here X14.hx rfl (X14.cd at_153) rfl rfl ?_
              show Steps p.tables e below (T14.setTop (mkF m 155 #[.val (.int i0), .val (.int i1), .val (.int i2), .val (.int i3), .val (.int i4), .val (.int i5), .val (.ref r_1), .val (.int r2_0), .val (.ref b3), .val (.ref b6), .val (.int ((XT.ushr i1 (1 : Int32)) &&& (3 : Int32))), .val (.ref b9), .val (.ref b11), .val (.int r_14), .unset] [(.ref r_1)])) t
              refine st17 _ ?_
              show Steps p.tables e below (T17.setTop (mkF m 158 #[.val (.int i0), .val (.int i1), .val (.int i2), .val (.int i3), .val (.int i4), .val (.int i5), .val (.ref r_1), .val (.int r2_0), .val (.ref b3), .val (.ref b6), .val (.int ((XT.ushr i1 (1 : Int32)) &&& (3 : Int32))), .val (.ref b9), .val (.ref b11), .val (.int r_14), .unset] [(.ref sk1), (.ref r_1)])) t
              refine X17.acmp (cd := .ne) (x := (.ref r_1)) (y' := (.ref sk1)) rfl rfl (g := (mkF m 158 #[.val (.int i0), .val (.int i1), .val (.int i2), .val (.int i3), .val (.int i4), .val (.int i5), .val (.ref r_1), .val (.int r2_0), .val (.ref b3), .val (.ref b6), .val (.int ((XT.ushr i1 (1 : Int32)) &&& (3 : Int32))), .val (.ref b9), .val (.ref b11), .val (.int r_14), .unset] [(.ref sk1), (.ref r_1)])) rfl (pc0 := 158) (pc' := 167) (same := false) rfl at_158 rfl (decide_eq_false c16_1) (by decide) (by decide) _ ?_
              show Steps p.tables e below (T17.setTop (mkF m 167 #[.val (.int i0), .val (.int i1), .val (.int i2), .val (.int i3), .val (.int i4), .val (.int i5), .val (.ref r_1), .val (.int r2_0), .val (.ref b3), .val (.ref b6), .val (.int ((XT.ushr i1 (1 : Int32)) &&& (3 : Int32))), .val (.ref b9), .val (.ref b11), .val (.int r_14), .unset] [])) t
              refine XS.aload X17.here X17.hx rfl (X17.cd at_167) rfl rfl ?_
              show Steps p.tables e below (T17.setTop (mkF m 169 #[.val (.int i0), .val (.int i1), .val (.int i2), .val (.int i3), .val (.int i4), .val (.int i5), .val (.ref r_1), .val (.int r2_0), .val (.ref b3), .val (.ref b6), .val (.int ((XT.ushr i1 (1 : Int32)) &&& (3 : Int32))), .val (.ref b9), .val (.ref b11), .val (.int r_14), .unset] [(.ref r_1)])) t
              refine st18 _ ?_
              show Steps p.tables e below (T18.setTop (mkF m 172 #[.val (.int i0), .val (.int i1), .val (.int i2), .val (.int i3), .val (.int i4), .val (.int i5), .val (.ref r_1), .val (.int r2_0), .val (.ref b3), .val (.ref b6), .val (.int ((XT.ushr i1 (1 : Int32)) &&& (3 : Int32))), .val (.ref b9), .val (.ref b11), .val (.int r_14), .unset] [(.ref sk2), (.ref r_1)])) t
              refine X18.acmp (cd := .ne) (x := (.ref r_1)) (y' := (.ref sk2)) rfl rfl (g := (mkF m 172 #[.val (.int i0), .val (.int i1), .val (.int i2), .val (.int i3), .val (.int i4), .val (.int i5), .val (.ref r_1), .val (.int r2_0), .val (.ref b3), .val (.ref b6), .val (.int ((XT.ushr i1 (1 : Int32)) &&& (3 : Int32))), .val (.ref b9), .val (.ref b11), .val (.int r_14), .unset] [(.ref sk2), (.ref r_1)])) rfl (pc0 := 172) (pc' := 181) (same := false) rfl at_172 rfl (decide_eq_false c16_2) (by decide) (by decide) _ ?_
              show Steps p.tables e below (T18.setTop (mkF m 181 #[.val (.int i0), .val (.int i1), .val (.int i2), .val (.int i3), .val (.int i4), .val (.int i5), .val (.ref r_1), .val (.int r2_0), .val (.ref b3), .val (.ref b6), .val (.int ((XT.ushr i1 (1 : Int32)) &&& (3 : Int32))), .val (.ref b9), .val (.ref b11), .val (.int r_14), .unset] [])) t
              refine XS.aload X18.here X18.hx rfl (X18.cd at_181) rfl rfl ?_
              show Steps p.tables e below (T18.setTop (mkF m 183 #[.val (.int i0), .val (.int i1), .val (.int i2), .val (.int i3), .val (.int i4), .val (.int i5), .val (.ref r_1), .val (.int r2_0), .val (.ref b3), .val (.ref b6), .val (.int ((XT.ushr i1 (1 : Int32)) &&& (3 : Int32))), .val (.ref b9), .val (.ref b11), .val (.int r_14), .unset] [(.ref r_1)])) t
              refine st19 _ ?_
              show Steps p.tables e below (T19.setTop (mkF m 186 #[.val (.int i0), .val (.int i1), .val (.int i2), .val (.int i3), .val (.int i4), .val (.int i5), .val (.ref r_1), .val (.int r2_0), .val (.ref b3), .val (.ref b6), .val (.int ((XT.ushr i1 (1 : Int32)) &&& (3 : Int32))), .val (.ref b9), .val (.ref b11), .val (.int r_14), .unset] [(.ref sk3), (.ref r_1)])) t
              refine X19.acmp (cd := .ne) (x := (.ref r_1)) (y' := (.ref sk3)) rfl rfl (g := (mkF m 186 #[.val (.int i0), .val (.int i1), .val (.int i2), .val (.int i3), .val (.int i4), .val (.int i5), .val (.ref r_1), .val (.int r2_0), .val (.ref b3), .val (.ref b6), .val (.int ((XT.ushr i1 (1 : Int32)) &&& (3 : Int32))), .val (.ref b9), .val (.ref b11), .val (.int r_14), .unset] [(.ref sk3), (.ref r_1)])) rfl (pc0 := 186) (pc' := 189) (same := true) rfl at_186 rfl (decide_eq_true c16_3) (by decide) (by decide) _ ?_
              show Steps p.tables e below (T19.setTop (mkF m 189 #[.val (.int i0), .val (.int i1), .val (.int i2), .val (.int i3), .val (.int i4), .val (.int i5), .val (.ref r_1), .val (.int r2_0), .val (.ref b3), .val (.ref b6), .val (.int ((XT.ushr i1 (1 : Int32)) &&& (3 : Int32))), .val (.ref b9), .val (.ref b11), .val (.int r_14), .unset] [])) t
              refine XS.iconst X19.here X19.hx rfl (X19.cd at_189)  ?_
              show Steps p.tables e below (T19.setTop (mkF m 190 #[.val (.int i0), .val (.int i1), .val (.int i2), .val (.int i3), .val (.int i4), .val (.int i5), .val (.ref r_1), .val (.int r2_0), .val (.ref b3), .val (.ref b6), .val (.int ((XT.ushr i1 (1 : Int32)) &&& (3 : Int32))), .val (.ref b9), .val (.ref b11), .val (.int r_14), .unset] [(.int (1 : Int32))])) t
              refine XS.istore X19.here X19.hx rfl (X19.cd at_190) rfl (l' := #[.val (.int i0), .val (.int i1), .val (.int i2), .val (.int i3), .val (.int i4), .val (.int i5), .val (.ref r_1), .val (.int r2_0), .val (.ref b3), .val (.ref b6), .val (.int ((XT.ushr i1 (1 : Int32)) &&& (3 : Int32))), .val (.ref b9), .val (.ref b11), .val (.int r_14), .val (.int (1 : Int32))]) rfl ?_
              show Steps p.tables e below (T19.setTop (mkF m 192 #[.val (.int i0), .val (.int i1), .val (.int i2), .val (.int i3), .val (.int i4), .val (.int i5), .val (.ref r_1), .val (.int r2_0), .val (.ref b3), .val (.ref b6), .val (.int ((XT.ushr i1 (1 : Int32)) &&& (3 : Int32))), .val (.ref b9), .val (.ref b11), .val (.int r_14), .val (.int (1 : Int32))] [])) t
              refine XS.goto X19.here X19.hx rfl (pc0 := 192) (pc' := 212) rfl (X19.cd at_192) (by decide) (by decide) ?_
              show Steps p.tables e below (T19.setTop (mkF m 212 #[.val (.int i0), .val (.int i1), .val (.int i2), .val (.int i3), .val (.int i4), .val (.int i5), .val (.ref r_1), .val (.int r2_0), .val (.ref b3), .val (.ref b6), .val (.int ((XT.ushr i1 (1 : Int32)) &&& (3 : Int32))), .val (.ref b9), .val (.ref b11), .val (.int r_14), .val (.int (1 : Int32))] [])) t
              exact k
            · obtain ⟨T20, X20, st20⟩ := X19.getS (hw _ (List.mem_of_getElem? (i := 129) rfl)) Via.refl Sk4 (g := (mkF m 197 #[.val (.int i0), .val (.int i1), .val (.int i2), .val (.int i3), .val (.int i4), .val (.int i5), .val (.ref r_1), .val (.int r2_0), .val (.ref b3), .val (.ref b6), .val (.int ((XT.ushr i1 (1 : Int32)) &&& (3 : Int32))), .val (.ref b9), .val (.ref b11), .val (.int r_14), .unset] [(.ref r_1)])) rfl at_197
              by_cases c16_4 : (Value.ref r_1) = (Value.ref sk4)
              · refine ⟨T20, (1 : Int32), X20, Or.inr (Or.inr (Or.inr (Or.inr (Or.inl ⟨c16_0, c16_1, c16_2, c16_3, c16_4, rfl⟩)))), fun t k => ?_⟩
                refine XS.ifYes X14.here X14.hx rfl (pc0 := 144) (pc' := 153) rfl (X14.cd at_144) rfl (XT.i0_ne_t c16_0) (by decide) (by decide) ?_
                show Steps p.tables e below (T14.setTop (mkF m 153 #[.val (.int i0), .val (.int i1), .val (.int i2), .val (.int i3), .val (.int i4), .val (.int i5), .val (.ref r_1), .val (.int r2_0), .val (.ref b3), .val (.ref b6), .val (.int ((XT.ushr i1 (1 : Int32)) &&& (3 : Int32))), .val (.ref b9), .val (.ref b11), .val (.int r_14), .unset] [])) t
                refine XS.aload X14.here X14.hx rfl (X14.cd at_153) rfl rfl ?_
                show Steps p.tables e below (T14.setTop (mkF m 155 #[.val (.int i0), .val (.int i1), .val (.int i2), .val (.int i3), .val (.int i4), .val (.int i5), .val (.ref r_1), .val (.int r2_0), .val (.ref b3), .val (.ref b6), .val (.int ((XT.ushr i1 (1 : Int32)) &&& (3 : Int32))), .val (.ref b9), .val (.ref b11), .val (.int r_14), .unset] [(.ref r_1)])) t
                refine st17 _ ?_
                show Steps p.tables e below (T17.setTop (mkF m 158 #[.val (.int i0), .val (.int i1), .val (.int i2), .val (.int i3), .val (.int i4), .val (.int i5), .val (.ref r_1), .val (.int r2_0), .val (.ref b3), .val (.ref b6), .val (.int ((XT.ushr i1 (1 : Int32)) &&& (3 : Int32))), .val (.ref b9), .val (.ref b11), .val (.int r_14), .unset] [(.ref sk1), (.ref r_1)])) t
                refine X17.acmp (cd := .ne) (x := (.ref r_1)) (y' := (.ref sk1)) rfl rfl (g := (mkF m 158 #[.val (.int i0), .val (.int i1), .val (.int i2), .val (.int i3), .val (.int i4), .val (.int i5), .val (.ref r_1), .val (.int r2_0), .val (.ref b3), .val (.ref b6), .val (.int ((XT.ushr i1 (1 : Int32)) &&& (3 : Int32))), .val (.ref b9), .val (.ref b11), .val (.int r_14), .unset] [(.ref sk1), (.ref r_1)])) rfl (pc0 := 158) (pc' := 167) (same := false) rfl at_158 rfl (decide_eq_false c16_1) (by decide) (by decide) _ ?_
                show Steps p.tables e below (T17.setTop (mkF m 167 #[.val (.int i0), .val (.int i1), .val (.int i2), .val (.int i3), .val (.int i4), .val (.int i5), .val (.ref r_1), .val (.int r2_0), .val (.ref b3), .val (.ref b6), .val (.int ((XT.ushr i1 (1 : Int32)) &&& (3 : Int32))), .val (.ref b9), .val (.ref b11), .val (.int r_14), .unset] [])) t
                refine XS.aload X17.here X17.hx rfl (X17.cd at_167) rfl rfl ?_
                show Steps p.tables e below (T17.setTop (mkF m 169 #[.val (.int i0), .val (.int i1), .val (.int i2), .val (.int i3), .val (.int i4), .val (.int i5), .val (.ref r_1), .val (.int r2_0), .val (.ref b3), .val (.ref b6), .val (.int ((XT.ushr i1 (1 : Int32)) &&& (3 : Int32))), .val (.ref b9), .val (.ref b11), .val (.int r_14), .unset] [(.ref r_1)])) t
                refine st18 _ ?_
                show Steps p.tables e below (T18.setTop (mkF m 172 #[.val (.int i0), .val (.int i1), .val (.int i2), .val (.int i3), .val (.int i4), .val (.int i5), .val (.ref r_1), .val (.int r2_0), .val (.ref b3), .val (.ref b6), .val (.int ((XT.ushr i1 (1 : Int32)) &&& (3 : Int32))), .val (.ref b9), .val (.ref b11), .val (.int r_14), .unset] [(.ref sk2), (.ref r_1)])) t
                refine X18.acmp (cd := .ne) (x := (.ref r_1)) (y' := (.ref sk2)) rfl rfl (g := (mkF m 172 #[.val (.int i0), .val (.int i1), .val (.int i2), .val (.int i3), .val (.int i4), .val (.int i5), .val (.ref r_1), .val (.int r2_0), .val (.ref b3), .val (.ref b6), .val (.int ((XT.ushr i1 (1 : Int32)) &&& (3 : Int32))), .val (.ref b9), .val (.ref b11), .val (.int r_14), .unset] [(.ref sk2), (.ref r_1)])) rfl (pc0 := 172) (pc' := 181) (same := false) rfl at_172 rfl (decide_eq_false c16_2) (by decide) (by decide) _ ?_
                show Steps p.tables e below (T18.setTop (mkF m 181 #[.val (.int i0), .val (.int i1), .val (.int i2), .val (.int i3), .val (.int i4), .val (.int i5), .val (.ref r_1), .val (.int r2_0), .val (.ref b3), .val (.ref b6), .val (.int ((XT.ushr i1 (1 : Int32)) &&& (3 : Int32))), .val (.ref b9), .val (.ref b11), .val (.int r_14), .unset] [])) t
                refine XS.aload X18.here X18.hx rfl (X18.cd at_181) rfl rfl ?_
                show Steps p.tables e below (T18.setTop (mkF m 183 #[.val (.int i0), .val (.int i1), .val (.int i2), .val (.int i3), .val (.int i4), .val (.int i5), .val (.ref r_1), .val (.int r2_0), .val (.ref b3), .val (.ref b6), .val (.int ((XT.ushr i1 (1 : Int32)) &&& (3 : Int32))), .val (.ref b9), .val (.ref b11), .val (.int r_14), .unset] [(.ref r_1)])) t
                refine st19 _ ?_
                show Steps p.tables e below (T19.setTop (mkF m 186 #[.val (.int i0), .val (.int i1), .val (.int i2), .val (.int i3), .val (.int i4), .val (.int i5), .val (.ref r_1), .val (.int r2_0), .val (.ref b3), .val (.ref b6), .val (.int ((XT.ushr i1 (1 : Int32)) &&& (3 : Int32))), .val (.ref b9), .val (.ref b11), .val (.int r_14), .unset] [(.ref sk3), (.ref r_1)])) t
                refine X19.acmp (cd := .ne) (x := (.ref r_1)) (y' := (.ref sk3)) rfl rfl (g := (mkF m 186 #[.val (.int i0), .val (.int i1), .val (.int i2), .val (.int i3), .val (.int i4), .val (.int i5), .val (.ref r_1), .val (.int r2_0), .val (.ref b3), .val (.ref b6), .val (.int ((XT.ushr i1 (1 : Int32)) &&& (3 : Int32))), .val (.ref b9), .val (.ref b11), .val (.int r_14), .unset] [(.ref sk3), (.ref r_1)])) rfl (pc0 := 186) (pc' := 195) (same := false) rfl at_186 rfl (decide_eq_false c16_3) (by decide) (by decide) _ ?_
                show Steps p.tables e below (T19.setTop (mkF m 195 #[.val (.int i0), .val (.int i1), .val (.int i2), .val (.int i3), .val (.int i4), .val (.int i5), .val (.ref r_1), .val (.int r2_0), .val (.ref b3), .val (.ref b6), .val (.int ((XT.ushr i1 (1 : Int32)) &&& (3 : Int32))), .val (.ref b9), .val (.ref b11), .val (.int r_14), .unset] [])) t
                refine XS.aload X19.here X19.hx rfl (X19.cd at_195) rfl rfl ?_
                show Steps p.tables e below (T19.setTop (mkF m 197 #[.val (.int i0), .val (.int i1), .val (.int i2), .val (.int i3), .val (.int i4), .val (.int i5), .val (.ref r_1), .val (.int r2_0), .val (.ref b3), .val (.ref b6), .val (.int ((XT.ushr i1 (1 : Int32)) &&& (3 : Int32))), .val (.ref b9), .val (.ref b11), .val (.int r_14), .unset] [(.ref r_1)])) t
                refine st20 _ ?_
                show Steps p.tables e below (T20.setTop (mkF m 200 #[.val (.int i0), .val (.int i1), .val (.int i2), .val (.int i3), .val (.int i4), .val (.int i5), .val (.ref r_1), .val (.int r2_0), .val (.ref b3), .val (.ref b6), .val (.int ((XT.ushr i1 (1 : Int32)) &&& (3 : Int32))), .val (.ref b9), .val (.ref b11), .val (.int r_14), .unset] [(.ref sk4), (.ref r_1)])) t
                refine X20.acmp (cd := .ne) (x := (.ref r_1)) (y' := (.ref sk4)) rfl rfl (g := (mkF m 200 #[.val (.int i0), .val (.int i1), .val (.int i2), .val (.int i3), .val (.int i4), .val (.int i5), .val (.ref r_1), .val (.int r2_0), .val (.ref b3), .val (.ref b6), .val (.int ((XT.ushr i1 (1 : Int32)) &&& (3 : Int32))), .val (.ref b9), .val (.ref b11), .val (.int r_14), .unset] [(.ref sk4), (.ref r_1)])) rfl (pc0 := 200) (pc' := 203) (same := true) rfl at_200 rfl (decide_eq_true c16_4) (by decide) (by decide) _ ?_
                show Steps p.tables e below (T20.setTop (mkF m 203 #[.val (.int i0), .val (.int i1), .val (.int i2), .val (.int i3), .val (.int i4), .val (.int i5), .val (.ref r_1), .val (.int r2_0), .val (.ref b3), .val (.ref b6), .val (.int ((XT.ushr i1 (1 : Int32)) &&& (3 : Int32))), .val (.ref b9), .val (.ref b11), .val (.int r_14), .unset] [])) t
                refine XS.iconst X20.here X20.hx rfl (X20.cd at_203)  ?_
                show Steps p.tables e below (T20.setTop (mkF m 204 #[.val (.int i0), .val (.int i1), .val (.int i2), .val (.int i3), .val (.int i4), .val (.int i5), .val (.ref r_1), .val (.int r2_0), .val (.ref b3), .val (.ref b6), .val (.int ((XT.ushr i1 (1 : Int32)) &&& (3 : Int32))), .val (.ref b9), .val (.ref b11), .val (.int r_14), .unset] [(.int (1 : Int32))])) t
                refine XS.istore X20.here X20.hx rfl (X20.cd at_204) rfl (l' := #[.val (.int i0), .val (.int i1), .val (.int i2), .val (.int i3), .val (.int i4), .val (.int i5), .val (.ref r_1), .val (.int r2_0), .val (.ref b3), .val (.ref b6), .val (.int ((XT.ushr i1 (1 : Int32)) &&& (3 : Int32))), .val (.ref b9), .val (.ref b11), .val (.int r_14), .val (.int (1 : Int32))]) rfl ?_
                show Steps p.tables e below (T20.setTop (mkF m 206 #[.val (.int i0), .val (.int i1), .val (.int i2), .val (.int i3), .val (.int i4), .val (.int i5), .val (.ref r_1), .val (.int r2_0), .val (.ref b3), .val (.ref b6), .val (.int ((XT.ushr i1 (1 : Int32)) &&& (3 : Int32))), .val (.ref b9), .val (.ref b11), .val (.int r_14), .val (.int (1 : Int32))] [])) t
                refine XS.goto X20.here X20.hx rfl (pc0 := 206) (pc' := 212) rfl (X20.cd at_206) (by decide) (by decide) ?_
                show Steps p.tables e below (T20.setTop (mkF m 212 #[.val (.int i0), .val (.int i1), .val (.int i2), .val (.int i3), .val (.int i4), .val (.int i5), .val (.ref r_1), .val (.int r2_0), .val (.ref b3), .val (.ref b6), .val (.int ((XT.ushr i1 (1 : Int32)) &&& (3 : Int32))), .val (.ref b9), .val (.ref b11), .val (.int r_14), .val (.int (1 : Int32))] [])) t
                exact k
              · refine ⟨T20, (0 : Int32), X20, Or.inr (Or.inr (Or.inr (Or.inr (Or.inr (⟨c16_0, c16_1, c16_2, c16_3, c16_4, rfl⟩))))), fun t k => ?_⟩
                refine XS.ifYes X14.here X14.hx rfl (pc0 := 144) (pc' := 153) rfl (X14.cd at_144) rfl (XT.i0_ne_t c16_0) (by decide) (by decide) ?_
                show Steps p.tables e below (T14.setTop (mkF m 153 #[.val (.int i0), .val (.int i1), .val (.int i2), .val (.int i3), .val (.int i4), .val (.int i5), .val (.ref r_1), .val (.int r2_0), .val (.ref b3), .val (.ref b6), .val (.int ((XT.ushr i1 (1 : Int32)) &&& (3 : Int32))), .val (.ref b9), .val (.ref b11), .val (.int r_14), .unset] [])) t
                refine XS.aload X14.here X14.hx rfl (X14.cd at_153) rfl rfl ?_
                show Steps p.tables e below (T14.setTop (mkF m 155 #[.val (.int i0), .val (.int i1), .val (.int i2), .val (.int i3), .val (.int i4), .val (.int i5), .val (.ref r_1), .val (.int r2_0), .val (.ref b3), .val (.ref b6), .val (.int ((XT.ushr i1 (1 : Int32)) &&& (3 : Int32))), .val (.ref b9), .val (.ref b11), .val (.int r_14), .unset] [(.ref r_1)])) t
                refine st17 _ ?_
                show Steps p.tables e below (T17.setTop (mkF m 158 #[.val (.int i0), .val (.int i1), .val (.int i2), .val (.int i3), .val (.int i4), .val (.int i5), .val (.ref r_1), .val (.int r2_0), .val (.ref b3), .val (.ref b6), .val (.int ((XT.ushr i1 (1 : Int32)) &&& (3 : Int32))), .val (.ref b9), .val (.ref b11), .val (.int r_14), .unset] [(.ref sk1), (.ref r_1)])) t
                refine X17.acmp (cd := .ne) (x := (.ref r_1)) (y' := (.ref sk1)) rfl rfl (g := (mkF m 158 #[.val (.int i0), .val (.int i1), .val (.int i2), .val (.int i3), .val (.int i4), .val (.int i5), .val (.ref r_1), .val (.int r2_0), .val (.ref b3), .val (.ref b6), .val (.int ((XT.ushr i1 (1 : Int32)) &&& (3 : Int32))), .val (.ref b9), .val (.ref b11), .val (.int r_14), .unset] [(.ref sk1), (.ref r_1)])) rfl (pc0 := 158) (pc' := 167) (same := false) rfl at_158 rfl (decide_eq_false c16_1) (by decide) (by decide) _ ?_
                show Steps p.tables e below (T17.setTop (mkF m 167 #[.val (.int i0), .val (.int i1), .val (.int i2), .val (.int i3), .val (.int i4), .val (.int i5), .val (.ref r_1), .val (.int r2_0), .val (.ref b3), .val (.ref b6), .val (.int ((XT.ushr i1 (1 : Int32)) &&& (3 : Int32))), .val (.ref b9), .val (.ref b11), .val (.int r_14), .unset] [])) t
                refine XS.aload X17.here X17.hx rfl (X17.cd at_167) rfl rfl ?_
                show Steps p.tables e below (T17.setTop (mkF m 169 #[.val (.int i0), .val (.int i1), .val (.int i2), .val (.int i3), .val (.int i4), .val (.int i5), .val (.ref r_1), .val (.int r2_0), .val (.ref b3), .val (.ref b6), .val (.int ((XT.ushr i1 (1 : Int32)) &&& (3 : Int32))), .val (.ref b9), .val (.ref b11), .val (.int r_14), .unset] [(.ref r_1)])) t
                refine st18 _ ?_
                show Steps p.tables e below (T18.setTop (mkF m 172 #[.val (.int i0), .val (.int i1), .val (.int i2), .val (.int i3), .val (.int i4), .val (.int i5), .val (.ref r_1), .val (.int r2_0), .val (.ref b3), .val (.ref b6), .val (.int ((XT.ushr i1 (1 : Int32)) &&& (3 : Int32))), .val (.ref b9), .val (.ref b11), .val (.int r_14), .unset] [(.ref sk2), (.ref r_1)])) t
                refine X18.acmp (cd := .ne) (x := (.ref r_1)) (y' := (.ref sk2)) rfl rfl (g := (mkF m 172 #[.val (.int i0), .val (.int i1), .val (.int i2), .val (.int i3), .val (.int i4), .val (.int i5), .val (.ref r_1), .val (.int r2_0), .val (.ref b3), .val (.ref b6), .val (.int ((XT.ushr i1 (1 : Int32)) &&& (3 : Int32))), .val (.ref b9), .val (.ref b11), .val (.int r_14), .unset] [(.ref sk2), (.ref r_1)])) rfl (pc0 := 172) (pc' := 181) (same := false) rfl at_172 rfl (decide_eq_false c16_2) (by decide) (by decide) _ ?_
                show Steps p.tables e below (T18.setTop (mkF m 181 #[.val (.int i0), .val (.int i1), .val (.int i2), .val (.int i3), .val (.int i4), .val (.int i5), .val (.ref r_1), .val (.int r2_0), .val (.ref b3), .val (.ref b6), .val (.int ((XT.ushr i1 (1 : Int32)) &&& (3 : Int32))), .val (.ref b9), .val (.ref b11), .val (.int r_14), .unset] [])) t
                refine XS.aload X18.here X18.hx rfl (X18.cd at_181) rfl rfl ?_
                show Steps p.tables e below (T18.setTop (mkF m 183 #[.val (.int i0), .val (.int i1), .val (.int i2), .val (.int i3), .val (.int i4), .val (.int i5), .val (.ref r_1), .val (.int r2_0), .val (.ref b3), .val (.ref b6), .val (.int ((XT.ushr i1 (1 : Int32)) &&& (3 : Int32))), .val (.ref b9), .val (.ref b11), .val (.int r_14), .unset] [(.ref r_1)])) t
                refine st19 _ ?_
                show Steps p.tables e below (T19.setTop (mkF m 186 #[.val (.int i0), .val (.int i1), .val (.int i2), .val (.int i3), .val (.int i4), .val (.int i5), .val (.ref r_1), .val (.int r2_0), .val (.ref b3), .val (.ref b6), .val (.int ((XT.ushr i1 (1 : Int32)) &&& (3 : Int32))), .val (.ref b9), .val (.ref b11), .val (.int r_14), .unset] [(.ref sk3), (.ref r_1)])) t
                refine X19.acmp (cd := .ne) (x := (.ref r_1)) (y' := (.ref sk3)) rfl rfl (g := (mkF m 186 #[.val (.int i0), .val (.int i1), .val (.int i2), .val (.int i3), .val (.int i4), .val (.int i5), .val (.ref r_1), .val (.int r2_0), .val (.ref b3), .val (.ref b6), .val (.int ((XT.ushr i1 (1 : Int32)) &&& (3 : Int32))), .val (.ref b9), .val (.ref b11), .val (.int r_14), .unset] [(.ref sk3), (.ref r_1)])) rfl (pc0 := 186) (pc' := 195) (same := false) rfl at_186 rfl (decide_eq_false c16_3) (by decide) (by decide) _ ?_
                show Steps p.tables e below (T19.setTop (mkF m 195 #[.val (.int i0), .val (.int i1), .val (.int i2), .val (.int i3), .val (.int i4), .val (.int i5), .val (.ref r_1), .val (.int r2_0), .val (.ref b3), .val (.ref b6), .val (.int ((XT.ushr i1 (1 : Int32)) &&& (3 : Int32))), .val (.ref b9), .val (.ref b11), .val (.int r_14), .unset] [])) t
                refine XS.aload X19.here X19.hx rfl (X19.cd at_195) rfl rfl ?_
                show Steps p.tables e below (T19.setTop (mkF m 197 #[.val (.int i0), .val (.int i1), .val (.int i2), .val (.int i3), .val (.int i4), .val (.int i5), .val (.ref r_1), .val (.int r2_0), .val (.ref b3), .val (.ref b6), .val (.int ((XT.ushr i1 (1 : Int32)) &&& (3 : Int32))), .val (.ref b9), .val (.ref b11), .val (.int r_14), .unset] [(.ref r_1)])) t
                refine st20 _ ?_
                show Steps p.tables e below (T20.setTop (mkF m 200 #[.val (.int i0), .val (.int i1), .val (.int i2), .val (.int i3), .val (.int i4), .val (.int i5), .val (.ref r_1), .val (.int r2_0), .val (.ref b3), .val (.ref b6), .val (.int ((XT.ushr i1 (1 : Int32)) &&& (3 : Int32))), .val (.ref b9), .val (.ref b11), .val (.int r_14), .unset] [(.ref sk4), (.ref r_1)])) t
                refine X20.acmp (cd := .ne) (x := (.ref r_1)) (y' := (.ref sk4)) rfl rfl (g := (mkF m 200 #[.val (.int i0), .val (.int i1), .val (.int i2), .val (.int i3), .val (.int i4), .val (.int i5), .val (.ref r_1), .val (.int r2_0), .val (.ref b3), .val (.ref b6), .val (.int ((XT.ushr i1 (1 : Int32)) &&& (3 : Int32))), .val (.ref b9), .val (.ref b11), .val (.int r_14), .unset] [(.ref sk4), (.ref r_1)])) rfl (pc0 := 200) (pc' := 209) (same := false) rfl at_200 rfl (decide_eq_false c16_4) (by decide) (by decide) _ ?_
                show Steps p.tables e below (T20.setTop (mkF m 209 #[.val (.int i0), .val (.int i1), .val (.int i2), .val (.int i3), .val (.int i4), .val (.int i5), .val (.ref r_1), .val (.int r2_0), .val (.ref b3), .val (.ref b6), .val (.int ((XT.ushr i1 (1 : Int32)) &&& (3 : Int32))), .val (.ref b9), .val (.ref b11), .val (.int r_14), .unset] [])) t
                refine XS.iconst X20.here X20.hx rfl (X20.cd at_209)  ?_
                show Steps p.tables e below (T20.setTop (mkF m 210 #[.val (.int i0), .val (.int i1), .val (.int i2), .val (.int i3), .val (.int i4), .val (.int i5), .val (.ref r_1), .val (.int r2_0), .val (.ref b3), .val (.ref b6), .val (.int ((XT.ushr i1 (1 : Int32)) &&& (3 : Int32))), .val (.ref b9), .val (.ref b11), .val (.int r_14), .unset] [(.int (0 : Int32))])) t
                refine XS.istore X20.here X20.hx rfl (X20.cd at_210) rfl (l' := #[.val (.int i0), .val (.int i1), .val (.int i2), .val (.int i3), .val (.int i4), .val (.int i5), .val (.ref r_1), .val (.int r2_0), .val (.ref b3), .val (.ref b6), .val (.int ((XT.ushr i1 (1 : Int32)) &&& (3 : Int32))), .val (.ref b9), .val (.ref b11), .val (.int r_14), .val (.int (0 : Int32))]) rfl ?_
                show Steps p.tables e below (T20.setTop (mkF m 212 #[.val (.int i0), .val (.int i1), .val (.int i2), .val (.int i3), .val (.int i4), .val (.int i5), .val (.ref r_1), .val (.int r2_0), .val (.ref b3), .val (.ref b6), .val (.int ((XT.ushr i1 (1 : Int32)) &&& (3 : Int32))), .val (.ref b9), .val (.ref b11), .val (.int r_14), .val (.int (0 : Int32))] [])) t
                exact k
    refine Go.by (fun _ k => st16 _ k) ?_
    show Go _ _ _ _ (T16.setTop (mkF m 212 #[.val (.int i0), .val (.int i1), .val (.int i2), .val (.int i3), .val (.int i4), .val (.int i5), .val (.ref r_1), .val (.int r2_0), .val (.ref b3), .val (.ref b6), .val (.int ((XT.ushr i1 (1 : Int32)) &&& (3 : Int32))), .val (.ref b9), .val (.ref b11), .val (.int r_14), .val (.int r16_0)] []))
    simp only [Value.ref.injEq] at hr16
    have hfin : r_14 = r16_0 := own_fin hk1 hk2 hk3 hk4 (p1_0 ▸ own_pick_r sk0 sk1 sk2 sk3 sk4 i0) p14_0 hr16
    refine Go.by (fun _ k => XS.iload X16.here X16.hx rfl (X16.cd at_212) rfl  k) ?_
    show Go _ _ _ _ (T16.setTop (mkF m 214 #[.val (.int i0), .val (.int i1), .val (.int i2), .val (.int i3), .val (.int i4), .val (.int i5), .val (.ref r_1), .val (.int r2_0), .val (.ref b3), .val (.ref b6), .val (.int ((XT.ushr i1 (1 : Int32)) &&& (3 : Int32))), .val (.ref b9), .val (.ref b11), .val (.int r_14), .val (.int r16_0)] [(.int r_14)]))
    refine Go.by (fun _ k => XS.iload X16.here X16.hx rfl (X16.cd at_214) rfl  k) ?_
    show Go _ _ _ _ (T16.setTop (mkF m 216 #[.val (.int i0), .val (.int i1), .val (.int i2), .val (.int i3), .val (.int i4), .val (.int i5), .val (.ref r_1), .val (.int r2_0), .val (.ref b3), .val (.ref b6), .val (.int ((XT.ushr i1 (1 : Int32)) &&& (3 : Int32))), .val (.ref b9), .val (.ref b11), .val (.int r_14), .val (.int r16_0)] [(.int r16_0), (.int r_14)]))
    refine Go.by (fun _ k => XS.icmpNo X16.here X16.hx rfl (X16.cd at_216) rfl (XT.ii_ne_f hfin) k) ?_
    show Go _ _ _ _ (T16.setTop (mkF m 219 #[.val (.int i0), .val (.int i1), .val (.int i2), .val (.int i3), .val (.int i4), .val (.int i5), .val (.ref r_1), .val (.int r2_0), .val (.ref b3), .val (.ref b6), .val (.int ((XT.ushr i1 (1 : Int32)) &&& (3 : Int32))), .val (.ref b9), .val (.ref b11), .val (.int r_14), .val (.int r16_0)] []))
    refine Go.by (fun _ k => XS.iconst X16.here X16.hx rfl (X16.cd at_219)  k) ?_
    show Go _ _ _ _ (T16.setTop (mkF m 220 #[.val (.int i0), .val (.int i1), .val (.int i2), .val (.int i3), .val (.int i4), .val (.int i5), .val (.ref r_1), .val (.int r2_0), .val (.ref b3), .val (.ref b6), .val (.int ((XT.ushr i1 (1 : Int32)) &&& (3 : Int32))), .val (.ref b9), .val (.ref b11), .val (.int r_14), .val (.int r16_0)] [(.int (1 : Int32))]))
    refine Go.by (fun _ k => XS.goto X16.here X16.hx rfl (pc0 := 220) (pc' := 224) rfl (X16.cd at_220) (by decide) (by decide) k) ?_
    show Go _ _ _ _ (T16.setTop (mkF m 224 #[.val (.int i0), .val (.int i1), .val (.int i2), .val (.int i3), .val (.int i4), .val (.int i5), .val (.ref r_1), .val (.int r2_0), .val (.ref b3), .val (.ref b6), .val (.int ((XT.ushr i1 (1 : Int32)) &&& (3 : Int32))), .val (.ref b9), .val (.ref b11), .val (.int r_14), .val (.int r16_0)] [(.int (1 : Int32))]))
    exact X16.retN (by simp) rfl at_224 K0_h13 rfl (by decide) (by decide)
  · refine Go.by (fun _ k => XS.icmpNo X10.here X10.hx rfl (X10.cd at_74) rfl (XT.ii_lt_f cn) k) ?_
    show Go _ _ _ _ (T10.setTop (mkF m 77 #[.val (.int i0), .val (.int i1), .val (.int i2), .val (.int i3), .val (.int i4), .val (.int i5), .val (.ref r_1), .val (.int r2_0), .val (.ref b3), .val (.ref b6), .val (.int ((XT.ushr i1 (1 : Int32)) &&& (3 : Int32))), .val (.ref b9), .unset, .unset, .unset] []))
    refine Go.by (fun _ k => XS.aload X10.here X10.hx rfl (X10.cd at_77) rfl rfl k) ?_
    show Go _ _ _ _ (T10.setTop (mkF m 79 #[.val (.int i0), .val (.int i1), .val (.int i2), .val (.int i3), .val (.int i4), .val (.int i5), .val (.ref r_1), .val (.int r2_0), .val (.ref b3), .val (.ref b6), .val (.int ((XT.ushr i1 (1 : Int32)) &&& (3 : Int32))), .val (.ref b9), .unset, .unset, .unset] [(.ref b9)]))
    refine Go.by (fun _ k => XS.iload X10.here X10.hx rfl (X10.cd at_79) rfl  k) ?_
    show Go _ _ _ _ (T10.setTop (mkF m 81 #[.val (.int i0), .val (.int i1), .val (.int i2), .val (.int i3), .val (.int i4), .val (.int i5), .val (.ref r_1), .val (.int r2_0), .val (.ref b3), .val (.ref b6), .val (.int ((XT.ushr i1 (1 : Int32)) &&& (3 : Int32))), .val (.ref b9), .unset, .unset, .unset] [(.int i4), (.ref b9)]))
    obtain ⟨_, T21, h21, X21, K21, ⟨r_21, rfl, rfl, p21_0⟩, st21⟩ := X10.stN (W := 1) (hw _ (List.mem_of_getElem? (i := 0) rfl)) (hw _ (List.mem_of_getElem? (i := 1) rfl)) (hw _ (List.mem_of_getElem? (i := 2) rfl)) (hw _ (List.mem_of_getElem? (i := 3) rfl)) (by decide) ((rm_pick l Z a0 hw n0 i4 sk0 sk1 sk2 sk3 sk4 h10 X10.old Sk0 Sk1 Sk2 Sk3 Sk4).pay (hw _ (List.mem_of_getElem? (i := 3) rfl)) (hw _ (List.mem_of_getElem? (i := 2) rfl)) (by decide) (by decide)) all0 (g := (mkF m 81 #[.val (.int i0), .val (.int i1), .val (.int i2), .val (.int i3), .val (.int i4), .val (.int i5), .val (.ref r_1), .val (.int r2_0), .val (.ref b3), .val (.ref b6), .val (.int ((XT.ushr i1 (1 : Int32)) &&& (3 : Int32))), .val (.ref b9), .unset, .unset, .unset] [(.int i4), (.ref b9)])) rfl rfl (argsL := [(.int i4)]) (rest := [(.ref b9)]) (lenOf pd_5 rfl) rfl (by exact Nat.le_of_eq rfl) at_81 rfl (by decide) (by decide)
    refine Go.tr st21 ?_
    show Go _ _ _ _ (T21.setTop (mkF m 84 #[.val (.int i0), .val (.int i1), .val (.int i2), .val (.int i3), .val (.int i4), .val (.int i5), .val (.ref r_1), .val (.int r2_0), .val (.ref b3), .val (.ref b6), .val (.int ((XT.ushr i1 (1 : Int32)) &&& (3 : Int32))), .val (.ref b9), .unset, .unset, .unset] [(.ref r_21), (.ref b9)]))
    have f22 : Exa Z h10 r_21 "com/example/cinderpath/cinderpath/ir/ScalarType" := (show Exa Z Z.heap r_21 "com/example/cinderpath/cinderpath/ir/ScalarType" from (by rw [p21_0]; exact Ek _)).ext X21.old.2
    have f23 : Ins Z h10 r_21 "java/lang/Object" true := (Ins.of_exa f22 (hw _ (List.mem_of_getElem? (i := 96) rfl)))
    have f24 : Exa Z h10 b9 "java/util/ArrayList" := (A9).keep K10
    have f26 : Str Z h10 b6 t_8 [(((i2 &&& (255 : Int32))).toUInt32.toUInt16.toUInt32.toInt32), (((i3 &&& (255 : Int32))).toUInt32.toUInt16.toUInt32.toInt32)] := (P8_0.ext E9).keep K10 (ninS ne_b6_b9 nin0) (ninS ne_t_8_b9 nin0)
    have lt_b3_25 := (X21.lt (.tail _ (.tail _ (.head _))))
    have lt_b6_25 := (X21.lt (.tail _ (.head _)))
    have lt_t_8_25 := f26.ltT
    have lt_b9_25 := (X21.lt (.head _))
    have lt_r_21_25 := f22.lt
    obtain ⟨_, T25, h25, X25, K25, ⟨ea_25, ke_25, rfl, fr_ea_25, fl_ea_25, P25_0, P25_1, P25_2, P25_3, p25_0⟩, st25⟩ := X21.ifN (y' := (⟨"java/util/List", "add", "(Ljava/lang/Object;)Z"⟩ : MethodName)) (z' := (⟨"java/util/ArrayList", "add", "(Ljava/lang/Object;)Z"⟩ : MethodName)) (W := 0) (hw _ (List.mem_of_getElem? (i := 62) rfl)) (hw _ (List.mem_of_getElem? (i := 63) rfl)) (hw _ (List.mem_of_getElem? (i := 64) rfl)) rfl (hw _ (List.mem_of_getElem? (i := 65) rfl)) (hw _ (List.mem_of_getElem? (i := 66) rfl)) (hw _ (List.mem_of_getElem? (i := 67) rfl)) (hw _ (List.mem_of_getElem? (i := 68) rfl)) (hw _ (List.mem_of_getElem? (i := 69) rfl)) (by decide) ((rm_ad1 l Z a0 hw n0 b9 r_21 (0 : Int32) dd kd h10 X21.old f24 P10_0 P10_1 P10_2 f23 Sd Ad (X21.ge (.head _)) (X21.lt (.head _))).pay (hw _ (List.mem_of_getElem? (i := 70) rfl)) (hw _ (List.mem_of_getElem? (i := 40) rfl)) (by decide) (by decide)) (allS (.head _) all0) f24 (g := (mkF m 84 #[.val (.int i0), .val (.int i1), .val (.int i2), .val (.int i3), .val (.int i4), .val (.int i5), .val (.ref r_1), .val (.int r2_0), .val (.ref b3), .val (.ref b6), .val (.int ((XT.ushr i1 (1 : Int32)) &&& (3 : Int32))), .val (.ref b9), .unset, .unset, .unset] [(.ref r_21), (.ref b9)])) rfl rfl (argsL := [(.ref r_21)]) (rest := []) (lenOf pd_9 rfl) rfl (by exact Nat.le_of_eq rfl) at_84 rfl (by decide) (by decide)
    refine Go.tr st25 ?_
    have K0_h25 : Keep h0 h25 [] := K0_h10.trans K25 (allS (Or.inr sz_b9) all0)
    have ne_b3_ea_25 : b3 ≠ ea_25 := ne_ge lt_b3_25 fr_ea_25
    have ne_b6_ea_25 : b6 ≠ ea_25 := ne_ge lt_b6_25 fr_ea_25
    have ne_t_8_ea_25 : t_8 ≠ ea_25 := ne_ge lt_t_8_25 fr_ea_25
    have ne_b9_ea_25 : b9 ≠ ea_25 := ne_ge lt_b9_25 fr_ea_25
    have ne_r_21_ea_25 : r_21 ≠ ea_25 := ne_ge lt_r_21_25 fr_ea_25
    have sz_ea_25 : h0.size ≤ ea_25 := Nat.le_trans X21.sz fr_ea_25
    show Go _ _ _ _ (T25.setTop (mkF m 89 #[.val (.int i0), .val (.int i1), .val (.int i2), .val (.int i3), .val (.int i4), .val (.int i5), .val (.ref r_1), .val (.int r2_0), .val (.ref b3), .val (.ref b6), .val (.int ((XT.ushr i1 (1 : Int32)) &&& (3 : Int32))), .val (.ref b9), .unset, .unset, .unset] [(.int (1 : Int32))]))
    refine Go.by (fun _ k => XS.pop X25.here X25.hx rfl (X25.cd at_89) rfl rfl k) ?_
    show Go _ _ _ _ (T25.setTop (mkF m 90 #[.val (.int i0), .val (.int i1), .val (.int i2), .val (.int i3), .val (.int i4), .val (.int i5), .val (.ref r_1), .val (.int r2_0), .val (.ref b3), .val (.ref b6), .val (.int ((XT.ushr i1 (1 : Int32)) &&& (3 : Int32))), .val (.ref b9), .unset, .unset, .unset] []))
    refine Go.by (fun _ k => XS.iload X25.here X25.hx rfl (X25.cd at_90) rfl  k) ?_
    show Go _ _ _ _ (T25.setTop (mkF m 92 #[.val (.int i0), .val (.int i1), .val (.int i2), .val (.int i3), .val (.int i4), .val (.int i5), .val (.ref r_1), .val (.int r2_0), .val (.ref b3), .val (.ref b6), .val (.int ((XT.ushr i1 (1 : Int32)) &&& (3 : Int32))), .val (.ref b9), .unset, .unset, .unset] [(.int ((XT.ushr i1 (1 : Int32)) &&& (3 : Int32)))]))
    refine Go.by (fun _ k => XS.iconst X25.here X25.hx rfl (X25.cd at_92)  k) ?_
    show Go _ _ _ _ (T25.setTop (mkF m 93 #[.val (.int i0), .val (.int i1), .val (.int i2), .val (.int i3), .val (.int i4), .val (.int i5), .val (.ref r_1), .val (.int r2_0), .val (.ref b3), .val (.ref b6), .val (.int ((XT.ushr i1 (1 : Int32)) &&& (3 : Int32))), .val (.ref b9), .unset, .unset, .unset] [(.int (2 : Int32)), (.int ((XT.ushr i1 (1 : Int32)) &&& (3 : Int32)))]))
    by_cases cm : ((XT.ushr i1 (1 : Int32)) &&& (3 : Int32)) < (2 : Int32)
    · refine Go.by (fun _ k => XS.icmpYes X25.here X25.hx rfl (pc0 := 93) (pc' := 118) rfl (X25.cd at_93) rfl (XT.ii_lt_t cm) (by decide) (by decide) k) ?_
      show Go _ _ _ _ (T25.setTop (mkF m 118 #[.val (.int i0), .val (.int i1), .val (.int i2), .val (.int i3), .val (.int i4), .val (.int i5), .val (.ref r_1), .val (.int r2_0), .val (.ref b3), .val (.ref b6), .val (.int ((XT.ushr i1 (1 : Int32)) &&& (3 : Int32))), .val (.ref b9), .unset, .unset, .unset] []))
      have f28 : Str Z h25 b6 t_8 [(((i2 &&& (255 : Int32))).toUInt32.toUInt16.toUInt32.toInt32), (((i3 &&& (255 : Int32))).toUInt32.toUInt16.toUInt32.toInt32)] := (f26).keep K25 (ninS ne_b6_b9 nin0) (ninS ne_t_8_b9 nin0)
      have f29 : Exa Z h25 r_21 "com/example/cinderpath/cinderpath/ir/ScalarType" := (show Exa Z Z.heap r_21 "com/example/cinderpath/cinderpath/ir/ScalarType" from (by rw [p21_0]; exact Ek _)).ext X25.old.2
      have lt_b3_27 := (X25.lt (.tail _ (.tail _ (.head _))))
      have lt_b6_27 := (X25.lt (.tail _ (.head _)))
      have lt_t_8_27 := f28.ltT
      have lt_b9_27 := (X25.lt (.head _))
      have lt_r_21_27 := f29.lt
      have lt_ea_25_27 := P25_3.lt
      obtain ⟨T27, h27, b27, g_b27, X27, E27, A27, D27, st27⟩ := X25.new (hw _ (List.mem_of_getElem? (i := 97) rfl)) (hw _ (List.mem_of_getElem? (i := 98) rfl)) (hw _ (List.mem_of_getElem? (i := 99) rfl)) (g := (mkF m 118 #[.val (.int i0), .val (.int i1), .val (.int i2), .val (.int i3), .val (.int i4), .val (.int i5), .val (.ref r_1), .val (.int r2_0), .val (.ref b3), .val (.ref b6), .val (.int ((XT.ushr i1 (1 : Int32)) &&& (3 : Int32))), .val (.ref b9), .unset, .unset, .unset] [])) rfl at_118 (by decide) (by decide)
      refine Go.by st27 ?_
      have ne_b3_b27 : b3 ≠ b27 := ne_new lt_b3_27 g_b27
      have ne_b6_b27 : b6 ≠ b27 := ne_new lt_b6_27 g_b27
      have ne_t_8_b27 : t_8 ≠ b27 := ne_new lt_t_8_27 g_b27
      have ne_b9_b27 : b9 ≠ b27 := ne_new lt_b9_27 g_b27
      have ne_r_21_b27 : r_21 ≠ b27 := ne_new lt_r_21_27 g_b27
      have ne_ea_25_b27 : ea_25 ≠ b27 := ne_new lt_ea_25_27 g_b27
      have sz_b27 : h0.size ≤ b27 := Nat.le_trans X25.sz (Nat.le_of_eq g_b27.symm)
      have K0_h27 : Keep h0 h27 [] := K0_h25.ext E27
      have F27_name : Fld Z h27 b27 "com/example/cinderpath/cinderpath/ir/Signature" "name" "Ljava/lang/String;" .null := D27 (Or.inr (hw _ (List.mem_of_getElem? (i := 110) rfl))) (ty := (.object "java/lang/String")) (by decide)
      have F27_result : Fld Z h27 b27 "com/example/cinderpath/cinderpath/ir/Signature" "result" "Lcom/example/cinderpath/cinderpath/ir/ScalarType;" .null := D27 (Or.inr (hw _ (List.mem_of_getElem? (i := 112) rfl))) (ty := (.object "com/example/cinderpath/cinderpath/ir/ScalarType")) (by decide)
      have F27_parameters : Fld Z h27 b27 "com/example/cinderpath/cinderpath/ir/Signature" "parameters" "Ljava/util/List;" .null := D27 (Or.inr (hw _ (List.mem_of_getElem? (i := 114) rfl))) (ty := (.object "java/util/List")) (by decide)
      have F27_builtin : Fld Z h27 b27 "com/example/cinderpath/cinderpath/ir/Signature" "builtin" "Z" (.int (0 : Int32)) := D27 (Or.inr (hw _ (List.mem_of_getElem? (i := 116) rfl))) (ty := .boolean) (by decide)
      show Go _ _ _ _ (T27.setTop (mkF m 121 #[.val (.int i0), .val (.int i1), .val (.int i2), .val (.int i3), .val (.int i4), .val (.int i5), .val (.ref r_1), .val (.int r2_0), .val (.ref b3), .val (.ref b6), .val (.int ((XT.ushr i1 (1 : Int32)) &&& (3 : Int32))), .val (.ref b9), .unset, .unset, .unset] [(.ref b27)]))
      refine Go.by (fun _ k => XS.dup X27.here X27.hx rfl (X27.cd at_121) rfl rfl k) ?_
      show Go _ _ _ _ (T27.setTop (mkF m 122 #[.val (.int i0), .val (.int i1), .val (.int i2), .val (.int i3), .val (.int i4), .val (.int i5), .val (.ref r_1), .val (.int r2_0), .val (.ref b3), .val (.ref b6), .val (.int ((XT.ushr i1 (1 : Int32)) &&& (3 : Int32))), .val (.ref b9), .unset, .unset, .unset] [(.ref b27), (.ref b27)]))
      refine Go.by (fun _ k => XS.aload X27.here X27.hx rfl (X27.cd at_122) rfl rfl k) ?_
      show Go _ _ _ _ (T27.setTop (mkF m 124 #[.val (.int i0), .val (.int i1), .val (.int i2), .val (.int i3), .val (.int i4), .val (.int i5), .val (.ref r_1), .val (.int r2_0), .val (.ref b3), .val (.ref b6), .val (.int ((XT.ushr i1 (1 : Int32)) &&& (3 : Int32))), .val (.ref b9), .unset, .unset, .unset] [(.ref b6), (.ref b27), (.ref b27)]))
      refine Go.by (fun _ k => XS.aload X27.here X27.hx rfl (X27.cd at_124) rfl rfl k) ?_
      show Go _ _ _ _ (T27.setTop (mkF m 126 #[.val (.int i0), .val (.int i1), .val (.int i2), .val (.int i3), .val (.int i4), .val (.int i5), .val (.ref r_1), .val (.int r2_0), .val (.ref b3), .val (.ref b6), .val (.int ((XT.ushr i1 (1 : Int32)) &&& (3 : Int32))), .val (.ref b9), .unset, .unset, .unset] [(.ref r_1), (.ref b6), (.ref b27), (.ref b27)]))
      refine Go.by (fun _ k => XS.aload X27.here X27.hx rfl (X27.cd at_126) rfl rfl k) ?_
      show Go _ _ _ _ (T27.setTop (mkF m 128 #[.val (.int i0), .val (.int i1), .val (.int i2), .val (.int i3), .val (.int i4), .val (.int i5), .val (.ref r_1), .val (.int r2_0), .val (.ref b3), .val (.ref b6), .val (.int ((XT.ushr i1 (1 : Int32)) &&& (3 : Int32))), .val (.ref b9), .unset, .unset, .unset] [(.ref b9), (.ref r_1), (.ref b6), (.ref b27), (.ref b27)]))
      refine Go.by (fun _ k => XS.iload X27.here X27.hx rfl (X27.cd at_128) rfl  k) ?_
      show Go _ _ _ _ (T27.setTop (mkF m 130 #[.val (.int i0), .val (.int i1), .val (.int i2), .val (.int i3), .val (.int i4), .val (.int i5), .val (.ref r_1), .val (.int r2_0), .val (.ref b3), .val (.ref b6), .val (.int ((XT.ushr i1 (1 : Int32)) &&& (3 : Int32))), .val (.ref b9), .unset, .unset, .unset] [(.int r2_0), (.ref b9), (.ref r_1), (.ref b6), (.ref b27), (.ref b27)]))
      obtain ⟨_, T30, h30, X30, K30, ⟨rfl, P30_0, P30_1⟩, st30⟩ := X27.spN (W := 1) rfl (hw _ (List.mem_of_getElem? (i := 100) rfl)) (hw _ (List.mem_of_getElem? (i := 101) rfl)) (hw _ (List.mem_of_getElem? (i := 102) rfl)) (by decide) ((rm_sgi l Z a0 hw n0 b27 b6 r_1 b9 r2_0 .null .null .null (.int (0 : Int32)) h27 X27.old A27 F27_name F27_result F27_parameters F27_builtin hb2 (X27.ge (.head _)) (X27.lt (.head _))).pay (hw _ (List.mem_of_getElem? (i := 102) rfl)) (hw _ (List.mem_of_getElem? (i := 99) rfl)) (by decide) (by decide)) (allS (.head _) all0) (g := (mkF m 130 #[.val (.int i0), .val (.int i1), .val (.int i2), .val (.int i3), .val (.int i4), .val (.int i5), .val (.ref r_1), .val (.int r2_0), .val (.ref b3), .val (.ref b6), .val (.int ((XT.ushr i1 (1 : Int32)) &&& (3 : Int32))), .val (.ref b9), .unset, .unset, .unset] [(.int r2_0), (.ref b9), (.ref r_1), (.ref b6), (.ref b27), (.ref b27)])) rfl rfl (a := b27) (argsL := [(.ref b6), (.ref r_1), (.ref b9), (.int r2_0)]) (rest := [(.ref b27)]) (lenOf pd_7 rfl) rfl (by exact Nat.le_of_eq rfl) at_130 rfl (by decide) (by decide)
      refine Go.tr st30 ?_
      have K0_h30 : Keep h0 h30 [] := K0_h27.trans K30 (allS (Or.inr sz_b27) all0)
      show Go _ _ _ _ (T30.setTop (mkF m 133 #[.val (.int i0), .val (.int i1), .val (.int i2), .val (.int i3), .val (.int i4), .val (.int i5), .val (.ref r_1), .val (.int r2_0), .val (.ref b3), .val (.ref b6), .val (.int ((XT.ushr i1 (1 : Int32)) &&& (3 : Int32))), .val (.ref b9), .unset, .unset, .unset] [(.ref b27)]))
      refine Go.by (fun _ k => XS.astore X30.here X30.hx rfl (X30.cd at_133) rfl rfl (l' := #[.val (.int i0), .val (.int i1), .val (.int i2), .val (.int i3), .val (.int i4), .val (.int i5), .val (.ref r_1), .val (.int r2_0), .val (.ref b3), .val (.ref b6), .val (.int ((XT.ushr i1 (1 : Int32)) &&& (3 : Int32))), .val (.ref b9), .val (.ref b27), .unset, .unset]) rfl k) ?_
      show Go _ _ _ _ (T30.setTop (mkF m 135 #[.val (.int i0), .val (.int i1), .val (.int i2), .val (.int i3), .val (.int i4), .val (.int i5), .val (.ref r_1), .val (.int r2_0), .val (.ref b3), .val (.ref b6), .val (.int ((XT.ushr i1 (1 : Int32)) &&& (3 : Int32))), .val (.ref b9), .val (.ref b27), .unset, .unset] []))
      refine Go.by (fun _ k => XS.aload X30.here X30.hx rfl (X30.cd at_135) rfl rfl k) ?_
      show Go _ _ _ _ (T30.setTop (mkF m 137 #[.val (.int i0), .val (.int i1), .val (.int i2), .val (.int i3), .val (.int i4), .val (.int i5), .val (.ref r_1), .val (.int r2_0), .val (.ref b3), .val (.ref b6), .val (.int ((XT.ushr i1 (1 : Int32)) &&& (3 : Int32))), .val (.ref b9), .val (.ref b27), .unset, .unset] [(.ref b27)]))
      have f32 : Exa Z h30 b27 "com/example/cinderpath/cinderpath/ir/Signature" := (A27).keep K30
      obtain ⟨_, T31, h31, X31, K31, ⟨r_31, rfl, rfl, p31_0⟩, st31⟩ := X30.viN (W := 0) (hw _ (List.mem_of_getElem? (i := 117) rfl)) (hw _ (List.mem_of_getElem? (i := 118) rfl)) (hw _ (List.mem_of_getElem? (i := 120) rfl)) (hw _ (List.mem_of_getElem? (i := 119) rfl)) (by decide) ((rm_ri l Z a0 hw n0 b27 r_1 r2_0 sk0 sk1 sk2 sk3 sk4 h30 X30.old P30_0 P30_1 Sk0 Sk1 Sk2 Sk3 Sk4).pay (hw _ (List.mem_of_getElem? (i := 121) rfl)) (hw _ (List.mem_of_getElem? (i := 99) rfl)) (by decide) (by decide)) all0 f32 (g := (mkF m 137 #[.val (.int i0), .val (.int i1), .val (.int i2), .val (.int i3), .val (.int i4), .val (.int i5), .val (.ref r_1), .val (.int r2_0), .val (.ref b3), .val (.ref b6), .val (.int ((XT.ushr i1 (1 : Int32)) &&& (3 : Int32))), .val (.ref b9), .val (.ref b27), .unset, .unset] [(.ref b27)])) rfl rfl (argsL := []) (rest := []) (lenOf pd_8 rfl) rfl (by exact Nat.le_of_eq rfl) at_137 rfl (by decide) (by decide)
      refine Go.tr st31 ?_
      show Go _ _ _ _ (T31.setTop (mkF m 140 #[.val (.int i0), .val (.int i1), .val (.int i2), .val (.int i3), .val (.int i4), .val (.int i5), .val (.ref r_1), .val (.int r2_0), .val (.ref b3), .val (.ref b6), .val (.int ((XT.ushr i1 (1 : Int32)) &&& (3 : Int32))), .val (.ref b9), .val (.ref b27), .unset, .unset] [(.int r_31)]))
      refine Go.by (fun _ k => XS.istore X31.here X31.hx rfl (X31.cd at_140) rfl (l' := #[.val (.int i0), .val (.int i1), .val (.int i2), .val (.int i3), .val (.int i4), .val (.int i5), .val (.ref r_1), .val (.int r2_0), .val (.ref b3), .val (.ref b6), .val (.int ((XT.ushr i1 (1 : Int32)) &&& (3 : Int32))), .val (.ref b9), .val (.ref b27), .val (.int r_31), .unset]) rfl k) ?_
      show Go _ _ _ _ (T31.setTop (mkF m 142 #[.val (.int i0), .val (.int i1), .val (.int i2), .val (.int i3), .val (.int i4), .val (.int i5), .val (.ref r_1), .val (.int r2_0), .val (.ref b3), .val (.ref b6), .val (.int ((XT.ushr i1 (1 : Int32)) &&& (3 : Int32))), .val (.ref b9), .val (.ref b27), .val (.int r_31), .unset] []))
      refine Go.by (fun _ k => XS.iload X31.here X31.hx rfl (X31.cd at_142) rfl  k) ?_
      show Go _ _ _ _ (T31.setTop (mkF m 144 #[.val (.int i0), .val (.int i1), .val (.int i2), .val (.int i3), .val (.int i4), .val (.int i5), .val (.ref r_1), .val (.int r2_0), .val (.ref b3), .val (.ref b6), .val (.int ((XT.ushr i1 (1 : Int32)) &&& (3 : Int32))), .val (.ref b9), .val (.ref b27), .val (.int r_31), .unset] [(.int r2_0)]))
      obtain ⟨T33, r33_0, X33, hr33, st33⟩ : ∃ (T33 : State) (r33_0 : Int32), Wk false p l e room_1 s m #[(.int i0), (.int i1), (.int i2), (.int i3), (.int i4), (.int i5)] below meth c Z [] x code 15 (some .boolean) n0 h0 T33 h30 [b27, b9, b6, b3] 6 25 ∧ (((r2_0 = 0) ∧ r33_0 = (0 : Int32)) ∨ (¬ (r2_0 = 0) ∧ ((Value.ref r_1) = (Value.ref sk1)) ∧ r33_0 = (1 : Int32)) ∨ (¬ (r2_0 = 0) ∧ ¬ ((Value.ref r_1) = (Value.ref sk1)) ∧ ((Value.ref r_1) = (Value.ref sk2)) ∧ r33_0 = (1 : Int32)) ∨ (¬ (r2_0 = 0) ∧ ¬ ((Value.ref r_1) = (Value.ref sk1)) ∧ ¬ ((Value.ref r_1) = (Value.ref sk2)) ∧ ((Value.ref r_1) = (Value.ref sk3)) ∧ r33_0 = (1 : Int32)) ∨ (¬ (r2_0 = 0) ∧ ¬ ((Value.ref r_1) = (Value.ref sk1)) ∧ ¬ ((Value.ref r_1) = (Value.ref sk2)) ∧ ¬ ((Value.ref r_1) = (Value.ref sk3)) ∧ ((Value.ref r_1) = (Value.ref sk4)) ∧ r33_0 = (1 : Int32)) ∨ (¬ (r2_0 = 0) ∧ ¬ ((Value.ref r_1) = (Value.ref sk1)) ∧ ¬ ((Value.ref r_1) = (Value.ref sk2)) ∧ ¬ ((Value.ref r_1) = (Value.ref sk3)) ∧ ¬ ((Value.ref r_1) = (Value.ref sk4)) ∧ r33_0 = (0 : Int32))) ∧ ∀ t, Steps p.tables e below (T33.setTop (mkF m 212 #[.val (.int i0), .val (.int i1), .val (.int i2), .val (.int i3), .val (.int i4), .val (.int i5), .val (.ref r_1), .val (.int r2_0), .val (.ref b3), .val (.ref b6), .val (.int ((XT.ushr i1 (1 : Int32)) &&& (3 : Int32))), .val (.ref b9), .val (.ref b27), .val (.int r_31), .val (.int r33_0)] [])) t → Steps p.tables e below (T31.setTop (mkF m 144 #[.val (.int i0), .val (.int i1), .val (.int i2), .val (.int i3), .val (.int i4), .val (.int i5), .val (.ref r_1), .val (.int r2_0), .val (.ref b3), .val (.ref b6), .val (.int ((XT.ushr i1 (1 : Int32)) &&& (3 : Int32))), .val (.ref b9), .val (.ref b27), .val (.int r_31), .unset] [(.int r2_0)])) t := by
        by_cases c33_0 : r2_0 = 0
        · refine ⟨T31, (0 : Int32), X31, Or.inl ⟨c33_0, rfl⟩, fun t k => ?_⟩
          refine XS.ifNo X31.here X31.hx rfl (X31.cd at_144) rfl (XT.i0_ne_f c33_0) ?_
          show Steps p.tables e below (T31.setTop (mkF m 147 #[.val (.int i0), .val (.int i1), .val (.int i2), .val (.int i3), .val (.int i4), .val (.int i5), .val (.ref r_1), .val (.int r2_0), .val (.ref b3), .val (.ref b6), .val (.int ((XT.ushr i1 (1 : Int32)) &&& (3 : Int32))), .val (.ref b9), .val (.ref b27), .val (.int r_31), .unset] [])) t
          refine XS.iconst X31.here X31.hx rfl (X31.cd at_147)  ?_
          show Steps p.tables e below (T31.setTop (mkF m 148 #[.val (.int i0), .val (.int i1), .val (.int i2), .val (.int i3), .val (.int i4), .val (.int i5), .val (.ref r_1), .val (.int r2_0), .val (.ref b3), .val (.ref b6), .val (.int ((XT.ushr i1 (1 : Int32)) &&& (3 : Int32))), .val (.ref b9), .val (.ref b27), .val (.int r_31), .unset] [(.int (0 : Int32))])) t
          refine XS.istore X31.here X31.hx rfl (X31.cd at_148) rfl (l' := #[.val (.int i0), .val (.int i1), .val (.int i2), .val (.int i3), .val (.int i4), .val (.int i5), .val (.ref r_1), .val (.int r2_0), .val (.ref b3), .val (.ref b6), .val (.int ((XT.ushr i1 (1 : Int32)) &&& (3 : Int32))), .val (.ref b9), .val (.ref b27), .val (.int r_31), .val (.int (0 : Int32))]) rfl ?_
          show Steps p.tables e below (T31.setTop (mkF m 150 #[.val (.int i0), .val (.int i1), .val (.int i2), .val (.int i3), .val (.int i4), .val (.int i5), .val (.ref r_1), .val (.int r2_0), .val (.ref b3), .val (.ref b6), .val (.int ((XT.ushr i1 (1 : Int32)) &&& (3 : Int32))), .val (.ref b9), .val (.ref b27), .val (.int r_31), .val (.int (0 : Int32))] [])) t
          refine XS.goto X31.here X31.hx rfl (pc0 := 150) (pc' := 212) rfl (X31.cd at_150) (by decide) (by decide) ?_
          show Steps p.tables e below (T31.setTop (mkF m 212 #[.val (.int i0), .val (.int i1), .val (.int i2), .val (.int i3), .val (.int i4), .val (.int i5), .val (.ref r_1), .val (.int r2_0), .val (.ref b3), .val (.ref b6), .val (.int ((XT.ushr i1 (1 : Int32)) &&& (3 : Int32))), .val (.ref b9), .val (.ref b27), .val (.int r_31), .val (.int (0 : Int32))] [])) t
          exact k
        · obtain ⟨T34, X34, st34⟩ := X31.getS (hw _ (List.mem_of_getElem? (i := 123) rfl)) Via.refl Sk1 (g := (mkF m 155 #[.val (.int i0), .val (.int i1), .val (.int i2), .val (.int i3), .val (.int i4), .val (.int i5), .val (.ref r_1), .val (.int r2_0), .val (.ref b3), .val (.ref b6), .val (.int ((XT.ushr i1 (1 : Int32)) &&& (3 : Int32))), .val (.ref b9), .val (.ref b27), .val (.int r_31), .unset] [(.ref r_1)])) rfl at_155
          by_cases c33_1 : (Value.ref r_1) = (Value.ref sk1)
          · refine ⟨T34, (1 : Int32), X34, Or.inr (Or.inl ⟨c33_0, c33_1, rfl⟩), fun t k => ?_⟩
            refine XS.ifYes X31.here X31.hx rfl (pc0 := 144) (pc' := 153) rfl (X31.cd at_144) rfl (XT.i0_ne_t c33_0) (by decide) (by decide) ?_
            show Steps p.tables e below (T31.setTop (mkF m 153 #[.val (.int i0), .val (.int i1), .val (.int i2), .val (.int i3), .val (.int i4), .val (.int i5), .val (.ref r_1), .val (.int r2_0), .val (.ref b3), .val (.ref b6), .val (.int ((XT.ushr i1 (1 : Int32)) &&& (3 : Int32))), .val (.ref b9), .val (.ref b27), .val (.int r_31), .unset] [])) t
            refine XS.aload X31.here X31.hx rfl (X31.cd at_153) rfl rfl ?_
            show Steps p.tables e below (T31.setTop (mkF m 155 #[.val (.int i0), .val (.int i1), .val (.int i2), .val (.int i3), .val (.int i4), .val (.int i5), .val (.ref r_1), .val (.int r2_0), .val (.ref b3), .val (.ref b6), .val (.int ((XT.ushr i1 (1 : Int32)) &&& (3 : Int32))), .val (.ref b9), .val (.ref b27), .val (.int r_31), .unset] [(.ref r_1)])) t
            refine st34 _ ?_
            show Steps p.tables e below (T34.setTop (mkF m 158 #[.val (.int i0), .val (.int i1), .val (.int i2), .val (.int i3), .val (.int i4), .val (.int i5), .val (.ref r_1), .val (.int r2_0), .val (.ref b3), .val (.ref b6), .val (.int ((XT.ushr i1 (1 : Int32)) &&& (3 : Int32))), .val (.ref b9), .val (.ref b27), .val (.int r_31), .unset] [(.ref sk1), (.ref r_1)])) t
            refine X34.acmp (cd := .ne) (x := (.ref r_1)) (y' := (.ref sk1)) rfl rfl (g := (mkF m 158 #[.val (.int i0), .val (.int i1), .val (.int i2), .val (.int i3), .val (.int i4), .val (.int i5), .val (.ref r_1), .val (.int r2_0), .val (.ref b3), .val (.ref b6), .val (.int ((XT.ushr i1 (1 : Int32)) &&& (3 : Int32))), .val (.ref b9), .val (.ref b27), .val (.int r_31), .unset] [(.ref sk1), (.ref r_1)])) rfl (pc0 := 158) (pc' := 161) (same := true) rfl at_158 rfl (decide_eq_true c33_1) (by decide) (by decide) _ ?_
            show Steps p.tables e below (T34.setTop (mkF m 161 #[.val (.int i0), .val (.int i1), .val (.int i2), .val (.int i3), .val (.int i4), .val (.int i5), .val (.ref r_1), .val (.int r2_0), .val (.ref b3), .val (.ref b6), .val (.int ((XT.ushr i1 (1 : Int32)) &&& (3 : Int32))), .val (.ref b9), .val (.ref b27), .val (.int r_31), .unset] [])) t
            refine XS.iconst X34.here X34.hx rfl (X34.cd at_161)  ?_
            show Steps p.tables e below (T34.setTop (mkF m 162 #[.val (.int i0), .val (.int i1), .val (.int i2), .val (.int i3), .val (.int i4), .val (.int i5), .val (.ref r_1), .val (.int r2_0), .val (.ref b3), .val (.ref b6), .val (.int ((XT.ushr i1 (1 : Int32)) &&& (3 : Int32))), .val (.ref b9), .val (.ref b27), .val (.int r_31), .unset] [(.int (1 : Int32))])) t
            refine XS.istore X34.here X34.hx rfl (X34.cd at_162) rfl (l' := #[.val (.int i0), .val (.int i1), .val (.int i2), .val (.int i3), .val (.int i4), .val (.int i5), .val (.ref r_1), .val (.int r2_0), .val (.ref b3), .val (.ref b6), .val (.int ((XT.ushr i1 (1 : Int32)) &&& (3 : Int32))), .val (.ref b9), .val (.ref b27), .val (.int r_31), .val (.int (1 : Int32))]) rfl ?_
            show Steps p.tables e below (T34.setTop (mkF m 164 #[.val (.int i0), .val (.int i1), .val (.int i2), .val (.int i3), .val (.int i4), .val (.int i5), .val (.ref r_1), .val (.int r2_0), .val (.ref b3), .val (.ref b6), .val (.int ((XT.ushr i1 (1 : Int32)) &&& (3 : Int32))), .val (.ref b9), .val (.ref b27), .val (.int r_31), .val (.int (1 : Int32))] [])) t
            refine XS.goto X34.here X34.hx rfl (pc0 := 164) (pc' := 212) rfl (X34.cd at_164) (by decide) (by decide) ?_
            show Steps p.tables e below (T34.setTop (mkF m 212 #[.val (.int i0), .val (.int i1), .val (.int i2), .val (.int i3), .val (.int i4), .val (.int i5), .val (.ref r_1), .val (.int r2_0), .val (.ref b3), .val (.ref b6), .val (.int ((XT.ushr i1 (1 : Int32)) &&& (3 : Int32))), .val (.ref b9), .val (.ref b27), .val (.int r_31), .val (.int (1 : Int32))] [])) t
            exact k
          · obtain ⟨T35, X35, st35⟩ := X34.getS (hw _ (List.mem_of_getElem? (i := 125) rfl)) Via.refl Sk2 (g := (mkF m 169 #[.val (.int i0), .val (.int i1), .val (.int i2), .val (.int i3), .val (.int i4), .val (.int i5), .val (.ref r_1), .val (.int r2_0), .val (.ref b3), .val (.ref b6), .val (.int ((XT.ushr i1 (1 : Int32)) &&& (3 : Int32))), .val (.ref b9), .val (.ref b27), .val (.int r_31), .unset] [(.ref r_1)])) rfl at_169
            by_cases c33_2 : (Value.ref r_1) = (Value.ref sk2)
            · refine ⟨T35, (1 : Int32), X35, Or.inr (Or.inr (Or.inl ⟨c33_0, c33_1, c33_2, rfl⟩)), fun t k => ?_⟩
              refine XS.ifYes X31.here X31.hx rfl (pc0 := 144) (pc' := 153) rfl (X31.cd at_144) rfl (XT.i0_ne_t c33_0) (by decide) (by decide) ?_
              show Steps p.tables e below (T31.setTop (mkF m 153 #[.val (.int i0), .val (.int i1), .val (.int i2), .val (.int i3), .val (.int i4), .val (.int i5), .val (.ref r_1), .val (.int r2_0), .val (.ref b3), .val (.ref b6), .val (.int ((XT.ushr i1 (1 : Int32)) &&& (3 : Int32))), .val (.ref b9), .val (.ref b27), .val (.int r_31), .unset] [])) t
              refine XS.aload X31.here X31.hx rfl (X31.cd at_153) rfl rfl ?_
              show Steps p.tables e below (T31.setTop (mkF m 155 #[.val (.int i0), .val (.int i1), .val (.int i2), .val (.int i3), .val (.int i4), .val (.int i5), .val (.ref r_1), .val (.int r2_0), .val (.ref b3), .val (.ref b6), .val (.int ((XT.ushr i1 (1 : Int32)) &&& (3 : Int32))), .val (.ref b9), .val (.ref b27), .val (.int r_31), .unset] [(.ref r_1)])) t
              refine st34 _ ?_
              show Steps p.tables e below (T34.setTop (mkF m 158 #[.val (.int i0), .val (.int i1), .val (.int i2), .val (.int i3), .val (.int i4), .val (.int i5), .val (.ref r_1), .val (.int r2_0), .val (.ref b3), .val (.ref b6), .val (.int ((XT.ushr i1 (1 : Int32)) &&& (3 : Int32))), .val (.ref b9), .val (.ref b27), .val (.int r_31), .unset] [(.ref sk1), (.ref r_1)])) t
              refine X34.acmp (cd := .ne) (x := (.ref r_1)) (y' := (.ref sk1)) rfl rfl (g := (mkF m 158 #[.val (.int i0), .val (.int i1), .val (.int i2), .val (.int i3), .val (.int i4), .val (.int i5), .val (.ref r_1), .val (.int r2_0), .val (.ref b3), .val (.ref b6), .val (.int ((XT.ushr i1 (1 : Int32)) &&& (3 : Int32))), .val (.ref b9), .val (.ref b27), .val (.int r_31), .unset] [(.ref sk1), (.ref r_1)])) rfl (pc0 := 158) (pc' := 167) (same := false) rfl at_158 rfl (decide_eq_false c33_1) (by decide) (by decide) _ ?_
              show Steps p.tables e below (T34.setTop (mkF m 167 #[.val (.int i0), .val (.int i1), .val (.int i2), .val (.int i3), .val (.int i4), .val (.int i5), .val (.ref r_1), .val (.int r2_0), .val (.ref b3), .val (.ref b6), .val (.int ((XT.ushr i1 (1 : Int32)) &&& (3 : Int32))), .val (.ref b9), .val (.ref b27), .val (.int r_31), .unset] [])) t
              refine XS.aload X34.here X34.hx rfl (X34.cd at_167) rfl rfl ?_
              show Steps p.tables e below (T34.setTop (mkF m 169 #[.val (.int i0), .val (.int i1), .val (.int i2), .val (.int i3), .val (.int i4), .val (.int i5), .val (.ref r_1), .val (.int r2_0), .val (.ref b3), .val (.ref b6), .val (.int ((XT.ushr i1 (1 : Int32)) &&& (3 : Int32))), .val (.ref b9), .val (.ref b27), .val (.int r_31), .unset] [(.ref r_1)])) t
              refine st35 _ ?_
              show Steps p.tables e below (T35.setTop (mkF m 172 #[.val (.int i0), .val (.int i1), .val (.int i2), .val (.int i3), .val (.int i4), .val (.int i5), .val (.ref r_1), .val (.int r2_0), .val (.ref b3), .val (.ref b6), .val (.int ((XT.ushr i1 (1 : Int32)) &&& (3 : Int32))), .val (.ref b9), .val (.ref b27), .val (.int r_31), .unset] [(.ref sk2), (.ref r_1)])) t
              refine X35.acmp (cd := .ne) (x := (.ref r_1)) (y' := (.ref sk2)) rfl rfl (g := (mkF m 172 #[.val (.int i0), .val (.int i1), .val (.int i2), .val (.int i3), .val (.int i4), .val (.int i5), .val (.ref r_1), .val (.int r2_0), .val (.ref b3), .val (.ref b6), .val (.int ((XT.ushr i1 (1 : Int32)) &&& (3 : Int32))), .val (.ref b9), .val (.ref b27), .val (.int r_31), .unset] [(.ref sk2), (.ref r_1)])) rfl (pc0 := 172) (pc' := 175) (same := true) rfl at_172 rfl (decide_eq_true c33_2) (by decide) (by decide) _ ?_
              show Steps p.tables e below (T35.setTop (mkF m 175 #[.val (.int i0), .val (.int i1), .val (.int i2), .val (.int i3), .val (.int i4), .val (.int i5), .val (.ref r_1), .val (.int r2_0), .val (.ref b3), .val (.ref b6), .val (.int ((XT.ushr i1 (1 : Int32)) &&& (3 : Int32))), .val (.ref b9), .val (.ref b27), .val (.int r_31), .unset] [])) t
              refine XS.iconst X35.here X35.hx rfl (X35.cd at_175)  ?_
              show Steps p.tables e below (T35.setTop (mkF m 176 #[.val (.int i0), .val (.int i1), .val (.int i2), .val (.int i3), .val (.int i4), .val (.int i5), .val (.ref r_1), .val (.int r2_0), .val (.ref b3), .val (.ref b6), .val (.int ((XT.ushr i1 (1 : Int32)) &&& (3 : Int32))), .val (.ref b9), .val (.ref b27), .val (.int r_31), .unset] [(.int (1 : Int32))])) t
              refine XS.istore X35.here X35.hx rfl (X35.cd at_176) rfl (l' := #[.val (.int i0), .val (.int i1), .val (.int i2), .val (.int i3), .val (.int i4), .val (.int i5), .val (.ref r_1), .val (.int r2_0), .val (.ref b3), .val (.ref b6), .val (.int ((XT.ushr i1 (1 : Int32)) &&& (3 : Int32))), .val (.ref b9), .val (.ref b27), .val (.int r_31), .val (.int (1 : Int32))]) rfl ?_
              show Steps p.tables e below (T35.setTop (mkF m 178 #[.val (.int i0), .val (.int i1), .val (.int i2), .val (.int i3), .val (.int i4), .val (.int i5), .val (.ref r_1), .val (.int r2_0), .val (.ref b3), .val (.ref b6), .val (.int ((XT.ushr i1 (1 : Int32)) &&& (3 : Int32))), .val (.ref b9), .val (.ref b27), .val (.int r_31), .val (.int (1 : Int32))] [])) t
              refine XS.goto X35.here X35.hx rfl (pc0 := 178) (pc' := 212) rfl (X35.cd at_178) (by decide) (by decide) ?_
              show Steps p.tables e below (T35.setTop (mkF m 212 #[.val (.int i0), .val (.int i1), .val (.int i2), .val (.int i3), .val (.int i4), .val (.int i5), .val (.ref r_1), .val (.int r2_0), .val (.ref b3), .val (.ref b6), .val (.int ((XT.ushr i1 (1 : Int32)) &&& (3 : Int32))), .val (.ref b9), .val (.ref b27), .val (.int r_31), .val (.int (1 : Int32))] [])) t
              exact k
            · obtain ⟨T36, X36, st36⟩ := X35.getS (hw _ (List.mem_of_getElem? (i := 127) rfl)) Via.refl Sk3 (g := (mkF m 183 #[.val (.int i0), .val (.int i1), .val (.int i2), .val (.int i3), .val (.int i4), .val (.int i5), .val (.ref r_1), .val (.int r2_0), .val (.ref b3), .val (.ref b6), .val (.int ((XT.ushr i1 (1 : Int32)) &&& (3 : Int32))), .val (.ref b9), .val (.ref b27), .val (.int r_31), .unset] [(.ref r_1)])) rfl at_183
              by_cases c33_3 : (Value.ref r_1) = (Value.ref sk3)
              · refine ⟨T36, (1 : Int32), X36, Or.inr (Or.inr (Or.inr (Or.inl ⟨c33_0, c33_1, c33_2, c33_3, rfl⟩))), fun t k => ?_⟩
                refine XS.ifYes X31.here X31.hx rfl (pc0 := 144) (pc' := 153) rfl (X31.cd at_144) rfl (XT.i0_ne_t c33_0) (by decide) (by decide) ?_
                show Steps p.tables e below (T31.setTop (mkF m 153 #[.val (.int i0), .val (.int i1), .val (.int i2), .val (.int i3), .val (.int i4), .val (.int i5), .val (.ref r_1), .val (.int r2_0), .val (.ref b3), .val (.ref b6), .val (.int ((XT.ushr i1 (1 : Int32)) &&& (3 : Int32))), .val (.ref b9), .val (.ref b27), .val (.int r_31), .unset] [])) t
                refine XS.aload X31.here X31.hx rfl (X31.cd at_153) rfl rfl ?_
                show Steps p.tables e below (T31.setTop (mkF m 155 #[.val (.int i0), .val (.int i1), .val (.int i2), .val (.int i3), .val (.int i4), .val (.int i5), .val (.ref r_1), .val (.int r2_0), .val (.ref b3), .val (.ref b6), .val (.int ((XT.ushr i1 (1 : Int32)) &&& (3 : Int32))), .val (.ref b9), .val (.ref b27), .val (.int r_31), .unset] [(.ref r_1)])) t
                refine st34 _ ?_
                show Steps p.tables e below (T34.setTop (mkF m 158 #[.val (.int i0), .val (.int i1), .val (.int i2), .val (.int i3), .val (.int i4), .val (.int i5), .val (.ref r_1), .val (.int r2_0), .val (.ref b3), .val (.ref b6), .val (.int ((XT.ushr i1 (1 : Int32)) &&& (3 : Int32))), .val (.ref b9), .val (.ref b27), .val (.int r_31), .unset] [(.ref sk1), (.ref r_1)])) t
                refine X34.acmp (cd := .ne) (x := (.ref r_1)) (y' := (.ref sk1)) rfl rfl (g := (mkF m 158 #[.val (.int i0), .val (.int i1), .val (.int i2), .val (.int i3), .val (.int i4), .val (.int i5), .val (.ref r_1), .val (.int r2_0), .val (.ref b3), .val (.ref b6), .val (.int ((XT.ushr i1 (1 : Int32)) &&& (3 : Int32))), .val (.ref b9), .val (.ref b27), .val (.int r_31), .unset] [(.ref sk1), (.ref r_1)])) rfl (pc0 := 158) (pc' := 167) (same := false) rfl at_158 rfl (decide_eq_false c33_1) (by decide) (by decide) _ ?_
                show Steps p.tables e below (T34.setTop (mkF m 167 #[.val (.int i0), .val (.int i1), .val (.int i2), .val (.int i3), .val (.int i4), .val (.int i5), .val (.ref r_1), .val (.int r2_0), .val (.ref b3), .val (.ref b6), .val (.int ((XT.ushr i1 (1 : Int32)) &&& (3 : Int32))), .val (.ref b9), .val (.ref b27), .val (.int r_31), .unset] [])) t
                refine XS.aload X34.here X34.hx rfl (X34.cd at_167) rfl rfl ?_
                show Steps p.tables e below (T34.setTop (mkF m 169 #[.val (.int i0), .val (.int i1), .val (.int i2), .val (.int i3), .val (.int i4), .val (.int i5), .val (.ref r_1), .val (.int r2_0), .val (.ref b3), .val (.ref b6), .val (.int ((XT.ushr i1 (1 : Int32)) &&& (3 : Int32))), .val (.ref b9), .val (.ref b27), .val (.int r_31), .unset] [(.ref r_1)])) t
                refine st35 _ ?_
                show Steps p.tables e below (T35.setTop (mkF m 172 #[.val (.int i0), .val (.int i1), .val (.int i2), .val (.int i3), .val (.int i4), .val (.int i5), .val (.ref r_1), .val (.int r2_0), .val (.ref b3), .val (.ref b6), .val (.int ((XT.ushr i1 (1 : Int32)) &&& (3 : Int32))), .val (.ref b9), .val (.ref b27), .val (.int r_31), .unset] [(.ref sk2), (.ref r_1)])) t
                refine X35.acmp (cd := .ne) (x := (.ref r_1)) (y' := (.ref sk2)) rfl rfl (g := (mkF m 172 #[.val (.int i0), .val (.int i1), .val (.int i2), .val (.int i3), .val (.int i4), .val (.int i5), .val (.ref r_1), .val (.int r2_0), .val (.ref b3), .val (.ref b6), .val (.int ((XT.ushr i1 (1 : Int32)) &&& (3 : Int32))), .val (.ref b9), .val (.ref b27), .val (.int r_31), .unset] [(.ref sk2), (.ref r_1)])) rfl (pc0 := 172) (pc' := 181) (same := false) rfl at_172 rfl (decide_eq_false c33_2) (by decide) (by decide) _ ?_
                show Steps p.tables e below (T35.setTop (mkF m 181 #[.val (.int i0), .val (.int i1), .val (.int i2), .val (.int i3), .val (.int i4), .val (.int i5), .val (.ref r_1), .val (.int r2_0), .val (.ref b3), .val (.ref b6), .val (.int ((XT.ushr i1 (1 : Int32)) &&& (3 : Int32))), .val (.ref b9), .val (.ref b27), .val (.int r_31), .unset] [])) t
                refine XS.aload X35.here X35.hx rfl (X35.cd at_181) rfl rfl ?_
                show Steps p.tables e below (T35.setTop (mkF m 183 #[.val (.int i0), .val (.int i1), .val (.int i2), .val (.int i3), .val (.int i4), .val (.int i5), .val (.ref r_1), .val (.int r2_0), .val (.ref b3), .val (.ref b6), .val (.int ((XT.ushr i1 (1 : Int32)) &&& (3 : Int32))), .val (.ref b9), .val (.ref b27), .val (.int r_31), .unset] [(.ref r_1)])) t
                refine st36 _ ?_
                show Steps p.tables e below (T36.setTop (mkF m 186 #[.val (.int i0), .val (.int i1), .val (.int i2), .val (.int i3), .val (.int i4), .val (.int i5), .val (.ref r_1), .val (.int r2_0), .val (.ref b3), .val (.ref b6), .val (.int ((XT.ushr i1 (1 : Int32)) &&& (3 : Int32))), .val (.ref b9), .val (.ref b27), .val (.int r_31), .unset] [(.ref sk3), (.ref r_1)])) t
                refine X36.acmp (cd := .ne) (x := (.ref r_1)) (y' := (.ref sk3)) rfl rfl (g := (mkF m 186 #[.val (.int i0), .val (.int i1), .val (.int i2), .val (.int i3), .val (.int i4), .val (.int i5), .val (.ref r_1), .val (.int r2_0), .val (.ref b3), .val (.ref b6), .val (.int ((XT.ushr i1 (1 : Int32)) &&& (3 : Int32))), .val (.ref b9), .val (.ref b27), .val (.int r_31), .unset] [(.ref sk3), (.ref r_1)])) rfl (pc0 := 186) (pc' := 189) (same := true) rfl at_186 rfl (decide_eq_true c33_3) (by decide) (by decide) _ ?_
                show Steps p.tables e below (T36.setTop (mkF m 189 #[.val (.int i0), .val (.int i1), .val (.int i2), .val (.int i3), .val (.int i4), .val (.int i5), .val (.ref r_1), .val (.int r2_0), .val (.ref b3), .val (.ref b6), .val (.int ((XT.ushr i1 (1 : Int32)) &&& (3 : Int32))), .val (.ref b9), .val (.ref b27), .val (.int r_31), .unset] [])) t
                refine XS.iconst X36.here X36.hx rfl (X36.cd at_189)  ?_
                show Steps p.tables e below (T36.setTop (mkF m 190 #[.val (.int i0), .val (.int i1), .val (.int i2), .val (.int i3), .val (.int i4), .val (.int i5), .val (.ref r_1), .val (.int r2_0), .val (.ref b3), .val (.ref b6), .val (.int ((XT.ushr i1 (1 : Int32)) &&& (3 : Int32))), .val (.ref b9), .val (.ref b27), .val (.int r_31), .unset] [(.int (1 : Int32))])) t
                refine XS.istore X36.here X36.hx rfl (X36.cd at_190) rfl (l' := #[.val (.int i0), .val (.int i1), .val (.int i2), .val (.int i3), .val (.int i4), .val (.int i5), .val (.ref r_1), .val (.int r2_0), .val (.ref b3), .val (.ref b6), .val (.int ((XT.ushr i1 (1 : Int32)) &&& (3 : Int32))), .val (.ref b9), .val (.ref b27), .val (.int r_31), .val (.int (1 : Int32))]) rfl ?_
                show Steps p.tables e below (T36.setTop (mkF m 192 #[.val (.int i0), .val (.int i1), .val (.int i2), .val (.int i3), .val (.int i4), .val (.int i5), .val (.ref r_1), .val (.int r2_0), .val (.ref b3), .val (.ref b6), .val (.int ((XT.ushr i1 (1 : Int32)) &&& (3 : Int32))), .val (.ref b9), .val (.ref b27), .val (.int r_31), .val (.int (1 : Int32))] [])) t
                refine XS.goto X36.here X36.hx rfl (pc0 := 192) (pc' := 212) rfl (X36.cd at_192) (by decide) (by decide) ?_
                show Steps p.tables e below (T36.setTop (mkF m 212 #[.val (.int i0), .val (.int i1), .val (.int i2), .val (.int i3), .val (.int i4), .val (.int i5), .val (.ref r_1), .val (.int r2_0), .val (.ref b3), .val (.ref b6), .val (.int ((XT.ushr i1 (1 : Int32)) &&& (3 : Int32))), .val (.ref b9), .val (.ref b27), .val (.int r_31), .val (.int (1 : Int32))] [])) t
                exact k
              · obtain ⟨T37, X37, st37⟩ := X36.getS (hw _ (List.mem_of_getElem? (i := 129) rfl)) Via.refl Sk4 (g := (mkF m 197 #[.val (.int i0), .val (.int i1), .val (.int i2), .val (.int i3), .val (.int i4), .val (.int i5), .val (.ref r_1), .val (.int r2_0), .val (.ref b3), .val (.ref b6), .val (.int ((XT.ushr i1 (1 : Int32)) &&& (3 : Int32))), .val (.ref b9), .val (.ref b27), .val (.int r_31), .unset] [(.ref r_1)])) rfl at_197
                by_cases c33_4 : (Value.ref r_1) = (Value.ref sk4)
                · refine ⟨T37, (1 : Int32), X37, Or.inr (Or.inr (Or.inr (Or.inr (Or.inl ⟨c33_0, c33_1, c33_2, c33_3, c33_4, rfl⟩)))), fun t k => ?_⟩
                  refine XS.ifYes X31.here X31.hx rfl (pc0 := 144) (pc' := 153) rfl (X31.cd at_144) rfl (XT.i0_ne_t c33_0) (by decide) (by decide) ?_
                  show Steps p.tables e below (T31.setTop (mkF m 153 #[.val (.int i0), .val (.int i1), .val (.int i2), .val (.int i3), .val (.int i4), .val (.int i5), .val (.ref r_1), .val (.int r2_0), .val (.ref b3), .val (.ref b6), .val (.int ((XT.ushr i1 (1 : Int32)) &&& (3 : Int32))), .val (.ref b9), .val (.ref b27), .val (.int r_31), .unset] [])) t
                  refine XS.aload X31.here X31.hx rfl (X31.cd at_153) rfl rfl ?_
                  show Steps p.tables e below (T31.setTop (mkF m 155 #[.val (.int i0), .val (.int i1), .val (.int i2), .val (.int i3), .val (.int i4), .val (.int i5), .val (.ref r_1), .val (.int r2_0), .val (.ref b3), .val (.ref b6), .val (.int ((XT.ushr i1 (1 : Int32)) &&& (3 : Int32))), .val (.ref b9), .val (.ref b27), .val (.int r_31), .unset] [(.ref r_1)])) t
                  refine st34 _ ?_
                  show Steps p.tables e below (T34.setTop (mkF m 158 #[.val (.int i0), .val (.int i1), .val (.int i2), .val (.int i3), .val (.int i4), .val (.int i5), .val (.ref r_1), .val (.int r2_0), .val (.ref b3), .val (.ref b6), .val (.int ((XT.ushr i1 (1 : Int32)) &&& (3 : Int32))), .val (.ref b9), .val (.ref b27), .val (.int r_31), .unset] [(.ref sk1), (.ref r_1)])) t
                  refine X34.acmp (cd := .ne) (x := (.ref r_1)) (y' := (.ref sk1)) rfl rfl (g := (mkF m 158 #[.val (.int i0), .val (.int i1), .val (.int i2), .val (.int i3), .val (.int i4), .val (.int i5), .val (.ref r_1), .val (.int r2_0), .val (.ref b3), .val (.ref b6), .val (.int ((XT.ushr i1 (1 : Int32)) &&& (3 : Int32))), .val (.ref b9), .val (.ref b27), .val (.int r_31), .unset] [(.ref sk1), (.ref r_1)])) rfl (pc0 := 158) (pc' := 167) (same := false) rfl at_158 rfl (decide_eq_false c33_1) (by decide) (by decide) _ ?_
                  show Steps p.tables e below (T34.setTop (mkF m 167 #[.val (.int i0), .val (.int i1), .val (.int i2), .val (.int i3), .val (.int i4), .val (.int i5), .val (.ref r_1), .val (.int r2_0), .val (.ref b3), .val (.ref b6), .val (.int ((XT.ushr i1 (1 : Int32)) &&& (3 : Int32))), .val (.ref b9), .val (.ref b27), .val (.int r_31), .unset] [])) t
                  refine XS.aload X34.here X34.hx rfl (X34.cd at_167) rfl rfl ?_
                  show Steps p.tables e below (T34.setTop (mkF m 169 #[.val (.int i0), .val (.int i1), .val (.int i2), .val (.int i3), .val (.int i4), .val (.int i5), .val (.ref r_1), .val (.int r2_0), .val (.ref b3), .val (.ref b6), .val (.int ((XT.ushr i1 (1 : Int32)) &&& (3 : Int32))), .val (.ref b9), .val (.ref b27), .val (.int r_31), .unset] [(.ref r_1)])) t
                  refine st35 _ ?_
                  show Steps p.tables e below (T35.setTop (mkF m 172 #[.val (.int i0), .val (.int i1), .val (.int i2), .val (.int i3), .val (.int i4), .val (.int i5), .val (.ref r_1), .val (.int r2_0), .val (.ref b3), .val (.ref b6), .val (.int ((XT.ushr i1 (1 : Int32)) &&& (3 : Int32))), .val (.ref b9), .val (.ref b27), .val (.int r_31), .unset] [(.ref sk2), (.ref r_1)])) t
                  refine X35.acmp (cd := .ne) (x := (.ref r_1)) (y' := (.ref sk2)) rfl rfl (g := (mkF m 172 #[.val (.int i0), .val (.int i1), .val (.int i2), .val (.int i3), .val (.int i4), .val (.int i5), .val (.ref r_1), .val (.int r2_0), .val (.ref b3), .val (.ref b6), .val (.int ((XT.ushr i1 (1 : Int32)) &&& (3 : Int32))), .val (.ref b9), .val (.ref b27), .val (.int r_31), .unset] [(.ref sk2), (.ref r_1)])) rfl (pc0 := 172) (pc' := 181) (same := false) rfl at_172 rfl (decide_eq_false c33_2) (by decide) (by decide) _ ?_
                  show Steps p.tables e below (T35.setTop (mkF m 181 #[.val (.int i0), .val (.int i1), .val (.int i2), .val (.int i3), .val (.int i4), .val (.int i5), .val (.ref r_1), .val (.int r2_0), .val (.ref b3), .val (.ref b6), .val (.int ((XT.ushr i1 (1 : Int32)) &&& (3 : Int32))), .val (.ref b9), .val (.ref b27), .val (.int r_31), .unset] [])) t
                  refine XS.aload X35.here X35.hx rfl (X35.cd at_181) rfl rfl ?_
                  show Steps p.tables e below (T35.setTop (mkF m 183 #[.val (.int i0), .val (.int i1), .val (.int i2), .val (.int i3), .val (.int i4), .val (.int i5), .val (.ref r_1), .val (.int r2_0), .val (.ref b3), .val (.ref b6), .val (.int ((XT.ushr i1 (1 : Int32)) &&& (3 : Int32))), .val (.ref b9), .val (.ref b27), .val (.int r_31), .unset] [(.ref r_1)])) t
                  refine st36 _ ?_
                  show Steps p.tables e below (T36.setTop (mkF m 186 #[.val (.int i0), .val (.int i1), .val (.int i2), .val (.int i3), .val (.int i4), .val (.int i5), .val (.ref r_1), .val (.int r2_0), .val (.ref b3), .val (.ref b6), .val (.int ((XT.ushr i1 (1 : Int32)) &&& (3 : Int32))), .val (.ref b9), .val (.ref b27), .val (.int r_31), .unset] [(.ref sk3), (.ref r_1)])) t
                  refine X36.acmp (cd := .ne) (x := (.ref r_1)) (y' := (.ref sk3)) rfl rfl (g := (mkF m 186 #[.val (.int i0), .val (.int i1), .val (.int i2), .val (.int i3), .val (.int i4), .val (.int i5), .val (.ref r_1), .val (.int r2_0), .val (.ref b3), .val (.ref b6), .val (.int ((XT.ushr i1 (1 : Int32)) &&& (3 : Int32))), .val (.ref b9), .val (.ref b27), .val (.int r_31), .unset] [(.ref sk3), (.ref r_1)])) rfl (pc0 := 186) (pc' := 195) (same := false) rfl at_186 rfl (decide_eq_false c33_3) (by decide) (by decide) _ ?_
                  show Steps p.tables e below (T36.setTop (mkF m 195 #[.val (.int i0), .val (.int i1), .val (.int i2), .val (.int i3), .val (.int i4), .val (.int i5), .val (.ref r_1), .val (.int r2_0), .val (.ref b3), .val (.ref b6), .val (.int ((XT.ushr i1 (1 : Int32)) &&& (3 : Int32))), .val (.ref b9), .val (.ref b27), .val (.int r_31), .unset] [])) t
                  refine XS.aload X36.here X36.hx rfl (X36.cd at_195) rfl rfl ?_
                  show Steps p.tables e below (T36.setTop (mkF m 197 #[.val (.int i0), .val (.int i1), .val (.int i2), .val (.int i3), .val (.int i4), .val (.int i5), .val (.ref r_1), .val (.int r2_0), .val (.ref b3), .val (.ref b6), .val (.int ((XT.ushr i1 (1 : Int32)) &&& (3 : Int32))), .val (.ref b9), .val (.ref b27), .val (.int r_31), .unset] [(.ref r_1)])) t
                  refine st37 _ ?_
                  show Steps p.tables e below (T37.setTop (mkF m 200 #[.val (.int i0), .val (.int i1), .val (.int i2), .val (.int i3), .val (.int i4), .val (.int i5), .val (.ref r_1), .val (.int r2_0), .val (.ref b3), .val (.ref b6), .val (.int ((XT.ushr i1 (1 : Int32)) &&& (3 : Int32))), .val (.ref b9), .val (.ref b27), .val (.int r_31), .unset] [(.ref sk4), (.ref r_1)])) t
                  refine X37.acmp (cd := .ne) (x := (.ref r_1)) (y' := (.ref sk4)) rfl rfl (g := (mkF m 200 #[.val (.int i0), .val (.int i1), .val (.int i2), .val (.int i3), .val (.int i4), .val (.int i5), .val (.ref r_1), .val (.int r2_0), .val (.ref b3), .val (.ref b6), .val (.int ((XT.ushr i1 (1 : Int32)) &&& (3 : Int32))), .val (.ref b9), .val (.ref b27), .val (.int r_31), .unset] [(.ref sk4), (.ref r_1)])) rfl (pc0 := 200) (pc' := 203) (same := true) rfl at_200 rfl (decide_eq_true c33_4) (by decide) (by decide) _ ?_
                  show Steps p.tables e below (T37.setTop (mkF m 203 #[.val (.int i0), .val (.int i1), .val (.int i2), .val (.int i3), .val (.int i4), .val (.int i5), .val (.ref r_1), .val (.int r2_0), .val (.ref b3), .val (.ref b6), .val (.int ((XT.ushr i1 (1 : Int32)) &&& (3 : Int32))), .val (.ref b9), .val (.ref b27), .val (.int r_31), .unset] [])) t
                  refine XS.iconst X37.here X37.hx rfl (X37.cd at_203)  ?_
                  show Steps p.tables e below (T37.setTop (mkF m 204 #[.val (.int i0), .val (.int i1), .val (.int i2), .val (.int i3), .val (.int i4), .val (.int i5), .val (.ref r_1), .val (.int r2_0), .val (.ref b3), .val (.ref b6), .val (.int ((XT.ushr i1 (1 : Int32)) &&& (3 : Int32))), .val (.ref b9), .val (.ref b27), .val (.int r_31), .unset] [(.int (1 : Int32))])) t
                  refine XS.istore X37.here X37.hx rfl (X37.cd at_204) rfl (l' := #[.val (.int i0), .val (.int i1), .val (.int i2), .val (.int i3), .val (.int i4), .val (.int i5), .val (.ref r_1), .val (.int r2_0), .val (.ref b3), .val (.ref b6), .val (.int ((XT.ushr i1 (1 : Int32)) &&& (3 : Int32))), .val (.ref b9), .val (.ref b27), .val (.int r_31), .val (.int (1 : Int32))]) rfl ?_
                  show Steps p.tables e below (T37.setTop (mkF m 206 #[.val (.int i0), .val (.int i1), .val (.int i2), .val (.int i3), .val (.int i4), .val (.int i5), .val (.ref r_1), .val (.int r2_0), .val (.ref b3), .val (.ref b6), .val (.int ((XT.ushr i1 (1 : Int32)) &&& (3 : Int32))), .val (.ref b9), .val (.ref b27), .val (.int r_31), .val (.int (1 : Int32))] [])) t
                  refine XS.goto X37.here X37.hx rfl (pc0 := 206) (pc' := 212) rfl (X37.cd at_206) (by decide) (by decide) ?_
                  show Steps p.tables e below (T37.setTop (mkF m 212 #[.val (.int i0), .val (.int i1), .val (.int i2), .val (.int i3), .val (.int i4), .val (.int i5), .val (.ref r_1), .val (.int r2_0), .val (.ref b3), .val (.ref b6), .val (.int ((XT.ushr i1 (1 : Int32)) &&& (3 : Int32))), .val (.ref b9), .val (.ref b27), .val (.int r_31), .val (.int (1 : Int32))] [])) t
                  exact k
                · refine ⟨T37, (0 : Int32), X37, Or.inr (Or.inr (Or.inr (Or.inr (Or.inr (⟨c33_0, c33_1, c33_2, c33_3, c33_4, rfl⟩))))), fun t k => ?_⟩
                  refine XS.ifYes X31.here X31.hx rfl (pc0 := 144) (pc' := 153) rfl (X31.cd at_144) rfl (XT.i0_ne_t c33_0) (by decide) (by decide) ?_
                  show Steps p.tables e below (T31.setTop (mkF m 153 #[.val (.int i0), .val (.int i1), .val (.int i2), .val (.int i3), .val (.int i4), .val (.int i5), .val (.ref r_1), .val (.int r2_0), .val (.ref b3), .val (.ref b6), .val (.int ((XT.ushr i1 (1 : Int32)) &&& (3 : Int32))), .val (.ref b9), .val (.ref b27), .val (.int r_31), .unset] [])) t
                  refine XS.aload X31.here X31.hx rfl (X31.cd at_153) rfl rfl ?_
                  show Steps p.tables e below (T31.setTop (mkF m 155 #[.val (.int i0), .val (.int i1), .val (.int i2), .val (.int i3), .val (.int i4), .val (.int i5), .val (.ref r_1), .val (.int r2_0), .val (.ref b3), .val (.ref b6), .val (.int ((XT.ushr i1 (1 : Int32)) &&& (3 : Int32))), .val (.ref b9), .val (.ref b27), .val (.int r_31), .unset] [(.ref r_1)])) t
                  refine st34 _ ?_
                  show Steps p.tables e below (T34.setTop (mkF m 158 #[.val (.int i0), .val (.int i1), .val (.int i2), .val (.int i3), .val (.int i4), .val (.int i5), .val (.ref r_1), .val (.int r2_0), .val (.ref b3), .val (.ref b6), .val (.int ((XT.ushr i1 (1 : Int32)) &&& (3 : Int32))), .val (.ref b9), .val (.ref b27), .val (.int r_31), .unset] [(.ref sk1), (.ref r_1)])) t
                  refine X34.acmp (cd := .ne) (x := (.ref r_1)) (y' := (.ref sk1)) rfl rfl (g := (mkF m 158 #[.val (.int i0), .val (.int i1), .val (.int i2), .val (.int i3), .val (.int i4), .val (.int i5), .val (.ref r_1), .val (.int r2_0), .val (.ref b3), .val (.ref b6), .val (.int ((XT.ushr i1 (1 : Int32)) &&& (3 : Int32))), .val (.ref b9), .val (.ref b27), .val (.int r_31), .unset] [(.ref sk1), (.ref r_1)])) rfl (pc0 := 158) (pc' := 167) (same := false) rfl at_158 rfl (decide_eq_false c33_1) (by decide) (by decide) _ ?_
                  show Steps p.tables e below (T34.setTop (mkF m 167 #[.val (.int i0), .val (.int i1), .val (.int i2), .val (.int i3), .val (.int i4), .val (.int i5), .val (.ref r_1), .val (.int r2_0), .val (.ref b3), .val (.ref b6), .val (.int ((XT.ushr i1 (1 : Int32)) &&& (3 : Int32))), .val (.ref b9), .val (.ref b27), .val (.int r_31), .unset] [])) t
                  refine XS.aload X34.here X34.hx rfl (X34.cd at_167) rfl rfl ?_
                  show Steps p.tables e below (T34.setTop (mkF m 169 #[.val (.int i0), .val (.int i1), .val (.int i2), .val (.int i3), .val (.int i4), .val (.int i5), .val (.ref r_1), .val (.int r2_0), .val (.ref b3), .val (.ref b6), .val (.int ((XT.ushr i1 (1 : Int32)) &&& (3 : Int32))), .val (.ref b9), .val (.ref b27), .val (.int r_31), .unset] [(.ref r_1)])) t
                  refine st35 _ ?_
                  show Steps p.tables e below (T35.setTop (mkF m 172 #[.val (.int i0), .val (.int i1), .val (.int i2), .val (.int i3), .val (.int i4), .val (.int i5), .val (.ref r_1), .val (.int r2_0), .val (.ref b3), .val (.ref b6), .val (.int ((XT.ushr i1 (1 : Int32)) &&& (3 : Int32))), .val (.ref b9), .val (.ref b27), .val (.int r_31), .unset] [(.ref sk2), (.ref r_1)])) t
                  refine X35.acmp (cd := .ne) (x := (.ref r_1)) (y' := (.ref sk2)) rfl rfl (g := (mkF m 172 #[.val (.int i0), .val (.int i1), .val (.int i2), .val (.int i3), .val (.int i4), .val (.int i5), .val (.ref r_1), .val (.int r2_0), .val (.ref b3), .val (.ref b6), .val (.int ((XT.ushr i1 (1 : Int32)) &&& (3 : Int32))), .val (.ref b9), .val (.ref b27), .val (.int r_31), .unset] [(.ref sk2), (.ref r_1)])) rfl (pc0 := 172) (pc' := 181) (same := false) rfl at_172 rfl (decide_eq_false c33_2) (by decide) (by decide) _ ?_
                  show Steps p.tables e below (T35.setTop (mkF m 181 #[.val (.int i0), .val (.int i1), .val (.int i2), .val (.int i3), .val (.int i4), .val (.int i5), .val (.ref r_1), .val (.int r2_0), .val (.ref b3), .val (.ref b6), .val (.int ((XT.ushr i1 (1 : Int32)) &&& (3 : Int32))), .val (.ref b9), .val (.ref b27), .val (.int r_31), .unset] [])) t
                  refine XS.aload X35.here X35.hx rfl (X35.cd at_181) rfl rfl ?_
                  show Steps p.tables e below (T35.setTop (mkF m 183 #[.val (.int i0), .val (.int i1), .val (.int i2), .val (.int i3), .val (.int i4), .val (.int i5), .val (.ref r_1), .val (.int r2_0), .val (.ref b3), .val (.ref b6), .val (.int ((XT.ushr i1 (1 : Int32)) &&& (3 : Int32))), .val (.ref b9), .val (.ref b27), .val (.int r_31), .unset] [(.ref r_1)])) t
                  refine st36 _ ?_
                  show Steps p.tables e below (T36.setTop (mkF m 186 #[.val (.int i0), .val (.int i1), .val (.int i2), .val (.int i3), .val (.int i4), .val (.int i5), .val (.ref r_1), .val (.int r2_0), .val (.ref b3), .val (.ref b6), .val (.int ((XT.ushr i1 (1 : Int32)) &&& (3 : Int32))), .val (.ref b9), .val (.ref b27), .val (.int r_31), .unset] [(.ref sk3), (.ref r_1)])) t
                  refine X36.acmp (cd := .ne) (x := (.ref r_1)) (y' := (.ref sk3)) rfl rfl (g := (mkF m 186 #[.val (.int i0), .val (.int i1), .val (.int i2), .val (.int i3), .val (.int i4), .val (.int i5), .val (.ref r_1), .val (.int r2_0), .val (.ref b3), .val (.ref b6), .val (.int ((XT.ushr i1 (1 : Int32)) &&& (3 : Int32))), .val (.ref b9), .val (.ref b27), .val (.int r_31), .unset] [(.ref sk3), (.ref r_1)])) rfl (pc0 := 186) (pc' := 195) (same := false) rfl at_186 rfl (decide_eq_false c33_3) (by decide) (by decide) _ ?_
                  show Steps p.tables e below (T36.setTop (mkF m 195 #[.val (.int i0), .val (.int i1), .val (.int i2), .val (.int i3), .val (.int i4), .val (.int i5), .val (.ref r_1), .val (.int r2_0), .val (.ref b3), .val (.ref b6), .val (.int ((XT.ushr i1 (1 : Int32)) &&& (3 : Int32))), .val (.ref b9), .val (.ref b27), .val (.int r_31), .unset] [])) t
                  refine XS.aload X36.here X36.hx rfl (X36.cd at_195) rfl rfl ?_
                  show Steps p.tables e below (T36.setTop (mkF m 197 #[.val (.int i0), .val (.int i1), .val (.int i2), .val (.int i3), .val (.int i4), .val (.int i5), .val (.ref r_1), .val (.int r2_0), .val (.ref b3), .val (.ref b6), .val (.int ((XT.ushr i1 (1 : Int32)) &&& (3 : Int32))), .val (.ref b9), .val (.ref b27), .val (.int r_31), .unset] [(.ref r_1)])) t
                  refine st37 _ ?_
                  show Steps p.tables e below (T37.setTop (mkF m 200 #[.val (.int i0), .val (.int i1), .val (.int i2), .val (.int i3), .val (.int i4), .val (.int i5), .val (.ref r_1), .val (.int r2_0), .val (.ref b3), .val (.ref b6), .val (.int ((XT.ushr i1 (1 : Int32)) &&& (3 : Int32))), .val (.ref b9), .val (.ref b27), .val (.int r_31), .unset] [(.ref sk4), (.ref r_1)])) t
                  refine X37.acmp (cd := .ne) (x := (.ref r_1)) (y' := (.ref sk4)) rfl rfl (g := (mkF m 200 #[.val (.int i0), .val (.int i1), .val (.int i2), .val (.int i3), .val (.int i4), .val (.int i5), .val (.ref r_1), .val (.int r2_0), .val (.ref b3), .val (.ref b6), .val (.int ((XT.ushr i1 (1 : Int32)) &&& (3 : Int32))), .val (.ref b9), .val (.ref b27), .val (.int r_31), .unset] [(.ref sk4), (.ref r_1)])) rfl (pc0 := 200) (pc' := 209) (same := false) rfl at_200 rfl (decide_eq_false c33_4) (by decide) (by decide) _ ?_
                  show Steps p.tables e below (T37.setTop (mkF m 209 #[.val (.int i0), .val (.int i1), .val (.int i2), .val (.int i3), .val (.int i4), .val (.int i5), .val (.ref r_1), .val (.int r2_0), .val (.ref b3), .val (.ref b6), .val (.int ((XT.ushr i1 (1 : Int32)) &&& (3 : Int32))), .val (.ref b9), .val (.ref b27), .val (.int r_31), .unset] [])) t
                  refine XS.iconst X37.here X37.hx rfl (X37.cd at_209)  ?_
                  show Steps p.tables e below (T37.setTop (mkF m 210 #[.val (.int i0), .val (.int i1), .val (.int i2), .val (.int i3), .val (.int i4), .val (.int i5), .val (.ref r_1), .val (.int r2_0), .val (.ref b3), .val (.ref b6), .val (.int ((XT.ushr i1 (1 : Int32)) &&& (3 : Int32))), .val (.ref b9), .val (.ref b27), .val (.int r_31), .unset] [(.int (0 : Int32))])) t
                  refine XS.istore X37.here X37.hx rfl (X37.cd at_210) rfl (l' := #[.val (.int i0), .val (.int i1), .val (.int i2), .val (.int i3), .val (.int i4), .val (.int i5), .val (.ref r_1), .val (.int r2_0), .val (.ref b3), .val (.ref b6), .val (.int ((XT.ushr i1 (1 : Int32)) &&& (3 : Int32))), .val (.ref b9), .val (.ref b27), .val (.int r_31), .val (.int (0 : Int32))]) rfl ?_
                  show Steps p.tables e below (T37.setTop (mkF m 212 #[.val (.int i0), .val (.int i1), .val (.int i2), .val (.int i3), .val (.int i4), .val (.int i5), .val (.ref r_1), .val (.int r2_0), .val (.ref b3), .val (.ref b6), .val (.int ((XT.ushr i1 (1 : Int32)) &&& (3 : Int32))), .val (.ref b9), .val (.ref b27), .val (.int r_31), .val (.int (0 : Int32))] [])) t
                  exact k
      refine Go.by (fun _ k => st33 _ k) ?_
      show Go _ _ _ _ (T33.setTop (mkF m 212 #[.val (.int i0), .val (.int i1), .val (.int i2), .val (.int i3), .val (.int i4), .val (.int i5), .val (.ref r_1), .val (.int r2_0), .val (.ref b3), .val (.ref b6), .val (.int ((XT.ushr i1 (1 : Int32)) &&& (3 : Int32))), .val (.ref b9), .val (.ref b27), .val (.int r_31), .val (.int r33_0)] []))
      simp only [Value.ref.injEq] at hr33
      have hfin : r_31 = r33_0 := own_fin hk1 hk2 hk3 hk4 (p1_0 ▸ own_pick_r sk0 sk1 sk2 sk3 sk4 i0) p31_0 hr33
      refine Go.by (fun _ k => XS.iload X33.here X33.hx rfl (X33.cd at_212) rfl  k) ?_
      show Go _ _ _ _ (T33.setTop (mkF m 214 #[.val (.int i0), .val (.int i1), .val (.int i2), .val (.int i3), .val (.int i4), .val (.int i5), .val (.ref r_1), .val (.int r2_0), .val (.ref b3), .val (.ref b6), .val (.int ((XT.ushr i1 (1 : Int32)) &&& (3 : Int32))), .val (.ref b9), .val (.ref b27), .val (.int r_31), .val (.int r33_0)] [(.int r_31)]))
      refine Go.by (fun _ k => XS.iload X33.here X33.hx rfl (X33.cd at_214) rfl  k) ?_
      show Go _ _ _ _ (T33.setTop (mkF m 216 #[.val (.int i0), .val (.int i1), .val (.int i2), .val (.int i3), .val (.int i4), .val (.int i5), .val (.ref r_1), .val (.int r2_0), .val (.ref b3), .val (.ref b6), .val (.int ((XT.ushr i1 (1 : Int32)) &&& (3 : Int32))), .val (.ref b9), .val (.ref b27), .val (.int r_31), .val (.int r33_0)] [(.int r33_0), (.int r_31)]))
      refine Go.by (fun _ k => XS.icmpNo X33.here X33.hx rfl (X33.cd at_216) rfl (XT.ii_ne_f hfin) k) ?_
      show Go _ _ _ _ (T33.setTop (mkF m 219 #[.val (.int i0), .val (.int i1), .val (.int i2), .val (.int i3), .val (.int i4), .val (.int i5), .val (.ref r_1), .val (.int r2_0), .val (.ref b3), .val (.ref b6), .val (.int ((XT.ushr i1 (1 : Int32)) &&& (3 : Int32))), .val (.ref b9), .val (.ref b27), .val (.int r_31), .val (.int r33_0)] []))
      refine Go.by (fun _ k => XS.iconst X33.here X33.hx rfl (X33.cd at_219)  k) ?_
      show Go _ _ _ _ (T33.setTop (mkF m 220 #[.val (.int i0), .val (.int i1), .val (.int i2), .val (.int i3), .val (.int i4), .val (.int i5), .val (.ref r_1), .val (.int r2_0), .val (.ref b3), .val (.ref b6), .val (.int ((XT.ushr i1 (1 : Int32)) &&& (3 : Int32))), .val (.ref b9), .val (.ref b27), .val (.int r_31), .val (.int r33_0)] [(.int (1 : Int32))]))
      refine Go.by (fun _ k => XS.goto X33.here X33.hx rfl (pc0 := 220) (pc' := 224) rfl (X33.cd at_220) (by decide) (by decide) k) ?_
      show Go _ _ _ _ (T33.setTop (mkF m 224 #[.val (.int i0), .val (.int i1), .val (.int i2), .val (.int i3), .val (.int i4), .val (.int i5), .val (.ref r_1), .val (.int r2_0), .val (.ref b3), .val (.ref b6), .val (.int ((XT.ushr i1 (1 : Int32)) &&& (3 : Int32))), .val (.ref b9), .val (.ref b27), .val (.int r_31), .val (.int r33_0)] [(.int (1 : Int32))]))
      exact X33.retN (by simp) rfl at_224 K0_h30 rfl (by decide) (by decide)
    · refine Go.by (fun _ k => XS.icmpNo X25.here X25.hx rfl (X25.cd at_93) rfl (XT.ii_lt_f cm) k) ?_
      show Go _ _ _ _ (T25.setTop (mkF m 96 #[.val (.int i0), .val (.int i1), .val (.int i2), .val (.int i3), .val (.int i4), .val (.int i5), .val (.ref r_1), .val (.int r2_0), .val (.ref b3), .val (.ref b6), .val (.int ((XT.ushr i1 (1 : Int32)) &&& (3 : Int32))), .val (.ref b9), .unset, .unset, .unset] []))
      refine Go.by (fun _ k => XS.aload X25.here X25.hx rfl (X25.cd at_96) rfl rfl k) ?_
      show Go _ _ _ _ (T25.setTop (mkF m 98 #[.val (.int i0), .val (.int i1), .val (.int i2), .val (.int i3), .val (.int i4), .val (.int i5), .val (.ref r_1), .val (.int r2_0), .val (.ref b3), .val (.ref b6), .val (.int ((XT.ushr i1 (1 : Int32)) &&& (3 : Int32))), .val (.ref b9), .unset, .unset, .unset] [(.ref b9)]))
      have f39 : Str Z h25 b6 t_8 [(((i2 &&& (255 : Int32))).toUInt32.toUInt16.toUInt32.toInt32), (((i3 &&& (255 : Int32))).toUInt32.toUInt16.toUInt32.toInt32)] := (f26).keep K25 (ninS ne_b6_b9 nin0) (ninS ne_t_8_b9 nin0)
      have f40 : Exa Z h25 r_21 "com/example/cinderpath/cinderpath/ir/ScalarType" := (show Exa Z Z.heap r_21 "com/example/cinderpath/cinderpath/ir/ScalarType" from (by rw [p21_0]; exact Ek _)).ext X25.old.2
      have lt_b3_38 := (X25.lt (.tail _ (.tail _ (.head _))))
      have lt_b6_38 := (X25.lt (.tail _ (.head _)))
      have lt_t_8_38 := f39.ltT
      have lt_b9_38 := (X25.lt (.head _))
      have lt_r_21_38 := f40.lt
      have lt_ea_25_38 := P25_3.lt
      obtain ⟨T38, h38, b38, g_b38, X38, E38, A38, D38, st38⟩ := X25.new (hw _ (List.mem_of_getElem? (i := 131) rfl)) (hw _ (List.mem_of_getElem? (i := 132) rfl)) (hw _ (List.mem_of_getElem? (i := 133) rfl)) (g := (mkF m 98 #[.val (.int i0), .val (.int i1), .val (.int i2), .val (.int i3), .val (.int i4), .val (.int i5), .val (.ref r_1), .val (.int r2_0), .val (.ref b3), .val (.ref b6), .val (.int ((XT.ushr i1 (1 : Int32)) &&& (3 : Int32))), .val (.ref b9), .unset, .unset, .unset] [(.ref b9)])) rfl at_98 (by decide) (by decide)
      refine Go.by st38 ?_
      have ne_b3_b38 : b3 ≠ b38 := ne_new lt_b3_38 g_b38
      have ne_b6_b38 : b6 ≠ b38 := ne_new lt_b6_38 g_b38
      have ne_t_8_b38 : t_8 ≠ b38 := ne_new lt_t_8_38 g_b38
      have ne_b9_b38 : b9 ≠ b38 := ne_new lt_b9_38 g_b38
      have ne_r_21_b38 : r_21 ≠ b38 := ne_new lt_r_21_38 g_b38
      have ne_ea_25_b38 : ea_25 ≠ b38 := ne_new lt_ea_25_38 g_b38
      have sz_b38 : h0.size ≤ b38 := Nat.le_trans X25.sz (Nat.le_of_eq g_b38.symm)
      have K0_h38 : Keep h0 h38 [] := K0_h25.ext E38
      have F38_element : Fld Z h38 b38 "com/example/cinderpath/cinderpath/ir/ArrayType" "element" "Lcom/example/cinderpath/cinderpath/ir/ScalarType;" .null := D38 (Or.inr (hw _ (List.mem_of_getElem? (i := 139) rfl))) (ty := (.object "com/example/cinderpath/cinderpath/ir/ScalarType")) (by decide)
      have F38_size : Fld Z h38 b38 "com/example/cinderpath/cinderpath/ir/ArrayType" "size" "I" (.int (0 : Int32)) := D38 (Or.inr (hw _ (List.mem_of_getElem? (i := 141) rfl))) (ty := .int) (by decide)
      show Go _ _ _ _ (T38.setTop (mkF m 101 #[.val (.int i0), .val (.int i1), .val (.int i2), .val (.int i3), .val (.int i4), .val (.int i5), .val (.ref r_1), .val (.int r2_0), .val (.ref b3), .val (.ref b6), .val (.int ((XT.ushr i1 (1 : Int32)) &&& (3 : Int32))), .val (.ref b9), .unset, .unset, .unset] [(.ref b38), (.ref b9)]))
      refine Go.by (fun _ k => XS.dup X38.here X38.hx rfl (X38.cd at_101) rfl rfl k) ?_
      show Go _ _ _ _ (T38.setTop (mkF m 102 #[.val (.int i0), .val (.int i1), .val (.int i2), .val (.int i3), .val (.int i4), .val (.int i5), .val (.ref r_1), .val (.int r2_0), .val (.ref b3), .val (.ref b6), .val (.int ((XT.ushr i1 (1 : Int32)) &&& (3 : Int32))), .val (.ref b9), .unset, .unset, .unset] [(.ref b38), (.ref b38), (.ref b9)]))
      refine Go.by (fun _ k => XS.iload X38.here X38.hx rfl (X38.cd at_102) rfl  k) ?_
      show Go _ _ _ _ (T38.setTop (mkF m 104 #[.val (.int i0), .val (.int i1), .val (.int i2), .val (.int i3), .val (.int i4), .val (.int i5), .val (.ref r_1), .val (.int r2_0), .val (.ref b3), .val (.ref b6), .val (.int ((XT.ushr i1 (1 : Int32)) &&& (3 : Int32))), .val (.ref b9), .unset, .unset, .unset] [(.int i5), (.ref b38), (.ref b38), (.ref b9)]))
      obtain ⟨_, T41, h41, X41, K41, ⟨r_41, rfl, rfl, p41_0⟩, st41⟩ := X38.stN (W := 3) (hw _ (List.mem_of_getElem? (i := 0) rfl)) (hw _ (List.mem_of_getElem? (i := 1) rfl)) (hw _ (List.mem_of_getElem? (i := 2) rfl)) (hw _ (List.mem_of_getElem? (i := 3) rfl)) (by decide) ((rm_pick l Z a0 hw n0 i5 sk0 sk1 sk2 sk3 sk4 h38 X38.old Sk0 Sk1 Sk2 Sk3 Sk4).pay (hw _ (List.mem_of_getElem? (i := 3) rfl)) (hw _ (List.mem_of_getElem? (i := 2) rfl)) (by decide) (by decide)) all0 (g := (mkF m 104 #[.val (.int i0), .val (.int i1), .val (.int i2), .val (.int i3), .val (.int i4), .val (.int i5), .val (.ref r_1), .val (.int r2_0), .val (.ref b3), .val (.ref b6), .val (.int ((XT.ushr i1 (1 : Int32)) &&& (3 : Int32))), .val (.ref b9), .unset, .unset, .unset] [(.int i5), (.ref b38), (.ref b38), (.ref b9)])) rfl rfl (argsL := [(.int i5)]) (rest := [(.ref b38), (.ref b38), (.ref b9)]) (lenOf pd_5 rfl) rfl (by exact Nat.le_of_eq rfl) at_104 rfl (by decide) (by decide)
      refine Go.tr st41 ?_
      show Go _ _ _ _ (T41.setTop (mkF m 107 #[.val (.int i0), .val (.int i1), .val (.int i2), .val (.int i3), .val (.int i4), .val (.int i5), .val (.ref r_1), .val (.int r2_0), .val (.ref b3), .val (.ref b6), .val (.int ((XT.ushr i1 (1 : Int32)) &&& (3 : Int32))), .val (.ref b9), .unset, .unset, .unset] [(.ref r_41), (.ref b38), (.ref b38), (.ref b9)]))
      refine Go.by (fun _ k => XS.iload X41.here X41.hx rfl (X41.cd at_107) rfl  k) ?_
      show Go _ _ _ _ (T41.setTop (mkF m 109 #[.val (.int i0), .val (.int i1), .val (.int i2), .val (.int i3), .val (.int i4), .val (.int i5), .val (.ref r_1), .val (.int r2_0), .val (.ref b3), .val (.ref b6), .val (.int ((XT.ushr i1 (1 : Int32)) &&& (3 : Int32))), .val (.ref b9), .unset, .unset, .unset] [(.int i5), (.ref r_41), (.ref b38), (.ref b38), (.ref b9)]))
      obtain ⟨_, T42, h42, X42, K42, ⟨rfl⟩, st42⟩ := X41.spN (W := 2) rfl (hw _ (List.mem_of_getElem? (i := 134) rfl)) (hw _ (List.mem_of_getElem? (i := 135) rfl)) (hw _ (List.mem_of_getElem? (i := 136) rfl)) (by decide) ((rm_ati l Z a0 hw n0 b38 r_41 i5 .null (.int (0 : Int32)) h38 X41.old A38 F38_element F38_size (X41.ge (.head _)) (X41.lt (.head _))).pay (hw _ (List.mem_of_getElem? (i := 136) rfl)) (hw _ (List.mem_of_getElem? (i := 133) rfl)) (by decide) (by decide)) (allS (.head _) all0) (g := (mkF m 109 #[.val (.int i0), .val (.int i1), .val (.int i2), .val (.int i3), .val (.int i4), .val (.int i5), .val (.ref r_1), .val (.int r2_0), .val (.ref b3), .val (.ref b6), .val (.int ((XT.ushr i1 (1 : Int32)) &&& (3 : Int32))), .val (.ref b9), .unset, .unset, .unset] [(.int i5), (.ref r_41), (.ref b38), (.ref b38), (.ref b9)])) rfl rfl (a := b38) (argsL := [(.ref r_41), (.int i5)]) (rest := [(.ref b38), (.ref b9)]) (lenOf pd_10 rfl) rfl (by exact Nat.le_of_eq rfl) at_109 rfl (by decide) (by decide)
      refine Go.tr st42 ?_
      have K0_h42 : Keep h0 h42 [] := K0_h38.trans K42 (allS (Or.inr sz_b38) all0)
      show Go _ _ _ _ (T42.setTop (mkF m 112 #[.val (.int i0), .val (.int i1), .val (.int i2), .val (.int i3), .val (.int i4), .val (.int i5), .val (.ref r_1), .val (.int r2_0), .val (.ref b3), .val (.ref b6), .val (.int ((XT.ushr i1 (1 : Int32)) &&& (3 : Int32))), .val (.ref b9), .unset, .unset, .unset] [(.ref b38), (.ref b9)]))
      have f43 : Exa Z h42 b38 "com/example/cinderpath/cinderpath/ir/ArrayType" := (A38).keep K42
      have f44 : Ins Z h42 b38 "java/lang/Object" true := (Ins.of_exa f43 (hw _ (List.mem_of_getElem? (i := 142) rfl)))
      have f46 : Arv Z h42 ea_25 ke_25 (.object "java/lang/Object") (10 : Int32) [(.ref r_21), .null, .null, .null, .null, .null, .null, .null, .null, .null] .null := (P25_3.ext E38).keep K42 (ninS ne_ea_25_b38 nin0)
      have X45 := X42.addA f46 (by decide) (Nat.le_trans X0.nle sz_ea_25)
      have f47 : Exa Z h42 b9 "java/util/ArrayList" := (((f24).keep K25).ext E38).keep K42
      have f48 : Fld Z h42 b9 "java/util/AbstractList" "modCount" "I" (.int ((0 : Int32) + (1 : Int32))) := (P25_0.ext E38).keep K42 (ninS ne_b9_b38 nin0)
      have f49 : Fld Z h42 b9 "java/util/ArrayList" "elementData" "[Ljava/lang/Object;" (.ref ea_25) := (P25_1.ext E38).keep K42 (ninS ne_b9_b38 nin0)
      have f50 : Fld Z h42 b9 "java/util/ArrayList" "size" "I" (.int (1 : Int32)) := (P25_2.ext E38).keep K42 (ninS ne_b9_b38 nin0)
      obtain ⟨_, T51, h51, X51, K51, ⟨rfl, P51_0, P51_1, P51_2, P51_3⟩, st51⟩ := X45.ifN (y' := (⟨"java/util/List", "add", "(Ljava/lang/Object;)Z"⟩ : MethodName)) (z' := (⟨"java/util/ArrayList", "add", "(Ljava/lang/Object;)Z"⟩ : MethodName)) (W := 0) (hw _ (List.mem_of_getElem? (i := 62) rfl)) (hw _ (List.mem_of_getElem? (i := 63) rfl)) (hw _ (List.mem_of_getElem? (i := 64) rfl)) rfl (hw _ (List.mem_of_getElem? (i := 65) rfl)) (hw _ (List.mem_of_getElem? (i := 66) rfl)) (hw _ (List.mem_of_getElem? (i := 67) rfl)) (hw _ (List.mem_of_getElem? (i := 68) rfl)) (hw _ (List.mem_of_getElem? (i := 69) rfl)) (by decide) ((rm_bd1 l Z a0 hw n0 b9 b38 r_21 ea_25 ke_25 ((0 : Int32) + (1 : Int32)) h42 X45.old f47 f48 f49 f50 f44 f46 p25_0 ne_b9_ea_25 (X45.ge (.tail _ (.tail _ (.head _)))) (X45.lt (.tail _ (.tail _ (.head _)))) (X45.ge (.head _)) (X45.lt (.head _))).pay (hw _ (List.mem_of_getElem? (i := 70) rfl)) (hw _ (List.mem_of_getElem? (i := 40) rfl)) (by decide) (by decide)) (allS (.tail _ (.tail _ (.head _))) (allS (.head _) all0)) f47 (g := (mkF m 112 #[.val (.int i0), .val (.int i1), .val (.int i2), .val (.int i3), .val (.int i4), .val (.int i5), .val (.ref r_1), .val (.int r2_0), .val (.ref b3), .val (.ref b6), .val (.int ((XT.ushr i1 (1 : Int32)) &&& (3 : Int32))), .val (.ref b9), .unset, .unset, .unset] [(.ref b38), (.ref b9)])) rfl rfl (argsL := [(.ref b38)]) (rest := []) (lenOf pd_9 rfl) rfl (by exact Nat.le_of_eq rfl) at_112 rfl (by decide) (by decide)
      refine Go.tr st51 ?_
      have K0_h51 : Keep h0 h51 [] := K0_h42.trans K51 (allS (Or.inr sz_b9) (allS (Or.inr sz_ea_25) all0))
      show Go _ _ _ _ (T51.setTop (mkF m 117 #[.val (.int i0), .val (.int i1), .val (.int i2), .val (.int i3), .val (.int i4), .val (.int i5), .val (.ref r_1), .val (.int r2_0), .val (.ref b3), .val (.ref b6), .val (.int ((XT.ushr i1 (1 : Int32)) &&& (3 : Int32))), .val (.ref b9), .unset, .unset, .unset] [(.int (1 : Int32))]))
      refine Go.by (fun _ k => XS.pop X51.here X51.hx rfl (X51.cd at_117) rfl rfl k) ?_
      show Go _ _ _ _ (T51.setTop (mkF m 118 #[.val (.int i0), .val (.int i1), .val (.int i2), .val (.int i3), .val (.int i4), .val (.int i5), .val (.ref r_1), .val (.int r2_0), .val (.ref b3), .val (.ref b6), .val (.int ((XT.ushr i1 (1 : Int32)) &&& (3 : Int32))), .val (.ref b9), .unset, .unset, .unset] []))
      have f53 : Str Z h51 b6 t_8 [(((i2 &&& (255 : Int32))).toUInt32.toUInt16.toUInt32.toInt32), (((i3 &&& (255 : Int32))).toUInt32.toUInt16.toUInt32.toInt32)] := ((f39.ext E38).keep K42 (ninS ne_b6_b38 nin0) (ninS ne_t_8_b38 nin0)).keep K51 (ninS ne_b6_b9 (ninS ne_b6_ea_25 nin0)) (ninS ne_t_8_b9 (ninS ne_t_8_ea_25 nin0))
      have f54 : Exa Z h51 r_21 "com/example/cinderpath/cinderpath/ir/ScalarType" := (show Exa Z Z.heap r_21 "com/example/cinderpath/cinderpath/ir/ScalarType" from (by rw [p21_0]; exact Ek _)).ext X51.old.2
      have lt_b3_52 := (X51.lt (.tail _ (.tail _ (.tail _ (.tail _ (.head _))))))
      have lt_b6_52 := (X51.lt (.tail _ (.tail _ (.tail _ (.head _)))))
      have lt_t_8_52 := f53.ltT
      have lt_b9_52 := (X51.lt (.tail _ (.tail _ (.head _))))
      have lt_r_21_52 := f54.lt
      have lt_ea_25_52 := (X51.lt (.head _))
      have lt_b38_52 := (X51.lt (.tail _ (.head _)))
      obtain ⟨T52, h52, b52, g_b52, X52, E52, A52, D52, st52⟩ := X51.new (hw _ (List.mem_of_getElem? (i := 97) rfl)) (hw _ (List.mem_of_getElem? (i := 98) rfl)) (hw _ (List.mem_of_getElem? (i := 99) rfl)) (g := (mkF m 118 #[.val (.int i0), .val (.int i1), .val (.int i2), .val (.int i3), .val (.int i4), .val (.int i5), .val (.ref r_1), .val (.int r2_0), .val (.ref b3), .val (.ref b6), .val (.int ((XT.ushr i1 (1 : Int32)) &&& (3 : Int32))), .val (.ref b9), .unset, .unset, .unset] [])) rfl at_118 (by decide) (by decide)
      refine Go.by st52 ?_
      have ne_b3_b52 : b3 ≠ b52 := ne_new lt_b3_52 g_b52
      have ne_b6_b52 : b6 ≠ b52 := ne_new lt_b6_52 g_b52
      have ne_t_8_b52 : t_8 ≠ b52 := ne_new lt_t_8_52 g_b52
      have ne_b9_b52 : b9 ≠ b52 := ne_new lt_b9_52 g_b52
      have ne_r_21_b52 : r_21 ≠ b52 := ne_new lt_r_21_52 g_b52
      have ne_ea_25_b52 : ea_25 ≠ b52 := ne_new lt_ea_25_52 g_b52
      have ne_b38_b52 : b38 ≠ b52 := ne_new lt_b38_52 g_b52
      have sz_b52 : h0.size ≤ b52 := Nat.le_trans X51.sz (Nat.le_of_eq g_b52.symm)
      have K0_h52 : Keep h0 h52 [] := K0_h51.ext E52
      have F52_name : Fld Z h52 b52 "com/example/cinderpath/cinderpath/ir/Signature" "name" "Ljava/lang/String;" .null := D52 (Or.inr (hw _ (List.mem_of_getElem? (i := 110) rfl))) (ty := (.object "java/lang/String")) (by decide)
      have F52_result : Fld Z h52 b52 "com/example/cinderpath/cinderpath/ir/Signature" "result" "Lcom/example/cinderpath/cinderpath/ir/ScalarType;" .null := D52 (Or.inr (hw _ (List.mem_of_getElem? (i := 112) rfl))) (ty := (.object "com/example/cinderpath/cinderpath/ir/ScalarType")) (by decide)
      have F52_parameters : Fld Z h52 b52 "com/example/cinderpath/cinderpath/ir/Signature" "parameters" "Ljava/util/List;" .null := D52 (Or.inr (hw _ (List.mem_of_getElem? (i := 114) rfl))) (ty := (.object "java/util/List")) (by decide)
      have F52_builtin : Fld Z h52 b52 "com/example/cinderpath/cinderpath/ir/Signature" "builtin" "Z" (.int (0 : Int32)) := D52 (Or.inr (hw _ (List.mem_of_getElem? (i := 116) rfl))) (ty := .boolean) (by decide)
      show Go _ _ _ _ (T52.setTop (mkF m 121 #[.val (.int i0), .val (.int i1), .val (.int i2), .val (.int i3), .val (.int i4), .val (.int i5), .val (.ref r_1), .val (.int r2_0), .val (.ref b3), .val (.ref b6), .val (.int ((XT.ushr i1 (1 : Int32)) &&& (3 : Int32))), .val (.ref b9), .unset, .unset, .unset] [(.ref b52)]))
      refine Go.by (fun _ k => XS.dup X52.here X52.hx rfl (X52.cd at_121) rfl rfl k) ?_
      show Go _ _ _ _ (T52.setTop (mkF m 122 #[.val (.int i0), .val (.int i1), .val (.int i2), .val (.int i3), .val (.int i4), .val (.int i5), .val (.ref r_1), .val (.int r2_0), .val (.ref b3), .val (.ref b6), .val (.int ((XT.ushr i1 (1 : Int32)) &&& (3 : Int32))), .val (.ref b9), .unset, .unset, .unset] [(.ref b52), (.ref b52)]))
      refine Go.by (fun _ k => XS.aload X52.here X52.hx rfl (X52.cd at_122) rfl rfl k) ?_
      show Go _ _ _ _ (T52.setTop (mkF m 124 #[.val (.int i0), .val (.int i1), .val (.int i2), .val (.int i3), .val (.int i4), .val (.int i5), .val (.ref r_1), .val (.int r2_0), .val (.ref b3), .val (.ref b6), .val (.int ((XT.ushr i1 (1 : Int32)) &&& (3 : Int32))), .val (.ref b9), .unset, .unset, .unset] [(.ref b6), (.ref b52), (.ref b52)]))
      refine Go.by (fun _ k => XS.aload X52.here X52.hx rfl (X52.cd at_124) rfl rfl k) ?_
      show Go _ _ _ _ (T52.setTop (mkF m 126 #[.val (.int i0), .val (.int i1), .val (.int i2), .val (.int i3), .val (.int i4), .val (.int i5), .val (.ref r_1), .val (.int r2_0), .val (.ref b3), .val (.ref b6), .val (.int ((XT.ushr i1 (1 : Int32)) &&& (3 : Int32))), .val (.ref b9), .unset, .unset, .unset] [(.ref r_1), (.ref b6), (.ref b52), (.ref b52)]))
      refine Go.by (fun _ k => XS.aload X52.here X52.hx rfl (X52.cd at_126) rfl rfl k) ?_
      show Go _ _ _ _ (T52.setTop (mkF m 128 #[.val (.int i0), .val (.int i1), .val (.int i2), .val (.int i3), .val (.int i4), .val (.int i5), .val (.ref r_1), .val (.int r2_0), .val (.ref b3), .val (.ref b6), .val (.int ((XT.ushr i1 (1 : Int32)) &&& (3 : Int32))), .val (.ref b9), .unset, .unset, .unset] [(.ref b9), (.ref r_1), (.ref b6), (.ref b52), (.ref b52)]))
      refine Go.by (fun _ k => XS.iload X52.here X52.hx rfl (X52.cd at_128) rfl  k) ?_
      show Go _ _ _ _ (T52.setTop (mkF m 130 #[.val (.int i0), .val (.int i1), .val (.int i2), .val (.int i3), .val (.int i4), .val (.int i5), .val (.ref r_1), .val (.int r2_0), .val (.ref b3), .val (.ref b6), .val (.int ((XT.ushr i1 (1 : Int32)) &&& (3 : Int32))), .val (.ref b9), .unset, .unset, .unset] [(.int r2_0), (.ref b9), (.ref r_1), (.ref b6), (.ref b52), (.ref b52)]))
      obtain ⟨_, T55, h55, X55, K55, ⟨rfl, P55_0, P55_1⟩, st55⟩ := X52.spN (W := 1) rfl (hw _ (List.mem_of_getElem? (i := 100) rfl)) (hw _ (List.mem_of_getElem? (i := 101) rfl)) (hw _ (List.mem_of_getElem? (i := 102) rfl)) (by decide) ((rm_sgi l Z a0 hw n0 b52 b6 r_1 b9 r2_0 .null .null .null (.int (0 : Int32)) h52 X52.old A52 F52_name F52_result F52_parameters F52_builtin hb2 (X52.ge (.head _)) (X52.lt (.head _))).pay (hw _ (List.mem_of_getElem? (i := 102) rfl)) (hw _ (List.mem_of_getElem? (i := 99) rfl)) (by decide) (by decide)) (allS (.head _) all0) (g := (mkF m 130 #[.val (.int i0), .val (.int i1), .val (.int i2), .val (.int i3), .val (.int i4), .val (.int i5), .val (.ref r_1), .val (.int r2_0), .val (.ref b3), .val (.ref b6), .val (.int ((XT.ushr i1 (1 : Int32)) &&& (3 : Int32))), .val (.ref b9), .unset, .unset, .unset] [(.int r2_0), (.ref b9), (.ref r_1), (.ref b6), (.ref b52), (.ref b52)])) rfl rfl (a := b52) (argsL := [(.ref b6), (.ref r_1), (.ref b9), (.int r2_0)]) (rest := [(.ref b52)]) (lenOf pd_7 rfl) rfl (by exact Nat.le_of_eq rfl) at_130 rfl (by decide) (by decide)
      refine Go.tr st55 ?_
      have K0_h55 : Keep h0 h55 [] := K0_h52.trans K55 (allS (Or.inr sz_b52) all0)
      show Go _ _ _ _ (T55.setTop (mkF m 133 #[.val (.int i0), .val (.int i1), .val (.int i2), .val (.int i3), .val (.int i4), .val (.int i5), .val (.ref r_1), .val (.int r2_0), .val (.ref b3), .val (.ref b6), .val (.int ((XT.ushr i1 (1 : Int32)) &&& (3 : Int32))), .val (.ref b9), .unset, .unset, .unset] [(.ref b52)]))
      refine Go.by (fun _ k => XS.astore X55.here X55.hx rfl (X55.cd at_133) rfl rfl (l' := #[.val (.int i0), .val (.int i1), .val (.int i2), .val (.int i3), .val (.int i4), .val (.int i5), .val (.ref r_1), .val (.int r2_0), .val (.ref b3), .val (.ref b6), .val (.int ((XT.ushr i1 (1 : Int32)) &&& (3 : Int32))), .val (.ref b9), .val (.ref b52), .unset, .unset]) rfl k) ?_
      show Go _ _ _ _ (T55.setTop (mkF m 135 #[.val (.int i0), .val (.int i1), .val (.int i2), .val (.int i3), .val (.int i4), .val (.int i5), .val (.ref r_1), .val (.int r2_0), .val (.ref b3), .val (.ref b6), .val (.int ((XT.ushr i1 (1 : Int32)) &&& (3 : Int32))), .val (.ref b9), .val (.ref b52), .unset, .unset] []))
      refine Go.by (fun _ k => XS.aload X55.here X55.hx rfl (X55.cd at_135) rfl rfl k) ?_
      show Go _ _ _ _ (T55.setTop (mkF m 137 #[.val (.int i0), .val (.int i1), .val (.int i2), .val (.int i3), .val (.int i4), .val (.int i5), .val (.ref r_1), .val (.int r2_0), .val (.ref b3), .val (.ref b6), .val (.int ((XT.ushr i1 (1 : Int32)) &&& (3 : Int32))), .val (.ref b9), .val (.ref b52), .unset, .unset] [(.ref b52)]))
      have f57 : Exa Z h55 b52 "com/example/cinderpath/cinderpath/ir/Signature" := (A52).keep K55
      obtain ⟨_, T56, h56, X56, K56, ⟨r_56, rfl, rfl, p56_0⟩, st56⟩ := X55.viN (W := 0) (hw _ (List.mem_of_getElem? (i := 117) rfl)) (hw _ (List.mem_of_getElem? (i := 118) rfl)) (hw _ (List.mem_of_getElem? (i := 120) rfl)) (hw _ (List.mem_of_getElem? (i := 119) rfl)) (by decide) ((rm_ri l Z a0 hw n0 b52 r_1 r2_0 sk0 sk1 sk2 sk3 sk4 h55 X55.old P55_0 P55_1 Sk0 Sk1 Sk2 Sk3 Sk4).pay (hw _ (List.mem_of_getElem? (i := 121) rfl)) (hw _ (List.mem_of_getElem? (i := 99) rfl)) (by decide) (by decide)) all0 f57 (g := (mkF m 137 #[.val (.int i0), .val (.int i1), .val (.int i2), .val (.int i3), .val (.int i4), .val (.int i5), .val (.ref r_1), .val (.int r2_0), .val (.ref b3), .val (.ref b6), .val (.int ((XT.ushr i1 (1 : Int32)) &&& (3 : Int32))), .val (.ref b9), .val (.ref b52), .unset, .unset] [(.ref b52)])) rfl rfl (argsL := []) (rest := []) (lenOf pd_8 rfl) rfl (by exact Nat.le_of_eq rfl) at_137 rfl (by decide) (by decide)
      refine Go.tr st56 ?_
      show Go _ _ _ _ (T56.setTop (mkF m 140 #[.val (.int i0), .val (.int i1), .val (.int i2), .val (.int i3), .val (.int i4), .val (.int i5), .val (.ref r_1), .val (.int r2_0), .val (.ref b3), .val (.ref b6), .val (.int ((XT.ushr i1 (1 : Int32)) &&& (3 : Int32))), .val (.ref b9), .val (.ref b52), .unset, .unset] [(.int r_56)]))
      refine Go.by (fun _ k => XS.istore X56.here X56.hx rfl (X56.cd at_140) rfl (l' := #[.val (.int i0), .val (.int i1), .val (.int i2), .val (.int i3), .val (.int i4), .val (.int i5), .val (.ref r_1), .val (.int r2_0), .val (.ref b3), .val (.ref b6), .val (.int ((XT.ushr i1 (1 : Int32)) &&& (3 : Int32))), .val (.ref b9), .val (.ref b52), .val (.int r_56), .unset]) rfl k) ?_
      show Go _ _ _ _ (T56.setTop (mkF m 142 #[.val (.int i0), .val (.int i1), .val (.int i2), .val (.int i3), .val (.int i4), .val (.int i5), .val (.ref r_1), .val (.int r2_0), .val (.ref b3), .val (.ref b6), .val (.int ((XT.ushr i1 (1 : Int32)) &&& (3 : Int32))), .val (.ref b9), .val (.ref b52), .val (.int r_56), .unset] []))
      refine Go.by (fun _ k => XS.iload X56.here X56.hx rfl (X56.cd at_142) rfl  k) ?_
      show Go _ _ _ _ (T56.setTop (mkF m 144 #[.val (.int i0), .val (.int i1), .val (.int i2), .val (.int i3), .val (.int i4), .val (.int i5), .val (.ref r_1), .val (.int r2_0), .val (.ref b3), .val (.ref b6), .val (.int ((XT.ushr i1 (1 : Int32)) &&& (3 : Int32))), .val (.ref b9), .val (.ref b52), .val (.int r_56), .unset] [(.int r2_0)]))
      obtain ⟨T58, r58_0, X58, hr58, st58⟩ : ∃ (T58 : State) (r58_0 : Int32), Wk false p l e room_1 s m #[(.int i0), (.int i1), (.int i2), (.int i3), (.int i4), (.int i5)] below meth c Z [] x code 15 (some .boolean) n0 h0 T58 h55 [b52, ea_25, b38, b9, b6, b3] 7 27 ∧ (((r2_0 = 0) ∧ r58_0 = (0 : Int32)) ∨ (¬ (r2_0 = 0) ∧ ((Value.ref r_1) = (Value.ref sk1)) ∧ r58_0 = (1 : Int32)) ∨ (¬ (r2_0 = 0) ∧ ¬ ((Value.ref r_1) = (Value.ref sk1)) ∧ ((Value.ref r_1) = (Value.ref sk2)) ∧ r58_0 = (1 : Int32)) ∨ (¬ (r2_0 = 0) ∧ ¬ ((Value.ref r_1) = (Value.ref sk1)) ∧ ¬ ((Value.ref r_1) = (Value.ref sk2)) ∧ ((Value.ref r_1) = (Value.ref sk3)) ∧ r58_0 = (1 : Int32)) ∨ (¬ (r2_0 = 0) ∧ ¬ ((Value.ref r_1) = (Value.ref sk1)) ∧ ¬ ((Value.ref r_1) = (Value.ref sk2)) ∧ ¬ ((Value.ref r_1) = (Value.ref sk3)) ∧ ((Value.ref r_1) = (Value.ref sk4)) ∧ r58_0 = (1 : Int32)) ∨ (¬ (r2_0 = 0) ∧ ¬ ((Value.ref r_1) = (Value.ref sk1)) ∧ ¬ ((Value.ref r_1) = (Value.ref sk2)) ∧ ¬ ((Value.ref r_1) = (Value.ref sk3)) ∧ ¬ ((Value.ref r_1) = (Value.ref sk4)) ∧ r58_0 = (0 : Int32))) ∧ ∀ t, Steps p.tables e below (T58.setTop (mkF m 212 #[.val (.int i0), .val (.int i1), .val (.int i2), .val (.int i3), .val (.int i4), .val (.int i5), .val (.ref r_1), .val (.int r2_0), .val (.ref b3), .val (.ref b6), .val (.int ((XT.ushr i1 (1 : Int32)) &&& (3 : Int32))), .val (.ref b9), .val (.ref b52), .val (.int r_56), .val (.int r58_0)] [])) t → Steps p.tables e below (T56.setTop (mkF m 144 #[.val (.int i0), .val (.int i1), .val (.int i2), .val (.int i3), .val (.int i4), .val (.int i5), .val (.ref r_1), .val (.int r2_0), .val (.ref b3), .val (.ref b6), .val (.int ((XT.ushr i1 (1 : Int32)) &&& (3 : Int32))), .val (.ref b9), .val (.ref b52), .val (.int r_56), .unset] [(.int r2_0)])) t := by
        by_cases c58_0 : r2_0 = 0
        · refine ⟨T56, (0 : Int32), X56, Or.inl ⟨c58_0, rfl⟩, fun t k => ?_⟩
          refine XS.ifNo X56.here X56.hx rfl (X56.cd at_144) rfl (XT.i0_ne_f c58_0) ?_
          show Steps p.tables e below (T56.setTop (mkF m 147 #[.val (.int i0), .val (.int i1), .val (.int i2), .val (.int i3), .val (.int i4), .val (.int i5), .val (.ref r_1), .val (.int r2_0), .val (.ref b3), .val (.ref b6), .val (.int ((XT.ushr i1 (1 : Int32)) &&& (3 : Int32))), .val (.ref b9), .val (.ref b52), .val (.int r_56), .unset] [])) t
          refine XS.iconst X56.here X56.hx rfl (X56.cd at_147)  ?_
          show Steps p.tables e below (T56.setTop (mkF m 148 #[.val (.int i0), .val (.int i1), .val (.int i2), .val (.int i3), .val (.int i4), .val (.int i5), .val (.ref r_1), .val (.int r2_0), .val (.ref b3), .val (.ref b6), .val (.int ((XT.ushr i1 (1 : Int32)) &&& (3 : Int32))), .val (.ref b9), .val (.ref b52), .val (.int r_56), .unset] [(.int (0 : Int32))])) t
          refine XS.istore X56.here X56.hx rfl (X56.cd at_148) rfl (l' := #[.val (.int i0), .val (.int i1), .val (.int i2), .val (.int i3), .val (.int i4), .val (.int i5), .val (.ref r_1), .val (.int r2_0), .val (.ref b3), .val (.ref b6), .val (.int ((XT.ushr i1 (1 : Int32)) &&& (3 : Int32))), .val (.ref b9), .val (.ref b52), .val (.int r_56), .val (.int (0 : Int32))]) rfl ?_
          show Steps p.tables e below (T56.setTop (mkF m 150 #[.val (.int i0), .val (.int i1), .val (.int i2), .val (.int i3), .val (.int i4), .val (.int i5), .val (.ref r_1), .val (.int r2_0), .val (.ref b3), .val (.ref b6), .val (.int ((XT.ushr i1 (1 : Int32)) &&& (3 : Int32))), .val (.ref b9), .val (.ref b52), .val (.int r_56), .val (.int (0 : Int32))] [])) t
          refine XS.goto X56.here X56.hx rfl (pc0 := 150) (pc' := 212) rfl (X56.cd at_150) (by decide) (by decide) ?_
          show Steps p.tables e below (T56.setTop (mkF m 212 #[.val (.int i0), .val (.int i1), .val (.int i2), .val (.int i3), .val (.int i4), .val (.int i5), .val (.ref r_1), .val (.int r2_0), .val (.ref b3), .val (.ref b6), .val (.int ((XT.ushr i1 (1 : Int32)) &&& (3 : Int32))), .val (.ref b9), .val (.ref b52), .val (.int r_56), .val (.int (0 : Int32))] [])) t
          exact k
        · obtain ⟨T59, X59, st59⟩ := X56.getS (hw _ (List.mem_of_getElem? (i := 123) rfl)) Via.refl Sk1 (g := (mkF m 155 #[.val (.int i0), .val (.int i1), .val (.int i2), .val (.int i3), .val (.int i4), .val (.int i5), .val (.ref r_1), .val (.int r2_0), .val (.ref b3), .val (.ref b6), .val (.int ((XT.ushr i1 (1 : Int32)) &&& (3 : Int32))), .val (.ref b9), .val (.ref b52), .val (.int r_56), .unset] [(.ref r_1)])) rfl at_155
          by_cases c58_1 : (Value.ref r_1) = (Value.ref sk1)
          · refine ⟨T59, (1 : Int32), X59, Or.inr (Or.inl ⟨c58_0, c58_1, rfl⟩), fun t k => ?_⟩
            refine XS.ifYes X56.here X56.hx rfl (pc0 := 144) (pc' := 153) rfl (X56.cd at_144) rfl (XT.i0_ne_t c58_0) (by decide) (by decide) ?_
            show Steps p.tables e below (T56.setTop (mkF m 153 #[.val (.int i0), .val (.int i1), .val (.int i2), .val (.int i3), .val (.int i4), .val (.int i5), .val (.ref r_1), .val (.int r2_0), .val (.ref b3), .val (.ref b6), .val (.int ((XT.ushr i1 (1 : Int32)) &&& (3 : Int32))), .val (.ref b9), .val (.ref b52), .val (.int r_56), .unset] [])) t
            refine XS.aload X56.here X56.hx rfl (X56.cd at_153) rfl rfl ?_
            show Steps p.tables e below (T56.setTop (mkF m 155 #[.val (.int i0), .val (.int i1), .val (.int i2), .val (.int i3), .val (.int i4), .val (.int i5), .val (.ref r_1), .val (.int r2_0), .val (.ref b3), .val (.ref b6), .val (.int ((XT.ushr i1 (1 : Int32)) &&& (3 : Int32))), .val (.ref b9), .val (.ref b52), .val (.int r_56), .unset] [(.ref r_1)])) t
            refine st59 _ ?_
            show Steps p.tables e below (T59.setTop (mkF m 158 #[.val (.int i0), .val (.int i1), .val (.int i2), .val (.int i3), .val (.int i4), .val (.int i5), .val (.ref r_1), .val (.int r2_0), .val (.ref b3), .val (.ref b6), .val (.int ((XT.ushr i1 (1 : Int32)) &&& (3 : Int32))), .val (.ref b9), .val (.ref b52), .val (.int r_56), .unset] [(.ref sk1), (.ref r_1)])) t
            refine X59.acmp (cd := .ne) (x := (.ref r_1)) (y' := (.ref sk1)) rfl rfl (g := (mkF m 158 #[.val (.int i0), .val (.int i1), .val (.int i2), .val (.int i3), .val (.int i4), .val (.int i5), .val (.ref r_1), .val (.int r2_0), .val (.ref b3), .val (.ref b6), .val (.int ((XT.ushr i1 (1 : Int32)) &&& (3 : Int32))), .val (.ref b9), .val (.ref b52), .val (.int r_56), .unset] [(.ref sk1), (.ref r_1)])) rfl (pc0 := 158) (pc' := 161) (same := true) rfl at_158 rfl (decide_eq_true c58_1) (by decide) (by decide) _ ?_
            show Steps p.tables e below (T59.setTop (mkF m 161 #[.val (.int i0), .val (.int i1), .val (.int i2), .val (.int i3), .val (.int i4), .val (.int i5), .val (.ref r_1), .val (.int r2_0), .val (.ref b3), .val (.ref b6), .val (.int ((XT.ushr i1 (1 : Int32)) &&& (3 : Int32))), .val (.ref b9), .val (.ref b52), .val (.int r_56), .unset] [])) t
            refine XS.iconst X59.here X59.hx rfl (X59.cd at_161)  ?_
            show Steps p.tables e below (T59.setTop (mkF m 162 #[.val (.int i0), .val (.int i1), .val (.int i2), .val (.int i3), .val (.int i4), .val (.int i5), .val (.ref r_1), .val (.int r2_0), .val (.ref b3), .val (.ref b6), .val (.int ((XT.ushr i1 (1 : Int32)) &&& (3 : Int32))), .val (.ref b9), .val (.ref b52), .val (.int r_56), .unset] [(.int (1 : Int32))])) t
            refine XS.istore X59.here X59.hx rfl (X59.cd at_162) rfl (l' := #[.val (.int i0), .val (.int i1), .val (.int i2), .val (.int i3), .val (.int i4), .val (.int i5), .val (.ref r_1), .val (.int r2_0), .val (.ref b3), .val (.ref b6), .val (.int ((XT.ushr i1 (1 : Int32)) &&& (3 : Int32))), .val (.ref b9), .val (.ref b52), .val (.int r_56), .val (.int (1 : Int32))]) rfl ?_
            show Steps p.tables e below (T59.setTop (mkF m 164 #[.val (.int i0), .val (.int i1), .val (.int i2), .val (.int i3), .val (.int i4), .val (.int i5), .val (.ref r_1), .val (.int r2_0), .val (.ref b3), .val (.ref b6), .val (.int ((XT.ushr i1 (1 : Int32)) &&& (3 : Int32))), .val (.ref b9), .val (.ref b52), .val (.int r_56), .val (.int (1 : Int32))] [])) t
            refine XS.goto X59.here X59.hx rfl (pc0 := 164) (pc' := 212) rfl (X59.cd at_164) (by decide) (by decide) ?_
            show Steps p.tables e below (T59.setTop (mkF m 212 #[.val (.int i0), .val (.int i1), .val (.int i2), .val (.int i3), .val (.int i4), .val (.int i5), .val (.ref r_1), .val (.int r2_0), .val (.ref b3), .val (.ref b6), .val (.int ((XT.ushr i1 (1 : Int32)) &&& (3 : Int32))), .val (.ref b9), .val (.ref b52), .val (.int r_56), .val (.int (1 : Int32))] [])) t
            exact k
          · obtain ⟨T60, X60, st60⟩ := X59.getS (hw _ (List.mem_of_getElem? (i := 125) rfl)) Via.refl Sk2 (g := (mkF m 169 #[.val (.int i0), .val (.int i1), .val (.int i2), .val (.int i3), .val (.int i4), .val (.int i5), .val (.ref r_1), .val (.int r2_0), .val (.ref b3), .val (.ref b6), .val (.int ((XT.ushr i1 (1 : Int32)) &&& (3 : Int32))), .val (.ref b9), .val (.ref b52), .val (.int r_56), .unset] [(.ref r_1)])) rfl at_169
            by_cases c58_2 : (Value.ref r_1) = (Value.ref sk2)
            · refine ⟨T60, (1 : Int32), X60, Or.inr (Or.inr (Or.inl ⟨c58_0, c58_1, c58_2, rfl⟩)), fun t k => ?_⟩
              refine XS.ifYes X56.here X56.hx rfl (pc0 := 144) (pc' := 153) rfl (X56.cd at_144) rfl (XT.i0_ne_t c58_0) (by decide) (by decide) ?_
              show Steps p.tables e below (T56.setTop (mkF m 153 #[.val (.int i0), .val (.int i1), .val (.int i2), .val (.int i3), .val (.int i4), .val (.int i5), .val (.ref r_1), .val (.int r2_0), .val (.ref b3), .val (.ref b6), .val (.int ((XT.ushr i1 (1 : Int32)) &&& (3 : Int32))), .val (.ref b9), .val (.ref b52), .val (.int r_56), .unset] [])) t
              refine XS.aload X56.here X56.hx rfl (X56.cd at_153) rfl rfl ?_
              show Steps p.tables e below (T56.setTop (mkF m 155 #[.val (.int i0), .val (.int i1), .val (.int i2), .val (.int i3), .val (.int i4), .val (.int i5), .val (.ref r_1), .val (.int r2_0), .val (.ref b3), .val (.ref b6), .val (.int ((XT.ushr i1 (1 : Int32)) &&& (3 : Int32))), .val (.ref b9), .val (.ref b52), .val (.int r_56), .unset] [(.ref r_1)])) t
              refine st59 _ ?_
              show Steps p.tables e below (T59.setTop (mkF m 158 #[.val (.int i0), .val (.int i1), .val (.int i2), .val (.int i3), .val (.int i4), .val (.int i5), .val (.ref r_1), .val (.int r2_0), .val (.ref b3), .val (.ref b6), .val (.int ((XT.ushr i1 (1 : Int32)) &&& (3 : Int32))), .val (.ref b9), .val (.ref b52), .val (.int r_56), .unset] [(.ref sk1), (.ref r_1)])) t
              refine X59.acmp (cd := .ne) (x := (.ref r_1)) (y' := (.ref sk1)) rfl rfl (g := (mkF m 158 #[.val (.int i0), .val (.int i1), .val (.int i2), .val (.int i3), .val (.int i4), .val (.int i5), .val (.ref r_1), .val (.int r2_0), .val (.ref b3), .val (.ref b6), .val (.int ((XT.ushr i1 (1 : Int32)) &&& (3 : Int32))), .val (.ref b9), .val (.ref b52), .val (.int r_56), .unset] [(.ref sk1), (.ref r_1)])) rfl (pc0 := 158) (pc' := 167) (same := false) rfl at_158 rfl (decide_eq_false c58_1) (by decide) (by decide) _ ?_
              show Steps p.tables e below (T59.setTop (mkF m 167 #[.val (.int i0), .val (.int i1), .val (.int i2), .val (.int i3), .val (.int i4), .val (.int i5), .val (.ref r_1), .val (.int r2_0), .val (.ref b3), .val (.ref b6), .val (.int ((XT.ushr i1 (1 : Int32)) &&& (3 : Int32))), .val (.ref b9), .val (.ref b52), .val (.int r_56), .unset] [])) t
              refine XS.aload X59.here X59.hx rfl (X59.cd at_167) rfl rfl ?_
              show Steps p.tables e below (T59.setTop (mkF m 169 #[.val (.int i0), .val (.int i1), .val (.int i2), .val (.int i3), .val (.int i4), .val (.int i5), .val (.ref r_1), .val (.int r2_0), .val (.ref b3), .val (.ref b6), .val (.int ((XT.ushr i1 (1 : Int32)) &&& (3 : Int32))), .val (.ref b9), .val (.ref b52), .val (.int r_56), .unset] [(.ref r_1)])) t
              refine st60 _ ?_
              show Steps p.tables e below (T60.setTop (mkF m 172 #[.val (.int i0), .val (.int i1), .val (.int i2), .val (.int i3), .val (.int i4), .val (.int i5), .val (.ref r_1), .val (.int r2_0), .val (.ref b3), .val (.ref b6), .val (.int ((XT.ushr i1 (1 : Int32)) &&& (3 : Int32))), .val (.ref b9), .val (.ref b52), .val (.int r_56), .unset] [(.ref sk2), (.ref r_1)])) t
              refine X60.acmp (cd := .ne) (x := (.ref r_1)) (y' := (.ref sk2)) rfl rfl (g := (mkF m 172 #[.val (.int i0), .val (.int i1), .val (.int i2), .val (.int i3), .val (.int i4), .val (.int i5), .val (.ref r_1), .val (.int r2_0), .val (.ref b3), .val (.ref b6), .val (.int ((XT.ushr i1 (1 : Int32)) &&& (3 : Int32))), .val (.ref b9), .val (.ref b52), .val (.int r_56), .unset] [(.ref sk2), (.ref r_1)])) rfl (pc0 := 172) (pc' := 175) (same := true) rfl at_172 rfl (decide_eq_true c58_2) (by decide) (by decide) _ ?_
              show Steps p.tables e below (T60.setTop (mkF m 175 #[.val (.int i0), .val (.int i1), .val (.int i2), .val (.int i3), .val (.int i4), .val (.int i5), .val (.ref r_1), .val (.int r2_0), .val (.ref b3), .val (.ref b6), .val (.int ((XT.ushr i1 (1 : Int32)) &&& (3 : Int32))), .val (.ref b9), .val (.ref b52), .val (.int r_56), .unset] [])) t
              refine XS.iconst X60.here X60.hx rfl (X60.cd at_175)  ?_
              show Steps p.tables e below (T60.setTop (mkF m 176 #[.val (.int i0), .val (.int i1), .val (.int i2), .val (.int i3), .val (.int i4), .val (.int i5), .val (.ref r_1), .val (.int r2_0), .val (.ref b3), .val (.ref b6), .val (.int ((XT.ushr i1 (1 : Int32)) &&& (3 : Int32))), .val (.ref b9), .val (.ref b52), .val (.int r_56), .unset] [(.int (1 : Int32))])) t
              refine XS.istore X60.here X60.hx rfl (X60.cd at_176) rfl (l' := #[.val (.int i0), .val (.int i1), .val (.int i2), .val (.int i3), .val (.int i4), .val (.int i5), .val (.ref r_1), .val (.int r2_0), .val (.ref b3), .val (.ref b6), .val (.int ((XT.ushr i1 (1 : Int32)) &&& (3 : Int32))), .val (.ref b9), .val (.ref b52), .val (.int r_56), .val (.int (1 : Int32))]) rfl ?_
              show Steps p.tables e below (T60.setTop (mkF m 178 #[.val (.int i0), .val (.int i1), .val (.int i2), .val (.int i3), .val (.int i4), .val (.int i5), .val (.ref r_1), .val (.int r2_0), .val (.ref b3), .val (.ref b6), .val (.int ((XT.ushr i1 (1 : Int32)) &&& (3 : Int32))), .val (.ref b9), .val (.ref b52), .val (.int r_56), .val (.int (1 : Int32))] [])) t
              refine XS.goto X60.here X60.hx rfl (pc0 := 178) (pc' := 212) rfl (X60.cd at_178) (by decide) (by decide) ?_
              show Steps p.tables e below (T60.setTop (mkF m 212 #[.val (.int i0), .val (.int i1), .val (.int i2), .val (.int i3), .val (.int i4), .val (.int i5), .val (.ref r_1), .val (.int r2_0), .val (.ref b3), .val (.ref b6), .val (.int ((XT.ushr i1 (1 : Int32)) &&& (3 : Int32))), .val (.ref b9), .val (.ref b52), .val (.int r_56), .val (.int (1 : Int32))] [])) t
              exact k
            · obtain ⟨T61, X61, st61⟩ := X60.getS (hw _ (List.mem_of_getElem? (i := 127) rfl)) Via.refl Sk3 (g := (mkF m 183 #[.val (.int i0), .val (.int i1), .val (.int i2), .val (.int i3), .val (.int i4), .val (.int i5), .val (.ref r_1), .val (.int r2_0), .val (.ref b3), .val (.ref b6), .val (.int ((XT.ushr i1 (1 : Int32)) &&& (3 : Int32))), .val (.ref b9), .val (.ref b52), .val (.int r_56), .unset] [(.ref r_1)])) rfl at_183
              by_cases c58_3 : (Value.ref r_1) = (Value.ref sk3)
              · refine ⟨T61, (1 : Int32), X61, Or.inr (Or.inr (Or.inr (Or.inl ⟨c58_0, c58_1, c58_2, c58_3, rfl⟩))), fun t k => ?_⟩
                refine XS.ifYes X56.here X56.hx rfl (pc0 := 144) (pc' := 153) rfl (X56.cd at_144) rfl (XT.i0_ne_t c58_0) (by decide) (by decide) ?_
                show Steps p.tables e below (T56.setTop (mkF m 153 #[.val (.int i0), .val (.int i1), .val (.int i2), .val (.int i3), .val (.int i4), .val (.int i5), .val (.ref r_1), .val (.int r2_0), .val (.ref b3), .val (.ref b6), .val (.int ((XT.ushr i1 (1 : Int32)) &&& (3 : Int32))), .val (.ref b9), .val (.ref b52), .val (.int r_56), .unset] [])) t
                refine XS.aload X56.here X56.hx rfl (X56.cd at_153) rfl rfl ?_
                show Steps p.tables e below (T56.setTop (mkF m 155 #[.val (.int i0), .val (.int i1), .val (.int i2), .val (.int i3), .val (.int i4), .val (.int i5), .val (.ref r_1), .val (.int r2_0), .val (.ref b3), .val (.ref b6), .val (.int ((XT.ushr i1 (1 : Int32)) &&& (3 : Int32))), .val (.ref b9), .val (.ref b52), .val (.int r_56), .unset] [(.ref r_1)])) t
                refine st59 _ ?_
                show Steps p.tables e below (T59.setTop (mkF m 158 #[.val (.int i0), .val (.int i1), .val (.int i2), .val (.int i3), .val (.int i4), .val (.int i5), .val (.ref r_1), .val (.int r2_0), .val (.ref b3), .val (.ref b6), .val (.int ((XT.ushr i1 (1 : Int32)) &&& (3 : Int32))), .val (.ref b9), .val (.ref b52), .val (.int r_56), .unset] [(.ref sk1), (.ref r_1)])) t
                refine X59.acmp (cd := .ne) (x := (.ref r_1)) (y' := (.ref sk1)) rfl rfl (g := (mkF m 158 #[.val (.int i0), .val (.int i1), .val (.int i2), .val (.int i3), .val (.int i4), .val (.int i5), .val (.ref r_1), .val (.int r2_0), .val (.ref b3), .val (.ref b6), .val (.int ((XT.ushr i1 (1 : Int32)) &&& (3 : Int32))), .val (.ref b9), .val (.ref b52), .val (.int r_56), .unset] [(.ref sk1), (.ref r_1)])) rfl (pc0 := 158) (pc' := 167) (same := false) rfl at_158 rfl (decide_eq_false c58_1) (by decide) (by decide) _ ?_
                show Steps p.tables e below (T59.setTop (mkF m 167 #[.val (.int i0), .val (.int i1), .val (.int i2), .val (.int i3), .val (.int i4), .val (.int i5), .val (.ref r_1), .val (.int r2_0), .val (.ref b3), .val (.ref b6), .val (.int ((XT.ushr i1 (1 : Int32)) &&& (3 : Int32))), .val (.ref b9), .val (.ref b52), .val (.int r_56), .unset] [])) t
                refine XS.aload X59.here X59.hx rfl (X59.cd at_167) rfl rfl ?_
                show Steps p.tables e below (T59.setTop (mkF m 169 #[.val (.int i0), .val (.int i1), .val (.int i2), .val (.int i3), .val (.int i4), .val (.int i5), .val (.ref r_1), .val (.int r2_0), .val (.ref b3), .val (.ref b6), .val (.int ((XT.ushr i1 (1 : Int32)) &&& (3 : Int32))), .val (.ref b9), .val (.ref b52), .val (.int r_56), .unset] [(.ref r_1)])) t
                refine st60 _ ?_
                show Steps p.tables e below (T60.setTop (mkF m 172 #[.val (.int i0), .val (.int i1), .val (.int i2), .val (.int i3), .val (.int i4), .val (.int i5), .val (.ref r_1), .val (.int r2_0), .val (.ref b3), .val (.ref b6), .val (.int ((XT.ushr i1 (1 : Int32)) &&& (3 : Int32))), .val (.ref b9), .val (.ref b52), .val (.int r_56), .unset] [(.ref sk2), (.ref r_1)])) t
                refine X60.acmp (cd := .ne) (x := (.ref r_1)) (y' := (.ref sk2)) rfl rfl (g := (mkF m 172 #[.val (.int i0), .val (.int i1), .val (.int i2), .val (.int i3), .val (.int i4), .val (.int i5), .val (.ref r_1), .val (.int r2_0), .val (.ref b3), .val (.ref b6), .val (.int ((XT.ushr i1 (1 : Int32)) &&& (3 : Int32))), .val (.ref b9), .val (.ref b52), .val (.int r_56), .unset] [(.ref sk2), (.ref r_1)])) rfl (pc0 := 172) (pc' := 181) (same := false) rfl at_172 rfl (decide_eq_false c58_2) (by decide) (by decide) _ ?_
                show Steps p.tables e below (T60.setTop (mkF m 181 #[.val (.int i0), .val (.int i1), .val (.int i2), .val (.int i3), .val (.int i4), .val (.int i5), .val (.ref r_1), .val (.int r2_0), .val (.ref b3), .val (.ref b6), .val (.int ((XT.ushr i1 (1 : Int32)) &&& (3 : Int32))), .val (.ref b9), .val (.ref b52), .val (.int r_56), .unset] [])) t
                refine XS.aload X60.here X60.hx rfl (X60.cd at_181) rfl rfl ?_
                show Steps p.tables e below (T60.setTop (mkF m 183 #[.val (.int i0), .val (.int i1), .val (.int i2), .val (.int i3), .val (.int i4), .val (.int i5), .val (.ref r_1), .val (.int r2_0), .val (.ref b3), .val (.ref b6), .val (.int ((XT.ushr i1 (1 : Int32)) &&& (3 : Int32))), .val (.ref b9), .val (.ref b52), .val (.int r_56), .unset] [(.ref r_1)])) t
                refine st61 _ ?_
                show Steps p.tables e below (T61.setTop (mkF m 186 #[.val (.int i0), .val (.int i1), .val (.int i2), .val (.int i3), .val (.int i4), .val (.int i5), .val (.ref r_1), .val (.int r2_0), .val (.ref b3), .val (.ref b6), .val (.int ((XT.ushr i1 (1 : Int32)) &&& (3 : Int32))), .val (.ref b9), .val (.ref b52), .val (.int r_56), .unset] [(.ref sk3), (.ref r_1)])) t
                refine X61.acmp (cd := .ne) (x := (.ref r_1)) (y' := (.ref sk3)) rfl rfl (g := (mkF m 186 #[.val (.int i0), .val (.int i1), .val (.int i2), .val (.int i3), .val (.int i4), .val (.int i5), .val (.ref r_1), .val (.int r2_0), .val (.ref b3), .val (.ref b6), .val (.int ((XT.ushr i1 (1 : Int32)) &&& (3 : Int32))), .val (.ref b9), .val (.ref b52), .val (.int r_56), .unset] [(.ref sk3), (.ref r_1)])) rfl (pc0 := 186) (pc' := 189) (same := true) rfl at_186 rfl (decide_eq_true c58_3) (by decide) (by decide) _ ?_
                show Steps p.tables e below (T61.setTop (mkF m 189 #[.val (.int i0), .val (.int i1), .val (.int i2), .val (.int i3), .val (.int i4), .val (.int i5), .val (.ref r_1), .val (.int r2_0), .val (.ref b3), .val (.ref b6), .val (.int ((XT.ushr i1 (1 : Int32)) &&& (3 : Int32))), .val (.ref b9), .val (.ref b52), .val (.int r_56), .unset] [])) t
                refine XS.iconst X61.here X61.hx rfl (X61.cd at_189)  ?_
                show Steps p.tables e below (T61.setTop (mkF m 190 #[.val (.int i0), .val (.int i1), .val (.int i2), .val (.int i3), .val (.int i4), .val (.int i5), .val (.ref r_1), .val (.int r2_0), .val (.ref b3), .val (.ref b6), .val (.int ((XT.ushr i1 (1 : Int32)) &&& (3 : Int32))), .val (.ref b9), .val (.ref b52), .val (.int r_56), .unset] [(.int (1 : Int32))])) t
                refine XS.istore X61.here X61.hx rfl (X61.cd at_190) rfl (l' := #[.val (.int i0), .val (.int i1), .val (.int i2), .val (.int i3), .val (.int i4), .val (.int i5), .val (.ref r_1), .val (.int r2_0), .val (.ref b3), .val (.ref b6), .val (.int ((XT.ushr i1 (1 : Int32)) &&& (3 : Int32))), .val (.ref b9), .val (.ref b52), .val (.int r_56), .val (.int (1 : Int32))]) rfl ?_
                show Steps p.tables e below (T61.setTop (mkF m 192 #[.val (.int i0), .val (.int i1), .val (.int i2), .val (.int i3), .val (.int i4), .val (.int i5), .val (.ref r_1), .val (.int r2_0), .val (.ref b3), .val (.ref b6), .val (.int ((XT.ushr i1 (1 : Int32)) &&& (3 : Int32))), .val (.ref b9), .val (.ref b52), .val (.int r_56), .val (.int (1 : Int32))] [])) t
                refine XS.goto X61.here X61.hx rfl (pc0 := 192) (pc' := 212) rfl (X61.cd at_192) (by decide) (by decide) ?_
                show Steps p.tables e below (T61.setTop (mkF m 212 #[.val (.int i0), .val (.int i1), .val (.int i2), .val (.int i3), .val (.int i4), .val (.int i5), .val (.ref r_1), .val (.int r2_0), .val (.ref b3), .val (.ref b6), .val (.int ((XT.ushr i1 (1 : Int32)) &&& (3 : Int32))), .val (.ref b9), .val (.ref b52), .val (.int r_56), .val (.int (1 : Int32))] [])) t
                exact k
              · obtain ⟨T62, X62, st62⟩ := X61.getS (hw _ (List.mem_of_getElem? (i := 129) rfl)) Via.refl Sk4 (g := (mkF m 197 #[.val (.int i0), .val (.int i1), .val (.int i2), .val (.int i3), .val (.int i4), .val (.int i5), .val (.ref r_1), .val (.int r2_0), .val (.ref b3), .val (.ref b6), .val (.int ((XT.ushr i1 (1 : Int32)) &&& (3 : Int32))), .val (.ref b9), .val (.ref b52), .val (.int r_56), .unset] [(.ref r_1)])) rfl at_197
                by_cases c58_4 : (Value.ref r_1) = (Value.ref sk4)
                · refine ⟨T62, (1 : Int32), X62, Or.inr (Or.inr (Or.inr (Or.inr (Or.inl ⟨c58_0, c58_1, c58_2, c58_3, c58_4, rfl⟩)))), fun t k => ?_⟩
                  refine XS.ifYes X56.here X56.hx rfl (pc0 := 144) (pc' := 153) rfl (X56.cd at_144) rfl (XT.i0_ne_t c58_0) (by decide) (by decide) ?_
                  show Steps p.tables e below (T56.setTop (mkF m 153 #[.val (.int i0), .val (.int i1), .val (.int i2), .val (.int i3), .val (.int i4), .val (.int i5), .val (.ref r_1), .val (.int r2_0), .val (.ref b3), .val (.ref b6), .val (.int ((XT.ushr i1 (1 : Int32)) &&& (3 : Int32))), .val (.ref b9), .val (.ref b52), .val (.int r_56), .unset] [])) t
                  refine XS.aload X56.here X56.hx rfl (X56.cd at_153) rfl rfl ?_
                  show Steps p.tables e below (T56.setTop (mkF m 155 #[.val (.int i0), .val (.int i1), .val (.int i2), .val (.int i3), .val (.int i4), .val (.int i5), .val (.ref r_1), .val (.int r2_0), .val (.ref b3), .val (.ref b6), .val (.int ((XT.ushr i1 (1 : Int32)) &&& (3 : Int32))), .val (.ref b9), .val (.ref b52), .val (.int r_56), .unset] [(.ref r_1)])) t
                  refine st59 _ ?_
                  show Steps p.tables e below (T59.setTop (mkF m 158 #[.val (.int i0), .val (.int i1), .val (.int i2), .val (.int i3), .val (.int i4), .val (.int i5), .val (.ref r_1), .val (.int r2_0), .val (.ref b3), .val (.ref b6), .val (.int ((XT.ushr i1 (1 : Int32)) &&& (3 : Int32))), .val (.ref b9), .val (.ref b52), .val (.int r_56), .unset] [(.ref sk1), (.ref r_1)])) t
                  refine X59.acmp (cd := .ne) (x := (.ref r_1)) (y' := (.ref sk1)) rfl rfl (g := (mkF m 158 #[.val (.int i0), .val (.int i1), .val (.int i2), .val (.int i3), .val (.int i4), .val (.int i5), .val (.ref r_1), .val (.int r2_0), .val (.ref b3), .val (.ref b6), .val (.int ((XT.ushr i1 (1 : Int32)) &&& (3 : Int32))), .val (.ref b9), .val (.ref b52), .val (.int r_56), .unset] [(.ref sk1), (.ref r_1)])) rfl (pc0 := 158) (pc' := 167) (same := false) rfl at_158 rfl (decide_eq_false c58_1) (by decide) (by decide) _ ?_
                  show Steps p.tables e below (T59.setTop (mkF m 167 #[.val (.int i0), .val (.int i1), .val (.int i2), .val (.int i3), .val (.int i4), .val (.int i5), .val (.ref r_1), .val (.int r2_0), .val (.ref b3), .val (.ref b6), .val (.int ((XT.ushr i1 (1 : Int32)) &&& (3 : Int32))), .val (.ref b9), .val (.ref b52), .val (.int r_56), .unset] [])) t
                  refine XS.aload X59.here X59.hx rfl (X59.cd at_167) rfl rfl ?_
                  show Steps p.tables e below (T59.setTop (mkF m 169 #[.val (.int i0), .val (.int i1), .val (.int i2), .val (.int i3), .val (.int i4), .val (.int i5), .val (.ref r_1), .val (.int r2_0), .val (.ref b3), .val (.ref b6), .val (.int ((XT.ushr i1 (1 : Int32)) &&& (3 : Int32))), .val (.ref b9), .val (.ref b52), .val (.int r_56), .unset] [(.ref r_1)])) t
                  refine st60 _ ?_
                  show Steps p.tables e below (T60.setTop (mkF m 172 #[.val (.int i0), .val (.int i1), .val (.int i2), .val (.int i3), .val (.int i4), .val (.int i5), .val (.ref r_1), .val (.int r2_0), .val (.ref b3), .val (.ref b6), .val (.int ((XT.ushr i1 (1 : Int32)) &&& (3 : Int32))), .val (.ref b9), .val (.ref b52), .val (.int r_56), .unset] [(.ref sk2), (.ref r_1)])) t
                  refine X60.acmp (cd := .ne) (x := (.ref r_1)) (y' := (.ref sk2)) rfl rfl (g := (mkF m 172 #[.val (.int i0), .val (.int i1), .val (.int i2), .val (.int i3), .val (.int i4), .val (.int i5), .val (.ref r_1), .val (.int r2_0), .val (.ref b3), .val (.ref b6), .val (.int ((XT.ushr i1 (1 : Int32)) &&& (3 : Int32))), .val (.ref b9), .val (.ref b52), .val (.int r_56), .unset] [(.ref sk2), (.ref r_1)])) rfl (pc0 := 172) (pc' := 181) (same := false) rfl at_172 rfl (decide_eq_false c58_2) (by decide) (by decide) _ ?_
                  show Steps p.tables e below (T60.setTop (mkF m 181 #[.val (.int i0), .val (.int i1), .val (.int i2), .val (.int i3), .val (.int i4), .val (.int i5), .val (.ref r_1), .val (.int r2_0), .val (.ref b3), .val (.ref b6), .val (.int ((XT.ushr i1 (1 : Int32)) &&& (3 : Int32))), .val (.ref b9), .val (.ref b52), .val (.int r_56), .unset] [])) t
                  refine XS.aload X60.here X60.hx rfl (X60.cd at_181) rfl rfl ?_
                  show Steps p.tables e below (T60.setTop (mkF m 183 #[.val (.int i0), .val (.int i1), .val (.int i2), .val (.int i3), .val (.int i4), .val (.int i5), .val (.ref r_1), .val (.int r2_0), .val (.ref b3), .val (.ref b6), .val (.int ((XT.ushr i1 (1 : Int32)) &&& (3 : Int32))), .val (.ref b9), .val (.ref b52), .val (.int r_56), .unset] [(.ref r_1)])) t
                  refine st61 _ ?_
                  show Steps p.tables e below (T61.setTop (mkF m 186 #[.val (.int i0), .val (.int i1), .val (.int i2), .val (.int i3), .val (.int i4), .val (.int i5), .val (.ref r_1), .val (.int r2_0), .val (.ref b3), .val (.ref b6), .val (.int ((XT.ushr i1 (1 : Int32)) &&& (3 : Int32))), .val (.ref b9), .val (.ref b52), .val (.int r_56), .unset] [(.ref sk3), (.ref r_1)])) t
                  refine X61.acmp (cd := .ne) (x := (.ref r_1)) (y' := (.ref sk3)) rfl rfl (g := (mkF m 186 #[.val (.int i0), .val (.int i1), .val (.int i2), .val (.int i3), .val (.int i4), .val (.int i5), .val (.ref r_1), .val (.int r2_0), .val (.ref b3), .val (.ref b6), .val (.int ((XT.ushr i1 (1 : Int32)) &&& (3 : Int32))), .val (.ref b9), .val (.ref b52), .val (.int r_56), .unset] [(.ref sk3), (.ref r_1)])) rfl (pc0 := 186) (pc' := 195) (same := false) rfl at_186 rfl (decide_eq_false c58_3) (by decide) (by decide) _ ?_
                  show Steps p.tables e below (T61.setTop (mkF m 195 #[.val (.int i0), .val (.int i1), .val (.int i2), .val (.int i3), .val (.int i4), .val (.int i5), .val (.ref r_1), .val (.int r2_0), .val (.ref b3), .val (.ref b6), .val (.int ((XT.ushr i1 (1 : Int32)) &&& (3 : Int32))), .val (.ref b9), .val (.ref b52), .val (.int r_56), .unset] [])) t
                  refine XS.aload X61.here X61.hx rfl (X61.cd at_195) rfl rfl ?_
                  show Steps p.tables e below (T61.setTop (mkF m 197 #[.val (.int i0), .val (.int i1), .val (.int i2), .val (.int i3), .val (.int i4), .val (.int i5), .val (.ref r_1), .val (.int r2_0), .val (.ref b3), .val (.ref b6), .val (.int ((XT.ushr i1 (1 : Int32)) &&& (3 : Int32))), .val (.ref b9), .val (.ref b52), .val (.int r_56), .unset] [(.ref r_1)])) t
                  refine st62 _ ?_
                  show Steps p.tables e below (T62.setTop (mkF m 200 #[.val (.int i0), .val (.int i1), .val (.int i2), .val (.int i3), .val (.int i4), .val (.int i5), .val (.ref r_1), .val (.int r2_0), .val (.ref b3), .val (.ref b6), .val (.int ((XT.ushr i1 (1 : Int32)) &&& (3 : Int32))), .val (.ref b9), .val (.ref b52), .val (.int r_56), .unset] [(.ref sk4), (.ref r_1)])) t
                  refine X62.acmp (cd := .ne) (x := (.ref r_1)) (y' := (.ref sk4)) rfl rfl (g := (mkF m 200 #[.val (.int i0), .val (.int i1), .val (.int i2), .val (.int i3), .val (.int i4), .val (.int i5), .val (.ref r_1), .val (.int r2_0), .val (.ref b3), .val (.ref b6), .val (.int ((XT.ushr i1 (1 : Int32)) &&& (3 : Int32))), .val (.ref b9), .val (.ref b52), .val (.int r_56), .unset] [(.ref sk4), (.ref r_1)])) rfl (pc0 := 200) (pc' := 203) (same := true) rfl at_200 rfl (decide_eq_true c58_4) (by decide) (by decide) _ ?_
                  show Steps p.tables e below (T62.setTop (mkF m 203 #[.val (.int i0), .val (.int i1), .val (.int i2), .val (.int i3), .val (.int i4), .val (.int i5), .val (.ref r_1), .val (.int r2_0), .val (.ref b3), .val (.ref b6), .val (.int ((XT.ushr i1 (1 : Int32)) &&& (3 : Int32))), .val (.ref b9), .val (.ref b52), .val (.int r_56), .unset] [])) t
                  refine XS.iconst X62.here X62.hx rfl (X62.cd at_203)  ?_
                  show Steps p.tables e below (T62.setTop (mkF m 204 #[.val (.int i0), .val (.int i1), .val (.int i2), .val (.int i3), .val (.int i4), .val (.int i5), .val (.ref r_1), .val (.int r2_0), .val (.ref b3), .val (.ref b6), .val (.int ((XT.ushr i1 (1 : Int32)) &&& (3 : Int32))), .val (.ref b9), .val (.ref b52), .val (.int r_56), .unset] [(.int (1 : Int32))])) t
                  refine XS.istore X62.here X62.hx rfl (X62.cd at_204) rfl (l' := #[.val (.int i0), .val (.int i1), .val (.int i2), .val (.int i3), .val (.int i4), .val (.int i5), .val (.ref r_1), .val (.int r2_0), .val (.ref b3), .val (.ref b6), .val (.int ((XT.ushr i1 (1 : Int32)) &&& (3 : Int32))), .val (.ref b9), .val (.ref b52), .val (.int r_56), .val (.int (1 : Int32))]) rfl ?_
                  show Steps p.tables e below (T62.setTop (mkF m 206 #[.val (.int i0), .val (.int i1), .val (.int i2), .val (.int i3), .val (.int i4), .val (.int i5), .val (.ref r_1), .val (.int r2_0), .val (.ref b3), .val (.ref b6), .val (.int ((XT.ushr i1 (1 : Int32)) &&& (3 : Int32))), .val (.ref b9), .val (.ref b52), .val (.int r_56), .val (.int (1 : Int32))] [])) t
                  refine XS.goto X62.here X62.hx rfl (pc0 := 206) (pc' := 212) rfl (X62.cd at_206) (by decide) (by decide) ?_
                  show Steps p.tables e below (T62.setTop (mkF m 212 #[.val (.int i0), .val (.int i1), .val (.int i2), .val (.int i3), .val (.int i4), .val (.int i5), .val (.ref r_1), .val (.int r2_0), .val (.ref b3), .val (.ref b6), .val (.int ((XT.ushr i1 (1 : Int32)) &&& (3 : Int32))), .val (.ref b9), .val (.ref b52), .val (.int r_56), .val (.int (1 : Int32))] [])) t
                  exact k
                · refine ⟨T62, (0 : Int32), X62, Or.inr (Or.inr (Or.inr (Or.inr (Or.inr (⟨c58_0, c58_1, c58_2, c58_3, c58_4, rfl⟩))))), fun t k => ?_⟩
                  refine XS.ifYes X56.here X56.hx rfl (pc0 := 144) (pc' := 153) rfl (X56.cd at_144) rfl (XT.i0_ne_t c58_0) (by decide) (by decide) ?_
                  show Steps p.tables e below (T56.setTop (mkF m 153 #[.val (.int i0), .val (.int i1), .val (.int i2), .val (.int i3), .val (.int i4), .val (.int i5), .val (.ref r_1), .val (.int r2_0), .val (.ref b3), .val (.ref b6), .val (.int ((XT.ushr i1 (1 : Int32)) &&& (3 : Int32))), .val (.ref b9), .val (.ref b52), .val (.int r_56), .unset] [])) t
                  refine XS.aload X56.here X56.hx rfl (X56.cd at_153) rfl rfl ?_
                  show Steps p.tables e below (T56.setTop (mkF m 155 #[.val (.int i0), .val (.int i1), .val (.int i2), .val (.int i3), .val (.int i4), .val (.int i5), .val (.ref r_1), .val (.int r2_0), .val (.ref b3), .val (.ref b6), .val (.int ((XT.ushr i1 (1 : Int32)) &&& (3 : Int32))), .val (.ref b9), .val (.ref b52), .val (.int r_56), .unset] [(.ref r_1)])) t
                  refine st59 _ ?_
                  show Steps p.tables e below (T59.setTop (mkF m 158 #[.val (.int i0), .val (.int i1), .val (.int i2), .val (.int i3), .val (.int i4), .val (.int i5), .val (.ref r_1), .val (.int r2_0), .val (.ref b3), .val (.ref b6), .val (.int ((XT.ushr i1 (1 : Int32)) &&& (3 : Int32))), .val (.ref b9), .val (.ref b52), .val (.int r_56), .unset] [(.ref sk1), (.ref r_1)])) t
                  refine X59.acmp (cd := .ne) (x := (.ref r_1)) (y' := (.ref sk1)) rfl rfl (g := (mkF m 158 #[.val (.int i0), .val (.int i1), .val (.int i2), .val (.int i3), .val (.int i4), .val (.int i5), .val (.ref r_1), .val (.int r2_0), .val (.ref b3), .val (.ref b6), .val (.int ((XT.ushr i1 (1 : Int32)) &&& (3 : Int32))), .val (.ref b9), .val (.ref b52), .val (.int r_56), .unset] [(.ref sk1), (.ref r_1)])) rfl (pc0 := 158) (pc' := 167) (same := false) rfl at_158 rfl (decide_eq_false c58_1) (by decide) (by decide) _ ?_
                  show Steps p.tables e below (T59.setTop (mkF m 167 #[.val (.int i0), .val (.int i1), .val (.int i2), .val (.int i3), .val (.int i4), .val (.int i5), .val (.ref r_1), .val (.int r2_0), .val (.ref b3), .val (.ref b6), .val (.int ((XT.ushr i1 (1 : Int32)) &&& (3 : Int32))), .val (.ref b9), .val (.ref b52), .val (.int r_56), .unset] [])) t
                  refine XS.aload X59.here X59.hx rfl (X59.cd at_167) rfl rfl ?_
                  show Steps p.tables e below (T59.setTop (mkF m 169 #[.val (.int i0), .val (.int i1), .val (.int i2), .val (.int i3), .val (.int i4), .val (.int i5), .val (.ref r_1), .val (.int r2_0), .val (.ref b3), .val (.ref b6), .val (.int ((XT.ushr i1 (1 : Int32)) &&& (3 : Int32))), .val (.ref b9), .val (.ref b52), .val (.int r_56), .unset] [(.ref r_1)])) t
                  refine st60 _ ?_
                  show Steps p.tables e below (T60.setTop (mkF m 172 #[.val (.int i0), .val (.int i1), .val (.int i2), .val (.int i3), .val (.int i4), .val (.int i5), .val (.ref r_1), .val (.int r2_0), .val (.ref b3), .val (.ref b6), .val (.int ((XT.ushr i1 (1 : Int32)) &&& (3 : Int32))), .val (.ref b9), .val (.ref b52), .val (.int r_56), .unset] [(.ref sk2), (.ref r_1)])) t
                  refine X60.acmp (cd := .ne) (x := (.ref r_1)) (y' := (.ref sk2)) rfl rfl (g := (mkF m 172 #[.val (.int i0), .val (.int i1), .val (.int i2), .val (.int i3), .val (.int i4), .val (.int i5), .val (.ref r_1), .val (.int r2_0), .val (.ref b3), .val (.ref b6), .val (.int ((XT.ushr i1 (1 : Int32)) &&& (3 : Int32))), .val (.ref b9), .val (.ref b52), .val (.int r_56), .unset] [(.ref sk2), (.ref r_1)])) rfl (pc0 := 172) (pc' := 181) (same := false) rfl at_172 rfl (decide_eq_false c58_2) (by decide) (by decide) _ ?_
                  show Steps p.tables e below (T60.setTop (mkF m 181 #[.val (.int i0), .val (.int i1), .val (.int i2), .val (.int i3), .val (.int i4), .val (.int i5), .val (.ref r_1), .val (.int r2_0), .val (.ref b3), .val (.ref b6), .val (.int ((XT.ushr i1 (1 : Int32)) &&& (3 : Int32))), .val (.ref b9), .val (.ref b52), .val (.int r_56), .unset] [])) t
                  refine XS.aload X60.here X60.hx rfl (X60.cd at_181) rfl rfl ?_
                  show Steps p.tables e below (T60.setTop (mkF m 183 #[.val (.int i0), .val (.int i1), .val (.int i2), .val (.int i3), .val (.int i4), .val (.int i5), .val (.ref r_1), .val (.int r2_0), .val (.ref b3), .val (.ref b6), .val (.int ((XT.ushr i1 (1 : Int32)) &&& (3 : Int32))), .val (.ref b9), .val (.ref b52), .val (.int r_56), .unset] [(.ref r_1)])) t
                  refine st61 _ ?_
                  show Steps p.tables e below (T61.setTop (mkF m 186 #[.val (.int i0), .val (.int i1), .val (.int i2), .val (.int i3), .val (.int i4), .val (.int i5), .val (.ref r_1), .val (.int r2_0), .val (.ref b3), .val (.ref b6), .val (.int ((XT.ushr i1 (1 : Int32)) &&& (3 : Int32))), .val (.ref b9), .val (.ref b52), .val (.int r_56), .unset] [(.ref sk3), (.ref r_1)])) t
                  refine X61.acmp (cd := .ne) (x := (.ref r_1)) (y' := (.ref sk3)) rfl rfl (g := (mkF m 186 #[.val (.int i0), .val (.int i1), .val (.int i2), .val (.int i3), .val (.int i4), .val (.int i5), .val (.ref r_1), .val (.int r2_0), .val (.ref b3), .val (.ref b6), .val (.int ((XT.ushr i1 (1 : Int32)) &&& (3 : Int32))), .val (.ref b9), .val (.ref b52), .val (.int r_56), .unset] [(.ref sk3), (.ref r_1)])) rfl (pc0 := 186) (pc' := 195) (same := false) rfl at_186 rfl (decide_eq_false c58_3) (by decide) (by decide) _ ?_
                  show Steps p.tables e below (T61.setTop (mkF m 195 #[.val (.int i0), .val (.int i1), .val (.int i2), .val (.int i3), .val (.int i4), .val (.int i5), .val (.ref r_1), .val (.int r2_0), .val (.ref b3), .val (.ref b6), .val (.int ((XT.ushr i1 (1 : Int32)) &&& (3 : Int32))), .val (.ref b9), .val (.ref b52), .val (.int r_56), .unset] [])) t
                  refine XS.aload X61.here X61.hx rfl (X61.cd at_195) rfl rfl ?_
                  show Steps p.tables e below (T61.setTop (mkF m 197 #[.val (.int i0), .val (.int i1), .val (.int i2), .val (.int i3), .val (.int i4), .val (.int i5), .val (.ref r_1), .val (.int r2_0), .val (.ref b3), .val (.ref b6), .val (.int ((XT.ushr i1 (1 : Int32)) &&& (3 : Int32))), .val (.ref b9), .val (.ref b52), .val (.int r_56), .unset] [(.ref r_1)])) t
                  refine st62 _ ?_
                  show Steps p.tables e below (T62.setTop (mkF m 200 #[.val (.int i0), .val (.int i1), .val (.int i2), .val (.int i3), .val (.int i4), .val (.int i5), .val (.ref r_1), .val (.int r2_0), .val (.ref b3), .val (.ref b6), .val (.int ((XT.ushr i1 (1 : Int32)) &&& (3 : Int32))), .val (.ref b9), .val (.ref b52), .val (.int r_56), .unset] [(.ref sk4), (.ref r_1)])) t
                  refine X62.acmp (cd := .ne) (x := (.ref r_1)) (y' := (.ref sk4)) rfl rfl (g := (mkF m 200 #[.val (.int i0), .val (.int i1), .val (.int i2), .val (.int i3), .val (.int i4), .val (.int i5), .val (.ref r_1), .val (.int r2_0), .val (.ref b3), .val (.ref b6), .val (.int ((XT.ushr i1 (1 : Int32)) &&& (3 : Int32))), .val (.ref b9), .val (.ref b52), .val (.int r_56), .unset] [(.ref sk4), (.ref r_1)])) rfl (pc0 := 200) (pc' := 209) (same := false) rfl at_200 rfl (decide_eq_false c58_4) (by decide) (by decide) _ ?_
                  show Steps p.tables e below (T62.setTop (mkF m 209 #[.val (.int i0), .val (.int i1), .val (.int i2), .val (.int i3), .val (.int i4), .val (.int i5), .val (.ref r_1), .val (.int r2_0), .val (.ref b3), .val (.ref b6), .val (.int ((XT.ushr i1 (1 : Int32)) &&& (3 : Int32))), .val (.ref b9), .val (.ref b52), .val (.int r_56), .unset] [])) t
                  refine XS.iconst X62.here X62.hx rfl (X62.cd at_209)  ?_
                  show Steps p.tables e below (T62.setTop (mkF m 210 #[.val (.int i0), .val (.int i1), .val (.int i2), .val (.int i3), .val (.int i4), .val (.int i5), .val (.ref r_1), .val (.int r2_0), .val (.ref b3), .val (.ref b6), .val (.int ((XT.ushr i1 (1 : Int32)) &&& (3 : Int32))), .val (.ref b9), .val (.ref b52), .val (.int r_56), .unset] [(.int (0 : Int32))])) t
                  refine XS.istore X62.here X62.hx rfl (X62.cd at_210) rfl (l' := #[.val (.int i0), .val (.int i1), .val (.int i2), .val (.int i3), .val (.int i4), .val (.int i5), .val (.ref r_1), .val (.int r2_0), .val (.ref b3), .val (.ref b6), .val (.int ((XT.ushr i1 (1 : Int32)) &&& (3 : Int32))), .val (.ref b9), .val (.ref b52), .val (.int r_56), .val (.int (0 : Int32))]) rfl ?_
                  show Steps p.tables e below (T62.setTop (mkF m 212 #[.val (.int i0), .val (.int i1), .val (.int i2), .val (.int i3), .val (.int i4), .val (.int i5), .val (.ref r_1), .val (.int r2_0), .val (.ref b3), .val (.ref b6), .val (.int ((XT.ushr i1 (1 : Int32)) &&& (3 : Int32))), .val (.ref b9), .val (.ref b52), .val (.int r_56), .val (.int (0 : Int32))] [])) t
                  exact k
      refine Go.by (fun _ k => st58 _ k) ?_
      show Go _ _ _ _ (T58.setTop (mkF m 212 #[.val (.int i0), .val (.int i1), .val (.int i2), .val (.int i3), .val (.int i4), .val (.int i5), .val (.ref r_1), .val (.int r2_0), .val (.ref b3), .val (.ref b6), .val (.int ((XT.ushr i1 (1 : Int32)) &&& (3 : Int32))), .val (.ref b9), .val (.ref b52), .val (.int r_56), .val (.int r58_0)] []))
      simp only [Value.ref.injEq] at hr58
      have hfin : r_56 = r58_0 := own_fin hk1 hk2 hk3 hk4 (p1_0 ▸ own_pick_r sk0 sk1 sk2 sk3 sk4 i0) p56_0 hr58
      refine Go.by (fun _ k => XS.iload X58.here X58.hx rfl (X58.cd at_212) rfl  k) ?_
      show Go _ _ _ _ (T58.setTop (mkF m 214 #[.val (.int i0), .val (.int i1), .val (.int i2), .val (.int i3), .val (.int i4), .val (.int i5), .val (.ref r_1), .val (.int r2_0), .val (.ref b3), .val (.ref b6), .val (.int ((XT.ushr i1 (1 : Int32)) &&& (3 : Int32))), .val (.ref b9), .val (.ref b52), .val (.int r_56), .val (.int r58_0)] [(.int r_56)]))
      refine Go.by (fun _ k => XS.iload X58.here X58.hx rfl (X58.cd at_214) rfl  k) ?_
      show Go _ _ _ _ (T58.setTop (mkF m 216 #[.val (.int i0), .val (.int i1), .val (.int i2), .val (.int i3), .val (.int i4), .val (.int i5), .val (.ref r_1), .val (.int r2_0), .val (.ref b3), .val (.ref b6), .val (.int ((XT.ushr i1 (1 : Int32)) &&& (3 : Int32))), .val (.ref b9), .val (.ref b52), .val (.int r_56), .val (.int r58_0)] [(.int r58_0), (.int r_56)]))
      refine Go.by (fun _ k => XS.icmpNo X58.here X58.hx rfl (X58.cd at_216) rfl (XT.ii_ne_f hfin) k) ?_
      show Go _ _ _ _ (T58.setTop (mkF m 219 #[.val (.int i0), .val (.int i1), .val (.int i2), .val (.int i3), .val (.int i4), .val (.int i5), .val (.ref r_1), .val (.int r2_0), .val (.ref b3), .val (.ref b6), .val (.int ((XT.ushr i1 (1 : Int32)) &&& (3 : Int32))), .val (.ref b9), .val (.ref b52), .val (.int r_56), .val (.int r58_0)] []))
      refine Go.by (fun _ k => XS.iconst X58.here X58.hx rfl (X58.cd at_219)  k) ?_
      show Go _ _ _ _ (T58.setTop (mkF m 220 #[.val (.int i0), .val (.int i1), .val (.int i2), .val (.int i3), .val (.int i4), .val (.int i5), .val (.ref r_1), .val (.int r2_0), .val (.ref b3), .val (.ref b6), .val (.int ((XT.ushr i1 (1 : Int32)) &&& (3 : Int32))), .val (.ref b9), .val (.ref b52), .val (.int r_56), .val (.int r58_0)] [(.int (1 : Int32))]))
      refine Go.by (fun _ k => XS.goto X58.here X58.hx rfl (pc0 := 220) (pc' := 224) rfl (X58.cd at_220) (by decide) (by decide) k) ?_
      show Go _ _ _ _ (T58.setTop (mkF m 224 #[.val (.int i0), .val (.int i1), .val (.int i2), .val (.int i3), .val (.int i4), .val (.int i5), .val (.ref r_1), .val (.int r2_0), .val (.ref b3), .val (.ref b6), .val (.int ((XT.ushr i1 (1 : Int32)) &&& (3 : Int32))), .val (.ref b9), .val (.ref b52), .val (.int r_56), .val (.int r58_0)] [(.int (1 : Int32))]))
      exact X58.retN (by simp) rfl at_224 K0_h55 rfl (by decide) (by decide)
set_option maxRecDepth 65536 in
set_option maxHeartbeats 40000000 in
theorem comes_1 {Post : Tables → Env → Array Value → State → Outcome → State → Prop} (hpost : ∀ tb e args s v u, (limb_1_1.after args s (.returned v) u = true ∧ limb_1_2.after args s (.returned v) u = true ∧ True) → FrameEnd s (.returned v) u (Jvm.fieldLocs frame_1_writes args s ++ Jvm.arrayLocs frame_1_arrays args s ++ Jvm.staticLocs frame_1_statics s) 24 128 → Post tb e args s (.returned v) u) :
    ArmFor flags0 classFile x code maxLocals ret World_1 tables_1 room_1 Calls_1 rest_1 Pre_1 Post := by
  intro l hfl _ _ p e ha hc hk s m args below hf hA hF happ hP
  obtain ⟨hcalls, hrest, hpre⟩ := hP
  obtain ⟨-, -, -, hnamed, -, -, -, hat⟩ := (Spec.applies_iff hf).mp happ
  obtain ⟨hg, hn⟩ := and_e (Cond.before_iff.mp (show (Jvm.Cond.and given_1 narrow_1).before args s = true from hpre))
  obtain ⟨h1, gv0⟩ := and_e hg
  obtain ⟨gi0, gv1⟩ := and_e gv0
  obtain ⟨gi1, gv2⟩ := and_e gv1
  obtain ⟨gi2, gv3⟩ := and_e gv2
  obtain ⟨gi3, gv4⟩ := and_e gv3
  obtain ⟨gi4, gv5⟩ := and_e gv4
  obtain ⟨w0, w1, w2, w3, w4, w5, rfl⟩ : ∃ w0 w1 w2 w3 w4 w5 : Value, args = #[w0, w1, w2, w3, w4, w5] := by
    have hs : args.size = 6 := by simpa [Cond.value, given_1] using h1
    obtain ⟨L⟩ := args
    match L, hs with
    | [w0, w1, w2, w3, w4, w5], _ => exact ⟨w0, w1, w2, w3, w4, w5, rfl⟩
  have hw := fun d (hd : d ∈ tables_1) => atoms_spec (ws := Jvm.Cond.code x code maxLocals ret :: tables_1) hat d (List.mem_cons_of_mem _ hd)
  obtain ⟨hsets, hown0⟩ := atoms_of _ (rest_1_c_eq ▸ (show rest_1_c.before _ s = true from hrest))
  have hfit : Fit s := fun {y c} hc i hi => by
    obtain ⟨ha, rfl⟩ := Array.getElem?_eq_some_iff.mp hc
    have q := List.all_eq_true.mp ((Array.all_eq_true_iff_forall_mem.mp hF) _ (Array.getElem_mem ha)) i (List.mem_range.mpr hi)
    simpa [Array.getElem?_eq_getElem hi] using q
  obtain ⟨i0, e0⟩ := is_v gi0
  obtain rfl : w0 = (.int i0) := Option.some.inj e0
  obtain ⟨i1, e1⟩ := is_v gi1
  obtain rfl : w1 = (.int i1) := Option.some.inj e1
  obtain ⟨i2, e2⟩ := is_v gi2
  obtain rfl : w2 = (.int i2) := Option.some.inj e2
  obtain ⟨i3, e3⟩ := is_v gi3
  obtain rfl : w3 = (.int i3) := Option.some.inj e3
  obtain ⟨i4, e4⟩ := is_v gi4
  obtain rfl : w4 = (.int i4) := Option.some.inj e4
  obtain ⟨i5, e5⟩ := is_v gv5
  obtain rfl : w5 = (.int i5) := Option.some.inj e5
  obtain ⟨zc, ec⟩ := is_v (Cond.before_iff.mp (hsets _ (List.mem_of_getElem? (i := 1) rfl)))
  have Sc : Sta s s.heap "java/lang/String" "COMPACT_STRINGS" "Z" (.int zc) := Sta.start ec (Or.inl (hsets _ (List.mem_of_getElem? (i := 0) rfl)))
  have nc : ¬ (zc = (0 : Int32)) := gotF (Cond.eq_ints ec (Term.int_eval (0))) (not_v (Cond.before_iff.mp (hsets _ (List.mem_of_getElem? (i := 2) rfl))))
  obtain ⟨vf, ef, rf⟩ := isR_v (Cond.before_iff.mp (hsets _ (List.mem_of_getElem? (i := 8) rfl)))
  have Sf : Sta s s.heap "jdk/internal/util/Preconditions" "SIOOBE_FORMATTER" "Ljava/util/function/BiFunction;" vf := Sta.start ef (Or.inl (hsets _ (List.mem_of_getElem? (i := 7) rfl)))
  obtain ⟨hx0, hn1⟩ := and_e hn
  obtain ⟨hx1, hn2⟩ := and_e hn1
  obtain ⟨ho0, hn3⟩ := and_e hn2
  obtain ⟨ho1, hn4⟩ := and_e hn3
  obtain ⟨hx2, hn5⟩ := and_e hn4
  obtain ⟨ho2, hn6⟩ := and_e hn5
  obtain ⟨hx3, hn7⟩ := and_e hn6
  obtain ⟨ho3, hn8⟩ := and_e hn7
  obtain ⟨hx4, ho4⟩ := and_e hn8
  obtain ⟨sk0, _, _, _, ek0, _⟩ := Cond.exactly_spec (Cond.before_iff.mpr hx0)
  have Sk0 : Sta s s.heap "com/example/cinderpath/cinderpath/ir/ScalarType" "VOID" "Lcom/example/cinderpath/cinderpath/ir/ScalarType;" (.ref sk0) := Sta.start ek0 (Or.inr ⟨(hw _ (List.mem_of_getElem? (i := 6) rfl)), (hw _ (List.mem_of_getElem? (i := 7) rfl))⟩)
  have Ek0 : Exa s s.heap sk0 "com/example/cinderpath/cinderpath/ir/ScalarType" := Exa.start ek0 hx0
  have Fo0 : Fld s s.heap sk0 "java/lang/Enum" "ordinal" "I" (.int (0 : Int32)) := Fld.start ((fld_at ek0).symm.trans (Cond.eq_int (Cond.before_iff.mpr ho0) rfl))
  obtain ⟨sk1, _, _, _, ek1, _⟩ := Cond.exactly_spec (Cond.before_iff.mpr hx1)
  have Sk1 : Sta s s.heap "com/example/cinderpath/cinderpath/ir/ScalarType" "INT" "Lcom/example/cinderpath/cinderpath/ir/ScalarType;" (.ref sk1) := Sta.start ek1 (Or.inr ⟨(hw _ (List.mem_of_getElem? (i := 6) rfl)), (hw _ (List.mem_of_getElem? (i := 124) rfl))⟩)
  have Ek1 : Exa s s.heap sk1 "com/example/cinderpath/cinderpath/ir/ScalarType" := Exa.start ek1 hx1
  have Fo1 : Fld s s.heap sk1 "java/lang/Enum" "ordinal" "I" (.int (1 : Int32)) := Fld.start ((fld_at ek1).symm.trans (Cond.eq_int (Cond.before_iff.mpr ho1) rfl))
  obtain ⟨sk2, _, _, _, ek2, _⟩ := Cond.exactly_spec (Cond.before_iff.mpr hx2)
  have Sk2 : Sta s s.heap "com/example/cinderpath/cinderpath/ir/ScalarType" "BOOL" "Lcom/example/cinderpath/cinderpath/ir/ScalarType;" (.ref sk2) := Sta.start ek2 (Or.inr ⟨(hw _ (List.mem_of_getElem? (i := 6) rfl)), (hw _ (List.mem_of_getElem? (i := 126) rfl))⟩)
  have Ek2 : Exa s s.heap sk2 "com/example/cinderpath/cinderpath/ir/ScalarType" := Exa.start ek2 hx2
  have Fo2 : Fld s s.heap sk2 "java/lang/Enum" "ordinal" "I" (.int (2 : Int32)) := Fld.start ((fld_at ek2).symm.trans (Cond.eq_int (Cond.before_iff.mpr ho2) rfl))
  obtain ⟨sk3, _, _, _, ek3, _⟩ := Cond.exactly_spec (Cond.before_iff.mpr hx3)
  have Sk3 : Sta s s.heap "com/example/cinderpath/cinderpath/ir/ScalarType" "FLOAT" "Lcom/example/cinderpath/cinderpath/ir/ScalarType;" (.ref sk3) := Sta.start ek3 (Or.inr ⟨(hw _ (List.mem_of_getElem? (i := 6) rfl)), (hw _ (List.mem_of_getElem? (i := 128) rfl))⟩)
  have Ek3 : Exa s s.heap sk3 "com/example/cinderpath/cinderpath/ir/ScalarType" := Exa.start ek3 hx3
  have Fo3 : Fld s s.heap sk3 "java/lang/Enum" "ordinal" "I" (.int (3 : Int32)) := Fld.start ((fld_at ek3).symm.trans (Cond.eq_int (Cond.before_iff.mpr ho3) rfl))
  obtain ⟨sk4, _, _, _, ek4, _⟩ := Cond.exactly_spec (Cond.before_iff.mpr hx4)
  have Sk4 : Sta s s.heap "com/example/cinderpath/cinderpath/ir/ScalarType" "STRING" "Lcom/example/cinderpath/cinderpath/ir/ScalarType;" (.ref sk4) := Sta.start ek4 (Or.inr ⟨(hw _ (List.mem_of_getElem? (i := 6) rfl)), (hw _ (List.mem_of_getElem? (i := 130) rfl))⟩)
  have Ek4 : Exa s s.heap sk4 "com/example/cinderpath/cinderpath/ir/ScalarType" := Exa.start ek4 hx4
  have Fo4 : Fld s s.heap sk4 "java/lang/Enum" "ordinal" "I" (.int (4 : Int32)) := Fld.start ((fld_at ek4).symm.trans (Cond.eq_int (Cond.before_iff.mpr ho4) rfl))
  have hk1 : sk0 ≠ sk1 := Fo0.ne Fo1 (by decide)
  have hk2 : sk0 ≠ sk2 := Fo0.ne Fo2 (by decide)
  have hk3 : sk0 ≠ sk3 := Fo0.ne Fo3 (by decide)
  have hk4 : sk0 ≠ sk4 := Fo0.ne Fo4 (by decide)
  obtain ⟨dd, cD, eD, hD1, hD2, hD3⟩ := Jvm.Free.SB.Term.length_small (Cond.eq_int (hsets _ (List.mem_of_getElem? (i := 17) rfl)) rfl)
  obtain ⟨cE, aD⟩ := Arr.start eD (Cond.before_iff.mp (hsets _ (List.mem_of_getElem? (i := 15) rfl)))
  have hDE : cD = cE := Option.some.inj ((State.arrayAt?_spec hD1).1.symm.trans aD.1)
  subst hDE
  have Sd : Sta s s.heap "java/util/ArrayList" "DEFAULTCAPACITY_EMPTY_ELEMENTDATA" "[Ljava/lang/Object;" (.ref dd) := Sta.start eD (Or.inr ⟨(hw _ (List.mem_of_getElem? (i := 40) rfl)), (hsets _ (List.mem_of_getElem? (i := 11) rfl))⟩)
  have Ad : Arv s s.heap dd cD.cls (.object "java/lang/Object") (0 : Int32) [] .null := Arv.start hfit aD hD3 (Value.int.inj hD2).symm (by decide) rfl trivial
  have M := rm_law l s _ hw s.heap.size i0 i1 i2 i3 i4 i5 zc sk0 sk1 sk2 sk3 sk4 dd cD.cls s.heap (Old.start s) Sc nc Sk0 Sk1 Sk2 Sk3 Sk4 Sd Ad Ek0 Ek1 Ek2 Ek3 Ek4 hk1 hk2 hk3 hk4
  obtain ⟨n, o, h1, h2, h3, v, L, rfl, ⟨K, rfl, N⟩, hq⟩ := M p e ha hc hk s m _ below hf ((Spec.applies_iff_loose hf).mp happ).1 ⟨rfl, State.Warmed39.refl s, rfl⟩ trivial
  exact ⟨n, _, h1, h2, h3, hpost _ _ _ _ _ _ ⟨Cond.after_iff.mpr rfl, Cond.after_iff.mpr (eq_i res_at (Term.int_eval (1)) rfl), trivial⟩ ⟨hq.1, hq.2.1, (hq.2.2.sift fun y hy => Or.inr (N y hy)).mono (by decide) (by decide)⟩⟩
theorem main_1_1 : Claimed_1_1 := comes_1 fun _ _ _ _ _ _ h hF => ⟨h.1, hF⟩
theorem main_1_2 : Claimed_1_2 := comes_1 fun _ _ _ _ _ _ h hF => ⟨h.2.1, hF⟩
end Jvm.Pilot.@@N@@
namespace Jvm.Pilot.@@N@@
open Jvm Jvm.ClassFile Sem Op Lib Jvm.Free Jvm.Stand Jvm.Pilot.@@N@@.Jvm.D
/-! MADE BY PROGRAM (witnessworld.py) out of the Statement's table words and the real class files: 35 classes; the members and pool entries that the words name. The judged class is class 1, her method 2. -/
namespace start1
open Jvm.ClassFile
def u (s : String) : CpInfo := .utf8 (stringToUtf16 s)
/-- a pool by its gaps: so many unusable entries, then the entry; so many at the end -/
def gap : Nat → List CpInfo → List CpInfo
  | 0, r => r
  | n + 1, r => .unusable :: gap n r
def poolList (es : List (Nat × CpInfo)) (last : Nat) : List CpInfo := es.foldr (fun e r => gap e.1 (e.2 :: r)) (gap last [])
def pool (es : List (Nat × CpInfo)) (last : Nat) : Array CpInfo := ⟨poolList es last⟩
def fileOf (pool : Array CpInfo) (this : Nat) (attrs : Array Attribute := #[]) (ms : Array MethodInfo := #[]) (fl : Nat := 33) (sup : Nat := 0) (ifs : Array Nat := #[]) (fds : Array FieldInfo := #[]) : ClassFile where
  minorVersion := 0
  majorVersion := 65
  constantPool := pool
  accessFlags := fl
  thisClass := this
  superClass := sup
  interfaces := ifs
  fields := fds
  methods := ms
  attributes := attrs
def plain (name : String) (sup : Option ClassId) : Class where
  name := name
  kind := .ordinary
  loader := none
  accessFlags := 33
  super := sup
  interfaces := #[]
  cf := none
  fields := #[]
  methods := #[]
  instanceTypes := #[]
  staticTypes := #[]
  resolved := #[]
  callSites := []
  init := .initialized
  statics := none
  mirror := none

def pool0 : Array CpInfo := pool [(5, u "<init>"), (0, u "()V"), (1, .class_ 10), (1, u "java/lang/Object")] 113

def k0c0 : Code := { maxStack := 0, maxLocals := 1, code := object_method_1_code, exceptionTable := #[], attributes := #[] }
def k0m0 : Method := { name := "<init>", desc := "()V", sig := { parameters := [], returnType := none }, accessFlags := 1, code := some k0c0 }
/-- java/lang/Object -/
def k0 : Class := { plain "java/lang/Object" none with
  accessFlags := 33
  interfaces := #[]
  cf := some (fileOf pool0 8 #[] #[{ accessFlags := 1, nameIndex := 5, descriptorIndex := 6, attributes := #[] }] 33 0 #[] #[])
  fields := #[]
  methods := #[k0m0]
  instanceTypes := #[]
  staticTypes := #[]
  resolved := Array.replicate 124 none
  statics := none }

def pool1 : Array CpInfo := pool [(2, .class_ 4), (0, .nameAndType 5 6), (0, u "java/lang/Object"), (0, u "<init>"), (0, u "()V"), (0, .integer 2147483647), (0, .fieldref 9 10), (0, .class_ 11), (0, .nameAndType 12 13), (0, u "com/example/cinderpath/cinderpath/ir/ScalarType"), (0, u "VOID"), (0, u "Lcom/example/cinderpath/cinderpath/ir/ScalarType;"), (0, .fieldref 9 15), (0, .nameAndType 16 13), (0, u "INT"), (0, .fieldref 9 18), (0, .nameAndType 19 13), (0, u "BOOL"), (0, .fieldref 9 21), (0, .nameAndType 22 13), (0, u "FLOAT"), (0, .fieldref 9 24), (0, .nameAndType 25 13), (0, u "STRING"), (0, .methodref 27 28), (0, .class_ 29), (0, .nameAndType 30 31), (0, u "com/example/cinderpath/cinderpath/ir/SignatureReadsInputPinLaw"), (0, u "pick"), (0, u "(I)Lcom/example/cinderpath/cinderpath/ir/ScalarType;"), (0, .class_ 33), (0, u "java/lang/String"), (0, .methodref 32 35), (0, .nameAndType 5 36), (0, u "([C)V"), (0, .class_ 38), (0, u "java/util/ArrayList"), (0, .methodref 37 3), (0, .interfaceMethodref 41 42), (0, .class_ 43), (0, .nameAndType 44 45), (0, u "java/util/List"), (0, u "add"), (0, u "(Ljava/lang/Object;)Z"), (0, .class_ 47), (0, u "com/example/cinderpath/cinderpath/ir/ArrayType"), (0, .methodref 46 49), (0, .nameAndType 5 50), (0, u "(Lcom/example/cinderpath/cinderpath/ir/ScalarType;I)V"), (0, .class_ 52), (0, u "com/example/cinderpath/cinderpath/ir/Signature"), (0, .methodref 51 54), (0, .nameAndType 5 55), (0, u "(Ljava/lang/String;Lcom/example/cinderpath/cinderpath/ir/ScalarType;Ljava/util/List;Z)V"), (0, .methodref 51 57), (0, .nameAndType 58 59), (0, u "readsInput"), (0, u "()Z"), (3, u "law"), (0, u "(IIIIII)Z")] 4

def k1m0 : Method := { name := "<init>", desc := "()V", sig := { parameters := [], returnType := none }, accessFlags := 1, code := none }
def k1c1 : Code := { maxStack := 2, maxLocals := 2, code := method_2_code, exceptionTable := #[], attributes := #[] }
def k1m1 : Method := { name := "pick", desc := "(I)Lcom/example/cinderpath/cinderpath/ir/ScalarType;", sig := { parameters := [.int], returnType := some (.object "com/example/cinderpath/cinderpath/ir/ScalarType") }, accessFlags := 10, code := some k1c1 }
def k1c2 : Code := { maxStack := 6, maxLocals := 15, code := code, exceptionTable := #[], attributes := #[] }
def k1m2 : Method := { name := "law", desc := "(IIIIII)Z", sig := { parameters := [.int, .int, .int, .int, .int, .int], returnType := some .boolean }, accessFlags := 9, code := some k1c2 }
/-- com/example/cinderpath/cinderpath/ir/SignatureReadsInputPinLaw -/
def k1 : Class := { plain "com/example/cinderpath/cinderpath/ir/SignatureReadsInputPinLaw" (some 0) with
  accessFlags := 49
  interfaces := #[]
  cf := some (fileOf pool1 27 #[] #[{ accessFlags := 1, nameIndex := 5, descriptorIndex := 6, attributes := #[] }, { accessFlags := 10, nameIndex := 30, descriptorIndex := 31, attributes := #[] }, { accessFlags := 9, nameIndex := 63, descriptorIndex := 64, attributes := #[] }] 49 2 #[] #[])
  fields := #[]
  methods := #[k1m0, k1m1, k1m2]
  instanceTypes := #[]
  staticTypes := #[]
  resolved := Array.replicate 69 none
  statics := none }

def pool2 : Array CpInfo := pool [(1, .class_ 2), (0, u "java/lang/constant/Constable"), (0, .class_ 4), (0, u "java/lang/Object")] 6

/-- java/lang/constant/Constable -/
def k2 : Class := { plain "java/lang/constant/Constable" (some 0) with
  accessFlags := 1537
  interfaces := #[]
  cf := some (fileOf pool2 1 #[] #[] 1537 3 #[] #[])
  fields := #[]
  methods := #[]
  instanceTypes := #[]
  staticTypes := #[]
  resolved := Array.replicate 11 none
  statics := none }

def pool3 : Array CpInfo := pool [(1, .class_ 2), (0, u "java/lang/Comparable"), (0, .class_ 4), (0, u "java/lang/Object")] 7

/-- java/lang/Comparable -/
def k3 : Class := { plain "java/lang/Comparable" (some 0) with
  accessFlags := 1537
  interfaces := #[]
  cf := some (fileOf pool3 1 #[] #[] 1537 3 #[] #[])
  fields := #[]
  methods := #[]
  instanceTypes := #[]
  staticTypes := #[]
  resolved := Array.replicate 12 none
  statics := none }

def pool4 : Array CpInfo := pool [(1, .class_ 2), (0, u "java/io/Serializable"), (0, .class_ 4), (0, u "java/lang/Object")] 2

/-- java/io/Serializable -/
def k4 : Class := { plain "java/io/Serializable" (some 0) with
  accessFlags := 1537
  interfaces := #[]
  cf := some (fileOf pool4 1 #[] #[] 1537 3 #[] #[])
  fields := #[]
  methods := #[]
  instanceTypes := #[]
  staticTypes := #[]
  resolved := Array.replicate 7 none
  statics := none }

def pool5 : Array CpInfo := pool [(2, .class_ 4), (1, u "java/lang/Enum"), (0, u "name"), (0, u "Ljava/lang/String;"), (2, u "ordinal"), (0, u "I"), (1, .class_ 14), (1, u "java/lang/Object"), (4, u "hash"), (86, .class_ 108), (1, u "java/lang/Enum$EnumDesc"), (2, .class_ 112), (0, u "java/lang/constant/Constable"), (0, .class_ 114), (0, u "java/lang/Comparable"), (0, .class_ 116), (0, u "java/io/Serializable")] 87

/-- java/lang/Enum -/
def k5 : Class := { plain "java/lang/Enum" (some 0) with
  accessFlags := 1057
  interfaces := #[2, 3, 4]
  cf := some (fileOf pool5 2 #[.nestMembers #[106]] #[] 1057 12 #[111, 113, 115] #[{ accessFlags := 18, nameIndex := 5, descriptorIndex := 6, attributes := #[] }, { accessFlags := 18, nameIndex := 9, descriptorIndex := 10, attributes := #[] }, { accessFlags := 2, nameIndex := 19, descriptorIndex := 10, attributes := #[] }])
  fields := #[{ name := "name", type := (.object "java/lang/String"), accessFlags := 18, slot := 0, constantValue := 0 }, { name := "ordinal", type := .int, accessFlags := 18, slot := 1, constantValue := 0 }, { name := "hash", type := .int, accessFlags := 2, slot := 2, constantValue := 0 }]
  methods := #[]
  instanceTypes := #[(.object "java/lang/String"), .int, .int]
  staticTypes := #[]
  resolved := Array.replicate 204 none
  statics := none }

def pool6 : Array CpInfo := pool [(1, .class_ 2), (0, u "com/example/cinderpath/cinderpath/ir/Type"), (0, .class_ 4), (0, u "java/lang/Object")] 7

/-- com/example/cinderpath/cinderpath/ir/Type -/
def k6 : Class := { plain "com/example/cinderpath/cinderpath/ir/Type" (some 0) with
  accessFlags := 1537
  interfaces := #[]
  cf := some (fileOf pool6 1 #[] #[] 1537 3 #[] #[])
  fields := #[]
  methods := #[]
  instanceTypes := #[]
  staticTypes := #[]
  resolved := Array.replicate 12 none
  statics := none }

def pool7 : Array CpInfo := pool [(1, .class_ 2), (0, u "com/example/cinderpath/cinderpath/ir/ScalarType"), (2, u "VOID"), (0, u "Lcom/example/cinderpath/cinderpath/ir/ScalarType;"), (2, u "INT"), (2, u "BOOL"), (2, u "FLOAT"), (2, u "STRING"), (2, u "$VALUES"), (0, u "[Lcom/example/cinderpath/cinderpath/ir/ScalarType;"), (6, .class_ 31), (1, u "java/lang/Enum"), (16, .class_ 49), (0, u "com/example/cinderpath/cinderpath/ir/Type")] 11

/-- com/example/cinderpath/cinderpath/ir/ScalarType -/
def k7 : Class := { plain "com/example/cinderpath/cinderpath/ir/ScalarType" (some 5) with
  accessFlags := 16433
  interfaces := #[6]
  cf := some (fileOf pool7 1 #[] #[] 16433 29 #[48] #[{ accessFlags := 16409, nameIndex := 5, descriptorIndex := 6, attributes := #[] }, { accessFlags := 16409, nameIndex := 9, descriptorIndex := 6, attributes := #[] }, { accessFlags := 16409, nameIndex := 12, descriptorIndex := 6, attributes := #[] }, { accessFlags := 16409, nameIndex := 15, descriptorIndex := 6, attributes := #[] }, { accessFlags := 16409, nameIndex := 18, descriptorIndex := 6, attributes := #[] }, { accessFlags := 4122, nameIndex := 21, descriptorIndex := 22, attributes := #[] }])
  fields := #[{ name := "VOID", type := (.object "com/example/cinderpath/cinderpath/ir/ScalarType"), accessFlags := 16409, slot := 0, constantValue := 0 }, { name := "INT", type := (.object "com/example/cinderpath/cinderpath/ir/ScalarType"), accessFlags := 16409, slot := 1, constantValue := 0 }, { name := "BOOL", type := (.object "com/example/cinderpath/cinderpath/ir/ScalarType"), accessFlags := 16409, slot := 2, constantValue := 0 }, { name := "FLOAT", type := (.object "com/example/cinderpath/cinderpath/ir/ScalarType"), accessFlags := 16409, slot := 3, constantValue := 0 }, { name := "STRING", type := (.object "com/example/cinderpath/cinderpath/ir/ScalarType"), accessFlags := 16409, slot := 4, constantValue := 0 }, { name := "$VALUES", type := (.array (.object "com/example/cinderpath/cinderpath/ir/ScalarType")), accessFlags := 4122, slot := 5, constantValue := 0 }]
  methods := #[]
  instanceTypes := #[(.object "java/lang/String"), .int, .int]
  staticTypes := #[(.object "com/example/cinderpath/cinderpath/ir/ScalarType"), (.object "com/example/cinderpath/cinderpath/ir/ScalarType"), (.object "com/example/cinderpath/cinderpath/ir/ScalarType"), (.object "com/example/cinderpath/cinderpath/ir/ScalarType"), (.object "com/example/cinderpath/cinderpath/ir/ScalarType"), (.array (.object "com/example/cinderpath/cinderpath/ir/ScalarType"))]
  resolved := Array.replicate 61 none
  statics := some 0 }

def pool8 : Array CpInfo := pool [(2, .class_ 4), (1, u "java/lang/CharSequence"), (42, .class_ 48), (0, u "java/lang/CharSequence$1CodePointIterator"), (10, .class_ 60), (0, u "java/lang/CharSequence$1CharIterator"), (5, .class_ 67), (0, u "java/lang/Object")] 63

/-- java/lang/CharSequence -/
def k8 : Class := { plain "java/lang/CharSequence" (some 0) with
  accessFlags := 1537
  interfaces := #[]
  cf := some (fileOf pool8 2 #[.nestMembers #[47, 59]] #[] 1537 66 #[] #[])
  fields := #[]
  methods := #[]
  instanceTypes := #[]
  staticTypes := #[]
  resolved := Array.replicate 131 none
  statics := none }

def pool9 : Array CpInfo := pool [(1, .class_ 2), (0, u "java/lang/constant/ConstantDesc"), (0, .class_ 4), (0, u "java/lang/Object")] 32

/-- java/lang/constant/ConstantDesc -/
def k9 : Class := { plain "java/lang/constant/ConstantDesc" (some 0) with
  accessFlags := 1537
  interfaces := #[]
  cf := some (fileOf pool9 1 #[] #[] 1537 3 #[] #[])
  fields := #[]
  methods := #[]
  instanceTypes := #[]
  staticTypes := #[]
  resolved := Array.replicate 37 none
  statics := none }

def pool10 : Array CpInfo := pool [(1, .methodref 2 3), (0, .class_ 4), (0, .nameAndType 5 6), (0, u "java/lang/Object"), (0, u "<init>"), (0, u "()V"), (2, .fieldref 10 11), (0, .class_ 12), (0, .nameAndType 13 14), (0, u "java/lang/String"), (0, u "value"), (0, u "[B"), (0, .fieldref 10 16), (0, .nameAndType 17 18), (0, u "coder"), (0, u "B"), (2, u "hash"), (0, u "I"), (2, u "hashIsZero"), (0, u "Z"), (0, .methodref 10 28), (0, .nameAndType 5 29), (0, u "([CIILjava/lang/Void;)V"), (8, .fieldref 10 39), (0, .nameAndType 40 26), (0, u "COMPACT_STRINGS"), (1, .class_ 44), (1, u "java/lang/StringUTF16"), (0, u "compress"), (1, .methodref 42 48), (0, .nameAndType 49 50), (0, u "coderFromArrayLen"), (0, u "([BI)B"), (126, .methodref 42 178), (0, .nameAndType 45 179), (0, u "([CII)[B"), (395, .class_ 576), (0, u "java/lang/CharSequence"), (22, u "CASE_INSENSITIVE_ORDER"), (0, u "Ljava/util/Comparator;"), (409, u "([C)V"), (90, u "serialPersistentFields"), (0, u "[Ljava/io/ObjectStreamField;"), (0, .class_ 1104), (0, u "java/lang/String$CaseInsensitiveComparator"), (1, .class_ 1107), (0, u "java/io/Serializable"), (0, .class_ 1109), (0, u "java/lang/Comparable"), (0, .class_ 1111), (0, u "java/lang/constant/Constable"), (0, .class_ 1113), (0, u "java/lang/constant/ConstantDesc"), (2, u "serialVersionUID"), (0, u "J"), (3, u "REPL"), (0, u "C"), (2, u "LATIN1"), (1, u "UTF16")] 323

def k10m0 : Method := { name := "<init>", desc := "()V", sig := { parameters := [], returnType := none }, accessFlags := 1, code := none }
def k10c1 : Code := { maxStack := 5, maxLocals := 2, code := jdk_42_method_3_code, exceptionTable := #[], attributes := #[] }
def k10m1 : Method := { name := "<init>", desc := "([C)V", sig := { parameters := [(.array .char)], returnType := none }, accessFlags := 1, code := some k10c1 }
def k10c2 : Code := { maxStack := 4, maxLocals := 6, code := jdk_42_method_149_code, exceptionTable := #[], attributes := #[] }
def k10m2 : Method := { name := "<init>", desc := "([CIILjava/lang/Void;)V", sig := { parameters := [(.array .char), .int, .int, (.object "java/lang/Void")], returnType := none }, accessFlags := 2, code := some k10c2 }
/-- java/lang/String -/
def k10 : Class := { plain "java/lang/String" (some 0) with
  accessFlags := 49
  interfaces := #[4, 3, 8, 2, 9]
  cf := some (fileOf pool10 10 #[.nestMembers #[1103]] #[{ accessFlags := 1, nameIndex := 5, descriptorIndex := 6, attributes := #[] }, { accessFlags := 1, nameIndex := 5, descriptorIndex := 1010, attributes := #[] }, { accessFlags := 2, nameIndex := 5, descriptorIndex := 29, attributes := #[] }] 49 2 #[1106, 1108, 575, 1110, 1112] #[{ accessFlags := 18, nameIndex := 13, descriptorIndex := 14, attributes := #[] }, { accessFlags := 18, nameIndex := 17, descriptorIndex := 18, attributes := #[] }, { accessFlags := 2, nameIndex := 21, descriptorIndex := 22, attributes := #[] }, { accessFlags := 2, nameIndex := 25, descriptorIndex := 26, attributes := #[] }, { accessFlags := 26, nameIndex := 1116, descriptorIndex := 1117, attributes := #[] }, { accessFlags := 24, nameIndex := 40, descriptorIndex := 26, attributes := #[] }, { accessFlags := 26, nameIndex := 1101, descriptorIndex := 1102, attributes := #[] }, { accessFlags := 26, nameIndex := 1121, descriptorIndex := 1122, attributes := #[] }, { accessFlags := 25, nameIndex := 599, descriptorIndex := 600, attributes := #[] }, { accessFlags := 24, nameIndex := 1125, descriptorIndex := 18, attributes := #[] }, { accessFlags := 24, nameIndex := 1127, descriptorIndex := 18, attributes := #[] }])
  fields := #[{ name := "value", type := (.array .byte), accessFlags := 18, slot := 0, constantValue := 0 }, { name := "coder", type := .byte, accessFlags := 18, slot := 1, constantValue := 0 }, { name := "hash", type := .int, accessFlags := 2, slot := 2, constantValue := 0 }, { name := "hashIsZero", type := .boolean, accessFlags := 2, slot := 3, constantValue := 0 }, { name := "serialVersionUID", type := .long, accessFlags := 26, slot := 0, constantValue := 0 }, { name := "COMPACT_STRINGS", type := .boolean, accessFlags := 24, slot := 1, constantValue := 0 }, { name := "serialPersistentFields", type := (.array (.object "java/io/ObjectStreamField")), accessFlags := 26, slot := 2, constantValue := 0 }, { name := "REPL", type := .char, accessFlags := 26, slot := 3, constantValue := 0 }, { name := "CASE_INSENSITIVE_ORDER", type := (.object "java/util/Comparator"), accessFlags := 25, slot := 4, constantValue := 0 }, { name := "LATIN1", type := .byte, accessFlags := 24, slot := 5, constantValue := 0 }, { name := "UTF16", type := .byte, accessFlags := 24, slot := 6, constantValue := 0 }]
  methods := #[k10m0, k10m1, k10m2]
  instanceTypes := #[(.array .byte), .byte, .int, .boolean]
  staticTypes := #[.long, .boolean, (.array (.object "java/io/ObjectStreamField")), .char, (.object "java/util/Comparator"), .byte, .byte]
  resolved := Array.replicate 1451 none
  statics := some 1 }

def pool11 : Array CpInfo := pool [(6, .class_ 8), (1, u "java/lang/Object"), (0, u "<init>"), (0, u "()V"), (1, .class_ 14), (1, u "java/lang/StringUTF16"), (31, u "$assertionsDisabled"), (0, u "Z"), (13, u "HI_BYTE_SHIFT"), (0, u "I"), (2, u "LO_BYTE_SHIFT"), (49, .methodref 12 116), (0, .nameAndType 117 118), (0, u "compress"), (0, u "([CI[BII)I"), (3, u "([CII)[B"), (138, u "coderFromArrayLen"), (0, u "([BI)B"), (106, .class_ 371), (1, u "java/lang/StringUTF16$LinesSpliterator"), (58, u "MAX_LENGTH"), (196, .class_ 628), (0, u "java/lang/StringUTF16$CodePointsSpliterator"), (0, .class_ 630), (0, u "java/lang/StringUTF16$CharsSpliterator")] 4

def k11m0 : Method := { name := "<init>", desc := "()V", sig := { parameters := [], returnType := none }, accessFlags := 0, code := none }
def k11c1 : Code := { maxStack := 2, maxLocals := 2, code := jdk_52_method_15_code, exceptionTable := #[], attributes := #[] }
def k11m1 : Method := { name := "coderFromArrayLen", desc := "([BI)B", sig := { parameters := [(.array .byte), .int], returnType := some .byte }, accessFlags := 8, code := some k11c1 }
def k11c2 : Code := { maxStack := 5, maxLocals := 6, code := jdk_52_method_16_code, exceptionTable := #[], attributes := #[] }
def k11m2 : Method := { name := "compress", desc := "([CII)[B", sig := { parameters := [(.array .char), .int, .int], returnType := some (.array .byte) }, accessFlags := 9, code := some k11c2 }
def k11c3 : Code := { maxStack := 3, maxLocals := 7, code := jdk_52_method_21_code, exceptionTable := #[], attributes := #[] }
def k11m3 : Method := { name := "compress", desc := "([CI[BII)I", sig := { parameters := [(.array .char), .int, (.array .byte), .int, .int], returnType := some .int }, accessFlags := 9, code := some k11c3 }
/-- java/lang/StringUTF16 -/
def k11 : Class := { plain "java/lang/StringUTF16" (some 0) with
  accessFlags := 48
  interfaces := #[]
  cf := some (fileOf pool11 12 #[.nestMembers #[627, 629, 369]] #[{ accessFlags := 0, nameIndex := 9, descriptorIndex := 10, attributes := #[] }, { accessFlags := 8, nameIndex := 261, descriptorIndex := 262, attributes := #[] }, { accessFlags := 9, nameIndex := 117, descriptorIndex := 122, attributes := #[] }, { accessFlags := 9, nameIndex := 117, descriptorIndex := 118, attributes := #[] }] 48 6 #[] #[{ accessFlags := 26, nameIndex := 61, descriptorIndex := 62, attributes := #[] }, { accessFlags := 26, nameIndex := 65, descriptorIndex := 62, attributes := #[] }, { accessFlags := 24, nameIndex := 430, descriptorIndex := 62, attributes := #[] }, { accessFlags := 4120, nameIndex := 46, descriptorIndex := 47, attributes := #[] }])
  fields := #[{ name := "HI_BYTE_SHIFT", type := .int, accessFlags := 26, slot := 0, constantValue := 0 }, { name := "LO_BYTE_SHIFT", type := .int, accessFlags := 26, slot := 1, constantValue := 0 }, { name := "MAX_LENGTH", type := .int, accessFlags := 24, slot := 2, constantValue := 0 }, { name := "$assertionsDisabled", type := .boolean, accessFlags := 4120, slot := 3, constantValue := 0 }]
  methods := #[k11m0, k11m1, k11m2, k11m3]
  instanceTypes := #[]
  staticTypes := #[.int, .int, .int, .boolean]
  resolved := Array.replicate 635 none
  statics := none }

def pool12 : Array CpInfo := pool [(8, .class_ 10), (1, u "java/lang/Iterable"), (24, .class_ 36), (0, u "java/lang/Object")] 25

/-- java/lang/Iterable -/
def k12 : Class := { plain "java/lang/Iterable" (some 0) with
  accessFlags := 1537
  interfaces := #[]
  cf := some (fileOf pool12 8 #[] #[] 1537 35 #[] #[])
  fields := #[]
  methods := #[]
  instanceTypes := #[]
  staticTypes := #[]
  resolved := Array.replicate 62 none
  statics := none }

def pool13 : Array CpInfo := pool [(10, .class_ 12), (1, u "java/util/Collection"), (47, .class_ 61), (0, u "java/lang/Object"), (0, .class_ 63), (0, u "java/lang/Iterable")] 51

/-- java/util/Collection -/
def k13 : Class := { plain "java/util/Collection" (some 0) with
  accessFlags := 1537
  interfaces := #[12]
  cf := some (fileOf pool13 10 #[] #[] 1537 60 #[62] #[])
  fields := #[]
  methods := #[]
  instanceTypes := #[]
  staticTypes := #[]
  resolved := Array.replicate 115 none
  statics := none }

def pool14 : Array CpInfo := pool [(1, .methodref 2 3), (0, .class_ 4), (0, .nameAndType 5 6), (0, u "java/lang/Object"), (0, u "<init>"), (0, u "()V"), (1, .class_ 10), (1, u "java/util/AbstractCollection"), (66, .class_ 78), (0, u "java/util/Collection")] 81

def k14c0 : Code := { maxStack := 1, maxLocals := 1, code := jdk_22_method_1_code, exceptionTable := #[], attributes := #[] }
def k14m0 : Method := { name := "<init>", desc := "()V", sig := { parameters := [], returnType := none }, accessFlags := 4, code := some k14c0 }
/-- java/util/AbstractCollection -/
def k14 : Class := { plain "java/util/AbstractCollection" (some 0) with
  accessFlags := 1057
  interfaces := #[13]
  cf := some (fileOf pool14 8 #[] #[{ accessFlags := 4, nameIndex := 5, descriptorIndex := 6, attributes := #[] }] 1057 2 #[77] #[])
  fields := #[]
  methods := #[k14m0]
  instanceTypes := #[]
  staticTypes := #[]
  resolved := Array.replicate 160 none
  statics := none }

def pool15 : Array CpInfo := pool [(8, .class_ 10), (1, u "java/util/SequencedCollection"), (15, .class_ 27), (0, u "java/lang/Object"), (0, .class_ 29), (0, u "java/util/Collection")] 27

/-- java/util/SequencedCollection -/
def k15 : Class := { plain "java/util/SequencedCollection" (some 0) with
  accessFlags := 1537
  interfaces := #[13]
  cf := some (fileOf pool15 8 #[] #[] 1537 26 #[28] #[])
  fields := #[]
  methods := #[]
  instanceTypes := #[]
  staticTypes := #[]
  resolved := Array.replicate 57 none
  statics := none }

def pool16 : Array CpInfo := pool [(8, .class_ 10), (1, u "java/util/List"), (49, u "add"), (3, u "(Ljava/lang/Object;)Z"), (38, .class_ 104), (0, u "java/lang/Object"), (15, .class_ 121), (0, u "java/util/SequencedCollection")] 129

def k16m0 : Method := { name := "add", desc := "(Ljava/lang/Object;)Z", sig := { parameters := [(.object "java/lang/Object")], returnType := some .boolean }, accessFlags := 1025, code := none }
/-- java/util/List -/
def k16 : Class := { plain "java/util/List" (some 0) with
  accessFlags := 1537
  interfaces := #[15]
  cf := some (fileOf pool16 8 #[] #[{ accessFlags := 1025, nameIndex := 60, descriptorIndex := 64, attributes := #[] }] 1537 103 #[120] #[])
  fields := #[]
  methods := #[k16m0]
  instanceTypes := #[]
  staticTypes := #[]
  resolved := Array.replicate 251 none
  statics := none }

def pool17 : Array CpInfo := pool [(1, .methodref 2 3), (0, .class_ 4), (0, .nameAndType 5 6), (0, u "java/util/AbstractCollection"), (0, u "<init>"), (0, u "()V"), (0, .fieldref 8 9), (0, .class_ 10), (0, .nameAndType 11 12), (0, u "java/util/AbstractList"), (0, u "modCount"), (0, u "I"), (64, .class_ 78), (0, u "java/util/AbstractList$Itr"), (3, .class_ 83), (0, u "java/util/AbstractList$ListItr"), (9, .class_ 94), (0, u "java/util/AbstractList$RandomAccessSubList"), (3, .class_ 99), (0, u "java/util/AbstractList$SubList"), (33, .class_ 134), (0, u "java/util/List"), (73, .class_ 209), (0, u "java/util/AbstractList$SubList$1"), (0, .class_ 211), (0, u "java/util/AbstractList$RandomAccessSpliterator")] 6

def k17c0 : Code := { maxStack := 2, maxLocals := 1, code := jdk_39_method_1_code, exceptionTable := #[], attributes := #[] }
def k17m0 : Method := { name := "<init>", desc := "()V", sig := { parameters := [], returnType := none }, accessFlags := 4, code := some k17c0 }
/-- java/util/AbstractList -/
def k17 : Class := { plain "java/util/AbstractList" (some 14) with
  accessFlags := 1057
  interfaces := #[16]
  cf := some (fileOf pool17 8 #[.nestMembers #[93, 98, 208, 210, 82, 77]] #[{ accessFlags := 4, nameIndex := 5, descriptorIndex := 6, attributes := #[] }] 1057 2 #[133] #[{ accessFlags := 132, nameIndex := 11, descriptorIndex := 12, attributes := #[] }])
  fields := #[{ name := "modCount", type := .int, accessFlags := 132, slot := 0, constantValue := 0 }]
  methods := #[k17m0]
  instanceTypes := #[.int]
  staticTypes := #[]
  resolved := Array.replicate 218 none
  statics := none }

def pool18 : Array CpInfo := pool [(1, .class_ 2), (0, u "java/util/RandomAccess"), (0, .class_ 4), (0, u "java/lang/Object")] 2

/-- java/util/RandomAccess -/
def k18 : Class := { plain "java/util/RandomAccess" (some 0) with
  accessFlags := 1537
  interfaces := #[]
  cf := some (fileOf pool18 1 #[] #[] 1537 3 #[] #[])
  fields := #[]
  methods := #[]
  instanceTypes := #[]
  staticTypes := #[]
  resolved := Array.replicate 7 none
  statics := none }

def pool19 : Array CpInfo := pool [(1, .class_ 2), (0, u "java/lang/Cloneable"), (0, .class_ 4), (0, u "java/lang/Object")] 2

/-- java/lang/Cloneable -/
def k19 : Class := { plain "java/lang/Cloneable" (some 0) with
  accessFlags := 1537
  interfaces := #[]
  cf := some (fileOf pool19 1 #[] #[] 1537 3 #[] #[])
  fields := #[]
  methods := #[]
  instanceTypes := #[]
  staticTypes := #[]
  resolved := Array.replicate 7 none
  statics := none }

def pool20 : Array CpInfo := pool [(1, .methodref 2 3), (0, .class_ 4), (0, .nameAndType 5 6), (0, u "java/util/AbstractList"), (0, u "<init>"), (0, u "()V"), (0, .class_ 8), (0, u "java/lang/Object"), (0, .fieldref 10 11), (0, .class_ 12), (0, .nameAndType 13 14), (0, u "java/util/ArrayList"), (0, u "elementData"), (0, u "[Ljava/lang/Object;"), (2, u "EMPTY_ELEMENTDATA"), (21, .fieldref 10 40), (0, .nameAndType 41 14), (0, u "DEFAULTCAPACITY_EMPTY_ELEMENTDATA"), (5, u "()[Ljava/lang/Object;"), (0, .fieldref 10 49), (0, .nameAndType 50 51), (0, u "size"), (0, u "I"), (11, .fieldref 10 64), (0, .nameAndType 65 51), (0, u "modCount"), (3, .methodref 10 70), (0, .nameAndType 71 72), (0, u "grow"), (0, u "(I)[Ljava/lang/Object;"), (6, .methodref 80 81), (0, .class_ 82), (0, .nameAndType 83 84), (0, u "java/lang/Math"), (0, u "max"), (0, u "(II)I"), (11, u "(Ljava/lang/Object;)Z"), (32, .methodref 10 130), (0, .nameAndType 71 47), (0, .methodref 10 132), (0, .nameAndType 133 134), (0, u "add"), (0, u "(Ljava/lang/Object;[Ljava/lang/Object;I)V"), (13, .class_ 149), (0, u "java/util/List"), (112, .class_ 263), (0, u "java/util/ArrayList$ListItr"), (3, .class_ 268), (0, u "java/util/ArrayList$Itr"), (7, .class_ 277), (0, u "java/util/ArrayList$SubList"), (12, .class_ 291), (0, u "java/util/ArrayList$ArrayListSpliterator"), (37, .class_ 330), (0, u "java/util/RandomAccess"), (0, .class_ 332), (0, u "java/lang/Cloneable"), (0, .class_ 334), (0, u "java/io/Serializable"), (0, u "serialVersionUID"), (0, u "J"), (3, u "DEFAULT_CAPACITY"), (159, .class_ 501), (0, u "java/util/ArrayList$SubList$2"), (0, .class_ 503), (0, u "java/util/ArrayList$SubList$1")] 5

def k20c0 : Code := { maxStack := 2, maxLocals := 1, code := jdk_38_method_2_code, exceptionTable := #[], attributes := #[] }
def k20m0 : Method := { name := "<init>", desc := "()V", sig := { parameters := [], returnType := none }, accessFlags := 1, code := some k20c0 }
def k20c1 : Code := { maxStack := 4, maxLocals := 4, code := jdk_38_method_6_code, exceptionTable := #[], attributes := #[] }
def k20m1 : Method := { name := "grow", desc := "(I)[Ljava/lang/Object;", sig := { parameters := [.int], returnType := some (.array (.object "java/lang/Object")) }, accessFlags := 2, code := some k20c1 }
def k20c2 : Code := { maxStack := 3, maxLocals := 1, code := jdk_38_method_7_code, exceptionTable := #[], attributes := #[] }
def k20m2 : Method := { name := "grow", desc := "()[Ljava/lang/Object;", sig := { parameters := [], returnType := some (.array (.object "java/lang/Object")) }, accessFlags := 2, code := some k20c2 }
def k20c3 : Code := { maxStack := 3, maxLocals := 4, code := jdk_38_method_24_code, exceptionTable := #[], attributes := #[] }
def k20m3 : Method := { name := "add", desc := "(Ljava/lang/Object;[Ljava/lang/Object;I)V", sig := { parameters := [(.object "java/lang/Object"), (.array (.object "java/lang/Object")), .int], returnType := none }, accessFlags := 2, code := some k20c3 }
def k20c4 : Code := { maxStack := 4, maxLocals := 2, code := jdk_38_method_25_code, exceptionTable := #[], attributes := #[] }
def k20m4 : Method := { name := "add", desc := "(Ljava/lang/Object;)Z", sig := { parameters := [(.object "java/lang/Object")], returnType := some .boolean }, accessFlags := 1, code := some k20c4 }
/-- java/util/ArrayList -/
def k20 : Class := { plain "java/util/ArrayList" (some 17) with
  accessFlags := 33
  interfaces := #[16, 18, 19, 4]
  cf := some (fileOf pool20 10 #[.nestMembers #[290, 276, 500, 502, 262, 267]] #[{ accessFlags := 1, nameIndex := 5, descriptorIndex := 6, attributes := #[] }, { accessFlags := 2, nameIndex := 71, descriptorIndex := 72, attributes := #[] }, { accessFlags := 2, nameIndex := 71, descriptorIndex := 47, attributes := #[] }, { accessFlags := 2, nameIndex := 133, descriptorIndex := 134, attributes := #[] }, { accessFlags := 1, nameIndex := 133, descriptorIndex := 96, attributes := #[] }] 33 2 #[148, 329, 331, 333] #[{ accessFlags := 26, nameIndex := 335, descriptorIndex := 336, attributes := #[] }, { accessFlags := 26, nameIndex := 340, descriptorIndex := 51, attributes := #[] }, { accessFlags := 26, nameIndex := 17, descriptorIndex := 14, attributes := #[] }, { accessFlags := 26, nameIndex := 41, descriptorIndex := 14, attributes := #[] }, { accessFlags := 128, nameIndex := 13, descriptorIndex := 14, attributes := #[] }, { accessFlags := 2, nameIndex := 50, descriptorIndex := 51, attributes := #[] }])
  fields := #[{ name := "serialVersionUID", type := .long, accessFlags := 26, slot := 0, constantValue := 0 }, { name := "DEFAULT_CAPACITY", type := .int, accessFlags := 26, slot := 1, constantValue := 0 }, { name := "EMPTY_ELEMENTDATA", type := (.array (.object "java/lang/Object")), accessFlags := 26, slot := 2, constantValue := 0 }, { name := "DEFAULTCAPACITY_EMPTY_ELEMENTDATA", type := (.array (.object "java/lang/Object")), accessFlags := 26, slot := 3, constantValue := 0 }, { name := "elementData", type := (.array (.object "java/lang/Object")), accessFlags := 128, slot := 1, constantValue := 0 }, { name := "size", type := .int, accessFlags := 2, slot := 2, constantValue := 0 }]
  methods := #[k20m0, k20m1, k20m2, k20m3, k20m4]
  instanceTypes := #[.int, (.array (.object "java/lang/Object")), .int]
  staticTypes := #[.long, .int, (.array (.object "java/lang/Object")), (.array (.object "java/lang/Object"))]
  resolved := Array.replicate 509 none
  statics := some 2 }

def pool21 : Array CpInfo := pool [(1, .class_ 2), (0, u "java/lang/Math"), (1, .class_ 6), (1, u "java/lang/Object"), (0, u "<init>"), (0, u "()V"), (89, .class_ 100), (1, u "java/lang/Math$RandomNumberGeneratorHolder"), (71, u "negativeZeroFloatBits"), (0, u "J"), (2, u "negativeZeroDoubleBits"), (21, u "max"), (46, u "$assertionsDisabled"), (0, u "Z"), (88, u "(II)I"), (2, u "twoToTheDoubleScaleDown"), (0, u "D"), (4, u "twoToTheDoubleScaleUp"), (9, u "E"), (3, u "PI"), (2, u "TAU"), (2, u "DEGREES_TO_RADIANS"), (0, u "RADIANS_TO_DEGREES")] 94

def k21m0 : Method := { name := "<init>", desc := "()V", sig := { parameters := [], returnType := none }, accessFlags := 2, code := none }
def k21c1 : Code := { maxStack := 2, maxLocals := 2, code := jdk_29_method_65_code, exceptionTable := #[], attributes := #[] }
def k21m1 : Method := { name := "max", desc := "(II)I", sig := { parameters := [.int, .int], returnType := some .int }, accessFlags := 9, code := some k21c1 }
/-- java/lang/Math -/
def k21 : Class := { plain "java/lang/Math" (some 0) with
  accessFlags := 49
  interfaces := #[]
  cf := some (fileOf pool21 1 #[.nestMembers #[98]] #[{ accessFlags := 2, nameIndex := 7, descriptorIndex := 8, attributes := #[] }, { accessFlags := 9, nameIndex := 198, descriptorIndex := 335, attributes := #[] }] 49 4 #[] #[{ accessFlags := 25, nameIndex := 354, descriptorIndex := 339, attributes := #[] }, { accessFlags := 25, nameIndex := 358, descriptorIndex := 339, attributes := #[] }, { accessFlags := 25, nameIndex := 361, descriptorIndex := 339, attributes := #[] }, { accessFlags := 26, nameIndex := 364, descriptorIndex := 339, attributes := #[] }, { accessFlags := 26, nameIndex := 365, descriptorIndex := 339, attributes := #[] }, { accessFlags := 26, nameIndex := 172, descriptorIndex := 173, attributes := #[] }, { accessFlags := 26, nameIndex := 176, descriptorIndex := 173, attributes := #[] }, { accessFlags := 8, nameIndex := 344, descriptorIndex := 339, attributes := #[] }, { accessFlags := 8, nameIndex := 338, descriptorIndex := 339, attributes := #[] }, { accessFlags := 4120, nameIndex := 245, descriptorIndex := 246, attributes := #[] }])
  fields := #[{ name := "E", type := .double, accessFlags := 25, slot := 0, constantValue := 0 }, { name := "PI", type := .double, accessFlags := 25, slot := 1, constantValue := 0 }, { name := "TAU", type := .double, accessFlags := 25, slot := 2, constantValue := 0 }, { name := "DEGREES_TO_RADIANS", type := .double, accessFlags := 26, slot := 3, constantValue := 0 }, { name := "RADIANS_TO_DEGREES", type := .double, accessFlags := 26, slot := 4, constantValue := 0 }, { name := "negativeZeroFloatBits", type := .long, accessFlags := 26, slot := 5, constantValue := 0 }, { name := "negativeZeroDoubleBits", type := .long, accessFlags := 26, slot := 6, constantValue := 0 }, { name := "twoToTheDoubleScaleUp", type := .double, accessFlags := 8, slot := 7, constantValue := 0 }, { name := "twoToTheDoubleScaleDown", type := .double, accessFlags := 8, slot := 8, constantValue := 0 }, { name := "$assertionsDisabled", type := .boolean, accessFlags := 4120, slot := 9, constantValue := 0 }]
  methods := #[k21m0, k21m1]
  instanceTypes := #[]
  staticTypes := #[.double, .double, .double, .double, .double, .long, .long, .double, .double, .boolean]
  resolved := Array.replicate 460 none
  statics := none }

def pool22 : Array CpInfo := pool [(1, .methodref 2 3), (0, .class_ 4), (0, .nameAndType 5 6), (0, u "java/lang/Object"), (0, u "<init>"), (0, u "()V"), (0, .class_ 8), (0, u "java/lang/Record")] 13

def k22c0 : Code := { maxStack := 1, maxLocals := 1, code := jdk_30_method_1_code, exceptionTable := #[], attributes := #[] }
def k22m0 : Method := { name := "<init>", desc := "()V", sig := { parameters := [], returnType := none }, accessFlags := 4, code := some k22c0 }
/-- java/lang/Record -/
def k22 : Class := { plain "java/lang/Record" (some 0) with
  accessFlags := 1057
  interfaces := #[]
  cf := some (fileOf pool22 7 #[] #[{ accessFlags := 4, nameIndex := 5, descriptorIndex := 6, attributes := #[] }] 1057 2 #[] #[])
  fields := #[]
  methods := #[k22m0]
  instanceTypes := #[]
  staticTypes := #[]
  resolved := Array.replicate 22 none
  statics := none }

def pool23 : Array CpInfo := pool [(1, .methodref 2 3), (0, .class_ 4), (0, .nameAndType 5 6), (0, u "java/lang/Record"), (0, u "<init>"), (0, u "()V"), (0, .fieldref 8 9), (0, .class_ 10), (0, .nameAndType 11 12), (0, u "com/example/cinderpath/cinderpath/ir/Signature"), (0, u "name"), (0, u "Ljava/lang/String;"), (0, .fieldref 8 14), (0, .nameAndType 15 16), (0, u "result"), (0, u "Lcom/example/cinderpath/cinderpath/ir/ScalarType;"), (0, .fieldref 8 18), (0, .nameAndType 19 20), (0, u "parameters"), (0, u "Ljava/util/List;"), (0, .fieldref 8 22), (0, .nameAndType 23 24), (0, u "builtin"), (0, u "Z"), (0, .fieldref 26 27), (0, .class_ 28), (0, .nameAndType 29 16), (0, u "com/example/cinderpath/cinderpath/ir/ScalarType"), (0, u "VOID"), (14, u "(Ljava/lang/String;Lcom/example/cinderpath/cinderpath/ir/ScalarType;Ljava/util/List;Z)V"), (4, u "readsInput"), (0, u "()Z")] 30

def k23c0 : Code := { maxStack := 2, maxLocals := 5, code := prog_63_method_1_code, exceptionTable := #[], attributes := #[] }
def k23m0 : Method := { name := "<init>", desc := "(Ljava/lang/String;Lcom/example/cinderpath/cinderpath/ir/ScalarType;Ljava/util/List;Z)V", sig := { parameters := [(.object "java/lang/String"), (.object "com/example/cinderpath/cinderpath/ir/ScalarType"), (.object "java/util/List"), .boolean], returnType := none }, accessFlags := 1, code := some k23c0 }
def k23c1 : Code := { maxStack := 2, maxLocals := 1, code := prog_63_method_2_code, exceptionTable := #[], attributes := #[] }
def k23m1 : Method := { name := "readsInput", desc := "()Z", sig := { parameters := [], returnType := some .boolean }, accessFlags := 1, code := some k23c1 }
/-- com/example/cinderpath/cinderpath/ir/Signature -/
def k23 : Class := { plain "com/example/cinderpath/cinderpath/ir/Signature" (some 22) with
  accessFlags := 49
  interfaces := #[]
  cf := some (fileOf pool23 8 #[] #[{ accessFlags := 1, nameIndex := 5, descriptorIndex := 44, attributes := #[] }, { accessFlags := 1, nameIndex := 49, descriptorIndex := 50, attributes := #[] }] 49 2 #[] #[{ accessFlags := 18, nameIndex := 11, descriptorIndex := 12, attributes := #[] }, { accessFlags := 18, nameIndex := 15, descriptorIndex := 16, attributes := #[] }, { accessFlags := 18, nameIndex := 19, descriptorIndex := 20, attributes := #[] }, { accessFlags := 18, nameIndex := 23, descriptorIndex := 24, attributes := #[] }])
  fields := #[{ name := "name", type := (.object "java/lang/String"), accessFlags := 18, slot := 0, constantValue := 0 }, { name := "result", type := (.object "com/example/cinderpath/cinderpath/ir/ScalarType"), accessFlags := 18, slot := 1, constantValue := 0 }, { name := "parameters", type := (.object "java/util/List"), accessFlags := 18, slot := 2, constantValue := 0 }, { name := "builtin", type := .boolean, accessFlags := 18, slot := 3, constantValue := 0 }]
  methods := #[k23m0, k23m1]
  instanceTypes := #[(.object "java/lang/String"), (.object "com/example/cinderpath/cinderpath/ir/ScalarType"), (.object "java/util/List"), .boolean]
  staticTypes := #[]
  resolved := Array.replicate 81 none
  statics := none }

def pool24 : Array CpInfo := pool [(1, .methodref 2 3), (0, .class_ 4), (0, .nameAndType 5 6), (0, u "java/lang/Record"), (0, u "<init>"), (0, u "()V"), (0, .fieldref 8 9), (0, .class_ 10), (0, .nameAndType 11 12), (0, u "com/example/cinderpath/cinderpath/ir/ArrayType"), (0, u "element"), (0, u "Lcom/example/cinderpath/cinderpath/ir/ScalarType;"), (0, .fieldref 8 14), (0, .nameAndType 15 16), (0, u "size"), (0, u "I"), (12, .class_ 30), (0, u "com/example/cinderpath/cinderpath/ir/Type"), (0, u "(Lcom/example/cinderpath/cinderpath/ir/ScalarType;I)V")] 28

def k24c0 : Code := { maxStack := 2, maxLocals := 3, code := prog_43_method_1_code, exceptionTable := #[], attributes := #[] }
def k24m0 : Method := { name := "<init>", desc := "(Lcom/example/cinderpath/cinderpath/ir/ScalarType;I)V", sig := { parameters := [(.object "com/example/cinderpath/cinderpath/ir/ScalarType"), .int], returnType := none }, accessFlags := 1, code := some k24c0 }
/-- com/example/cinderpath/cinderpath/ir/ArrayType -/
def k24 : Class := { plain "com/example/cinderpath/cinderpath/ir/ArrayType" (some 22) with
  accessFlags := 49
  interfaces := #[6]
  cf := some (fileOf pool24 8 #[] #[{ accessFlags := 1, nameIndex := 5, descriptorIndex := 31, attributes := #[] }] 49 2 #[29] #[{ accessFlags := 18, nameIndex := 11, descriptorIndex := 12, attributes := #[] }, { accessFlags := 18, nameIndex := 15, descriptorIndex := 16, attributes := #[] }])
  fields := #[{ name := "element", type := (.object "com/example/cinderpath/cinderpath/ir/ScalarType"), accessFlags := 18, slot := 0, constantValue := 0 }, { name := "size", type := .int, accessFlags := 18, slot := 1, constantValue := 0 }]
  methods := #[k24m0]
  instanceTypes := #[(.object "com/example/cinderpath/cinderpath/ir/ScalarType"), .int]
  staticTypes := #[]
  resolved := Array.replicate 60 none
  statics := none }

def pool25 : Array CpInfo := pool [(4, .class_ 6), (1, u "java/lang/Object"), (0, u "<init>"), (0, u "()V"), (5, .class_ 16), (1, u "java/lang/StringLatin1"), (104, u "$assertionsDisabled"), (0, u "Z"), (98, .class_ 223), (1, u "java/lang/StringLatin1$LinesSpliterator"), (166, .class_ 391), (0, u "java/lang/StringLatin1$CharsSpliterator")] 3

def k25m0 : Method := { name := "<init>", desc := "()V", sig := { parameters := [], returnType := none }, accessFlags := 0, code := none }
/-- java/lang/StringLatin1 -/
def k25 : Class := { plain "java/lang/StringLatin1" (some 0) with
  accessFlags := 48
  interfaces := #[]
  cf := some (fileOf pool25 14 #[.nestMembers #[390, 221]] #[{ accessFlags := 0, nameIndex := 7, descriptorIndex := 8, attributes := #[] }] 48 4 #[] #[{ accessFlags := 4120, nameIndex := 121, descriptorIndex := 122, attributes := #[] }])
  fields := #[{ name := "$assertionsDisabled", type := .boolean, accessFlags := 4120, slot := 0, constantValue := 0 }]
  methods := #[k25m0]
  instanceTypes := #[]
  staticTypes := #[.boolean]
  resolved := Array.replicate 395 none
  statics := none }

def pool26 : Array CpInfo := pool [(2, .class_ 4), (1, u "java/lang/Object"), (0, u "<init>"), (0, u "()V"), (17, .class_ 26), (1, u "jdk/internal/util/Preconditions"), (28, .class_ 56), (0, u "jdk/internal/util/Preconditions$4"), (57, .class_ 115), (0, u "jdk/internal/util/Preconditions$1"), (7, u "SIOOBE_FORMATTER"), (0, u "Ljava/util/function/BiFunction;"), (0, .class_ 126), (0, u "jdk/internal/util/Preconditions$2"), (3, u "AIOOBE_FORMATTER"), (0, .class_ 132), (0, u "jdk/internal/util/Preconditions$3"), (3, u "IOOBE_FORMATTER")] 57

def k26m0 : Method := { name := "<init>", desc := "()V", sig := { parameters := [], returnType := none }, accessFlags := 1, code := none }
/-- jdk/internal/util/Preconditions -/
def k26 : Class := { plain "jdk/internal/util/Preconditions" (some 0) with
  accessFlags := 33
  interfaces := #[]
  cf := some (fileOf pool26 24 #[.nestMembers #[55, 131, 125, 114]] #[{ accessFlags := 1, nameIndex := 5, descriptorIndex := 6, attributes := #[] }] 33 2 #[] #[{ accessFlags := 25, nameIndex := 123, descriptorIndex := 124, attributes := #[] }, { accessFlags := 25, nameIndex := 130, descriptorIndex := 124, attributes := #[] }, { accessFlags := 25, nameIndex := 136, descriptorIndex := 124, attributes := #[] }])
  fields := #[{ name := "SIOOBE_FORMATTER", type := (.object "java/util/function/BiFunction"), accessFlags := 25, slot := 0, constantValue := 0 }, { name := "AIOOBE_FORMATTER", type := (.object "java/util/function/BiFunction"), accessFlags := 25, slot := 1, constantValue := 0 }, { name := "IOOBE_FORMATTER", type := (.object "java/util/function/BiFunction"), accessFlags := 25, slot := 2, constantValue := 0 }]
  methods := #[k26m0]
  instanceTypes := #[]
  staticTypes := #[(.object "java/util/function/BiFunction"), (.object "java/util/function/BiFunction"), (.object "java/util/function/BiFunction")]
  resolved := Array.replicate 194 none
  statics := some 3 }

def pool27 : Array CpInfo := pool [(9, u "<init>"), (6, .class_ 18), (1, u "java/lang/Object"), (0, u "()V"), (1, .class_ 23), (1, u "jdk/internal/util/ArraysSupport"), (0, u "LOG2_ARRAY_LONG_INDEX_SCALE"), (0, u "I"), (2, u "U"), (0, u "Ljdk/internal/misc/Unsafe;"), (8, u "BIG_ENDIAN"), (0, u "Z"), (8, u "LOG2_BYTE_BIT_SIZE"), (4, u "LOG2_ARRAY_INT_INDEX_SCALE"), (54, u "JLA"), (0, u "Ljdk/internal/access/JavaLangAccess;"), (11, u "LOG2_ARRAY_BOOLEAN_INDEX_SCALE"), (9, u "LOG2_ARRAY_BYTE_INDEX_SCALE"), (5, u "LOG2_ARRAY_CHAR_INDEX_SCALE"), (5, u "LOG2_ARRAY_SHORT_INDEX_SCALE"), (18, u "LOG2_ARRAY_FLOAT_INDEX_SCALE"), (24, u "LOG2_ARRAY_DOUBLE_INDEX_SCALE"), (89, u "T_BOOLEAN"), (2, u "T_CHAR"), (1, u "T_FLOAT"), (1, u "T_DOUBLE"), (1, u "T_BYTE"), (1, u "T_SHORT"), (1, u "T_INT"), (1, u "T_LONG"), (1, u "SOFT_MAX_ARRAY_LENGTH")] 83

def k27m0 : Method := { name := "<init>", desc := "()V", sig := { parameters := [], returnType := none }, accessFlags := 2, code := none }
/-- jdk/internal/util/ArraysSupport -/
def k27 : Class := { plain "jdk/internal/util/ArraysSupport" (some 0) with
  accessFlags := 33
  interfaces := #[]
  cf := some (fileOf pool27 21 #[] #[{ accessFlags := 2, nameIndex := 9, descriptorIndex := 19, attributes := #[] }] 33 16 #[] #[{ accessFlags := 24, nameIndex := 28, descriptorIndex := 29, attributes := #[] }, { accessFlags := 26, nameIndex := 38, descriptorIndex := 39, attributes := #[] }, { accessFlags := 25, nameIndex := 121, descriptorIndex := 25, attributes := #[] }, { accessFlags := 25, nameIndex := 131, descriptorIndex := 25, attributes := #[] }, { accessFlags := 25, nameIndex := 137, descriptorIndex := 25, attributes := #[] }, { accessFlags := 25, nameIndex := 143, descriptorIndex := 25, attributes := #[] }, { accessFlags := 25, nameIndex := 53, descriptorIndex := 25, attributes := #[] }, { accessFlags := 25, nameIndex := 24, descriptorIndex := 25, attributes := #[] }, { accessFlags := 25, nameIndex := 162, descriptorIndex := 25, attributes := #[] }, { accessFlags := 25, nameIndex := 187, descriptorIndex := 25, attributes := #[] }, { accessFlags := 26, nameIndex := 48, descriptorIndex := 25, attributes := #[] }, { accessFlags := 25, nameIndex := 277, descriptorIndex := 25, attributes := #[] }, { accessFlags := 25, nameIndex := 280, descriptorIndex := 25, attributes := #[] }, { accessFlags := 25, nameIndex := 282, descriptorIndex := 25, attributes := #[] }, { accessFlags := 25, nameIndex := 284, descriptorIndex := 25, attributes := #[] }, { accessFlags := 25, nameIndex := 286, descriptorIndex := 25, attributes := #[] }, { accessFlags := 25, nameIndex := 288, descriptorIndex := 25, attributes := #[] }, { accessFlags := 25, nameIndex := 290, descriptorIndex := 25, attributes := #[] }, { accessFlags := 25, nameIndex := 292, descriptorIndex := 25, attributes := #[] }, { accessFlags := 26, nameIndex := 108, descriptorIndex := 109, attributes := #[] }, { accessFlags := 25, nameIndex := 294, descriptorIndex := 25, attributes := #[] }])
  fields := #[{ name := "U", type := (.object "jdk/internal/misc/Unsafe"), accessFlags := 24, slot := 0, constantValue := 0 }, { name := "BIG_ENDIAN", type := .boolean, accessFlags := 26, slot := 1, constantValue := 0 }, { name := "LOG2_ARRAY_BOOLEAN_INDEX_SCALE", type := .int, accessFlags := 25, slot := 2, constantValue := 0 }, { name := "LOG2_ARRAY_BYTE_INDEX_SCALE", type := .int, accessFlags := 25, slot := 3, constantValue := 0 }, { name := "LOG2_ARRAY_CHAR_INDEX_SCALE", type := .int, accessFlags := 25, slot := 4, constantValue := 0 }, { name := "LOG2_ARRAY_SHORT_INDEX_SCALE", type := .int, accessFlags := 25, slot := 5, constantValue := 0 }, { name := "LOG2_ARRAY_INT_INDEX_SCALE", type := .int, accessFlags := 25, slot := 6, constantValue := 0 }, { name := "LOG2_ARRAY_LONG_INDEX_SCALE", type := .int, accessFlags := 25, slot := 7, constantValue := 0 }, { name := "LOG2_ARRAY_FLOAT_INDEX_SCALE", type := .int, accessFlags := 25, slot := 8, constantValue := 0 }, { name := "LOG2_ARRAY_DOUBLE_INDEX_SCALE", type := .int, accessFlags := 25, slot := 9, constantValue := 0 }, { name := "LOG2_BYTE_BIT_SIZE", type := .int, accessFlags := 26, slot := 10, constantValue := 0 }, { name := "T_BOOLEAN", type := .int, accessFlags := 25, slot := 11, constantValue := 0 }, { name := "T_CHAR", type := .int, accessFlags := 25, slot := 12, constantValue := 0 }, { name := "T_FLOAT", type := .int, accessFlags := 25, slot := 13, constantValue := 0 }, { name := "T_DOUBLE", type := .int, accessFlags := 25, slot := 14, constantValue := 0 }, { name := "T_BYTE", type := .int, accessFlags := 25, slot := 15, constantValue := 0 }, { name := "T_SHORT", type := .int, accessFlags := 25, slot := 16, constantValue := 0 }, { name := "T_INT", type := .int, accessFlags := 25, slot := 17, constantValue := 0 }, { name := "T_LONG", type := .int, accessFlags := 25, slot := 18, constantValue := 0 }, { name := "JLA", type := (.object "jdk/internal/access/JavaLangAccess"), accessFlags := 26, slot := 19, constantValue := 0 }, { name := "SOFT_MAX_ARRAY_LENGTH", type := .int, accessFlags := 25, slot := 20, constantValue := 0 }]
  methods := #[k27m0]
  instanceTypes := #[]
  staticTypes := #[(.object "jdk/internal/misc/Unsafe"), .boolean, .int, .int, .int, .int, .int, .int, .int, .int, .int, .int, .int, .int, .int, .int, .int, .int, .int, (.object "jdk/internal/access/JavaLangAccess"), .int]
  resolved := Array.replicate 378 none
  statics := none }

/-- the primitive byte -/
def k28 : Class := { plain "byte" none with kind := .primitive 'B', accessFlags := 0x411 }
/-- [B -/
def k29 : Class := { plain "[B" (some 0) with kind := .array 28 .byte, interfaces := #[19, 4], accessFlags := 1041 }

/-- the primitive char -/
def k30 : Class := { plain "char" none with kind := .primitive 'C', accessFlags := 0x411 }
/-- [C -/
def k31 : Class := { plain "[C" (some 0) with kind := .array 30 .char, interfaces := #[19, 4], accessFlags := 1041 }

/-- the primitive int -/
def k32 : Class := { plain "int" none with kind := .primitive 'I', accessFlags := 0x411 }
/-- [I -/
def k33 : Class := { plain "[I" (some 0) with kind := .array 32 .int, interfaces := #[19, 4], accessFlags := 1041 }

/-- [Ljava/lang/Object; -/
def k34 : Class := { plain "[Ljava/lang/Object;" (some 0) with kind := .array 0 (.object "java/lang/Object"), interfaces := #[19, 4], accessFlags := 1041 }

def heap : Heap := #[{ cls := 7, slots := #[.ref 4, .ref 5, .ref 6, .ref 7, .ref 8, .null], vm := .statics 7 },
  { cls := 10, slots := #[.long 0, .int 1, .null, .int 0, .null, .int 0, .int 0], vm := .statics 10 },
  { cls := 20, slots := #[.long 0, .int 0, .ref 9, .ref 10], vm := .statics 20 },
  { cls := 26, slots := #[.null, .null, .null], vm := .statics 26 },
  { cls := 7, slots := #[.null, .int 0, .int 0], vm := .none },
  { cls := 7, slots := #[.null, .int 1, .int 0], vm := .none },
  { cls := 7, slots := #[.null, .int 2, .int 0], vm := .none },
  { cls := 7, slots := #[.null, .int 3, .int 0], vm := .none },
  { cls := 7, slots := #[.null, .int 4, .int 0], vm := .none },
  { cls := 34, slots := #[], vm := .none },
  { cls := 34, slots := #[], vm := .none }]
def classes : Array Class := #[k0, k1, k2, k3, k4, k5, k6, k7, k8, k9, k10, k11, k12, k13, k14, k15, k16, k17, k18, k19, k20, k21, k22, k23, k24, k25, k26, k27, k28, k29, k30, k31, k32, k33, k34]
def interned : List (Array UInt16 × Addr) := []
def slotsUsed : Nat := 35
def theMethod : MethodId := ⟨1, 2⟩
def args0 : Array Value := #[.int 5, .int 5, .int 5, .int 5, .int 5, .int 5]
def aboutOver (below : List Frame) : State where
  vm := { classes := classes, interned := interned.toArray }
  heap := heap
  slotsUsed := slotsUsed
  threads := #[{ frames := .invoking theMethod args0 :: below }]
def below0 : List Frame := [.native { method := ⟨0, 0⟩, args := #[] }]
def about1 : State := aboutOver below0
def p0 : Program := .bare "" "" ""
def e0 : Env := launch0.env 0 0 0
theorem w_frames : about1.frames = Frame.invoking theMethod args0 :: below0 := rfl
set_option maxRecDepth 65536 in
theorem w_args : argsFit about1.vm theMethod args0 = true := by decide +kernel
set_option maxRecDepth 65536 in
theorem w_heap : heapFits about1 = true := by decide +kernel
set_option maxRecDepth 65536 in
theorem w_runnable : about1.curStatus? = some .runnable := by decide +kernel
set_option maxRecDepth 65536 in
theorem w_alone : about1.alone = true := by decide +kernel
set_option maxRecDepth 65536 in
theorem w_named : about1.methodNamed? x = some theMethod := by decide +kernel
set_option maxRecDepth 65536 in
theorem w_hears : about1.hears theMethod below0 = true := by decide +kernel
set_option maxRecDepth 65536 in
theorem w_ripe : about1.ripe theMethod args0 below0 = true := by decide +kernel
theorem w_running : about1.status = .running := rfl
set_option maxRecDepth 65536 in
theorem w_room : about1.hasRoom e0.platform room_1 = true :=
  launch0.hasRoom_least _ room_1 (by decide +kernel) (by decide +kernel) (by decide +kernel) (by decide +kernel) (by decide +kernel) (by decide +kernel)
theorem allAtoms_all (ts : List Jvm.Cond) (a : Array Jvm.Value) (st : Jvm.State) : (allAtoms ts).before a st = ts.all (fun c => c.before a st) := by
  induction ts with
  | nil => rfl
  | cons c t ih =>
    show (Jvm.Cond.and c (allAtoms t)).before a st = _
    rw [Jvm.Cond.before_and, ih, List.all_cons]
def words1 : List Jvm.Cond := Jvm.Cond.code x code maxLocals ret :: tables_1
/-- a 'code' word, met by the world's own term for the bytes: nothing is compared byte by byte -/
theorem code_word {y : MethodName} {bytes : ByteArray} {mx : Nat} {rt : Option FieldType} {a : Array Value} {s : State} {m : MethodId} {meth : Method} {c : Code} (h1 : s.methodNamed? y = some m) (h2 : s.vm.method? m = some meth) (h3 : meth.code = some c) (h4 : c.code = bytes)
    (h5 : (c.maxLocals == mx && c.exceptionTable.isEmpty && decide (c.maxStack ≤ mostOperands) && decide (meth.sig.returnType = rt) && !meth.locks && decide (parseMethodDescriptor y.desc = some meth.sig)) = true) : (Jvm.Cond.code y bytes mx rt).before a s = true := by
  simp only [Bool.and_eq_true, beq_iff_eq, Bool.not_eq_true', decide_eq_true_eq] at h5
  obtain ⟨⟨⟨⟨⟨g1, g2⟩, g3⟩, g4⟩, g5⟩, g6⟩ := h5
  simp [Cond.before, Cond.holds, Cond.value, h1, h2, h3, h4, g1, g2, g3, g4, g5, g6]
def isCode : Jvm.Cond → Bool
  | .code _ _ _ _ => true
  | _ => false
theorem all_split {L : List Jvm.Cond} {P : Jvm.Cond → Bool} (h1 : L.all (fun c => isCode c || P c) = true) (h2 : ∀ c ∈ L.filter isCode, P c = true) : L.all P = true := by
  refine List.all_eq_true.mpr fun c hc => ?_
  have h := List.all_eq_true.mp h1 c hc
  rcases Bool.eq_false_or_eq_true (isCode c) with hi | hi
  · exact h2 c (List.mem_filter.mpr ⟨hc, hi⟩)
  · simpa [hi] using h
set_option maxRecDepth 65536 in
theorem w_c0 : (Jvm.Cond.code x code maxLocals ret).before args0 about1 = true := code_word (m := ⟨1, 2⟩) (meth := k1m2) (c := k1c2) (by decide +kernel) rfl rfl rfl (by decide +kernel)
set_option maxRecDepth 65536 in
theorem w_c1 : (Jvm.Cond.code ({ cls := "com/example/cinderpath/cinderpath/ir/SignatureReadsInputPinLaw", name := "pick", desc := "(I)Lcom/example/cinderpath/cinderpath/ir/ScalarType;" } : Jvm.MethodName) method_2_code (2 : Nat) (Option.some (Jvm.ClassFile.FieldType.object "com/example/cinderpath/cinderpath/ir/ScalarType"))).before args0 about1 = true := code_word (m := ⟨1, 1⟩) (meth := k1m1) (c := k1c1) (by decide +kernel) rfl rfl rfl (by decide +kernel)
set_option maxRecDepth 65536 in
theorem w_c2 : (Jvm.Cond.code ({ cls := "java/lang/String", name := "<init>", desc := "([C)V" } : Jvm.MethodName) jdk_42_method_3_code (2 : Nat) (Option.none : Option Jvm.ClassFile.FieldType)).before args0 about1 = true := code_word (m := ⟨10, 1⟩) (meth := k10m1) (c := k10c1) (by decide +kernel) rfl rfl rfl (by decide +kernel)
set_option maxRecDepth 65536 in
theorem w_c3 : (Jvm.Cond.code ({ cls := "java/lang/String", name := "<init>", desc := "([CIILjava/lang/Void;)V" } : Jvm.MethodName) jdk_42_method_149_code (6 : Nat) (Option.none : Option Jvm.ClassFile.FieldType)).before args0 about1 = true := code_word (m := ⟨10, 2⟩) (meth := k10m2) (c := k10c2) (by decide +kernel) rfl rfl rfl (by decide +kernel)
set_option maxRecDepth 65536 in
theorem w_c4 : (Jvm.Cond.code ({ cls := "java/lang/Object", name := "<init>", desc := "()V" } : Jvm.MethodName) object_method_1_code (1 : Nat) (Option.none : Option Jvm.ClassFile.FieldType)).before args0 about1 = true := code_word (m := ⟨0, 0⟩) (meth := k0m0) (c := k0c0) (by decide +kernel) rfl rfl rfl (by decide +kernel)
set_option maxRecDepth 65536 in
theorem w_c5 : (Jvm.Cond.code ({ cls := "java/lang/StringUTF16", name := "compress", desc := "([CII)[B" } : Jvm.MethodName) jdk_52_method_16_code (6 : Nat) (Option.some (Jvm.ClassFile.FieldType.array Jvm.ClassFile.FieldType.byte))).before args0 about1 = true := code_word (m := ⟨11, 2⟩) (meth := k11m2) (c := k11c2) (by decide +kernel) rfl rfl rfl (by decide +kernel)
set_option maxRecDepth 65536 in
theorem w_c6 : (Jvm.Cond.code ({ cls := "java/lang/StringUTF16", name := "compress", desc := "([CI[BII)I" } : Jvm.MethodName) jdk_52_method_21_code (7 : Nat) (Option.some Jvm.ClassFile.FieldType.int)).before args0 about1 = true := code_word (m := ⟨11, 3⟩) (meth := k11m3) (c := k11c3) (by decide +kernel) rfl rfl rfl (by decide +kernel)
set_option maxRecDepth 65536 in
theorem w_c7 : (Jvm.Cond.code ({ cls := "java/lang/StringUTF16", name := "coderFromArrayLen", desc := "([BI)B" } : Jvm.MethodName) jdk_52_method_15_code (2 : Nat) (Option.some Jvm.ClassFile.FieldType.byte)).before args0 about1 = true := code_word (m := ⟨11, 1⟩) (meth := k11m1) (c := k11c1) (by decide +kernel) rfl rfl rfl (by decide +kernel)
set_option maxRecDepth 65536 in
theorem w_c8 : (Jvm.Cond.code ({ cls := "java/util/ArrayList", name := "<init>", desc := "()V" } : Jvm.MethodName) jdk_38_method_2_code (1 : Nat) (Option.none : Option Jvm.ClassFile.FieldType)).before args0 about1 = true := code_word (m := ⟨20, 0⟩) (meth := k20m0) (c := k20c0) (by decide +kernel) rfl rfl rfl (by decide +kernel)
set_option maxRecDepth 65536 in
theorem w_c9 : (Jvm.Cond.code ({ cls := "java/util/AbstractList", name := "<init>", desc := "()V" } : Jvm.MethodName) jdk_39_method_1_code (1 : Nat) (Option.none : Option Jvm.ClassFile.FieldType)).before args0 about1 = true := code_word (m := ⟨17, 0⟩) (meth := k17m0) (c := k17c0) (by decide +kernel) rfl rfl rfl (by decide +kernel)
set_option maxRecDepth 65536 in
theorem w_c10 : (Jvm.Cond.code ({ cls := "java/util/AbstractCollection", name := "<init>", desc := "()V" } : Jvm.MethodName) jdk_22_method_1_code (1 : Nat) (Option.none : Option Jvm.ClassFile.FieldType)).before args0 about1 = true := code_word (m := ⟨14, 0⟩) (meth := k14m0) (c := k14c0) (by decide +kernel) rfl rfl rfl (by decide +kernel)
set_option maxRecDepth 65536 in
theorem w_c11 : (Jvm.Cond.code ({ cls := "java/util/ArrayList", name := "add", desc := "(Ljava/lang/Object;)Z" } : Jvm.MethodName) jdk_38_method_25_code (2 : Nat) (Option.some Jvm.ClassFile.FieldType.boolean)).before args0 about1 = true := code_word (m := ⟨20, 4⟩) (meth := k20m4) (c := k20c4) (by decide +kernel) rfl rfl rfl (by decide +kernel)
set_option maxRecDepth 65536 in
theorem w_c12 : (Jvm.Cond.code ({ cls := "java/util/ArrayList", name := "add", desc := "(Ljava/lang/Object;[Ljava/lang/Object;I)V" } : Jvm.MethodName) jdk_38_method_24_code (4 : Nat) (Option.none : Option Jvm.ClassFile.FieldType)).before args0 about1 = true := code_word (m := ⟨20, 3⟩) (meth := k20m3) (c := k20c3) (by decide +kernel) rfl rfl rfl (by decide +kernel)
set_option maxRecDepth 65536 in
theorem w_c13 : (Jvm.Cond.code ({ cls := "java/util/ArrayList", name := "grow", desc := "()[Ljava/lang/Object;" } : Jvm.MethodName) jdk_38_method_7_code (1 : Nat) (Option.some (Jvm.ClassFile.FieldType.array (Jvm.ClassFile.FieldType.object "java/lang/Object")))).before args0 about1 = true := code_word (m := ⟨20, 2⟩) (meth := k20m2) (c := k20c2) (by decide +kernel) rfl rfl rfl (by decide +kernel)
set_option maxRecDepth 65536 in
theorem w_c14 : (Jvm.Cond.code ({ cls := "java/util/ArrayList", name := "grow", desc := "(I)[Ljava/lang/Object;" } : Jvm.MethodName) jdk_38_method_6_code (4 : Nat) (Option.some (Jvm.ClassFile.FieldType.array (Jvm.ClassFile.FieldType.object "java/lang/Object")))).before args0 about1 = true := code_word (m := ⟨20, 1⟩) (meth := k20m1) (c := k20c1) (by decide +kernel) rfl rfl rfl (by decide +kernel)
set_option maxRecDepth 65536 in
theorem w_c15 : (Jvm.Cond.code ({ cls := "java/lang/Math", name := "max", desc := "(II)I" } : Jvm.MethodName) jdk_29_method_65_code (2 : Nat) (Option.some Jvm.ClassFile.FieldType.int)).before args0 about1 = true := code_word (m := ⟨21, 1⟩) (meth := k21m1) (c := k21c1) (by decide +kernel) rfl rfl rfl (by decide +kernel)
set_option maxRecDepth 65536 in
theorem w_c16 : (Jvm.Cond.code ({ cls := "com/example/cinderpath/cinderpath/ir/Signature", name := "<init>", desc := "(Ljava/lang/String;Lcom/example/cinderpath/cinderpath/ir/ScalarType;Ljava/util/List;Z)V" } : Jvm.MethodName) prog_63_method_1_code (5 : Nat) (Option.none : Option Jvm.ClassFile.FieldType)).before args0 about1 = true := code_word (m := ⟨23, 0⟩) (meth := k23m0) (c := k23c0) (by decide +kernel) rfl rfl rfl (by decide +kernel)
set_option maxRecDepth 65536 in
theorem w_c17 : (Jvm.Cond.code ({ cls := "java/lang/Record", name := "<init>", desc := "()V" } : Jvm.MethodName) jdk_30_method_1_code (1 : Nat) (Option.none : Option Jvm.ClassFile.FieldType)).before args0 about1 = true := code_word (m := ⟨22, 0⟩) (meth := k22m0) (c := k22c0) (by decide +kernel) rfl rfl rfl (by decide +kernel)
set_option maxRecDepth 65536 in
theorem w_c18 : (Jvm.Cond.code ({ cls := "com/example/cinderpath/cinderpath/ir/Signature", name := "readsInput", desc := "()Z" } : Jvm.MethodName) prog_63_method_2_code (1 : Nat) (Option.some Jvm.ClassFile.FieldType.boolean)).before args0 about1 = true := code_word (m := ⟨23, 1⟩) (meth := k23m1) (c := k23c1) (by decide +kernel) rfl rfl rfl (by decide +kernel)
set_option maxRecDepth 65536 in
theorem w_c19 : (Jvm.Cond.code ({ cls := "com/example/cinderpath/cinderpath/ir/ArrayType", name := "<init>", desc := "(Lcom/example/cinderpath/cinderpath/ir/ScalarType;I)V" } : Jvm.MethodName) prog_43_method_1_code (3 : Nat) (Option.none : Option Jvm.ClassFile.FieldType)).before args0 about1 = true := code_word (m := ⟨24, 0⟩) (meth := k24m0) (c := k24c0) (by decide +kernel) rfl rfl rfl (by decide +kernel)
def codes1 : List Jvm.Cond := [Jvm.Cond.code x code maxLocals ret, Jvm.Cond.code ({ cls := "com/example/cinderpath/cinderpath/ir/SignatureReadsInputPinLaw", name := "pick", desc := "(I)Lcom/example/cinderpath/cinderpath/ir/ScalarType;" } : Jvm.MethodName) method_2_code (2 : Nat) (Option.some (Jvm.ClassFile.FieldType.object "com/example/cinderpath/cinderpath/ir/ScalarType")), Jvm.Cond.code ({ cls := "java/lang/String", name := "<init>", desc := "([C)V" } : Jvm.MethodName) jdk_42_method_3_code (2 : Nat) (Option.none : Option Jvm.ClassFile.FieldType), Jvm.Cond.code ({ cls := "java/lang/String", name := "<init>", desc := "([CIILjava/lang/Void;)V" } : Jvm.MethodName) jdk_42_method_149_code (6 : Nat) (Option.none : Option Jvm.ClassFile.FieldType), Jvm.Cond.code ({ cls := "java/lang/Object", name := "<init>", desc := "()V" } : Jvm.MethodName) object_method_1_code (1 : Nat) (Option.none : Option Jvm.ClassFile.FieldType), Jvm.Cond.code ({ cls := "java/lang/StringUTF16", name := "compress", desc := "([CII)[B" } : Jvm.MethodName) jdk_52_method_16_code (6 : Nat) (Option.some (Jvm.ClassFile.FieldType.array Jvm.ClassFile.FieldType.byte)), Jvm.Cond.code ({ cls := "java/lang/StringUTF16", name := "compress", desc := "([CI[BII)I" } : Jvm.MethodName) jdk_52_method_21_code (7 : Nat) (Option.some Jvm.ClassFile.FieldType.int), Jvm.Cond.code ({ cls := "java/lang/StringUTF16", name := "coderFromArrayLen", desc := "([BI)B" } : Jvm.MethodName) jdk_52_method_15_code (2 : Nat) (Option.some Jvm.ClassFile.FieldType.byte), Jvm.Cond.code ({ cls := "java/util/ArrayList", name := "<init>", desc := "()V" } : Jvm.MethodName) jdk_38_method_2_code (1 : Nat) (Option.none : Option Jvm.ClassFile.FieldType), Jvm.Cond.code ({ cls := "java/util/AbstractList", name := "<init>", desc := "()V" } : Jvm.MethodName) jdk_39_method_1_code (1 : Nat) (Option.none : Option Jvm.ClassFile.FieldType), Jvm.Cond.code ({ cls := "java/util/AbstractCollection", name := "<init>", desc := "()V" } : Jvm.MethodName) jdk_22_method_1_code (1 : Nat) (Option.none : Option Jvm.ClassFile.FieldType), Jvm.Cond.code ({ cls := "java/util/ArrayList", name := "add", desc := "(Ljava/lang/Object;)Z" } : Jvm.MethodName) jdk_38_method_25_code (2 : Nat) (Option.some Jvm.ClassFile.FieldType.boolean), Jvm.Cond.code ({ cls := "java/util/ArrayList", name := "add", desc := "(Ljava/lang/Object;[Ljava/lang/Object;I)V" } : Jvm.MethodName) jdk_38_method_24_code (4 : Nat) (Option.none : Option Jvm.ClassFile.FieldType), Jvm.Cond.code ({ cls := "java/util/ArrayList", name := "grow", desc := "()[Ljava/lang/Object;" } : Jvm.MethodName) jdk_38_method_7_code (1 : Nat) (Option.some (Jvm.ClassFile.FieldType.array (Jvm.ClassFile.FieldType.object "java/lang/Object"))), Jvm.Cond.code ({ cls := "java/util/ArrayList", name := "grow", desc := "(I)[Ljava/lang/Object;" } : Jvm.MethodName) jdk_38_method_6_code (4 : Nat) (Option.some (Jvm.ClassFile.FieldType.array (Jvm.ClassFile.FieldType.object "java/lang/Object"))), Jvm.Cond.code ({ cls := "java/lang/Math", name := "max", desc := "(II)I" } : Jvm.MethodName) jdk_29_method_65_code (2 : Nat) (Option.some Jvm.ClassFile.FieldType.int), Jvm.Cond.code ({ cls := "com/example/cinderpath/cinderpath/ir/Signature", name := "<init>", desc := "(Ljava/lang/String;Lcom/example/cinderpath/cinderpath/ir/ScalarType;Ljava/util/List;Z)V" } : Jvm.MethodName) prog_63_method_1_code (5 : Nat) (Option.none : Option Jvm.ClassFile.FieldType), Jvm.Cond.code ({ cls := "java/lang/Record", name := "<init>", desc := "()V" } : Jvm.MethodName) jdk_30_method_1_code (1 : Nat) (Option.none : Option Jvm.ClassFile.FieldType), Jvm.Cond.code ({ cls := "com/example/cinderpath/cinderpath/ir/Signature", name := "readsInput", desc := "()Z" } : Jvm.MethodName) prog_63_method_2_code (1 : Nat) (Option.some Jvm.ClassFile.FieldType.boolean), Jvm.Cond.code ({ cls := "com/example/cinderpath/cinderpath/ir/ArrayType", name := "<init>", desc := "(Lcom/example/cinderpath/cinderpath/ir/ScalarType;I)V" } : Jvm.MethodName) prog_43_method_1_code (3 : Nat) (Option.none : Option Jvm.ClassFile.FieldType)]
set_option maxRecDepth 65536 in
theorem codes_eq : words1.filter isCode = codes1 := rfl
theorem w_codes : ∀ c ∈ words1.filter isCode, c.before args0 about1 = true := by
  rw [codes_eq]
  intro c hc
  simp only [codes1, List.mem_cons, List.not_mem_nil, or_false] at hc
  rcases hc with rfl | rfl | rfl | rfl | rfl | rfl | rfl | rfl | rfl | rfl | rfl | rfl | rfl | rfl | rfl | rfl | rfl | rfl | rfl | rfl
  · exact w_c0
  · exact w_c1
  · exact w_c2
  · exact w_c3
  · exact w_c4
  · exact w_c5
  · exact w_c6
  · exact w_c7
  · exact w_c8
  · exact w_c9
  · exact w_c10
  · exact w_c11
  · exact w_c12
  · exact w_c13
  · exact w_c14
  · exact w_c15
  · exact w_c16
  · exact w_c17
  · exact w_c18
  · exact w_c19
set_option maxRecDepth 65536 in
theorem w_t1 : (words1.take 24).all (fun c => isCode c || c.before args0 about1) = true := by decide +kernel
set_option maxRecDepth 65536 in
theorem w_t2 : ((words1.drop 24).take 24).all (fun c => isCode c || c.before args0 about1) = true := by decide +kernel
set_option maxRecDepth 65536 in
theorem w_t3 : (((words1.drop 24).drop 24).take 24).all (fun c => isCode c || c.before args0 about1) = true := by decide +kernel
set_option maxRecDepth 65536 in
theorem w_t4 : ((((words1.drop 24).drop 24).drop 24).take 24).all (fun c => isCode c || c.before args0 about1) = true := by decide +kernel
set_option maxRecDepth 65536 in
theorem w_t5 : (((((words1.drop 24).drop 24).drop 24).drop 24).take 24).all (fun c => isCode c || c.before args0 about1) = true := by decide +kernel
set_option maxRecDepth 65536 in
theorem w_t6 : (((((words1.drop 24).drop 24).drop 24).drop 24).drop 24).all (fun c => isCode c || c.before args0 about1) = true := by decide +kernel
theorem w_tables : (allAtoms (Jvm.Cond.code x code maxLocals ret :: tables_1)).before args0 about1 = true := by
  rw [allAtoms_all]
  show words1.all (fun c => c.before args0 about1) = true
  refine all_split ?_ w_codes
  rw [← List.take_append_drop 24 words1, List.all_append, w_t1, ← List.take_append_drop 24 (words1.drop 24), List.all_append, w_t2, ← List.take_append_drop 24 ((words1.drop 24).drop 24), List.all_append, w_t3, ← List.take_append_drop 24 (((words1.drop 24).drop 24).drop 24), List.all_append, w_t4, ← List.take_append_drop 24 ((((words1.drop 24).drop 24).drop 24).drop 24), List.all_append, w_t5, w_t6]
  rfl
set_option maxRecDepth 65536 in
theorem w_rest : rest_1_c.before args0 about1 = true := by decide +kernel
set_option maxRecDepth 65536 in
theorem w_case : (Jvm.Cond.and given_1 narrow_1).before args0 about1 = true := by decide +kernel
theorem w_applies : (headSpec (Jvm.Cond.code x code maxLocals ret :: tables_1) room_1).applies x e0.platform about1 = true :=
  (Spec.applies_iff w_frames).mpr ⟨w_running, w_runnable, w_alone, w_named, w_hears, w_ripe, w_room, w_tables⟩
theorem atStart : AtStart classFile x code maxLocals ret World_1 tables_1 room_1 Calls_1 rest_1 Pre_1 launch0 p0 e0 about1 theMethod args0 below0 :=
  ⟨lists_1, trivial, launch0.admits_env _ _ _, launch0.least_env, fairChoices_fair.cas, fairChoices_fair.clock, w_frames, w_args, w_heap, w_applies, trivial, w_rest, w_case⟩
end start1
theorem witness_1 : WitnessClaimed_1 := ⟨start1.p0, start1.e0, start1.about1, start1.theMethod, start1.args0, start1.below0, start1.atStart⟩
end Jvm.Pilot.@@N@@
