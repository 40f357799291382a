import JvmDerived
import JvmDerived.Pilot.@@N@@Statement
import JvmDerived.Pilot.@@N@@Code
set_option linter.unusedVariables false
set_option linter.unusedSimpArgs false
/- laws to paste: Road.backV, Road.codOf, Road.lenW (cut by pick.py; bodies as the Statement names them) -/
namespace Jvm.Pilot.@@N@@
namespace StrChars
open Jvm Sem ClassFile Op Lib Jvm.Stand Jvm.Free.XT Jvm.Free.ALB Jvm.Free.JM Jvm.Free
open Jvm.Lib.Cold (StaticIs)
/-- a char array whose places are chars -/
def Ch (a : Addr) (A : Cell) (U : State) : Prop := Arr .char a A U ∧ Typed .char A
theorem Ch.mv {a : Addr} {A : Cell} {U U' : State} (h : Ch a A U) (hal : U.vm.Alike U'.vm) (hh : U'.heap = U.heap) : Ch a A U' := ⟨h.1.mv hal hh, h.2⟩
theorem Ch.keep {a : Addr} {A : Cell} {U U' : State} (h : Ch a A U) (hal : U.vm.Alike U'.vm) (hk : U'.heap[a]? = some A) : Ch a A U' := ⟨h.1.keep hal hk, h.2⟩
/-- what place i of a char[]'s cell holds -/
def cv (A : Cell) (i : Nat) : Int32 := match A.slots[i]? with | some (.int x) => x | _ => 0
theorem Ch.get {a : Addr} {A : Cell} {U : State} (h : Ch a A U) {i : Nat} (hi : i < A.slots.size) : A.slots[i]? = some (.int (cv A i)) := by
  have e := Array.getElem?_eq_getElem hi
  have f := h.2 i _ e
  unfold cv; rw [e]
  generalize A.slots[i] = v at f
  cases v <;> simp [fits] at f ⊢
/-- the byte that i2b leaves of a char -/
def lo8 (x : Int32) : Int32 := x.toInt8.toInt32
theorem fits_lo8 (y : Int32) : fits .byte (.int (lo8 y)) = true := by
  have h1 := y.toInt8.le_toInt
  have h2 := y.toInt8.toInt_lt
  simp only [lo8, fits, Bool.and_eq_true, decide_eq_true_eq, Int32.le_iff_toInt_le, Int8.toInt_toInt32, show (-128 : Int32).toInt = -128 from by decide, show (127 : Int32).toInt = 127 from by decide]
  omega
/-- A' is A but that each place j of lo .. hi - 1 holds f j -/
def Laid (A A' : Cell) (lo hi : Nat) (f : Nat → Value) : Prop := A'.cls = A.cls ∧ A'.vm = A.vm ∧ A'.slots.size = A.slots.size ∧ ∀ i, A'.slots[i]? = if lo ≤ i ∧ i < hi then some (f i) else A.slots[i]?
theorem Laid.zero (A : Cell) (lo : Nat) (f : Nat → Value) : Laid A A lo (lo + 0) f := ⟨rfl, rfl, rfl, fun i => by rw [if_neg (by omega)]⟩
theorem Laid.step {A Ak : Cell} {lo k : Nat} {f : Nat → Value} {v : Value} (h : Laid A Ak lo k f) (hlo : lo ≤ k) (hk : k < Ak.slots.size) (hv : v = f k) : Laid A (Ak.setSlot k v) lo (k + 1) f := by
  refine ⟨h.1, h.2.1, by simpa [Cell.setSlot] using h.2.2.1, fun i => ?_⟩
  by_cases e : k = i
  · subst e; rw [Cell.slots_setSlot_self v hk, if_pos (by omega), hv]
  · rw [Cell.slots_setSlot_ne v e, h.2.2.2 i]
    by_cases q : lo ≤ i ∧ i < k
    · rw [if_pos q, if_pos (by omega)]
    · rw [if_neg q, if_neg (by omega)]
def U16 : String := "java/lang/StringUTF16"
namespace Cmp5
def yN : MethodName := ⟨"java/lang/StringUTF16", "compress", "([CI[BII)I"⟩
abbrev yB : ByteArray := jdk_52_method_21_code
theorem d0 : decode yB 0 = .ok (.iconst 0, 1) := by decide +kernel
theorem d1 : decode yB 1 = .ok (.istore 5, 2) := by decide +kernel
theorem d3 : decode yB 3 = .ok (.iload 5, 2) := by decide +kernel
theorem d5 : decode yB 5 = .ok (.iload 4, 2) := by decide +kernel
theorem d7 : decode yB 7 = .ok (.if_icmp (.ge) 37, 3) := by decide +kernel
theorem d10 : decode yB 10 = .ok (.aload_n 0, 1) := by decide +kernel
theorem d11 : decode yB 11 = .ok (.iload_n 1, 1) := by decide +kernel
theorem d12 : decode yB 12 = .ok (.caload, 1) := by decide +kernel
theorem d13 : decode yB 13 = .ok (.istore 6, 2) := by decide +kernel
theorem d15 : decode yB 15 = .ok (.iload 6, 2) := by decide +kernel
theorem d17 : decode yB 17 = .ok (.sipush 255, 3) := by decide +kernel
theorem d20 : decode yB 20 = .ok (.if_icmp (.le) 6, 3) := by decide +kernel
theorem d26 : decode yB 26 = .ok (.aload_n 2, 1) := by decide +kernel
theorem d27 : decode yB 27 = .ok (.iload_n 3, 1) := by decide +kernel
theorem d28 : decode yB 28 = .ok (.iload 6, 2) := by decide +kernel
theorem d30 : decode yB 30 = .ok (.i2b, 1) := by decide +kernel
theorem d31 : decode yB 31 = .ok (.bastore, 1) := by decide +kernel
theorem d32 : decode yB 32 = .ok (.iinc 1 1, 3) := by decide +kernel
theorem d35 : decode yB 35 = .ok (.iinc 3 1, 3) := by decide +kernel
theorem d38 : decode yB 38 = .ok (.iinc 5 1, 3) := by decide +kernel
theorem d41 : decode yB 41 = .ok (.goto (-38), 3) := by decide +kernel
theorem d44 : decode yB 44 = .ok (.iload 4, 2) := by decide +kernel
theorem d46 : decode yB 46 = .ok (.ireturn, 1) := by decide +kernel
def site : List Cond := []
def tab : Cond := tabOf yN yB 7 (some .int) site
def P (b : Addr) (A : Cell) (d : Addr) (B : Cell) (o q len : Nat) (args : Array Value) (s : State) : Prop := args = #[.ref b, .int (Int32.ofNat o), .ref d, .int (Int32.ofNat q), .int (Int32.ofNat len)] ∧ Ch b A s ∧ Arr .byte d B s ∧ b ≠ d ∧ o + len ≤ A.slots.size ∧ q + len ≤ B.slots.size ∧ ∀ i, i < len → ¬ 255 < cv A (o + i)
def E (b : Addr) (A : Cell) (d : Addr) (B : Cell) (o q len : Nat) (r : Option Value) (s u : State) : Prop := r = some (.int (Int32.ofNat len)) ∧ ∃ B', Put d B' s u ∧ Laid B B' q (q + len) (fun j => Value.int (lo8 (cv A (o + (j - q)))))
/-- no char of the range above 255: len; the places written hold each char's low byte -/
theorem law (l : Launch) (b : Addr) (A : Cell) (d : Addr) (B : Cell) (o q len : Nat) : Law l yN 5 5 0 0 yB 7 (some .int) site (P b A d B o q len) (E b A d B o q len) (copyLocs d q len) 0 0 := by
  refine Law.of_walk (plainFor_of_name (by decide +kernel)) (by decide +kernel) (by decide +kernel) (by decide) (fun _ _ h => by rw [h.1]; rfl) (fun _ U U' hal hh h => ⟨h.1, h.2.1.mv hal hh, h.2.2.1.mv hal hh, h.2.2.2⟩) (fun r U U' V V' h1 hal h2 h => ⟨h.1, h.2.elim fun B' q => ⟨B', q.1.mv h1 h2, q.2⟩⟩) ?_
  intro p e s m args below meth c s₁ X0 hexec hbytes hml hret hlk hnm hown hh0 W hP
  obtain ⟨rfl, hA, hB, hne, l1, l2, hp⟩ := hP
  have c1 : Steps p.tables e below (s₁.setTop (entryFrame m #[.ref b, .int (Int32.ofNat o), .ref d, .int (Int32.ofNat q), .int (Int32.ofNat len)] 7)) (s₁.setTop (mkF m 0 #[.val (.ref b), .val (.int (Int32.ofNat o)), .val (.ref d), .val (.int (Int32.ofNat q)), .val (.int (Int32.ofNat len)), .unset, .unset] [])) := entry rfl
  have hA0 := hA.1.mv X0.warmed.alike hh0
  have hB0 := hB.mv X0.warmed.alike hh0
  have a31 := hA.1.2.2.2
  have c2 : Steps p.tables e below (s₁.setTop (entryFrame m #[.ref b, .int (Int32.ofNat o), .ref d, .int (Int32.ofNat q), .int (Int32.ofNat len)] 7)) (s₁.setTop (mkF m 3 #[.val (.ref b), .val (.int (Int32.ofNat o)), .val (.ref d), .val (.int (Int32.ofNat q)), .val (.int (Int32.ofNat len)), .val (.int 0), .unset] [])) := c1.trans (by
    refine iconstV X0.here hexec rfl 0 (hb hbytes d0) (by decide) ?_
    refine XS.istore X0.here hexec rfl (hb hbytes d1) rfl rfl ?_
    exact Steps.refl _)
  have loop : ∀ (r i : Nat), i + r = len → ∀ (z : Slot), (z = .unset ∨ ∃ w, z = .val w ∧ w.category = 1) → ∀ (Tl : State) (Bk : Cell), Stand p l e { frames := 0, locals := 0, cells := 0, slots := 0 } s m #[.ref b, .int (Int32.ofNat o), .ref d, .int (Int32.ofNat q), .int (Int32.ofNat len)] below meth c Tl ([] ++ copyLocs d q i) 0 0 → Put d Bk s₁ Tl → Laid B Bk q (q + i) (fun j => Value.int (lo8 (cv A (o + (j - q))))) →
      Steps p.tables e below (s₁.setTop (entryFrame m #[.ref b, .int (Int32.ofNat o), .ref d, .int (Int32.ofNat q), .int (Int32.ofNat len)] 7)) (Tl.setTop (mkF m 3 #[.val (.ref b), .val (.int (Int32.ofNat (o + i))), .val (.ref d), .val (.int (Int32.ofNat (q + i))), .val (.int (Int32.ofNat len)), .val (.int (Int32.ofNat i)), z] [])) → ∃ (T' : State) (B' : Cell) (z' : Slot), Stand p l e { frames := 0, locals := 0, cells := 0, slots := 0 } s m #[.ref b, .int (Int32.ofNat o), .ref d, .int (Int32.ofNat q), .int (Int32.ofNat len)] below meth c T' ([] ++ copyLocs d q len) 0 0 ∧ Put d B' s₁ T' ∧ Laid B B' q (q + len) (fun j => Value.int (lo8 (cv A (o + (j - q))))) ∧
      Steps p.tables e below (s₁.setTop (entryFrame m #[.ref b, .int (Int32.ofNat o), .ref d, .int (Int32.ofNat q), .int (Int32.ofNat len)] 7)) (T'.setTop (mkF m 3 #[.val (.ref b), .val (.int (Int32.ofNat (o + len))), .val (.ref d), .val (.int (Int32.ofNat (q + len))), .val (.int (Int32.ofNat len)), .val (.int (Int32.ofNat len)), z'] [])) := by
    intro r
    induction r with
    | zero =>
      intro i hi z hz Tl Bk Xl pl fl cl
      have hil : i = len := by omega
      rw [hil] at Xl fl cl
      exact ⟨Tl, Bk, z, Xl, pl, fl, cl⟩
    | succ r ih =>
      intro i hi z hz Tl Bk Xl pl fl cl
      have all := X0.warmed.alike.symm.trans Xl.warmed.alike
      have hAl := hA0.keep all (pl.other hne hA0.1)
      have hBk := hB0.like all pl.1 fl.1 fl.2.1 fl.2.2.1
      have hlt : q + i < Bk.slots.size := by rw [fl.2.2.1]; omega
      have c3 : Steps p.tables e below (s₁.setTop (entryFrame m #[.ref b, .int (Int32.ofNat o), .ref d, .int (Int32.ofNat q), .int (Int32.ofNat len)] 7)) (Tl.setTop (mkF m 12 #[.val (.ref b), .val (.int (Int32.ofNat (o + i))), .val (.ref d), .val (.int (Int32.ofNat (q + i))), .val (.int (Int32.ofNat len)), .val (.int (Int32.ofNat i)), z] [.int (Int32.ofNat (o + i)), .ref b])) := cl.trans (by
        refine XS.iload Xl.here hexec rfl (hb hbytes d3) rfl ?_
        refine XS.iload Xl.here hexec rfl (hb hbytes d5) rfl ?_
        refine XS.icmpNo Xl.here hexec rfl (hb hbytes d7) rfl (ii_ge_f (lt32 (by omega) (by omega))) ?_
        refine XS.aloadN Xl.here hexec rfl (hb hbytes d10) rfl rfl ?_
        refine XS.iloadN Xl.here hexec rfl (hb hbytes d11) rfl ?_
        exact Steps.refl _)
      have c4 : Steps p.tables e below (s₁.setTop (entryFrame m #[.ref b, .int (Int32.ofNat o), .ref d, .int (Int32.ofNat q), .int (Int32.ofNat len)] 7)) (Tl.setTop (mkF m 13 #[.val (.ref b), .val (.int (Int32.ofNat (o + i))), .val (.ref d), .val (.int (Int32.ofNat (q + i))), .val (.int (Int32.ofNat len)), .val (.int (Int32.ofNat i)), z] [.int (cv A (o + i))])) := c3.trans (by
        refine Xl.aget hexec hAl rfl (hA.get (i := o + i) (by omega)) rfl rfl (hb hbytes d12) ?_
        exact Steps.refl _)
      have c5 : Steps p.tables e below (s₁.setTop (entryFrame m #[.ref b, .int (Int32.ofNat o), .ref d, .int (Int32.ofNat q), .int (Int32.ofNat len)] 7)) (Tl.setTop (mkF m 15 #[.val (.ref b), .val (.int (Int32.ofNat (o + i))), .val (.ref d), .val (.int (Int32.ofNat (q + i))), .val (.int (Int32.ofNat len)), .val (.int (Int32.ofNat i)), .val (.int (cv A (o + i)))] [])) := c4.trans (by
        refine XS.istoreS Xl.here hexec rfl (hb hbytes d13) rfl rfl hz ?_
        exact Steps.refl _)
      have c6 : Steps p.tables e below (s₁.setTop (entryFrame m #[.ref b, .int (Int32.ofNat o), .ref d, .int (Int32.ofNat q), .int (Int32.ofNat len)] 7)) (Tl.setTop (mkF m 31 #[.val (.ref b), .val (.int (Int32.ofNat (o + i))), .val (.ref d), .val (.int (Int32.ofNat (q + i))), .val (.int (Int32.ofNat len)), .val (.int (Int32.ofNat i)), .val (.int (cv A (o + i)))] [.int (lo8 (cv A (o + i))), .int (Int32.ofNat (q + i)), .ref d])) := c5.trans (by
        refine XS.iload Xl.here hexec rfl (hb hbytes d15) rfl ?_
        refine sipushV Xl.here hexec rfl 255 (hb hbytes d17) (by decide) ?_
        refine XS.icmpYes Xl.here hexec rfl (pc0 := 20) rfl (hb hbytes d20) rfl (ii_le_t (hp i (by omega))) (by decide) rfl ?_
        refine XS.aloadN Xl.here hexec rfl (hb hbytes d26) rfl rfl ?_
        refine XS.iloadN Xl.here hexec rfl (hb hbytes d27) rfl ?_
        refine XS.iload Xl.here hexec rfl (hb hbytes d28) rfl ?_
        refine i2b Xl.here hexec rfl (hb hbytes d30) rfl ?_
        exact Steps.refl _)
      obtain ⟨T7, X7, p7, st7⟩ := Xl.aput hexec hBk rfl hlt rfl (fits_lo8 (cv A (o + i))) (g := (mkF m 31 #[.val (.ref b), .val (.int (Int32.ofNat (o + i))), .val (.ref d), .val (.int (Int32.ofNat (q + i))), .val (.int (Int32.ofNat len)), .val (.int (Int32.ofNat i)), .val (.int (cv A (o + i)))] [.int (lo8 (cv A (o + i))), .int (Int32.ofNat (q + i)), .ref d])) rfl (rest := []) rfl (hb hbytes d31)
      have c8 : Steps p.tables e below (s₁.setTop (entryFrame m #[.ref b, .int (Int32.ofNat o), .ref d, .int (Int32.ofNat q), .int (Int32.ofNat len)] 7)) (T7.setTop (mkF m 32 #[.val (.ref b), .val (.int (Int32.ofNat (o + i))), .val (.ref d), .val (.int (Int32.ofNat (q + i))), .val (.int (Int32.ofNat len)), .val (.int (Int32.ofNat i)), .val (.int (cv A (o + i)))] [])) := c6.trans (st7 _ (Steps.refl _))
      have c9 : Steps p.tables e below (s₁.setTop (entryFrame m #[.ref b, .int (Int32.ofNat o), .ref d, .int (Int32.ofNat q), .int (Int32.ofNat len)] 7)) (T7.setTop (mkF m 3 #[.val (.ref b), .val (.int (Int32.ofNat (o + i) + 1)), .val (.ref d), .val (.int (Int32.ofNat (q + i) + 1)), .val (.int (Int32.ofNat len)), .val (.int (Int32.ofNat i + 1)), .val (.int (cv A (o + i)))] [])) := c8.trans (by
        refine iincV X7.here hexec rfl 1 (hb hbytes d32) (by decide) rfl rfl ?_
        refine iincV X7.here hexec rfl 1 (hb hbytes d35) (by decide) rfl rfl ?_
        refine iincV X7.here hexec rfl 1 (hb hbytes d38) (by decide) rfl rfl ?_
        refine XS.goto X7.here hexec rfl (pc0 := 41) rfl (hb hbytes d41) (by decide) rfl ?_
        exact Steps.refl _)
      have c10 : Steps p.tables e below (s₁.setTop (entryFrame m #[.ref b, .int (Int32.ofNat o), .ref d, .int (Int32.ofNat q), .int (Int32.ofNat len)] 7)) (T7.setTop (mkF m 3 #[.val (.ref b), .val (.int (Int32.ofNat (o + (i + 1)))), .val (.ref d), .val (.int (Int32.ofNat (q + (i + 1)))), .val (.int (Int32.ofNat len)), .val (.int (Int32.ofNat (i + 1))), .val (.int (cv A (o + i)))] [])) := by
        have := c9
        rw [succ32, succ32, succ32] at this
        exact this
      exact ih (i + 1) (by omega) _ (Or.inr ⟨_, rfl, rfl⟩) T7 _ (by rw [copyLocs_step, ← List.append_assoc]; exact X7) (pl.trans p7) (fl.step (by omega) hlt (by simp)) c10
  obtain ⟨T9, B9, z9, X9, p9, f9, g9⟩ := loop len 0 (by omega) .unset (Or.inl rfl) s₁ B (by simpa [copyLocs] using X0) ⟨hB0.1, fun _ _ => rfl, rfl⟩ (Laid.zero _ _ _) c2
  have c11 : Steps p.tables e below (s₁.setTop (entryFrame m #[.ref b, .int (Int32.ofNat o), .ref d, .int (Int32.ofNat q), .int (Int32.ofNat len)] 7)) (T9.setTop (mkF m 46 #[.val (.ref b), .val (.int (Int32.ofNat (o + len))), .val (.ref d), .val (.int (Int32.ofNat (q + len))), .val (.int (Int32.ofNat len)), .val (.int (Int32.ofNat len)), z9] [.int (Int32.ofNat len)])) := g9.trans (by
    refine XS.iload X9.here hexec rfl (hb hbytes d3) rfl ?_
    refine XS.iload X9.here hexec rfl (hb hbytes d5) rfl ?_
    refine XS.icmpYes X9.here hexec rfl (pc0 := 7) rfl (hb hbytes d7) rfl (ii_ge_t (nlt32 (by omega) (Nat.le_refl _))) (by decide) rfl ?_
    refine XS.iload X9.here hexec rfl (hb hbytes d44) rfl ?_
    exact Steps.refl _)
  exact ⟨T9, some (.int (Int32.ofNat len)), _, _, _, X9, by simp, rfl, rfl, (fun h => by cases h), ⟨rfl, B9, p9.from hh0, f9⟩, fun fs hl => c11.trans (X9.ireturnOut hexec hret rfl (Or.inl rfl) (hb hbytes d46) hl)⟩
end Cmp5
namespace Cmp3
def yN : MethodName := ⟨"java/lang/StringUTF16", "compress", "([CII)[B"⟩
abbrev yB : ByteArray := jdk_52_method_16_code
theorem d0 : decode yB 0 = .ok (.iload_n 2, 1) := by decide +kernel
theorem d1 : decode yB 1 = .ok (.newarray .byte, 2) := by decide +kernel
theorem d3 : decode yB 3 = .ok (.astore_n 3, 1) := by decide +kernel
theorem d4 : decode yB 4 = .ok (.aload_n 0, 1) := by decide +kernel
theorem d5 : decode yB 5 = .ok (.iload_n 1, 1) := by decide +kernel
theorem d6 : decode yB 6 = .ok (.aload_n 3, 1) := by decide +kernel
theorem d7 : decode yB 7 = .ok (.iconst 0, 1) := by decide +kernel
theorem d8 : decode yB 8 = .ok (.iload_n 2, 1) := by decide +kernel
theorem d9 : decode yB 9 = .ok (.invokestatic 115, 3) := by decide +kernel
theorem d12 : decode yB 12 = .ok (.istore 4, 2) := by decide +kernel
theorem d14 : decode yB 14 = .ok (.iload 4, 2) := by decide +kernel
theorem d16 : decode yB 16 = .ok (.iload_n 2, 1) := by decide +kernel
theorem d17 : decode yB 17 = .ok (.if_icmp (.eq) 40, 3) := by decide +kernel
theorem d57 : decode yB 57 = .ok (.aload_n 3, 1) := by decide +kernel
theorem d58 : decode yB 58 = .ok (.areturn, 1) := by decide +kernel
def site : List Cond := [.arrayClass .byte, Cmp5.tab] ++ staticW U16 115 Cmp5.yN
def tab : Cond := tabOf yN yB 6 (some (.array .byte)) site
def P (b : Addr) (A : Cell) (o len : Nat) (args : Array Value) (s : State) : Prop := args = #[.ref b, .int (Int32.ofNat o), .int (Int32.ofNat len)] ∧ Ch b A s ∧ o + len ≤ A.slots.size ∧ len ≤ 536870912 ∧ ∀ i, i < len → ¬ 255 < cv A (o + i)
def E (b : Addr) (A : Cell) (o len : Nat) (r : Option Value) (s u : State) : Prop := NewArr .byte "[B" len (fun j => .int (lo8 (cv A (o + j)))) r s u ∧ u.heap.size = s.heap.size + 1
/-- no char of the range above 255: a new byte[] of their low bytes -/
theorem law (l : Launch) (b : Addr) (A : Cell) (o len : Nat) : Law l yN 3 3 1 18 yB 6 (some (.array .byte)) site (P b A o len) (E b A o len) [] 1 len := by
  refine Law.of_walk (plainFor_of_name (by decide +kernel)) (by decide +kernel) (by decide +kernel) (by decide) (fun _ _ h => by rw [h.1]; rfl) (fun _ U U' hal hh h => ⟨h.1, h.2.1.mv hal hh, h.2.2⟩) (fun r U U' V V' h1 hal h2 h => ⟨NewArr.mv r U U' V V' h1 hal h2 h.1, by rw [h1, h2]; exact h.2⟩) ?_
  intro p e s m args below meth c s₁ X0 hexec hbytes hml hret hlk hnm hown hh0 W hP
  obtain ⟨rfl, hA, l1, l2, hp⟩ := hP
  have a31 := hA.1.2.2.2
  have c1 : Steps p.tables e below (s₁.setTop (entryFrame m #[.ref b, .int (Int32.ofNat o), .int (Int32.ofNat len)] 6)) (s₁.setTop (mkF m 0 #[.val (.ref b), .val (.int (Int32.ofNat o)), .val (.int (Int32.ofNat len)), .unset, .unset, .unset] [])) := entry rfl
  have c2 : Steps p.tables e below (s₁.setTop (entryFrame m #[.ref b, .int (Int32.ofNat o), .int (Int32.ofNat len)] 6)) (s₁.setTop (mkF m 1 #[.val (.ref b), .val (.int (Int32.ofNat o)), .val (.int (Int32.ofNat len)), .unset, .unset, .unset] [.int (Int32.ofNat len)])) := c1.trans (by
    refine XS.iloadN X0.here hexec rfl (hb hbytes d0) rfl ?_
    exact Steps.refl _)
  obtain ⟨T3, B3, X3, ba3, bs3, bv3, bh3, bf3, st3⟩ := X0.anew hexec (atype := .byte) (wk W (.arrayClass .byte)) rfl (by show len * 1 ≤ _; omega) (by omega) (g := (mkF m 1 #[.val (.ref b), .val (.int (Int32.ofNat o)), .val (.int (Int32.ofNat len)), .unset, .unset, .unset] [.int (Int32.ofNat len)])) rfl (hb hbytes d1) (rest := []) rfl (Nat.le_refl _) (by show 0 + len ≤ len; omega)
  rw [hh0] at ba3 st3
  have kp3 : XT.Kept s T3 := (XT.Kept.of_eq hh0).push bh3
  have hA3 := hA.keep X3.warmed.alike (kp3 _ _ hA.1.1)
  have hne : b ≠ s.heap.size := hA.1.ne
  have c4 : Steps p.tables e below (s₁.setTop (entryFrame m #[.ref b, .int (Int32.ofNat o), .int (Int32.ofNat len)] 6)) (T3.setTop (mkF m 3 #[.val (.ref b), .val (.int (Int32.ofNat o)), .val (.int (Int32.ofNat len)), .unset, .unset, .unset] [.ref s.heap.size])) := c2.trans (st3 _ (Steps.refl _))
  have c5 : Steps p.tables e below (s₁.setTop (entryFrame m #[.ref b, .int (Int32.ofNat o), .int (Int32.ofNat len)] 6)) (T3.setTop (mkF m 9 #[.val (.ref b), .val (.int (Int32.ofNat o)), .val (.int (Int32.ofNat len)), .val (.ref s.heap.size), .unset, .unset] [.int (Int32.ofNat len), .int 0, .ref s.heap.size, .int (Int32.ofNat o), .ref b])) := c4.trans (by
    refine XS.astoreN X3.here hexec rfl (hb hbytes d3) rfl rfl rfl ?_
    refine XS.aloadN X3.here hexec rfl (hb hbytes d4) rfl rfl ?_
    refine XS.iloadN X3.here hexec rfl (hb hbytes d5) rfl ?_
    refine XS.aloadN X3.here hexec rfl (hb hbytes d6) rfl rfl ?_
    refine iconstV X3.here hexec rfl 0 (hb hbytes d7) (by decide) ?_
    refine XS.iloadN X3.here hexec rfl (hb hbytes d8) rfl ?_
    exact Steps.refl _)
  obtain ⟨v6, T6, X6, E6, g6⟩ := X3.callS hexec (Cmp5.law l b A s.heap.size B3 o 0 len) hown (wks W (staticW U16 115 Cmp5.yN)) (wk W Cmp5.tab) (W := 0) (Nat.le_of_ble_eq_true rfl) (Nat.le_of_ble_eq_true rfl) (Nat.le_refl _) (by show 0 + len + 0 ≤ len; omega) (g := (mkF m 9 #[.val (.ref b), .val (.int (Int32.ofNat o)), .val (.int (Int32.ofNat len)), .val (.ref s.heap.size), .unset, .unset] [.int (Int32.ofNat len), .int (Int32.ofNat 0), .ref s.heap.size, .int (Int32.ofNat o), .ref b])) rfl (by rw [hml]; rfl) c5 (argsL := [.ref b, .int (Int32.ofNat o), .ref s.heap.size, .int (Int32.ofNat 0), .int (Int32.ofNat len)]) (rest := []) rfl rfl (by show 2 * 0 + 0 ≤ _; decide) (hb hbytes d9) (⟨rfl, hA3, ba3, hne, l1, by rw [bs3]; simp, hp⟩)
  obtain ⟨rfl, B6, p6, f6⟩ := E6
  have c7 : Steps p.tables e below (s₁.setTop (entryFrame m #[.ref b, .int (Int32.ofNat o), .int (Int32.ofNat len)] 6)) (T6.setTop (mkF m 12 #[.val (.ref b), .val (.int (Int32.ofNat o)), .val (.int (Int32.ofNat len)), .val (.ref s.heap.size), .unset, .unset] [.int (Int32.ofNat len)])) := g6
  have c8 : Steps p.tables e below (s₁.setTop (entryFrame m #[.ref b, .int (Int32.ofNat o), .int (Int32.ofNat len)] 6)) (T6.setTop (mkF m 58 #[.val (.ref b), .val (.int (Int32.ofNat o)), .val (.int (Int32.ofNat len)), .val (.ref s.heap.size), .val (.int (Int32.ofNat len)), .unset] [.ref s.heap.size])) := c7.trans (by
    refine XS.istore X6.here hexec rfl (hb hbytes d12) rfl rfl ?_
    refine XS.iload X6.here hexec rfl (hb hbytes d14) rfl ?_
    refine XS.iloadN X6.here hexec rfl (hb hbytes d16) rfl ?_
    refine XS.icmpYes X6.here hexec rfl (pc0 := 17) rfl (hb hbytes d17) rfl (ii_eq_t rfl) (by decide) rfl ?_
    refine XS.aloadN X6.here hexec rfl (hb hbytes d57) rfl rfl ?_
    exact Steps.refl _)
  have X8 := X6.wide (L' := []) (cells' := 1) (slots' := len) (fun x hx hlt => by
    simp only [List.nil_append, copyLocs, List.mem_map, List.mem_range] at hx
    obtain ⟨i, -, rfl⟩ := hx
    exact absurd hlt (Nat.lt_irrefl _)) (Nat.le_refl _) (by omega)
  exact ⟨T6, some (.ref s.heap.size), _, _, _, X8, rfl, rfl, rfl, (fun h => by cases h), ⟨⟨rfl, B6, ba3.like (X3.warmed.alike.symm.trans X6.warmed.alike) p6.1 f6.1 f6.2.1 f6.2.2.1, f6.2.1.trans bv3, by rw [X6.warmed.alike.findClass, f6.1]; exact bf3, by rw [f6.2.2.1, bs3]; simp, fun j hj => by rw [f6.2.2.2 j, if_pos (by omega)]; rfl, kp3.put p6 (Nat.le_refl _)⟩, by rw [p6.2.2, bh3, hh0]; simp⟩, fun fs hl => c8.trans (X8.areturnOut hexec rfl hret rfl (hb hbytes d58) hl)⟩
end Cmp3
namespace CodL
def yN : MethodName := ⟨"java/lang/StringUTF16", "coderFromArrayLen", "([BI)B"⟩
abbrev yB : ByteArray := jdk_52_method_15_code
theorem d0 : decode yB 0 = .ok (.iload_n 1, 1) := by decide +kernel
theorem d1 : decode yB 1 = .ok (.aload_n 0, 1) := by decide +kernel
theorem d2 : decode yB 2 = .ok (.arraylength, 1) := by decide +kernel
theorem d3 : decode yB 3 = .ok (.isub, 1) := by decide +kernel
theorem d4 : decode yB 4 = .ok (.bipush 31, 2) := by decide +kernel
theorem d6 : decode yB 6 = .ok (.iushr, 1) := by decide +kernel
theorem d7 : decode yB 7 = .ok (.i2b, 1) := by decide +kernel
theorem d8 : decode yB 8 = .ok (.ireturn, 1) := by decide +kernel
def site : List Cond := []
def tab : Cond := tabOf yN yB 2 (some .byte) site
def P (d : Addr) (B : Cell) (args : Array Value) (s : State) : Prop := args = #[.ref d, .int (Int32.ofNat B.slots.size)] ∧ Arr .byte d B s
def E (r : Option Value) (s u : State) : Prop := XT.PureE (some (.int 0)) r s u
/-- an array as long as the number of chars: LATIN1 -/
theorem law (l : Launch) (d : Addr) (B : Cell) : Law l yN 2 2 0 0 yB 2 (some .byte) site (P d B) E [] 0 0 := by
  refine Law.of_walk (plainFor_of_name (by decide +kernel)) (by decide +kernel) (by decide +kernel) (by decide) (fun _ _ h => by rw [h.1]; rfl) (fun _ U U' hal hh h => ⟨h.1, h.2.mv hal hh⟩) (fun r U U' V V' h1 hal h2 h => XT.PureE.mv r U U' V V' h1 hal h2 h) ?_
  intro p e s m args below meth c s₁ X0 hexec hbytes hml hret hlk hnm hown hh0 W hP
  obtain ⟨rfl, hB⟩ := hP
  have hB0 := hB.mv X0.warmed.alike hh0
  have c1 : Steps p.tables e below (s₁.setTop (entryFrame m #[.ref d, .int (Int32.ofNat B.slots.size)] 2)) (s₁.setTop (mkF m 0 #[.val (.ref d), .val (.int (Int32.ofNat B.slots.size))] [])) := entry rfl
  have c2 : Steps p.tables e below (s₁.setTop (entryFrame m #[.ref d, .int (Int32.ofNat B.slots.size)] 2)) (s₁.setTop (mkF m 2 #[.val (.ref d), .val (.int (Int32.ofNat B.slots.size))] [.ref d, .int (Int32.ofNat B.slots.size)])) := c1.trans (by
    refine XS.iloadN X0.here hexec rfl (hb hbytes d0) rfl ?_
    refine XS.aloadN X0.here hexec rfl (hb hbytes d1) rfl rfl ?_
    exact Steps.refl _)
  have c3 : Steps p.tables e below (s₁.setTop (entryFrame m #[.ref d, .int (Int32.ofNat B.slots.size)] 2)) (s₁.setTop (mkF m 8 #[.val (.ref d), .val (.int (Int32.ofNat B.slots.size))] [.int (lo8 (ushr (Int32.ofNat B.slots.size - Int32.ofNat B.slots.size) 31))])) := c2.trans (by
    refine X0.alen hexec hB0 rfl rfl (hb hbytes d2) ?_
    refine XS.isub X0.here hexec rfl (hb hbytes d3) rfl ?_
    refine bipushV X0.here hexec rfl 31 (hb hbytes d4) (by decide) ?_
    refine iushr X0.here hexec rfl (hb hbytes d6) rfl ?_
    refine i2b X0.here hexec rfl (hb hbytes d7) rfl ?_
    exact Steps.refl _)
  have e0 : lo8 (ushr (Int32.ofNat B.slots.size - Int32.ofNat B.slots.size) 31) = 0 := by rw [Int32.sub_self]; decide
  rw [e0] at c3
  exact ⟨s₁, some (.int 0), _, _, _, X0, rfl, rfl, rfl, (fun h => by cases h), ⟨rfl, hh0⟩, fun fs hl => c3.trans (X0.ireturnOut hexec hret rfl (Or.inr (Or.inr (Or.inl rfl))) (hb hbytes d8) hl)⟩
end CodL
/-- the String at a is Latin-1 over a new byte[] (the heap's one new cell): the low bytes of the len chars of A from o on; every cell but a is kept -/
def Got (a : Addr) (D : Cell) (fV fC : Field) (A : Cell) (o len : Nat) (r : Option Value) (s u : State) : Prop := r = none ∧ ∃ D' V : Cell, Blank "java/lang/String" a D' u ∧ Same D D' [fV.slot, fC.slot] ∧ D'.slots[fV.slot]? = some (.ref s.heap.size) ∧ D'.slots[fC.slot]? = some (.int 0) ∧ Arr .byte s.heap.size V u ∧ V.vm = .none ∧ u.vm.findClass "[B" = some V.cls ∧ V.slots.size = len ∧ (∀ j, j < len → V.slots[j]? = some (.int (lo8 (cv A (o + j))))) ∧ (∀ (y : Addr) (c : Cell), y ≠ a → s.heap[y]? = some c → u.heap[y]? = some c) ∧ u.heap.size = s.heap.size + 1
theorem Got.mv {a : Addr} {D A : Cell} {fV fC : Field} {o len : Nat} : ∀ r (U U' V V' : State), U'.heap = U.heap → V.vm.Alike V'.vm → V'.heap = V.heap → Got a D fV fC A o len r U V → Got a D fV fC A o len r U' V' :=
  fun r U U' V V' h1 hal h2 ⟨e0, D', X, a1, a2, a3, a4, a5, a6, a7, a8, a9, a10, a11⟩ => ⟨e0, D', X, a1.mv hal h2, a2, by rw [h1]; exact a3, a4, by rw [h1]; exact a5.mv hal h2, a6, by rw [hal.findClass]; exact a7, a8, a9, by rw [h1, h2]; exact a10, by rw [h1, h2]; exact a11⟩
namespace New4
def yN : MethodName := ⟨"java/lang/String", "<init>", "([CIILjava/lang/Void;)V"⟩
abbrev yB : ByteArray := jdk_42_method_149_code
theorem d0 : decode yB 0 = .ok (.aload_n 0, 1) := by decide +kernel
theorem d1 : decode yB 1 = .ok (.invokespecial 1, 3) := by decide +kernel
theorem d4 : decode yB 4 = .ok (.iload_n 3, 1) := by decide +kernel
theorem d5 : decode yB 5 = .ok (.ifCond (.ne) 22, 3) := by decide +kernel
theorem d27 : decode yB 27 = .ok (.getstatic 38, 3) := by decide +kernel
theorem d30 : decode yB 30 = .ok (.ifCond (.eq) 28, 3) := by decide +kernel
theorem d33 : decode yB 33 = .ok (.aload_n 1, 1) := by decide +kernel
theorem d34 : decode yB 34 = .ok (.iload_n 2, 1) := by decide +kernel
theorem d35 : decode yB 35 = .ok (.iload_n 3, 1) := by decide +kernel
theorem d36 : decode yB 36 = .ok (.invokestatic 177, 3) := by decide +kernel
theorem d39 : decode yB 39 = .ok (.astore 5, 2) := by decide +kernel
theorem d41 : decode yB 41 = .ok (.aload_n 0, 1) := by decide +kernel
theorem d42 : decode yB 42 = .ok (.aload 5, 2) := by decide +kernel
theorem d44 : decode yB 44 = .ok (.iload_n 3, 1) := by decide +kernel
theorem d45 : decode yB 45 = .ok (.invokestatic 47, 3) := by decide +kernel
theorem d48 : decode yB 48 = .ok (.putfield 15, 3) := by decide +kernel
theorem d51 : decode yB 51 = .ok (.aload_n 0, 1) := by decide +kernel
theorem d52 : decode yB 52 = .ok (.aload 5, 2) := by decide +kernel
theorem d54 : decode yB 54 = .ok (.putfield 9, 3) := by decide +kernel
theorem d57 : decode yB 57 = .ok (.return_, 1) := by decide +kernel
def site : List Cond := [.fieldLink "java/lang/String" 38 "java/lang/String" "COMPACT_STRINGS" "Z", Cmp3.tab, CodL.tab, .laysFinal "java/lang/String" "java/lang/String" "value" "[B", .fieldLink "java/lang/String" 9 "java/lang/String" "value" "[B", .laysFinal "java/lang/String" "java/lang/String" "coder" "B", .fieldLink "java/lang/String" 15 "java/lang/String" "coder" "B"] ++ objW "java/lang/String" 1 ++ staticW "java/lang/String" 177 Cmp3.yN ++ staticW "java/lang/String" 47 CodL.yN
def tab : Cond := tabOf yN yB 6 none site
def P (a : Addr) (D : Cell) (fV fC : Field) (b : Addr) (A : Cell) (z : Int32) (o len : Nat) (args : Array Value) (s : State) : Prop := args = #[.ref a, .ref b, .int (Int32.ofNat o), .int (Int32.ofNat len), .null] ∧ Blank "java/lang/String" a D s ∧ Found "java/lang/String" "value" "[B" fV s ∧ Found "java/lang/String" "coder" "B" fC s ∧ Ch b A s ∧ StaticIs s "java/lang/String" "COMPACT_STRINGS" "Z" (.int z) ∧ ¬ z = 0 ∧ 0 < len ∧ o + len ≤ A.slots.size ∧ len ≤ 536870912 ∧ ∀ i, i < len → ¬ 255 < cv A (o + i)
def E (a : Addr) (D : Cell) (fV fC : Field) (A : Cell) (o len : Nat) (r : Option Value) (s u : State) : Prop := Got a D fV fC A o len r s u
/-- len > 0, no char of the range above 255: a Latin-1 String of their low bytes -/
theorem law (l : Launch) (a : Addr) (D : Cell) (fV fC : Field) (b : Addr) (A : Cell) (z : Int32) (o len : Nat) : Law l yN 5 4 2 35 yB 6 none site (P a D fV fC b A z o len) (E a D fV fC A o len) [⟨a, fC.slot⟩, ⟨a, fV.slot⟩] 1 len := by
  refine Law.of_walk (plainFor_of_name (by decide +kernel)) (by decide +kernel) (by decide +kernel) (by decide) (fun _ _ h => by rw [h.1]; rfl) (fun _ U U' hal hh h => ⟨h.1, h.2.1.mv hal hh, h.2.2.1.al hal, h.2.2.2.1.al hal, h.2.2.2.2.1.mv hal hh, h.2.2.2.2.2.1.there hal hh, h.2.2.2.2.2.2⟩) (fun r U U' V V' h1 hal h2 h => Got.mv r U U' V V' h1 hal h2 h) ?_
  intro p e s m args below meth c s₁ X0 hexec hbytes hml hret hlk hnm hown hh0 W hP
  obtain ⟨rfl, hB, f1, f2, hA, s1, hz, l0, l1, l2, hp⟩ := hP
  have a31 := hA.1.2.2.2
  have c1 : Steps p.tables e below (s₁.setTop (entryFrame m #[.ref a, .ref b, .int (Int32.ofNat o), .int (Int32.ofNat len), .null] 6)) (s₁.setTop (mkF m 0 #[.val (.ref a), .val (.ref b), .val (.int (Int32.ofNat o)), .val (.int (Int32.ofNat len)), .val .null, .unset] [])) := entry rfl
  have c2 : Steps p.tables e below (s₁.setTop (entryFrame m #[.ref a, .ref b, .int (Int32.ofNat o), .int (Int32.ofNat len), .null] 6)) (s₁.setTop (mkF m 1 #[.val (.ref a), .val (.ref b), .val (.int (Int32.ofNat o)), .val (.int (Int32.ofNat len)), .val .null, .unset] [.ref a])) := c1.trans (by
    refine XS.aloadN X0.here hexec rfl (hb hbytes d0) rfl rfl ?_
    exact Steps.refl _)
  obtain ⟨T3, X3, q3, st3⟩ := X0.oinit hexec hown (wks W (objW "java/lang/String" 1)) (g := (mkF m 1 #[.val (.ref a), .val (.ref b), .val (.int (Int32.ofNat o)), .val (.int (Int32.ofNat len)), .val .null, .unset] [.ref a])) rfl (by rw [hml]; rfl) (rest := []) rfl (hb hbytes d1) (W := 0) (by show 2 * 0 + 0 ≤ _; decide) (Nat.le_of_ble_eq_true rfl) (Nat.le_of_ble_eq_true rfl)
  have hh3 := q3.trans hh0
  have c4 : Steps p.tables e below (s₁.setTop (entryFrame m #[.ref a, .ref b, .int (Int32.ofNat o), .int (Int32.ofNat len), .null] 6)) (T3.setTop (mkF m 27 #[.val (.ref a), .val (.ref b), .val (.int (Int32.ofNat o)), .val (.int (Int32.ofNat len)), .val .null, .unset] [])) := (c2.trans (st3 _ (Steps.refl _))).trans (by
    refine XS.iloadN X3.here hexec rfl (hb hbytes d4) rfl ?_
    refine XS.ifYes X3.here hexec rfl (pc0 := 5) rfl (hb hbytes d5) rfl (i0_ne_t (nz32 (by omega) l0)) (by decide) rfl ?_
    exact Steps.refl _)
  obtain ⟨T5, X5, q5, st5⟩ := X3.sget hexec hown (wk W (.fieldLink "java/lang/String" 38 "java/lang/String" "COMPACT_STRINGS" "Z")) s1 (fun _ _ h => by rw [hh3]; exact h) (g := (mkF m 27 #[.val (.ref a), .val (.ref b), .val (.int (Int32.ofNat o)), .val (.int (Int32.ofNat len)), .val .null, .unset] [])) rfl (hb hbytes d27)
  have hh5 := q5.trans hh3
  have c6 : Steps p.tables e below (s₁.setTop (entryFrame m #[.ref a, .ref b, .int (Int32.ofNat o), .int (Int32.ofNat len), .null] 6)) (T5.setTop (mkF m 30 #[.val (.ref a), .val (.ref b), .val (.int (Int32.ofNat o)), .val (.int (Int32.ofNat len)), .val .null, .unset] [.int z])) := c4.trans (st5 _ (Steps.refl _))
  have c7 : Steps p.tables e below (s₁.setTop (entryFrame m #[.ref a, .ref b, .int (Int32.ofNat o), .int (Int32.ofNat len), .null] 6)) (T5.setTop (mkF m 36 #[.val (.ref a), .val (.ref b), .val (.int (Int32.ofNat o)), .val (.int (Int32.ofNat len)), .val .null, .unset] [.int (Int32.ofNat len), .int (Int32.ofNat o), .ref b])) := c6.trans (by
    refine XS.ifNo X5.here hexec rfl (hb hbytes d30) rfl (i0_eq_f hz) ?_
    refine XS.aloadN X5.here hexec rfl (hb hbytes d33) rfl rfl ?_
    refine XS.iloadN X5.here hexec rfl (hb hbytes d34) rfl ?_
    refine XS.iloadN X5.here hexec rfl (hb hbytes d35) rfl ?_
    exact Steps.refl _)
  obtain ⟨v8, T8, X8, E8, g8⟩ := X5.callS hexec (Cmp3.law l b A o len) hown (wks W (staticW "java/lang/String" 177 Cmp3.yN)) (wk W Cmp3.tab) (W := 0) (Nat.le_of_ble_eq_true rfl) (Nat.le_of_ble_eq_true rfl) (Nat.le_refl _) (by show 0 + len ≤ len; omega) (g := (mkF m 36 #[.val (.ref a), .val (.ref b), .val (.int (Int32.ofNat o)), .val (.int (Int32.ofNat len)), .val .null, .unset] [.int (Int32.ofNat len), .int (Int32.ofNat o), .ref b])) rfl (by rw [hml]; rfl) c7 (argsL := [.ref b, .int (Int32.ofNat o), .int (Int32.ofNat len)]) (rest := []) rfl rfl (by show 2 * 0 + 0 ≤ _; decide) (hb hbytes d36) (⟨rfl, hA.mv X5.warmed.alike hh5, l1, l2, hp⟩)
  obtain ⟨e8, z8⟩ := E8
  obtain ⟨rfl, N, n1, n2, n3, n4, n5, n6⟩ := NewArr.mv _ T5 s _ _ hh5.symm (Vm.Alike.refl _) rfl e8
  rw [hh5] at z8
  have hB1 := hB.keep X8.warmed.alike (n6 _ _ hB.1)
  have hne : s.heap.size ≠ a := (Nat.ne_of_lt (Array.getElem?_eq_some_iff.mp hB.1).1).symm
  have c9 : Steps p.tables e below (s₁.setTop (entryFrame m #[.ref a, .ref b, .int (Int32.ofNat o), .int (Int32.ofNat len), .null] 6)) (T8.setTop (mkF m 39 #[.val (.ref a), .val (.ref b), .val (.int (Int32.ofNat o)), .val (.int (Int32.ofNat len)), .val .null, .unset] [.ref s.heap.size])) := g8
  have c10 : Steps p.tables e below (s₁.setTop (entryFrame m #[.ref a, .ref b, .int (Int32.ofNat o), .int (Int32.ofNat len), .null] 6)) (T8.setTop (mkF m 45 #[.val (.ref a), .val (.ref b), .val (.int (Int32.ofNat o)), .val (.int (Int32.ofNat len)), .val .null, .val (.ref s.heap.size)] [.int (Int32.ofNat N.slots.size), .ref s.heap.size, .ref a])) := by
    have hc : Steps p.tables e below (s₁.setTop (entryFrame m #[.ref a, .ref b, .int (Int32.ofNat o), .int (Int32.ofNat len), .null] 6)) (T8.setTop (mkF m 45 #[.val (.ref a), .val (.ref b), .val (.int (Int32.ofNat o)), .val (.int (Int32.ofNat len)), .val .null, .val (.ref s.heap.size)] [.int (Int32.ofNat len), .ref s.heap.size, .ref a])) := c9.trans (by
      refine XS.astore X8.here hexec rfl (hb hbytes d39) rfl rfl rfl ?_
      refine XS.aloadN X8.here hexec rfl (hb hbytes d41) rfl rfl ?_
      refine XS.aload X8.here hexec rfl (hb hbytes d42) rfl rfl ?_
      refine XS.iloadN X8.here hexec rfl (hb hbytes d44) rfl ?_
      exact Steps.refl _)
    rw [n4]; exact hc
  obtain ⟨v11, T11, X11, E11, g11⟩ := X8.callS hexec (CodL.law l s.heap.size N) hown (wks W (staticW "java/lang/String" 47 CodL.yN)) (wk W CodL.tab) (W := 1) (Nat.le_of_ble_eq_true rfl) (Nat.le_of_ble_eq_true rfl) (Nat.le_refl _) (by show 0 + len + 0 ≤ len; omega) (g := (mkF m 45 #[.val (.ref a), .val (.ref b), .val (.int (Int32.ofNat o)), .val (.int (Int32.ofNat len)), .val .null, .val (.ref s.heap.size)] [.int (Int32.ofNat N.slots.size), .ref s.heap.size, .ref a])) rfl (by rw [hml]; rfl) c10 (argsL := [.ref s.heap.size, .int (Int32.ofNat N.slots.size)]) (rest := [.ref a]) rfl rfl (by show 2 * 0 + (1 + 0) ≤ _; decide) (hb hbytes d45) (⟨rfl, n1⟩)
  obtain ⟨rfl, q11⟩ := E11
  have hB11 := hB1.mv (X8.warmed.alike.symm.trans X11.warmed.alike) q11
  have c12 : Steps p.tables e below (s₁.setTop (entryFrame m #[.ref a, .ref b, .int (Int32.ofNat o), .int (Int32.ofNat len), .null] 6)) (T11.setTop (mkF m 48 #[.val (.ref a), .val (.ref b), .val (.int (Int32.ofNat o)), .val (.int (Int32.ofNat len)), .val .null, .val (.ref s.heap.size)] [.int 0, .ref a])) := g11
  obtain ⟨T13, X13, p13, bl13, sl13, st13⟩ := X11.finit hexec hown (wk W (.fieldLink "java/lang/String" 15 "java/lang/String" "coder" "B")) (Or.inr ⟨_, (wk W (.laysFinal "java/lang/String" "java/lang/String" "coder" "B"))⟩) (Or.inl ⟨rfl, hnm⟩) f2 (Or.inl rfl) hB11 (t := .byte) (by decide +kernel) rfl (g := (mkF m 48 #[.val (.ref a), .val (.ref b), .val (.int (Int32.ofNat o)), .val (.int (Int32.ofNat len)), .val .null, .val (.ref s.heap.size)] [.int 0, .ref a])) rfl (rest := []) rfl (hb hbytes d48)
  have c14 : Steps p.tables e below (s₁.setTop (entryFrame m #[.ref a, .ref b, .int (Int32.ofNat o), .int (Int32.ofNat len), .null] 6)) (T13.setTop (mkF m 54 #[.val (.ref a), .val (.ref b), .val (.int (Int32.ofNat o)), .val (.int (Int32.ofNat len)), .val .null, .val (.ref s.heap.size)] [.ref s.heap.size, .ref a])) := (c12.trans (st13 _ (Steps.refl _))).trans (by
    refine XS.aloadN X13.here hexec rfl (hb hbytes d51) rfl rfl ?_
    refine XS.aload X13.here hexec rfl (hb hbytes d52) rfl rfl ?_
    exact Steps.refl _)
  obtain ⟨T15, X15, p15, bl15, sl15, st15⟩ := X13.finit hexec hown (wk W (.fieldLink "java/lang/String" 9 "java/lang/String" "value" "[B")) (Or.inr ⟨_, (wk W (.laysFinal "java/lang/String" "java/lang/String" "value" "[B"))⟩) (Or.inl ⟨rfl, hnm⟩) f1 (Or.inl rfl) bl13 (t := (.array .byte)) (by decide +kernel) rfl (g := (mkF m 54 #[.val (.ref a), .val (.ref b), .val (.int (Int32.ofNat o)), .val (.int (Int32.ofNat len)), .val .null, .val (.ref s.heap.size)] [.ref s.heap.size, .ref a])) rfl (rest := []) rfl (hb hbytes d54)
  have c16 : Steps p.tables e below (s₁.setTop (entryFrame m #[.ref a, .ref b, .int (Int32.ofNat o), .int (Int32.ofNat len), .null] 6)) (T15.setTop (mkF m 57 #[.val (.ref a), .val (.ref b), .val (.int (Int32.ofNat o)), .val (.int (Int32.ofNat len)), .val .null, .val (.ref s.heap.size)] [])) := c14.trans (st15 _ (Steps.refl _))
  have ap := apart (Or.inr ⟨_, (wk W (.laysFinal "java/lang/String" "java/lang/String" "value" "[B"))⟩) (Or.inr ⟨_, (wk W (.laysFinal "java/lang/String" "java/lang/String" "coder" "B"))⟩) f1 f2 (t₁ := .array .byte) (t₂ := .byte) (by decide +kernel) (by decide +kernel) (by decide)
  have al := X8.warmed.alike.symm.trans X15.warmed.alike
  have n7 : T11.heap[s.heap.size]? = some N := by rw [q11]; exact n1.1
  exact ⟨T15, none, _, _, _, X15, by simp, rfl, by omega, (fun _ => rfl), ⟨rfl, _, N, bl15, ((Same.refl D _).set _ (by simp)).set _ (by simp), sl15, (Cell.slots_setSlot_ne _ ap).trans sl13, n1.keep al (p15.other hne (p13.other hne n7)), n2, by rw [al.findClass]; exact n3, n4, n5, fun y c h1 h2 => p15.other h1 (p13.other h1 (by rw [q11]; exact n6 y c h2)), by rw [p15.2.2, p13.2.2, q11]; exact z8⟩, fun fs hl => c16.trans (X15.returnOut hexec hret (hb hbytes d57) hl)⟩
end New4
namespace New1
def yN : MethodName := ⟨"java/lang/String", "<init>", "([C)V"⟩
abbrev yB : ByteArray := jdk_42_method_3_code
theorem d0 : decode yB 0 = .ok (.aload_n 0, 1) := by decide +kernel
theorem d1 : decode yB 1 = .ok (.aload_n 1, 1) := by decide +kernel
theorem d2 : decode yB 2 = .ok (.iconst 0, 1) := by decide +kernel
theorem d3 : decode yB 3 = .ok (.aload_n 1, 1) := by decide +kernel
theorem d4 : decode yB 4 = .ok (.arraylength, 1) := by decide +kernel
theorem d5 : decode yB 5 = .ok (.aconst_null, 1) := by decide +kernel
theorem d6 : decode yB 6 = .ok (.invokespecial 27, 3) := by decide +kernel
theorem d9 : decode yB 9 = .ok (.return_, 1) := by decide +kernel
def site : List Cond := [New4.tab] ++ initW "java/lang/String" 27 New4.yN
def tab : Cond := tabOf yN yB 2 none site
def P (a : Addr) (D : Cell) (fV fC : Field) (b : Addr) (A : Cell) (z : Int32) (args : Array Value) (s : State) : Prop := args = #[.ref a, .ref b] ∧ Blank "java/lang/String" a D s ∧ Found "java/lang/String" "value" "[B" fV s ∧ Found "java/lang/String" "coder" "B" fC s ∧ Ch b A s ∧ StaticIs s "java/lang/String" "COMPACT_STRINGS" "Z" (.int z) ∧ ¬ z = 0 ∧ 0 < A.slots.size ∧ A.slots.size ≤ 536870912 ∧ ∀ i, i < A.slots.size → ¬ 255 < cv A i
def E (a : Addr) (D : Cell) (fV fC : Field) (A : Cell) (r : Option Value) (s u : State) : Prop := Got a D fV fC A 0 A.slots.size r s u
/-- new String(chars), not empty, no char above 255: a Latin-1 String of their low bytes -/
theorem law (l : Launch) (a : Addr) (D : Cell) (fV fC : Field) (b : Addr) (A : Cell) (z : Int32) : Law l yN 2 1 3 52 yB 2 none site (P a D fV fC b A z) (E a D fV fC A) [⟨a, fC.slot⟩, ⟨a, fV.slot⟩] 1 A.slots.size := by
  refine Law.of_walk (plainFor_of_name (by decide +kernel)) (by decide +kernel) (by decide +kernel) (by decide) (fun _ _ h => by rw [h.1]; rfl) (fun _ U U' hal hh h => ⟨h.1, h.2.1.mv hal hh, h.2.2.1.al hal, h.2.2.2.1.al hal, h.2.2.2.2.1.mv hal hh, h.2.2.2.2.2.1.there hal hh, h.2.2.2.2.2.2⟩) (fun r U U' V V' h1 hal h2 h => Got.mv r U U' V V' h1 hal h2 h) ?_
  intro p e s m args below meth c s₁ X0 hexec hbytes hml hret hlk hnm hown hh0 W hP
  obtain ⟨rfl, hB, f1, f2, hA, s1, hz, l0, l2, hp⟩ := hP
  have c1 : Steps p.tables e below (s₁.setTop (entryFrame m #[.ref a, .ref b] 2)) (s₁.setTop (mkF m 0 #[.val (.ref a), .val (.ref b)] [])) := entry rfl
  have c2 : Steps p.tables e below (s₁.setTop (entryFrame m #[.ref a, .ref b] 2)) (s₁.setTop (mkF m 6 #[.val (.ref a), .val (.ref b)] [.null, .int (Int32.ofNat A.slots.size), .int 0, .ref b, .ref a])) := c1.trans (by
    refine XS.aloadN X0.here hexec rfl (hb hbytes d0) rfl rfl ?_
    refine XS.aloadN X0.here hexec rfl (hb hbytes d1) rfl rfl ?_
    refine iconstV X0.here hexec rfl 0 (hb hbytes d2) (by decide) ?_
    refine XS.aloadN X0.here hexec rfl (hb hbytes d3) rfl rfl ?_
    refine X0.alen hexec (hA.1.mv X0.warmed.alike hh0) rfl rfl (hb hbytes d4) ?_
    refine XS.aconstNull X0.here hexec rfl (hb hbytes d5) ?_
    exact Steps.refl _)
  obtain ⟨v3, T3, X3, E3, g3⟩ := X0.callN hexec (New4.law l a D fV fC b A z 0 A.slots.size) rfl hown (wks W (initW "java/lang/String" 27 New4.yN)) (W New4.tab (by simp only [site, List.mem_cons, List.mem_append, true_or, or_true])) (W := 0) (Nat.le_of_ble_eq_true rfl) (Nat.le_of_ble_eq_true rfl) (Nat.le_refl _) (by show 0 + A.slots.size ≤ A.slots.size; omega) (g := (mkF m 6 #[.val (.ref a), .val (.ref b)] [.null, .int (Int32.ofNat A.slots.size), .int (Int32.ofNat 0), .ref b, .ref a])) rfl (by rw [hml]; rfl) c2 (argsL := [.ref b, .int (Int32.ofNat 0), .int (Int32.ofNat A.slots.size), .null]) (rest := []) rfl rfl (by show 2 * 0 + 0 ≤ _; decide) (hb hbytes d6) (⟨rfl, hB.mv X0.warmed.alike hh0, f1.al X0.warmed.alike, f2.al X0.warmed.alike, hA.mv X0.warmed.alike hh0, s1.there X0.warmed.alike hh0, hz, l0, by omega, l2, fun i hi => by rw [Nat.zero_add]; exact hp i hi⟩)
  have e0 := Got.mv _ s₁ s _ _ hh0.symm (Vm.Alike.refl _) rfl E3
  obtain rfl := e0.1
  have c4 : Steps p.tables e below (s₁.setTop (entryFrame m #[.ref a, .ref b] 2)) (T3.setTop (mkF m 9 #[.val (.ref a), .val (.ref b)] [])) := g3
  exact ⟨T3, none, _, _, _, X3, by simp, rfl, by omega, (fun _ => rfl), e0, fun fs hl => c4.trans (X3.returnOut hexec hret (hb hbytes d9) hl)⟩
theorem pays {l : Launch} {R : Room} {p : Program} {e : Env} {below : List Frame} {s : State} {sargs : Array Value} {len W : Nat} (a : Addr) (D : Cell) (fV fC : Field) (b : Addr) (A : Cell) (z : Int32) (htab : tab.before sargs s = true) (hfr : 4 ≤ R.frames) (hlo : W + 65 ≤ R.locals) :
    Back l R p e below s sargs yN len W (fun A₁ a₁ => A₁.cells + 1 ≤ R.cells ∧ A₁.slots + A.slots.size ≤ R.slots ∧ P a D fV fC b A z a₁ A₁.U) (fun A₁ _ v₁ B₁ => E a D fV fC A v₁ A₁.U B₁.U ∧ B₁.locs = A₁.locs ++ [⟨a, fC.slot⟩, ⟨a, fV.slot⟩] ∧ B₁.cells = A₁.cells + 1 ∧ B₁.slots = A₁.slots + A.slots.size) :=
  (law l a D fV fC b A z).pays htab hfr (by omega)
end New1
end StrChars
namespace StrChars.Road
open Jvm Sem ClassFile Op Lib Jvm.Stand Jvm.Free Jvm.Free.XT
open Jvm.Lib.Cold (StaticIs)
abbrev ST : String := "java/lang/String"
/-- every table word that New1's law asks, flat -/
abbrev words : List Jvm.Cond := [.code New1.yN New1.yB 2 none, .initialized ST, .methodLink ST 27 New4.yN, .instanceMethod New4.yN,
  .code New4.yN New4.yB 6 none, .fieldLink ST 38 ST "COMPACT_STRINGS" "Z", .laysFinal ST ST "value" "[B", .fieldLink ST 9 ST "value" "[B", .laysFinal ST ST "coder" "B", .fieldLink ST 15 ST "coder" "B",
  .methodLink ST 1 Lib.objectInit, .instanceMethod Lib.objectInit, .code Lib.objectInit ⟨#[0xb1]⟩ 1 none, .methodLink ST 177 Cmp3.yN, .static Cmp3.yN, .methodLink ST 47 CodL.yN, .static CodL.yN,
  .code Cmp3.yN Cmp3.yB 6 (some (.array .byte)), .initialized U16, .arrayClass .byte, .methodLink U16 115 Cmp5.yN, .static Cmp5.yN, .code Cmp5.yN Cmp5.yB 7 (some .int), .code CodL.yN CodL.yB 2 (some .byte)]
theorem tab_of {a : Array Value} {s : State} (h : ∀ w ∈ words, w.before a s = true) : New1.tab.before a s = true := by
  have h5 : Cmp5.tab.before a s = true := unparts (wk h (.code Cmp5.yN Cmp5.yB 7 (some .int))) (wks h (.initialized Cmp5.yN.cls :: Cmp5.site))
  have hc : CodL.tab.before a s = true := unparts (wk h (.code CodL.yN CodL.yB 2 (some .byte))) (wks h (.initialized CodL.yN.cls :: CodL.site))
  have q5 : ∀ w ∈ Cmp5.tab :: words, w.before a s = true := fun w hw => (List.mem_cons.mp hw).elim (fun e => e ▸ h5) (h w)
  have h3 : Cmp3.tab.before a s = true := unparts (wk q5 (.code Cmp3.yN Cmp3.yB 6 (some (.array .byte)))) (wks q5 (.initialized Cmp3.yN.cls :: Cmp3.site))
  have q3 : ∀ w ∈ Cmp3.tab :: CodL.tab :: words, w.before a s = true := fun w hw => (List.mem_cons.mp hw).elim (fun e => e ▸ h3) fun hw => (List.mem_cons.mp hw).elim (fun e => e ▸ hc) (h w)
  have h4 : New4.tab.before a s = true := unparts (wk q3 (.code New4.yN New4.yB 6 none)) (wks q3 (.initialized New4.yN.cls :: New4.site))
  have q4 : ∀ w ∈ New4.tab :: words, w.before a s = true := fun w hw => (List.mem_cons.mp hw).elim (fun e => e ▸ h4) (h w)
  exact unparts (wk q4 (.code New1.yN New1.yB 2 none)) (wks q4 (.initialized New1.yN.cls :: New1.site))
/-- the words ride from the start Z to the walk's own state -/
theorem moved {Z s : State} {a0 args : Array Value} (hZ : Z.Warmed39 s.vm) (hw : ∀ d ∈ words, d.before a0 Z = true) : ∀ d ∈ words, d.before args s = true := fun d hd => by
  have q := hw d hd
  have t : ∀ d ∈ words, d = .arrayClass .byte ∨ (d.onTables && d.keepsFace) = true := by decide +kernel
  rcases t d hd with rfl | t
  · exact RoadKit.mvA hZ q
  · exact RoadKit.mv hZ q t
/-- WHAT COMES BACK, over the tables of the start Z: h the heap at the call, h' behind it -/
def Q (Z : State) (x : Addr) (A : Cell) (h : Heap) (v : Option Value) (h' : Heap) (L : List Loc) : Prop := v = none ∧ (∀ y ∈ L, y.base = x) ∧ RoadKit.Keep h h' [x] ∧ h'.size = h.size + 1 ∧ RoadKit.Exa Z h' x ST ∧ RoadKit.Fld Z h' x ST "value" "[B" (.ref h.size) ∧ RoadKit.Fld Z h' x ST "coder" "B" (.int 0) ∧
  (∃ V : Cell, RoadKit.Arr Z h' h.size V .byte ∧ V.vm = .none ∧ Z.vm.findClass "[B" = some V.cls ∧ V.slots.size = A.slots.size ∧ ∀ j, j < A.slots.size → V.slots[j]? = some (.int (lo8 (cv A j)))) ∧
  ∀ (O n d : String) (w : Value), RoadKit.Fld Z h x O n d w → RoadKit.slotOf Z O n d ≠ RoadKit.slotOf Z ST "value" "[B" → RoadKit.slotOf Z O n d ≠ RoadKit.slotOf Z ST "coder" "B" → RoadKit.Fld Z h' x O n d w
/-- **new String(chars) AT A CALL, IN THE ROAD'S FORM**: for specialBack behind newO: x the fresh String, b the char[] with the cell A -/
theorem back {p : Program} {l : Launch} {e : Env} {R : Room} {s : State} {args : Array Value} {below : List Frame} {len W : Nat} {Z : State} {a0 : Array Value} {h : Heap} (hZ : Z.Warmed39 s.vm) (hw : ∀ d ∈ words, d.before a0 Z = true) {kI : Nat} (wi : (Jvm.Cond.instantiable ST kI).before a0 Z = true)
    {x b : Addr} {A : Cell} {z : Int32} {v0 c0 : Value} (E : RoadKit.Exa Z h x ST) (V : RoadKit.Fld Z h x ST "value" "[B" v0) (C : RoadKit.Fld Z h x ST "coder" "B" c0) (K : RoadKit.Arr Z h b A .char) (hty : Typed .char A) (S : RoadKit.Sta Z h ST "COMPACT_STRINGS" "Z" (.int z)) (hz : ¬ z = 0)
    (l0 : 0 < A.slots.size) (l2 : A.slots.size ≤ 536870912) (hp : ∀ i, i < A.slots.size → ¬ 255 < cv A i) (hfr : 4 ≤ R.frames) (hlo : W + 65 ≤ R.locals) :
    Back l R p e below s args New1.yN len W (fun P a => a = #[.ref x, .ref b] ∧ P.U.heap = h ∧ P.cells + 1 ≤ R.cells ∧ P.slots + A.slots.size ≤ R.slots)
      (fun P _ v B => ∃ L, Q Z x A h v B.U.heap L ∧ B.locs = P.locs ++ L ∧ B.cells = P.cells + 1 ∧ B.slots = P.slots + A.slots.size) := by
  intro m meth c P g ig mk a X hg hsize hdg hW hn hp'
  obtain ⟨rfl, rfl, r1, r2⟩ := hp'
  have al : Z.vm.Alike P.U.vm := hZ.alike.trans X.warmed.alike
  obtain ⟨D, cfV, kV, iV, fV, hD, gV, stV, knV, obV, asV, slV⟩ := id V
  obtain ⟨D', cfC, kC, iC, fC, hD', gC, stC, -, -, asC, slC⟩ := id C
  cases hD.symm.trans hD'
  obtain ⟨D2, kD, e1, e2, e3, e4, e5⟩ := id E
  cases hD.symm.trans e1
  obtain ⟨c2, k2, i1, i2, i3, -⟩ := Cond.instantiable_spec wi
  cases e2.symm.trans i1
  cases e3.symm.trans i2
  obtain ⟨kU, u1, u2⟩ := al.2.2 _ _ e3
  have hB : Blank ST x D P.U := ⟨hD, ⟨knV, fun q hq => by rw [hq] at obV; cases obV⟩, by rw [al.findClass]; exact e2, kU, u1, by rw [u2]; exact i3, by rw [u2]; exact e5 i3⟩
  have F1 : Found ST "value" "[B" fV P.U := ⟨SBG.found_only al ⟨cfV, kV, iV, gV⟩, stV⟩
  have F2 : Found ST "coder" "B" fC P.U := ⟨SBG.found_only al ⟨cfC, kC, iC, gC⟩, stC⟩
  have hA : Ch b A P.U := ⟨⟨K.1, State.isArrayOf_alike al K.2.1, K.2.2, by omega⟩, hty⟩
  have hS : StaticIs P.U ST "COMPACT_STRINGS" "Z" (.int z) := by
    obtain ⟨cfS, iS, kS, fS, st, cS, t1, t2, t3, t4, t5, t6, t7⟩ := S
    exact StaticIs.there (s := { Z with heap := P.U.heap }) ⟨cfS, iS, kS, fS, st, cS, t1, t2, t3, t4, t5, (fun q => by rw [q] at t6; cases t6), t7⟩ al rfl
  obtain ⟨v, B, X', ⟨⟨hv, E', V', q1, q2, q3, q4, q5, q6, q7, q8, q9, q10, q11⟩, hl, hc, hs⟩, st⟩ := New1.pays x D fV fC b A z (tab_of (moved hZ hw)) hfr hlo m meth c P g ig mk _ X hg hsize hdg hW hn ⟨r1, r2, rfl, hB, F1, F2, hA, hS, hz, l0, l2, hp⟩
  have al' : Z.vm.Alike B.U.vm := hZ.alike.trans X'.warmed.alike
  have hsz : E'.slots.size = D.slots.size := by
    obtain ⟨-, -, -, kB, w1, w2, w3⟩ := q1
    obtain ⟨kB', y1, y2⟩ := al'.2.2 _ _ e3
    rw [q2.2.1] at w1
    cases w1.symm.trans y1
    rw [w3, e5 i3, y2]
  refine ⟨v, B, X', ⟨_, ⟨hv, ?_, ⟨by omega, fun y cy hy hn' => q10 y cy (by simpa using hn') hy, fun y cy hy => ?_⟩, q11, ⟨E', _, q1.1, by rw [q2.2.1]; exact e2, by rw [q2.2.1]; exact e3, by rw [q2.1]; exact obV, fun _ => by rw [hsz]; exact e5 i3⟩,
    ⟨E', cfV, kV, iV, fV, q1.1, gV, stV, by rw [q2.1]; exact knV, by rw [q2.1]; exact obV, by rw [q2.2.1]; exact asV, q3⟩, ⟨E', cfC, kC, iC, fC, q1.1, gC, stC, by rw [q2.1]; exact knV, by rw [q2.1]; exact obV, by rw [q2.2.1]; exact asC, q4⟩,
    ⟨V', ⟨q5.1, State.isArrayOf_alike al'.symm q5.2.1, q5.2.2.1⟩, q6, by rw [← al'.findClass]; exact q7, q8, fun j hj => by have := q9 j hj; rwa [Nat.zero_add] at this⟩, fun O n d w F n1 n2 => ?_⟩, hl, hc, hs⟩, st⟩
  · intro y hy
    simp only [List.mem_cons, List.not_mem_nil, or_false] at hy
    rcases hy with rfl | rfl <;> rfl
  · by_cases q : y = x
    · subst q
      cases hD.symm.trans hy
      exact ⟨E', q1.1, q2.2.1, q2.1, hsz⟩
    · exact ⟨cy, q10 y cy q hy, rfl, rfl, rfl⟩
  · obtain ⟨D3, cf, k, i, f, g1, g2, g3, g4, g5, g6, g7⟩ := F
    cases hD.symm.trans g1
    simp only [RoadKit.slotOf, g2, gV, gC, Option.map_some, Option.getD_some] at n1 n2
    exact ⟨E', cf, k, i, f, q1.1, g2, g3, by rw [q2.1]; exact g4, by rw [q2.1]; exact g5, by rw [q2.2.1]; exact g6, by rw [q2.2.2 f.slot (by simp [n1, n2])]; exact g7⟩
end StrChars.Road
namespace StrChars.Road
open Jvm Sem ClassFile Op Lib Jvm.Stand Jvm.Free Jvm.Free.XT
/-- WHAT COMES BACK, the byte[] as a list of values -/
def QA (Z : State) (x : Addr) (zn : Int32) (cs : List Int32) (h : Heap) (v : Option Value) (h' : Heap) (L : List Loc) : Prop := v = none ∧ (∀ y ∈ L, y.base = x) ∧ RoadKit.Keep h h' [x] ∧ h'.size = h.size + 1 ∧ RoadKit.Exa Z h' x ST ∧ RoadKit.Fld Z h' x ST "value" "[B" (.ref h.size) ∧ RoadKit.Fld Z h' x ST "coder" "B" (.int 0) ∧
  (∃ kb, Z.vm.findClass "[B" = some kb ∧ RoadKit.Arv Z h' h.size kb .byte zn (cs.map fun c => .int (lo8 c)) (.int 0)) ∧
  ∀ (O n d : String) (w : Value), RoadKit.Fld Z h x O n d w → RoadKit.slotOf Z O n d ≠ RoadKit.slotOf Z ST "value" "[B" → RoadKit.slotOf Z O n d ≠ RoadKit.slotOf Z ST "coder" "B" → RoadKit.Fld Z h' x O n d w
/-- **new String(chars) AT A CALL, THE ARRAYS AS LISTS**: the char[] at b holds cs, not empty, no char above 255 -/
theorem backArv {p : Program} {l : Launch} {e : Env} {R : Room} {s : State} {args : Array Value} {below : List Frame} {len W : Nat} {Z : State} {a0 : Array Value} {h : Heap} (hZ : Z.Warmed39 s.vm) (hw : ∀ d ∈ words, d.before a0 Z = true) {kI : Nat} (wi : (Jvm.Cond.instantiable ST kI).before a0 Z = true)
    {x b : Addr} {k : ClassId} {zn z : Int32} {cs : List Int32} {dv v0 c0 : Value} (E : RoadKit.Exa Z h x ST) (V : RoadKit.Fld Z h x ST "value" "[B" v0) (C : RoadKit.Fld Z h x ST "coder" "B" c0) (K : RoadKit.Arv Z h b k .char zn (cs.map Value.int) dv) (S : RoadKit.Sta Z h ST "COMPACT_STRINGS" "Z" (.int z)) (hz : ¬ z = 0)
    (hlen : zn.toNatClampNeg = cs.length) (h0 : 0 < cs.length) (hbig : cs.length ≤ 536870912) (hall : ∀ c ∈ cs, ¬ 255 < c) (hfr : 4 ≤ R.frames) (hlo : W + 65 ≤ R.locals) :
    Back l R p e below s args New1.yN len W (fun P a => a = #[.ref x, .ref b] ∧ P.U.heap = h ∧ P.cells + 1 ≤ R.cells ∧ P.slots + cs.length ≤ R.slots)
      (fun P _ v B => ∃ L, QA Z x zn cs h v B.U.heap L ∧ B.locs = P.locs ++ L ∧ B.cells = P.cells + 1 ∧ B.slots = P.slots + cs.length) := by
  obtain ⟨A, K1, K2, K3, K4, K5, K6⟩ := K
  have e : A.slots.size = cs.length := K3.trans hlen
  have hat : ∀ (i : Nat) (hi : i < cs.length), A.slots[i]? = some (.int cs[i]) := fun i hi => by rw [K5 i (by omega)]; simp [List.getD_eq_getElem?_getD, hi]
  have hcv : ∀ (i : Nat) (hi : i < cs.length), cv A i = cs[i] := fun i hi => by unfold cv; rw [hat i hi]
  have hty : Typed .char A := fun i v hv => by
    have hi : i < A.slots.size := (Array.getElem?_eq_some_iff.mp hv).1
    have q := K5 i hi
    rw [hv] at q
    rw [Option.some.inj q]
    exact K6 i hi
  refine Back.mono (back hZ hw wi E V C K1 hty S hz (by omega) (by omega) (fun i hi => by rw [hcv i (by omega)]; exact hall _ (List.getElem_mem _)) hfr hlo) (fun P a hp => ⟨hp.1, hp.2.1, hp.2.2.1, by rw [e]; exact hp.2.2.2⟩) (fun P a v B hp hq => ?_)
  obtain ⟨L, ⟨q1, q2, q3, q4, q5, q6, q7, ⟨V', v1, v2, v3, v4, v5⟩, q9⟩, hl, hc, hs⟩ := hq
  refine ⟨L, ⟨q1, q2, q3, q4, q5, q6, q7, ⟨V'.cls, v3, V', v1, rfl, by rw [v4, e, hlen], K4, fun i hi => ?_, fun i hi => ?_⟩, q9⟩, hl, hc, by rw [hs, e]⟩
  · have hi' : i < cs.length := by omega
    rw [v5 i (by omega), hcv i hi']; simp [List.getD_eq_getElem?_getD, hi']
  · have hi' : i < cs.length := by omega
    simp only [List.getD_eq_getElem?_getD, List.getElem?_map, List.getElem?_eq_getElem hi', Option.map_some, Option.getD_some]
    exact fits_lo8 _
end StrChars.Road
namespace StrChars.Road
open Jvm Sem ClassFile Op Lib Jvm.Stand Jvm.Free Jvm.Free.XT
/-- WHAT COMES BACK, in the writer's own shape -/
def QV (Z : State) (x : Addr) (N : Int32) (bs : List Int32) (h : Heap) (n0 : Nat) (v : Option Value) (h' : Heap) (L : List Loc) : Prop := v = none ∧ RoadKit.Fr n0 L ∧ RoadKit.Keep h h' [x] ∧ RoadKit.Exa Z h' x ST ∧ RoadKit.Fld Z h' x ST "coder" "B" (.int 0) ∧
  ∃ (t : Addr) (kb : ClassId), n0 ≤ t ∧ h.size ≤ t ∧ ¬ t = x ∧ RoadKit.Fld Z h' x ST "value" "[B" (.ref t) ∧ RoadKit.Arv Z h' t kb .byte N (bs.map Value.int) (.int 0)
/-- **new String(chars) AT A CALL, FOR THE WRITER**: a char[] of n known ints, each 0 to 255 -/
theorem backV {p : Program} {l : Launch} {e : Env} {R : Room} {s : State} {args : Array Value} {below : List Frame} {len W : Nat} {Z : State} {a0 : Array Value} {h : Heap} (hZ : Z.Warmed39 s.vm) (hw : ∀ d ∈ words, d.before a0 Z = true) {kI : Nat} (wi : (Jvm.Cond.instantiable ST kI).before a0 Z = true)
    {x b : Addr} {kC : ClassId} {cs bs : List Int32} {d v0 c0 : Value} {z N : Int32} {n n0 : Nat} (hx0 : n0 ≤ x) (hh0 : n0 ≤ h.size) (E : RoadKit.Exa Z h x ST) (V : RoadKit.Fld Z h x ST "value" "[B" v0) (C : RoadKit.Fld Z h x ST "coder" "B" c0) (K : RoadKit.Arv Z h b kC .char N (cs.map Value.int) d) (S : RoadKit.Sta Z h ST "COMPACT_STRINGS" "Z" (.int z)) (hz : ¬ z = 0)
    (hn : cs.length = n) (hN : N = Int32.ofNat n) (l0 : 0 < n) (l2 : n ≤ 4000) (hp : ∀ c ∈ cs, ¬ c < 0 ∧ ¬ (255 : Int32) < c) (hb : bs = cs.map (fun c => c.toInt8.toInt32)) (hfr : 4 ≤ R.frames) (hlo : W + 65 ≤ R.locals) :
    Back l R p e below s args (⟨"java/lang/String", "<init>", "([C)V"⟩ : MethodName) len W (fun P a => a = #[.ref x, .ref b] ∧ P.U.heap = h ∧ P.cells + 1 ≤ R.cells ∧ P.slots + n ≤ R.slots)
      (fun P _ v B => ∃ L, QV Z x N bs h n0 v B.U.heap L ∧ B.locs = P.locs ++ L ∧ B.cells = P.cells + 1 ∧ B.slots = P.slots + n) := by
  subst hn hN hb
  refine Back.mono (backArv hZ hw wi E V C K S hz (n32 (by omega)) l0 (by omega) (fun c hc => (hp c hc).2) hfr hlo) (fun P a hp => hp) (fun P a v B hp hq => ?_)
  obtain ⟨L, ⟨q1, q2, q3, q4, q5, q6, q7, ⟨kb, v1, v2⟩, q9⟩, hl, hc, hs⟩ := hq
  exact ⟨L, ⟨q1, fun y hy => by rw [q2 y hy]; exact hx0, q3, q5, q7, h.size, kb, hh0, Nat.le_refl _, Nat.ne_of_gt E.lt, q6, by rw [List.map_map]; exact v2⟩, hl, hc, hs⟩
end StrChars.Road
namespace StrChars
open Jvm Sem ClassFile Op Lib Jvm.Stand Jvm.Free.XT Jvm.Free.ALB Jvm.Free.JM Jvm.Free
open Jvm.Lib.Cold (StaticIs)
def hi8 (x : Int32) : Int32 := lo8 (x >>> ((8 : Int32) &&& 31))
theorem shr0 (c : Int32) : c >>> ((0 : Int32) &&& 31) = c := by
  have e : ((0 : Int32) &&& 31) = 0 := by decide
  rw [e]
  apply Int32.toBitVec_inj.mp
  rw [Int32.toBitVec_shiftRight]
  have e1 : ((0 : Int32).toBitVec.smod 32) = 0#32 := by decide
  rw [e1, BitVec.sshiftRight_eq']
  exact BitVec.sshiftRight_zero
end StrChars
namespace StrChars
open Jvm Sem ClassFile Op Lib Jvm.Stand Jvm.Free.XT Jvm.Free.ALB Jvm.Free.JM Jvm.Free
open Jvm.Lib.Cold (StaticIs)
theorem shr1 {n : Nat} (h : 2 * n < 2 ^ 31) : Int32.ofNat (2 * n) >>> ((1 : Int32) &&& 31) = Int32.ofNat n := by
  have e : ((1 : Int32) &&& 31) = 1 := by decide
  rw [e]
  apply Int32.toBitVec_inj.mp
  rw [Int32.toBitVec_shiftRight]
  have e1 : ((1 : Int32).toBitVec.smod 32) = 1#32 := by decide
  have hm : (BitVec.ofNat 32 (2 * n)).toNat = 2 * n := by rw [BitVec.toNat_ofNat, Nat.mod_eq_of_lt (by omega)]
  rw [e1, BitVec.sshiftRight_eq']
  apply BitVec.eq_of_toNat_eq
  show ((BitVec.ofNat 32 (2 * n)).sshiftRight 1).toNat = (BitVec.ofNat 32 n).toNat
  rw [BitVec.toNat_sshiftRight_of_msb_false (by rw [BitVec.msb_eq_false_iff_two_mul_lt, hm]; omega), hm, BitVec.toNat_ofNat, Nat.shiftRight_eq_div_pow]
  omega
/-- the array's cell V codes the n chars f 0 .. f (n - 1) by the coder cd, as the JDK does: coder 1 just where some char is above 255 -/
def Cod (cd : Int32) (n : Nat) (f : Nat → Int32) (V : Cell) : Prop := (cd = 0 ∧ V.slots.size = n ∧ ∀ j, j < n → V.slots[j]? = some (.int (lo8 (f j))) ∧ ¬ 255 < f j) ∨ (cd = 1 ∧ V.slots.size = 2 * n ∧ (∀ j, j < n → V.slots[2 * j]? = some (.int (lo8 (f j))) ∧ V.slots[2 * j + 1]? = some (.int (hi8 (f j)))) ∧ ∃ j, j < n ∧ 255 < f j)
theorem Cod.cd {cd : Int32} {n : Nat} {f : Nat → Int32} {V : Cell} (h : Cod cd n f V) : cd = 0 ∨ cd = 1 := h.imp (fun q => q.1) fun q => q.1
theorem Cod.len {cd : Int32} {n : Nat} {f : Nat → Int32} {V : Cell} (h : Cod cd n f V) (hs : V.slots.size < 2 ^ 31) : Int32.ofNat V.slots.size >>> (cd &&& 31) = Int32.ofNat n := by
  rcases h with ⟨rfl, h, -⟩ | ⟨rfl, h, -⟩
  · rw [shr0, h]
  · rw [h, shr1 (by omega)]
/-- **x is a String of the n chars f 0 .. f (n - 1)**, Latin-1 or UTF-16; its array at t has the cell V -/
def Txt (x t : Addr) (V : Cell) (cd : Int32) (n : Nat) (f : Nat → Int32) (U : State) : Prop := Exact "java/lang/String" x U ∧ Has x "java/lang/String" "value" "[B" (.ref t) U ∧ Has x "java/lang/String" "coder" "B" (.int cd) U ∧ XT.Arr .byte t V U ∧ Cod cd n f V ∧ ∀ j, j < n → ¬ f j < 0 ∧ ¬ 65535 < f j
theorem Txt.mv {x t : Addr} {V : Cell} {cd : Int32} {n : Nat} {f : Nat → Int32} {U U' : State} (h : Txt x t V cd n f U) (hal : U.vm.Alike U'.vm) (hh : U'.heap = U.heap) : Txt x t V cd n f U' := ⟨h.1.mv hal hh, h.2.1.mv hal hh, h.2.2.1.mv hal hh, h.2.2.2.1.mv hal hh, h.2.2.2.2⟩
namespace Cdr
def yN : MethodName := ⟨"java/lang/String", "coder", "()B"⟩
abbrev yB : ByteArray := jdk_42_method_152_code
theorem d0 : decode yB 0 = .ok (.getstatic 38, 3) := by decide +kernel
theorem d3 : decode yB 3 = .ok (.ifCond (.eq) 10, 3) := by decide +kernel
theorem d6 : decode yB 6 = .ok (.aload_n 0, 1) := by decide +kernel
theorem d7 : decode yB 7 = .ok (.getfield 15, 3) := by decide +kernel
theorem d10 : decode yB 10 = .ok (.goto 4, 3) := by decide +kernel
theorem d14 : decode yB 14 = .ok (.ireturn, 1) := by decide +kernel
def site : List Cond := [.fieldLink "java/lang/String" 38 "java/lang/String" "COMPACT_STRINGS" "Z", .fieldLink "java/lang/String" 15 "java/lang/String" "coder" "B"]
def tab : Cond := tabOf yN yB 1 (some .byte) site
def P (x : Addr) (cd z : Int32) (args : Array Value) (s : State) : Prop := args = #[.ref x] ∧ Has x "java/lang/String" "coder" "B" (.int cd) s ∧ (cd = 0 ∨ cd = 1) ∧ StaticIs s "java/lang/String" "COMPACT_STRINGS" "Z" (.int z) ∧ ¬ z = 0
def E (cd : Int32) (r : Option Value) (s u : State) : Prop := XT.PureE (some (.int cd)) r s u
theorem law (l : Launch) (x : Addr) (cd z : Int32) : Law l yN 1 0 0 0 yB 1 (some .byte) site (P x cd z) (E cd) [] 0 0 := by
  refine Law.of_walk (plainFor_of_name (by decide +kernel)) (by decide +kernel) (by decide +kernel) (by decide) (fun _ _ h => by rw [h.1]; rfl) (fun _ U U' hal hh h => ⟨h.1, h.2.1.mv hal hh, h.2.2.1, h.2.2.2.1.there hal hh, h.2.2.2.2⟩) (fun r U U' V V' h1 hal h2 h => XT.PureE.mv r U U' V V' h1 hal h2 h) ?_
  intro p e s m args below meth c s₁ X0 hexec hbytes hml hret hlk hnm hown hh0 W hP
  obtain ⟨rfl, hx, hc, s1, hz⟩ := hP
  have c1 : Steps p.tables e below (s₁.setTop (entryFrame m #[.ref x] 1)) (s₁.setTop (mkF m 0 #[.val (.ref x)] [])) := entry rfl
  obtain ⟨T2, X2, q2, st2⟩ := X0.sget hexec hown (wk W (.fieldLink "java/lang/String" 38 "java/lang/String" "COMPACT_STRINGS" "Z")) s1 (fun _ _ h => by rw [hh0]; exact h) (g := (mkF m 0 #[.val (.ref x)] [])) rfl (hb hbytes d0)
  have hh2 := q2.trans hh0
  have c3 : Steps p.tables e below (s₁.setTop (entryFrame m #[.ref x] 1)) (T2.setTop (mkF m 7 #[.val (.ref x)] [.ref x])) := (c1.trans (st2 _ (Steps.refl _))).trans (by
    refine XS.ifNo X2.here hexec rfl (hb hbytes d3) rfl (i0_eq_f hz) ?_
    refine XS.aloadN X2.here hexec rfl (hb hbytes d6) rfl rfl ?_
    exact Steps.refl _)
  obtain ⟨T4, X4, q4, st4⟩ := X2.hget hexec hown (wk W (.fieldLink "java/lang/String" 15 "java/lang/String" "coder" "B")) (hx.mv X2.warmed.alike hh2) (g := (mkF m 7 #[.val (.ref x)] [.ref x])) rfl (rest := []) rfl (hb hbytes d7)
  have c5 : Steps p.tables e below (s₁.setTop (entryFrame m #[.ref x] 1)) (T4.setTop (mkF m 14 #[.val (.ref x)] [.int cd])) := (c3.trans (st4 _ (Steps.refl _))).trans (by
    refine XS.goto X4.here hexec rfl (pc0 := 10) rfl (hb hbytes d10) (by decide) rfl ?_
    exact Steps.refl _)
  exact ⟨T4, some (.int cd), _, _, _, X4, rfl, rfl, rfl, (fun h => by cases h), ⟨rfl, q4.trans hh2⟩, fun fs hl => c5.trans (X4.ireturnOut hexec hret (by rcases hc with rfl | rfl <;> rfl) (Or.inr (Or.inr (Or.inl rfl))) (hb hbytes d14) hl)⟩
end Cdr
namespace Len
def yN : MethodName := ⟨"java/lang/String", "length", "()I"⟩
abbrev yB : ByteArray := jdk_42_method_54_code
theorem d0 : decode yB 0 = .ok (.aload_n 0, 1) := by decide +kernel
theorem d1 : decode yB 1 = .ok (.getfield 9, 3) := by decide +kernel
theorem d4 : decode yB 4 = .ok (.arraylength, 1) := by decide +kernel
theorem d5 : decode yB 5 = .ok (.aload_n 0, 1) := by decide +kernel
theorem d6 : decode yB 6 = .ok (.invokevirtual 335, 3) := by decide +kernel
theorem d9 : decode yB 9 = .ok (.ishr, 1) := by decide +kernel
theorem d10 : decode yB 10 = .ok (.ireturn, 1) := by decide +kernel
def site : List Cond := [.fieldLink "java/lang/String" 9 "java/lang/String" "value" "[B", Cdr.tab] ++ virtW "java/lang/String" 335 "java/lang/String" Cdr.yN Cdr.yN
def tab : Cond := tabOf yN yB 1 (some .int) site
def P (x t : Addr) (V : Cell) (cd : Int32) (n : Nat) (f : Nat → Int32) (z : Int32) (args : Array Value) (s : State) : Prop := args = #[.ref x] ∧ Txt x t V cd n f s ∧ StaticIs s "java/lang/String" "COMPACT_STRINGS" "Z" (.int z) ∧ ¬ z = 0
def E (n : Nat) (r : Option Value) (s u : State) : Prop := XT.PureE (some (.int (Int32.ofNat n))) r s u
/-- length() of a String of n chars, in either coding -/
theorem law (l : Launch) (x t : Addr) (V : Cell) (cd : Int32) (n : Nat) (f : Nat → Int32) (z : Int32) : Law l yN 1 0 1 13 yB 1 (some .int) site (P x t V cd n f z) (E n) [] 0 0 := by
  refine Law.of_walk (plainFor_of_name (by decide +kernel)) (by decide +kernel) (by decide +kernel) (by decide) (fun _ _ h => by rw [h.1]; rfl) (fun _ U U' hal hh h => ⟨h.1, h.2.1.mv hal hh, h.2.2.1.there hal hh, h.2.2.2⟩) (fun r U U' V V' h1 hal h2 h => XT.PureE.mv r U U' V V' h1 hal h2 h) ?_
  intro p e s m args below meth c s₁ X0 hexec hbytes hml hret hlk hnm hown hh0 W hP
  obtain ⟨rfl, hx, s1, hz⟩ := hP
  have v31 := hx.2.2.2.1.2.2.2
  have c1 : Steps p.tables e below (s₁.setTop (entryFrame m #[.ref x] 1)) (s₁.setTop (mkF m 1 #[.val (.ref x)] [.ref x])) := Steps.trans (entry rfl) (by
    show Steps p.tables e below (s₁.setTop (mkF m 0 #[.val (.ref x)] [])) _
    refine XS.aloadN X0.here hexec rfl (hb hbytes d0) rfl rfl ?_
    exact Steps.refl _)
  obtain ⟨T2, X2, q2, st2⟩ := X0.hget hexec hown (wk W (.fieldLink "java/lang/String" 9 "java/lang/String" "value" "[B")) (hx.mv X0.warmed.alike hh0).2.1 (g := (mkF m 1 #[.val (.ref x)] [.ref x])) rfl (rest := []) rfl (hb hbytes d1)
  have hh2 := q2.trans hh0
  have hx2 := hx.mv X2.warmed.alike hh2
  have c3 : Steps p.tables e below (s₁.setTop (entryFrame m #[.ref x] 1)) (T2.setTop (mkF m 6 #[.val (.ref x)] [.ref x, .int (Int32.ofNat V.slots.size)])) := (c1.trans (st2 _ (Steps.refl _))).trans (by
    refine X2.alen hexec hx2.2.2.2.1 rfl rfl (hb hbytes d4) ?_
    refine XS.aloadN X2.here hexec rfl (hb hbytes d5) rfl rfl ?_
    exact Steps.refl _)
  obtain ⟨v4, T4, X4, E4, g4⟩ := X2.callV hexec (Cdr.law l x cd z) hown (wks W (virtW "java/lang/String" 335 "java/lang/String" Cdr.yN Cdr.yN)) rfl (by decide) (wk W Cdr.tab) (W := 1) (Nat.le_of_ble_eq_true rfl) (Nat.le_of_ble_eq_true rfl) (Nat.le_refl _) (Nat.le_refl _) (hx2.1.fc X2.warmed.alike) hx2.1.is (g := (mkF m 6 #[.val (.ref x)] [.ref x, .int (Int32.ofNat V.slots.size)])) rfl (by rw [hml]; rfl) c3 (argsL := []) (rest := [.int (Int32.ofNat V.slots.size)]) rfl rfl (by show 2 * 0 + (1 + 0) ≤ _; decide) (hb hbytes d6) (⟨rfl, hx2.2.2.1, hx.2.2.2.2.1.cd, s1.there X2.warmed.alike hh2, hz⟩)
  obtain ⟨rfl, q4⟩ := E4
  have c5 : Steps p.tables e below (s₁.setTop (entryFrame m #[.ref x] 1)) (T4.setTop (mkF m 10 #[.val (.ref x)] [.int (Int32.ofNat V.slots.size >>> (cd &&& 31))])) := Steps.trans g4 (by
    refine ishr X4.here hexec rfl (hb hbytes d9) rfl ?_
    exact Steps.refl _)
  rw [hx.2.2.2.2.1.len v31] at c5
  exact ⟨T4, some (.int (Int32.ofNat n)), _, _, _, X4, rfl, rfl, rfl, (fun h => by cases h), ⟨rfl, q4.trans hh2⟩, fun fs hl => c5.trans (X4.ireturnOut hexec hret rfl (Or.inl rfl) (hb hbytes d10) hl)⟩
theorem pays {l : Launch} {R : Room} {p : Program} {e : Env} {below : List Frame} {s : State} {sargs : Array Value} {len W : Nat} (x t : Addr) (V : Cell) (cd : Int32) (n : Nat) (f : Nat → Int32) (z : Int32) (htab : tab.before sargs s = true) (hfr : 2 ≤ R.frames) (hlo : W + 25 ≤ R.locals) :
    Back l R p e below s sargs yN len W (fun A₁ a₁ => A₁.cells + 0 ≤ R.cells ∧ A₁.slots + 0 ≤ R.slots ∧ P x t V cd n f z a₁ A₁.U) (fun A₁ _ v₁ B₁ => E n v₁ A₁.U B₁.U ∧ B₁.locs = A₁.locs ++ [] ∧ B₁.cells = A₁.cells + 0 ∧ B₁.slots = A₁.slots + 0) :=
  (law l x t V cd n f z).pays htab hfr (by omega)
end Len
end StrChars
namespace StrChars.Road
open Jvm Sem ClassFile Op Lib Jvm.Stand Jvm.Free Jvm.Free.XT
open Jvm.Lib.Cold (StaticIs)
theorem consq {a : Array Value} {s : State} {c : Jvm.Cond} {L : List Jvm.Cond} (h0 : c.before a s = true) (h : ∀ w ∈ L, w.before a s = true) : ∀ w ∈ c :: L, w.before a s = true := fun w hw => (List.mem_cons.mp hw).elim (fun e => e ▸ h0) (h w)
/-- the words of String.length(), either coding -/
abbrev wordsLen : List Jvm.Cond := [.code Len.yN Len.yB 1 (some .int), .initialized ST, .fieldLink ST 9 ST "value" "[B", .fieldLink ST 38 ST "COMPACT_STRINGS" "Z", .fieldLink ST 15 ST "coder" "B", .code Cdr.yN Cdr.yB 1 (some .byte), .methodLink ST 335 Cdr.yN, .declares Cdr.yN, .selects ST Cdr.yN Cdr.yN, .instanceMethod Cdr.yN]
theorem tabLen_of {a : Array Value} {s : State} (h : ∀ w ∈ wordsLen, w.before a s = true) : Len.tab.before a s = true := by
  have hc : Cdr.tab.before a s = true := unparts (wk h (.code Cdr.yN Cdr.yB 1 (some .byte))) (wks h (.initialized Cdr.yN.cls :: Cdr.site))
  have q := consq hc h
  exact unparts (wk q (.code Len.yN Len.yB 1 (some .int))) (wks q (.initialized Len.yN.cls :: Len.site))
theorem movedLen {Z s : State} {a0 args : Array Value} (hZ : Z.Warmed39 s.vm) (hw : ∀ d ∈ wordsLen, d.before a0 Z = true) : ∀ d ∈ wordsLen, d.before args s = true := fun d hd => by
  have q := hw d hd
  have t : ∀ d ∈ wordsLen, d = .arrayClass .byte ∨ (d.onTables && d.keepsFace) = true := by decide +kernel
  rcases t d hd with rfl | t
  · exact RoadKit.mvA hZ q
  · exact RoadKit.mv hZ q t
/-- the bytes of the chars cs, low before high -/
def wideBytes : List Int32 → List Value
  | [] => []
  | c :: cs => .int (lo8 c) :: .int (hi8 c) :: wideBytes cs
theorem wide_lo (d : Value) : ∀ (cs : List Int32) (j : Nat), j < cs.length → (wideBytes cs).getD (2 * j) d = .int (lo8 (cs.getD j 0))
  | [], j, h => absurd h (Nat.not_lt_zero j)
  | c :: cs, 0, _ => rfl
  | c :: cs, j + 1, h => by
    have q := wide_lo d cs j (by simpa using h)
    rw [show 2 * (j + 1) = 2 * j + 1 + 1 from by omega]
    simpa [wideBytes] using q
theorem wide_hi (d : Value) : ∀ (cs : List Int32) (j : Nat), j < cs.length → (wideBytes cs).getD (2 * j + 1) d = .int (hi8 (cs.getD j 0))
  | [], j, h => absurd h (Nat.not_lt_zero j)
  | c :: cs, 0, _ => rfl
  | c :: cs, j + 1, h => by
    have q := wide_hi d cs j (by simpa using h)
    rw [show 2 * (j + 1) + 1 = 2 * j + 1 + 1 + 1 from by omega]
    simpa [wideBytes] using q
theorem low_at (d : Value) (cs : List Int32) (j : Nat) (h : j < cs.length) : (cs.map fun c => Value.int (lo8 c)).getD j d = .int (lo8 (cs.getD j 0)) := by
  simp [List.getD_eq_getElem?_getD, h]
/-- an array of N2 bytes vs codes the chars cs by the coder cd -/
def CodA (cs : List Int32) (cd N2 : Int32) (vs : List Value) : Prop := (cd = 0 ∧ N2 = Int32.ofNat cs.length ∧ vs = (cs.map fun c => Value.int (lo8 c)) ∧ ∀ c ∈ cs, ¬ 255 < c) ∨ (cd = 1 ∧ N2 = Int32.ofNat (2 * cs.length) ∧ vs = wideBytes cs ∧ ∃ c ∈ cs, 255 < c)
theorem CodA.cod {cs : List Int32} {cd N2 : Int32} {vs : List Value} {V : Cell} (h : CodA cs cd N2 vs) (hn : 2 * cs.length < 2 ^ 31) (hs : V.slots.size = N2.toNatClampNeg) (hv : RoadKit.Has V vs (.int 0)) : Cod cd cs.length (fun j => cs.getD j 0) V := by
  rcases h with ⟨rfl, rfl, rfl, h⟩ | ⟨rfl, rfl, rfl, c, hc, hw⟩
  · rw [n32 (by omega)] at hs
    exact Or.inl ⟨rfl, hs, fun j hj => ⟨by rw [hv j (by omega), low_at _ _ _ hj], by
      have e : cs.getD j 0 = cs[j] := by simp [List.getD_eq_getElem?_getD, hj]
      show ¬ 255 < cs.getD j 0
      rw [e]; exact h _ (List.getElem_mem _)⟩⟩
  · rw [n32 (by omega)] at hs
    obtain ⟨j, hj, rfl⟩ := List.getElem_of_mem hc
    exact Or.inr ⟨rfl, hs, fun j hj => ⟨by rw [hv _ (by omega), wide_lo _ _ _ hj], by rw [hv _ (by omega), wide_hi _ _ _ hj]⟩, j, hj, by
      have e : cs.getD j 0 = cs[j] := by simp [List.getD_eq_getElem?_getD, hj]
      show 255 < cs.getD j 0
      rw [e]; exact hw⟩
/-- an object of exactly java/lang/String, its two fields found: as the laws ask it -/
theorem strObj {Z U : State} {a0 : Array Value} {kI : Nat} (wi : (Jvm.Cond.instantiable ST kI).before a0 Z = true) (al : Z.vm.Alike U.vm) {x : Addr} {v0 c0 : Value} (E : RoadKit.Exa Z U.heap x ST) (V : RoadKit.Fld Z U.heap x ST "value" "[B" v0) (C : RoadKit.Fld Z U.heap x ST "coder" "B" c0) :
    ∃ (D : Cell) (fV fC : Field), Blank ST x D U ∧ Found ST "value" "[B" fV U ∧ Found ST "coder" "B" fC U ∧ D.slots[fV.slot]? = some v0 ∧ D.slots[fC.slot]? = some c0 ∧ RoadKit.slotOf Z ST "value" "[B" = fV.slot ∧ RoadKit.slotOf Z ST "coder" "B" = fC.slot := by
  obtain ⟨D, cfV, kV, iV, fV, hD, gV, stV, knV, obV, asV, slV⟩ := V
  obtain ⟨D', cfC, kC, iC, fC, hD', gC, stC, -, -, asC, slC⟩ := C
  cases hD.symm.trans hD'
  obtain ⟨D2, kD, e1, e2, e3, e4, e5⟩ := E
  cases hD.symm.trans e1
  obtain ⟨c2, k2, i1, i2, i3, -⟩ := Cond.instantiable_spec wi
  cases e2.symm.trans i1
  cases e3.symm.trans i2
  obtain ⟨kU, u1, u2⟩ := al.2.2 _ _ e3
  exact ⟨D, fV, fC, ⟨hD, ⟨knV, fun q hq => by rw [hq] at obV; cases obV⟩, by rw [al.findClass]; exact e2, kU, u1, by rw [u2]; exact i3, by rw [u2]; exact e5 i3⟩, ⟨SBG.found_only al ⟨cfV, kV, iV, gV⟩, stV⟩, ⟨SBG.found_only al ⟨cfC, kC, iC, gC⟩, stC⟩, slV, slC, by simp [RoadKit.slotOf, gV], by simp [RoadKit.slotOf, gC]⟩
theorem sta_is {Z U : State} (al : Z.vm.Alike U.vm) {C n d : String} {v : Value} (S : RoadKit.Sta Z U.heap C n d v) : StaticIs U C n d v := by
  obtain ⟨cfS, iS, kS, fS, st, cS, t1, t2, t3, t4, t5, t6, t7⟩ := S
  exact StaticIs.there (s := { Z with heap := U.heap }) ⟨cfS, iS, kS, fS, st, cS, t1, t2, t3, t4, t5, (fun q => by rw [q] at t6; cases t6), t7⟩ al rfl
/-- **length() OF SUCH A STRING** -/
theorem lenW {p : Program} {l : Launch} {e : Env} {R : Room} {s : State} {args : Array Value} {below : List Frame} {len W : Nat} {Z : State} {a0 : Array Value} {h : Heap} (hZ : Z.Warmed39 s.vm) (hw : ∀ d ∈ wordsLen, d.before a0 Z = true) {kI : Nat} (wi : (Jvm.Cond.instantiable ST kI).before a0 Z = true)
    {x t : Addr} {kb : ClassId} {cs : List Int32} {cd N2 z : Int32} {vs : List Value} (E : RoadKit.Exa Z h x ST) (V : RoadKit.Fld Z h x ST "value" "[B" (.ref t)) (C : RoadKit.Fld Z h x ST "coder" "B" (.int cd)) (K : RoadKit.Arv Z h t kb .byte N2 vs (.int 0)) (hc : CodA cs cd N2 vs) (hb : ∀ c ∈ cs, ¬ c < 0 ∧ ¬ (65535 : Int32) < c)
    (S : RoadKit.Sta Z h ST "COMPACT_STRINGS" "Z" (.int z)) (hz : ¬ z = 0) (l2 : cs.length ≤ 4000) (hfr : 2 ≤ R.frames) (hlo : W + 25 ≤ R.locals) :
    Back l R p e below s args (⟨"java/lang/String", "length", "()I"⟩ : MethodName) len W (fun P a => a = #[.ref x] ∧ P.U.heap = h ∧ P.cells + 0 ≤ R.cells ∧ P.slots + 0 ≤ R.slots)
      (fun P _ v B => ∃ L, (v = some (.int (Int32.ofNat cs.length)) ∧ L = [] ∧ B.U.heap = h) ∧ B.locs = P.locs ++ L ∧ B.cells = P.cells + 0 ∧ B.slots = P.slots + 0) := by
  obtain ⟨A, K1, K2, K3, K4, K5, K6⟩ := K
  have hcod := hc.cod (by omega) K3 K5
  intro m meth c P g ig mk a X hg hsize hdg hW hn hp'
  obtain ⟨rfl, rfl, r1, r2⟩ := hp'
  have al : Z.vm.Alike P.U.vm := hZ.alike.trans X.warmed.alike
  obtain ⟨D, fV, fC, hB, F1, F2, g1, g2, -, -⟩ := strObj wi al E V C
  have hx : Txt x t A cd cs.length (fun j => cs.getD j 0) P.U := ⟨⟨_, hB.2.2.1, D, hB.1, rfl, by cases q : D.vm <;> first | rfl | exact absurd q (hB.2.1.2 _)⟩, Has.of hB F1 g1, Has.of hB F2 g2, ⟨K1.1, State.isArrayOf_alike al K1.2.1, K1.2.2, by rcases hcod with ⟨-, q, -⟩ | ⟨-, q, -⟩ <;> omega⟩, hcod, fun j hj => by
    have e : cs.getD j 0 = cs[j] := by simp [List.getD_eq_getElem?_getD, hj]
    show ¬ cs.getD j 0 < 0 ∧ ¬ 65535 < cs.getD j 0
    rw [e]; exact hb _ (List.getElem_mem _)⟩
  obtain ⟨v, B, X', ⟨⟨hv, hh⟩, hl, hk, hs⟩, st⟩ := Len.pays x t A cd cs.length (fun j => cs.getD j 0) z (tabLen_of (movedLen hZ hw)) hfr hlo m meth c P g ig mk _ X hg hsize hdg hW hn ⟨r1, r2, rfl, hx, sta_is al S, hz⟩
  exact ⟨v, B, X', ⟨[], ⟨hv, rfl, hh⟩, hl, hk, hs⟩, st⟩
end StrChars.Road
namespace StrChars.Road
open Jvm Sem ClassFile Op Lib Jvm.Stand Jvm.Free Jvm.Free.XT
open Jvm.Lib.Cold (StaticIs)
/-- what backV says of its String, as the contracts of this text ask it: cs's low bytes, coder 0 -/
theorem codOf {cs : List Int32} {n : Nat} (hn : cs.length = n) (hb : ∀ c ∈ cs, ¬ 255 < c) : CodA cs 0 (Int32.ofNat n) ((cs.map lo8).map Value.int) := Or.inl ⟨rfl, by rw [hn], by simp [List.map_map, Function.comp_def], hb⟩
end StrChars.Road
end Jvm.Pilot.@@N@@

namespace Jvm.Pilot.@@N@@
namespace OK
open Jvm Jvm.ClassFile Sem Op Lib Bundle Jvm.Stand Jvm.Free Jvm.LawKit Jvm.RoadKit
/-! own layer: one predicate for "the walk stands here" (Wk), one for the goal (Go), one for contracts (Ct narrow, Cw wide) -/
def Go (p : Program) (e : Env) (below : List Frame) (Fin : State → Outcome → Prop) (U : State) : Prop := ∃ t o, Steps p.tables e below U t ∧ t.status = .running ∧ Ended t below o ∧ Fin t o
theorem Go.by {p : Program} {e : Env} {below : List Frame} {Fin : State → Outcome → Prop} {U U' : State} (st : ∀ t, Steps p.tables e below U' t → Steps p.tables e below U t) (k : Go p e below Fin U') : Go p e below Fin U := by
  obtain ⟨t, o, h1, h2⟩ := k
  exact ⟨t, o, st _ h1, h2⟩
theorem Go.tr {p : Program} {e : Env} {below : List Frame} {Fin : State → Outcome → Prop} {U U' : State} (st : Steps p.tables e below U U') (k : Go p e below Fin U') : Go p e below Fin U := by
  obtain ⟨t, o, h1, h2⟩ := k
  exact ⟨t, o, st.trans h1, h2⟩
def Cst (p : Program) (meth : Method) (c : Code) (y : MethodName) (bytes : ByteArray) (maxL : Nat) (ret : Option FieldType) : Prop := p.tables.exec = Jvm.exec ∧ c.code = bytes ∧ c.maxLocals = maxL ∧ meth.name = y.name ∧ meth.sig.returnType = ret ∧ meth.locks = false
def Sfs (Z : State) (EL : List (String × Nat)) (n0 : Nat) (vm : Vm) (h : Heap) (sf : List Addr) : Prop := ∀ x ∈ sf, n0 ≤ x ∧ x < h.size ∧ Safe Z EL vm h x
theorem Sfs.go {Z : State} {EL : List (String × Nat)} {n0 : Nat} {vm vm1 : Vm} {h h' : Heap} {sf : List Addr} (S : Sfs Z EL n0 vm h sf) (D : CHr Z EL vm h vm1 h') : Sfs Z EL n0 vm1 h' sf := fun x hx =>
  ⟨(S x hx).1, Nat.lt_of_lt_of_le (S x hx).2.1 D.2.1, D.safe (S x hx).2.1 (S x hx).2.2⟩
def Ende (b : Bool) (s : State) (o : Outcome) (t : State) (L : List Loc) (k n : Nat) : Prop := match b with | true => ReturnedEndW s o t L k n | false => FrameEnd s o t L k n
def Wk (b : Bool) (p : Program) (l : Launch) (e : Env) (R : Room) (s : State) (m : MethodId) (args : Array Value) (below : List Frame) (meth : Method) (c : Code) (Z : State) (EL : List (String × Nat)) (y : MethodName) (bytes : ByteArray) (maxL : Nat) (ret : Option FieldType) (n0 : Nat) (h0 : Heap) (T : State) (h : Heap) (sf : List Addr) (cells slots : Nat) : Prop :=
  ∃ (vm0 : Vm) (k0 : Nat) (locs : List Loc) (a0 : Array Value), Stand p l e R (s.setVm vm0) m args below meth c T locs cells slots ∧ T.heap = h ∧ (b = false → vm0 = s.vm) ∧ s.Since vm0 k0 ∧ k0 ≤ h.size ∧ Z.Warmed39 vm0 ∧ vm0.findClass y.cls = some m.cls ∧ Fr n0 locs ∧ CHr Z EL s.vm h0 vm0 h ∧ Sfs Z EL n0 vm0 h sf ∧ EW Z a0 EL ∧ Old Z n0 h ∧ Cst p meth c y bytes maxL ret
def Fi (b : Bool) (R : Room) (s : State) (Z : State) (EL : List (String × Nat)) (n0 : Nat) (h0 : Heap) (ws : List Addr) (Q : Option Value → Heap → Prop) (t : State) (o : Outcome) : Prop :=
  ∃ v L, o = .returned v ∧ Keep h0 t.heap ws ∧ Q v t.heap ∧ Fr n0 L ∧ CHr Z EL s.vm h0 t.vm t.heap ∧ Ende b s o t L R.cells R.slots
section Walk
variable {b : Bool} {p : Program} {l : Launch} {e : Env} {R : Room} {s : State} {m : MethodId} {args : Array Value} {below : List Frame} {meth : Method} {c : Code} {Z : State} {EL : List (String × Nat)} {y : MethodName} {bytes : ByteArray} {maxL : Nat} {ret : Option FieldType} {n0 : Nat} {h0 : Heap} {T : State} {h h' : Heap} {sf ws : List Addr} {cells slots : Nat} {a0 : Array Value} {Q : Option Value → Heap → Prop}
theorem Wk.here (X : Wk b p l e R s m args below meth c Z EL y bytes maxL ret n0 h0 T h sf cells slots) : At T m c below := by obtain ⟨_, _, _, _, X, -⟩ := X; exact X.here
theorem Wk.cst (X : Wk b p l e R s m args below meth c Z EL y bytes maxL ret n0 h0 T h sf cells slots) : Cst p meth c y bytes maxL ret := by obtain ⟨_, _, _, _, _, _, _, _, _, _, _, _, _, _, _, _, C⟩ := X; exact C
theorem Wk.hx (X : Wk b p l e R s m args below meth c Z EL y bytes maxL ret n0 h0 T h sf cells slots) : p.tables.exec = Jvm.exec := X.cst.1
theorem Wk.cd (X : Wk b p l e R s m args below meth c Z EL y bytes maxL ret n0 h0 T h sf cells slots) {pc : Nat} {r : Except DecodeError (Instr × Nat)} (d : decode bytes pc = r) : decode c.code pc = r := by rw [X.cst.2.1]; exact d
theorem Wk.eh (X : Wk b p l e R s m args below meth c Z EL y bytes maxL ret n0 h0 T h sf cells slots) : T.heap = h := by obtain ⟨_, _, _, _, _, q, -⟩ := X; exact q
theorem Wk.old (X : Wk b p l e R s m args below meth c Z EL y bytes maxL ret n0 h0 T h sf cells slots) : Old Z n0 h := by obtain ⟨_, _, _, _, _, _, _, _, _, _, _, _, _, _, _, O, -⟩ := X; exact O
theorem Wk.nle (X : Wk b p l e R s m args below meth c Z EL y bytes maxL ret n0 h0 T h sf cells slots) : n0 ≤ h.size := by have := X.old; rw [← this.1]; exact this.2.1
theorem Wk.sz (X : Wk b p l e R s m args below meth c Z EL y bytes maxL ret n0 h0 T h sf cells slots) : h0.size ≤ h.size := by obtain ⟨_, _, _, _, _, _, _, _, _, _, _, _, A, -⟩ := X; exact A.2.1
theorem Wk.ge (X : Wk b p l e R s m args below meth c Z EL y bytes maxL ret n0 h0 T h sf cells slots) {x : Addr} (hx : x ∈ sf) : n0 ≤ x := by obtain ⟨_, _, _, _, _, _, _, _, _, _, _, _, _, S, -⟩ := X; exact (S x hx).1
theorem Wk.lt (X : Wk b p l e R s m args below meth c Z EL y bytes maxL ret n0 h0 T h sf cells slots) {x : Addr} (hx : x ∈ sf) : x < h.size := by obtain ⟨_, _, _, _, _, _, _, _, _, _, _, _, _, S, -⟩ := X; exact (S x hx).2.1
theorem Wk.sub (X : Wk b p l e R s m args below meth c Z EL y bytes maxL ret n0 h0 T h sf cells slots) {sf' : List Addr} (q : ∀ x ∈ sf', x ∈ sf) : Wk b p l e R s m args below meth c Z EL y bytes maxL ret n0 h0 T h sf' cells slots := by
  obtain ⟨vm0, k0, locs, a0, x1, x2, x3, x4, x5, x6, x7, x8, x9, x10, x11⟩ := X
  exact ⟨vm0, k0, locs, a0, x1, x2, x3, x4, x5, x6, x7, x8, x9, fun z hz => x10 z (q z hz), x11⟩
/-- the core: from the parts at (vm0, h) to the parts at (vm1, h') -/
theorem Wk.up {vm0 vm1 : Vm} {k1 cells' slots' : Nat} {locs' : List Loc} {T' : State} (X' : Stand p l e R (s.setVm vm1) m args below meth c T' locs' cells' slots') (e' : T'.heap = h') (hb : b = false → vm1 = s.vm) (hS : s.Since vm1 k1) (hk : k1 ≤ h'.size) (hZ : Z.Warmed39 vm1) (ho : vm1.findClass y.cls = some m.cls) (N : Fr n0 locs')
    (A : CHr Z EL s.vm h0 vm0 h) (D : CHr Z EL vm0 h vm1 h') (S : Sfs Z EL n0 vm0 h sf) (hE : EW Z a0 EL) (O : Old Z n0 h') (C : Cst p meth c y bytes maxL ret) : Wk b p l e R s m args below meth c Z EL y bytes maxL ret n0 h0 T' h' sf cells' slots' :=
  ⟨vm1, k1, locs', a0, X', e', hb, hS, hk, hZ, ho, N, A.trans D, S.go D, hE, O, C⟩
theorem Sfs.new {vm0 : Vm} {a : Addr} (S : Sfs Z EL n0 vm0 h sf) (H : CHv Z EL vm0 h) (E : Ext h h') (hn : n0 ≤ h.size) (ha : a = h.size) (hl : a < h'.size) : Sfs Z EL n0 vm0 h' (a :: sf) := fun z hz => by
  subst ha
  rcases List.mem_cons.mp hz with rfl | hz
  · exact ⟨hn, hl, Safe.ext E H (Safe.new (Nat.le_refl _))⟩
  · exact (S.go (CHr.ext E H)) z hz
/-! ### the end -/
theorem Wk.fin (X : Wk b p l e R s m args below meth c Z EL y bytes maxL ret n0 h0 T h sf cells slots) {v : Option Value} (hv : ret = none → v = none) (K : Keep h0 h ws) (q : Q v h) (hc : cells ≤ R.cells) (hs : slots ≤ R.slots) {U : State}
    (st : ∀ fs, (∀ (f : JFrame) (acts : List Action), f.method = m → f.locked = none → f.entered = [] → (doReturn e (T.setTop f) acts v).1 = T.setFrames fs) → Steps p.tables e below U (T.setFrames fs)) : Go p e below (Fi b R s Z EL n0 h0 ws Q) U := by
  obtain ⟨vm0, k0, locs, a0, x1, rfl, x3, x4, x5, x6, x7, x8, x9, x10, x11, x12, C⟩ := X
  obtain ⟨c1, c2, c3, c4, c5, c6⟩ := C
  have A := x9.trans (CHv.at x1 x6 x11 x9.1)
  cases b with
  | true =>
    obtain ⟨fs, r1, r2, r3, r4⟩ := x1.leaveW x4 x5 (v := v) (fun q => hv (c5.symm.trans q)) c6
    exact ⟨_, _, st fs r1, r2, r3, v, locs, rfl, K, q, x8, A, r4.1, r4.2.1, r4.2.2.1, r4.2.2.2.mono hc hs⟩
  | false =>
    obtain rfl := x3 rfl
    obtain ⟨fs, r1, r2, r3, r4, r5⟩ := x1.leave (v := v) (fun q => hv (c5.symm.trans q)) c6
    exact ⟨_, _, st fs r1, r2, r3, v, locs, rfl, K, q, x8, A, ⟨_, rfl⟩, r4, r5.mono hc hs⟩
theorem Wk.retV (X : Wk b p l e R s m args below meth c Z EL y bytes maxL none n0 h0 T h sf cells slots) {pc : Nat} {Ls : Array Slot} (d : decode bytes pc = .ok (.return_, 1)) (K : Keep h0 h ws) (q : Q none h) (hc : cells ≤ R.cells) (hs : slots ≤ R.slots) :
    Go p e below (Fi b R s Z EL n0 h0 ws Q) (T.setTop (mkF m pc Ls [])) := by
  refine X.fin (v := none) (fun _ => rfl) K q hc hs fun fs hr => ?_
  have d := X.cd d
  obtain ⟨vm0, k0, locs, a0, x1, rfl, x3, x4, x5, x6, x7, x8, x9, x10, x11, x12, c1, c2, c3, c4, c5, c6⟩ := X
  exact x1.returnOut c1 c5 d hr
theorem Wk.retO (X : Wk b p l e R s m args below meth c Z EL y bytes maxL ret n0 h0 T h sf cells slots) {pc : Nat} {Ls : Array Slot} {w : Value} {t : FieldType} {i : Instr} {rest : List Value} (ht : ret = some t) (hn : narrow t w = w)
    (hi : (i = .ireturn ∧ (t = .int ∨ t = .boolean ∨ t = .byte ∨ t = .char ∨ t = .short) ∧ ∃ z, w = .int z) ∨ (i = .lreturn ∧ t = .long ∧ ∃ z, w = .long z) ∨ (i = .dreturn ∧ t = .double ∧ ∃ z, w = .double z) ∨ (i = .freturn ∧ t = .float ∧ ∃ z, w = .float z) ∨ (i = .areturn ∧ t.isReference = true ∧ w.isRef = true))
    (d : decode bytes pc = .ok (i, 1)) (K : Keep h0 h ws) (q : Q (some w) h) (hc : cells ≤ R.cells) (hs : slots ≤ R.slots) :
    Go p e below (Fi b R s Z EL n0 h0 ws Q) (T.setTop (mkF m pc Ls (w :: rest))) := by
  refine X.fin (v := some w) (fun z => by rw [ht] at z; cases z) K q hc hs fun fs hr => ?_
  have d := X.cd d
  obtain ⟨vm0, k0, locs, a0, x1, rfl, x3, x4, x5, x6, x7, x8, x9, x10, x11, x12, c1, c2, c3, c4, c5, c6⟩ := X
  exact retOut x1 c1 (c5.trans ht) hn hi d hr
theorem Wk.retI (X : Wk b p l e R s m args below meth c Z EL y bytes maxL (some .int) n0 h0 T h sf cells slots) {pc : Nat} {Ls : Array Slot} {z : Int32} {rest : List Value} (d : decode bytes pc = .ok (.ireturn, 1)) (K : Keep h0 h ws) (q : Q (some (.int z)) h) (hc : cells ≤ R.cells) (hs : slots ≤ R.slots) :
    Go p e below (Fi b R s Z EL n0 h0 ws Q) (T.setTop (mkF m pc Ls (.int z :: rest))) := X.retO rfl rfl (Or.inl ⟨rfl, Or.inl rfl, z, rfl⟩) d K q hc hs
theorem Wk.retJ (X : Wk b p l e R s m args below meth c Z EL y bytes maxL (some .long) n0 h0 T h sf cells slots) {pc : Nat} {Ls : Array Slot} {z : Int64} {rest : List Value} (d : decode bytes pc = .ok (.lreturn, 1)) (K : Keep h0 h ws) (q : Q (some (.long z)) h) (hc : cells ≤ R.cells) (hs : slots ≤ R.slots) :
    Go p e below (Fi b R s Z EL n0 h0 ws Q) (T.setTop (mkF m pc Ls (.long z :: rest))) := X.retO rfl rfl (Or.inr (Or.inl ⟨rfl, rfl, z, rfl⟩)) d K q hc hs
/-- boolean, byte, char, short: the value fits already -/
theorem Wk.retN {t : FieldType} (X : Wk b p l e R s m args below meth c Z EL y bytes maxL (some t) n0 h0 T h sf cells slots) {pc : Nat} {Ls : Array Slot} {z : Int32} {rest : List Value} (ht : t = .boolean ∨ t = .byte ∨ t = .char ∨ t = .short) (hz : nar t z = z) (d : decode bytes pc = .ok (.ireturn, 1)) (K : Keep h0 h ws) (q : Q (some (.int z)) h) (hc : cells ≤ R.cells) (hs : slots ≤ R.slots) :
    Go p e below (Fi b R s Z EL n0 h0 ws Q) (T.setTop (mkF m pc Ls (.int z :: rest))) := by
  have hn : narrow t (.int z) = .int z := by
    have : narrow t (.int z) = .int (nar t z) := by rcases ht with rfl | rfl | rfl | rfl <;> rfl
    rw [this, hz]
  exact X.retO rfl hn (Or.inl ⟨rfl, Or.inr ht, z, rfl⟩) d K q hc hs
theorem Wk.retR {t : FieldType} (X : Wk b p l e R s m args below meth c Z EL y bytes maxL (some t) n0 h0 T h sf cells slots) {pc : Nat} {Ls : Array Slot} {w : Value} {rest : List Value} (ht : t.isReference = true) (hw : w.isRef = true) (d : decode bytes pc = .ok (.areturn, 1)) (K : Keep h0 h ws) (q : Q (some w) h) (hc : cells ≤ R.cells) (hs : slots ≤ R.slots) :
    Go p e below (Fi b R s Z EL n0 h0 ws Q) (T.setTop (mkF m pc Ls (w :: rest))) := by
  have hn : narrow t w = w := by cases w <;> simp [Value.isRef] at hw <;> cases t <;> rfl
  exact X.retO rfl hn (Or.inr (Or.inr (Or.inr (Or.inr ⟨rfl, ht, hw⟩)))) d K q hc hs
/-! ### steps on the heap -/
theorem Wk.new (X : Wk b p l e R s m args below meth c Z EL y bytes maxL ret n0 h0 T h sf cells slots) {a1 : Array Value} {C : String} {index n : Nat} (w : (Cond.classLink y.cls index C).before a1 Z = true) (wi : (Cond.instantiable C n).before a1 Z = true) (wz : (Cond.initialized C).before a1 Z = true) {g : JFrame} (hg : g.method = m) (hd : decode bytes g.pc = .ok (.new index, 3)) (hc : cells + 1 ≤ R.cells) (hl : slots + n ≤ R.slots) :
    ∃ (T' : State) (h' : Heap) (a : Addr), a = h.size ∧ Wk b p l e R s m args below meth c Z EL y bytes maxL ret n0 h0 T' h' (a :: sf) (cells + 1) (slots + n) ∧ Ext h h' ∧ Exa Z h' a C ∧ (∀ {O nm d : String} {ty : FieldType}, Laid Z a1 C O nm d → parseFieldDescriptor d = some ty → Fld Z h' a O nm d (defaultValue ty)) ∧
      ∀ t, Steps p.tables e below (T'.setTop { g with pc := g.pc + 3, stack := .ref a :: g.stack }) t → Steps p.tables e below (T.setTop g) t := by
  have hd := X.cd hd
  have hn := X.nle
  obtain ⟨vm0, k0, locs, a0, x1, rfl, x3, x4, x5, x6, x7, x8, x9, x10, x11, x12, C⟩ := X
  obtain ⟨T', h', X', e', E, F, D, -, st⟩ := newO x1 C.1 (s := s.setVm vm0) x6 x7 w wi wz rfl hg hd hc hl
  exact ⟨T', h', _, rfl, ⟨vm0, k0, locs, a0, X', e', x3, x4, Nat.le_trans x5 E.1, x6, x7, x8, x9.trans (CHr.ext E x9.1), x10.new x9.1 E hn rfl F.lt, x11, x12.ext E, C⟩, E, F, D, st⟩
theorem rep_get (d : Value) (n i : Nat) : (List.replicate n d).getD i d = ([] : List Value).getD i d := by
  simp only [List.getD_eq_getElem?_getD, List.getElem?_nil, Option.getD_none]
  rw [List.getElem?_replicate]
  split <;> rfl
theorem Wk.newP (X : Wk b p l e R s m args below meth c Z EL y bytes maxL ret n0 h0 T h sf cells slots) {a1 : Array Value} {aty : ArrayType} (w : (Cond.arrayClass (newarray.typeOf aty)).before a1 Z = true) {g : JFrame} (hg : g.method = m) (hd : decode bytes g.pc = .ok (.newarray aty, 2)) {n : Int32} {rest : List Value} (hs : g.stack = .int n :: rest)
    (hn : ¬ n < 0) {cap : Nat} (hcap : n.toNatClampNeg ≤ cap) (hb : cap * 8 ≤ 536870912) (hc : cells + 1 ≤ R.cells) (hl : slots + cap ≤ R.slots) {vs : List Value} (hv : List.replicate n.toNatClampNeg (defaultValue (newarray.typeOf aty)) = vs) :
    ∃ (T' : State) (h' : Heap) (a : Addr) (k : ClassId), a = h.size ∧ Wk b p l e R s m args below meth c Z EL y bytes maxL ret n0 h0 T' h' (a :: sf) (cells + 1) (slots + cap) ∧ Ext h h' ∧ Arv Z h' a k (newarray.typeOf aty) n vs (defaultValue (newarray.typeOf aty)) ∧
      ∀ t, Steps p.tables e below (T'.setTop { g with pc := g.pc + 2, stack := .ref a :: rest }) t → Steps p.tables e below (T.setTop g) t := by
  have hd := X.cd hd
  have hnl := X.nle
  obtain ⟨vm0, k0, locs, a0, x1, rfl, x3, x4, x5, x6, x7, x8, x9, x10, x11, x12, C⟩ := X
  obtain ⟨T', h', k, X', e', E, F, st⟩ := RoadKit.newP x1 C.1 (s := s.setVm vm0) x6 w rfl hg hd hs hn hcap hb hc hl
  have G := (Arv.new F hn).pad (vs' := vs) (fun i => by rw [← hv]; exact rep_get _ _ _)
  exact ⟨T', h', _, k, rfl, ⟨vm0, k0, locs, a0, X', e', x3, x4, Nat.le_trans x5 E.1, x6, x7, x8, x9.trans (CHr.ext E x9.1), x10.new x9.1 E hnl rfl F.lt, x11, x12.ext E, C⟩, E, G, st⟩
theorem Wk.newR (X : Wk b p l e R s m args below meth c Z EL y bytes maxL ret n0 h0 T h sf cells slots) {a1 : Array Value} {C : String} {index : Nat} (w : (Cond.classLink y.cls index C).before a1 Z = true) (w2 : (Cond.arrayOver (.object C)).before a1 Z = true) {g : JFrame} (hg : g.method = m) (hd : decode bytes g.pc = .ok (.anewarray index, 3)) {n : Int32} {rest : List Value} (hs : g.stack = .int n :: rest)
    (hn : ¬ n < 0) {cap : Nat} (hcap : n.toNatClampNeg ≤ cap) (hb : cap * 8 ≤ 536870912) (hc : cells + 1 ≤ R.cells) (hl : slots + cap ≤ R.slots) {vs : List Value} (hv : List.replicate n.toNatClampNeg Value.null = vs) {ad : String} (had : "[" ++ (FieldType.object C).toString = ad) :
    ∃ (T' : State) (h' : Heap) (a : Addr) (k : ClassId), a = h.size ∧ Wk b p l e R s m args below meth c Z EL y bytes maxL ret n0 h0 T' h' (a :: sf) (cells + 1) (slots + cap) ∧ Ext h h' ∧ Arv Z h' a k (.object C) n vs .null ∧ Exa Z h' a ad ∧ Ovr Z k C ∧
      ∀ t, Steps p.tables e below (T'.setTop { g with pc := g.pc + 3, stack := .ref a :: rest }) t → Steps p.tables e below (T.setTop g) t := by
  have hd := X.cd hd
  have hnl := X.nle
  obtain ⟨vm0, k0, locs, a0, x1, rfl, x3, x4, x5, x6, x7, x8, x9, x10, x11, x12, CC⟩ := X
  obtain ⟨T', h', k, X', e', E, F, F2, O, st⟩ := newRE x1 CC.1 (s := s.setVm vm0) x6 x7 w w2 rfl hg hd hs hn hcap hb hc hl had
  have G := (Arv.new F hn).pad (vs' := vs) (fun i => by rw [← hv]; exact rep_get _ _ _)
  exact ⟨T', h', _, k, rfl, ⟨vm0, k0, locs, a0, X', e', x3, x4, Nat.le_trans x5 E.1, x6, x7, x8, x9.trans (CHr.ext E x9.1), x10.new x9.1 E hnl rfl F.lt, x11, x12.ext E, CC⟩, E, G, F2, O, st⟩
theorem Wk.getF (X : Wk b p l e R s m args below meth c Z EL y bytes maxL ret n0 h0 T h sf cells slots) {a1 : Array Value} {R0 O n d host : String} {index : Nat} (w : (Cond.fieldLink y.cls index R0 n d).before a1 Z = true ∨ (Cond.fieldLinkNest y.cls index R0 n d host).before a1 Z = true) (via : Via Z R0 O n d) {a : Addr} {v : Value} (F : Fld Z h a O n d v)
    {g : JFrame} (hg : g.method = m) {rest : List Value} (hs : g.stack = .ref a :: rest) (hd : decode bytes g.pc = .ok (.getfield index, 3)) :
    ∃ T' : State, Wk b p l e R s m args below meth c Z EL y bytes maxL ret n0 h0 T' h sf cells slots ∧ ∀ t, Steps p.tables e below (T'.setTop { g with pc := g.pc + 3, stack := v :: rest }) t → Steps p.tables e below (T.setTop g) t := by
  have hd := X.cd hd
  obtain ⟨vm0, k0, locs, a0, x1, rfl, x3, x4, x5, x6, x7, x8, x9, x10, x11, x12, C⟩ := X
  obtain ⟨T', X', e', st⟩ := RoadKit.getF x1 C.1 (s := s.setVm vm0) x6 x7 w via rfl F hg hs hd
  exact ⟨T', ⟨vm0, k0, locs, a0, X', e', x3, x4, x5, x6, x7, x8, x9, x10, x11, x12, C⟩, st⟩
theorem Wk.getS (X : Wk b p l e R s m args below meth c Z EL y bytes maxL ret n0 h0 T h sf cells slots) {a1 : Array Value} {R0 O n d : String} {index : Nat} (w : (Cond.fieldLink y.cls index R0 n d).before a1 Z = true) (via : Via Z R0 O n d) {v : Value} (F : Sta Z Z.heap O n d v)
    {g : JFrame} (hg : g.method = m) (hd : decode bytes g.pc = .ok (.getstatic index, 3)) :
    ∃ T' : State, Wk b p l e R s m args below meth c Z EL y bytes maxL ret n0 h0 T' h sf cells slots ∧ ∀ t, Steps p.tables e below (T'.setTop { g with pc := g.pc + 3, stack := v :: g.stack }) t → Steps p.tables e below (T.setTop g) t := by
  have hd := X.cd hd
  obtain ⟨vm0, k0, locs, a0, x1, rfl, x3, x4, x5, x6, x7, x8, x9, x10, x11, x12, C⟩ := X
  obtain ⟨T', X', e', st⟩ := RoadKit.getS x1 C.1 (s := s.setVm vm0) (host := "") x6 x7 w via rfl (F.ext x12.2) hg hd
  exact ⟨T', ⟨vm0, k0, locs, a0, X', e', x3, x4, x5, x6, x7, x8, x9, x10, x11, x12, C⟩, st⟩
theorem Wk.wr {vm0 : Vm} {k0 : Nat} {locs : List Loc} {T' : State} {a : Addr} {sl sl' : Nat} {v : Value} (x1' : Stand p l e R (s.setVm vm0) m args below meth c T' (locs ++ [⟨a, sl'⟩]) cells slots) (e' : T'.heap = h') (W : Wr h h' a sl v) (x3 : b = false → vm0 = s.vm) (x4 : s.Since vm0 k0) (x5 : k0 ≤ h.size) (x6 : Z.Warmed39 vm0) (x7 : vm0.findClass y.cls = some m.cls) (x8 : Fr n0 locs) (x9 : CHr Z EL s.vm h0 vm0 h) (x10 : Sfs Z EL n0 vm0 h sf) (x11 : EW Z a0 EL) (x12 : Old Z n0 h) (C : Cst p meth c y bytes maxL ret) (hm : a ∈ sf) :
    Wk b p l e R s m args below meth c Z EL y bytes maxL ret n0 h0 T' h' sf cells slots := by
  have D : CHr Z EL vm0 h vm0 h' := CHr.wr W (x10 a hm).2.2 x9.1
  exact ⟨vm0, k0, _, a0, x1', e', x3, x4, by rw [W.size]; exact x5, x6, x7, x8.snoc x1' (x10 a hm).1, x9.trans D, x10.go D, x11, x12.wr W (x10 a hm).1, C⟩
theorem Wk.putF (X : Wk b p l e R s m args below meth c Z EL y bytes maxL ret n0 h0 T h sf cells slots) {a1 : Array Value} {R0 O n d host C : String} {index kk : Nat} {ty : FieldType} (w : (Cond.fieldLink y.cls index R0 n d).before a1 Z = true ∨ (Cond.fieldLinkNest y.cls index R0 n d host).before a1 Z = true) (via : Via Z R0 O n d) {a : Addr} {v old : Value} (F : Fld Z h a O n d old) (E : Exa Z h a C)
    (L : (Cond.lays C O n d).before a1 Z = true ∨ ((Cond.laysFinal C O n d).before a1 Z = true ∧ y.cls = O ∧ y.name = "<init>")) (wi : (Cond.instantiable C kk).before a1 Z = true) (hm : a ∈ sf)
    (hty : parseFieldDescriptor d = some ty) (hn : narrow ty v = v) (hf : fits ty v = true) {g : JFrame} (hg : g.method = m) {rest : List Value} (hs : g.stack = v :: .ref a :: rest) (hd : decode bytes g.pc = .ok (.putfield index, 3)) :
    ∃ (T' : State) (h' : Heap), Wk b p l e R s m args below meth c Z EL y bytes maxL ret n0 h0 T' h' sf cells slots ∧ Wr h h' a (RoadKit.slotOf Z O n d) v ∧ ∀ t, Steps p.tables e below (T'.setTop { g with pc := g.pc + 3, stack := rest }) t → Steps p.tables e below (T.setTop g) t := by
  have hd := X.cd hd
  obtain ⟨vm0, k0, locs, a0, x1, rfl, x3, x4, x5, x6, x7, x8, x9, x10, x11, x12, CC⟩ := X
  obtain ⟨T', h', X', e', W, st⟩ := RoadKit.putF x1 CC.1 (s := s.setVm vm0) x6 x7 w via rfl F E (L.imp id fun q => ⟨q.1, q.2.1, CC.2.2.2.1.trans q.2.2⟩) wi hty hn hf hg hs hd
  exact ⟨T', h', Wk.wr X' e' W x3 x4 x5 x6 x7 x8 x9 x10 x11 x12 CC hm, W, st⟩
theorem Wk.putFN (X : Wk b p l e R s m args below meth c Z EL y bytes maxL ret n0 h0 T h sf cells slots) {a1 : Array Value} {R0 O n d C : String} {index kk : Nat} {ty : FieldType} (w : (Cond.fieldLink y.cls index R0 n d).before a1 Z = true) (via : Via Z R0 O n d) {a : Addr} {v v' old : Value} (F : Fld Z h a O n d old) (E : Exa Z h a C)
    (L : (Cond.lays C O n d).before a1 Z = true ∨ ((Cond.laysFinal C O n d).before a1 Z = true ∧ y.cls = O ∧ y.name = "<init>")) (wi : (Cond.instantiable C kk).before a1 Z = true) (hm : a ∈ sf)
    (hty : parseFieldDescriptor d = some ty) (hn : narrow ty v = v') (hf : fits ty v' = true) {g : JFrame} (hg : g.method = m) {rest : List Value} (hs : g.stack = v :: .ref a :: rest) (hd : decode bytes g.pc = .ok (.putfield index, 3)) :
    ∃ (T' : State) (h' : Heap), Wk b p l e R s m args below meth c Z EL y bytes maxL ret n0 h0 T' h' sf cells slots ∧ Wr h h' a (RoadKit.slotOf Z O n d) v' ∧ ∀ t, Steps p.tables e below (T'.setTop { g with pc := g.pc + 3, stack := rest }) t → Steps p.tables e below (T.setTop g) t := by
  have hd := X.cd hd
  obtain ⟨vm0, k0, locs, a0, x1, rfl, x3, x4, x5, x6, x7, x8, x9, x10, x11, x12, CC⟩ := X
  obtain ⟨T', h', X', e', W, st⟩ := RoadKit.putFN x1 CC.1 (s := s.setVm vm0) x6 x7 w via rfl F E (L.imp id fun q => ⟨q.1, q.2.1, CC.2.2.2.1.trans q.2.2⟩) wi hty hn hf hg hs hd
  exact ⟨T', h', Wk.wr X' e' W x3 x4 x5 x6 x7 x8 x9 x10 x11 x12 CC hm, W, st⟩
theorem Wk.stC (X : Wk b p l e R s m args below meth c Z EL y bytes maxL ret n0 h0 T h sf cells slots) {a : Addr} {k : ClassId} {n : Int32} {vs vs' : List Value} {dv : Value} (F : Arv Z h a k .char n vs dv) (hm : a ∈ sf) {j x x' : Int32} (hj : ¬ j < 0 ∧ j < n) {i : Nat} (hi : j.toNatClampNeg = i) (hl : i < vs.length) (hx : nar .char x = x') (hv : vs.set i (.int x') = vs')
    {g : JFrame} (hg : g.method = m) {rest : List Value} (hs : g.stack = .int x :: .int j :: .ref a :: rest) (hd : decode bytes g.pc = .ok (.castore, 1)) :
    ∃ (T' : State) (h' : Heap), Wk b p l e R s m args below meth c Z EL y bytes maxL ret n0 h0 T' h' sf cells slots ∧ Keep h h' [a] ∧ Arv Z h' a k .char n vs' dv ∧ ∀ t, Steps p.tables e below (T'.setTop { g with pc := g.pc + 1, stack := rest }) t → Steps p.tables e below (T.setTop g) t := by
  have hd := X.cd hd
  obtain ⟨vm0, k0, locs, a0, x1, rfl, x3, x4, x5, x6, x7, x8, x9, x10, x11, x12, CC⟩ := X
  obtain ⟨cl, A, q1, q2, q3, q4, q5⟩ := F
  obtain ⟨T', h', X', e', W, st⟩ := RoadKit.stC x1 CC.1 (s := s.setVm vm0) x6 rfl A (inb_of q2 hj) hg hs hd
  subst hx hv
  exact ⟨T', h', Wk.wr X' e' W x3 x4 x5 x6 x7 x8 x9 x10 x11 x12 CC hm, Keep.of_wr W, Arv.set A q1 q2 q3 q4 q5 (fits_nar_char x) W i hi hl, st⟩
theorem Wk.stB (X : Wk b p l e R s m args below meth c Z EL y bytes maxL ret n0 h0 T h sf cells slots) {a : Addr} {k : ClassId} {n : Int32} {vs vs' : List Value} {dv : Value} (F : Arv Z h a k .byte n vs dv) (hm : a ∈ sf) {j x x' : Int32} (hj : ¬ j < 0 ∧ j < n) {i : Nat} (hi : j.toNatClampNeg = i) (hl : i < vs.length) (hx : x.toInt8.toInt32 = x') (hv : vs.set i (.int x') = vs')
    {g : JFrame} (hg : g.method = m) {rest : List Value} (hs : g.stack = .int x :: .int j :: .ref a :: rest) (hd : decode bytes g.pc = .ok (.bastore, 1)) :
    ∃ (T' : State) (h' : Heap), Wk b p l e R s m args below meth c Z EL y bytes maxL ret n0 h0 T' h' sf cells slots ∧ Keep h h' [a] ∧ Arv Z h' a k .byte n vs' dv ∧ ∀ t, Steps p.tables e below (T'.setTop { g with pc := g.pc + 1, stack := rest }) t → Steps p.tables e below (T.setTop g) t := by
  have hd := X.cd hd
  obtain ⟨vm0, k0, locs, a0, x1, rfl, x3, x4, x5, x6, x7, x8, x9, x10, x11, x12, CC⟩ := X
  obtain ⟨cl, A, q1, q2, q3, q4, q5⟩ := F
  obtain ⟨T', h', X', e', W, st⟩ := RoadKit.stB x1 CC.1 (s := s.setVm vm0) x6 rfl A (inb_of q2 hj) hg hs hd
  subst hx hv
  exact ⟨T', h', Wk.wr X' e' W x3 x4 x5 x6 x7 x8 x9 x10 x11 x12 CC hm, Keep.of_wr W, Arv.set A q1 q2 q3 q4 q5 (fits_nar_byte x) W i hi hl, st⟩
theorem Wk.stI (X : Wk b p l e R s m args below meth c Z EL y bytes maxL ret n0 h0 T h sf cells slots) {a : Addr} {k : ClassId} {n : Int32} {vs vs' : List Value} {dv : Value} (F : Arv Z h a k .int n vs dv) (hm : a ∈ sf) {j x : Int32} (hj : ¬ j < 0 ∧ j < n) {i : Nat} (hi : j.toNatClampNeg = i) (hl : i < vs.length) (hv : vs.set i (.int x) = vs')
    {g : JFrame} (hg : g.method = m) {rest : List Value} (hs : g.stack = .int x :: .int j :: .ref a :: rest) (hd : decode bytes g.pc = .ok (.iastore, 1)) :
    ∃ (T' : State) (h' : Heap), Wk b p l e R s m args below meth c Z EL y bytes maxL ret n0 h0 T' h' sf cells slots ∧ Keep h h' [a] ∧ Arv Z h' a k .int n vs' dv ∧ ∀ t, Steps p.tables e below (T'.setTop { g with pc := g.pc + 1, stack := rest }) t → Steps p.tables e below (T.setTop g) t := by
  have hd := X.cd hd
  obtain ⟨vm0, k0, locs, a0, x1, rfl, x3, x4, x5, x6, x7, x8, x9, x10, x11, x12, CC⟩ := X
  obtain ⟨cl, A, q1, q2, q3, q4, q5⟩ := F
  obtain ⟨T', h', X', e', W, st⟩ := RoadKit.stI x1 CC.1 (s := s.setVm vm0) x6 rfl A (inb_of q2 hj) hg hs hd
  subst hv
  exact ⟨T', h', Wk.wr X' e' W x3 x4 x5 x6 x7 x8 x9 x10 x11 x12 CC hm, Keep.of_wr W, Arv.set A q1 q2 q3 q4 q5 rfl W i hi hl, st⟩
theorem Wk.stR (X : Wk b p l e R s m args below meth c Z EL y bytes maxL ret n0 h0 T h sf cells slots) {a : Addr} {k : ClassId} {n : Int32} {vs vs' : List Value} {dv : Value} {ty : FieldType} (F : Arv Z h a k ty n vs dv) (hm : a ∈ sf) {C : String} (O : Ovr Z k C) {r : Addr} (I : Ins Z h r C true) (hty : ty.isReference = true) (hfit : fits ty (.ref r) = true) {j : Int32} (hj : ¬ j < 0 ∧ j < n) {i : Nat} (hi : j.toNatClampNeg = i) (hl : i < vs.length) (hv : vs.set i (.ref r) = vs')
    {g : JFrame} (hg : g.method = m) {rest : List Value} (hs : g.stack = .ref r :: .int j :: .ref a :: rest) (hd : decode bytes g.pc = .ok (.aastore, 1)) :
    ∃ (T' : State) (h' : Heap), Wk b p l e R s m args below meth c Z EL y bytes maxL ret n0 h0 T' h' sf cells slots ∧ Keep h h' [a] ∧ Arv Z h' a k ty n vs' dv ∧ ∀ t, Steps p.tables e below (T'.setTop { g with pc := g.pc + 1, stack := rest }) t → Steps p.tables e below (T.setTop g) t := by
  have hd := X.cd hd
  obtain ⟨vm0, k0, locs, a0, x1, rfl, x3, x4, x5, x6, x7, x8, x9, x10, x11, x12, CC⟩ := X
  obtain ⟨cl, A, q1, q2, q3, q4, q5⟩ := F
  obtain ⟨T', h', X', e', W, st⟩ := RoadKit.stR x1 CC.1 (s := s.setVm vm0) x6 rfl A (inb_of q2 hj) hty (Sto.ofV A q1 O I) hg hs hd
  subst hv
  exact ⟨T', h', Wk.wr X' e' W x3 x4 x5 x6 x7 x8 x9 x10 x11 x12 CC hm, Keep.of_wr W, Arv.set A q1 q2 q3 q4 q5 hfit W i hi hl, st⟩
theorem Wk.len (X : Wk b p l e R s m args below meth c Z EL y bytes maxL ret n0 h0 T h sf cells slots) {a : Addr} {k : ClassId} {n : Int32} {vs : List Value} {dv : Value} {ty : FieldType} (F : Arv Z h a k ty n vs dv)
    {g : JFrame} (hg : g.method = m) {rest : List Value} (hs : g.stack = .ref a :: rest) (hd : decode bytes g.pc = .ok (.arraylength, 1)) :
    ∀ t, Steps p.tables e below (T.setTop { g with pc := g.pc + 1, stack := .int n :: rest }) t → Steps p.tables e below (T.setTop g) t := by
  have hd := X.cd hd
  obtain ⟨vm0, k0, locs, a0, x1, rfl, x3, x4, x5, x6, x7, x8, x9, x10, x11, x12, CC⟩ := X
  obtain ⟨cl, A, q1, q2, q3, q4, q5⟩ := F
  intro t ht
  refine x1.arraylength CC.1 (cell := cl) A.1 (State.isArrayOf_alike (T := s.setVm vm0) x6.alike A.2.1) (g := g) hg (rest := rest) hs hd _ ?_
  rw [len_of q2 q3]; exact ht
theorem Wk.ldA (X : Wk b p l e R s m args below meth c Z EL y bytes maxL ret n0 h0 T h sf cells slots) {a : Addr} {k : ClassId} {n : Int32} {vs : List Value} {dv : Value} {ty : FieldType} (F : Arv Z h a k ty n vs dv) {j : Int32} (hj : ¬ j < 0 ∧ j < n) {v : Value} (hv : vs.getD j.toNatClampNeg dv = v)
    {i : Instr} (hi : (i = .iaload ∧ ty = .int) ∨ (i = .caload ∧ ty = .char) ∨ (i = .baload ∧ ty = .byte) ∨ (i = .aaload ∧ ty.isReference = true)) {g : JFrame} (hg : g.method = m) {rest : List Value} (hs : g.stack = .int j :: .ref a :: rest) (hd : decode bytes g.pc = .ok (i, 1)) :
    ∀ t, Steps p.tables e below (T.setTop { g with pc := g.pc + 1, stack := v :: rest }) t → Steps p.tables e below (T.setTop g) t := by
  have hd := X.cd hd
  obtain ⟨vm0, k0, locs, a0, x1, rfl, x3, x4, x5, x6, x7, x8, x9, x10, x11, x12, CC⟩ := X
  obtain ⟨cl, A, q1, q2, q3, q4, q5⟩ := F
  intro t ht
  have hin := inb_of q2 hj
  have hA := State.isArrayOf_alike (T := s.setVm vm0) x6.alike A.2.1
  rcases hi with ⟨rfl, rfl⟩ | ⟨rfl, rfl⟩ | ⟨rfl, rfl⟩ | ⟨rfl, hr⟩
  · exact x1.iaload CC.1 (j := j) (v := v) A.1 hA A.2.2 hin (q4.at hin hv) hg hs hd _ ht
  · exact x1.caload CC.1 (j := j) (v := v) A.1 hA A.2.2 hin (q4.at hin hv) hg hs hd _ ht
  · exact x1.baloadBytes CC.1 (j := j) (v := v) A.1 hA A.2.2 hin (q4.at hin hv) hg hs hd _ ht
  · exact x1.aaload CC.1 (j := j) (v := v) A.1 hA hr A.2.2 hin (q4.at hin hv) hg hs hd _ ht
theorem Wk.ldcI (X : Wk b p l e R s m args below meth c Z EL y bytes maxL ret n0 h0 T h sf cells slots) {a1 : Array Value} {index : Nat} {v : Int32} (w : (Cond.constant y.cls index v).before a1 Z = true) {g : JFrame} (hg : g.method = m) (hd : decode bytes g.pc = .ok (.ldc index, 2)) :
    ∀ t, Steps p.tables e below (T.setTop { g with pc := g.pc + 2, stack := .int v :: g.stack }) t → Steps p.tables e below (T.setTop g) t := by
  have hd := X.cd hd
  obtain ⟨vm0, k0, locs, a0, x1, rfl, x3, x4, x5, x6, x7, x8, x9, x10, x11, x12, CC⟩ := X
  exact x1.ldcInt CC.1 x7 (mvT (s := s.setVm vm0) x6 w) hg hd
theorem Wk.ldc2 (X : Wk b p l e R s m args below meth c Z EL y bytes maxL ret n0 h0 T h sf cells slots) {a1 : Array Value} {index : Nat} {v : Int64} (w : (Cond.constantLong y.cls index v).before a1 Z = true) {g : JFrame} (hg : g.method = m) (hd : decode bytes g.pc = .ok (.ldc2_w index, 3)) :
    ∀ t, Steps p.tables e below (T.setTop { g with pc := g.pc + 3, stack := .long v :: g.stack }) t → Steps p.tables e below (T.setTop g) t := by
  have hd := X.cd hd
  obtain ⟨vm0, k0, locs, a0, x1, rfl, x3, x4, x5, x6, x7, x8, x9, x10, x11, x12, CC⟩ := X
  exact x1.ldc2Long CC.1 x7 (mvT (s := s.setVm vm0) x6 w) hg hd
theorem Wk.irem (X : Wk b p l e R s m args below meth c Z EL y bytes maxL ret n0 h0 T h sf cells slots) {x y' : Int32} {g : JFrame} (hg : g.method = m) {rest : List Value} (hs : g.stack = .int y' :: .int x :: rest) (hy : y' ≠ 0) (hd : decode bytes g.pc = .ok (.irem, 1)) :
    ∀ t, Steps p.tables e below (T.setTop { g with pc := g.pc + 1, stack := .int (x % y') :: rest }) t → Steps p.tables e below (T.setTop g) t := by
  have hd := X.cd hd
  obtain ⟨vm0, k0, locs, a0, x1, rfl, x3, x4, x5, x6, x7, x8, x9, x10, x11, x12, CC⟩ := X
  exact fun t ht => iremM x1 CC.1 hg hd hs hy ht
theorem Wk.acmp (X : Wk b p l e R s m args below meth c Z EL y bytes maxL ret n0 h0 T h sf cells slots) {cd : ACond} {x y' : Value} (h1 : x.isRef = true) (h2 : y'.isRef = true) {g : JFrame} (hg : g.method = m) {rest : List Value} {o : Int} {pc0 pc' : Nat} {same : Bool} (hpc : g.pc = pc0) (hd : decode bytes g.pc = .ok (.if_acmp cd o, 3)) (hs : g.stack = y' :: x :: rest) (hq : decide (x = y') = same) (ho : 0 ≤ (pc0 : Int) + o) (hp : pc' = if acV cd same = true then ((pc0 : Int) + o).toNat else pc0 + 3) :
    ∀ t, Steps p.tables e below (T.setTop { g with pc := pc', stack := rest }) t → Steps p.tables e below (T.setTop g) t := by
  have hd := X.cd hd
  obtain ⟨vm0, k0, locs, a0, x1, rfl, x3, x4, x5, x6, x7, x8, x9, x10, x11, x12, CC⟩ := X
  exact fun t ht => Jvm.RoadKit.acmp x1 CC.1 hg h1 h2 hpc hd hs hq ho hp ht
theorem Wk.initO (X : Wk b p l e R s m args below meth c Z EL y bytes maxL ret n0 h0 T h sf cells slots) {a1 : Array Value} {idx : Nat} (w1 : (Cond.methodLink y.cls idx Lib.objectInit).before a1 Z = true) (w2 : (Cond.instanceMethod Lib.objectInit).before a1 Z = true) (w3 : (Cond.code Lib.objectInit ⟨#[0xb1]⟩ 1 none).before a1 Z = true) {g : JFrame} (hg : g.method = m) (hsize : g.locals.size = maxL) {a : Addr} {rest : List Value} (hs : g.stack = .ref a :: rest) (hd : decode bytes g.pc = .ok (.invokespecial idx, 3))
    (hf : 1 ≤ R.frames) {W : Nat} (hW : 2 * g.monitorRoom + (rest.map fun v => v.category).sum ≤ W) (hl : W + 12 ≤ R.locals) :
    ∃ T' : State, Wk b p l e R s m args below meth c Z EL y bytes maxL ret n0 h0 T' h sf cells slots ∧ ∀ t, Steps p.tables e below (T'.setTop { g with pc := g.pc + 3, stack := rest }) t → Steps p.tables e below (T.setTop g) t := by
  have hd := X.cd hd
  obtain ⟨vm0, k0, locs, a0, x1, rfl, x3, x4, x5, x6, x7, x8, x9, x10, x11, x12, CC⟩ := X
  obtain ⟨T', X', e', st⟩ := RoadKit.initO x1 CC.1 (s := s.setVm vm0) x6 x7 w1 w2 w3 rfl hg (hsize.trans CC.2.2.1.symm) hs hd hf hW hl
  exact ⟨T', ⟨vm0, k0, locs, a0, X', e', x3, x4, x5, x6, x7, x8, x9, x10, x11, x12, CC⟩, st⟩
theorem Wk.castY (X : Wk b p l e R s m args below meth c Z EL y bytes maxL ret n0 h0 T h sf cells slots) {a1 : Array Value} {K : String} {index : Nat} (w : (Cond.classLink y.cls index K).before a1 Z = true) {a : Addr} (F : Ins Z h a K true) {g : JFrame} (hg : g.method = m) {rest : List Value} (hs : g.stack = .ref a :: rest) (hd : decode bytes g.pc = .ok (.checkcast index, 3)) :
    ∃ T' : State, Wk b p l e R s m args below meth c Z EL y bytes maxL ret n0 h0 T' h sf cells slots ∧ ∀ t, Steps p.tables e below (T'.setTop { g with pc := g.pc + 3 }) t → Steps p.tables e below (T.setTop g) t := by
  have hd := X.cd hd
  obtain ⟨vm0, k0, locs, a0, x1, rfl, x3, x4, x5, x6, x7, x8, x9, x10, x11, x12, CC⟩ := X
  obtain ⟨T', X', e', st⟩ := RoadKit.castY x1 CC.1 (s := s.setVm vm0) x6 x7 w rfl F hg hs hd
  exact ⟨T', ⟨vm0, k0, locs, a0, X', e', x3, x4, x5, x6, x7, x8, x9, x10, x11, x12, CC⟩, st⟩
theorem Wk.instY (X : Wk b p l e R s m args below meth c Z EL y bytes maxL ret n0 h0 T h sf cells slots) {a1 : Array Value} {K : String} {index : Nat} (w : (Cond.classLink y.cls index K).before a1 Z = true) {a : Addr} (F : Ins Z h a K true) {g : JFrame} (hg : g.method = m) {rest : List Value} (hs : g.stack = .ref a :: rest) (hd : decode bytes g.pc = .ok (.instanceof index, 3)) :
    ∃ T' : State, Wk b p l e R s m args below meth c Z EL y bytes maxL ret n0 h0 T' h sf cells slots ∧ ∀ t, Steps p.tables e below (T'.setTop { g with pc := g.pc + 3, stack := .int 1 :: rest }) t → Steps p.tables e below (T.setTop g) t := by
  have hd := X.cd hd
  obtain ⟨vm0, k0, locs, a0, x1, rfl, x3, x4, x5, x6, x7, x8, x9, x10, x11, x12, CC⟩ := X
  obtain ⟨T', X', e', st⟩ := RoadKit.instY x1 CC.1 (s := s.setVm vm0) x6 x7 w rfl F hg hs hd
  exact ⟨T', ⟨vm0, k0, locs, a0, X', e', x3, x4, x5, x6, x7, x8, x9, x10, x11, x12, CC⟩, st⟩
theorem Wk.instNo (X : Wk b p l e R s m args below meth c Z EL y bytes maxL ret n0 h0 T h sf cells slots) {a1 : Array Value} {K C : String} {index : Nat} (w : (Cond.classLink y.cls index K).before a1 Z = true) {a : Addr} (E : Exa Z h a C) (F : ∃ c t, Z.vm.findClass C = some c ∧ Z.vm.findClass K = some t ∧ Z.vm.assignable c t = false) {g : JFrame} (hg : g.method = m) {rest : List Value} (hs : g.stack = .ref a :: rest) (hd : decode bytes g.pc = .ok (.instanceof index, 3)) :
    ∃ T' : State, Wk b p l e R s m args below meth c Z EL y bytes maxL ret n0 h0 T' h sf cells slots ∧ ∀ t, Steps p.tables e below (T'.setTop { g with pc := g.pc + 3, stack := .int 0 :: rest }) t → Steps p.tables e below (T.setTop g) t := by
  have hd := X.cd hd
  obtain ⟨vm0, k0, locs, a0, x1, rfl, x3, x4, x5, x6, x7, x8, x9, x10, x11, x12, CC⟩ := X
  obtain ⟨T', X', e', st⟩ := RoadKit.instNo x1 CC.1 (s := s.setVm vm0) x6 x7 w rfl E F hg hs hd
  exact ⟨T', ⟨vm0, k0, locs, a0, X', e', x3, x4, x5, x6, x7, x8, x9, x10, x11, x12, CC⟩, st⟩
theorem Wk.instNull (X : Wk b p l e R s m args below meth c Z EL y bytes maxL ret n0 h0 T h sf cells slots) {index : Nat} {g : JFrame} (hg : g.method = m) {rest : List Value} (hs : g.stack = .null :: rest) (hd : decode bytes g.pc = .ok (.instanceof index, 3)) :
    ∀ t, Steps p.tables e below (T.setTop { g with pc := g.pc + 3, stack := .int 0 :: rest }) t → Steps p.tables e below (T.setTop g) t := by
  have hd := X.cd hd
  obtain ⟨vm0, k0, locs, a0, x1, rfl, x3, x4, x5, x6, x7, x8, x9, x10, x11, x12, CC⟩ := X
  exact Stand.instanceofNull x1 CC.1 hg hs hd
/-! ### String constants (a wide walk alone) -/
theorem Wk.ldcS (X : Wk true p l e R s m args below meth c Z EL y bytes maxL ret n0 h0 T h sf cells slots) {a1 : Array Value} {text : String} {index : Nat} (w : (Cond.stringLink y.cls index text).before a1 Z = true) (wS : ∀ a ∈ Bundle.stringAtoms, a.before a1 Z = true)
    {g : JFrame} (hg : g.method = m) (hd : decode bytes g.pc = .ok (.ldc index, 2)) {n : Nat} (hn : 4 * text.toList.length ≤ n) (hbig : n ≤ 536870912) (hc : cells + 2 ≤ R.cells) (hl : slots + (n + 4) ≤ R.slots) :
    ∃ (a : Addr) (T' : State) (h' : Heap), Wk true p l e R s m args below meth c Z EL y bytes maxL ret n0 h0 T' h' sf (cells + 2) (slots + (n + 4)) ∧ Ext h h' ∧ ∀ t, Steps p.tables e below (T'.setTop { g with pc := g.pc + 2, stack := .ref a :: g.stack }) t → Steps p.tables e below (T.setTop g) t := by
  have hd := X.cd hd
  obtain ⟨vm0, k0, locs, a0, x1, rfl, x3, x4, x5, x6, x7, x8, x9, x10, x11, x12, CC⟩ := X
  obtain ⟨a, T', h', k1, X', e', E, hS, hk, hZ, ho, D, -, st⟩ := ldcOH (a0 := a1) (EL := EL) x1 CC.1 x6 x7 w wS rfl x4 x5 (by intro q hq; obtain ⟨t, t1, t2⟩ := x11 q hq; exact ⟨t, by simpa only [Cond.before, Cond.holds, Cond.value] using t1, t2⟩) x9.1 hg hd hn hbig hc hl
  exact ⟨a, T', h', ⟨T'.vm, k1, locs, a0, X', e', fun q => (nomatch q), hS, hk, hZ, ho, x8, x9.trans D, x10.go D, x11, x12.ext E, CC⟩, E, st⟩
theorem Wk.ldcR (X : Wk true p l e R s m args below meth c Z EL y bytes maxL ret n0 h0 T h sf cells slots) {a1 : Array Value} {text : String} {index : Nat} (w : (Cond.stringLink y.cls index text).before a1 Z = true) (wS : ∀ a ∈ Bundle.stringAtoms, a.before a1 Z = true) (hmem : (y.cls, index) ∈ EL)
    {vs : List Value} {z : Int32} (ht : (∀ c ∈ text.toList, c.toNat < 256) ∧ text.toList.map (fun c => Value.int (Jvm.Lit.byteI c.toNat.toUInt16)) = vs) (hz : ¬ z < 0) (hl : z.toNatClampNeg = vs.length)
    {g : JFrame} (hg : g.method = m) (hd : decode bytes g.pc = .ok (.ldc index, 2)) {n : Nat} (hn : 4 * text.toList.length ≤ n) (hbig : n ≤ 536870912) (hc : cells + 2 ≤ R.cells) (hl' : slots + (n + 4) ≤ R.slots) :
    ∃ (a bb : Addr) (k : ClassId) (T' : State) (h' : Heap), Wk true p l e R s m args below meth c Z EL y bytes maxL ret n0 h0 T' h' sf (cells + 2) (slots + (n + 4)) ∧ Ext h h' ∧ Exa Z h' a "java/lang/String" ∧ Fld Z h' a "java/lang/String" "coder" "B" (.int 0) ∧ Fld Z h' a "java/lang/String" "value" "[B" (.ref bb) ∧ Arv Z h' bb k .byte z vs (.int 0) ∧ (∀ x ∈ sf, x ≠ a ∧ x ≠ bb) ∧
      ∀ t, Steps p.tables e below (T'.setTop { g with pc := g.pc + 2, stack := .ref a :: g.stack }) t → Steps p.tables e below (T.setTop g) t := by
  have hd := X.cd hd
  obtain ⟨vm0, k0, locs, a0, x1, rfl, x3, x4, x5, x6, x7, x8, x9, x10, x11, x12, CC⟩ := X
  obtain ⟨a, T', h', k1, bb, k, X', e', E, hS, hk, hZ, ho, F1, F2, F3, F4, -, -, D, -, hne, st⟩ := ldcCH (a0 := a1) (EL := EL) x1 CC.1 x6 x7 w wS rfl x4 x5 (by intro q hq; obtain ⟨t, t1, t2⟩ := x11 q hq; exact ⟨t, by simpa only [Cond.before, Cond.holds, Cond.value] using t1, t2⟩) hmem x9.1 ht hz hl hg hd hn hbig hc hl'
  have S' := x10.go D
  exact ⟨a, bb, k, T', h', ⟨T'.vm, k1, locs, a0, X', e', fun q => (nomatch q), hS, hk, hZ, ho, x8, x9.trans D, S', x11, x12.ext E, CC⟩, E, F1, F2, F3, F4, fun x hx => hne x (S' x hx).2.2, st⟩
end Walk
/-! ### contracts -/
def Ct (l : Launch) (y : MethodName) (bytes : ByteArray) (maxL : Nat) (ret : Option FieldType) (wl : List Cond) (rm : Room) (Z : State) (n0 : Nat) (as' : Array Value) (h : Heap) (ws : List Addr) (Q : Option Value → Heap → Prop) : Prop :=
  MetFree l y (head1 (Cond.code y bytes maxL ret :: wl) rm) (fun a U => a = as' ∧ Z.Warmed39 U.vm ∧ U.heap = h) (fun _ _ _ _ _ => True) (fun _ U o U' => ∃ v L, o = .returned v ∧ (Keep h U'.heap ws ∧ Q v U'.heap ∧ Fr n0 L) ∧ FrameEnd U o U' L rm.cells rm.slots)
def Cw (l : Launch) (y : MethodName) (bytes : ByteArray) (maxL : Nat) (ret : Option FieldType) (wl : List Cond) (rm : Room) (Z : State) (EL : List (String × Nat)) (n0 : Nat) (as' : Array Value) (h : Heap) (ws sv : List Addr) (Q : Option Value → Heap → Prop) : Prop :=
  MetFree l y (head1 (Cond.code y bytes maxL ret :: wl) rm) (fun a U => a = as' ∧ Z.Warmed39 U.vm ∧ U.heap = h ∧ CHv Z EL U.vm h ∧ ∀ x ∈ sv, Safe Z EL U.vm h x) (fun _ _ _ _ _ => True) (fun _ U o U' => ∃ v L, o = .returned v ∧ (Keep h U'.heap ws ∧ Q v U'.heap ∧ Fr n0 L) ∧ CHr Z EL U.vm h U'.vm U'.heap ∧ ReturnedEndW U o U' L rm.cells rm.slots)
section Con
variable {l : Launch} {y : MethodName} {bytes : ByteArray} {maxL : Nat} {ret : Option FieldType} {wl : List Cond} {rm : Room} {Z : State} {EL : List (String × Nat)} {n0 : Nat} {as' : Array Value} {h : Heap} {ws sv : List Addr} {Q : Option Value → Heap → Prop} {a0 : Array Value}
theorem Ct.of_walk (hp : plainFor y = true) (hO : Old Z n0 h) (hws : ∀ x ∈ ws, n0 ≤ x ∧ x < h.size)
    (body : ∀ (p : Program) (e : Env) (s : State) (m : MethodId) (below : List Frame) (meth : Method) (c : Code) (T : State), Wk false p l e rm s m as' below meth c Z [] y bytes maxL ret n0 h T h ws 0 0 → Go p e below (Fi false rm s Z [] n0 h ws Q) (T.setTop (entryFrame m as' maxL))) : Ct l y bytes maxL ret wl rm Z n0 as' h ws Q := by
  refine MetFree.of_bodySF hp hisR ?_
  intro p e s m args below meth c s₁ Bd hml0 hP hK
  obtain ⟨rfl, hZ, hh⟩ := hP
  have X0 : Stand p l e rm s m args below meth c s₁ [] 0 0 := Stand.of_body Bd
  have e0 : s₁.heap = h := by rw [← hh, Bd.state]; rfl
  have H0 : CHv Z [] s.vm h := fun q hq => nomatch hq
  have W0 : Wk false p l e rm s m args below meth c Z [] y bytes maxL ret n0 h s₁ h ws 0 0 :=
    ⟨s.vm, 0, [], #[], X0, e0, fun _ => rfl, (State.WarmedH.refl s).since 0, Nat.zero_le _, hZ, findClass_of_methodNamed Bd.named, Fr.nil n0, CHr.refl H0, fun x hx => ⟨(hws x hx).1, (hws x hx).2, fun B => by obtain ⟨q, hq, -⟩ := B; cases hq⟩, EW.nil, hO, Bd.exec, Bd.bytes, hml0, (name_of_methodNamed Bd.named Bd.method).1, Bd.returns, Bd.notSynchronized⟩
  obtain ⟨t, o, h1, h2, h3, v, L, rfl, K, q, N, A, E⟩ := body p e s m below meth c s₁ W0
  exact ⟨t, _, h1, h2, h3, v, L, rfl, ⟨K, q, N⟩, E⟩
theorem Cw.of_walk (hp : plainFor y = true) (hO : Old Z n0 h) (hE : EW Z a0 EL) (hws : ∀ x ∈ sv, n0 ≤ x ∧ x < h.size)
    (body : ∀ (p : Program) (e : Env) (s : State) (m : MethodId) (below : List Frame) (meth : Method) (c : Code) (T : State), Wk true p l e rm s m as' below meth c Z EL y bytes maxL ret n0 h T h sv 0 0 → Go p e below (Fi true rm s Z EL n0 h ws Q) (T.setTop (entryFrame m as' maxL))) : Cw l y bytes maxL ret wl rm Z EL n0 as' h ws sv Q := by
  refine MetFree.of_bodySF hp hisR ?_
  intro p e s m args below meth c s₁ Bd hml0 hP hK
  obtain ⟨rfl, hZ, hh, H0, hS⟩ := hP
  have X0 : Stand p l e rm s m args below meth c s₁ [] 0 0 := Stand.of_body Bd
  have e0 : s₁.heap = h := by rw [← hh, Bd.state]; rfl
  have W0 : Wk true p l e rm s m args below meth c Z EL y bytes maxL ret n0 h s₁ h sv 0 0 :=
    ⟨s.vm, 0, [], a0, X0, e0, fun _ => rfl, (State.WarmedH.refl s).since 0, Nat.zero_le _, hZ, findClass_of_methodNamed Bd.named, Fr.nil n0, CHr.refl H0, fun x hx => ⟨(hws x hx).1, (hws x hx).2, hS x hx⟩, hE, hO, Bd.exec, Bd.bytes, hml0, (name_of_methodNamed Bd.named Bd.method).1, Bd.returns, Bd.notSynchronized⟩
  obtain ⟨t, o, h1, h2, h3, v, L, rfl, K, q, N, A, E⟩ := body p e s m below meth c s₁ W0
  exact ⟨t, _, h1, h2, h3, v, L, rfl, ⟨K, q, N⟩, A, E⟩
variable {R : Room} {p : Program} {e : Env} {below : List Frame} {s : State} {args : Array Value} {len W : Nat}
def Pay (l : Launch) (R : Room) (p : Program) (e : Env) (below : List Frame) (s : State) (args : Array Value) (Z : State) (n0 : Nat) (y : MethodName) (len W : Nat) (as' : Array Value) (h : Heap) (kc ks : Nat) (ws : List Addr) (Q : Option Value → Heap → Prop) : Prop :=
  ∀ vm0, Z.Warmed39 vm0 → Back l R p e below (s.setVm vm0) args y len W (fun A a => a = as' ∧ A.U.heap = h ∧ A.cells + kc ≤ R.cells ∧ A.slots + ks ≤ R.slots) (fun A _ v B => ∃ L, (Keep h B.U.heap ws ∧ Q v B.U.heap ∧ Fr n0 L) ∧ B.locs = A.locs ++ L ∧ B.cells = A.cells + kc ∧ B.slots = A.slots + ks)
def PayW (l : Launch) (R : Room) (p : Program) (e : Env) (below : List Frame) (s : State) (args : Array Value) (Z : State) (EL : List (String × Nat)) (n0 : Nat) (y : MethodName) (len W : Nat) (as' : Array Value) (h : Heap) (kc ks : Nat) (ws sv : List Addr) (Q : Option Value → Heap → Prop) : Prop :=
  ∀ vm0, Z.Warmed39 vm0 → CHv Z EL vm0 h → (∀ x ∈ sv, x < h.size ∧ Safe Z EL vm0 h x) → BackS l R p e below (s.setVm vm0) args y len W (fun A a => a = as' ∧ A.U.heap = h ∧ A.cells + kc ≤ R.cells ∧ A.slots + ks ≤ R.slots) (fun A _ v B => ∃ L, (Keep h B.U.heap ws ∧ Q v B.U.heap ∧ Fr n0 L) ∧ B.locs = A.locs ++ L ∧ B.cells = A.cells + kc ∧ B.slots = A.slots + ks ∧ CHr Z EL vm0 h B.U.vm B.U.heap)
theorem Ct.pay (hM : Ct l y bytes maxL ret [] rm Z n0 as' h ws Q) (wc : (Cond.code y bytes maxL ret).before a0 Z = true) (wz : (Cond.initialized y.cls).before a0 Z = true) (hf : rm.frames + 1 ≤ R.frames) (hl : W + (maxL + 11) + rm.locals ≤ R.locals) :
    Pay l R p e below s args Z n0 y len W as' h rm.cells rm.slots ws Q := fun vm0 hZ => backOf (s := s.setVm vm0) (Q := fun v h' L => Keep h h' ws ∧ Q v h' ∧ Fr n0 L) hM hZ wc wz hf hl
theorem Cw.pay (hM : Cw l y bytes maxL ret [] rm Z EL n0 as' h ws sv Q) (wc : (Cond.code y bytes maxL ret).before a0 Z = true) (wz : (Cond.initialized y.cls).before a0 Z = true) (hE : EW Z a0 EL) (hf : rm.frames + 1 ≤ R.frames) (hl : W + (maxL + 11) + rm.locals ≤ R.locals) :
    PayW l R p e below s args Z EL n0 y len W as' h rm.cells rm.slots ws sv Q := fun vm0 hZ H hS =>
  BackS.of_freeW (bytes := bytes) (maxL := maxL) (ret := ret) (E := fun _ first o t L k n => k = rm.cells ∧ n = rm.slots ∧ (∃ v, o = .returned v ∧ (Keep h t.heap ws ∧ Q v t.heap ∧ Fr n0 L)) ∧ CHr Z EL first.vm h t.vm t.heap) hM hf hl
    (fun m meth c A a Y hp => by
      have hU : Z.Warmed39 A.U.vm := wtrans (s := s.setVm vm0) hZ Y.warmed
      exact ⟨by show (Cond.and _ .tt).before a A.U = true; rw [Cond.before_and, mv hU wc]; rfl, mv hU wc, mv hU wz, hp.2.2.1, hp.2.2.2⟩)
    (fun m meth c A a g mk Y hp => by
      have q := CHv.at Y hZ hE H
      exact ⟨hp.1, wtrans (s := s.setVm vm0) hZ Y.warmed, hp.2.1, q.1, fun x hx => q.safe (hS x hx).1 (hS x hx).2⟩)
    (fun _ _ _ _ _ _ _ _ _ => trivial)
    (fun _ _ _ _ ⟨v, L, h1, h2, h3, h4⟩ => ⟨L, _, _, h4, rfl, rfl, ⟨v, h1, h2⟩, h3⟩)
    (fun m meth c A a g mk v t L k n Y hp _ _ ⟨e1, e2, ⟨v', e3, e4⟩, e5⟩ => by
      cases e3; subst e1 e2
      exact ⟨L, e4, rfl, rfl, rfl, (CHv.at Y hZ hE H).trans e5⟩)
end Con
/-! ### calls -/
section Calls
variable {b : Bool} {p : Program} {l : Launch} {e : Env} {R : Room} {s : State} {m : MethodId} {args : Array Value} {below : List Frame} {meth : Method} {c : Code} {Z : State} {EL : List (String × Nat)} {y : MethodName} {bytes : ByteArray} {maxL : Nat} {ret : Option FieldType} {n0 : Nat} {h0 : Heap} {T : State} {h h' : Heap} {sf ws sv : List Addr} {cells slots : Nat} {a1 : Array Value} {Q : Option Value → Heap → Prop} {y' z' : MethodName} {index W kc ks : Nat} {as' : Array Value}
theorem Wk.aftN {vm0 : Vm} {k0 : Nat} {locs : List Loc} {a0 : Array Value} {v : Option Value} {B : Pt} (X' : Stand p l e R (s.setVm vm0) m args below meth c B.U B.locs B.cells B.slots) (po : ∃ L, (Keep h B.U.heap ws ∧ Q v B.U.heap ∧ Fr n0 L) ∧ B.locs = locs ++ L ∧ B.cells = cells + kc ∧ B.slots = slots + ks)
    (x3 : b = false → vm0 = s.vm) (x4 : s.Since vm0 k0) (x5 : k0 ≤ h.size) (x6 : Z.Warmed39 vm0) (x7 : vm0.findClass y.cls = some m.cls) (x8 : Fr n0 locs) (x9 : CHr Z EL s.vm h0 vm0 h) (x10 : Sfs Z EL n0 vm0 h sf) (x11 : EW Z a0 EL) (x12 : Old Z n0 h) (C : Cst p meth c y bytes maxL ret) (hm : ∀ x ∈ ws, x ∈ sf) :
    Wk b p l e R s m args below meth c Z EL y bytes maxL ret n0 h0 B.U B.U.heap sf (cells + kc) (slots + ks) ∧ Keep h B.U.heap ws ∧ Q v B.U.heap := by
  obtain ⟨L, ⟨K, q, N⟩, l1, l2, l3⟩ := po
  have D : CHr Z EL vm0 h vm0 B.U.heap := CHr.keep K (fun x hx => (x10 x (hm x hx)).2.2) x9.1
  rw [l1, l2, l3] at X'
  exact ⟨⟨vm0, k0, _, a0, X', rfl, x3, x4, Nat.le_trans x5 K.1, x6, x7, x8.app N, x9.trans D, x10.go D, x11, x12.keep K (fun x hx => (x10 x (hm x hx)).1), C⟩, K, q⟩
theorem Wk.aftW {vm0 : Vm} {k0 : Nat} {locs : List Loc} {a0 : Array Value} {v : Option Value} {B : Pt} (X' : Stand p l e R ((s.setVm vm0).setVm B.U.vm) m args below meth c B.U B.locs B.cells B.slots) (hS : (s.setVm vm0).Since B.U.vm B.U.heap.size) (po : ∃ L, (Keep h B.U.heap ws ∧ Q v B.U.heap ∧ Fr n0 L) ∧ B.locs = locs ++ L ∧ B.cells = cells + kc ∧ B.slots = slots + ks ∧ CHr Z EL vm0 h B.U.vm B.U.heap)
    (x4 : s.Since vm0 k0) (x5 : k0 ≤ h.size) (x6 : Z.Warmed39 vm0) (x7 : vm0.findClass y.cls = some m.cls) (x8 : Fr n0 locs) (x9 : CHr Z EL s.vm h0 vm0 h) (x10 : Sfs Z EL n0 vm0 h sf) (x11 : EW Z a0 EL) (x12 : Old Z n0 h) (C : Cst p meth c y bytes maxL ret) (hm : ∀ x ∈ ws, x ∈ sf) :
    Wk true p l e R s m args below meth c Z EL y bytes maxL ret n0 h0 B.U B.U.heap sf (cells + kc) (slots + ks) ∧ Keep h B.U.heap ws ∧ Q v B.U.heap := by
  obtain ⟨L, ⟨K, q, N⟩, l1, l2, l3, D⟩ := po
  rw [l1, l2, l3] at X'
  have hk : k0 ≤ B.U.heap.size := Nat.le_trans x5 K.1
  exact ⟨⟨B.U.vm, _, _, a0, X', rfl, fun q => (by cases q), x4.trans hS hk, Nat.le_refl _, State.Warmed39.trans (t := s.setVm vm0) x6 hS.1, (hS.1.alike.findClass _ _).trans x7, x8.app N, x9.trans D, x10.go D, x11, x12.keep K (fun x hx => (x10 x (hm x hx)).1), C⟩, K, q⟩
theorem Wk.spN (X : Wk b p l e R s m args below meth c Z EL y bytes maxL ret n0 h0 T h sf cells slots) (hy1 : y'.name = "<init>") (w1 : (Cond.methodLink y.cls index y').before a1 Z = true) (w2 : (Cond.instanceMethod y').before a1 Z = true) {bytes' : ByteArray} {maxL' : Nat} (w3 : (Cond.code y' bytes' maxL' none).before a1 Z = true) (hy : y'.cls ≠ "java/lang/invoke/MethodHandle" ∧ y'.cls ≠ "java/lang/invoke/VarHandle")
    (hK : Pay l R p e below s args Z n0 y' 3 W as' h kc ks ws Q) (hm : ∀ x ∈ ws, x ∈ sf) {g : JFrame} (hg : g.method = m) (hsize : g.locals.size = maxL) {a : Addr} {argsL rest : List Value} (hlen : ∀ sig, parseMethodDescriptor y'.desc = some sig → argsL.length = sig.parameters.length) (hstack : g.stack = argsL.reverse ++ .ref a :: rest) (hW : 2 * g.monitorRoom + (rest.map fun v => v.category).sum ≤ W)
    (hd : decode bytes g.pc = .ok (.invokespecial index, 3)) (ha : (.ref a :: argsL).toArray = as') (hc : cells + kc ≤ R.cells) (hs : slots + ks ≤ R.slots) :
    ∃ (v : Option Value) (T' : State) (h' : Heap), Wk b p l e R s m args below meth c Z EL y bytes maxL ret n0 h0 T' h' sf (cells + kc) (slots + ks) ∧ Keep h h' ws ∧ Q v h' ∧ Steps p.tables e below (T.setTop g) (T'.setTop { g with pc := g.pc + 3, stack := v.toList ++ rest }) := by
  have hd := X.cd hd
  obtain ⟨vm0, k0, locs, a0, x1, rfl, x3, x4, x5, x6, x7, x8, x9, x10, x11, x12, CC⟩ := X
  obtain ⟨v, vm₁, B, hW1, X', po, st⟩ := x1.specialBack CC.1 hy1 x7 (mvT (s := s.setVm vm0) x6 w1) (mvT (s := s.setVm vm0) x6 w2) (mvT (s := s.setVm vm0) x6 w3) hy (hK vm0 x6) hg (hsize.trans CC.2.2.1.symm) (Steps.refl _) hlen hstack hW hd (fun _ _ => ⟨ha, rfl, hc, hs⟩)
  obtain ⟨q1, q2, q3⟩ := Wk.aftN X' po x3 x4 x5 x6 x7 x8 x9 x10 x11 x12 CC hm
  exact ⟨v, _, _, q1, q2, q3, st⟩
theorem Wk.spW (X : Wk true p l e R s m args below meth c Z EL y bytes maxL ret n0 h0 T h sf cells slots) (hy1 : y'.name = "<init>") (w1 : (Cond.methodLink y.cls index y').before a1 Z = true) (w2 : (Cond.instanceMethod y').before a1 Z = true) {bytes' : ByteArray} {maxL' : Nat} (w3 : (Cond.code y' bytes' maxL' none).before a1 Z = true) (hy : y'.cls ≠ "java/lang/invoke/MethodHandle" ∧ y'.cls ≠ "java/lang/invoke/VarHandle")
    (hK : PayW l R p e below s args Z EL n0 y' 3 W as' h kc ks ws sv Q) (hm : ∀ x ∈ ws, x ∈ sf) (hv : ∀ x ∈ sv, x ∈ sf) {g : JFrame} (hg : g.method = m) (hsize : g.locals.size = maxL) {a : Addr} {argsL rest : List Value} (hlen : ∀ sig, parseMethodDescriptor y'.desc = some sig → argsL.length = sig.parameters.length) (hstack : g.stack = argsL.reverse ++ .ref a :: rest) (hW : 2 * g.monitorRoom + (rest.map fun v => v.category).sum ≤ W)
    (hd : decode bytes g.pc = .ok (.invokespecial index, 3)) (ha : (.ref a :: argsL).toArray = as') (hc : cells + kc ≤ R.cells) (hs : slots + ks ≤ R.slots) :
    ∃ (v : Option Value) (T' : State) (h' : Heap), Wk true p l e R s m args below meth c Z EL y bytes maxL ret n0 h0 T' h' sf (cells + kc) (slots + ks) ∧ Keep h h' ws ∧ Q v h' ∧ Steps p.tables e below (T.setTop g) (T'.setTop { g with pc := g.pc + 3, stack := v.toList ++ rest }) := by
  have hd := X.cd hd
  obtain ⟨vm0, k0, locs, a0, x1, rfl, x3, x4, x5, x6, x7, x8, x9, x10, x11, x12, CC⟩ := X
  obtain ⟨v, vm₁, B, hW1, X', hS, -, po, st⟩ := x1.specialBackS CC.1 hy1 x7 (mvT (s := s.setVm vm0) x6 w1) (mvT (s := s.setVm vm0) x6 w2) (mvT (s := s.setVm vm0) x6 w3) hy (hK vm0 x6 x9.1 (fun x hx => (x10 x (hv x hx)).2)) hg (hsize.trans CC.2.2.1.symm) (Steps.refl _) hlen hstack hW hd (fun _ _ => ⟨ha, rfl, hc, hs⟩)
  obtain ⟨q1, q2, q3⟩ := Wk.aftW X' hS po x4 x5 x6 x7 x8 x9 x10 x11 x12 CC hm
  exact ⟨v, _, _, q1, q2, q3, st⟩
theorem Wk.stN (X : Wk b p l e R s m args below meth c Z EL y bytes maxL ret n0 h0 T h sf cells slots) (w1 : (Cond.methodLink y.cls index y').before a1 Z = true) (w2 : (Cond.static y').before a1 Z = true) (wz : (Cond.initialized y'.cls).before a1 Z = true) {bytes' : ByteArray} {maxL' : Nat} {ret' : Option FieldType} (w3 : (Cond.code y' bytes' maxL' ret').before a1 Z = true) (hy : y'.cls ≠ "java/lang/invoke/MethodHandle" ∧ y'.cls ≠ "java/lang/invoke/VarHandle")
    (hK : Pay l R p e below s args Z n0 y' 3 W as' h kc ks ws Q) (hm : ∀ x ∈ ws, x ∈ sf) {g : JFrame} (hg : g.method = m) (hsize : g.locals.size = maxL) {argsL rest : List Value} (hlen : ∀ sig, parseMethodDescriptor y'.desc = some sig → argsL.length = sig.parameters.length) (hstack : g.stack = argsL.reverse ++ rest) (hW : 2 * g.monitorRoom + (rest.map fun v => v.category).sum ≤ W)
    (hd : decode bytes g.pc = .ok (.invokestatic index, 3)) (ha : argsL.toArray = as') (hc : cells + kc ≤ R.cells) (hs : slots + ks ≤ R.slots) :
    ∃ (v : Option Value) (T' : State) (h' : Heap), Wk b p l e R s m args below meth c Z EL y bytes maxL ret n0 h0 T' h' sf (cells + kc) (slots + ks) ∧ Keep h h' ws ∧ Q v h' ∧ Steps p.tables e below (T.setTop g) (T'.setTop { g with pc := g.pc + 3, stack := v.toList ++ rest }) := by
  have hd := X.cd hd
  obtain ⟨vm0, k0, locs, a0, x1, rfl, x3, x4, x5, x6, x7, x8, x9, x10, x11, x12, CC⟩ := X
  obtain ⟨v, vm₁, B, hW1, X', po, st⟩ := Jvm.LawKit.callS x1 CC.1 x7 (mvT (s := s.setVm vm0) x6 w1) (mvT (s := s.setVm vm0) x6 w2) (mvT (s := s.setVm vm0) x6 wz) (mvT (s := s.setVm vm0) x6 w3) hy (hK vm0 x6) hg (hsize.trans CC.2.2.1.symm) hlen hstack hW hd (fun _ _ => ⟨ha, rfl, hc, hs⟩)
  obtain ⟨q1, q2, q3⟩ := Wk.aftN X' po x3 x4 x5 x6 x7 x8 x9 x10 x11 x12 CC hm
  exact ⟨v, _, _, q1, q2, q3, st _ (Steps.refl _)⟩
theorem Wk.stW (X : Wk true p l e R s m args below meth c Z EL y bytes maxL ret n0 h0 T h sf cells slots) (w1 : (Cond.methodLink y.cls index y').before a1 Z = true) (w2 : (Cond.static y').before a1 Z = true) (wz : (Cond.initialized y'.cls).before a1 Z = true) {bytes' : ByteArray} {maxL' : Nat} {ret' : Option FieldType} (w3 : (Cond.code y' bytes' maxL' ret').before a1 Z = true) (hy : y'.cls ≠ "java/lang/invoke/MethodHandle" ∧ y'.cls ≠ "java/lang/invoke/VarHandle")
    (hK : PayW l R p e below s args Z EL n0 y' 3 W as' h kc ks ws sv Q) (hm : ∀ x ∈ ws, x ∈ sf) (hv : ∀ x ∈ sv, x ∈ sf) {g : JFrame} (hg : g.method = m) (hsize : g.locals.size = maxL) {argsL rest : List Value} (hlen : ∀ sig, parseMethodDescriptor y'.desc = some sig → argsL.length = sig.parameters.length) (hstack : g.stack = argsL.reverse ++ rest) (hW : 2 * g.monitorRoom + (rest.map fun v => v.category).sum ≤ W)
    (hd : decode bytes g.pc = .ok (.invokestatic index, 3)) (ha : argsL.toArray = as') (hc : cells + kc ≤ R.cells) (hs : slots + ks ≤ R.slots) :
    ∃ (v : Option Value) (T' : State) (h' : Heap), Wk true p l e R s m args below meth c Z EL y bytes maxL ret n0 h0 T' h' sf (cells + kc) (slots + ks) ∧ Keep h h' ws ∧ Q v h' ∧ Steps p.tables e below (T.setTop g) (T'.setTop { g with pc := g.pc + 3, stack := v.toList ++ rest }) := by
  have hd := X.cd hd
  obtain ⟨vm0, k0, locs, a0, x1, rfl, x3, x4, x5, x6, x7, x8, x9, x10, x11, x12, CC⟩ := X
  obtain ⟨v, vm₁, B, hW1, X', hS, -, po, st⟩ := callSS x1 CC.1 x7 (mvT (s := s.setVm vm0) x6 w1) (mvT (s := s.setVm vm0) x6 w2) (mvT (s := s.setVm vm0) x6 wz) (mvT (s := s.setVm vm0) x6 w3) hy (hK vm0 x6 x9.1 (fun x hx => (x10 x (hv x hx)).2)) hg (hsize.trans CC.2.2.1.symm) hlen hstack hW hd (fun _ _ => ⟨ha, rfl, hc, hs⟩)
  obtain ⟨q1, q2, q3⟩ := Wk.aftW X' hS po x4 x5 x6 x7 x8 x9 x10 x11 x12 CC hm
  exact ⟨v, _, _, q1, q2, q3, st⟩
theorem Wk.viN (X : Wk b p l e R s m args below meth c Z EL y bytes maxL ret n0 h0 T h sf cells slots) {C : String} (w1 : (Cond.methodLink y.cls index y').before a1 Z = true) (w2 : (Cond.declares y').before a1 Z = true) (w3 : (Cond.selects C y' y').before a1 Z = true) (w4 : (Cond.instanceMethod y').before a1 Z = true) (hy : y'.cls ≠ "java/lang/invoke/MethodHandle" ∧ y'.cls ≠ "java/lang/invoke/VarHandle")
    (hK : Pay l R p e below s args Z n0 y' 3 W as' h kc ks ws Q) (hm : ∀ x ∈ ws, x ∈ sf) {a : Addr} (E : Exa Z h a C) {g : JFrame} (hg : g.method = m) (hsize : g.locals.size = maxL) {argsL rest : List Value} (hlen : ∀ sig, parseMethodDescriptor y'.desc = some sig → argsL.length = sig.parameters.length) (hstack : g.stack = argsL.reverse ++ .ref a :: rest) (hW : 2 * g.monitorRoom + (rest.map fun v => v.category).sum ≤ W)
    (hd : decode bytes g.pc = .ok (.invokevirtual index, 3)) (ha : (.ref a :: argsL).toArray = as') (hc : cells + kc ≤ R.cells) (hs : slots + ks ≤ R.slots) :
    ∃ (v : Option Value) (T' : State) (h' : Heap), Wk b p l e R s m args below meth c Z EL y bytes maxL ret n0 h0 T' h' sf (cells + kc) (slots + ks) ∧ Keep h h' ws ∧ Q v h' ∧ Steps p.tables e below (T.setTop g) (T'.setTop { g with pc := g.pc + 3, stack := v.toList ++ rest }) := by
  have hd := X.cd hd
  obtain ⟨vm0, k0, locs, a0, x1, rfl, x3, x4, x5, x6, x7, x8, x9, x10, x11, x12, CC⟩ := X
  obtain ⟨cq, kq, q1, q2, q3⟩ := isOf (s := s.setVm vm0) (T := T) x6 rfl E
  obtain ⟨v, vm₁, B, hW1, X', po, st⟩ := x1.virtualBack CC.1 x7 (mvT (s := s.setVm vm0) x6 w1) (mvT (s := s.setVm vm0) x6 w2) (notFace_of_selects (args := #[]) (mvT (s := s.setVm vm0) x6 w3)) (mvT (s := s.setVm vm0) x6 w3) (mvT (s := s.setVm vm0) x6 w4) hy (hK vm0 x6) q1 q3 hg (hsize.trans CC.2.2.1.symm) (Steps.refl _) hlen hstack hW hd (fun _ _ => ⟨ha, rfl, hc, hs⟩)
  obtain ⟨q1, q2, q3⟩ := Wk.aftN X' po x3 x4 x5 x6 x7 x8 x9 x10 x11 x12 CC hm
  exact ⟨v, _, _, q1, q2, q3, st⟩
theorem Wk.viW (X : Wk true p l e R s m args below meth c Z EL y bytes maxL ret n0 h0 T h sf cells slots) {C : String} (w1 : (Cond.methodLink y.cls index y').before a1 Z = true) (w2 : (Cond.declares y').before a1 Z = true) (w3 : (Cond.selects C y' y').before a1 Z = true) (w4 : (Cond.instanceMethod y').before a1 Z = true) (hy : y'.cls ≠ "java/lang/invoke/MethodHandle" ∧ y'.cls ≠ "java/lang/invoke/VarHandle")
    (hK : PayW l R p e below s args Z EL n0 y' 3 W as' h kc ks ws sv Q) (hm : ∀ x ∈ ws, x ∈ sf) (hv : ∀ x ∈ sv, x ∈ sf) {a : Addr} (E : Exa Z h a C) {g : JFrame} (hg : g.method = m) (hsize : g.locals.size = maxL) {argsL rest : List Value} (hlen : ∀ sig, parseMethodDescriptor y'.desc = some sig → argsL.length = sig.parameters.length) (hstack : g.stack = argsL.reverse ++ .ref a :: rest) (hW : 2 * g.monitorRoom + (rest.map fun v => v.category).sum ≤ W)
    (hd : decode bytes g.pc = .ok (.invokevirtual index, 3)) (ha : (.ref a :: argsL).toArray = as') (hc : cells + kc ≤ R.cells) (hs : slots + ks ≤ R.slots) :
    ∃ (v : Option Value) (T' : State) (h' : Heap), Wk true p l e R s m args below meth c Z EL y bytes maxL ret n0 h0 T' h' sf (cells + kc) (slots + ks) ∧ Keep h h' ws ∧ Q v h' ∧ Steps p.tables e below (T.setTop g) (T'.setTop { g with pc := g.pc + 3, stack := v.toList ++ rest }) := by
  have hd := X.cd hd
  obtain ⟨vm0, k0, locs, a0, x1, rfl, x3, x4, x5, x6, x7, x8, x9, x10, x11, x12, CC⟩ := X
  obtain ⟨cq, kq, q1, q2, q3⟩ := isOf (s := s.setVm vm0) (T := T) x6 rfl E
  obtain ⟨v, vm₁, B, hW1, X', hS, -, po, st⟩ := x1.virtualBackS CC.1 x7 (mvT (s := s.setVm vm0) x6 w1) (mvT (s := s.setVm vm0) x6 w2) (notFace_of_selects (args := #[]) (mvT (s := s.setVm vm0) x6 w3)) (mvT (s := s.setVm vm0) x6 w3) (mvT (s := s.setVm vm0) x6 w4) hy (hK vm0 x6 x9.1 (fun x hx => (x10 x (hv x hx)).2)) q1 q3 hg (hsize.trans CC.2.2.1.symm) (Steps.refl _) hlen hstack hW hd (fun _ _ => ⟨ha, rfl, hc, hs⟩)
  obtain ⟨q1, q2, q3⟩ := Wk.aftW X' hS po x4 x5 x6 x7 x8 x9 x10 x11 x12 CC hm
  exact ⟨v, _, _, q1, q2, q3, st⟩
end Calls
end OK
end Jvm.Pilot.@@N@@
namespace Jvm.Pilot.@@N@@
namespace OK
open Jvm Jvm.ClassFile Sem Op Lib Bundle Jvm.Stand Jvm.Free Jvm.LawKit Jvm.RoadKit
theorem ne_new {b a n : Nat} (l : b < n) (g : a = n) : b ≠ a := by omega
theorem ne_ge {b t n : Nat} (l : b < n) (g : n ≤ t) : b ≠ t := by omega
theorem own_nar_ref {v : Value} (hv : v.isRef = true) {t : FieldType} (ht : t.isReference = true) : narrow t v = v := by cases v <;> simp [Value.isRef] at hv <;> cases t <;> rfl
theorem own_fit_ref {v : Value} (hv : v.isRef = true) {t : FieldType} (ht : t.isReference = true) : fits t v = true := by cases v <;> simp [Value.isRef] at hv <;> cases t <;> simp [FieldType.isReference] at ht <;> rfl
theorem up255 (cs : List Int32) (h : ∀ c ∈ cs, ¬ c < 0 ∧ ¬ (255 : Int32) < c) : ∀ c ∈ cs, ¬ c < 0 ∧ ¬ (65535 : Int32) < c := fun c hc => ⟨(h c hc).1, fun q => (h c hc).2 (by rw [Int32.lt_iff_toInt_lt] at q ⊢; have e1 : (65535 : Int32).toInt = 65535 := rfl; have e2 : (255 : Int32).toInt = 255 := rfl; omega)⟩
theorem and255 (x : Int32) : ¬ (x &&& (255 : Int32)) < 0 ∧ ¬ (255 : Int32) < (x &&& (255 : Int32)) := by
  have t : ∀ k : Fin 256, ¬ (Int32.ofNat k.val) < 0 ∧ ¬ (255 : Int32) < (Int32.ofNat k.val) := by decide +kernel
  have h : (x &&& 255).toBitVec.toNat < 256 := by
    simp only [Int32.toBitVec_and, BitVec.toNat_and]
    exact Nat.lt_succ_of_le Nat.and_le_right
  have e : (x &&& 255) = Int32.ofNat (x &&& 255).toBitVec.toNat := by
    apply Int32.toBitVec_inj.mp
    show _ = BitVec.ofNat 32 _
    rw [BitVec.ofNat_toNat]; simp
  rw [e]
  exact t ⟨_, h⟩
theorem c255 (x : Int32) : ¬ (x &&& (255 : Int32)).toUInt32.toUInt16.toUInt32.toInt32 < 0 ∧ ¬ (255 : Int32) < (x &&& (255 : Int32)).toUInt32.toUInt16.toUInt32.toInt32 := by rw [i2c_mask]; exact and255 x
theorem nar_i2c (x : Int32) : nar .char x.toUInt32.toUInt16.toUInt32.toInt32 = x.toUInt32.toUInt16.toUInt32.toInt32 := by simp only [nar, UInt32.toUInt32_toInt32, UInt16.toUInt16_toUInt32]
theorem i2b_idem (c : Int32) : c.toInt8.toInt32.toInt8.toInt32 = c.toInt8.toInt32 := by simp
theorem all1 {P : Int32 → Prop} {a : Int32} {L : List Int32} (q : P a) (r : ∀ x ∈ L, P x) : ∀ x ∈ a :: L, P x := fun x z => (List.mem_cons.mp z).elim (fun u => u ▸ q) (r x)
theorem alln {P : Int32 → Prop} : ∀ x ∈ ([] : List Int32), P x := fun _ q => nomatch q
theorem z01_no {A B : Prop} {r : Int32} (h : (r = 1 ∧ A) ∨ (r = 0 ∧ B)) (z : r = 0) : B := by
  rcases h with ⟨q, _⟩ | ⟨_, q⟩
  · rw [z] at q; exact absurd q (by decide)
  · exact q
theorem z01_yes {A B : Prop} {r : Int32} (h : (r = 1 ∧ A) ∨ (r = 0 ∧ B)) (z : ¬ r = 0) : A := by
  rcases h with ⟨_, q⟩ | ⟨q, _⟩
  · exact q
  · exact absurd q z
theorem z01_b {A B : Prop} {p : Int32} (h : (p = 1 ∧ A) ∨ (p = 0 ∧ B)) : nar .boolean p = p := by rcases h with ⟨rfl, _⟩ | ⟨rfl, _⟩ <;> rfl
theorem z01_eq {A B : Prop} {r q : Int32} (h : A ↔ B) (h1 : (r = 1 ∧ A) ∨ (r = 0 ∧ ¬ A)) (h2 : (q = 1 ∧ B) ∨ (q = 0 ∧ ¬ B)) : r = q := by
  rcases h1 with ⟨rfl, a⟩ | ⟨rfl, a⟩ <;> rcases h2 with ⟨rfl, b⟩ | ⟨rfl, b⟩ <;> first | rfl | exact absurd (h.mp a) b | exact absurd (h.mpr b) a
/-- an object of C, a direct heir of Object, is no K, K another ordinary class -/
theorem notInst {Z : State} {a0 : Array Value} {C K : String} {n : Nat} (w : (Jvm.Cond.superclass C "java/lang/Object").before a0 Z = true) (w0 : (Jvm.Cond.noSuperclass "java/lang/Object").before a0 Z = true) (wi : (Jvm.Cond.instantiable K n).before a0 Z = true) (hn : C ≠ K) (hk : "java/lang/Object" ≠ K) : ∃ c t, Z.vm.findClass C = some c ∧ Z.vm.findClass K = some t ∧ Z.vm.assignable c t = false := by
  obtain ⟨c0, k0, a1, a2, a3, -, -⟩ := Cond.noSuperclass_spec w0
  obtain ⟨t, kt, b1, b2, b3, b4, -⟩ := Cond.instantiable_spec wi
  have ne0 := ids_ne a1 b1 hk
  have N0 : NS Z "java/lang/Object" K := ⟨c0, t, a1, b1, fun fuel => by
    cases fuel with
    | zero => rfl
    | succ f => simp [Vm.isSubclassAux, ne0, a2, a3]⟩
  obtain ⟨c, t', h0, g0, n3⟩ := NS.step w N0 hn
  cases b1.symm.trans g0
  obtain ⟨p, k, kp, h1, h2, h3, h4, h5, -, h7⟩ := Cond.superclass_spec h0 w
  have ne := ids_ne h0 g0 hn
  have b5 : kt.isInterface = false := by cases hq : kt.isInterface <;> simp [hq] at b4 ⊢
  refine ⟨c, t, h0, g0, ?_⟩
  show Z.vm.assignableAux (255 + 1) c t = false
  simp [Vm.assignableAux, ne, h2, b2, h5, b3, b5, Vm.isSubclass, n3]
/-- a String object at x whose byte[] lies at t and that spells cs -/
def Str (Z : State) (h : Heap) (x t : Addr) (cs : List Int32) : Prop := ∃ (kb : ClassId) (cd N : Int32) (vs : List Value), Exa Z h x "java/lang/String" ∧ Fld Z h x "java/lang/String" "value" "[B" (.ref t) ∧ Fld Z h x "java/lang/String" "coder" "B" (.int cd) ∧ Arv Z h t kb .byte N vs (.int 0) ∧ StrChars.Road.CodA cs cd N vs ∧ (∀ c ∈ cs, ¬ c < 0 ∧ ¬ (65535 : Int32) < c) ∧ cs.length ≤ 4000
section Strs
variable {Z : State} {h h' : Heap} {x t : Addr} {cs : List Int32} {ws : List Addr} {n0 : Nat} {a0 : Array Value} {l : Launch} {R : Room} {p : Program} {e : Env} {below : List Frame} {s : State} {args : Array Value} {len W : Nat}
theorem Str.ext (F : Str Z h x t cs) (E : Ext h h') : Str Z h' x t cs := by obtain ⟨kb, cd, N, vs, f1, f2, f3, f4, r⟩ := F; exact ⟨kb, cd, N, vs, f1.ext E, f2.ext E, f3.ext E, f4.ext E, r⟩
theorem Str.keep (F : Str Z h x t cs) (K : Keep h h' ws) (q1 : x ∉ ws) (q2 : t ∉ ws) : Str Z h' x t cs := by obtain ⟨kb, cd, N, vs, f1, f2, f3, f4, r⟩ := F; exact ⟨kb, cd, N, vs, f1.keep K, f2.keep K q1, f3.keep K q1, f4.keep K q2, r⟩
theorem Str.other {a : Addr} {sl : Nat} {v : Value} (F : Str Z h x t cs) (W : Wr h h' a sl v) (q1 : x ≠ a) (q2 : t ≠ a) : Str Z h' x t cs := F.keep (Keep.of_wr W) (ninS q1 nin0) (ninS q2 nin0)
theorem Str.exa (F : Str Z h x t cs) : Exa Z h x "java/lang/String" := by obtain ⟨kb, cd, N, vs, f1, -⟩ := F; exact f1
theorem Str.lt (F : Str Z h x t cs) : x < h.size := F.exa.lt
theorem Str.ltT (F : Str Z h x t cs) : t < h.size := by obtain ⟨kb, cd, N, vs, f1, f2, f3, f4, r⟩ := F; exact f4.lt
theorem Str.lit {kb : ClassId} {N : Int32} {vs : List Value} (f1 : Exa Z h x "java/lang/String") (f3 : Fld Z h x "java/lang/String" "coder" "B" (.int 0)) (f2 : Fld Z h x "java/lang/String" "value" "[B" (.ref t)) (f4 : Arv Z h t kb .byte N vs (.int 0)) (hN : N = Int32.ofNat cs.length) (hv : vs = cs.map fun c => Value.int (StrChars.lo8 c)) (hp : ∀ c ∈ cs, ¬ c < 0 ∧ ¬ (255 : Int32) < c) (hl : cs.length ≤ 4000) : Str Z h x t cs :=
  ⟨kb, 0, N, vs, f1, f2, f3, f4, Or.inl ⟨rfl, hN, hv, fun c hc => (hp c hc).2⟩, up255 cs hp, hl⟩
theorem payNew (hw : ∀ d ∈ StrChars.Road.words, d.before a0 Z = true) (wi : (Jvm.Cond.instantiable "java/lang/String" 4).before a0 Z = true) {bb : Addr} {kC : ClassId} {d v0 c0 : Value} {z N : Int32} {n : Nat} (hO : Old Z n0 h) (hx0 : n0 ≤ x) (E : Exa Z h x "java/lang/String") (V : Fld Z h x "java/lang/String" "value" "[B" v0) (C : Fld Z h x "java/lang/String" "coder" "B" c0) (K : Arv Z h bb kC .char N (cs.map Value.int) d) (S : Sta Z Z.heap "java/lang/String" "COMPACT_STRINGS" "Z" (.int z)) (hz : ¬ z = 0)
    (hn : cs.length = n) (hN : N = Int32.ofNat n) (l0 : 0 < n) (l2 : n ≤ 4000) (hp : ∀ c ∈ cs, ¬ c < 0 ∧ ¬ (255 : Int32) < c) (hfr : 4 ≤ R.frames) (hlo : W + 65 ≤ R.locals) :
    Pay l R p e below s args Z n0 (⟨"java/lang/String", "<init>", "([C)V"⟩ : MethodName) len W #[.ref x, .ref bb] h 1 n [x] (fun v h' => ∃ t : Addr, v = none ∧ h.size ≤ t ∧ t < h'.size ∧ Str Z h' x t cs) := fun vm0 hZ =>
  Back.mono (StrChars.Road.backV (s := s.setVm vm0) hZ hw wi hx0 (by rw [← hO.1]; exact hO.2.1) E V C K (S.ext hO.2) hz hn hN l0 l2 hp rfl hfr hlo) (fun P a hp => hp) (fun P a v B _ hq => by
    obtain ⟨L, ⟨q1, q2, q3, q4, q5, t, kb, t1, t2, t3, q6, q7⟩, hl, hc, hs⟩ := hq
    exact ⟨L, ⟨q3, ⟨t, q1, t2, q7.lt, kb, 0, N, _, q4, q6, q5, q7, hN ▸ StrChars.Road.codOf hn (fun c hc => (hp c hc).2), up255 cs hp, by omega⟩, q2⟩, hl, hc, hs⟩)
end Strs
end OK
end Jvm.Pilot.@@N@@
namespace Jvm.Pilot.@@N@@
namespace OK
open Jvm Jvm.ClassFile Sem Op Lib Bundle Jvm.Stand Jvm.Free Jvm.LawKit Jvm.RoadKit
theorem on_toInt {k : Nat} (h : k ≤ 100000) : (Int32.ofNat k).toInt = k := len_toInt (by omega)
theorem on_lt {a b : Nat} (ha : a ≤ 100000) (hb : b ≤ 100000) : Int32.ofNat a < Int32.ofNat b ↔ a < b := by rw [Int32.lt_iff_toInt_lt, on_toInt ha, on_toInt hb]; omega
theorem on_nn {a : Nat} (ha : a ≤ 100000) : ¬ Int32.ofNat a < 0 := by rw [Int32.lt_iff_toInt_lt, on_toInt ha]; have e : (0 : Int32).toInt = 0 := rfl; omega
theorem on_clamp {a : Nat} (ha : a ≤ 100000) : (Int32.ofNat a).toNatClampNeg = a := by simp only [Int32.toNatClampNeg, on_toInt ha]; omega
theorem on_succ (a : Nat) : Int32.ofNat a + (1 : Int32) = Int32.ofNat (a + 1) := by rw [Int32.ofNat_add]; rfl
theorem on_inj {a b : Nat} (ha : a ≤ 100000) (hb : b ≤ 100000) (h : Int32.ofNat a = Int32.ofNat b) : a = b := by have := congrArg Int32.toInt h; rw [on_toInt ha, on_toInt hb] at this; omega
theorem of255 {x : Int32} (h0 : ¬ x < 0) (h1 : ¬ 255 < x) : ∃ k : Fin 256, x = Int32.ofNat k.val := by
  rw [Int32.lt_iff_toInt_lt] at h0 h1
  have e0 : (0 : Int32).toInt = 0 := rfl
  have e1 : (255 : Int32).toInt = 255 := rfl
  exact ⟨⟨x.toInt.toNat, by omega⟩, by apply Int32.toInt_inj.mp; rw [on_toInt (by show x.toInt.toNat ≤ 100000; omega)]; show x.toInt = (x.toInt.toNat : Int); omega⟩
theorem lo8_back {x : Int32} (h0 : ¬ x < 0) (h1 : ¬ 255 < x) : x.toInt8.toInt32 &&& 255 = x := by
  have t : ∀ k : Fin 256, (Int32.ofNat k.val).toInt8.toInt32 &&& 255 = Int32.ofNat k.val := by decide +kernel
  obtain ⟨k, rfl⟩ := of255 h0 h1
  exact t k
theorem nar255 {x : Int32} (h : ¬ x < 0 ∧ ¬ (255 : Int32) < x) : nar .char x = x := by
  have t : ∀ k : Fin 256, nar .char (Int32.ofNat k.val) = Int32.ofNat k.val := by decide +kernel
  obtain ⟨k, rfl⟩ := of255 h.1 h.2
  exact t k
theorem lo8_inj' {x y : Int32} (h0 : ¬ x < 0) (h1 : ¬ 255 < x) (k0 : ¬ y < 0) (k1 : ¬ 255 < y) (h : x.toInt8.toInt32 = y.toInt8.toInt32) : x = y := by
  rw [← lo8_back h0 h1, ← lo8_back k0 k1, h]
theorem getD_lo8 (cs : List Int32) {k : Nat} (hk : k < cs.length) : (cs.map fun c => Value.int (StrChars.lo8 c)).getD k (.int 0) = .int ((cs.getD k 0).toInt8.toInt32) := by
  simp [List.getD_eq_getElem?_getD, hk, StrChars.lo8]
theorem getD_mem' {cs : List Int32} {k : Nat} (hk : k < cs.length) : cs.getD k 0 ∈ cs := by simp [List.getD_eq_getElem?_getD, hk]
theorem mem_getD' {cs : List Int32} {c : Int32} (h : c ∈ cs) : ∃ k, k < cs.length ∧ cs.getD k 0 = c := by
  obtain ⟨k, hk, e⟩ := List.mem_iff_getElem.mp h
  exact ⟨k, hk, by simp [List.getD_eq_getElem?_getD, hk, e]⟩
theorem nomore {cs : List Int32} {ci : Int32} {kk : Nat} (hno : ∀ j, j < kk → cs.getD j 0 ≠ ci) (hk : cs.getD kk 0 ≠ ci) : ∀ j, j < kk + 1 → cs.getD j 0 ≠ ci := fun j hj => by
  by_cases q : j < kk
  · exact hno j q
  · have z : j = kk := by omega
    subst z; exact hk
section StrL
variable {Z : State} {h h' : Heap} {x t : Addr} {cs : List Int32} {ws : List Addr} {n0 : Nat} {a0 : Array Value} {l : Launch} {R : Room} {p : Program} {e : Env} {below : List Frame} {s : State} {args : Array Value} {len W : Nat}
/-- a Latin-1 String, opened -/
theorem Str.lat (F : Str Z h x t cs) (hp : ∀ c ∈ cs, ¬ (255 : Int32) < c) : ∃ kb : ClassId, Fld Z h x "java/lang/String" "value" "[B" (.ref t) ∧ Fld Z h x "java/lang/String" "coder" "B" (.int (0 : Int32)) ∧ Arv Z h t kb .byte (Int32.ofNat cs.length) (cs.map fun c => Value.int (StrChars.lo8 c)) (.int (0 : Int32)) ∧ cs.length ≤ 4000 := by
  obtain ⟨kb, cd, N, vs, f1, f2, f3, f4, f5, f6, f7⟩ := F
  rcases f5 with ⟨rfl, rfl, rfl, -⟩ | ⟨-, -, -, c, hc, hw⟩
  · exact ⟨kb, f2, f3, f4, f7⟩
  · exact absurd hw (hp c hc)
theorem Str.lenLe (F : Str Z h x t cs) : cs.length ≤ 4000 := by obtain ⟨kb, cd, N, vs, f1, f2, f3, f4, f5, f6, f7⟩ := F; exact f7
theorem payLen (hw : ∀ d ∈ StrChars.Road.wordsLen, d.before a0 Z = true) (wi : (Jvm.Cond.instantiable "java/lang/String" 4).before a0 Z = true) (hO : Old Z n0 h) {z : Int32} (F : Str Z h x t cs) (S : Sta Z Z.heap "java/lang/String" "COMPACT_STRINGS" "Z" (.int z)) (hz : ¬ z = 0) (hfr : 2 ≤ R.frames) (hlo : W + 25 ≤ R.locals) :
    Pay l R p e below s args Z n0 (⟨"java/lang/String", "length", "()I"⟩ : MethodName) len W #[.ref x] h 0 0 [] (fun v h' => v = some (.int (Int32.ofNat cs.length)) ∧ h = h') := fun vm0 hZ => by
  obtain ⟨kb, cd, N, vs, f1, f2, f3, f4, f5, f6, f7⟩ := F
  refine Back.mono (StrChars.Road.lenW (s := s.setVm vm0) hZ hw wi f1 f2 f3 f4 f5 f6 (S.ext hO.2) hz f7 hfr hlo) (fun P a hp => hp) (fun P a v B _ hq => ?_)
  obtain ⟨L, ⟨q1, q2, q3⟩, hl, hc, hs⟩ := hq
  subst q2
  exact ⟨[], ⟨by rw [q3]; exact Keep.refl _ _, ⟨q1, q3.symm⟩, Fr.nil _⟩, hl, hc, hs⟩
end StrL
end OK
end Jvm.Pilot.@@N@@
namespace Jvm.Pilot.@@N@@
open Jvm Jvm.ClassFile Sem Op Lib Jvm.Free Jvm.Stand Jvm.LawKit Jvm.RoadKit Bundle Jvm.Pilot.@@N@@.Jvm.D Jvm.Pilot.@@N@@.OK
abbrev EL : List (String × Nat) := [("java/lang/String", 7)]
theorem own_SA {Z : State} {a0 : Array Value} (hw : ∀ d ∈ tables_1, d.before a0 Z = true) : ∀ a ∈ Bundle.stringAtoms, a.before a0 Z = true := fun d hd => hw d ((by decide +kernel : ∀ d ∈ Bundle.stringAtoms, d ∈ tables_1) d hd)
theorem own_EW {Z : State} {a0 : Array Value} (hw : ∀ d ∈ tables_1, d.before a0 Z = true) : EW Z a0 EL := (EW.cons (hw _ (List.mem_of_getElem? (i := 99) rfl)) (by decide) EW.nil)
theorem ef_rm_ne4 (m : MethodId) (x0 : Addr) (x1 : Addr) (x2 : Int32) (x3 : Int32) : entryFrame m #[(.ref x0), (.ref x1), (.int x2), (.int x3), .null] 6 = mkF m 0 #[.val (.ref x0), .val (.ref x1), .val (.int x2), .val (.int x3), .val .null, .unset] [] := by first | (simp [entryFrame, mkF, argsToLocals, Value.category]; done) | rfl
def Q_rm_ne4 (Z : State) (x : Addr) (bb : Addr) (av : Addr) (v0 : Value) (c0 : Value) (h0 : Heap) (ov : Option Value) (hz : Heap) : Prop := ∃ (t : Addr), ov = none ∧ Str Z hz x t [] ∧ (av ≠ t)
theorem pn_0 : plainName "java/lang/String" = true := by first | (simp [plainName, overriddenIn]; done) | decide +kernel
theorem d_jdk_42_method_149_0 : decode jdk_42_method_149_code 0 = .ok (.aload_n 0, 1) := by decide +kernel
theorem d_jdk_42_method_149_1 : decode jdk_42_method_149_code 1 = .ok (.invokespecial 1, 3) := by decide +kernel
theorem d_jdk_42_method_149_4 : decode jdk_42_method_149_code 4 = .ok (.iload_n 3, 1) := by decide +kernel
theorem d_jdk_42_method_149_5 : decode jdk_42_method_149_code 5 = .ok (.ifCond .ne 22, 3) := by decide +kernel
theorem d_jdk_42_method_149_8 : decode jdk_42_method_149_code 8 = .ok (.aload_n 0, 1) := by decide +kernel
theorem d_jdk_42_method_149_9 : decode jdk_42_method_149_code 9 = .ok (.ldc 7, 2) := by decide +kernel
theorem d_jdk_42_method_149_11 : decode jdk_42_method_149_code 11 = .ok (.getfield 9, 3) := by decide +kernel
theorem d_jdk_42_method_149_14 : decode jdk_42_method_149_code 14 = .ok (.putfield 9, 3) := by decide +kernel
theorem d_jdk_42_method_149_17 : decode jdk_42_method_149_code 17 = .ok (.aload_n 0, 1) := by decide +kernel
theorem d_jdk_42_method_149_18 : decode jdk_42_method_149_code 18 = .ok (.ldc 7, 2) := by decide +kernel
theorem d_jdk_42_method_149_20 : decode jdk_42_method_149_code 20 = .ok (.getfield 15, 3) := by decide +kernel
theorem d_jdk_42_method_149_23 : decode jdk_42_method_149_code 23 = .ok (.putfield 15, 3) := by decide +kernel
theorem d_jdk_42_method_149_26 : decode jdk_42_method_149_code 26 = .ok (.return_, 1) := by decide +kernel
abbrev RM_rm_ne4 : Room := { frames := 1, cells := 4, slots := 8, locals := 12 }
set_option maxRecDepth 65536 in
set_option maxHeartbeats 40000000 in
theorem rm_ne4 (l : Launch) (Z : State) (a0 : Array Value) (hw : ∀ d ∈ tables_1, d.before a0 Z = true) (n0 : Nat) (x : Addr) (bb : Addr) (av : Addr) (v0 : Value) (c0 : Value) (h0 : Heap) (hO : Old Z n0 h0) (pr0 : Exa Z h0 x "java/lang/String") (pr1 : Fld Z h0 x "java/lang/String" "value" "[B" v0) (pr2 : Fld Z h0 x "java/lang/String" "coder" "B" c0) (g_x : n0 ≤ x) (l_x : x < h0.size) (g_av : n0 ≤ av) (l_av : av < h0.size) :
    Cw l (⟨"java/lang/String", "<init>", "([CIILjava/lang/Void;)V"⟩ : MethodName) jdk_42_method_149_code 6 none [] RM_rm_ne4 Z EL n0 #[(.ref x), (.ref bb), (.int (0 : Int32)), (.int (0 : Int32)), .null] h0 [x] [x, av] (Q_rm_ne4 Z x bb av v0 c0 h0) := by
  refine Cw.of_walk (plainFor_of_name pn_0) hO (own_EW hw) (allS ⟨g_x, l_x⟩ (allS ⟨g_av, l_av⟩ all0)) ?_
  intro p e s m below meth c T0 X0
  rw [ef_rm_ne4 m x bb (0 : Int32) (0 : Int32)]
  show Go _ _ _ _ (T0.setTop (mkF m 0 #[.val (.ref x), .val (.ref bb), .val (.int (0 : Int32)), .val (.int (0 : Int32)), .val .null, .unset] []))
  refine Go.by (fun _ k => XS.aloadN X0.here X0.hx rfl (X0.cd d_jdk_42_method_149_0) rfl rfl k) ?_
  show Go _ _ _ _ (T0.setTop (mkF m 1 #[.val (.ref x), .val (.ref bb), .val (.int (0 : Int32)), .val (.int (0 : Int32)), .val .null, .unset] [(.ref x)]))
  obtain ⟨T1, X1, st1⟩ := X0.initO (hw _ (List.mem_of_getElem? (i := 11) rfl)) (hw _ (List.mem_of_getElem? (i := 12) rfl)) (hw _ (List.mem_of_getElem? (i := 13) rfl)) (g := (mkF m 1 #[.val (.ref x), .val (.ref bb), .val (.int (0 : Int32)), .val (.int (0 : Int32)), .val .null, .unset] [(.ref x)])) rfl rfl rfl d_jdk_42_method_149_1 (by decide) (W := 0) (by exact Nat.le_of_eq rfl) (by decide)
  refine Go.by st1 ?_
  show Go _ _ _ _ (T1.setTop (mkF m 4 #[.val (.ref x), .val (.ref bb), .val (.int (0 : Int32)), .val (.int (0 : Int32)), .val .null, .unset] []))
  refine Go.by (fun _ k => XS.iloadN X1.here X1.hx rfl (X1.cd d_jdk_42_method_149_4) rfl  k) ?_
  show Go _ _ _ _ (T1.setTop (mkF m 5 #[.val (.ref x), .val (.ref bb), .val (.int (0 : Int32)), .val (.int (0 : Int32)), .val .null, .unset] [(.int (0 : Int32))]))
  refine Go.by (fun _ k => XS.ifNo X1.here X1.hx rfl (X1.cd d_jdk_42_method_149_5) rfl (XT.i0_ne_f (by decide)) k) ?_
  show Go _ _ _ _ (T1.setTop (mkF m 8 #[.val (.ref x), .val (.ref bb), .val (.int (0 : Int32)), .val (.int (0 : Int32)), .val .null, .unset] []))
  refine Go.by (fun _ k => XS.aloadN X1.here X1.hx rfl (X1.cd d_jdk_42_method_149_8) rfl rfl k) ?_
  show Go _ _ _ _ (T1.setTop (mkF m 9 #[.val (.ref x), .val (.ref bb), .val (.int (0 : Int32)), .val (.int (0 : Int32)), .val .null, .unset] [(.ref x)]))
  obtain ⟨b2, t2, k2, T2, h2, X2, E2, L2, C2, V2, A2, ne2, st2⟩ := X1.ldcR (hw _ (List.mem_of_getElem? (i := 99) rfl)) (own_SA hw) (.head _) (vs := []) (z := (0 : Int32)) ⟨by decide, by decide⟩ (by decide) (by decide) (g := (mkF m 9 #[.val (.ref x), .val (.ref bb), .val (.int (0 : Int32)), .val (.int (0 : Int32)), .val .null, .unset] [(.ref x)])) rfl d_jdk_42_method_149_9 (n := 0) (by decide) (by decide) (by decide) (by decide)
  refine Go.by st2 ?_
  have K0_h2 : Keep h0 h2 [x] := (Keep.refl h0 [x]).ext E2
  have S2 : Str Z h2 b2 t2 [] := Str.lit L2 C2 V2 A2 (by decide) rfl (by decide) (by decide)
  show Go _ _ _ _ (T2.setTop (mkF m 11 #[.val (.ref x), .val (.ref bb), .val (.int (0 : Int32)), .val (.int (0 : Int32)), .val .null, .unset] [(.ref b2), (.ref x)]))
  obtain ⟨T3, X3, st3⟩ := X2.getF (host := "") (Or.inl (hw _ (List.mem_of_getElem? (i := 28) rfl))) Via.refl V2 (g := (mkF m 11 #[.val (.ref x), .val (.ref bb), .val (.int (0 : Int32)), .val (.int (0 : Int32)), .val .null, .unset] [(.ref b2), (.ref x)])) rfl rfl d_jdk_42_method_149_11
  refine Go.by st3 ?_
  show Go _ _ _ _ (T3.setTop (mkF m 14 #[.val (.ref x), .val (.ref bb), .val (.int (0 : Int32)), .val (.int (0 : Int32)), .val .null, .unset] [(.ref t2), (.ref x)]))
  have f5 : Fld Z h2 x "java/lang/String" "value" "[B" v0 := pr1.ext E2
  have f6 : Exa Z h2 x "java/lang/String" := pr0.ext E2
  obtain ⟨T4, h4, X4, W4, st4⟩ := X3.putF (host := "") (Or.inl (hw _ (List.mem_of_getElem? (i := 28) rfl))) Via.refl f5 f6 (Or.inr ⟨(hw _ (List.mem_of_getElem? (i := 29) rfl)), rfl, rfl⟩) (hw _ (List.mem_of_getElem? (i := 2) rfl)) (.head _) (ty := (.array .byte)) (by decide) rfl rfl (g := (mkF m 14 #[.val (.ref x), .val (.ref bb), .val (.int (0 : Int32)), .val (.int (0 : Int32)), .val .null, .unset] [(.ref t2), (.ref x)])) rfl rfl d_jdk_42_method_149_14
  refine Go.by st4 ?_
  have K0_h4 : Keep h0 h4 [x] := K0_h2.wr W4 (Or.inl (.head _))
  have F4 : Fld Z h4 x "java/lang/String" "value" "[B" (.ref t2) := f5.same W4
  show Go _ _ _ _ (T4.setTop (mkF m 17 #[.val (.ref x), .val (.ref bb), .val (.int (0 : Int32)), .val (.int (0 : Int32)), .val .null, .unset] []))
  refine Go.by (fun _ k => XS.aloadN X4.here X4.hx rfl (X4.cd d_jdk_42_method_149_17) rfl rfl k) ?_
  show Go _ _ _ _ (T4.setTop (mkF m 18 #[.val (.ref x), .val (.ref bb), .val (.int (0 : Int32)), .val (.int (0 : Int32)), .val .null, .unset] [(.ref x)]))
  obtain ⟨b7, t7, k7, T7, h7, X7, E7, L7, C7, V7, A7, ne7, st7⟩ := X4.ldcR (hw _ (List.mem_of_getElem? (i := 99) rfl)) (own_SA hw) (.head _) (vs := []) (z := (0 : Int32)) ⟨by decide, by decide⟩ (by decide) (by decide) (g := (mkF m 18 #[.val (.ref x), .val (.ref bb), .val (.int (0 : Int32)), .val (.int (0 : Int32)), .val .null, .unset] [(.ref x)])) rfl d_jdk_42_method_149_18 (n := 0) (by decide) (by decide) (by decide) (by decide)
  refine Go.by st7 ?_
  have K0_h7 : Keep h0 h7 [x] := K0_h4.ext E7
  have S7 : Str Z h7 b7 t7 [] := Str.lit L7 C7 V7 A7 (by decide) rfl (by decide) (by decide)
  show Go _ _ _ _ (T7.setTop (mkF m 20 #[.val (.ref x), .val (.ref bb), .val (.int (0 : Int32)), .val (.int (0 : Int32)), .val .null, .unset] [(.ref b7), (.ref x)]))
  obtain ⟨T8, X8, st8⟩ := X7.getF (host := "") (Or.inl (hw _ (List.mem_of_getElem? (i := 26) rfl))) Via.refl C7 (g := (mkF m 20 #[.val (.ref x), .val (.ref bb), .val (.int (0 : Int32)), .val (.int (0 : Int32)), .val .null, .unset] [(.ref b7), (.ref x)])) rfl rfl d_jdk_42_method_149_20
  refine Go.by st8 ?_
  show Go _ _ _ _ (T8.setTop (mkF m 23 #[.val (.ref x), .val (.ref bb), .val (.int (0 : Int32)), .val (.int (0 : Int32)), .val .null, .unset] [(.int (0 : Int32)), (.ref x)]))
  have f10 : Fld Z h7 x "java/lang/String" "coder" "B" c0 := ((pr2.ext E2).other W4 (Or.inr (slot_ne (Or.inr (hw _ (List.mem_of_getElem? (i := 27) rfl))) (Or.inr (hw _ (List.mem_of_getElem? (i := 29) rfl))) (by decide) (t := .byte) (t' := (.array .byte)) (by decide) (by decide)))).ext E7
  have f11 : Exa Z h7 x "java/lang/String" := ((f6).wr W4).ext E7
  obtain ⟨T9, h9, X9, W9, st9⟩ := X8.putFN (hw _ (List.mem_of_getElem? (i := 26) rfl)) Via.refl f10 f11 (Or.inr ⟨(hw _ (List.mem_of_getElem? (i := 27) rfl)), rfl, rfl⟩) (hw _ (List.mem_of_getElem? (i := 2) rfl)) (.head _) (ty := .byte) (v' := .int (0 : Int32)) (by decide) rfl rfl (g := (mkF m 23 #[.val (.ref x), .val (.ref bb), .val (.int (0 : Int32)), .val (.int (0 : Int32)), .val .null, .unset] [(.int (0 : Int32)), (.ref x)])) rfl rfl d_jdk_42_method_149_23
  refine Go.by st9 ?_
  have K0_h9 : Keep h0 h9 [x] := K0_h7.wr W9 (Or.inl (.head _))
  have F9 : Fld Z h9 x "java/lang/String" "coder" "B" (.int (0 : Int32)) := f10.same W9
  show Go _ _ _ _ (T9.setTop (mkF m 26 #[.val (.ref x), .val (.ref bb), .val (.int (0 : Int32)), .val (.int (0 : Int32)), .val .null, .unset] []))
  have f13 : Exa Z h9 x "java/lang/String" := (f11).wr W9
  have f14 : Fld Z h9 x "java/lang/String" "value" "[B" (.ref t2) := (F4.ext E7).other W9 (Or.inr (slot_ne (Or.inr (hw _ (List.mem_of_getElem? (i := 29) rfl))) (Or.inr (hw _ (List.mem_of_getElem? (i := 27) rfl))) (by decide) (t := (.array .byte)) (t' := .byte) (by decide) (by decide)))
  have f15 : Arv Z h9 t2 k2 .byte (0 : Int32) [] (.int (0 : Int32)) := (((A2).other W4 ((ne2 x (.head _)).2).symm).ext E7).other W9 ((ne2 x (.head _)).2).symm
  have S12 : Str Z h9 x t2 [] := Str.lit f13 F9 f14 f15 (by decide) rfl (by decide) (by decide)
  exact X9.retV d_jdk_42_method_149_26 K0_h9 ⟨t2, rfl, S12, (ne2 av (.tail _ (.head _))).2⟩ (by decide) (by decide)
theorem ef_rm_ne1 (m : MethodId) (x0 : Addr) (x1 : Addr) : entryFrame m #[(.ref x0), (.ref x1)] 2 = mkF m 0 #[.val (.ref x0), .val (.ref x1)] [] := by first | (simp [entryFrame, mkF, argsToLocals, Value.category]; done) | rfl
def Q_rm_ne1 (Z : State) (x : Addr) (bb : Addr) (av : Addr) (kC : ClassId) (vs : List Value) (v0 : Value) (c0 : Value) (h0 : Heap) (ov : Option Value) (hz : Heap) : Prop := ∃ (t : Addr), ov = none ∧ Str Z hz x t [] ∧ (av ≠ t)
theorem d_jdk_42_method_3_0 : decode jdk_42_method_3_code 0 = .ok (.aload_n 0, 1) := by decide +kernel
theorem d_jdk_42_method_3_1 : decode jdk_42_method_3_code 1 = .ok (.aload_n 1, 1) := by decide +kernel
theorem d_jdk_42_method_3_2 : decode jdk_42_method_3_code 2 = .ok (.iconst 0, 1) := by decide +kernel
theorem d_jdk_42_method_3_3 : decode jdk_42_method_3_code 3 = .ok (.aload_n 1, 1) := by decide +kernel
theorem d_jdk_42_method_3_4 : decode jdk_42_method_3_code 4 = .ok (.arraylength, 1) := by decide +kernel
theorem d_jdk_42_method_3_5 : decode jdk_42_method_3_code 5 = .ok (.aconst_null, 1) := by decide +kernel
theorem pd_0 : parseMethodDescriptor "([CIILjava/lang/Void;)V" = some ⟨[(.array .char), .int, .int, (.object "java/lang/Void")], none⟩ := by decide +kernel
theorem d_jdk_42_method_3_6 : decode jdk_42_method_3_code 6 = .ok (.invokespecial 27, 3) := by decide +kernel
theorem d_jdk_42_method_3_9 : decode jdk_42_method_3_code 9 = .ok (.return_, 1) := by decide +kernel
abbrev RM_rm_ne1 : Room := { frames := 2, cells := 4, slots := 8, locals := 29 }
set_option maxRecDepth 65536 in
set_option maxHeartbeats 40000000 in
theorem rm_ne1 (l : Launch) (Z : State) (a0 : Array Value) (hw : ∀ d ∈ tables_1, d.before a0 Z = true) (n0 : Nat) (x : Addr) (bb : Addr) (av : Addr) (kC : ClassId) (vs : List Value) (v0 : Value) (c0 : Value) (h0 : Heap) (hO : Old Z n0 h0) (pr0 : Exa Z h0 x "java/lang/String") (pr1 : Fld Z h0 x "java/lang/String" "value" "[B" v0) (pr2 : Fld Z h0 x "java/lang/String" "coder" "B" c0) (pr3 : Arv Z h0 bb kC .char (0 : Int32) vs (.int (0 : Int32))) (g_x : n0 ≤ x) (l_x : x < h0.size) (g_av : n0 ≤ av) (l_av : av < h0.size) :
    Cw l (⟨"java/lang/String", "<init>", "([C)V"⟩ : MethodName) jdk_42_method_3_code 2 none [] RM_rm_ne1 Z EL n0 #[(.ref x), (.ref bb)] h0 [x] [x, av] (Q_rm_ne1 Z x bb av kC vs v0 c0 h0) := by
  refine Cw.of_walk (plainFor_of_name pn_0) hO (own_EW hw) (allS ⟨g_x, l_x⟩ (allS ⟨g_av, l_av⟩ all0)) ?_
  intro p e s m below meth c T0 X0
  rw [ef_rm_ne1 m x bb]
  show Go _ _ _ _ (T0.setTop (mkF m 0 #[.val (.ref x), .val (.ref bb)] []))
  refine Go.by (fun _ k => XS.aloadN X0.here X0.hx rfl (X0.cd d_jdk_42_method_3_0) rfl rfl k) ?_
  show Go _ _ _ _ (T0.setTop (mkF m 1 #[.val (.ref x), .val (.ref bb)] [(.ref x)]))
  refine Go.by (fun _ k => XS.aloadN X0.here X0.hx rfl (X0.cd d_jdk_42_method_3_1) rfl rfl k) ?_
  show Go _ _ _ _ (T0.setTop (mkF m 2 #[.val (.ref x), .val (.ref bb)] [(.ref bb), (.ref x)]))
  refine Go.by (fun _ k => XS.iconst X0.here X0.hx rfl (X0.cd d_jdk_42_method_3_2)  k) ?_
  show Go _ _ _ _ (T0.setTop (mkF m 3 #[.val (.ref x), .val (.ref bb)] [(.int (0 : Int32)), (.ref bb), (.ref x)]))
  refine Go.by (fun _ k => XS.aloadN X0.here X0.hx rfl (X0.cd d_jdk_42_method_3_3) rfl rfl k) ?_
  show Go _ _ _ _ (T0.setTop (mkF m 4 #[.val (.ref x), .val (.ref bb)] [(.ref bb), (.int (0 : Int32)), (.ref bb), (.ref x)]))
  refine Go.by (fun _ k => X0.len pr3 (g := (mkF m 4 #[.val (.ref x), .val (.ref bb)] [(.ref bb), (.int (0 : Int32)), (.ref bb), (.ref x)])) rfl rfl d_jdk_42_method_3_4 _ k) ?_
  show Go _ _ _ _ (T0.setTop (mkF m 5 #[.val (.ref x), .val (.ref bb)] [(.int (0 : Int32)), (.int (0 : Int32)), (.ref bb), (.ref x)]))
  refine Go.by (fun _ k => XS.aconstNull X0.here X0.hx rfl (X0.cd d_jdk_42_method_3_5)  k) ?_
  show Go _ _ _ _ (T0.setTop (mkF m 6 #[.val (.ref x), .val (.ref bb)] [.null, (.int (0 : Int32)), (.int (0 : Int32)), (.ref bb), (.ref x)]))
  obtain ⟨_, T1, h1, X1, K1, ⟨t_1, rfl, P1_0, p1_0⟩, st1⟩ := X0.spW (W := 0) rfl (hw _ (List.mem_of_getElem? (i := 7) rfl)) (hw _ (List.mem_of_getElem? (i := 8) rfl)) (hw _ (List.mem_of_getElem? (i := 10) rfl)) (by decide) ((rm_ne4 l Z a0 hw n0 x bb av v0 c0 h0 X0.old pr0 pr1 pr2 (X0.ge (.head _)) (X0.lt (.head _)) (X0.ge (.tail _ (.head _))) (X0.lt (.tail _ (.head _)))).pay (hw _ (List.mem_of_getElem? (i := 10) rfl)) (hw _ (List.mem_of_getElem? (i := 3) rfl)) (own_EW hw) (by decide) (by decide)) (allS (.head _) all0) (allS (.head _) (allS (.tail _ (.head _)) all0)) (g := (mkF m 6 #[.val (.ref x), .val (.ref bb)] [.null, (.int (0 : Int32)), (.int (0 : Int32)), (.ref bb), (.ref x)])) rfl rfl (a := x) (argsL := [(.ref bb), (.int (0 : Int32)), (.int (0 : Int32)), .null]) (rest := []) (lenOf pd_0 rfl) rfl (by exact Nat.le_of_eq rfl) d_jdk_42_method_3_6 rfl (by decide) (by decide)
  refine Go.tr st1 ?_
  have K0_h1 : Keep h0 h1 [x] := (Keep.refl h0 [x]).trans K1 (allS (Or.inl (.head _)) all0)
  show Go _ _ _ _ (T1.setTop (mkF m 9 #[.val (.ref x), .val (.ref bb)] []))
  exact X1.retV d_jdk_42_method_3_9 K0_h1 ⟨t_1, rfl, P1_0, p1_0⟩ (by decide) (by decide)
def own_min (a b : Int32) : Int32 := if b < a then b else a
def own_max (a b : Int32) : Int32 := if a < b then b else a
theorem ef_rm_min (m : MethodId) (x0 : Int32) (x1 : Int32) : entryFrame m #[(.int x0), (.int x1)] 2 = mkF m 0 #[.val (.int x0), .val (.int x1)] [] := by first | (simp [entryFrame, mkF, argsToLocals, Value.category]; done) | rfl
def Q_rm_min (Z : State) (a : Int32) (b : Int32) (h0 : Heap) (ov : Option Value) (hz : Heap) : Prop := ov = some (.int (own_min a b)) ∧ h0 = hz
theorem pf_min_112 : plainFor (⟨"java/lang/Math", "min", "(II)I"⟩ : MethodName) = true := by decide +kernel
theorem d_jdk_29_method_69_0 : decode jdk_29_method_69_code 0 = .ok (.iload_n 0, 1) := by decide +kernel
theorem d_jdk_29_method_69_1 : decode jdk_29_method_69_code 1 = .ok (.iload_n 1, 1) := by decide +kernel
theorem d_jdk_29_method_69_2 : decode jdk_29_method_69_code 2 = .ok (.if_icmp .gt 7, 3) := by decide +kernel
theorem d_jdk_29_method_69_9 : decode jdk_29_method_69_code 9 = .ok (.iload_n 1, 1) := by decide +kernel
theorem d_jdk_29_method_69_10 : decode jdk_29_method_69_code 10 = .ok (.ireturn, 1) := by decide +kernel
theorem d_jdk_29_method_69_5 : decode jdk_29_method_69_code 5 = .ok (.iload_n 0, 1) := by decide +kernel
theorem d_jdk_29_method_69_6 : decode jdk_29_method_69_code 6 = .ok (.goto 4, 3) := by decide +kernel
abbrev RM_rm_min : Room := { frames := 0, cells := 0, slots := 0, locals := 0 }
set_option maxRecDepth 65536 in
set_option maxHeartbeats 40000000 in
theorem rm_min (l : Launch) (Z : State) (a0 : Array Value) (hw : ∀ d ∈ tables_1, d.before a0 Z = true) (n0 : Nat) (a : Int32) (b : Int32) (h0 : Heap) (hO : Old Z n0 h0)  :
    Ct l (⟨"java/lang/Math", "min", "(II)I"⟩ : MethodName) jdk_29_method_69_code 2 (some .int) [] RM_rm_min Z n0 #[(.int a), (.int b)] h0 [] (Q_rm_min Z a b h0) := by
  refine Ct.of_walk pf_min_112 hO all0 ?_
  intro p e s m below meth c T0 X0
  rw [ef_rm_min m a b]
  show Go _ _ _ _ (T0.setTop (mkF m 0 #[.val (.int a), .val (.int b)] []))
  refine Go.by (fun _ k => XS.iloadN X0.here X0.hx rfl (X0.cd d_jdk_29_method_69_0) rfl  k) ?_
  show Go _ _ _ _ (T0.setTop (mkF m 1 #[.val (.int a), .val (.int b)] [(.int a)]))
  refine Go.by (fun _ k => XS.iloadN X0.here X0.hx rfl (X0.cd d_jdk_29_method_69_1) rfl  k) ?_
  show Go _ _ _ _ (T0.setTop (mkF m 2 #[.val (.int a), .val (.int b)] [(.int b), (.int a)]))
  by_cases cq : b < a
  · refine Go.by (fun _ k => XS.icmpYes X0.here X0.hx rfl (pc0 := 2) (pc' := 9) rfl (X0.cd d_jdk_29_method_69_2) rfl (XT.ii_gt_t cq) (by decide) (by decide) k) ?_
    show Go _ _ _ _ (T0.setTop (mkF m 9 #[.val (.int a), .val (.int b)] []))
    refine Go.by (fun _ k => XS.iloadN X0.here X0.hx rfl (X0.cd d_jdk_29_method_69_9) rfl  k) ?_
    show Go _ _ _ _ (T0.setTop (mkF m 10 #[.val (.int a), .val (.int b)] [(.int b)]))
    exact X0.retI d_jdk_29_method_69_10 (Keep.refl h0 []) ⟨(congrArg (fun z => some (Value.int z)) ((if_pos cq).symm)), rfl⟩ (by decide) (by decide)
  · refine Go.by (fun _ k => XS.icmpNo X0.here X0.hx rfl (X0.cd d_jdk_29_method_69_2) rfl (XT.ii_gt_f cq) k) ?_
    show Go _ _ _ _ (T0.setTop (mkF m 5 #[.val (.int a), .val (.int b)] []))
    refine Go.by (fun _ k => XS.iloadN X0.here X0.hx rfl (X0.cd d_jdk_29_method_69_5) rfl  k) ?_
    show Go _ _ _ _ (T0.setTop (mkF m 6 #[.val (.int a), .val (.int b)] [(.int a)]))
    refine Go.by (fun _ k => XS.goto X0.here X0.hx rfl (pc0 := 6) (pc' := 10) rfl (X0.cd d_jdk_29_method_69_6) (by decide) (by decide) k) ?_
    show Go _ _ _ _ (T0.setTop (mkF m 10 #[.val (.int a), .val (.int b)] [(.int a)]))
    exact X0.retI d_jdk_29_method_69_10 (Keep.refl h0 []) ⟨(congrArg (fun z => some (Value.int z)) ((if_neg cq).symm)), rfl⟩ (by decide) (by decide)
theorem ef_rm_max (m : MethodId) (x0 : Int32) (x1 : Int32) : entryFrame m #[(.int x0), (.int x1)] 2 = mkF m 0 #[.val (.int x0), .val (.int x1)] [] := by first | (simp [entryFrame, mkF, argsToLocals, Value.category]; done) | rfl
def Q_rm_max (Z : State) (a : Int32) (b : Int32) (h0 : Heap) (ov : Option Value) (hz : Heap) : Prop := ov = some (.int (own_max a b)) ∧ h0 = hz
theorem pf_max_147 : plainFor (⟨"java/lang/Math", "max", "(II)I"⟩ : MethodName) = true := by decide +kernel
theorem d_jdk_29_method_65_0 : decode jdk_29_method_65_code 0 = .ok (.iload_n 0, 1) := by decide +kernel
theorem d_jdk_29_method_65_1 : decode jdk_29_method_65_code 1 = .ok (.iload_n 1, 1) := by decide +kernel
theorem d_jdk_29_method_65_2 : decode jdk_29_method_65_code 2 = .ok (.if_icmp .lt 7, 3) := by decide +kernel
theorem d_jdk_29_method_65_9 : decode jdk_29_method_65_code 9 = .ok (.iload_n 1, 1) := by decide +kernel
theorem d_jdk_29_method_65_10 : decode jdk_29_method_65_code 10 = .ok (.ireturn, 1) := by decide +kernel
theorem d_jdk_29_method_65_5 : decode jdk_29_method_65_code 5 = .ok (.iload_n 0, 1) := by decide +kernel
theorem d_jdk_29_method_65_6 : decode jdk_29_method_65_code 6 = .ok (.goto 4, 3) := by decide +kernel
abbrev RM_rm_max : Room := { frames := 0, cells := 0, slots := 0, locals := 0 }
set_option maxRecDepth 65536 in
set_option maxHeartbeats 40000000 in
theorem rm_max (l : Launch) (Z : State) (a0 : Array Value) (hw : ∀ d ∈ tables_1, d.before a0 Z = true) (n0 : Nat) (a : Int32) (b : Int32) (h0 : Heap) (hO : Old Z n0 h0)  :
    Ct l (⟨"java/lang/Math", "max", "(II)I"⟩ : MethodName) jdk_29_method_65_code 2 (some .int) [] RM_rm_max Z n0 #[(.int a), (.int b)] h0 [] (Q_rm_max Z a b h0) := by
  refine Ct.of_walk pf_max_147 hO all0 ?_
  intro p e s m below meth c T0 X0
  rw [ef_rm_max m a b]
  show Go _ _ _ _ (T0.setTop (mkF m 0 #[.val (.int a), .val (.int b)] []))
  refine Go.by (fun _ k => XS.iloadN X0.here X0.hx rfl (X0.cd d_jdk_29_method_65_0) rfl  k) ?_
  show Go _ _ _ _ (T0.setTop (mkF m 1 #[.val (.int a), .val (.int b)] [(.int a)]))
  refine Go.by (fun _ k => XS.iloadN X0.here X0.hx rfl (X0.cd d_jdk_29_method_65_1) rfl  k) ?_
  show Go _ _ _ _ (T0.setTop (mkF m 2 #[.val (.int a), .val (.int b)] [(.int b), (.int a)]))
  by_cases cq : a < b
  · refine Go.by (fun _ k => XS.icmpYes X0.here X0.hx rfl (pc0 := 2) (pc' := 9) rfl (X0.cd d_jdk_29_method_65_2) rfl (XT.ii_lt_t cq) (by decide) (by decide) k) ?_
    show Go _ _ _ _ (T0.setTop (mkF m 9 #[.val (.int a), .val (.int b)] []))
    refine Go.by (fun _ k => XS.iloadN X0.here X0.hx rfl (X0.cd d_jdk_29_method_65_9) rfl  k) ?_
    show Go _ _ _ _ (T0.setTop (mkF m 10 #[.val (.int a), .val (.int b)] [(.int b)]))
    exact X0.retI d_jdk_29_method_65_10 (Keep.refl h0 []) ⟨(congrArg (fun z => some (Value.int z)) ((if_pos cq).symm)), rfl⟩ (by decide) (by decide)
  · refine Go.by (fun _ k => XS.icmpNo X0.here X0.hx rfl (X0.cd d_jdk_29_method_65_2) rfl (XT.ii_lt_f cq) k) ?_
    show Go _ _ _ _ (T0.setTop (mkF m 5 #[.val (.int a), .val (.int b)] []))
    refine Go.by (fun _ k => XS.iloadN X0.here X0.hx rfl (X0.cd d_jdk_29_method_65_5) rfl  k) ?_
    show Go _ _ _ _ (T0.setTop (mkF m 6 #[.val (.int a), .val (.int b)] [(.int a)]))
    refine Go.by (fun _ k => XS.goto X0.here X0.hx rfl (pc0 := 6) (pc' := 10) rfl (X0.cd d_jdk_29_method_65_6) (by decide) (by decide) k) ?_
    show Go _ _ _ _ (T0.setTop (mkF m 10 #[.val (.int a), .val (.int b)] [(.int a)]))
    exact X0.retI d_jdk_29_method_65_10 (Keep.refl h0 []) ⟨(congrArg (fun z => some (Value.int z)) ((if_neg cq).symm)), rfl⟩ (by decide) (by decide)
theorem ef_rm_ixc (m : MethodId) (x0 : Addr) (x1 : Int32) (x2 : Int32) (x3 : Int32) : entryFrame m #[(.ref x0), (.int x1), (.int x2), (.int x3)] 6 = mkF m 0 #[.val (.ref x0), .val (.int x1), .val (.int x2), .val (.int x3), .unset, .unset] [] := by first | (simp [entryFrame, mkF, argsToLocals, Value.category]; done) | rfl
def Q_rm_ixc (Z : State) (t : Addr) (kb : ClassId) (ci : Int32) (cs : List Int32) (h0 : Heap) (ov : Option Value) (hz : Heap) : Prop := ∃ (r : Int32), ov = some (.int r) ∧ h0 = hz ∧ ((¬ r < 0 ∧ ci ∈ cs) ∨ (r < 0 ∧ ¬ ci ∈ cs))
theorem pn_1 : plainName "java/lang/StringLatin1" = true := by first | (simp [plainName, overriddenIn]; done) | decide +kernel
theorem d_jdk_43_method_23_0 : decode jdk_43_method_23_code 0 = .ok (.iload_n 1, 1) := by decide +kernel
theorem d_jdk_43_method_23_1 : decode jdk_43_method_23_code 1 = .ok (.i2b, 1) := by decide +kernel
theorem d_jdk_43_method_23_2 : decode jdk_43_method_23_code 2 = .ok (.istore 4, 2) := by decide +kernel
theorem d_jdk_43_method_23_4 : decode jdk_43_method_23_code 4 = .ok (.iload_n 2, 1) := by decide +kernel
theorem d_jdk_43_method_23_5 : decode jdk_43_method_23_code 5 = .ok (.istore 5, 2) := by decide +kernel
theorem d_jdk_43_method_23_7 : decode jdk_43_method_23_code 7 = .ok (.iload 5, 2) := by decide +kernel
theorem d_jdk_43_method_23_9 : decode jdk_43_method_23_code 9 = .ok (.iload_n 3, 1) := by decide +kernel
theorem d_jdk_43_method_23_10 : decode jdk_43_method_23_code 10 = .ok (.if_icmp .ge 21, 3) := by decide +kernel
theorem d_jdk_43_method_23_31 : decode jdk_43_method_23_code 31 = .ok (.iconst (-1), 1) := by decide +kernel
theorem d_jdk_43_method_23_32 : decode jdk_43_method_23_code 32 = .ok (.ireturn, 1) := by decide +kernel
theorem d_jdk_43_method_23_13 : decode jdk_43_method_23_code 13 = .ok (.aload_n 0, 1) := by decide +kernel
theorem d_jdk_43_method_23_14 : decode jdk_43_method_23_code 14 = .ok (.iload 5, 2) := by decide +kernel
theorem d_jdk_43_method_23_16 : decode jdk_43_method_23_code 16 = .ok (.baload, 1) := by decide +kernel
theorem d_jdk_43_method_23_17 : decode jdk_43_method_23_code 17 = .ok (.iload 4, 2) := by decide +kernel
theorem d_jdk_43_method_23_19 : decode jdk_43_method_23_code 19 = .ok (.if_icmp .ne 6, 3) := by decide +kernel
theorem d_jdk_43_method_23_22 : decode jdk_43_method_23_code 22 = .ok (.iload 5, 2) := by decide +kernel
theorem d_jdk_43_method_23_24 : decode jdk_43_method_23_code 24 = .ok (.ireturn, 1) := by decide +kernel
theorem d_jdk_43_method_23_25 : decode jdk_43_method_23_code 25 = .ok (.iinc 5 1, 3) := by decide +kernel
theorem d_jdk_43_method_23_28 : decode jdk_43_method_23_code 28 = .ok (.goto (-21), 3) := by decide +kernel
abbrev RM_rm_ixc : Room := { frames := 0, cells := 0, slots := 0, locals := 0 }
set_option maxRecDepth 65536 in
set_option maxHeartbeats 40000000 in
theorem rm_ixc (l : Launch) (Z : State) (a0 : Array Value) (hw : ∀ d ∈ tables_1, d.before a0 Z = true) (n0 : Nat) (t : Addr) (kb : ClassId) (ci : Int32) (cs : List Int32) (h0 : Heap) (hO : Old Z n0 h0) (pr0 : Arv Z h0 t kb .byte (Int32.ofNat (cs).length) ((cs).map fun c => Value.int (StrChars.lo8 c)) (.int (0 : Int32))) (hp : ∀ c ∈ cs, ¬ c < 0 ∧ ¬ (255 : Int32) < c) (hci : ¬ ci < 0 ∧ ¬ (255 : Int32) < ci) (hl : cs.length ≤ 4000) :
    Ct l (⟨"java/lang/StringLatin1", "indexOfChar", "([BIII)I"⟩ : MethodName) jdk_43_method_23_code 6 (some .int) [] RM_rm_ixc Z n0 #[(.ref t), (.int ci), (.int (0 : Int32)), (.int (Int32.ofNat (cs).length))] h0 [] (Q_rm_ixc Z t kb ci cs h0) := by
  refine Ct.of_walk (plainFor_of_name pn_1) hO all0 ?_
  intro p e s m below meth c T0 X0
  rw [ef_rm_ixc m t ci (0 : Int32) (Int32.ofNat (cs).length)]
  show Go _ _ _ _ (T0.setTop (mkF m 0 #[.val (.ref t), .val (.int ci), .val (.int (0 : Int32)), .val (.int (Int32.ofNat (cs).length)), .unset, .unset] []))
  refine Go.by (fun _ k => XS.iloadN X0.here X0.hx rfl (X0.cd d_jdk_43_method_23_0) rfl  k) ?_
  show Go _ _ _ _ (T0.setTop (mkF m 1 #[.val (.ref t), .val (.int ci), .val (.int (0 : Int32)), .val (.int (Int32.ofNat (cs).length)), .unset, .unset] [(.int ci)]))
  refine Go.by (fun _ k => XS.i2b X0.here X0.hx rfl (X0.cd d_jdk_43_method_23_1) rfl k) ?_
  show Go _ _ _ _ (T0.setTop (mkF m 2 #[.val (.ref t), .val (.int ci), .val (.int (0 : Int32)), .val (.int (Int32.ofNat (cs).length)), .unset, .unset] [(.int ((ci).toInt8.toInt32))]))
  refine Go.by (fun _ k => XS.istore X0.here X0.hx rfl (X0.cd d_jdk_43_method_23_2) rfl (l' := #[.val (.ref t), .val (.int ci), .val (.int (0 : Int32)), .val (.int (Int32.ofNat (cs).length)), .val (.int ((ci).toInt8.toInt32)), .unset]) rfl k) ?_
  show Go _ _ _ _ (T0.setTop (mkF m 4 #[.val (.ref t), .val (.int ci), .val (.int (0 : Int32)), .val (.int (Int32.ofNat (cs).length)), .val (.int ((ci).toInt8.toInt32)), .unset] []))
  refine Go.by (fun _ k => XS.iloadN X0.here X0.hx rfl (X0.cd d_jdk_43_method_23_4) rfl  k) ?_
  show Go _ _ _ _ (T0.setTop (mkF m 5 #[.val (.ref t), .val (.int ci), .val (.int (0 : Int32)), .val (.int (Int32.ofNat (cs).length)), .val (.int ((ci).toInt8.toInt32)), .unset] [(.int (0 : Int32))]))
  refine Go.by (fun _ k => XS.istore X0.here X0.hx rfl (X0.cd d_jdk_43_method_23_5) rfl (l' := #[.val (.ref t), .val (.int ci), .val (.int (0 : Int32)), .val (.int (Int32.ofNat (cs).length)), .val (.int ((ci).toInt8.toInt32)), .val (.int (0 : Int32))]) rfl k) ?_
  show Go _ _ _ _ (T0.setTop (mkF m 7 #[.val (.ref t), .val (.int ci), .val (.int (0 : Int32)), .val (.int (Int32.ofNat (cs).length)), .val (.int ((ci).toInt8.toInt32)), .val (.int (0 : Int32))] []))
  have loop : ∀ (mm kk : Nat), kk + mm = cs.length → (∀ j, j < kk → cs.getD j 0 ≠ ci) → Go p e below (Fi false RM_rm_ixc s Z [] n0 h0 [] (Q_rm_ixc Z t kb ci cs h0)) (T0.setTop (mkF m 7 #[.val (.ref t), .val (.int ci), .val (.int (0 : Int32)), .val (.int (Int32.ofNat (cs).length)), .val (.int ((ci).toInt8.toInt32)), .val (.int (Int32.ofNat kk))] [])) := by
    intro mm
    induction mm with
    | zero =>
      intro kk hk hno
      refine Go.by (fun _ k => XS.iload X0.here X0.hx rfl (X0.cd d_jdk_43_method_23_7) rfl  k) ?_
      show Go _ _ _ _ (T0.setTop (mkF m 9 #[.val (.ref t), .val (.int ci), .val (.int (0 : Int32)), .val (.int (Int32.ofNat (cs).length)), .val (.int ((ci).toInt8.toInt32)), .val (.int (Int32.ofNat kk))] [(.int (Int32.ofNat kk))]))
      refine Go.by (fun _ k => XS.iloadN X0.here X0.hx rfl (X0.cd d_jdk_43_method_23_9) rfl  k) ?_
      show Go _ _ _ _ (T0.setTop (mkF m 10 #[.val (.ref t), .val (.int ci), .val (.int (0 : Int32)), .val (.int (Int32.ofNat (cs).length)), .val (.int ((ci).toInt8.toInt32)), .val (.int (Int32.ofNat kk))] [(.int (Int32.ofNat (cs).length)), (.int (Int32.ofNat kk))]))
      refine Go.by (fun _ k => XS.icmpYes X0.here X0.hx rfl (pc0 := 10) (pc' := 31) rfl (X0.cd d_jdk_43_method_23_10) rfl (XT.ii_ge_t (fun q => by have := (on_lt (by omega) (by omega)).mp q; omega)) (by decide) (by decide) k) ?_
      show Go _ _ _ _ (T0.setTop (mkF m 31 #[.val (.ref t), .val (.int ci), .val (.int (0 : Int32)), .val (.int (Int32.ofNat (cs).length)), .val (.int ((ci).toInt8.toInt32)), .val (.int (Int32.ofNat kk))] []))
      refine Go.by (fun _ k => XS.iconst X0.here X0.hx rfl (X0.cd d_jdk_43_method_23_31)  k) ?_
      show Go _ _ _ _ (T0.setTop (mkF m 32 #[.val (.ref t), .val (.int ci), .val (.int (0 : Int32)), .val (.int (Int32.ofNat (cs).length)), .val (.int ((ci).toInt8.toInt32)), .val (.int (Int32.ofNat kk))] [(.int (-1 : Int32))]))
      exact X0.retI d_jdk_43_method_23_32 (Keep.refl h0 []) ⟨(-1 : Int32), rfl, rfl, Or.inr ⟨by decide, fun z => by obtain ⟨j, hj, e⟩ := mem_getD' z; exact hno j (by omega) e⟩⟩ (by decide) (by decide)
    | succ mm ih =>
      intro kk hk hno
      refine Go.by (fun _ k => XS.iload X0.here X0.hx rfl (X0.cd d_jdk_43_method_23_7) rfl  k) ?_
      show Go _ _ _ _ (T0.setTop (mkF m 9 #[.val (.ref t), .val (.int ci), .val (.int (0 : Int32)), .val (.int (Int32.ofNat (cs).length)), .val (.int ((ci).toInt8.toInt32)), .val (.int (Int32.ofNat kk))] [(.int (Int32.ofNat kk))]))
      refine Go.by (fun _ k => XS.iloadN X0.here X0.hx rfl (X0.cd d_jdk_43_method_23_9) rfl  k) ?_
      show Go _ _ _ _ (T0.setTop (mkF m 10 #[.val (.ref t), .val (.int ci), .val (.int (0 : Int32)), .val (.int (Int32.ofNat (cs).length)), .val (.int ((ci).toInt8.toInt32)), .val (.int (Int32.ofNat kk))] [(.int (Int32.ofNat (cs).length)), (.int (Int32.ofNat kk))]))
      refine Go.by (fun _ k => XS.icmpNo X0.here X0.hx rfl (X0.cd d_jdk_43_method_23_10) rfl (XT.ii_ge_f ((on_lt (by omega) (by omega)).mpr (by omega))) k) ?_
      show Go _ _ _ _ (T0.setTop (mkF m 13 #[.val (.ref t), .val (.int ci), .val (.int (0 : Int32)), .val (.int (Int32.ofNat (cs).length)), .val (.int ((ci).toInt8.toInt32)), .val (.int (Int32.ofNat kk))] []))
      refine Go.by (fun _ k => XS.aloadN X0.here X0.hx rfl (X0.cd d_jdk_43_method_23_13) rfl rfl k) ?_
      show Go _ _ _ _ (T0.setTop (mkF m 14 #[.val (.ref t), .val (.int ci), .val (.int (0 : Int32)), .val (.int (Int32.ofNat (cs).length)), .val (.int ((ci).toInt8.toInt32)), .val (.int (Int32.ofNat kk))] [(.ref t)]))
      refine Go.by (fun _ k => XS.iload X0.here X0.hx rfl (X0.cd d_jdk_43_method_23_14) rfl  k) ?_
      show Go _ _ _ _ (T0.setTop (mkF m 16 #[.val (.ref t), .val (.int ci), .val (.int (0 : Int32)), .val (.int (Int32.ofNat (cs).length)), .val (.int ((ci).toInt8.toInt32)), .val (.int (Int32.ofNat kk))] [(.int (Int32.ofNat kk)), (.ref t)]))
      refine Go.by (fun _ k => X0.ldA pr0 ⟨on_nn (by omega), (on_lt (by omega) (by omega)).mpr (by omega)⟩ (v := (.int ((cs.getD kk 0).toInt8.toInt32))) (by rw [on_clamp (by omega)]; exact getD_lo8 cs (by omega)) (Or.inr (Or.inr (Or.inl ⟨rfl, rfl⟩))) (g := (mkF m 16 #[.val (.ref t), .val (.int ci), .val (.int (0 : Int32)), .val (.int (Int32.ofNat (cs).length)), .val (.int ((ci).toInt8.toInt32)), .val (.int (Int32.ofNat kk))] [(.int (Int32.ofNat kk)), (.ref t)])) rfl rfl d_jdk_43_method_23_16 _ k) ?_
      show Go _ _ _ _ (T0.setTop (mkF m 17 #[.val (.ref t), .val (.int ci), .val (.int (0 : Int32)), .val (.int (Int32.ofNat (cs).length)), .val (.int ((ci).toInt8.toInt32)), .val (.int (Int32.ofNat kk))] [(.int ((cs.getD kk 0).toInt8.toInt32))]))
      refine Go.by (fun _ k => XS.iload X0.here X0.hx rfl (X0.cd d_jdk_43_method_23_17) rfl  k) ?_
      show Go _ _ _ _ (T0.setTop (mkF m 19 #[.val (.ref t), .val (.int ci), .val (.int (0 : Int32)), .val (.int (Int32.ofNat (cs).length)), .val (.int ((ci).toInt8.toInt32)), .val (.int (Int32.ofNat kk))] [(.int ((ci).toInt8.toInt32)), (.int ((cs.getD kk 0).toInt8.toInt32))]))
      by_cases ce : ((cs.getD kk 0).toInt8.toInt32) = ((ci).toInt8.toInt32)
      · refine Go.by (fun _ k => XS.icmpNo X0.here X0.hx rfl (X0.cd d_jdk_43_method_23_19) rfl (XT.ii_ne_f ce) k) ?_
        show Go _ _ _ _ (T0.setTop (mkF m 22 #[.val (.ref t), .val (.int ci), .val (.int (0 : Int32)), .val (.int (Int32.ofNat (cs).length)), .val (.int ((ci).toInt8.toInt32)), .val (.int (Int32.ofNat kk))] []))
        refine Go.by (fun _ k => XS.iload X0.here X0.hx rfl (X0.cd d_jdk_43_method_23_22) rfl  k) ?_
        show Go _ _ _ _ (T0.setTop (mkF m 24 #[.val (.ref t), .val (.int ci), .val (.int (0 : Int32)), .val (.int (Int32.ofNat (cs).length)), .val (.int ((ci).toInt8.toInt32)), .val (.int (Int32.ofNat kk))] [(.int (Int32.ofNat kk))]))
        exact X0.retI d_jdk_43_method_23_24 (Keep.refl h0 []) ⟨(Int32.ofNat kk), rfl, rfl, Or.inl ⟨on_nn (by omega), by have q := hp _ (getD_mem' (cs := cs) (k := kk) (by omega)); rw [← lo8_inj' q.1 q.2 hci.1 hci.2 ce]; exact getD_mem' (by omega)⟩⟩ (by decide) (by decide)
      · refine Go.by (fun _ k => XS.icmpYes X0.here X0.hx rfl (pc0 := 19) (pc' := 25) rfl (X0.cd d_jdk_43_method_23_19) rfl (XT.ii_ne_t ce) (by decide) (by decide) k) ?_
        show Go _ _ _ _ (T0.setTop (mkF m 25 #[.val (.ref t), .val (.int ci), .val (.int (0 : Int32)), .val (.int (Int32.ofNat (cs).length)), .val (.int ((ci).toInt8.toInt32)), .val (.int (Int32.ofNat kk))] []))
        refine Go.by (fun _ k => XS.iinc X0.here X0.hx rfl (X0.cd d_jdk_43_method_23_25) rfl (l' := #[.val (.ref t), .val (.int ci), .val (.int (0 : Int32)), .val (.int (Int32.ofNat (cs).length)), .val (.int ((ci).toInt8.toInt32)), .val (.int ((Int32.ofNat kk) + (1 : Int32)))]) rfl k) ?_
        show Go _ _ _ _ (T0.setTop (mkF m 28 #[.val (.ref t), .val (.int ci), .val (.int (0 : Int32)), .val (.int (Int32.ofNat (cs).length)), .val (.int ((ci).toInt8.toInt32)), .val (.int ((Int32.ofNat kk) + (1 : Int32)))] []))
        refine Go.by (fun _ k => XS.goto X0.here X0.hx rfl (pc0 := 28) (pc' := 7) rfl (X0.cd d_jdk_43_method_23_28) (by decide) (by decide) k) ?_
        show Go _ _ _ _ (T0.setTop (mkF m 7 #[.val (.ref t), .val (.int ci), .val (.int (0 : Int32)), .val (.int (Int32.ofNat (cs).length)), .val (.int ((ci).toInt8.toInt32)), .val (.int ((Int32.ofNat kk) + (1 : Int32)))] []))
        rw [on_succ]
        exact ih (kk + 1) (by omega) (nomore hno (fun e => ce (by rw [e])))
  exact loop cs.length 0 (by omega) (fun j hj => absurd hj (Nat.not_lt_zero _))
theorem ef_rm_cei (m : MethodId) (x0 : Int32) : entryFrame m #[(.int x0)] 1 = mkF m 0 #[.val (.int x0)] [] := by first | (simp [entryFrame, mkF, argsToLocals, Value.category]; done) | rfl
def Q_rm_cei (Z : State) (ci : Int32) (h0 : Heap) (ov : Option Value) (hz : Heap) : Prop := ∃ (r : Int32), ov = some (.int r) ∧ h0 = hz ∧ ((r = 1 ∧ ¬ ci < 0 ∧ ¬ (255 : Int32) < ci) ∨ (r = 0 ∧ ¬ (¬ ci < 0 ∧ ¬ (255 : Int32) < ci)))
theorem d_jdk_43_method_4_0 : decode jdk_43_method_4_code 0 = .ok (.iload_n 0, 1) := by decide +kernel
theorem d_jdk_43_method_4_1 : decode jdk_43_method_4_code 1 = .ok (.ifCond .lt 14, 3) := by decide +kernel
theorem d_jdk_43_method_4_15 : decode jdk_43_method_4_code 15 = .ok (.iconst 0, 1) := by decide +kernel
theorem d_jdk_43_method_4_16 : decode jdk_43_method_4_code 16 = .ok (.ireturn, 1) := by decide +kernel
theorem d_jdk_43_method_4_4 : decode jdk_43_method_4_code 4 = .ok (.iload_n 0, 1) := by decide +kernel
theorem d_jdk_43_method_4_5 : decode jdk_43_method_4_code 5 = .ok (.sipush 255, 3) := by decide +kernel
theorem d_jdk_43_method_4_8 : decode jdk_43_method_4_code 8 = .ok (.if_icmp .gt 7, 3) := by decide +kernel
theorem d_jdk_43_method_4_11 : decode jdk_43_method_4_code 11 = .ok (.iconst 1, 1) := by decide +kernel
theorem d_jdk_43_method_4_12 : decode jdk_43_method_4_code 12 = .ok (.goto 4, 3) := by decide +kernel
abbrev RM_rm_cei : Room := { frames := 0, cells := 0, slots := 0, locals := 0 }
set_option maxRecDepth 65536 in
set_option maxHeartbeats 40000000 in
theorem rm_cei (l : Launch) (Z : State) (a0 : Array Value) (hw : ∀ d ∈ tables_1, d.before a0 Z = true) (n0 : Nat) (ci : Int32) (h0 : Heap) (hO : Old Z n0 h0)  :
    Ct l (⟨"java/lang/StringLatin1", "canEncode", "(I)Z"⟩ : MethodName) jdk_43_method_4_code 1 (some .boolean) [] RM_rm_cei Z n0 #[(.int ci)] h0 [] (Q_rm_cei Z ci h0) := by
  refine Ct.of_walk (plainFor_of_name pn_1) hO all0 ?_
  intro p e s m below meth c T0 X0
  rw [ef_rm_cei m ci]
  show Go _ _ _ _ (T0.setTop (mkF m 0 #[.val (.int ci)] []))
  refine Go.by (fun _ k => XS.iloadN X0.here X0.hx rfl (X0.cd d_jdk_43_method_4_0) rfl  k) ?_
  show Go _ _ _ _ (T0.setTop (mkF m 1 #[.val (.int ci)] [(.int ci)]))
  by_cases c1 : ci < 0
  · refine Go.by (fun _ k => XS.ifYes X0.here X0.hx rfl (pc0 := 1) (pc' := 15) rfl (X0.cd d_jdk_43_method_4_1) rfl (XT.i0_lt_t c1) (by decide) (by decide) k) ?_
    show Go _ _ _ _ (T0.setTop (mkF m 15 #[.val (.int ci)] []))
    refine Go.by (fun _ k => XS.iconst X0.here X0.hx rfl (X0.cd d_jdk_43_method_4_15)  k) ?_
    show Go _ _ _ _ (T0.setTop (mkF m 16 #[.val (.int ci)] [(.int (0 : Int32))]))
    exact X0.retN (by simp) rfl d_jdk_43_method_4_16 (Keep.refl h0 []) ⟨(0 : Int32), rfl, rfl, Or.inr ⟨rfl, fun z => z.1 c1⟩⟩ (by decide) (by decide)
  · refine Go.by (fun _ k => XS.ifNo X0.here X0.hx rfl (X0.cd d_jdk_43_method_4_1) rfl (XT.i0_lt_f c1) k) ?_
    show Go _ _ _ _ (T0.setTop (mkF m 4 #[.val (.int ci)] []))
    refine Go.by (fun _ k => XS.iloadN X0.here X0.hx rfl (X0.cd d_jdk_43_method_4_4) rfl  k) ?_
    show Go _ _ _ _ (T0.setTop (mkF m 5 #[.val (.int ci)] [(.int ci)]))
    refine Go.by (fun _ k => XS.sipush X0.here X0.hx rfl (X0.cd d_jdk_43_method_4_5)  k) ?_
    show Go _ _ _ _ (T0.setTop (mkF m 8 #[.val (.int ci)] [(.int (255 : Int32)), (.int ci)]))
    by_cases c2 : (255 : Int32) < ci
    · refine Go.by (fun _ k => XS.icmpYes X0.here X0.hx rfl (pc0 := 8) (pc' := 15) rfl (X0.cd d_jdk_43_method_4_8) rfl (XT.ii_gt_t c2) (by decide) (by decide) k) ?_
      show Go _ _ _ _ (T0.setTop (mkF m 15 #[.val (.int ci)] []))
      refine Go.by (fun _ k => XS.iconst X0.here X0.hx rfl (X0.cd d_jdk_43_method_4_15)  k) ?_
      show Go _ _ _ _ (T0.setTop (mkF m 16 #[.val (.int ci)] [(.int (0 : Int32))]))
      exact X0.retN (by simp) rfl d_jdk_43_method_4_16 (Keep.refl h0 []) ⟨(0 : Int32), rfl, rfl, Or.inr ⟨rfl, fun z => z.2 c2⟩⟩ (by decide) (by decide)
    · refine Go.by (fun _ k => XS.icmpNo X0.here X0.hx rfl (X0.cd d_jdk_43_method_4_8) rfl (XT.ii_gt_f c2) k) ?_
      show Go _ _ _ _ (T0.setTop (mkF m 11 #[.val (.int ci)] []))
      refine Go.by (fun _ k => XS.iconst X0.here X0.hx rfl (X0.cd d_jdk_43_method_4_11)  k) ?_
      show Go _ _ _ _ (T0.setTop (mkF m 12 #[.val (.int ci)] [(.int (1 : Int32))]))
      refine Go.by (fun _ k => XS.goto X0.here X0.hx rfl (pc0 := 12) (pc' := 16) rfl (X0.cd d_jdk_43_method_4_12) (by decide) (by decide) k) ?_
      show Go _ _ _ _ (T0.setTop (mkF m 16 #[.val (.int ci)] [(.int (1 : Int32))]))
      exact X0.retN (by simp) rfl d_jdk_43_method_4_16 (Keep.refl h0 []) ⟨(1 : Int32), rfl, rfl, Or.inl ⟨rfl, c1, c2⟩⟩ (by decide) (by decide)
theorem own_min_self (a : Int32) : own_min a a = a := by unfold own_min; split <;> rfl
theorem ef_rm_ixl (m : MethodId) (x0 : Addr) (x1 : Int32) (x2 : Int32) (x3 : Int32) : entryFrame m #[(.ref x0), (.int x1), (.int x2), (.int x3)] 4 = mkF m 0 #[.val (.ref x0), .val (.int x1), .val (.int x2), .val (.int x3)] [] := by first | (simp [entryFrame, mkF, argsToLocals, Value.category]; done) | rfl
def Q_rm_ixl (Z : State) (t : Addr) (kb : ClassId) (ci : Int32) (cs : List Int32) (h0 : Heap) (ov : Option Value) (hz : Heap) : Prop := ∃ (r : Int32), ov = some (.int r) ∧ h0 = hz ∧ ((¬ r < 0 ∧ ci ∈ cs) ∨ (r < 0 ∧ ¬ ci ∈ cs))
theorem d_jdk_43_method_22_0 : decode jdk_43_method_22_code 0 = .ok (.iload_n 1, 1) := by decide +kernel
theorem pd_1 : parseMethodDescriptor "(I)Z" = some ⟨[.int], some .boolean⟩ := by decide +kernel
theorem d_jdk_43_method_22_1 : decode jdk_43_method_22_code 1 = .ok (.invokestatic 88, 3) := by decide +kernel
theorem d_jdk_43_method_22_4 : decode jdk_43_method_22_code 4 = .ok (.ifCond .ne 5, 3) := by decide +kernel
theorem d_jdk_43_method_22_7 : decode jdk_43_method_22_code 7 = .ok (.iconst (-1), 1) := by decide +kernel
theorem d_jdk_43_method_22_8 : decode jdk_43_method_22_code 8 = .ok (.ireturn, 1) := by decide +kernel
theorem d_jdk_43_method_22_9 : decode jdk_43_method_22_code 9 = .ok (.iload_n 2, 1) := by decide +kernel
theorem d_jdk_43_method_22_10 : decode jdk_43_method_22_code 10 = .ok (.iconst 0, 1) := by decide +kernel
theorem pd_2 : parseMethodDescriptor "(II)I" = some ⟨[.int, .int], some .int⟩ := by decide +kernel
theorem d_jdk_43_method_22_11 : decode jdk_43_method_22_code 11 = .ok (.invokestatic 92, 3) := by decide +kernel
theorem d_jdk_43_method_22_14 : decode jdk_43_method_22_code 14 = .ok (.istore_n 2, 1) := by decide +kernel
theorem d_jdk_43_method_22_15 : decode jdk_43_method_22_code 15 = .ok (.iload_n 3, 1) := by decide +kernel
theorem d_jdk_43_method_22_16 : decode jdk_43_method_22_code 16 = .ok (.aload_n 0, 1) := by decide +kernel
theorem d_jdk_43_method_22_17 : decode jdk_43_method_22_code 17 = .ok (.arraylength, 1) := by decide +kernel
theorem d_jdk_43_method_22_18 : decode jdk_43_method_22_code 18 = .ok (.invokestatic 38, 3) := by decide +kernel
theorem d_jdk_43_method_22_21 : decode jdk_43_method_22_code 21 = .ok (.istore_n 3, 1) := by decide +kernel
theorem d_jdk_43_method_22_22 : decode jdk_43_method_22_code 22 = .ok (.iload_n 2, 1) := by decide +kernel
theorem d_jdk_43_method_22_23 : decode jdk_43_method_22_code 23 = .ok (.iload_n 3, 1) := by decide +kernel
theorem d_jdk_43_method_22_24 : decode jdk_43_method_22_code 24 = .ok (.if_icmp .lt 5, 3) := by decide +kernel
theorem d_jdk_43_method_22_29 : decode jdk_43_method_22_code 29 = .ok (.aload_n 0, 1) := by decide +kernel
theorem d_jdk_43_method_22_30 : decode jdk_43_method_22_code 30 = .ok (.iload_n 1, 1) := by decide +kernel
theorem d_jdk_43_method_22_31 : decode jdk_43_method_22_code 31 = .ok (.iload_n 2, 1) := by decide +kernel
theorem d_jdk_43_method_22_32 : decode jdk_43_method_22_code 32 = .ok (.iload_n 3, 1) := by decide +kernel
theorem pd_3 : parseMethodDescriptor "([BIII)I" = some ⟨[(.array .byte), .int, .int, .int], some .int⟩ := by decide +kernel
theorem d_jdk_43_method_22_33 : decode jdk_43_method_22_code 33 = .ok (.invokestatic 95, 3) := by decide +kernel
theorem d_jdk_43_method_22_36 : decode jdk_43_method_22_code 36 = .ok (.ireturn, 1) := by decide +kernel
theorem d_jdk_43_method_22_27 : decode jdk_43_method_22_code 27 = .ok (.iconst (-1), 1) := by decide +kernel
theorem d_jdk_43_method_22_28 : decode jdk_43_method_22_code 28 = .ok (.ireturn, 1) := by decide +kernel
abbrev RM_rm_ixl : Room := { frames := 1, cells := 0, slots := 0, locals := 17 }
set_option maxRecDepth 65536 in
set_option maxHeartbeats 40000000 in
theorem rm_ixl (l : Launch) (Z : State) (a0 : Array Value) (hw : ∀ d ∈ tables_1, d.before a0 Z = true) (n0 : Nat) (t : Addr) (kb : ClassId) (ci : Int32) (cs : List Int32) (h0 : Heap) (hO : Old Z n0 h0) (pr0 : Arv Z h0 t kb .byte (Int32.ofNat (cs).length) ((cs).map fun c => Value.int (StrChars.lo8 c)) (.int (0 : Int32))) (hp : ∀ c ∈ cs, ¬ c < 0 ∧ ¬ (255 : Int32) < c) (hl : cs.length ≤ 4000) :
    Ct l (⟨"java/lang/StringLatin1", "indexOf", "([BIII)I"⟩ : MethodName) jdk_43_method_22_code 4 (some .int) [] RM_rm_ixl Z n0 #[(.ref t), (.int ci), (.int (0 : Int32)), (.int (Int32.ofNat (cs).length))] h0 [] (Q_rm_ixl Z t kb ci cs h0) := by
  refine Ct.of_walk (plainFor_of_name pn_1) hO all0 ?_
  intro p e s m below meth c T0 X0
  rw [ef_rm_ixl m t ci (0 : Int32) (Int32.ofNat (cs).length)]
  show Go _ _ _ _ (T0.setTop (mkF m 0 #[.val (.ref t), .val (.int ci), .val (.int (0 : Int32)), .val (.int (Int32.ofNat (cs).length))] []))
  refine Go.by (fun _ k => XS.iloadN X0.here X0.hx rfl (X0.cd d_jdk_43_method_22_0) rfl  k) ?_
  show Go _ _ _ _ (T0.setTop (mkF m 1 #[.val (.ref t), .val (.int ci), .val (.int (0 : Int32)), .val (.int (Int32.ofNat (cs).length))] [(.int ci)]))
  obtain ⟨_, T1, h1, X1, K1, ⟨r_1, rfl, rfl, p1_0⟩, st1⟩ := X0.stN (W := 0) (hw _ (List.mem_of_getElem? (i := 85) rfl)) (hw _ (List.mem_of_getElem? (i := 86) rfl)) (hw _ (List.mem_of_getElem? (i := 83) rfl)) (hw _ (List.mem_of_getElem? (i := 87) rfl)) (by decide) ((rm_cei l Z a0 hw n0 ci h0 X0.old ).pay (hw _ (List.mem_of_getElem? (i := 87) rfl)) (hw _ (List.mem_of_getElem? (i := 83) rfl)) (by decide) (by decide)) all0 (g := (mkF m 1 #[.val (.ref t), .val (.int ci), .val (.int (0 : Int32)), .val (.int (Int32.ofNat (cs).length))] [(.int ci)])) rfl rfl (argsL := [(.int ci)]) (rest := []) (lenOf pd_1 rfl) rfl (by exact Nat.le_of_eq rfl) d_jdk_43_method_22_1 rfl (by decide) (by decide)
  refine Go.tr st1 ?_
  show Go _ _ _ _ (T1.setTop (mkF m 4 #[.val (.ref t), .val (.int ci), .val (.int (0 : Int32)), .val (.int (Int32.ofNat (cs).length))] [(.int r_1)]))
  by_cases c0 : r_1 = 0
  · refine Go.by (fun _ k => XS.ifNo X1.here X1.hx rfl (X1.cd d_jdk_43_method_22_4) rfl (XT.i0_ne_f c0) k) ?_
    show Go _ _ _ _ (T1.setTop (mkF m 7 #[.val (.ref t), .val (.int ci), .val (.int (0 : Int32)), .val (.int (Int32.ofNat (cs).length))] []))
    refine Go.by (fun _ k => XS.iconst X1.here X1.hx rfl (X1.cd d_jdk_43_method_22_7)  k) ?_
    show Go _ _ _ _ (T1.setTop (mkF m 8 #[.val (.ref t), .val (.int ci), .val (.int (0 : Int32)), .val (.int (Int32.ofNat (cs).length))] [(.int (-1 : Int32))]))
    exact X1.retI d_jdk_43_method_22_8 (Keep.refl h0 []) ⟨(-1 : Int32), rfl, rfl, Or.inr ⟨by decide, fun z => z01_no p1_0 c0 (hp _ z)⟩⟩ (by decide) (by decide)
  · refine Go.by (fun _ k => XS.ifYes X1.here X1.hx rfl (pc0 := 4) (pc' := 9) rfl (X1.cd d_jdk_43_method_22_4) rfl (XT.i0_ne_t c0) (by decide) (by decide) k) ?_
    show Go _ _ _ _ (T1.setTop (mkF m 9 #[.val (.ref t), .val (.int ci), .val (.int (0 : Int32)), .val (.int (Int32.ofNat (cs).length))] []))
    refine Go.by (fun _ k => XS.iloadN X1.here X1.hx rfl (X1.cd d_jdk_43_method_22_9) rfl  k) ?_
    show Go _ _ _ _ (T1.setTop (mkF m 10 #[.val (.ref t), .val (.int ci), .val (.int (0 : Int32)), .val (.int (Int32.ofNat (cs).length))] [(.int (0 : Int32))]))
    refine Go.by (fun _ k => XS.iconst X1.here X1.hx rfl (X1.cd d_jdk_43_method_22_10)  k) ?_
    show Go _ _ _ _ (T1.setTop (mkF m 11 #[.val (.ref t), .val (.int ci), .val (.int (0 : Int32)), .val (.int (Int32.ofNat (cs).length))] [(.int (0 : Int32)), (.int (0 : Int32))]))
    obtain ⟨_, T2, h2, X2, K2, ⟨rfl, rfl⟩, st2⟩ := X1.stN (W := 0) (hw _ (List.mem_of_getElem? (i := 88) rfl)) (hw _ (List.mem_of_getElem? (i := 89) rfl)) (hw _ (List.mem_of_getElem? (i := 90) rfl)) (hw _ (List.mem_of_getElem? (i := 91) rfl)) (by decide) ((rm_max l Z a0 hw n0 (0 : Int32) (0 : Int32) h0 X1.old ).pay (hw _ (List.mem_of_getElem? (i := 91) rfl)) (hw _ (List.mem_of_getElem? (i := 90) rfl)) (by decide) (by decide)) all0 (g := (mkF m 11 #[.val (.ref t), .val (.int ci), .val (.int (0 : Int32)), .val (.int (Int32.ofNat (cs).length))] [(.int (0 : Int32)), (.int (0 : Int32))])) rfl rfl (argsL := [(.int (0 : Int32)), (.int (0 : Int32))]) (rest := []) (lenOf pd_2 rfl) rfl (by exact Nat.le_of_eq rfl) d_jdk_43_method_22_11 rfl (by decide) (by decide)
    refine Go.tr st2 ?_
    show Go _ _ _ _ (T2.setTop (mkF m 14 #[.val (.ref t), .val (.int ci), .val (.int (0 : Int32)), .val (.int (Int32.ofNat (cs).length))] [(.int (own_max (0 : Int32) (0 : Int32)))]))
    show Go _ _ _ _ (T2.setTop (mkF m 14 #[.val (.ref t), .val (.int ci), .val (.int (0 : Int32)), .val (.int (Int32.ofNat (cs).length))] [(.int (0 : Int32))]))
    refine Go.by (fun _ k => XS.istoreN X2.here X2.hx rfl (X2.cd d_jdk_43_method_22_14) rfl (l' := #[.val (.ref t), .val (.int ci), .val (.int (0 : Int32)), .val (.int (Int32.ofNat (cs).length))]) rfl k) ?_
    show Go _ _ _ _ (T2.setTop (mkF m 15 #[.val (.ref t), .val (.int ci), .val (.int (0 : Int32)), .val (.int (Int32.ofNat (cs).length))] []))
    refine Go.by (fun _ k => XS.iloadN X2.here X2.hx rfl (X2.cd d_jdk_43_method_22_15) rfl  k) ?_
    show Go _ _ _ _ (T2.setTop (mkF m 16 #[.val (.ref t), .val (.int ci), .val (.int (0 : Int32)), .val (.int (Int32.ofNat (cs).length))] [(.int (Int32.ofNat (cs).length))]))
    refine Go.by (fun _ k => XS.aloadN X2.here X2.hx rfl (X2.cd d_jdk_43_method_22_16) rfl rfl k) ?_
    show Go _ _ _ _ (T2.setTop (mkF m 17 #[.val (.ref t), .val (.int ci), .val (.int (0 : Int32)), .val (.int (Int32.ofNat (cs).length))] [(.ref t), (.int (Int32.ofNat (cs).length))]))
    refine Go.by (fun _ k => X2.len pr0 (g := (mkF m 17 #[.val (.ref t), .val (.int ci), .val (.int (0 : Int32)), .val (.int (Int32.ofNat (cs).length))] [(.ref t), (.int (Int32.ofNat (cs).length))])) rfl rfl d_jdk_43_method_22_17 _ k) ?_
    show Go _ _ _ _ (T2.setTop (mkF m 18 #[.val (.ref t), .val (.int ci), .val (.int (0 : Int32)), .val (.int (Int32.ofNat (cs).length))] [(.int (Int32.ofNat (cs).length)), (.int (Int32.ofNat (cs).length))]))
    obtain ⟨_, T3, h3, X3, K3, ⟨rfl, rfl⟩, st3⟩ := X2.stN (W := 0) (hw _ (List.mem_of_getElem? (i := 92) rfl)) (hw _ (List.mem_of_getElem? (i := 93) rfl)) (hw _ (List.mem_of_getElem? (i := 90) rfl)) (hw _ (List.mem_of_getElem? (i := 94) rfl)) (by decide) ((rm_min l Z a0 hw n0 (Int32.ofNat (cs).length) (Int32.ofNat (cs).length) h0 X2.old ).pay (hw _ (List.mem_of_getElem? (i := 94) rfl)) (hw _ (List.mem_of_getElem? (i := 90) rfl)) (by decide) (by decide)) all0 (g := (mkF m 18 #[.val (.ref t), .val (.int ci), .val (.int (0 : Int32)), .val (.int (Int32.ofNat (cs).length))] [(.int (Int32.ofNat (cs).length)), (.int (Int32.ofNat (cs).length))])) rfl rfl (argsL := [(.int (Int32.ofNat (cs).length)), (.int (Int32.ofNat (cs).length))]) (rest := []) (lenOf pd_2 rfl) rfl (by exact Nat.le_of_eq rfl) d_jdk_43_method_22_18 rfl (by decide) (by decide)
    refine Go.tr st3 ?_
    show Go _ _ _ _ (T3.setTop (mkF m 21 #[.val (.ref t), .val (.int ci), .val (.int (0 : Int32)), .val (.int (Int32.ofNat (cs).length))] [(.int (own_min (Int32.ofNat (cs).length) (Int32.ofNat (cs).length)))]))
    rw [own_min_self]
    show Go _ _ _ _ (T3.setTop (mkF m 21 #[.val (.ref t), .val (.int ci), .val (.int (0 : Int32)), .val (.int (Int32.ofNat (cs).length))] [(.int (Int32.ofNat (cs).length))]))
    refine Go.by (fun _ k => XS.istoreN X3.here X3.hx rfl (X3.cd d_jdk_43_method_22_21) rfl (l' := #[.val (.ref t), .val (.int ci), .val (.int (0 : Int32)), .val (.int (Int32.ofNat (cs).length))]) rfl k) ?_
    show Go _ _ _ _ (T3.setTop (mkF m 22 #[.val (.ref t), .val (.int ci), .val (.int (0 : Int32)), .val (.int (Int32.ofNat (cs).length))] []))
    refine Go.by (fun _ k => XS.iloadN X3.here X3.hx rfl (X3.cd d_jdk_43_method_22_22) rfl  k) ?_
    show Go _ _ _ _ (T3.setTop (mkF m 23 #[.val (.ref t), .val (.int ci), .val (.int (0 : Int32)), .val (.int (Int32.ofNat (cs).length))] [(.int (0 : Int32))]))
    refine Go.by (fun _ k => XS.iloadN X3.here X3.hx rfl (X3.cd d_jdk_43_method_22_23) rfl  k) ?_
    show Go _ _ _ _ (T3.setTop (mkF m 24 #[.val (.ref t), .val (.int ci), .val (.int (0 : Int32)), .val (.int (Int32.ofNat (cs).length))] [(.int (Int32.ofNat (cs).length)), (.int (0 : Int32))]))
    by_cases c1 : (0 : Int32) < (Int32.ofNat (cs).length)
    · refine Go.by (fun _ k => XS.icmpYes X3.here X3.hx rfl (pc0 := 24) (pc' := 29) rfl (X3.cd d_jdk_43_method_22_24) rfl (XT.ii_lt_t c1) (by decide) (by decide) k) ?_
      show Go _ _ _ _ (T3.setTop (mkF m 29 #[.val (.ref t), .val (.int ci), .val (.int (0 : Int32)), .val (.int (Int32.ofNat (cs).length))] []))
      refine Go.by (fun _ k => XS.aloadN X3.here X3.hx rfl (X3.cd d_jdk_43_method_22_29) rfl rfl k) ?_
      show Go _ _ _ _ (T3.setTop (mkF m 30 #[.val (.ref t), .val (.int ci), .val (.int (0 : Int32)), .val (.int (Int32.ofNat (cs).length))] [(.ref t)]))
      refine Go.by (fun _ k => XS.iloadN X3.here X3.hx rfl (X3.cd d_jdk_43_method_22_30) rfl  k) ?_
      show Go _ _ _ _ (T3.setTop (mkF m 31 #[.val (.ref t), .val (.int ci), .val (.int (0 : Int32)), .val (.int (Int32.ofNat (cs).length))] [(.int ci), (.ref t)]))
      refine Go.by (fun _ k => XS.iloadN X3.here X3.hx rfl (X3.cd d_jdk_43_method_22_31) rfl  k) ?_
      show Go _ _ _ _ (T3.setTop (mkF m 32 #[.val (.ref t), .val (.int ci), .val (.int (0 : Int32)), .val (.int (Int32.ofNat (cs).length))] [(.int (0 : Int32)), (.int ci), (.ref t)]))
      refine Go.by (fun _ k => XS.iloadN X3.here X3.hx rfl (X3.cd d_jdk_43_method_22_32) rfl  k) ?_
      show Go _ _ _ _ (T3.setTop (mkF m 33 #[.val (.ref t), .val (.int ci), .val (.int (0 : Int32)), .val (.int (Int32.ofNat (cs).length))] [(.int (Int32.ofNat (cs).length)), (.int (0 : Int32)), (.int ci), (.ref t)]))
      obtain ⟨_, T4, h4, X4, K4, ⟨r_4, rfl, rfl, p4_0⟩, st4⟩ := X3.stN (W := 0) (hw _ (List.mem_of_getElem? (i := 95) rfl)) (hw _ (List.mem_of_getElem? (i := 96) rfl)) (hw _ (List.mem_of_getElem? (i := 83) rfl)) (hw _ (List.mem_of_getElem? (i := 97) rfl)) (by decide) ((rm_ixc l Z a0 hw n0 t kb ci cs h0 X3.old pr0 hp (z01_yes p1_0 c0) hl).pay (hw _ (List.mem_of_getElem? (i := 97) rfl)) (hw _ (List.mem_of_getElem? (i := 83) rfl)) (by decide) (by decide)) all0 (g := (mkF m 33 #[.val (.ref t), .val (.int ci), .val (.int (0 : Int32)), .val (.int (Int32.ofNat (cs).length))] [(.int (Int32.ofNat (cs).length)), (.int (0 : Int32)), (.int ci), (.ref t)])) rfl rfl (argsL := [(.ref t), (.int ci), (.int (0 : Int32)), (.int (Int32.ofNat (cs).length))]) (rest := []) (lenOf pd_3 rfl) rfl (by exact Nat.le_of_eq rfl) d_jdk_43_method_22_33 rfl (by decide) (by decide)
      refine Go.tr st4 ?_
      show Go _ _ _ _ (T4.setTop (mkF m 36 #[.val (.ref t), .val (.int ci), .val (.int (0 : Int32)), .val (.int (Int32.ofNat (cs).length))] [(.int r_4)]))
      exact X4.retI d_jdk_43_method_22_36 (Keep.refl h0 []) ⟨r_4, rfl, rfl, p4_0⟩ (by decide) (by decide)
    · refine Go.by (fun _ k => XS.icmpNo X3.here X3.hx rfl (X3.cd d_jdk_43_method_22_24) rfl (XT.ii_lt_f c1) k) ?_
      show Go _ _ _ _ (T3.setTop (mkF m 27 #[.val (.ref t), .val (.int ci), .val (.int (0 : Int32)), .val (.int (Int32.ofNat (cs).length))] []))
      refine Go.by (fun _ k => XS.iconst X3.here X3.hx rfl (X3.cd d_jdk_43_method_22_27)  k) ?_
      show Go _ _ _ _ (T3.setTop (mkF m 28 #[.val (.ref t), .val (.int ci), .val (.int (0 : Int32)), .val (.int (Int32.ofNat (cs).length))] [(.int (-1 : Int32))]))
      exact X3.retI d_jdk_43_method_22_28 (Keep.refl h0 []) ⟨(-1 : Int32), rfl, rfl, Or.inr ⟨by decide, fun z => c1 ((on_lt (a := 0) (by omega) (by omega)).mpr (List.length_pos_of_mem z))⟩⟩ (by decide) (by decide)
theorem ef_rm_il (m : MethodId) (x0 : Addr) : entryFrame m #[(.ref x0)] 1 = mkF m 0 #[.val (.ref x0)] [] := by first | (simp [entryFrame, mkF, argsToLocals, Value.category]; done) | rfl
def Q_rm_il (Z : State) (x : Addr) (zc : Int32) (h0 : Heap) (ov : Option Value) (hz : Heap) : Prop := ov = some (.int (1 : Int32)) ∧ h0 = hz
theorem d_jdk_42_method_154_0 : decode jdk_42_method_154_code 0 = .ok (.getstatic 38, 3) := by decide +kernel
theorem d_jdk_42_method_154_3 : decode jdk_42_method_154_code 3 = .ok (.ifCond .eq 14, 3) := by decide +kernel
theorem d_jdk_42_method_154_6 : decode jdk_42_method_154_code 6 = .ok (.aload_n 0, 1) := by decide +kernel
theorem d_jdk_42_method_154_7 : decode jdk_42_method_154_code 7 = .ok (.getfield 15, 3) := by decide +kernel
theorem d_jdk_42_method_154_10 : decode jdk_42_method_154_code 10 = .ok (.ifCond .ne 7, 3) := by decide +kernel
theorem d_jdk_42_method_154_13 : decode jdk_42_method_154_code 13 = .ok (.iconst 1, 1) := by decide +kernel
theorem d_jdk_42_method_154_14 : decode jdk_42_method_154_code 14 = .ok (.goto 4, 3) := by decide +kernel
theorem d_jdk_42_method_154_18 : decode jdk_42_method_154_code 18 = .ok (.ireturn, 1) := by decide +kernel
abbrev RM_rm_il : Room := { frames := 0, cells := 0, slots := 0, locals := 0 }
set_option maxRecDepth 65536 in
set_option maxHeartbeats 40000000 in
theorem rm_il (l : Launch) (Z : State) (a0 : Array Value) (hw : ∀ d ∈ tables_1, d.before a0 Z = true) (n0 : Nat) (x : Addr) (zc : Int32) (h0 : Heap) (hO : Old Z n0 h0) (pr0 : Fld Z h0 x "java/lang/String" "coder" "B" (.int (0 : Int32))) (Sc : Sta Z Z.heap "java/lang/String" "COMPACT_STRINGS" "Z" (.int zc)) (nc : ¬ (zc = (0 : Int32))) :
    Ct l (⟨"java/lang/String", "isLatin1", "()Z"⟩ : MethodName) jdk_42_method_154_code 1 (some .boolean) [] RM_rm_il Z n0 #[(.ref x)] h0 [] (Q_rm_il Z x zc h0) := by
  refine Ct.of_walk (plainFor_of_name pn_0) hO all0 ?_
  intro p e s m below meth c T0 X0
  rw [ef_rm_il m x]
  show Go _ _ _ _ (T0.setTop (mkF m 0 #[.val (.ref x)] []))
  obtain ⟨T1, X1, st1⟩ := X0.getS (hw _ (List.mem_of_getElem? (i := 14) rfl)) Via.refl Sc (g := (mkF m 0 #[.val (.ref x)] [])) rfl d_jdk_42_method_154_0
  refine Go.by st1 ?_
  show Go _ _ _ _ (T1.setTop (mkF m 3 #[.val (.ref x)] [(.int zc)]))
  refine Go.by (fun _ k => XS.ifNo X1.here X1.hx rfl (X1.cd d_jdk_42_method_154_3) rfl (XT.i0_eq_f nc) k) ?_
  show Go _ _ _ _ (T1.setTop (mkF m 6 #[.val (.ref x)] []))
  refine Go.by (fun _ k => XS.aloadN X1.here X1.hx rfl (X1.cd d_jdk_42_method_154_6) rfl rfl k) ?_
  show Go _ _ _ _ (T1.setTop (mkF m 7 #[.val (.ref x)] [(.ref x)]))
  obtain ⟨T2, X2, st2⟩ := X1.getF (host := "") (Or.inl (hw _ (List.mem_of_getElem? (i := 26) rfl))) Via.refl pr0 (g := (mkF m 7 #[.val (.ref x)] [(.ref x)])) rfl rfl d_jdk_42_method_154_7
  refine Go.by st2 ?_
  show Go _ _ _ _ (T2.setTop (mkF m 10 #[.val (.ref x)] [(.int (0 : Int32))]))
  refine Go.by (fun _ k => XS.ifNo X2.here X2.hx rfl (X2.cd d_jdk_42_method_154_10) rfl (XT.i0_ne_f (by decide)) k) ?_
  show Go _ _ _ _ (T2.setTop (mkF m 13 #[.val (.ref x)] []))
  refine Go.by (fun _ k => XS.iconst X2.here X2.hx rfl (X2.cd d_jdk_42_method_154_13)  k) ?_
  show Go _ _ _ _ (T2.setTop (mkF m 14 #[.val (.ref x)] [(.int (1 : Int32))]))
  refine Go.by (fun _ k => XS.goto X2.here X2.hx rfl (pc0 := 14) (pc' := 18) rfl (X2.cd d_jdk_42_method_154_14) (by decide) (by decide) k) ?_
  show Go _ _ _ _ (T2.setTop (mkF m 18 #[.val (.ref x)] [(.int (1 : Int32))]))
  exact X2.retN (by simp) rfl d_jdk_42_method_154_18 (Keep.refl h0 []) ⟨rfl, rfl⟩ (by decide) (by decide)
theorem ef_rm_ix2 (m : MethodId) (x0 : Addr) (x1 : Int32) (x2 : Int32) : entryFrame m #[(.ref x0), (.int x1), (.int x2)] 3 = mkF m 0 #[.val (.ref x0), .val (.int x1), .val (.int x2)] [] := by first | (simp [entryFrame, mkF, argsToLocals, Value.category]; done) | rfl
def Q_rm_ix2 (Z : State) (x : Addr) (t : Addr) (ci : Int32) (cs : List Int32) (zc : Int32) (h0 : Heap) (ov : Option Value) (hz : Heap) : Prop := ∃ (r : Int32), ov = some (.int r) ∧ h0 = hz ∧ ((¬ r < 0 ∧ ci ∈ cs) ∨ (r < 0 ∧ ¬ ci ∈ cs))
theorem d_jdk_42_method_80_0 : decode jdk_42_method_80_code 0 = .ok (.aload_n 0, 1) := by decide +kernel
theorem pd_4 : parseMethodDescriptor "()Z" = some ⟨[], some .boolean⟩ := by decide +kernel
theorem d_jdk_42_method_80_1 : decode jdk_42_method_80_code 1 = .ok (.invokevirtual 492, 3) := by decide +kernel
theorem d_jdk_42_method_80_4 : decode jdk_42_method_80_code 4 = .ok (.ifCond .eq 19, 3) := by decide +kernel
theorem d_jdk_42_method_80_7 : decode jdk_42_method_80_code 7 = .ok (.aload_n 0, 1) := by decide +kernel
theorem d_jdk_42_method_80_8 : decode jdk_42_method_80_code 8 = .ok (.getfield 9, 3) := by decide +kernel
theorem d_jdk_42_method_80_11 : decode jdk_42_method_80_code 11 = .ok (.iload_n 1, 1) := by decide +kernel
theorem d_jdk_42_method_80_12 : decode jdk_42_method_80_code 12 = .ok (.iload_n 2, 1) := by decide +kernel
theorem d_jdk_42_method_80_13 : decode jdk_42_method_80_code 13 = .ok (.aload_n 0, 1) := by decide +kernel
theorem pd_5 : parseMethodDescriptor "()I" = some ⟨[], some .int⟩ := by decide +kernel
theorem d_jdk_42_method_80_14 : decode jdk_42_method_80_code 14 = .ok (.invokevirtual 505, 3) := by decide +kernel
theorem d_jdk_42_method_80_17 : decode jdk_42_method_80_code 17 = .ok (.invokestatic 637, 3) := by decide +kernel
theorem d_jdk_42_method_80_20 : decode jdk_42_method_80_code 20 = .ok (.goto 16, 3) := by decide +kernel
theorem d_jdk_42_method_80_36 : decode jdk_42_method_80_code 36 = .ok (.ireturn, 1) := by decide +kernel
abbrev RM_rm_ix2 : Room := { frames := 2, cells := 0, slots := 0, locals := 32 }
set_option maxRecDepth 65536 in
set_option maxHeartbeats 40000000 in
theorem rm_ix2 (l : Launch) (Z : State) (a0 : Array Value) (hw : ∀ d ∈ tables_1, d.before a0 Z = true) (n0 : Nat) (x : Addr) (t : Addr) (ci : Int32) (cs : List Int32) (zc : Int32) (h0 : Heap) (hO : Old Z n0 h0) (pr0 : Str Z h0 x t cs) (Sc : Sta Z Z.heap "java/lang/String" "COMPACT_STRINGS" "Z" (.int zc)) (nc : ¬ (zc = (0 : Int32))) (hp : ∀ c ∈ cs, ¬ c < 0 ∧ ¬ (255 : Int32) < c) :
    Ct l (⟨"java/lang/String", "indexOf", "(II)I"⟩ : MethodName) jdk_42_method_80_code 3 (some .int) [] RM_rm_ix2 Z n0 #[(.ref x), (.int ci), (.int (0 : Int32))] h0 [] (Q_rm_ix2 Z x t ci cs zc h0) := by
  refine Ct.of_walk (plainFor_of_name pn_0) hO all0 ?_
  intro p e s m below meth c T0 X0
  rw [ef_rm_ix2 m x ci (0 : Int32)]
  show Go _ _ _ _ (T0.setTop (mkF m 0 #[.val (.ref x), .val (.int ci), .val (.int (0 : Int32))] []))
  have f1 : Exa Z h0 x "java/lang/String" := pr0.exa
  obtain ⟨kb2, V2, C2, A2, L2⟩ := pr0.lat (fun c hc => (hp c hc).2)
  refine Go.by (fun _ k => XS.aloadN X0.here X0.hx rfl (X0.cd d_jdk_42_method_80_0) rfl rfl k) ?_
  show Go _ _ _ _ (T0.setTop (mkF m 1 #[.val (.ref x), .val (.int ci), .val (.int (0 : Int32))] [(.ref x)]))
  obtain ⟨_, T3, h3, X3, K3, ⟨rfl, rfl⟩, st3⟩ := X0.viN (W := 0) (hw _ (List.mem_of_getElem? (i := 66) rfl)) (hw _ (List.mem_of_getElem? (i := 67) rfl)) (hw _ (List.mem_of_getElem? (i := 69) rfl)) (hw _ (List.mem_of_getElem? (i := 68) rfl)) (by decide) ((rm_il l Z a0 hw n0 x zc h0 X0.old C2 Sc nc).pay (hw _ (List.mem_of_getElem? (i := 70) rfl)) (hw _ (List.mem_of_getElem? (i := 3) rfl)) (by decide) (by decide)) all0 f1 (g := (mkF m 1 #[.val (.ref x), .val (.int ci), .val (.int (0 : Int32))] [(.ref x)])) rfl rfl (argsL := []) (rest := []) (lenOf pd_4 rfl) rfl (by exact Nat.le_of_eq rfl) d_jdk_42_method_80_1 rfl (by decide) (by decide)
  refine Go.tr st3 ?_
  show Go _ _ _ _ (T3.setTop (mkF m 4 #[.val (.ref x), .val (.int ci), .val (.int (0 : Int32))] [(.int (1 : Int32))]))
  refine Go.by (fun _ k => XS.ifNo X3.here X3.hx rfl (X3.cd d_jdk_42_method_80_4) rfl (XT.i0_eq_f (by decide)) k) ?_
  show Go _ _ _ _ (T3.setTop (mkF m 7 #[.val (.ref x), .val (.int ci), .val (.int (0 : Int32))] []))
  refine Go.by (fun _ k => XS.aloadN X3.here X3.hx rfl (X3.cd d_jdk_42_method_80_7) rfl rfl k) ?_
  show Go _ _ _ _ (T3.setTop (mkF m 8 #[.val (.ref x), .val (.int ci), .val (.int (0 : Int32))] [(.ref x)]))
  obtain ⟨T4, X4, st4⟩ := X3.getF (host := "") (Or.inl (hw _ (List.mem_of_getElem? (i := 28) rfl))) Via.refl V2 (g := (mkF m 8 #[.val (.ref x), .val (.int ci), .val (.int (0 : Int32))] [(.ref x)])) rfl rfl d_jdk_42_method_80_8
  refine Go.by st4 ?_
  show Go _ _ _ _ (T4.setTop (mkF m 11 #[.val (.ref x), .val (.int ci), .val (.int (0 : Int32))] [(.ref t)]))
  refine Go.by (fun _ k => XS.iloadN X4.here X4.hx rfl (X4.cd d_jdk_42_method_80_11) rfl  k) ?_
  show Go _ _ _ _ (T4.setTop (mkF m 12 #[.val (.ref x), .val (.int ci), .val (.int (0 : Int32))] [(.int ci), (.ref t)]))
  refine Go.by (fun _ k => XS.iloadN X4.here X4.hx rfl (X4.cd d_jdk_42_method_80_12) rfl  k) ?_
  show Go _ _ _ _ (T4.setTop (mkF m 13 #[.val (.ref x), .val (.int ci), .val (.int (0 : Int32))] [(.int (0 : Int32)), (.int ci), (.ref t)]))
  refine Go.by (fun _ k => XS.aloadN X4.here X4.hx rfl (X4.cd d_jdk_42_method_80_13) rfl rfl k) ?_
  show Go _ _ _ _ (T4.setTop (mkF m 14 #[.val (.ref x), .val (.int ci), .val (.int (0 : Int32))] [(.ref x), (.int (0 : Int32)), (.int ci), (.ref t)]))
  obtain ⟨_, T5, h5, X5, K5, ⟨rfl, rfl⟩, st5⟩ := X4.viN (W := 3) (hw _ (List.mem_of_getElem? (i := 71) rfl)) (hw _ (List.mem_of_getElem? (i := 72) rfl)) (hw _ (List.mem_of_getElem? (i := 74) rfl)) (hw _ (List.mem_of_getElem? (i := 73) rfl)) (by decide) (payLen (fun d hd => hw d ((by decide +kernel : ∀ d ∈ StrChars.Road.wordsLen, d ∈ tables_1) d hd)) (hw _ (List.mem_of_getElem? (i := 2) rfl)) X4.old pr0 Sc nc (by decide) (by decide)) all0 f1 (g := (mkF m 14 #[.val (.ref x), .val (.int ci), .val (.int (0 : Int32))] [(.ref x), (.int (0 : Int32)), (.int ci), (.ref t)])) rfl rfl (argsL := []) (rest := [(.int (0 : Int32)), (.int ci), (.ref t)]) (lenOf pd_5 rfl) rfl (by exact Nat.le_of_eq rfl) d_jdk_42_method_80_14 rfl (by decide) (by decide)
  refine Go.tr st5 ?_
  show Go _ _ _ _ (T5.setTop (mkF m 17 #[.val (.ref x), .val (.int ci), .val (.int (0 : Int32))] [(.int (Int32.ofNat (cs).length)), (.int (0 : Int32)), (.int ci), (.ref t)]))
  obtain ⟨_, T6, h6, X6, K6, ⟨r_6, rfl, rfl, p6_0⟩, st6⟩ := X5.stN (W := 0) (hw _ (List.mem_of_getElem? (i := 81) rfl)) (hw _ (List.mem_of_getElem? (i := 82) rfl)) (hw _ (List.mem_of_getElem? (i := 83) rfl)) (hw _ (List.mem_of_getElem? (i := 84) rfl)) (by decide) ((rm_ixl l Z a0 hw n0 t kb2 ci cs h0 X5.old A2 hp L2).pay (hw _ (List.mem_of_getElem? (i := 84) rfl)) (hw _ (List.mem_of_getElem? (i := 83) rfl)) (by decide) (by decide)) all0 (g := (mkF m 17 #[.val (.ref x), .val (.int ci), .val (.int (0 : Int32))] [(.int (Int32.ofNat (cs).length)), (.int (0 : Int32)), (.int ci), (.ref t)])) rfl rfl (argsL := [(.ref t), (.int ci), (.int (0 : Int32)), (.int (Int32.ofNat (cs).length))]) (rest := []) (lenOf pd_3 rfl) rfl (by exact Nat.le_of_eq rfl) d_jdk_42_method_80_17 rfl (by decide) (by decide)
  refine Go.tr st6 ?_
  show Go _ _ _ _ (T6.setTop (mkF m 20 #[.val (.ref x), .val (.int ci), .val (.int (0 : Int32))] [(.int r_6)]))
  refine Go.by (fun _ k => XS.goto X6.here X6.hx rfl (pc0 := 20) (pc' := 36) rfl (X6.cd d_jdk_42_method_80_20) (by decide) (by decide) k) ?_
  show Go _ _ _ _ (T6.setTop (mkF m 36 #[.val (.ref x), .val (.int ci), .val (.int (0 : Int32))] [(.int r_6)]))
  exact X6.retI d_jdk_42_method_80_36 (Keep.refl h0 []) ⟨r_6, rfl, rfl, p6_0⟩ (by decide) (by decide)
theorem ef_rm_ix1 (m : MethodId) (x0 : Addr) (x1 : Int32) : entryFrame m #[(.ref x0), (.int x1)] 2 = mkF m 0 #[.val (.ref x0), .val (.int x1)] [] := by first | (simp [entryFrame, mkF, argsToLocals, Value.category]; done) | rfl
def Q_rm_ix1 (Z : State) (x : Addr) (t : Addr) (ci : Int32) (cs : List Int32) (zc : Int32) (h0 : Heap) (ov : Option Value) (hz : Heap) : Prop := ∃ (r : Int32), ov = some (.int r) ∧ h0 = hz ∧ ((¬ r < 0 ∧ ci ∈ cs) ∨ (r < 0 ∧ ¬ ci ∈ cs))
theorem d_jdk_42_method_79_0 : decode jdk_42_method_79_code 0 = .ok (.aload_n 0, 1) := by decide +kernel
theorem d_jdk_42_method_79_1 : decode jdk_42_method_79_code 1 = .ok (.iload_n 1, 1) := by decide +kernel
theorem d_jdk_42_method_79_2 : decode jdk_42_method_79_code 2 = .ok (.iconst 0, 1) := by decide +kernel
theorem d_jdk_42_method_79_3 : decode jdk_42_method_79_code 3 = .ok (.invokevirtual 633, 3) := by decide +kernel
theorem d_jdk_42_method_79_6 : decode jdk_42_method_79_code 6 = .ok (.ireturn, 1) := by decide +kernel
abbrev RM_rm_ix1 : Room := { frames := 3, cells := 0, slots := 0, locals := 46 }
set_option maxRecDepth 65536 in
set_option maxHeartbeats 40000000 in
theorem rm_ix1 (l : Launch) (Z : State) (a0 : Array Value) (hw : ∀ d ∈ tables_1, d.before a0 Z = true) (n0 : Nat) (x : Addr) (t : Addr) (ci : Int32) (cs : List Int32) (zc : Int32) (h0 : Heap) (hO : Old Z n0 h0) (pr0 : Str Z h0 x t cs) (Sc : Sta Z Z.heap "java/lang/String" "COMPACT_STRINGS" "Z" (.int zc)) (nc : ¬ (zc = (0 : Int32))) (hp : ∀ c ∈ cs, ¬ c < 0 ∧ ¬ (255 : Int32) < c) :
    Ct l (⟨"java/lang/String", "indexOf", "(I)I"⟩ : MethodName) jdk_42_method_79_code 2 (some .int) [] RM_rm_ix1 Z n0 #[(.ref x), (.int ci)] h0 [] (Q_rm_ix1 Z x t ci cs zc h0) := by
  refine Ct.of_walk (plainFor_of_name pn_0) hO all0 ?_
  intro p e s m below meth c T0 X0
  rw [ef_rm_ix1 m x ci]
  show Go _ _ _ _ (T0.setTop (mkF m 0 #[.val (.ref x), .val (.int ci)] []))
  have f1 : Exa Z h0 x "java/lang/String" := pr0.exa
  refine Go.by (fun _ k => XS.aloadN X0.here X0.hx rfl (X0.cd d_jdk_42_method_79_0) rfl rfl k) ?_
  show Go _ _ _ _ (T0.setTop (mkF m 1 #[.val (.ref x), .val (.int ci)] [(.ref x)]))
  refine Go.by (fun _ k => XS.iloadN X0.here X0.hx rfl (X0.cd d_jdk_42_method_79_1) rfl  k) ?_
  show Go _ _ _ _ (T0.setTop (mkF m 2 #[.val (.ref x), .val (.int ci)] [(.int ci), (.ref x)]))
  refine Go.by (fun _ k => XS.iconst X0.here X0.hx rfl (X0.cd d_jdk_42_method_79_2)  k) ?_
  show Go _ _ _ _ (T0.setTop (mkF m 3 #[.val (.ref x), .val (.int ci)] [(.int (0 : Int32)), (.int ci), (.ref x)]))
  obtain ⟨_, T2, h2, X2, K2, ⟨r_2, rfl, rfl, p2_0⟩, st2⟩ := X0.viN (W := 0) (hw _ (List.mem_of_getElem? (i := 61) rfl)) (hw _ (List.mem_of_getElem? (i := 62) rfl)) (hw _ (List.mem_of_getElem? (i := 64) rfl)) (hw _ (List.mem_of_getElem? (i := 63) rfl)) (by decide) ((rm_ix2 l Z a0 hw n0 x t ci cs zc h0 X0.old pr0 Sc nc hp).pay (hw _ (List.mem_of_getElem? (i := 65) rfl)) (hw _ (List.mem_of_getElem? (i := 3) rfl)) (by decide) (by decide)) all0 f1 (g := (mkF m 3 #[.val (.ref x), .val (.int ci)] [(.int (0 : Int32)), (.int ci), (.ref x)])) rfl rfl (argsL := [(.int ci), (.int (0 : Int32))]) (rest := []) (lenOf pd_2 rfl) rfl (by exact Nat.le_of_eq rfl) d_jdk_42_method_79_3 rfl (by decide) (by decide)
  refine Go.tr st2 ?_
  show Go _ _ _ _ (T2.setTop (mkF m 6 #[.val (.ref x), .val (.int ci)] [(.int r_2)]))
  exact X2.retI d_jdk_42_method_79_6 (Keep.refl h0 []) ⟨r_2, rfl, rfl, p2_0⟩ (by decide) (by decide)
theorem own_and3 (v : Int32) : v &&& 3 = 0 ∨ v &&& 3 = 1 ∨ v &&& 3 = 2 ∨ v &&& 3 = 3 := by
  have t : ∀ k : Fin 4, Int32.ofNat k.val = 0 ∨ Int32.ofNat k.val = 1 ∨ Int32.ofNat k.val = 2 ∨ Int32.ofNat k.val = 3 := by decide
  have h : (v &&& 3).toBitVec.toNat < 4 := by
    simp only [Int32.toBitVec_and, BitVec.toNat_and]
    exact Nat.lt_succ_of_le Nat.and_le_right
  have e : (v &&& 3) = Int32.ofNat (v &&& 3).toBitVec.toNat := by
    apply Int32.toBitVec_inj.mp
    show _ = BitVec.ofNat 32 _
    rw [BitVec.ofNat_toNat]; simp
  rw [e]; exact t ⟨_, h⟩
theorem own_rem (k : Int32) {n : Int32} {N : Nat} (hn : n.toInt = N) (h0 : 0 < N) : ∃ j, j < N ∧ (k &&& (2147483647 : Int32)) % n = Int32.ofNat j := by
  have h1 : ¬ (k &&& (2147483647 : Int32)) < 0 := fun q => absurd ((XT.and_neg32 _ _).mp q).2 (by decide)
  generalize k &&& (2147483647 : Int32) = x at h1
  rw [Int32.lt_iff_toInt_lt] at h1
  have e0 : (0 : Int32).toInt = 0 := rfl
  rw [e0] at h1
  have h2 : (x % n).toInt = x.toInt % (N : Int) := by rw [Int32.toInt_mod, hn, Int.tmod_eq_emod_of_nonneg (by omega)]
  have h3 := Int.emod_nonneg x.toInt (show (N : Int) ≠ 0 by omega)
  have h4 := Int.emod_lt_of_pos x.toInt (show (0 : Int) < N by omega)
  have h5 := Int32.toInt_lt n
  refine ⟨(x.toInt % (N : Int)).toNat, by omega, Int32.toInt_inj.mp ?_⟩
  rw [h2, show (Int32.ofNat (x.toInt % (N : Int)).toNat).toInt = ((x.toInt % (N : Int)).toNat : Int) from len_toInt (by omega)]; omega
theorem ef_rm_rec (m : MethodId) (x0 : Addr) : entryFrame m #[(.ref x0)] 1 = mkF m 0 #[.val (.ref x0)] [] := by first | (simp [entryFrame, mkF, argsToLocals, Value.category]; done) | rfl
def Q_rm_rec (Z : State) (a1 : Addr) (h0 : Heap) (ov : Option Value) (hz : Heap) : Prop := ov = none ∧ h0 = hz
theorem pn_2 : plainName "java/lang/Record" = true := by first | (simp [plainName, overriddenIn]; done) | decide +kernel
theorem d_jdk_30_method_1_0 : decode jdk_30_method_1_code 0 = .ok (.aload_n 0, 1) := by decide +kernel
theorem d_jdk_30_method_1_1 : decode jdk_30_method_1_code 1 = .ok (.invokespecial 1, 3) := by decide +kernel
theorem d_jdk_30_method_1_4 : decode jdk_30_method_1_code 4 = .ok (.return_, 1) := by decide +kernel
abbrev RM_rm_rec : Room := { frames := 1, cells := 0, slots := 0, locals := 12 }
set_option maxRecDepth 65536 in
set_option maxHeartbeats 40000000 in
theorem rm_rec (l : Launch) (Z : State) (a0 : Array Value) (hw : ∀ d ∈ tables_1, d.before a0 Z = true) (n0 : Nat) (a1 : Addr) (h0 : Heap) (hO : Old Z n0 h0)  :
    Ct l (⟨"java/lang/Record", "<init>", "()V"⟩ : MethodName) jdk_30_method_1_code 1 none [] RM_rm_rec Z n0 #[(.ref a1)] h0 [] (Q_rm_rec Z a1 h0) := by
  refine Ct.of_walk (plainFor_of_name pn_2) hO all0 ?_
  intro p e s m below meth c T0 X0
  rw [ef_rm_rec m a1]
  show Go _ _ _ _ (T0.setTop (mkF m 0 #[.val (.ref a1)] []))
  refine Go.by (fun _ k => XS.aloadN X0.here X0.hx rfl (X0.cd d_jdk_30_method_1_0) rfl rfl k) ?_
  show Go _ _ _ _ (T0.setTop (mkF m 1 #[.val (.ref a1)] [(.ref a1)]))
  obtain ⟨T1, X1, st1⟩ := X0.initO (hw _ (List.mem_of_getElem? (i := 44) rfl)) (hw _ (List.mem_of_getElem? (i := 12) rfl)) (hw _ (List.mem_of_getElem? (i := 13) rfl)) (g := (mkF m 1 #[.val (.ref a1)] [(.ref a1)])) rfl rfl rfl d_jdk_30_method_1_1 (by decide) (W := 0) (by exact Nat.le_of_eq rfl) (by decide)
  refine Go.by st1 ?_
  show Go _ _ _ _ (T1.setTop (mkF m 4 #[.val (.ref a1)] []))
  exact X1.retV d_jdk_30_method_1_4 (Keep.refl h0 []) ⟨rfl, rfl⟩ (by decide) (by decide)
theorem ef_rm_ini (m : MethodId) (x0 : Addr) (x1 : Addr) (x3 : Addr) : entryFrame m #[(.ref x0), (.ref x1), .null, (.ref x3)] 4 = mkF m 0 #[.val (.ref x0), .val (.ref x1), .val .null, .val (.ref x3)] [] := by first | (simp [entryFrame, mkF, argsToLocals, Value.category]; done) | rfl
def Q_rm_ini (Z : State) (a1 : Addr) (a2 : Addr) (a3 : Addr) (u0 : Value) (u1 : Value) (u2 : Value) (h0 : Heap) (ov : Option Value) (hz : Heap) : Prop := ov = none ∧ Fld Z hz a1 "com/example/rivulet/rivulet/RegexLiteral" "modifiers" "Ljava/lang/String;" (.ref a3)
theorem pn_3 : plainName "com/example/rivulet/rivulet/RegexLiteral" = true := by first | (simp [plainName, overriddenIn]; done) | decide +kernel
theorem d_prog_3_method_1_0 : decode prog_3_method_1_code 0 = .ok (.aload_n 0, 1) := by decide +kernel
theorem pd_6 : parseMethodDescriptor "()V" = some ⟨[], none⟩ := by decide +kernel
theorem d_prog_3_method_1_1 : decode prog_3_method_1_code 1 = .ok (.invokespecial 1, 3) := by decide +kernel
theorem d_prog_3_method_1_4 : decode prog_3_method_1_code 4 = .ok (.aload_n 0, 1) := by decide +kernel
theorem d_prog_3_method_1_5 : decode prog_3_method_1_code 5 = .ok (.aload_n 1, 1) := by decide +kernel
theorem d_prog_3_method_1_6 : decode prog_3_method_1_code 6 = .ok (.putfield 7, 3) := by decide +kernel
theorem d_prog_3_method_1_9 : decode prog_3_method_1_code 9 = .ok (.aload_n 0, 1) := by decide +kernel
theorem d_prog_3_method_1_10 : decode prog_3_method_1_code 10 = .ok (.aload_n 2, 1) := by decide +kernel
theorem d_prog_3_method_1_11 : decode prog_3_method_1_code 11 = .ok (.putfield 13, 3) := by decide +kernel
theorem d_prog_3_method_1_14 : decode prog_3_method_1_code 14 = .ok (.aload_n 0, 1) := by decide +kernel
theorem d_prog_3_method_1_15 : decode prog_3_method_1_code 15 = .ok (.aload_n 3, 1) := by decide +kernel
theorem d_prog_3_method_1_16 : decode prog_3_method_1_code 16 = .ok (.putfield 17, 3) := by decide +kernel
theorem d_prog_3_method_1_19 : decode prog_3_method_1_code 19 = .ok (.return_, 1) := by decide +kernel
abbrev RM_rm_ini : Room := { frames := 2, cells := 0, slots := 0, locals := 24 }
set_option maxRecDepth 65536 in
set_option maxHeartbeats 40000000 in
theorem rm_ini (l : Launch) (Z : State) (a0 : Array Value) (hw : ∀ d ∈ tables_1, d.before a0 Z = true) (n0 : Nat) (a1 : Addr) (a2 : Addr) (a3 : Addr) (u0 : Value) (u1 : Value) (u2 : Value) (h0 : Heap) (hO : Old Z n0 h0) (pr0 : Exa Z h0 a1 "com/example/rivulet/rivulet/RegexLiteral") (pr1 : Fld Z h0 a1 "com/example/rivulet/rivulet/RegexLiteral" "regex" "Ljava/lang/String;" u0) (pr2 : Fld Z h0 a1 "com/example/rivulet/rivulet/RegexLiteral" "replacement" "Lcom/example/rivulet/rivulet/Replacement;" u1) (pr3 : Fld Z h0 a1 "com/example/rivulet/rivulet/RegexLiteral" "modifiers" "Ljava/lang/String;" u2) (g_a1 : n0 ≤ a1) (l_a1 : a1 < h0.size) :
    Ct l (⟨"com/example/rivulet/rivulet/RegexLiteral", "<init>", "(Ljava/lang/String;Lcom/example/rivulet/rivulet/Replacement;Ljava/lang/String;)V"⟩ : MethodName) prog_3_method_1_code 4 none [] RM_rm_ini Z n0 #[(.ref a1), (.ref a2), .null, (.ref a3)] h0 [a1] (Q_rm_ini Z a1 a2 a3 u0 u1 u2 h0) := by
  refine Ct.of_walk (plainFor_of_name pn_3) hO (allS ⟨g_a1, l_a1⟩ all0) ?_
  intro p e s m below meth c T0 X0
  rw [ef_rm_ini m a1 a2 a3]
  show Go _ _ _ _ (T0.setTop (mkF m 0 #[.val (.ref a1), .val (.ref a2), .val .null, .val (.ref a3)] []))
  refine Go.by (fun _ k => XS.aloadN X0.here X0.hx rfl (X0.cd d_prog_3_method_1_0) rfl rfl k) ?_
  show Go _ _ _ _ (T0.setTop (mkF m 1 #[.val (.ref a1), .val (.ref a2), .val .null, .val (.ref a3)] [(.ref a1)]))
  obtain ⟨_, T1, h1, X1, K1, ⟨rfl, rfl⟩, st1⟩ := X0.spN (W := 0) rfl (hw _ (List.mem_of_getElem? (i := 39) rfl)) (hw _ (List.mem_of_getElem? (i := 40) rfl)) (hw _ (List.mem_of_getElem? (i := 43) rfl)) (by decide) ((rm_rec l Z a0 hw n0 a1 h0 X0.old ).pay (hw _ (List.mem_of_getElem? (i := 43) rfl)) (hw _ (List.mem_of_getElem? (i := 42) rfl)) (by decide) (by decide)) all0 (g := (mkF m 1 #[.val (.ref a1), .val (.ref a2), .val .null, .val (.ref a3)] [(.ref a1)])) rfl rfl (a := a1) (argsL := []) (rest := []) (lenOf pd_6 rfl) rfl (by exact Nat.le_of_eq rfl) d_prog_3_method_1_1 rfl (by decide) (by decide)
  refine Go.tr st1 ?_
  show Go _ _ _ _ (T1.setTop (mkF m 4 #[.val (.ref a1), .val (.ref a2), .val .null, .val (.ref a3)] []))
  refine Go.by (fun _ k => XS.aloadN X1.here X1.hx rfl (X1.cd d_prog_3_method_1_4) rfl rfl k) ?_
  show Go _ _ _ _ (T1.setTop (mkF m 5 #[.val (.ref a1), .val (.ref a2), .val .null, .val (.ref a3)] [(.ref a1)]))
  refine Go.by (fun _ k => XS.aloadN X1.here X1.hx rfl (X1.cd d_prog_3_method_1_5) rfl rfl k) ?_
  show Go _ _ _ _ (T1.setTop (mkF m 6 #[.val (.ref a1), .val (.ref a2), .val .null, .val (.ref a3)] [(.ref a2), (.ref a1)]))
  obtain ⟨T2, h2, X2, W2, st2⟩ := X1.putF (host := "") (Or.inl (hw _ (List.mem_of_getElem? (i := 45) rfl))) Via.refl pr1 pr0 (Or.inr ⟨(hw _ (List.mem_of_getElem? (i := 46) rfl)), rfl, rfl⟩) (hw _ (List.mem_of_getElem? (i := 31) rfl)) (.head _) (ty := (.object "java/lang/String")) (by decide) rfl rfl (g := (mkF m 6 #[.val (.ref a1), .val (.ref a2), .val .null, .val (.ref a3)] [(.ref a2), (.ref a1)])) rfl rfl d_prog_3_method_1_6
  refine Go.by st2 ?_
  have K0_h2 : Keep h0 h2 [a1] := (Keep.refl h0 [a1]).wr W2 (Or.inl (.head _))
  have F2 : Fld Z h2 a1 "com/example/rivulet/rivulet/RegexLiteral" "regex" "Ljava/lang/String;" (.ref a2) := pr1.same W2
  show Go _ _ _ _ (T2.setTop (mkF m 9 #[.val (.ref a1), .val (.ref a2), .val .null, .val (.ref a3)] []))
  refine Go.by (fun _ k => XS.aloadN X2.here X2.hx rfl (X2.cd d_prog_3_method_1_9) rfl rfl k) ?_
  show Go _ _ _ _ (T2.setTop (mkF m 10 #[.val (.ref a1), .val (.ref a2), .val .null, .val (.ref a3)] [(.ref a1)]))
  refine Go.by (fun _ k => XS.aloadN X2.here X2.hx rfl (X2.cd d_prog_3_method_1_10) rfl rfl k) ?_
  show Go _ _ _ _ (T2.setTop (mkF m 11 #[.val (.ref a1), .val (.ref a2), .val .null, .val (.ref a3)] [.null, (.ref a1)]))
  have f4 : Fld Z h2 a1 "com/example/rivulet/rivulet/RegexLiteral" "replacement" "Lcom/example/rivulet/rivulet/Replacement;" u1 := (pr2).other W2 (Or.inr (slot_ne (Or.inr (hw _ (List.mem_of_getElem? (i := 48) rfl))) (Or.inr (hw _ (List.mem_of_getElem? (i := 46) rfl))) (by decide) (t := (.object "com/example/rivulet/rivulet/Replacement")) (t' := (.object "java/lang/String")) (by decide) (by decide)))
  have f5 : Exa Z h2 a1 "com/example/rivulet/rivulet/RegexLiteral" := (pr0).wr W2
  obtain ⟨T3, h3, X3, W3, st3⟩ := X2.putF (host := "") (Or.inl (hw _ (List.mem_of_getElem? (i := 47) rfl))) Via.refl f4 f5 (Or.inr ⟨(hw _ (List.mem_of_getElem? (i := 48) rfl)), rfl, rfl⟩) (hw _ (List.mem_of_getElem? (i := 31) rfl)) (.head _) (ty := (.object "com/example/rivulet/rivulet/Replacement")) (by decide) rfl rfl (g := (mkF m 11 #[.val (.ref a1), .val (.ref a2), .val .null, .val (.ref a3)] [.null, (.ref a1)])) rfl rfl d_prog_3_method_1_11
  refine Go.by st3 ?_
  have K0_h3 : Keep h0 h3 [a1] := K0_h2.wr W3 (Or.inl (.head _))
  have F3 : Fld Z h3 a1 "com/example/rivulet/rivulet/RegexLiteral" "replacement" "Lcom/example/rivulet/rivulet/Replacement;" .null := f4.same W3
  show Go _ _ _ _ (T3.setTop (mkF m 14 #[.val (.ref a1), .val (.ref a2), .val .null, .val (.ref a3)] []))
  refine Go.by (fun _ k => XS.aloadN X3.here X3.hx rfl (X3.cd d_prog_3_method_1_14) rfl rfl k) ?_
  show Go _ _ _ _ (T3.setTop (mkF m 15 #[.val (.ref a1), .val (.ref a2), .val .null, .val (.ref a3)] [(.ref a1)]))
  refine Go.by (fun _ k => XS.aloadN X3.here X3.hx rfl (X3.cd d_prog_3_method_1_15) rfl rfl k) ?_
  show Go _ _ _ _ (T3.setTop (mkF m 16 #[.val (.ref a1), .val (.ref a2), .val .null, .val (.ref a3)] [(.ref a3), (.ref a1)]))
  have f7 : Fld Z h3 a1 "com/example/rivulet/rivulet/RegexLiteral" "modifiers" "Ljava/lang/String;" u2 := ((pr3).other W2 (Or.inr (slot_ne (Or.inr (hw _ (List.mem_of_getElem? (i := 50) rfl))) (Or.inr (hw _ (List.mem_of_getElem? (i := 46) rfl))) (by decide) (t := (.object "java/lang/String")) (t' := (.object "java/lang/String")) (by decide) (by decide)))).other W3 (Or.inr (slot_ne (Or.inr (hw _ (List.mem_of_getElem? (i := 50) rfl))) (Or.inr (hw _ (List.mem_of_getElem? (i := 48) rfl))) (by decide) (t := (.object "java/lang/String")) (t' := (.object "com/example/rivulet/rivulet/Replacement")) (by decide) (by decide)))
  have f8 : Exa Z h3 a1 "com/example/rivulet/rivulet/RegexLiteral" := (f5).wr W3
  obtain ⟨T6, h6, X6, W6, st6⟩ := X3.putF (host := "") (Or.inl (hw _ (List.mem_of_getElem? (i := 49) rfl))) Via.refl f7 f8 (Or.inr ⟨(hw _ (List.mem_of_getElem? (i := 50) rfl)), rfl, rfl⟩) (hw _ (List.mem_of_getElem? (i := 31) rfl)) (.head _) (ty := (.object "java/lang/String")) (by decide) rfl rfl (g := (mkF m 16 #[.val (.ref a1), .val (.ref a2), .val .null, .val (.ref a3)] [(.ref a3), (.ref a1)])) rfl rfl d_prog_3_method_1_16
  refine Go.by st6 ?_
  have K0_h6 : Keep h0 h6 [a1] := K0_h3.wr W6 (Or.inl (.head _))
  have F6 : Fld Z h6 a1 "com/example/rivulet/rivulet/RegexLiteral" "modifiers" "Ljava/lang/String;" (.ref a3) := f7.same W6
  show Go _ _ _ _ (T6.setTop (mkF m 19 #[.val (.ref a1), .val (.ref a2), .val .null, .val (.ref a3)] []))
  exact X6.retV d_prog_3_method_1_19 K0_h6 ⟨rfl, F6⟩ (by decide) (by decide)
theorem ef_rm_has (m : MethodId) (x0 : Addr) (x1 : Int32) : entryFrame m #[(.ref x0), (.int x1)] 2 = mkF m 0 #[.val (.ref x0), .val (.int x1)] [] := by first | (simp [entryFrame, mkF, argsToLocals, Value.category]; done) | rfl
def Q_rm_has (Z : State) (a1 : Addr) (ci : Int32) (x : Addr) (t : Addr) (cs : List Int32) (zc : Int32) (h0 : Heap) (ov : Option Value) (hz : Heap) : Prop := ∃ (r : Int32), ov = some (.int r) ∧ h0 = hz ∧ ((r = 1 ∧ ci ∈ cs) ∨ (r = 0 ∧ ¬ ci ∈ cs))
theorem d_prog_3_method_2_0 : decode prog_3_method_2_code 0 = .ok (.aload_n 0, 1) := by decide +kernel
theorem d_prog_3_method_2_1 : decode prog_3_method_2_code 1 = .ok (.getfield 17, 3) := by decide +kernel
theorem d_prog_3_method_2_4 : decode prog_3_method_2_code 4 = .ok (.iload_n 1, 1) := by decide +kernel
theorem pd_7 : parseMethodDescriptor "(I)I" = some ⟨[.int], some .int⟩ := by decide +kernel
theorem d_prog_3_method_2_5 : decode prog_3_method_2_code 5 = .ok (.invokevirtual 20, 3) := by decide +kernel
theorem d_prog_3_method_2_8 : decode prog_3_method_2_code 8 = .ok (.ifCond .lt 7, 3) := by decide +kernel
theorem d_prog_3_method_2_15 : decode prog_3_method_2_code 15 = .ok (.iconst 0, 1) := by decide +kernel
theorem d_prog_3_method_2_16 : decode prog_3_method_2_code 16 = .ok (.ireturn, 1) := by decide +kernel
theorem d_prog_3_method_2_11 : decode prog_3_method_2_code 11 = .ok (.iconst 1, 1) := by decide +kernel
theorem d_prog_3_method_2_12 : decode prog_3_method_2_code 12 = .ok (.goto 4, 3) := by decide +kernel
abbrev RM_rm_has : Room := { frames := 4, cells := 0, slots := 0, locals := 59 }
set_option maxRecDepth 65536 in
set_option maxHeartbeats 40000000 in
theorem rm_has (l : Launch) (Z : State) (a0 : Array Value) (hw : ∀ d ∈ tables_1, d.before a0 Z = true) (n0 : Nat) (a1 : Addr) (ci : Int32) (x : Addr) (t : Addr) (cs : List Int32) (zc : Int32) (h0 : Heap) (hO : Old Z n0 h0) (pr0 : Fld Z h0 a1 "com/example/rivulet/rivulet/RegexLiteral" "modifiers" "Ljava/lang/String;" (.ref x)) (pr1 : Str Z h0 x t cs) (Sc : Sta Z Z.heap "java/lang/String" "COMPACT_STRINGS" "Z" (.int zc)) (nc : ¬ (zc = (0 : Int32))) (hp : ∀ c ∈ cs, ¬ c < 0 ∧ ¬ (255 : Int32) < c) :
    Ct l (⟨"com/example/rivulet/rivulet/RegexLiteral", "has", "(C)Z"⟩ : MethodName) prog_3_method_2_code 2 (some .boolean) [] RM_rm_has Z n0 #[(.ref a1), (.int ci)] h0 [] (Q_rm_has Z a1 ci x t cs zc h0) := by
  refine Ct.of_walk (plainFor_of_name pn_3) hO all0 ?_
  intro p e s m below meth c T0 X0
  rw [ef_rm_has m a1 ci]
  show Go _ _ _ _ (T0.setTop (mkF m 0 #[.val (.ref a1), .val (.int ci)] []))
  have f1 : Exa Z h0 x "java/lang/String" := pr1.exa
  refine Go.by (fun _ k => XS.aloadN X0.here X0.hx rfl (X0.cd d_prog_3_method_2_0) rfl rfl k) ?_
  show Go _ _ _ _ (T0.setTop (mkF m 1 #[.val (.ref a1), .val (.int ci)] [(.ref a1)]))
  obtain ⟨T2, X2, st2⟩ := X0.getF (host := "") (Or.inl (hw _ (List.mem_of_getElem? (i := 49) rfl))) Via.refl pr0 (g := (mkF m 1 #[.val (.ref a1), .val (.int ci)] [(.ref a1)])) rfl rfl d_prog_3_method_2_1
  refine Go.by st2 ?_
  show Go _ _ _ _ (T2.setTop (mkF m 4 #[.val (.ref a1), .val (.int ci)] [(.ref x)]))
  refine Go.by (fun _ k => XS.iloadN X2.here X2.hx rfl (X2.cd d_prog_3_method_2_4) rfl  k) ?_
  show Go _ _ _ _ (T2.setTop (mkF m 5 #[.val (.ref a1), .val (.int ci)] [(.int ci), (.ref x)]))
  obtain ⟨_, T3, h3, X3, K3, ⟨r_3, rfl, rfl, p3_0⟩, st3⟩ := X2.viN (W := 0) (hw _ (List.mem_of_getElem? (i := 56) rfl)) (hw _ (List.mem_of_getElem? (i := 57) rfl)) (hw _ (List.mem_of_getElem? (i := 59) rfl)) (hw _ (List.mem_of_getElem? (i := 58) rfl)) (by decide) ((rm_ix1 l Z a0 hw n0 x t ci cs zc h0 X2.old pr1 Sc nc hp).pay (hw _ (List.mem_of_getElem? (i := 60) rfl)) (hw _ (List.mem_of_getElem? (i := 3) rfl)) (by decide) (by decide)) all0 f1 (g := (mkF m 5 #[.val (.ref a1), .val (.int ci)] [(.int ci), (.ref x)])) rfl rfl (argsL := [(.int ci)]) (rest := []) (lenOf pd_7 rfl) rfl (by exact Nat.le_of_eq rfl) d_prog_3_method_2_5 rfl (by decide) (by decide)
  refine Go.tr st3 ?_
  show Go _ _ _ _ (T3.setTop (mkF m 8 #[.val (.ref a1), .val (.int ci)] [(.int r_3)]))
  by_cases c0 : r_3 < 0
  · refine Go.by (fun _ k => XS.ifYes X3.here X3.hx rfl (pc0 := 8) (pc' := 15) rfl (X3.cd d_prog_3_method_2_8) rfl (XT.i0_lt_t c0) (by decide) (by decide) k) ?_
    show Go _ _ _ _ (T3.setTop (mkF m 15 #[.val (.ref a1), .val (.int ci)] []))
    refine Go.by (fun _ k => XS.iconst X3.here X3.hx rfl (X3.cd d_prog_3_method_2_15)  k) ?_
    show Go _ _ _ _ (T3.setTop (mkF m 16 #[.val (.ref a1), .val (.int ci)] [(.int (0 : Int32))]))
    exact X3.retN (by simp) rfl d_prog_3_method_2_16 (Keep.refl h0 []) ⟨(0 : Int32), rfl, rfl, Or.inr ⟨rfl, by rcases p3_0 with ⟨q, _⟩ | ⟨_, q⟩ <;> first | exact q | exact absurd c0 q⟩⟩ (by decide) (by decide)
  · refine Go.by (fun _ k => XS.ifNo X3.here X3.hx rfl (X3.cd d_prog_3_method_2_8) rfl (XT.i0_lt_f c0) k) ?_
    show Go _ _ _ _ (T3.setTop (mkF m 11 #[.val (.ref a1), .val (.int ci)] []))
    refine Go.by (fun _ k => XS.iconst X3.here X3.hx rfl (X3.cd d_prog_3_method_2_11)  k) ?_
    show Go _ _ _ _ (T3.setTop (mkF m 12 #[.val (.ref a1), .val (.int ci)] [(.int (1 : Int32))]))
    refine Go.by (fun _ k => XS.goto X3.here X3.hx rfl (pc0 := 12) (pc' := 16) rfl (X3.cd d_prog_3_method_2_12) (by decide) (by decide) k) ?_
    show Go _ _ _ _ (T3.setTop (mkF m 16 #[.val (.ref a1), .val (.int ci)] [(.int (1 : Int32))]))
    exact X3.retN (by simp) rfl d_prog_3_method_2_16 (Keep.refl h0 []) ⟨(1 : Int32), rfl, rfl, Or.inl ⟨rfl, by rcases p3_0 with ⟨_, q⟩ | ⟨q, _⟩ <;> first | exact q | exact absurd q c0⟩⟩ (by decide) (by decide)
theorem ef_rm_law (m : MethodId) (x0 : Int32) (x1 : Int32) (x2 : Int32) (x3 : Int32) : entryFrame m #[(.int x0), (.int x1), (.int x2), (.int x3)] 15 = mkF m 0 #[.val (.int x0), .val (.int x1), .val (.int x2), .val (.int x3), .unset, .unset, .unset, .unset, .unset, .unset, .unset, .unset, .unset, .unset, .unset] [] := by first | (simp [entryFrame, mkF, argsToLocals, Value.category]; done) | rfl
def Q_rm_law (Z : State) (i0 : Int32) (i1 : Int32) (i2 : Int32) (i3 : Int32) (zc : Int32) (h0 : Heap) (ov : Option Value) (hz : Heap) : Prop := ov = some (.int (1 : Int32))
theorem pn_4 : plainName "com/example/rivulet/rivulet/RegexLiteralHasPinLaw" = true := by first | (simp [plainName, overriddenIn]; done) | decide +kernel
theorem pd_8 : parseMethodDescriptor "([C)V" = some ⟨[(.array .char)], none⟩ := by decide +kernel
theorem pd_9 : parseMethodDescriptor "(Ljava/lang/String;Lcom/example/rivulet/rivulet/Replacement;Ljava/lang/String;)V" = some ⟨[(.object "java/lang/String"), (.object "com/example/rivulet/rivulet/Replacement"), (.object "java/lang/String")], none⟩ := by decide +kernel
theorem pd_10 : parseMethodDescriptor "(C)Z" = some ⟨[.char], some .boolean⟩ := by decide +kernel
set_option maxRecDepth 65536 in
set_option maxHeartbeats 40000000 in
theorem rm_law (l : Launch) (Z : State) (a0 : Array Value) (hw : ∀ d ∈ tables_1, d.before a0 Z = true) (n0 : Nat) (i0 : Int32) (i1 : Int32) (i2 : Int32) (i3 : Int32) (zc : Int32) (h0 : Heap) (hO : Old Z n0 h0) (Sc : Sta Z Z.heap "java/lang/String" "COMPACT_STRINGS" "Z" (.int zc)) (nc : ¬ (zc = (0 : Int32))) :
    Cw l x code maxLocals ret tables_1 room_1 Z EL n0 #[(.int i0), (.int i1), (.int i2), (.int i3)] h0 [] [] (Q_rm_law Z i0 i1 i2 i3 zc h0) := by
  refine Cw.of_walk (plainFor_of_name pn_4) hO (own_EW hw) all0 ?_
  intro p e s m below meth c T0 X0
  show Go _ _ _ _ (T0.setTop (entryFrame m #[(.int i0), (.int i1), (.int i2), (.int i3)] 15))
  rw [ef_rm_law m i0 i1 i2 i3]
  show Go _ _ _ _ (T0.setTop (mkF m 0 #[.val (.int i0), .val (.int i1), .val (.int i2), .val (.int i3), .unset, .unset, .unset, .unset, .unset, .unset, .unset, .unset, .unset, .unset, .unset] []))
  refine Go.by (fun _ k => XS.iloadN X0.here X0.hx rfl (X0.cd at_0) rfl  k) ?_
  show Go _ _ _ _ (T0.setTop (mkF m 1 #[.val (.int i0), .val (.int i1), .val (.int i2), .val (.int i3), .unset, .unset, .unset, .unset, .unset, .unset, .unset, .unset, .unset, .unset, .unset] [(.int i1)]))
  refine Go.by (fun _ k => XS.iconst X0.here X0.hx rfl (X0.cd at_1)  k) ?_
  show Go _ _ _ _ (T0.setTop (mkF m 2 #[.val (.int i0), .val (.int i1), .val (.int i2), .val (.int i3), .unset, .unset, .unset, .unset, .unset, .unset, .unset, .unset, .unset, .unset, .unset] [(.int (3 : Int32)), (.int i1)]))
  refine Go.by (fun _ k => XS.iand X0.here X0.hx rfl (X0.cd at_2) rfl k) ?_
  show Go _ _ _ _ (T0.setTop (mkF m 3 #[.val (.int i0), .val (.int i1), .val (.int i2), .val (.int i3), .unset, .unset, .unset, .unset, .unset, .unset, .unset, .unset, .unset, .unset, .unset] [(.int (i1 &&& (3 : Int32)))]))
  rcases own_and3 i1 with hn | hn | hn | hn
  · rw [hn]
    show Go _ _ _ _ (T0.setTop (mkF m 3 #[.val (.int i0), .val (.int i1), .val (.int i2), .val (.int i3), .unset, .unset, .unset, .unset, .unset, .unset, .unset, .unset, .unset, .unset, .unset] [(.int (0 : Int32))]))
    refine Go.by (fun _ k => XS.istore X0.here X0.hx rfl (X0.cd at_3) rfl (l' := #[.val (.int i0), .val (.int i1), .val (.int i2), .val (.int i3), .val (.int (0 : Int32)), .unset, .unset, .unset, .unset, .unset, .unset, .unset, .unset, .unset, .unset]) rfl k) ?_
    show Go _ _ _ _ (T0.setTop (mkF m 5 #[.val (.int i0), .val (.int i1), .val (.int i2), .val (.int i3), .val (.int (0 : Int32)), .unset, .unset, .unset, .unset, .unset, .unset, .unset, .unset, .unset, .unset] []))
    refine Go.by (fun _ k => XS.iloadN X0.here X0.hx rfl (X0.cd at_5) rfl  k) ?_
    show Go _ _ _ _ (T0.setTop (mkF m 6 #[.val (.int i0), .val (.int i1), .val (.int i2), .val (.int i3), .val (.int (0 : Int32)), .unset, .unset, .unset, .unset, .unset, .unset, .unset, .unset, .unset, .unset] [(.int i0)]))
    refine Go.by (fun _ k => XS.sipush X0.here X0.hx rfl (X0.cd at_6)  k) ?_
    show Go _ _ _ _ (T0.setTop (mkF m 9 #[.val (.int i0), .val (.int i1), .val (.int i2), .val (.int i3), .val (.int (0 : Int32)), .unset, .unset, .unset, .unset, .unset, .unset, .unset, .unset, .unset, .unset] [(.int (255 : Int32)), (.int i0)]))
    refine Go.by (fun _ k => XS.iand X0.here X0.hx rfl (X0.cd at_9) rfl k) ?_
    show Go _ _ _ _ (T0.setTop (mkF m 10 #[.val (.int i0), .val (.int i1), .val (.int i2), .val (.int i3), .val (.int (0 : Int32)), .unset, .unset, .unset, .unset, .unset, .unset, .unset, .unset, .unset, .unset] [(.int (i0 &&& (255 : Int32)))]))
    refine Go.by (fun _ k => XS.i2c X0.here X0.hx rfl (X0.cd at_10) rfl k) ?_
    show Go _ _ _ _ (T0.setTop (mkF m 11 #[.val (.int i0), .val (.int i1), .val (.int i2), .val (.int i3), .val (.int (0 : Int32)), .unset, .unset, .unset, .unset, .unset, .unset, .unset, .unset, .unset, .unset] [(.int (((i0 &&& (255 : Int32))).toUInt32.toUInt16.toUInt32.toInt32))]))
    refine Go.by (fun _ k => XS.istore X0.here X0.hx rfl (X0.cd at_11) rfl (l' := #[.val (.int i0), .val (.int i1), .val (.int i2), .val (.int i3), .val (.int (0 : Int32)), .val (.int (((i0 &&& (255 : Int32))).toUInt32.toUInt16.toUInt32.toInt32)), .unset, .unset, .unset, .unset, .unset, .unset, .unset, .unset, .unset]) rfl k) ?_
    show Go _ _ _ _ (T0.setTop (mkF m 13 #[.val (.int i0), .val (.int i1), .val (.int i2), .val (.int i3), .val (.int (0 : Int32)), .val (.int (((i0 &&& (255 : Int32))).toUInt32.toUInt16.toUInt32.toInt32)), .unset, .unset, .unset, .unset, .unset, .unset, .unset, .unset, .unset] []))
    refine Go.by (fun _ k => XS.iloadN X0.here X0.hx rfl (X0.cd at_13) rfl  k) ?_
    show Go _ _ _ _ (T0.setTop (mkF m 14 #[.val (.int i0), .val (.int i1), .val (.int i2), .val (.int i3), .val (.int (0 : Int32)), .val (.int (((i0 &&& (255 : Int32))).toUInt32.toUInt16.toUInt32.toInt32)), .unset, .unset, .unset, .unset, .unset, .unset, .unset, .unset, .unset] [(.int i0)]))
    refine Go.by (fun _ k => XS.bipush X0.here X0.hx rfl (X0.cd at_14)  k) ?_
    show Go _ _ _ _ (T0.setTop (mkF m 16 #[.val (.int i0), .val (.int i1), .val (.int i2), .val (.int i3), .val (.int (0 : Int32)), .val (.int (((i0 &&& (255 : Int32))).toUInt32.toUInt16.toUInt32.toInt32)), .unset, .unset, .unset, .unset, .unset, .unset, .unset, .unset, .unset] [(.int (8 : Int32)), (.int i0)]))
    refine Go.by (fun _ k => XS.iushr X0.here X0.hx rfl (X0.cd at_16) rfl k) ?_
    show Go _ _ _ _ (T0.setTop (mkF m 17 #[.val (.int i0), .val (.int i1), .val (.int i2), .val (.int i3), .val (.int (0 : Int32)), .val (.int (((i0 &&& (255 : Int32))).toUInt32.toUInt16.toUInt32.toInt32)), .unset, .unset, .unset, .unset, .unset, .unset, .unset, .unset, .unset] [(.int (XT.ushr i0 (8 : Int32)))]))
    refine Go.by (fun _ k => XS.sipush X0.here X0.hx rfl (X0.cd at_17)  k) ?_
    show Go _ _ _ _ (T0.setTop (mkF m 20 #[.val (.int i0), .val (.int i1), .val (.int i2), .val (.int i3), .val (.int (0 : Int32)), .val (.int (((i0 &&& (255 : Int32))).toUInt32.toUInt16.toUInt32.toInt32)), .unset, .unset, .unset, .unset, .unset, .unset, .unset, .unset, .unset] [(.int (255 : Int32)), (.int (XT.ushr i0 (8 : Int32)))]))
    refine Go.by (fun _ k => XS.iand X0.here X0.hx rfl (X0.cd at_20) rfl k) ?_
    show Go _ _ _ _ (T0.setTop (mkF m 21 #[.val (.int i0), .val (.int i1), .val (.int i2), .val (.int i3), .val (.int (0 : Int32)), .val (.int (((i0 &&& (255 : Int32))).toUInt32.toUInt16.toUInt32.toInt32)), .unset, .unset, .unset, .unset, .unset, .unset, .unset, .unset, .unset] [(.int ((XT.ushr i0 (8 : Int32)) &&& (255 : Int32)))]))
    refine Go.by (fun _ k => XS.i2c X0.here X0.hx rfl (X0.cd at_21) rfl k) ?_
    show Go _ _ _ _ (T0.setTop (mkF m 22 #[.val (.int i0), .val (.int i1), .val (.int i2), .val (.int i3), .val (.int (0 : Int32)), .val (.int (((i0 &&& (255 : Int32))).toUInt32.toUInt16.toUInt32.toInt32)), .unset, .unset, .unset, .unset, .unset, .unset, .unset, .unset, .unset] [(.int ((((XT.ushr i0 (8 : Int32)) &&& (255 : Int32))).toUInt32.toUInt16.toUInt32.toInt32))]))
    refine Go.by (fun _ k => XS.istore X0.here X0.hx rfl (X0.cd at_22) rfl (l' := #[.val (.int i0), .val (.int i1), .val (.int i2), .val (.int i3), .val (.int (0 : Int32)), .val (.int (((i0 &&& (255 : Int32))).toUInt32.toUInt16.toUInt32.toInt32)), .val (.int ((((XT.ushr i0 (8 : Int32)) &&& (255 : Int32))).toUInt32.toUInt16.toUInt32.toInt32)), .unset, .unset, .unset, .unset, .unset, .unset, .unset, .unset]) rfl k) ?_
    show Go _ _ _ _ (T0.setTop (mkF m 24 #[.val (.int i0), .val (.int i1), .val (.int i2), .val (.int i3), .val (.int (0 : Int32)), .val (.int (((i0 &&& (255 : Int32))).toUInt32.toUInt16.toUInt32.toInt32)), .val (.int ((((XT.ushr i0 (8 : Int32)) &&& (255 : Int32))).toUInt32.toUInt16.toUInt32.toInt32)), .unset, .unset, .unset, .unset, .unset, .unset, .unset, .unset] []))
    refine Go.by (fun _ k => XS.iloadN X0.here X0.hx rfl (X0.cd at_24) rfl  k) ?_
    show Go _ _ _ _ (T0.setTop (mkF m 25 #[.val (.int i0), .val (.int i1), .val (.int i2), .val (.int i3), .val (.int (0 : Int32)), .val (.int (((i0 &&& (255 : Int32))).toUInt32.toUInt16.toUInt32.toInt32)), .val (.int ((((XT.ushr i0 (8 : Int32)) &&& (255 : Int32))).toUInt32.toUInt16.toUInt32.toInt32)), .unset, .unset, .unset, .unset, .unset, .unset, .unset, .unset] [(.int i0)]))
    refine Go.by (fun _ k => XS.bipush X0.here X0.hx rfl (X0.cd at_25)  k) ?_
    show Go _ _ _ _ (T0.setTop (mkF m 27 #[.val (.int i0), .val (.int i1), .val (.int i2), .val (.int i3), .val (.int (0 : Int32)), .val (.int (((i0 &&& (255 : Int32))).toUInt32.toUInt16.toUInt32.toInt32)), .val (.int ((((XT.ushr i0 (8 : Int32)) &&& (255 : Int32))).toUInt32.toUInt16.toUInt32.toInt32)), .unset, .unset, .unset, .unset, .unset, .unset, .unset, .unset] [(.int (16 : Int32)), (.int i0)]))
    refine Go.by (fun _ k => XS.iushr X0.here X0.hx rfl (X0.cd at_27) rfl k) ?_
    show Go _ _ _ _ (T0.setTop (mkF m 28 #[.val (.int i0), .val (.int i1), .val (.int i2), .val (.int i3), .val (.int (0 : Int32)), .val (.int (((i0 &&& (255 : Int32))).toUInt32.toUInt16.toUInt32.toInt32)), .val (.int ((((XT.ushr i0 (8 : Int32)) &&& (255 : Int32))).toUInt32.toUInt16.toUInt32.toInt32)), .unset, .unset, .unset, .unset, .unset, .unset, .unset, .unset] [(.int (XT.ushr i0 (16 : Int32)))]))
    refine Go.by (fun _ k => XS.sipush X0.here X0.hx rfl (X0.cd at_28)  k) ?_
    show Go _ _ _ _ (T0.setTop (mkF m 31 #[.val (.int i0), .val (.int i1), .val (.int i2), .val (.int i3), .val (.int (0 : Int32)), .val (.int (((i0 &&& (255 : Int32))).toUInt32.toUInt16.toUInt32.toInt32)), .val (.int ((((XT.ushr i0 (8 : Int32)) &&& (255 : Int32))).toUInt32.toUInt16.toUInt32.toInt32)), .unset, .unset, .unset, .unset, .unset, .unset, .unset, .unset] [(.int (255 : Int32)), (.int (XT.ushr i0 (16 : Int32)))]))
    refine Go.by (fun _ k => XS.iand X0.here X0.hx rfl (X0.cd at_31) rfl k) ?_
    show Go _ _ _ _ (T0.setTop (mkF m 32 #[.val (.int i0), .val (.int i1), .val (.int i2), .val (.int i3), .val (.int (0 : Int32)), .val (.int (((i0 &&& (255 : Int32))).toUInt32.toUInt16.toUInt32.toInt32)), .val (.int ((((XT.ushr i0 (8 : Int32)) &&& (255 : Int32))).toUInt32.toUInt16.toUInt32.toInt32)), .unset, .unset, .unset, .unset, .unset, .unset, .unset, .unset] [(.int ((XT.ushr i0 (16 : Int32)) &&& (255 : Int32)))]))
    refine Go.by (fun _ k => XS.i2c X0.here X0.hx rfl (X0.cd at_32) rfl k) ?_
    show Go _ _ _ _ (T0.setTop (mkF m 33 #[.val (.int i0), .val (.int i1), .val (.int i2), .val (.int i3), .val (.int (0 : Int32)), .val (.int (((i0 &&& (255 : Int32))).toUInt32.toUInt16.toUInt32.toInt32)), .val (.int ((((XT.ushr i0 (8 : Int32)) &&& (255 : Int32))).toUInt32.toUInt16.toUInt32.toInt32)), .unset, .unset, .unset, .unset, .unset, .unset, .unset, .unset] [(.int ((((XT.ushr i0 (16 : Int32)) &&& (255 : Int32))).toUInt32.toUInt16.toUInt32.toInt32))]))
    refine Go.by (fun _ k => XS.istore X0.here X0.hx rfl (X0.cd at_33) rfl (l' := #[.val (.int i0), .val (.int i1), .val (.int i2), .val (.int i3), .val (.int (0 : Int32)), .val (.int (((i0 &&& (255 : Int32))).toUInt32.toUInt16.toUInt32.toInt32)), .val (.int ((((XT.ushr i0 (8 : Int32)) &&& (255 : Int32))).toUInt32.toUInt16.toUInt32.toInt32)), .val (.int ((((XT.ushr i0 (16 : Int32)) &&& (255 : Int32))).toUInt32.toUInt16.toUInt32.toInt32)), .unset, .unset, .unset, .unset, .unset, .unset, .unset]) rfl k) ?_
    show Go _ _ _ _ (T0.setTop (mkF m 35 #[.val (.int i0), .val (.int i1), .val (.int i2), .val (.int i3), .val (.int (0 : Int32)), .val (.int (((i0 &&& (255 : Int32))).toUInt32.toUInt16.toUInt32.toInt32)), .val (.int ((((XT.ushr i0 (8 : Int32)) &&& (255 : Int32))).toUInt32.toUInt16.toUInt32.toInt32)), .val (.int ((((XT.ushr i0 (16 : Int32)) &&& (255 : Int32))).toUInt32.toUInt16.toUInt32.toInt32)), .unset, .unset, .unset, .unset, .unset, .unset, .unset] []))
    refine Go.by (fun _ k => XS.iload X0.here X0.hx rfl (X0.cd at_35) rfl  k) ?_
    show Go _ _ _ _ (T0.setTop (mkF m 37 #[.val (.int i0), .val (.int i1), .val (.int i2), .val (.int i3), .val (.int (0 : Int32)), .val (.int (((i0 &&& (255 : Int32))).toUInt32.toUInt16.toUInt32.toInt32)), .val (.int ((((XT.ushr i0 (8 : Int32)) &&& (255 : Int32))).toUInt32.toUInt16.toUInt32.toInt32)), .val (.int ((((XT.ushr i0 (16 : Int32)) &&& (255 : Int32))).toUInt32.toUInt16.toUInt32.toInt32)), .unset, .unset, .unset, .unset, .unset, .unset, .unset] [(.int (0 : Int32))]))
    obtain ⟨T1, h1, b1, k1, g_b1, X1, E1, A1, st1⟩ := X0.newP (hw _ (List.mem_of_getElem? (i := 0) rfl)) (g := (mkF m 37 #[.val (.int i0), .val (.int i1), .val (.int i2), .val (.int i3), .val (.int (0 : Int32)), .val (.int (((i0 &&& (255 : Int32))).toUInt32.toUInt16.toUInt32.toInt32)), .val (.int ((((XT.ushr i0 (8 : Int32)) &&& (255 : Int32))).toUInt32.toUInt16.toUInt32.toInt32)), .val (.int ((((XT.ushr i0 (16 : Int32)) &&& (255 : Int32))).toUInt32.toUInt16.toUInt32.toInt32)), .unset, .unset, .unset, .unset, .unset, .unset, .unset] [(.int (0 : Int32))])) rfl at_37 rfl (by decide) (cap := 0) (by decide) (by decide) (by decide) (by decide) (vs := []) rfl
    refine Go.by st1 ?_
    have sz_b1 : h0.size ≤ b1 := Nat.le_trans X0.sz (Nat.le_of_eq g_b1.symm)
    have K0_h1 : Keep h0 h1 [] := (Keep.refl h0 []).ext E1
    have F1 : Arv Z h1 b1 k1 .char (0 : Int32) [] (.int (0 : Int32)) := A1
    show Go _ _ _ _ (T1.setTop (mkF m 39 #[.val (.int i0), .val (.int i1), .val (.int i2), .val (.int i3), .val (.int (0 : Int32)), .val (.int (((i0 &&& (255 : Int32))).toUInt32.toUInt16.toUInt32.toInt32)), .val (.int ((((XT.ushr i0 (8 : Int32)) &&& (255 : Int32))).toUInt32.toUInt16.toUInt32.toInt32)), .val (.int ((((XT.ushr i0 (16 : Int32)) &&& (255 : Int32))).toUInt32.toUInt16.toUInt32.toInt32)), .unset, .unset, .unset, .unset, .unset, .unset, .unset] [(.ref b1)]))
    refine Go.by (fun _ k => XS.astore X1.here X1.hx rfl (X1.cd at_39) rfl rfl (l' := #[.val (.int i0), .val (.int i1), .val (.int i2), .val (.int i3), .val (.int (0 : Int32)), .val (.int (((i0 &&& (255 : Int32))).toUInt32.toUInt16.toUInt32.toInt32)), .val (.int ((((XT.ushr i0 (8 : Int32)) &&& (255 : Int32))).toUInt32.toUInt16.toUInt32.toInt32)), .val (.int ((((XT.ushr i0 (16 : Int32)) &&& (255 : Int32))).toUInt32.toUInt16.toUInt32.toInt32)), .val (.ref b1), .unset, .unset, .unset, .unset, .unset, .unset]) rfl k) ?_
    show Go _ _ _ _ (T1.setTop (mkF m 41 #[.val (.int i0), .val (.int i1), .val (.int i2), .val (.int i3), .val (.int (0 : Int32)), .val (.int (((i0 &&& (255 : Int32))).toUInt32.toUInt16.toUInt32.toInt32)), .val (.int ((((XT.ushr i0 (8 : Int32)) &&& (255 : Int32))).toUInt32.toUInt16.toUInt32.toInt32)), .val (.int ((((XT.ushr i0 (16 : Int32)) &&& (255 : Int32))).toUInt32.toUInt16.toUInt32.toInt32)), .val (.ref b1), .unset, .unset, .unset, .unset, .unset, .unset] []))
    refine Go.by (fun _ k => XS.iload X1.here X1.hx rfl (X1.cd at_41) rfl  k) ?_
    show Go _ _ _ _ (T1.setTop (mkF m 43 #[.val (.int i0), .val (.int i1), .val (.int i2), .val (.int i3), .val (.int (0 : Int32)), .val (.int (((i0 &&& (255 : Int32))).toUInt32.toUInt16.toUInt32.toInt32)), .val (.int ((((XT.ushr i0 (8 : Int32)) &&& (255 : Int32))).toUInt32.toUInt16.toUInt32.toInt32)), .val (.int ((((XT.ushr i0 (16 : Int32)) &&& (255 : Int32))).toUInt32.toUInt16.toUInt32.toInt32)), .val (.ref b1), .unset, .unset, .unset, .unset, .unset, .unset] [(.int (0 : Int32))]))
    refine Go.by (fun _ k => XS.ifYes X1.here X1.hx rfl (pc0 := 43) (pc' := 52) rfl (X1.cd at_43) rfl (XT.i0_le_t (by decide)) (by decide) (by decide) k) ?_
    show Go _ _ _ _ (T1.setTop (mkF m 52 #[.val (.int i0), .val (.int i1), .val (.int i2), .val (.int i3), .val (.int (0 : Int32)), .val (.int (((i0 &&& (255 : Int32))).toUInt32.toUInt16.toUInt32.toInt32)), .val (.int ((((XT.ushr i0 (8 : Int32)) &&& (255 : Int32))).toUInt32.toUInt16.toUInt32.toInt32)), .val (.int ((((XT.ushr i0 (16 : Int32)) &&& (255 : Int32))).toUInt32.toUInt16.toUInt32.toInt32)), .val (.ref b1), .unset, .unset, .unset, .unset, .unset, .unset] []))
    refine Go.by (fun _ k => XS.iload X1.here X1.hx rfl (X1.cd at_52) rfl  k) ?_
    show Go _ _ _ _ (T1.setTop (mkF m 54 #[.val (.int i0), .val (.int i1), .val (.int i2), .val (.int i3), .val (.int (0 : Int32)), .val (.int (((i0 &&& (255 : Int32))).toUInt32.toUInt16.toUInt32.toInt32)), .val (.int ((((XT.ushr i0 (8 : Int32)) &&& (255 : Int32))).toUInt32.toUInt16.toUInt32.toInt32)), .val (.int ((((XT.ushr i0 (16 : Int32)) &&& (255 : Int32))).toUInt32.toUInt16.toUInt32.toInt32)), .val (.ref b1), .unset, .unset, .unset, .unset, .unset, .unset] [(.int (0 : Int32))]))
    refine Go.by (fun _ k => XS.iconst X1.here X1.hx rfl (X1.cd at_54)  k) ?_
    show Go _ _ _ _ (T1.setTop (mkF m 55 #[.val (.int i0), .val (.int i1), .val (.int i2), .val (.int i3), .val (.int (0 : Int32)), .val (.int (((i0 &&& (255 : Int32))).toUInt32.toUInt16.toUInt32.toInt32)), .val (.int ((((XT.ushr i0 (8 : Int32)) &&& (255 : Int32))).toUInt32.toUInt16.toUInt32.toInt32)), .val (.int ((((XT.ushr i0 (16 : Int32)) &&& (255 : Int32))).toUInt32.toUInt16.toUInt32.toInt32)), .val (.ref b1), .unset, .unset, .unset, .unset, .unset, .unset] [(.int (1 : Int32)), (.int (0 : Int32))]))
    refine Go.by (fun _ k => XS.icmpYes X1.here X1.hx rfl (pc0 := 55) (pc' := 64) rfl (X1.cd at_55) rfl (XT.ii_le_t (by decide)) (by decide) (by decide) k) ?_
    show Go _ _ _ _ (T1.setTop (mkF m 64 #[.val (.int i0), .val (.int i1), .val (.int i2), .val (.int i3), .val (.int (0 : Int32)), .val (.int (((i0 &&& (255 : Int32))).toUInt32.toUInt16.toUInt32.toInt32)), .val (.int ((((XT.ushr i0 (8 : Int32)) &&& (255 : Int32))).toUInt32.toUInt16.toUInt32.toInt32)), .val (.int ((((XT.ushr i0 (16 : Int32)) &&& (255 : Int32))).toUInt32.toUInt16.toUInt32.toInt32)), .val (.ref b1), .unset, .unset, .unset, .unset, .unset, .unset] []))
    refine Go.by (fun _ k => XS.iload X1.here X1.hx rfl (X1.cd at_64) rfl  k) ?_
    show Go _ _ _ _ (T1.setTop (mkF m 66 #[.val (.int i0), .val (.int i1), .val (.int i2), .val (.int i3), .val (.int (0 : Int32)), .val (.int (((i0 &&& (255 : Int32))).toUInt32.toUInt16.toUInt32.toInt32)), .val (.int ((((XT.ushr i0 (8 : Int32)) &&& (255 : Int32))).toUInt32.toUInt16.toUInt32.toInt32)), .val (.int ((((XT.ushr i0 (16 : Int32)) &&& (255 : Int32))).toUInt32.toUInt16.toUInt32.toInt32)), .val (.ref b1), .unset, .unset, .unset, .unset, .unset, .unset] [(.int (0 : Int32))]))
    refine Go.by (fun _ k => XS.iconst X1.here X1.hx rfl (X1.cd at_66)  k) ?_
    show Go _ _ _ _ (T1.setTop (mkF m 67 #[.val (.int i0), .val (.int i1), .val (.int i2), .val (.int i3), .val (.int (0 : Int32)), .val (.int (((i0 &&& (255 : Int32))).toUInt32.toUInt16.toUInt32.toInt32)), .val (.int ((((XT.ushr i0 (8 : Int32)) &&& (255 : Int32))).toUInt32.toUInt16.toUInt32.toInt32)), .val (.int ((((XT.ushr i0 (16 : Int32)) &&& (255 : Int32))).toUInt32.toUInt16.toUInt32.toInt32)), .val (.ref b1), .unset, .unset, .unset, .unset, .unset, .unset] [(.int (2 : Int32)), (.int (0 : Int32))]))
    refine Go.by (fun _ k => XS.icmpYes X1.here X1.hx rfl (pc0 := 67) (pc' := 76) rfl (X1.cd at_67) rfl (XT.ii_le_t (by decide)) (by decide) (by decide) k) ?_
    show Go _ _ _ _ (T1.setTop (mkF m 76 #[.val (.int i0), .val (.int i1), .val (.int i2), .val (.int i3), .val (.int (0 : Int32)), .val (.int (((i0 &&& (255 : Int32))).toUInt32.toUInt16.toUInt32.toInt32)), .val (.int ((((XT.ushr i0 (8 : Int32)) &&& (255 : Int32))).toUInt32.toUInt16.toUInt32.toInt32)), .val (.int ((((XT.ushr i0 (16 : Int32)) &&& (255 : Int32))).toUInt32.toUInt16.toUInt32.toInt32)), .val (.ref b1), .unset, .unset, .unset, .unset, .unset, .unset] []))
    have lt_b1_2 := (X1.lt (.head _))
    obtain ⟨T2, h2, b2, g_b2, X2, E2, A2, D2, st2⟩ := X1.new (hw _ (List.mem_of_getElem? (i := 1) rfl)) (hw _ (List.mem_of_getElem? (i := 2) rfl)) (hw _ (List.mem_of_getElem? (i := 3) rfl)) (g := (mkF m 76 #[.val (.int i0), .val (.int i1), .val (.int i2), .val (.int i3), .val (.int (0 : Int32)), .val (.int (((i0 &&& (255 : Int32))).toUInt32.toUInt16.toUInt32.toInt32)), .val (.int ((((XT.ushr i0 (8 : Int32)) &&& (255 : Int32))).toUInt32.toUInt16.toUInt32.toInt32)), .val (.int ((((XT.ushr i0 (16 : Int32)) &&& (255 : Int32))).toUInt32.toUInt16.toUInt32.toInt32)), .val (.ref b1), .unset, .unset, .unset, .unset, .unset, .unset] [])) rfl at_76 (by decide) (by decide)
    refine Go.by st2 ?_
    have ne_b1_b2 : b1 ≠ b2 := ne_new lt_b1_2 g_b2
    have sz_b2 : h0.size ≤ b2 := Nat.le_trans X1.sz (Nat.le_of_eq g_b2.symm)
    have K0_h2 : Keep h0 h2 [] := K0_h1.ext E2
    have F2_coder : Fld Z h2 b2 "java/lang/String" "coder" "B" (.int (0 : Int32)) := D2 (Or.inr (hw _ (List.mem_of_getElem? (i := 27) rfl))) (ty := .byte) (by decide)
    have F2_value : Fld Z h2 b2 "java/lang/String" "value" "[B" .null := D2 (Or.inr (hw _ (List.mem_of_getElem? (i := 29) rfl))) (ty := (.array .byte)) (by decide)
    show Go _ _ _ _ (T2.setTop (mkF m 79 #[.val (.int i0), .val (.int i1), .val (.int i2), .val (.int i3), .val (.int (0 : Int32)), .val (.int (((i0 &&& (255 : Int32))).toUInt32.toUInt16.toUInt32.toInt32)), .val (.int ((((XT.ushr i0 (8 : Int32)) &&& (255 : Int32))).toUInt32.toUInt16.toUInt32.toInt32)), .val (.int ((((XT.ushr i0 (16 : Int32)) &&& (255 : Int32))).toUInt32.toUInt16.toUInt32.toInt32)), .val (.ref b1), .unset, .unset, .unset, .unset, .unset, .unset] [(.ref b2)]))
    refine Go.by (fun _ k => XS.dup X2.here X2.hx rfl (X2.cd at_79) rfl rfl k) ?_
    show Go _ _ _ _ (T2.setTop (mkF m 80 #[.val (.int i0), .val (.int i1), .val (.int i2), .val (.int i3), .val (.int (0 : Int32)), .val (.int (((i0 &&& (255 : Int32))).toUInt32.toUInt16.toUInt32.toInt32)), .val (.int ((((XT.ushr i0 (8 : Int32)) &&& (255 : Int32))).toUInt32.toUInt16.toUInt32.toInt32)), .val (.int ((((XT.ushr i0 (16 : Int32)) &&& (255 : Int32))).toUInt32.toUInt16.toUInt32.toInt32)), .val (.ref b1), .unset, .unset, .unset, .unset, .unset, .unset] [(.ref b2), (.ref b2)]))
    refine Go.by (fun _ k => XS.aload X2.here X2.hx rfl (X2.cd at_80) rfl rfl k) ?_
    show Go _ _ _ _ (T2.setTop (mkF m 82 #[.val (.int i0), .val (.int i1), .val (.int i2), .val (.int i3), .val (.int (0 : Int32)), .val (.int (((i0 &&& (255 : Int32))).toUInt32.toUInt16.toUInt32.toInt32)), .val (.int ((((XT.ushr i0 (8 : Int32)) &&& (255 : Int32))).toUInt32.toUInt16.toUInt32.toInt32)), .val (.int ((((XT.ushr i0 (16 : Int32)) &&& (255 : Int32))).toUInt32.toUInt16.toUInt32.toInt32)), .val (.ref b1), .unset, .unset, .unset, .unset, .unset, .unset] [(.ref b1), (.ref b2), (.ref b2)]))
    have f3 : Arv Z h2 b1 k1 .char (0 : Int32) [] (.int (0 : Int32)) := F1.ext E2
    obtain ⟨_, T4, h4, X4, K4, ⟨t_4, rfl, P4_0, p4_0⟩, st4⟩ := X2.spW (W := 1) rfl (hw _ (List.mem_of_getElem? (i := 4) rfl)) (hw _ (List.mem_of_getElem? (i := 5) rfl)) (hw _ (List.mem_of_getElem? (i := 6) rfl)) (by decide) ((rm_ne1 l Z a0 hw n0 b2 b1 b2 k1 [] .null (.int (0 : Int32)) h2 X2.old A2 F2_value F2_coder f3 (X2.ge (.head _)) (X2.lt (.head _)) (X2.ge (.head _)) (X2.lt (.head _))).pay (hw _ (List.mem_of_getElem? (i := 6) rfl)) (hw _ (List.mem_of_getElem? (i := 3) rfl)) (own_EW hw) (by decide) (by decide)) (allS (.head _) all0) (allS (.head _) (allS (.head _) all0)) (g := (mkF m 82 #[.val (.int i0), .val (.int i1), .val (.int i2), .val (.int i3), .val (.int (0 : Int32)), .val (.int (((i0 &&& (255 : Int32))).toUInt32.toUInt16.toUInt32.toInt32)), .val (.int ((((XT.ushr i0 (8 : Int32)) &&& (255 : Int32))).toUInt32.toUInt16.toUInt32.toInt32)), .val (.int ((((XT.ushr i0 (16 : Int32)) &&& (255 : Int32))).toUInt32.toUInt16.toUInt32.toInt32)), .val (.ref b1), .unset, .unset, .unset, .unset, .unset, .unset] [(.ref b1), (.ref b2), (.ref b2)])) rfl rfl (a := b2) (argsL := [(.ref b1)]) (rest := [(.ref b2)]) (lenOf pd_8 rfl) rfl (by exact Nat.le_of_eq rfl) at_82 rfl (by decide) (by decide)
    refine Go.tr st4 ?_
    have K0_h4 : Keep h0 h4 [] := K0_h2.trans K4 (allS (Or.inr sz_b2) all0)
    show Go _ _ _ _ (T4.setTop (mkF m 85 #[.val (.int i0), .val (.int i1), .val (.int i2), .val (.int i3), .val (.int (0 : Int32)), .val (.int (((i0 &&& (255 : Int32))).toUInt32.toUInt16.toUInt32.toInt32)), .val (.int ((((XT.ushr i0 (8 : Int32)) &&& (255 : Int32))).toUInt32.toUInt16.toUInt32.toInt32)), .val (.int ((((XT.ushr i0 (16 : Int32)) &&& (255 : Int32))).toUInt32.toUInt16.toUInt32.toInt32)), .val (.ref b1), .unset, .unset, .unset, .unset, .unset, .unset] [(.ref b2)]))
    refine Go.by (fun _ k => XS.astore X4.here X4.hx rfl (X4.cd at_85) rfl rfl (l' := #[.val (.int i0), .val (.int i1), .val (.int i2), .val (.int i3), .val (.int (0 : Int32)), .val (.int (((i0 &&& (255 : Int32))).toUInt32.toUInt16.toUInt32.toInt32)), .val (.int ((((XT.ushr i0 (8 : Int32)) &&& (255 : Int32))).toUInt32.toUInt16.toUInt32.toInt32)), .val (.int ((((XT.ushr i0 (16 : Int32)) &&& (255 : Int32))).toUInt32.toUInt16.toUInt32.toInt32)), .val (.ref b1), .val (.ref b2), .unset, .unset, .unset, .unset, .unset]) rfl k) ?_
    show Go _ _ _ _ (T4.setTop (mkF m 87 #[.val (.int i0), .val (.int i1), .val (.int i2), .val (.int i3), .val (.int (0 : Int32)), .val (.int (((i0 &&& (255 : Int32))).toUInt32.toUInt16.toUInt32.toInt32)), .val (.int ((((XT.ushr i0 (8 : Int32)) &&& (255 : Int32))).toUInt32.toUInt16.toUInt32.toInt32)), .val (.int ((((XT.ushr i0 (16 : Int32)) &&& (255 : Int32))).toUInt32.toUInt16.toUInt32.toInt32)), .val (.ref b1), .val (.ref b2), .unset, .unset, .unset, .unset, .unset] []))
    have lt_b1_5 := (X4.lt (.tail _ (.head _)))
    have lt_b2_5 := (X4.lt (.head _))
    have lt_t_4_5 := P4_0.ltT
    obtain ⟨T5, h5, b5, g_b5, X5, E5, A5, D5, st5⟩ := X4.new (hw _ (List.mem_of_getElem? (i := 30) rfl)) (hw _ (List.mem_of_getElem? (i := 31) rfl)) (hw _ (List.mem_of_getElem? (i := 32) rfl)) (g := (mkF m 87 #[.val (.int i0), .val (.int i1), .val (.int i2), .val (.int i3), .val (.int (0 : Int32)), .val (.int (((i0 &&& (255 : Int32))).toUInt32.toUInt16.toUInt32.toInt32)), .val (.int ((((XT.ushr i0 (8 : Int32)) &&& (255 : Int32))).toUInt32.toUInt16.toUInt32.toInt32)), .val (.int ((((XT.ushr i0 (16 : Int32)) &&& (255 : Int32))).toUInt32.toUInt16.toUInt32.toInt32)), .val (.ref b1), .val (.ref b2), .unset, .unset, .unset, .unset, .unset] [])) rfl at_87 (by decide) (by decide)
    refine Go.by st5 ?_
    have ne_b1_b5 : b1 ≠ b5 := ne_new lt_b1_5 g_b5
    have ne_b2_b5 : b2 ≠ b5 := ne_new lt_b2_5 g_b5
    have ne_t_4_b5 : t_4 ≠ b5 := ne_new lt_t_4_5 g_b5
    have sz_b5 : h0.size ≤ b5 := Nat.le_trans X4.sz (Nat.le_of_eq g_b5.symm)
    have K0_h5 : Keep h0 h5 [] := K0_h4.ext E5
    have F5_regex : Fld Z h5 b5 "com/example/rivulet/rivulet/RegexLiteral" "regex" "Ljava/lang/String;" .null := D5 (Or.inr (hw _ (List.mem_of_getElem? (i := 46) rfl))) (ty := (.object "java/lang/String")) (by decide)
    have F5_replacement : Fld Z h5 b5 "com/example/rivulet/rivulet/RegexLiteral" "replacement" "Lcom/example/rivulet/rivulet/Replacement;" .null := D5 (Or.inr (hw _ (List.mem_of_getElem? (i := 48) rfl))) (ty := (.object "com/example/rivulet/rivulet/Replacement")) (by decide)
    have F5_modifiers : Fld Z h5 b5 "com/example/rivulet/rivulet/RegexLiteral" "modifiers" "Ljava/lang/String;" .null := D5 (Or.inr (hw _ (List.mem_of_getElem? (i := 50) rfl))) (ty := (.object "java/lang/String")) (by decide)
    show Go _ _ _ _ (T5.setTop (mkF m 90 #[.val (.int i0), .val (.int i1), .val (.int i2), .val (.int i3), .val (.int (0 : Int32)), .val (.int (((i0 &&& (255 : Int32))).toUInt32.toUInt16.toUInt32.toInt32)), .val (.int ((((XT.ushr i0 (8 : Int32)) &&& (255 : Int32))).toUInt32.toUInt16.toUInt32.toInt32)), .val (.int ((((XT.ushr i0 (16 : Int32)) &&& (255 : Int32))).toUInt32.toUInt16.toUInt32.toInt32)), .val (.ref b1), .val (.ref b2), .unset, .unset, .unset, .unset, .unset] [(.ref b5)]))
    refine Go.by (fun _ k => XS.dup X5.here X5.hx rfl (X5.cd at_90) rfl rfl k) ?_
    show Go _ _ _ _ (T5.setTop (mkF m 91 #[.val (.int i0), .val (.int i1), .val (.int i2), .val (.int i3), .val (.int (0 : Int32)), .val (.int (((i0 &&& (255 : Int32))).toUInt32.toUInt16.toUInt32.toInt32)), .val (.int ((((XT.ushr i0 (8 : Int32)) &&& (255 : Int32))).toUInt32.toUInt16.toUInt32.toInt32)), .val (.int ((((XT.ushr i0 (16 : Int32)) &&& (255 : Int32))).toUInt32.toUInt16.toUInt32.toInt32)), .val (.ref b1), .val (.ref b2), .unset, .unset, .unset, .unset, .unset] [(.ref b5), (.ref b5)]))
    obtain ⟨b6, T6, h6, X6, E6, st6⟩ := X5.ldcS (hw _ (List.mem_of_getElem? (i := 33) rfl)) (own_SA hw) (g := (mkF m 91 #[.val (.int i0), .val (.int i1), .val (.int i2), .val (.int i3), .val (.int (0 : Int32)), .val (.int (((i0 &&& (255 : Int32))).toUInt32.toUInt16.toUInt32.toInt32)), .val (.int ((((XT.ushr i0 (8 : Int32)) &&& (255 : Int32))).toUInt32.toUInt16.toUInt32.toInt32)), .val (.int ((((XT.ushr i0 (16 : Int32)) &&& (255 : Int32))).toUInt32.toUInt16.toUInt32.toInt32)), .val (.ref b1), .val (.ref b2), .unset, .unset, .unset, .unset, .unset] [(.ref b5), (.ref b5)])) rfl at_91 (n := 0) (by decide) (by decide) (by decide) (by decide)
    refine Go.by st6 ?_
    have K0_h6 : Keep h0 h6 [] := K0_h5.ext E6
    show Go _ _ _ _ (T6.setTop (mkF m 93 #[.val (.int i0), .val (.int i1), .val (.int i2), .val (.int i3), .val (.int (0 : Int32)), .val (.int (((i0 &&& (255 : Int32))).toUInt32.toUInt16.toUInt32.toInt32)), .val (.int ((((XT.ushr i0 (8 : Int32)) &&& (255 : Int32))).toUInt32.toUInt16.toUInt32.toInt32)), .val (.int ((((XT.ushr i0 (16 : Int32)) &&& (255 : Int32))).toUInt32.toUInt16.toUInt32.toInt32)), .val (.ref b1), .val (.ref b2), .unset, .unset, .unset, .unset, .unset] [(.ref b6), (.ref b5), (.ref b5)]))
    refine Go.by (fun _ k => XS.aconstNull X6.here X6.hx rfl (X6.cd at_93)  k) ?_
    show Go _ _ _ _ (T6.setTop (mkF m 94 #[.val (.int i0), .val (.int i1), .val (.int i2), .val (.int i3), .val (.int (0 : Int32)), .val (.int (((i0 &&& (255 : Int32))).toUInt32.toUInt16.toUInt32.toInt32)), .val (.int ((((XT.ushr i0 (8 : Int32)) &&& (255 : Int32))).toUInt32.toUInt16.toUInt32.toInt32)), .val (.int ((((XT.ushr i0 (16 : Int32)) &&& (255 : Int32))).toUInt32.toUInt16.toUInt32.toInt32)), .val (.ref b1), .val (.ref b2), .unset, .unset, .unset, .unset, .unset] [.null, (.ref b6), (.ref b5), (.ref b5)]))
    refine Go.by (fun _ k => XS.aload X6.here X6.hx rfl (X6.cd at_94) rfl rfl k) ?_
    show Go _ _ _ _ (T6.setTop (mkF m 96 #[.val (.int i0), .val (.int i1), .val (.int i2), .val (.int i3), .val (.int (0 : Int32)), .val (.int (((i0 &&& (255 : Int32))).toUInt32.toUInt16.toUInt32.toInt32)), .val (.int ((((XT.ushr i0 (8 : Int32)) &&& (255 : Int32))).toUInt32.toUInt16.toUInt32.toInt32)), .val (.int ((((XT.ushr i0 (16 : Int32)) &&& (255 : Int32))).toUInt32.toUInt16.toUInt32.toInt32)), .val (.ref b1), .val (.ref b2), .unset, .unset, .unset, .unset, .unset] [(.ref b2), .null, (.ref b6), (.ref b5), (.ref b5)]))
    have f7 : Exa Z h6 b5 "com/example/rivulet/rivulet/RegexLiteral" := A5.ext E6
    have f8 : Fld Z h6 b5 "com/example/rivulet/rivulet/RegexLiteral" "regex" "Ljava/lang/String;" .null := F5_regex.ext E6
    have f9 : Fld Z h6 b5 "com/example/rivulet/rivulet/RegexLiteral" "replacement" "Lcom/example/rivulet/rivulet/Replacement;" .null := F5_replacement.ext E6
    have f10 : Fld Z h6 b5 "com/example/rivulet/rivulet/RegexLiteral" "modifiers" "Ljava/lang/String;" .null := F5_modifiers.ext E6
    obtain ⟨_, T11, h11, X11, K11, ⟨rfl, P11_0⟩, st11⟩ := X6.spN (W := 1) rfl (hw _ (List.mem_of_getElem? (i := 36) rfl)) (hw _ (List.mem_of_getElem? (i := 37) rfl)) (hw _ (List.mem_of_getElem? (i := 38) rfl)) (by decide) ((rm_ini l Z a0 hw n0 b5 b6 b2 .null .null .null h6 X6.old f7 f8 f9 f10 (X6.ge (.head _)) (X6.lt (.head _))).pay (hw _ (List.mem_of_getElem? (i := 38) rfl)) (hw _ (List.mem_of_getElem? (i := 32) rfl)) (by decide) (by decide)) (allS (.head _) all0) (g := (mkF m 96 #[.val (.int i0), .val (.int i1), .val (.int i2), .val (.int i3), .val (.int (0 : Int32)), .val (.int (((i0 &&& (255 : Int32))).toUInt32.toUInt16.toUInt32.toInt32)), .val (.int ((((XT.ushr i0 (8 : Int32)) &&& (255 : Int32))).toUInt32.toUInt16.toUInt32.toInt32)), .val (.int ((((XT.ushr i0 (16 : Int32)) &&& (255 : Int32))).toUInt32.toUInt16.toUInt32.toInt32)), .val (.ref b1), .val (.ref b2), .unset, .unset, .unset, .unset, .unset] [(.ref b2), .null, (.ref b6), (.ref b5), (.ref b5)])) rfl rfl (a := b5) (argsL := [(.ref b6), .null, (.ref b2)]) (rest := [(.ref b5)]) (lenOf pd_9 rfl) rfl (by exact Nat.le_of_eq rfl) at_96 rfl (by decide) (by decide)
    refine Go.tr st11 ?_
    have K0_h11 : Keep h0 h11 [] := K0_h6.trans K11 (allS (Or.inr sz_b5) all0)
    show Go _ _ _ _ (T11.setTop (mkF m 99 #[.val (.int i0), .val (.int i1), .val (.int i2), .val (.int i3), .val (.int (0 : Int32)), .val (.int (((i0 &&& (255 : Int32))).toUInt32.toUInt16.toUInt32.toInt32)), .val (.int ((((XT.ushr i0 (8 : Int32)) &&& (255 : Int32))).toUInt32.toUInt16.toUInt32.toInt32)), .val (.int ((((XT.ushr i0 (16 : Int32)) &&& (255 : Int32))).toUInt32.toUInt16.toUInt32.toInt32)), .val (.ref b1), .val (.ref b2), .unset, .unset, .unset, .unset, .unset] [(.ref b5)]))
    refine Go.by (fun _ k => XS.astore X11.here X11.hx rfl (X11.cd at_99) rfl rfl (l' := #[.val (.int i0), .val (.int i1), .val (.int i2), .val (.int i3), .val (.int (0 : Int32)), .val (.int (((i0 &&& (255 : Int32))).toUInt32.toUInt16.toUInt32.toInt32)), .val (.int ((((XT.ushr i0 (8 : Int32)) &&& (255 : Int32))).toUInt32.toUInt16.toUInt32.toInt32)), .val (.int ((((XT.ushr i0 (16 : Int32)) &&& (255 : Int32))).toUInt32.toUInt16.toUInt32.toInt32)), .val (.ref b1), .val (.ref b2), .val (.ref b5), .unset, .unset, .unset, .unset]) rfl k) ?_
    show Go _ _ _ _ (T11.setTop (mkF m 101 #[.val (.int i0), .val (.int i1), .val (.int i2), .val (.int i3), .val (.int (0 : Int32)), .val (.int (((i0 &&& (255 : Int32))).toUInt32.toUInt16.toUInt32.toInt32)), .val (.int ((((XT.ushr i0 (8 : Int32)) &&& (255 : Int32))).toUInt32.toUInt16.toUInt32.toInt32)), .val (.int ((((XT.ushr i0 (16 : Int32)) &&& (255 : Int32))).toUInt32.toUInt16.toUInt32.toInt32)), .val (.ref b1), .val (.ref b2), .val (.ref b5), .unset, .unset, .unset, .unset] []))
    refine Go.by (fun _ k => XS.iloadN X11.here X11.hx rfl (X11.cd at_101) rfl  k) ?_
    show Go _ _ _ _ (T11.setTop (mkF m 102 #[.val (.int i0), .val (.int i1), .val (.int i2), .val (.int i3), .val (.int (0 : Int32)), .val (.int (((i0 &&& (255 : Int32))).toUInt32.toUInt16.toUInt32.toInt32)), .val (.int ((((XT.ushr i0 (8 : Int32)) &&& (255 : Int32))).toUInt32.toUInt16.toUInt32.toInt32)), .val (.int ((((XT.ushr i0 (16 : Int32)) &&& (255 : Int32))).toUInt32.toUInt16.toUInt32.toInt32)), .val (.ref b1), .val (.ref b2), .val (.ref b5), .unset, .unset, .unset, .unset] [(.int i2)]))
    refine Go.by (fun _ k => XS.i2c X11.here X11.hx rfl (X11.cd at_102) rfl k) ?_
    show Go _ _ _ _ (T11.setTop (mkF m 103 #[.val (.int i0), .val (.int i1), .val (.int i2), .val (.int i3), .val (.int (0 : Int32)), .val (.int (((i0 &&& (255 : Int32))).toUInt32.toUInt16.toUInt32.toInt32)), .val (.int ((((XT.ushr i0 (8 : Int32)) &&& (255 : Int32))).toUInt32.toUInt16.toUInt32.toInt32)), .val (.int ((((XT.ushr i0 (16 : Int32)) &&& (255 : Int32))).toUInt32.toUInt16.toUInt32.toInt32)), .val (.ref b1), .val (.ref b2), .val (.ref b5), .unset, .unset, .unset, .unset] [(.int ((i2).toUInt32.toUInt16.toUInt32.toInt32))]))
    refine Go.by (fun _ k => XS.istore X11.here X11.hx rfl (X11.cd at_103) rfl (l' := #[.val (.int i0), .val (.int i1), .val (.int i2), .val (.int i3), .val (.int (0 : Int32)), .val (.int (((i0 &&& (255 : Int32))).toUInt32.toUInt16.toUInt32.toInt32)), .val (.int ((((XT.ushr i0 (8 : Int32)) &&& (255 : Int32))).toUInt32.toUInt16.toUInt32.toInt32)), .val (.int ((((XT.ushr i0 (16 : Int32)) &&& (255 : Int32))).toUInt32.toUInt16.toUInt32.toInt32)), .val (.ref b1), .val (.ref b2), .val (.ref b5), .val (.int ((i2).toUInt32.toUInt16.toUInt32.toInt32)), .unset, .unset, .unset]) rfl k) ?_
    show Go _ _ _ _ (T11.setTop (mkF m 105 #[.val (.int i0), .val (.int i1), .val (.int i2), .val (.int i3), .val (.int (0 : Int32)), .val (.int (((i0 &&& (255 : Int32))).toUInt32.toUInt16.toUInt32.toInt32)), .val (.int ((((XT.ushr i0 (8 : Int32)) &&& (255 : Int32))).toUInt32.toUInt16.toUInt32.toInt32)), .val (.int ((((XT.ushr i0 (16 : Int32)) &&& (255 : Int32))).toUInt32.toUInt16.toUInt32.toInt32)), .val (.ref b1), .val (.ref b2), .val (.ref b5), .val (.int ((i2).toUInt32.toUInt16.toUInt32.toInt32)), .unset, .unset, .unset] []))
    refine Go.by (fun _ k => XS.iload X11.here X11.hx rfl (X11.cd at_105) rfl  k) ?_
    show Go _ _ _ _ (T11.setTop (mkF m 107 #[.val (.int i0), .val (.int i1), .val (.int i2), .val (.int i3), .val (.int (0 : Int32)), .val (.int (((i0 &&& (255 : Int32))).toUInt32.toUInt16.toUInt32.toInt32)), .val (.int ((((XT.ushr i0 (8 : Int32)) &&& (255 : Int32))).toUInt32.toUInt16.toUInt32.toInt32)), .val (.int ((((XT.ushr i0 (16 : Int32)) &&& (255 : Int32))).toUInt32.toUInt16.toUInt32.toInt32)), .val (.ref b1), .val (.ref b2), .val (.ref b5), .val (.int ((i2).toUInt32.toUInt16.toUInt32.toInt32)), .unset, .unset, .unset] [(.int (0 : Int32))]))
    refine Go.by (fun _ k => XS.ifYes X11.here X11.hx rfl (pc0 := 107) (pc' := 117) rfl (X11.cd at_107) rfl (XT.i0_le_t (by decide)) (by decide) (by decide) k) ?_
    show Go _ _ _ _ (T11.setTop (mkF m 117 #[.val (.int i0), .val (.int i1), .val (.int i2), .val (.int i3), .val (.int (0 : Int32)), .val (.int (((i0 &&& (255 : Int32))).toUInt32.toUInt16.toUInt32.toInt32)), .val (.int ((((XT.ushr i0 (8 : Int32)) &&& (255 : Int32))).toUInt32.toUInt16.toUInt32.toInt32)), .val (.int ((((XT.ushr i0 (16 : Int32)) &&& (255 : Int32))).toUInt32.toUInt16.toUInt32.toInt32)), .val (.ref b1), .val (.ref b2), .val (.ref b5), .val (.int ((i2).toUInt32.toUInt16.toUInt32.toInt32)), .unset, .unset, .unset] []))
    refine Go.by (fun _ k => XS.iload X11.here X11.hx rfl (X11.cd at_117) rfl  k) ?_
    show Go _ _ _ _ (T11.setTop (mkF m 119 #[.val (.int i0), .val (.int i1), .val (.int i2), .val (.int i3), .val (.int (0 : Int32)), .val (.int (((i0 &&& (255 : Int32))).toUInt32.toUInt16.toUInt32.toInt32)), .val (.int ((((XT.ushr i0 (8 : Int32)) &&& (255 : Int32))).toUInt32.toUInt16.toUInt32.toInt32)), .val (.int ((((XT.ushr i0 (16 : Int32)) &&& (255 : Int32))).toUInt32.toUInt16.toUInt32.toInt32)), .val (.ref b1), .val (.ref b2), .val (.ref b5), .val (.int ((i2).toUInt32.toUInt16.toUInt32.toInt32)), .unset, .unset, .unset] [(.int (0 : Int32))]))
    refine Go.by (fun _ k => XS.iconst X11.here X11.hx rfl (X11.cd at_119)  k) ?_
    show Go _ _ _ _ (T11.setTop (mkF m 120 #[.val (.int i0), .val (.int i1), .val (.int i2), .val (.int i3), .val (.int (0 : Int32)), .val (.int (((i0 &&& (255 : Int32))).toUInt32.toUInt16.toUInt32.toInt32)), .val (.int ((((XT.ushr i0 (8 : Int32)) &&& (255 : Int32))).toUInt32.toUInt16.toUInt32.toInt32)), .val (.int ((((XT.ushr i0 (16 : Int32)) &&& (255 : Int32))).toUInt32.toUInt16.toUInt32.toInt32)), .val (.ref b1), .val (.ref b2), .val (.ref b5), .val (.int ((i2).toUInt32.toUInt16.toUInt32.toInt32)), .unset, .unset, .unset] [(.int (1 : Int32)), (.int (0 : Int32))]))
    refine Go.by (fun _ k => XS.icmpYes X11.here X11.hx rfl (pc0 := 120) (pc' := 130) rfl (X11.cd at_120) rfl (XT.ii_le_t (by decide)) (by decide) (by decide) k) ?_
    show Go _ _ _ _ (T11.setTop (mkF m 130 #[.val (.int i0), .val (.int i1), .val (.int i2), .val (.int i3), .val (.int (0 : Int32)), .val (.int (((i0 &&& (255 : Int32))).toUInt32.toUInt16.toUInt32.toInt32)), .val (.int ((((XT.ushr i0 (8 : Int32)) &&& (255 : Int32))).toUInt32.toUInt16.toUInt32.toInt32)), .val (.int ((((XT.ushr i0 (16 : Int32)) &&& (255 : Int32))).toUInt32.toUInt16.toUInt32.toInt32)), .val (.ref b1), .val (.ref b2), .val (.ref b5), .val (.int ((i2).toUInt32.toUInt16.toUInt32.toInt32)), .unset, .unset, .unset] []))
    refine Go.by (fun _ k => XS.iload X11.here X11.hx rfl (X11.cd at_130) rfl  k) ?_
    show Go _ _ _ _ (T11.setTop (mkF m 132 #[.val (.int i0), .val (.int i1), .val (.int i2), .val (.int i3), .val (.int (0 : Int32)), .val (.int (((i0 &&& (255 : Int32))).toUInt32.toUInt16.toUInt32.toInt32)), .val (.int ((((XT.ushr i0 (8 : Int32)) &&& (255 : Int32))).toUInt32.toUInt16.toUInt32.toInt32)), .val (.int ((((XT.ushr i0 (16 : Int32)) &&& (255 : Int32))).toUInt32.toUInt16.toUInt32.toInt32)), .val (.ref b1), .val (.ref b2), .val (.ref b5), .val (.int ((i2).toUInt32.toUInt16.toUInt32.toInt32)), .unset, .unset, .unset] [(.int (0 : Int32))]))
    refine Go.by (fun _ k => XS.iconst X11.here X11.hx rfl (X11.cd at_132)  k) ?_
    show Go _ _ _ _ (T11.setTop (mkF m 133 #[.val (.int i0), .val (.int i1), .val (.int i2), .val (.int i3), .val (.int (0 : Int32)), .val (.int (((i0 &&& (255 : Int32))).toUInt32.toUInt16.toUInt32.toInt32)), .val (.int ((((XT.ushr i0 (8 : Int32)) &&& (255 : Int32))).toUInt32.toUInt16.toUInt32.toInt32)), .val (.int ((((XT.ushr i0 (16 : Int32)) &&& (255 : Int32))).toUInt32.toUInt16.toUInt32.toInt32)), .val (.ref b1), .val (.ref b2), .val (.ref b5), .val (.int ((i2).toUInt32.toUInt16.toUInt32.toInt32)), .unset, .unset, .unset] [(.int (2 : Int32)), (.int (0 : Int32))]))
    refine Go.by (fun _ k => XS.icmpYes X11.here X11.hx rfl (pc0 := 133) (pc' := 147) rfl (X11.cd at_133) rfl (XT.ii_le_t (by decide)) (by decide) (by decide) k) ?_
    show Go _ _ _ _ (T11.setTop (mkF m 147 #[.val (.int i0), .val (.int i1), .val (.int i2), .val (.int i3), .val (.int (0 : Int32)), .val (.int (((i0 &&& (255 : Int32))).toUInt32.toUInt16.toUInt32.toInt32)), .val (.int ((((XT.ushr i0 (8 : Int32)) &&& (255 : Int32))).toUInt32.toUInt16.toUInt32.toInt32)), .val (.int ((((XT.ushr i0 (16 : Int32)) &&& (255 : Int32))).toUInt32.toUInt16.toUInt32.toInt32)), .val (.ref b1), .val (.ref b2), .val (.ref b5), .val (.int ((i2).toUInt32.toUInt16.toUInt32.toInt32)), .unset, .unset, .unset] []))
    refine Go.by (fun _ k => XS.iconst X11.here X11.hx rfl (X11.cd at_147)  k) ?_
    show Go _ _ _ _ (T11.setTop (mkF m 148 #[.val (.int i0), .val (.int i1), .val (.int i2), .val (.int i3), .val (.int (0 : Int32)), .val (.int (((i0 &&& (255 : Int32))).toUInt32.toUInt16.toUInt32.toInt32)), .val (.int ((((XT.ushr i0 (8 : Int32)) &&& (255 : Int32))).toUInt32.toUInt16.toUInt32.toInt32)), .val (.int ((((XT.ushr i0 (16 : Int32)) &&& (255 : Int32))).toUInt32.toUInt16.toUInt32.toInt32)), .val (.ref b1), .val (.ref b2), .val (.ref b5), .val (.int ((i2).toUInt32.toUInt16.toUInt32.toInt32)), .unset, .unset, .unset] [(.int (0 : Int32))]))
    refine Go.by (fun _ k => XS.istore X11.here X11.hx rfl (X11.cd at_148) rfl (l' := #[.val (.int i0), .val (.int i1), .val (.int i2), .val (.int i3), .val (.int (0 : Int32)), .val (.int (((i0 &&& (255 : Int32))).toUInt32.toUInt16.toUInt32.toInt32)), .val (.int ((((XT.ushr i0 (8 : Int32)) &&& (255 : Int32))).toUInt32.toUInt16.toUInt32.toInt32)), .val (.int ((((XT.ushr i0 (16 : Int32)) &&& (255 : Int32))).toUInt32.toUInt16.toUInt32.toInt32)), .val (.ref b1), .val (.ref b2), .val (.ref b5), .val (.int ((i2).toUInt32.toUInt16.toUInt32.toInt32)), .val (.int (0 : Int32)), .unset, .unset]) rfl k) ?_
    show Go _ _ _ _ (T11.setTop (mkF m 150 #[.val (.int i0), .val (.int i1), .val (.int i2), .val (.int i3), .val (.int (0 : Int32)), .val (.int (((i0 &&& (255 : Int32))).toUInt32.toUInt16.toUInt32.toInt32)), .val (.int ((((XT.ushr i0 (8 : Int32)) &&& (255 : Int32))).toUInt32.toUInt16.toUInt32.toInt32)), .val (.int ((((XT.ushr i0 (16 : Int32)) &&& (255 : Int32))).toUInt32.toUInt16.toUInt32.toInt32)), .val (.ref b1), .val (.ref b2), .val (.ref b5), .val (.int ((i2).toUInt32.toUInt16.toUInt32.toInt32)), .val (.int (0 : Int32)), .unset, .unset] []))
    refine Go.by (fun _ k => XS.aload X11.here X11.hx rfl (X11.cd at_150) rfl rfl k) ?_
    show Go _ _ _ _ (T11.setTop (mkF m 152 #[.val (.int i0), .val (.int i1), .val (.int i2), .val (.int i3), .val (.int (0 : Int32)), .val (.int (((i0 &&& (255 : Int32))).toUInt32.toUInt16.toUInt32.toInt32)), .val (.int ((((XT.ushr i0 (8 : Int32)) &&& (255 : Int32))).toUInt32.toUInt16.toUInt32.toInt32)), .val (.int ((((XT.ushr i0 (16 : Int32)) &&& (255 : Int32))).toUInt32.toUInt16.toUInt32.toInt32)), .val (.ref b1), .val (.ref b2), .val (.ref b5), .val (.int ((i2).toUInt32.toUInt16.toUInt32.toInt32)), .val (.int (0 : Int32)), .unset, .unset] [(.ref b5)]))
    refine Go.by (fun _ k => XS.iload X11.here X11.hx rfl (X11.cd at_152) rfl  k) ?_
    show Go _ _ _ _ (T11.setTop (mkF m 154 #[.val (.int i0), .val (.int i1), .val (.int i2), .val (.int i3), .val (.int (0 : Int32)), .val (.int (((i0 &&& (255 : Int32))).toUInt32.toUInt16.toUInt32.toInt32)), .val (.int ((((XT.ushr i0 (8 : Int32)) &&& (255 : Int32))).toUInt32.toUInt16.toUInt32.toInt32)), .val (.int ((((XT.ushr i0 (16 : Int32)) &&& (255 : Int32))).toUInt32.toUInt16.toUInt32.toInt32)), .val (.ref b1), .val (.ref b2), .val (.ref b5), .val (.int ((i2).toUInt32.toUInt16.toUInt32.toInt32)), .val (.int (0 : Int32)), .unset, .unset] [(.int ((i2).toUInt32.toUInt16.toUInt32.toInt32)), (.ref b5)]))
    have f12 : Str Z h11 b2 t_4 [] := ((P4_0.ext E5).ext E6).keep K11 (ninS ne_b2_b5 nin0) (ninS ne_t_4_b5 nin0)
    have f14 : Exa Z h11 b5 "com/example/rivulet/rivulet/RegexLiteral" := (f7).keep K11
    obtain ⟨_, T13, h13, X13, K13, ⟨r_13, rfl, rfl, p13_0⟩, st13⟩ := X11.viN (W := 0) (hw _ (List.mem_of_getElem? (i := 51) rfl)) (hw _ (List.mem_of_getElem? (i := 52) rfl)) (hw _ (List.mem_of_getElem? (i := 54) rfl)) (hw _ (List.mem_of_getElem? (i := 53) rfl)) (by decide) ((rm_has l Z a0 hw n0 b5 ((i2).toUInt32.toUInt16.toUInt32.toInt32) b2 t_4 [] zc h11 X11.old P11_0 f12 Sc nc alln).pay (hw _ (List.mem_of_getElem? (i := 55) rfl)) (hw _ (List.mem_of_getElem? (i := 32) rfl)) (by decide) (by decide)) all0 f14 (g := (mkF m 154 #[.val (.int i0), .val (.int i1), .val (.int i2), .val (.int i3), .val (.int (0 : Int32)), .val (.int (((i0 &&& (255 : Int32))).toUInt32.toUInt16.toUInt32.toInt32)), .val (.int ((((XT.ushr i0 (8 : Int32)) &&& (255 : Int32))).toUInt32.toUInt16.toUInt32.toInt32)), .val (.int ((((XT.ushr i0 (16 : Int32)) &&& (255 : Int32))).toUInt32.toUInt16.toUInt32.toInt32)), .val (.ref b1), .val (.ref b2), .val (.ref b5), .val (.int ((i2).toUInt32.toUInt16.toUInt32.toInt32)), .val (.int (0 : Int32)), .unset, .unset] [(.int ((i2).toUInt32.toUInt16.toUInt32.toInt32)), (.ref b5)])) rfl rfl (argsL := [(.int ((i2).toUInt32.toUInt16.toUInt32.toInt32))]) (rest := []) (lenOf pd_10 rfl) rfl (by exact Nat.le_of_eq rfl) at_154 rfl (by decide) (by decide)
    refine Go.tr st13 ?_
    show Go _ _ _ _ (T13.setTop (mkF m 157 #[.val (.int i0), .val (.int i1), .val (.int i2), .val (.int i3), .val (.int (0 : Int32)), .val (.int (((i0 &&& (255 : Int32))).toUInt32.toUInt16.toUInt32.toInt32)), .val (.int ((((XT.ushr i0 (8 : Int32)) &&& (255 : Int32))).toUInt32.toUInt16.toUInt32.toInt32)), .val (.int ((((XT.ushr i0 (16 : Int32)) &&& (255 : Int32))).toUInt32.toUInt16.toUInt32.toInt32)), .val (.ref b1), .val (.ref b2), .val (.ref b5), .val (.int ((i2).toUInt32.toUInt16.toUInt32.toInt32)), .val (.int (0 : Int32)), .unset, .unset] [(.int r_13)]))
    refine Go.by (fun _ k => XS.iload X13.here X13.hx rfl (X13.cd at_157) rfl  k) ?_
    show Go _ _ _ _ (T13.setTop (mkF m 159 #[.val (.int i0), .val (.int i1), .val (.int i2), .val (.int i3), .val (.int (0 : Int32)), .val (.int (((i0 &&& (255 : Int32))).toUInt32.toUInt16.toUInt32.toInt32)), .val (.int ((((XT.ushr i0 (8 : Int32)) &&& (255 : Int32))).toUInt32.toUInt16.toUInt32.toInt32)), .val (.int ((((XT.ushr i0 (16 : Int32)) &&& (255 : Int32))).toUInt32.toUInt16.toUInt32.toInt32)), .val (.ref b1), .val (.ref b2), .val (.ref b5), .val (.int ((i2).toUInt32.toUInt16.toUInt32.toInt32)), .val (.int (0 : Int32)), .unset, .unset] [(.int (0 : Int32)), (.int r_13)]))
    refine Go.by (fun _ k => XS.icmpYes X13.here X13.hx rfl (pc0 := 159) (pc' := 164) rfl (X13.cd at_159) rfl (XT.ii_eq_t (by rcases p13_0 with ⟨_, q⟩ | ⟨q, _⟩ <;> first | exact q | exact nomatch q)) (by decide) (by decide) k) ?_
    show Go _ _ _ _ (T13.setTop (mkF m 164 #[.val (.int i0), .val (.int i1), .val (.int i2), .val (.int i3), .val (.int (0 : Int32)), .val (.int (((i0 &&& (255 : Int32))).toUInt32.toUInt16.toUInt32.toInt32)), .val (.int ((((XT.ushr i0 (8 : Int32)) &&& (255 : Int32))).toUInt32.toUInt16.toUInt32.toInt32)), .val (.int ((((XT.ushr i0 (16 : Int32)) &&& (255 : Int32))).toUInt32.toUInt16.toUInt32.toInt32)), .val (.ref b1), .val (.ref b2), .val (.ref b5), .val (.int ((i2).toUInt32.toUInt16.toUInt32.toInt32)), .val (.int (0 : Int32)), .unset, .unset] []))
    refine Go.by (fun _ k => XS.iload X13.here X13.hx rfl (X13.cd at_164) rfl  k) ?_
    show Go _ _ _ _ (T13.setTop (mkF m 166 #[.val (.int i0), .val (.int i1), .val (.int i2), .val (.int i3), .val (.int (0 : Int32)), .val (.int (((i0 &&& (255 : Int32))).toUInt32.toUInt16.toUInt32.toInt32)), .val (.int ((((XT.ushr i0 (8 : Int32)) &&& (255 : Int32))).toUInt32.toUInt16.toUInt32.toInt32)), .val (.int ((((XT.ushr i0 (16 : Int32)) &&& (255 : Int32))).toUInt32.toUInt16.toUInt32.toInt32)), .val (.ref b1), .val (.ref b2), .val (.ref b5), .val (.int ((i2).toUInt32.toUInt16.toUInt32.toInt32)), .val (.int (0 : Int32)), .unset, .unset] [(.int (0 : Int32))]))
    refine Go.by (fun _ k => XS.ifYes X13.here X13.hx rfl (pc0 := 166) (pc' := 215) rfl (X13.cd at_166) rfl (XT.i0_le_t (by decide)) (by decide) (by decide) k) ?_
    show Go _ _ _ _ (T13.setTop (mkF m 215 #[.val (.int i0), .val (.int i1), .val (.int i2), .val (.int i3), .val (.int (0 : Int32)), .val (.int (((i0 &&& (255 : Int32))).toUInt32.toUInt16.toUInt32.toInt32)), .val (.int ((((XT.ushr i0 (8 : Int32)) &&& (255 : Int32))).toUInt32.toUInt16.toUInt32.toInt32)), .val (.int ((((XT.ushr i0 (16 : Int32)) &&& (255 : Int32))).toUInt32.toUInt16.toUInt32.toInt32)), .val (.ref b1), .val (.ref b2), .val (.ref b5), .val (.int ((i2).toUInt32.toUInt16.toUInt32.toInt32)), .val (.int (0 : Int32)), .unset, .unset] []))
    refine Go.by (fun _ k => XS.iconst X13.here X13.hx rfl (X13.cd at_215)  k) ?_
    show Go _ _ _ _ (T13.setTop (mkF m 216 #[.val (.int i0), .val (.int i1), .val (.int i2), .val (.int i3), .val (.int (0 : Int32)), .val (.int (((i0 &&& (255 : Int32))).toUInt32.toUInt16.toUInt32.toInt32)), .val (.int ((((XT.ushr i0 (8 : Int32)) &&& (255 : Int32))).toUInt32.toUInt16.toUInt32.toInt32)), .val (.int ((((XT.ushr i0 (16 : Int32)) &&& (255 : Int32))).toUInt32.toUInt16.toUInt32.toInt32)), .val (.ref b1), .val (.ref b2), .val (.ref b5), .val (.int ((i2).toUInt32.toUInt16.toUInt32.toInt32)), .val (.int (0 : Int32)), .unset, .unset] [(.int (1 : Int32))]))
    exact X13.retN (by simp) rfl at_216 K0_h11 rfl (by decide) (by decide)
  · rw [hn]
    show Go _ _ _ _ (T0.setTop (mkF m 3 #[.val (.int i0), .val (.int i1), .val (.int i2), .val (.int i3), .unset, .unset, .unset, .unset, .unset, .unset, .unset, .unset, .unset, .unset, .unset] [(.int (1 : Int32))]))
    refine Go.by (fun _ k => XS.istore X0.here X0.hx rfl (X0.cd at_3) rfl (l' := #[.val (.int i0), .val (.int i1), .val (.int i2), .val (.int i3), .val (.int (1 : Int32)), .unset, .unset, .unset, .unset, .unset, .unset, .unset, .unset, .unset, .unset]) rfl k) ?_
    show Go _ _ _ _ (T0.setTop (mkF m 5 #[.val (.int i0), .val (.int i1), .val (.int i2), .val (.int i3), .val (.int (1 : Int32)), .unset, .unset, .unset, .unset, .unset, .unset, .unset, .unset, .unset, .unset] []))
    refine Go.by (fun _ k => XS.iloadN X0.here X0.hx rfl (X0.cd at_5) rfl  k) ?_
    show Go _ _ _ _ (T0.setTop (mkF m 6 #[.val (.int i0), .val (.int i1), .val (.int i2), .val (.int i3), .val (.int (1 : Int32)), .unset, .unset, .unset, .unset, .unset, .unset, .unset, .unset, .unset, .unset] [(.int i0)]))
    refine Go.by (fun _ k => XS.sipush X0.here X0.hx rfl (X0.cd at_6)  k) ?_
    show Go _ _ _ _ (T0.setTop (mkF m 9 #[.val (.int i0), .val (.int i1), .val (.int i2), .val (.int i3), .val (.int (1 : Int32)), .unset, .unset, .unset, .unset, .unset, .unset, .unset, .unset, .unset, .unset] [(.int (255 : Int32)), (.int i0)]))
    refine Go.by (fun _ k => XS.iand X0.here X0.hx rfl (X0.cd at_9) rfl k) ?_
    show Go _ _ _ _ (T0.setTop (mkF m 10 #[.val (.int i0), .val (.int i1), .val (.int i2), .val (.int i3), .val (.int (1 : Int32)), .unset, .unset, .unset, .unset, .unset, .unset, .unset, .unset, .unset, .unset] [(.int (i0 &&& (255 : Int32)))]))
    refine Go.by (fun _ k => XS.i2c X0.here X0.hx rfl (X0.cd at_10) rfl k) ?_
    show Go _ _ _ _ (T0.setTop (mkF m 11 #[.val (.int i0), .val (.int i1), .val (.int i2), .val (.int i3), .val (.int (1 : Int32)), .unset, .unset, .unset, .unset, .unset, .unset, .unset, .unset, .unset, .unset] [(.int (((i0 &&& (255 : Int32))).toUInt32.toUInt16.toUInt32.toInt32))]))
    refine Go.by (fun _ k => XS.istore X0.here X0.hx rfl (X0.cd at_11) rfl (l' := #[.val (.int i0), .val (.int i1), .val (.int i2), .val (.int i3), .val (.int (1 : Int32)), .val (.int (((i0 &&& (255 : Int32))).toUInt32.toUInt16.toUInt32.toInt32)), .unset, .unset, .unset, .unset, .unset, .unset, .unset, .unset, .unset]) rfl k) ?_
    show Go _ _ _ _ (T0.setTop (mkF m 13 #[.val (.int i0), .val (.int i1), .val (.int i2), .val (.int i3), .val (.int (1 : Int32)), .val (.int (((i0 &&& (255 : Int32))).toUInt32.toUInt16.toUInt32.toInt32)), .unset, .unset, .unset, .unset, .unset, .unset, .unset, .unset, .unset] []))
    refine Go.by (fun _ k => XS.iloadN X0.here X0.hx rfl (X0.cd at_13) rfl  k) ?_
    show Go _ _ _ _ (T0.setTop (mkF m 14 #[.val (.int i0), .val (.int i1), .val (.int i2), .val (.int i3), .val (.int (1 : Int32)), .val (.int (((i0 &&& (255 : Int32))).toUInt32.toUInt16.toUInt32.toInt32)), .unset, .unset, .unset, .unset, .unset, .unset, .unset, .unset, .unset] [(.int i0)]))
    refine Go.by (fun _ k => XS.bipush X0.here X0.hx rfl (X0.cd at_14)  k) ?_
    show Go _ _ _ _ (T0.setTop (mkF m 16 #[.val (.int i0), .val (.int i1), .val (.int i2), .val (.int i3), .val (.int (1 : Int32)), .val (.int (((i0 &&& (255 : Int32))).toUInt32.toUInt16.toUInt32.toInt32)), .unset, .unset, .unset, .unset, .unset, .unset, .unset, .unset, .unset] [(.int (8 : Int32)), (.int i0)]))
    refine Go.by (fun _ k => XS.iushr X0.here X0.hx rfl (X0.cd at_16) rfl k) ?_
    show Go _ _ _ _ (T0.setTop (mkF m 17 #[.val (.int i0), .val (.int i1), .val (.int i2), .val (.int i3), .val (.int (1 : Int32)), .val (.int (((i0 &&& (255 : Int32))).toUInt32.toUInt16.toUInt32.toInt32)), .unset, .unset, .unset, .unset, .unset, .unset, .unset, .unset, .unset] [(.int (XT.ushr i0 (8 : Int32)))]))
    refine Go.by (fun _ k => XS.sipush X0.here X0.hx rfl (X0.cd at_17)  k) ?_
    show Go _ _ _ _ (T0.setTop (mkF m 20 #[.val (.int i0), .val (.int i1), .val (.int i2), .val (.int i3), .val (.int (1 : Int32)), .val (.int (((i0 &&& (255 : Int32))).toUInt32.toUInt16.toUInt32.toInt32)), .unset, .unset, .unset, .unset, .unset, .unset, .unset, .unset, .unset] [(.int (255 : Int32)), (.int (XT.ushr i0 (8 : Int32)))]))
    refine Go.by (fun _ k => XS.iand X0.here X0.hx rfl (X0.cd at_20) rfl k) ?_
    show Go _ _ _ _ (T0.setTop (mkF m 21 #[.val (.int i0), .val (.int i1), .val (.int i2), .val (.int i3), .val (.int (1 : Int32)), .val (.int (((i0 &&& (255 : Int32))).toUInt32.toUInt16.toUInt32.toInt32)), .unset, .unset, .unset, .unset, .unset, .unset, .unset, .unset, .unset] [(.int ((XT.ushr i0 (8 : Int32)) &&& (255 : Int32)))]))
    refine Go.by (fun _ k => XS.i2c X0.here X0.hx rfl (X0.cd at_21) rfl k) ?_
    show Go _ _ _ _ (T0.setTop (mkF m 22 #[.val (.int i0), .val (.int i1), .val (.int i2), .val (.int i3), .val (.int (1 : Int32)), .val (.int (((i0 &&& (255 : Int32))).toUInt32.toUInt16.toUInt32.toInt32)), .unset, .unset, .unset, .unset, .unset, .unset, .unset, .unset, .unset] [(.int ((((XT.ushr i0 (8 : Int32)) &&& (255 : Int32))).toUInt32.toUInt16.toUInt32.toInt32))]))
    refine Go.by (fun _ k => XS.istore X0.here X0.hx rfl (X0.cd at_22) rfl (l' := #[.val (.int i0), .val (.int i1), .val (.int i2), .val (.int i3), .val (.int (1 : Int32)), .val (.int (((i0 &&& (255 : Int32))).toUInt32.toUInt16.toUInt32.toInt32)), .val (.int ((((XT.ushr i0 (8 : Int32)) &&& (255 : Int32))).toUInt32.toUInt16.toUInt32.toInt32)), .unset, .unset, .unset, .unset, .unset, .unset, .unset, .unset]) rfl k) ?_
    show Go _ _ _ _ (T0.setTop (mkF m 24 #[.val (.int i0), .val (.int i1), .val (.int i2), .val (.int i3), .val (.int (1 : Int32)), .val (.int (((i0 &&& (255 : Int32))).toUInt32.toUInt16.toUInt32.toInt32)), .val (.int ((((XT.ushr i0 (8 : Int32)) &&& (255 : Int32))).toUInt32.toUInt16.toUInt32.toInt32)), .unset, .unset, .unset, .unset, .unset, .unset, .unset, .unset] []))
    refine Go.by (fun _ k => XS.iloadN X0.here X0.hx rfl (X0.cd at_24) rfl  k) ?_
    show Go _ _ _ _ (T0.setTop (mkF m 25 #[.val (.int i0), .val (.int i1), .val (.int i2), .val (.int i3), .val (.int (1 : Int32)), .val (.int (((i0 &&& (255 : Int32))).toUInt32.toUInt16.toUInt32.toInt32)), .val (.int ((((XT.ushr i0 (8 : Int32)) &&& (255 : Int32))).toUInt32.toUInt16.toUInt32.toInt32)), .unset, .unset, .unset, .unset, .unset, .unset, .unset, .unset] [(.int i0)]))
    refine Go.by (fun _ k => XS.bipush X0.here X0.hx rfl (X0.cd at_25)  k) ?_
    show Go _ _ _ _ (T0.setTop (mkF m 27 #[.val (.int i0), .val (.int i1), .val (.int i2), .val (.int i3), .val (.int (1 : Int32)), .val (.int (((i0 &&& (255 : Int32))).toUInt32.toUInt16.toUInt32.toInt32)), .val (.int ((((XT.ushr i0 (8 : Int32)) &&& (255 : Int32))).toUInt32.toUInt16.toUInt32.toInt32)), .unset, .unset, .unset, .unset, .unset, .unset, .unset, .unset] [(.int (16 : Int32)), (.int i0)]))
    refine Go.by (fun _ k => XS.iushr X0.here X0.hx rfl (X0.cd at_27) rfl k) ?_
    show Go _ _ _ _ (T0.setTop (mkF m 28 #[.val (.int i0), .val (.int i1), .val (.int i2), .val (.int i3), .val (.int (1 : Int32)), .val (.int (((i0 &&& (255 : Int32))).toUInt32.toUInt16.toUInt32.toInt32)), .val (.int ((((XT.ushr i0 (8 : Int32)) &&& (255 : Int32))).toUInt32.toUInt16.toUInt32.toInt32)), .unset, .unset, .unset, .unset, .unset, .unset, .unset, .unset] [(.int (XT.ushr i0 (16 : Int32)))]))
    refine Go.by (fun _ k => XS.sipush X0.here X0.hx rfl (X0.cd at_28)  k) ?_
    show Go _ _ _ _ (T0.setTop (mkF m 31 #[.val (.int i0), .val (.int i1), .val (.int i2), .val (.int i3), .val (.int (1 : Int32)), .val (.int (((i0 &&& (255 : Int32))).toUInt32.toUInt16.toUInt32.toInt32)), .val (.int ((((XT.ushr i0 (8 : Int32)) &&& (255 : Int32))).toUInt32.toUInt16.toUInt32.toInt32)), .unset, .unset, .unset, .unset, .unset, .unset, .unset, .unset] [(.int (255 : Int32)), (.int (XT.ushr i0 (16 : Int32)))]))
    refine Go.by (fun _ k => XS.iand X0.here X0.hx rfl (X0.cd at_31) rfl k) ?_
    show Go _ _ _ _ (T0.setTop (mkF m 32 #[.val (.int i0), .val (.int i1), .val (.int i2), .val (.int i3), .val (.int (1 : Int32)), .val (.int (((i0 &&& (255 : Int32))).toUInt32.toUInt16.toUInt32.toInt32)), .val (.int ((((XT.ushr i0 (8 : Int32)) &&& (255 : Int32))).toUInt32.toUInt16.toUInt32.toInt32)), .unset, .unset, .unset, .unset, .unset, .unset, .unset, .unset] [(.int ((XT.ushr i0 (16 : Int32)) &&& (255 : Int32)))]))
    refine Go.by (fun _ k => XS.i2c X0.here X0.hx rfl (X0.cd at_32) rfl k) ?_
    show Go _ _ _ _ (T0.setTop (mkF m 33 #[.val (.int i0), .val (.int i1), .val (.int i2), .val (.int i3), .val (.int (1 : Int32)), .val (.int (((i0 &&& (255 : Int32))).toUInt32.toUInt16.toUInt32.toInt32)), .val (.int ((((XT.ushr i0 (8 : Int32)) &&& (255 : Int32))).toUInt32.toUInt16.toUInt32.toInt32)), .unset, .unset, .unset, .unset, .unset, .unset, .unset, .unset] [(.int ((((XT.ushr i0 (16 : Int32)) &&& (255 : Int32))).toUInt32.toUInt16.toUInt32.toInt32))]))
    refine Go.by (fun _ k => XS.istore X0.here X0.hx rfl (X0.cd at_33) rfl (l' := #[.val (.int i0), .val (.int i1), .val (.int i2), .val (.int i3), .val (.int (1 : Int32)), .val (.int (((i0 &&& (255 : Int32))).toUInt32.toUInt16.toUInt32.toInt32)), .val (.int ((((XT.ushr i0 (8 : Int32)) &&& (255 : Int32))).toUInt32.toUInt16.toUInt32.toInt32)), .val (.int ((((XT.ushr i0 (16 : Int32)) &&& (255 : Int32))).toUInt32.toUInt16.toUInt32.toInt32)), .unset, .unset, .unset, .unset, .unset, .unset, .unset]) rfl k) ?_
    show Go _ _ _ _ (T0.setTop (mkF m 35 #[.val (.int i0), .val (.int i1), .val (.int i2), .val (.int i3), .val (.int (1 : Int32)), .val (.int (((i0 &&& (255 : Int32))).toUInt32.toUInt16.toUInt32.toInt32)), .val (.int ((((XT.ushr i0 (8 : Int32)) &&& (255 : Int32))).toUInt32.toUInt16.toUInt32.toInt32)), .val (.int ((((XT.ushr i0 (16 : Int32)) &&& (255 : Int32))).toUInt32.toUInt16.toUInt32.toInt32)), .unset, .unset, .unset, .unset, .unset, .unset, .unset] []))
    refine Go.by (fun _ k => XS.iload X0.here X0.hx rfl (X0.cd at_35) rfl  k) ?_
    show Go _ _ _ _ (T0.setTop (mkF m 37 #[.val (.int i0), .val (.int i1), .val (.int i2), .val (.int i3), .val (.int (1 : Int32)), .val (.int (((i0 &&& (255 : Int32))).toUInt32.toUInt16.toUInt32.toInt32)), .val (.int ((((XT.ushr i0 (8 : Int32)) &&& (255 : Int32))).toUInt32.toUInt16.toUInt32.toInt32)), .val (.int ((((XT.ushr i0 (16 : Int32)) &&& (255 : Int32))).toUInt32.toUInt16.toUInt32.toInt32)), .unset, .unset, .unset, .unset, .unset, .unset, .unset] [(.int (1 : Int32))]))
    obtain ⟨T15, h15, b15, k15, g_b15, X15, E15, A15, st15⟩ := X0.newP (hw _ (List.mem_of_getElem? (i := 0) rfl)) (g := (mkF m 37 #[.val (.int i0), .val (.int i1), .val (.int i2), .val (.int i3), .val (.int (1 : Int32)), .val (.int (((i0 &&& (255 : Int32))).toUInt32.toUInt16.toUInt32.toInt32)), .val (.int ((((XT.ushr i0 (8 : Int32)) &&& (255 : Int32))).toUInt32.toUInt16.toUInt32.toInt32)), .val (.int ((((XT.ushr i0 (16 : Int32)) &&& (255 : Int32))).toUInt32.toUInt16.toUInt32.toInt32)), .unset, .unset, .unset, .unset, .unset, .unset, .unset] [(.int (1 : Int32))])) rfl at_37 rfl (by decide) (cap := 1) (by decide) (by decide) (by decide) (by decide) (vs := [(.int (0 : Int32))]) rfl
    refine Go.by st15 ?_
    have sz_b15 : h0.size ≤ b15 := Nat.le_trans X0.sz (Nat.le_of_eq g_b15.symm)
    have K0_h15 : Keep h0 h15 [] := (Keep.refl h0 []).ext E15
    have F15 : Arv Z h15 b15 k15 .char (1 : Int32) [(.int (0 : Int32))] (.int (0 : Int32)) := A15
    show Go _ _ _ _ (T15.setTop (mkF m 39 #[.val (.int i0), .val (.int i1), .val (.int i2), .val (.int i3), .val (.int (1 : Int32)), .val (.int (((i0 &&& (255 : Int32))).toUInt32.toUInt16.toUInt32.toInt32)), .val (.int ((((XT.ushr i0 (8 : Int32)) &&& (255 : Int32))).toUInt32.toUInt16.toUInt32.toInt32)), .val (.int ((((XT.ushr i0 (16 : Int32)) &&& (255 : Int32))).toUInt32.toUInt16.toUInt32.toInt32)), .unset, .unset, .unset, .unset, .unset, .unset, .unset] [(.ref b15)]))
    refine Go.by (fun _ k => XS.astore X15.here X15.hx rfl (X15.cd at_39) rfl rfl (l' := #[.val (.int i0), .val (.int i1), .val (.int i2), .val (.int i3), .val (.int (1 : Int32)), .val (.int (((i0 &&& (255 : Int32))).toUInt32.toUInt16.toUInt32.toInt32)), .val (.int ((((XT.ushr i0 (8 : Int32)) &&& (255 : Int32))).toUInt32.toUInt16.toUInt32.toInt32)), .val (.int ((((XT.ushr i0 (16 : Int32)) &&& (255 : Int32))).toUInt32.toUInt16.toUInt32.toInt32)), .val (.ref b15), .unset, .unset, .unset, .unset, .unset, .unset]) rfl k) ?_
    show Go _ _ _ _ (T15.setTop (mkF m 41 #[.val (.int i0), .val (.int i1), .val (.int i2), .val (.int i3), .val (.int (1 : Int32)), .val (.int (((i0 &&& (255 : Int32))).toUInt32.toUInt16.toUInt32.toInt32)), .val (.int ((((XT.ushr i0 (8 : Int32)) &&& (255 : Int32))).toUInt32.toUInt16.toUInt32.toInt32)), .val (.int ((((XT.ushr i0 (16 : Int32)) &&& (255 : Int32))).toUInt32.toUInt16.toUInt32.toInt32)), .val (.ref b15), .unset, .unset, .unset, .unset, .unset, .unset] []))
    refine Go.by (fun _ k => XS.iload X15.here X15.hx rfl (X15.cd at_41) rfl  k) ?_
    show Go _ _ _ _ (T15.setTop (mkF m 43 #[.val (.int i0), .val (.int i1), .val (.int i2), .val (.int i3), .val (.int (1 : Int32)), .val (.int (((i0 &&& (255 : Int32))).toUInt32.toUInt16.toUInt32.toInt32)), .val (.int ((((XT.ushr i0 (8 : Int32)) &&& (255 : Int32))).toUInt32.toUInt16.toUInt32.toInt32)), .val (.int ((((XT.ushr i0 (16 : Int32)) &&& (255 : Int32))).toUInt32.toUInt16.toUInt32.toInt32)), .val (.ref b15), .unset, .unset, .unset, .unset, .unset, .unset] [(.int (1 : Int32))]))
    refine Go.by (fun _ k => XS.ifNo X15.here X15.hx rfl (X15.cd at_43) rfl (XT.i0_le_f (by decide)) k) ?_
    show Go _ _ _ _ (T15.setTop (mkF m 46 #[.val (.int i0), .val (.int i1), .val (.int i2), .val (.int i3), .val (.int (1 : Int32)), .val (.int (((i0 &&& (255 : Int32))).toUInt32.toUInt16.toUInt32.toInt32)), .val (.int ((((XT.ushr i0 (8 : Int32)) &&& (255 : Int32))).toUInt32.toUInt16.toUInt32.toInt32)), .val (.int ((((XT.ushr i0 (16 : Int32)) &&& (255 : Int32))).toUInt32.toUInt16.toUInt32.toInt32)), .val (.ref b15), .unset, .unset, .unset, .unset, .unset, .unset] []))
    refine Go.by (fun _ k => XS.aload X15.here X15.hx rfl (X15.cd at_46) rfl rfl k) ?_
    show Go _ _ _ _ (T15.setTop (mkF m 48 #[.val (.int i0), .val (.int i1), .val (.int i2), .val (.int i3), .val (.int (1 : Int32)), .val (.int (((i0 &&& (255 : Int32))).toUInt32.toUInt16.toUInt32.toInt32)), .val (.int ((((XT.ushr i0 (8 : Int32)) &&& (255 : Int32))).toUInt32.toUInt16.toUInt32.toInt32)), .val (.int ((((XT.ushr i0 (16 : Int32)) &&& (255 : Int32))).toUInt32.toUInt16.toUInt32.toInt32)), .val (.ref b15), .unset, .unset, .unset, .unset, .unset, .unset] [(.ref b15)]))
    refine Go.by (fun _ k => XS.iconst X15.here X15.hx rfl (X15.cd at_48)  k) ?_
    show Go _ _ _ _ (T15.setTop (mkF m 49 #[.val (.int i0), .val (.int i1), .val (.int i2), .val (.int i3), .val (.int (1 : Int32)), .val (.int (((i0 &&& (255 : Int32))).toUInt32.toUInt16.toUInt32.toInt32)), .val (.int ((((XT.ushr i0 (8 : Int32)) &&& (255 : Int32))).toUInt32.toUInt16.toUInt32.toInt32)), .val (.int ((((XT.ushr i0 (16 : Int32)) &&& (255 : Int32))).toUInt32.toUInt16.toUInt32.toInt32)), .val (.ref b15), .unset, .unset, .unset, .unset, .unset, .unset] [(.int (0 : Int32)), (.ref b15)]))
    refine Go.by (fun _ k => XS.iload X15.here X15.hx rfl (X15.cd at_49) rfl  k) ?_
    show Go _ _ _ _ (T15.setTop (mkF m 51 #[.val (.int i0), .val (.int i1), .val (.int i2), .val (.int i3), .val (.int (1 : Int32)), .val (.int (((i0 &&& (255 : Int32))).toUInt32.toUInt16.toUInt32.toInt32)), .val (.int ((((XT.ushr i0 (8 : Int32)) &&& (255 : Int32))).toUInt32.toUInt16.toUInt32.toInt32)), .val (.int ((((XT.ushr i0 (16 : Int32)) &&& (255 : Int32))).toUInt32.toUInt16.toUInt32.toInt32)), .val (.ref b15), .unset, .unset, .unset, .unset, .unset, .unset] [(.int (((i0 &&& (255 : Int32))).toUInt32.toUInt16.toUInt32.toInt32)), (.int (0 : Int32)), (.ref b15)]))
    obtain ⟨T16, h16, X16, W16, A16, st16⟩ := X15.stC (x' := (((i0 &&& (255 : Int32))).toUInt32.toUInt16.toUInt32.toInt32)) F15 (.head _) ⟨by decide, by decide⟩ (i := 0) rfl (Nat.le_of_ble_eq_true rfl) (nar_i2c _) (vs' := [(.int (((i0 &&& (255 : Int32))).toUInt32.toUInt16.toUInt32.toInt32))]) rfl (g := (mkF m 51 #[.val (.int i0), .val (.int i1), .val (.int i2), .val (.int i3), .val (.int (1 : Int32)), .val (.int (((i0 &&& (255 : Int32))).toUInt32.toUInt16.toUInt32.toInt32)), .val (.int ((((XT.ushr i0 (8 : Int32)) &&& (255 : Int32))).toUInt32.toUInt16.toUInt32.toInt32)), .val (.int ((((XT.ushr i0 (16 : Int32)) &&& (255 : Int32))).toUInt32.toUInt16.toUInt32.toInt32)), .val (.ref b15), .unset, .unset, .unset, .unset, .unset, .unset] [(.int (((i0 &&& (255 : Int32))).toUInt32.toUInt16.toUInt32.toInt32)), (.int (0 : Int32)), (.ref b15)])) rfl rfl at_51
    refine Go.by st16 ?_
    have K0_h16 : Keep h0 h16 [] := K0_h15.trans W16 (allS (Or.inr sz_b15) all0)
    show Go _ _ _ _ (T16.setTop (mkF m 52 #[.val (.int i0), .val (.int i1), .val (.int i2), .val (.int i3), .val (.int (1 : Int32)), .val (.int (((i0 &&& (255 : Int32))).toUInt32.toUInt16.toUInt32.toInt32)), .val (.int ((((XT.ushr i0 (8 : Int32)) &&& (255 : Int32))).toUInt32.toUInt16.toUInt32.toInt32)), .val (.int ((((XT.ushr i0 (16 : Int32)) &&& (255 : Int32))).toUInt32.toUInt16.toUInt32.toInt32)), .val (.ref b15), .unset, .unset, .unset, .unset, .unset, .unset] []))
    refine Go.by (fun _ k => XS.iload X16.here X16.hx rfl (X16.cd at_52) rfl  k) ?_
    show Go _ _ _ _ (T16.setTop (mkF m 54 #[.val (.int i0), .val (.int i1), .val (.int i2), .val (.int i3), .val (.int (1 : Int32)), .val (.int (((i0 &&& (255 : Int32))).toUInt32.toUInt16.toUInt32.toInt32)), .val (.int ((((XT.ushr i0 (8 : Int32)) &&& (255 : Int32))).toUInt32.toUInt16.toUInt32.toInt32)), .val (.int ((((XT.ushr i0 (16 : Int32)) &&& (255 : Int32))).toUInt32.toUInt16.toUInt32.toInt32)), .val (.ref b15), .unset, .unset, .unset, .unset, .unset, .unset] [(.int (1 : Int32))]))
    refine Go.by (fun _ k => XS.iconst X16.here X16.hx rfl (X16.cd at_54)  k) ?_
    show Go _ _ _ _ (T16.setTop (mkF m 55 #[.val (.int i0), .val (.int i1), .val (.int i2), .val (.int i3), .val (.int (1 : Int32)), .val (.int (((i0 &&& (255 : Int32))).toUInt32.toUInt16.toUInt32.toInt32)), .val (.int ((((XT.ushr i0 (8 : Int32)) &&& (255 : Int32))).toUInt32.toUInt16.toUInt32.toInt32)), .val (.int ((((XT.ushr i0 (16 : Int32)) &&& (255 : Int32))).toUInt32.toUInt16.toUInt32.toInt32)), .val (.ref b15), .unset, .unset, .unset, .unset, .unset, .unset] [(.int (1 : Int32)), (.int (1 : Int32))]))
    refine Go.by (fun _ k => XS.icmpYes X16.here X16.hx rfl (pc0 := 55) (pc' := 64) rfl (X16.cd at_55) rfl (XT.ii_le_t (by decide)) (by decide) (by decide) k) ?_
    show Go _ _ _ _ (T16.setTop (mkF m 64 #[.val (.int i0), .val (.int i1), .val (.int i2), .val (.int i3), .val (.int (1 : Int32)), .val (.int (((i0 &&& (255 : Int32))).toUInt32.toUInt16.toUInt32.toInt32)), .val (.int ((((XT.ushr i0 (8 : Int32)) &&& (255 : Int32))).toUInt32.toUInt16.toUInt32.toInt32)), .val (.int ((((XT.ushr i0 (16 : Int32)) &&& (255 : Int32))).toUInt32.toUInt16.toUInt32.toInt32)), .val (.ref b15), .unset, .unset, .unset, .unset, .unset, .unset] []))
    refine Go.by (fun _ k => XS.iload X16.here X16.hx rfl (X16.cd at_64) rfl  k) ?_
    show Go _ _ _ _ (T16.setTop (mkF m 66 #[.val (.int i0), .val (.int i1), .val (.int i2), .val (.int i3), .val (.int (1 : Int32)), .val (.int (((i0 &&& (255 : Int32))).toUInt32.toUInt16.toUInt32.toInt32)), .val (.int ((((XT.ushr i0 (8 : Int32)) &&& (255 : Int32))).toUInt32.toUInt16.toUInt32.toInt32)), .val (.int ((((XT.ushr i0 (16 : Int32)) &&& (255 : Int32))).toUInt32.toUInt16.toUInt32.toInt32)), .val (.ref b15), .unset, .unset, .unset, .unset, .unset, .unset] [(.int (1 : Int32))]))
    refine Go.by (fun _ k => XS.iconst X16.here X16.hx rfl (X16.cd at_66)  k) ?_
    show Go _ _ _ _ (T16.setTop (mkF m 67 #[.val (.int i0), .val (.int i1), .val (.int i2), .val (.int i3), .val (.int (1 : Int32)), .val (.int (((i0 &&& (255 : Int32))).toUInt32.toUInt16.toUInt32.toInt32)), .val (.int ((((XT.ushr i0 (8 : Int32)) &&& (255 : Int32))).toUInt32.toUInt16.toUInt32.toInt32)), .val (.int ((((XT.ushr i0 (16 : Int32)) &&& (255 : Int32))).toUInt32.toUInt16.toUInt32.toInt32)), .val (.ref b15), .unset, .unset, .unset, .unset, .unset, .unset] [(.int (2 : Int32)), (.int (1 : Int32))]))
    refine Go.by (fun _ k => XS.icmpYes X16.here X16.hx rfl (pc0 := 67) (pc' := 76) rfl (X16.cd at_67) rfl (XT.ii_le_t (by decide)) (by decide) (by decide) k) ?_
    show Go _ _ _ _ (T16.setTop (mkF m 76 #[.val (.int i0), .val (.int i1), .val (.int i2), .val (.int i3), .val (.int (1 : Int32)), .val (.int (((i0 &&& (255 : Int32))).toUInt32.toUInt16.toUInt32.toInt32)), .val (.int ((((XT.ushr i0 (8 : Int32)) &&& (255 : Int32))).toUInt32.toUInt16.toUInt32.toInt32)), .val (.int ((((XT.ushr i0 (16 : Int32)) &&& (255 : Int32))).toUInt32.toUInt16.toUInt32.toInt32)), .val (.ref b15), .unset, .unset, .unset, .unset, .unset, .unset] []))
    have lt_b15_17 := (X16.lt (.head _))
    obtain ⟨T17, h17, b17, g_b17, X17, E17, A17, D17, st17⟩ := X16.new (hw _ (List.mem_of_getElem? (i := 1) rfl)) (hw _ (List.mem_of_getElem? (i := 2) rfl)) (hw _ (List.mem_of_getElem? (i := 3) rfl)) (g := (mkF m 76 #[.val (.int i0), .val (.int i1), .val (.int i2), .val (.int i3), .val (.int (1 : Int32)), .val (.int (((i0 &&& (255 : Int32))).toUInt32.toUInt16.toUInt32.toInt32)), .val (.int ((((XT.ushr i0 (8 : Int32)) &&& (255 : Int32))).toUInt32.toUInt16.toUInt32.toInt32)), .val (.int ((((XT.ushr i0 (16 : Int32)) &&& (255 : Int32))).toUInt32.toUInt16.toUInt32.toInt32)), .val (.ref b15), .unset, .unset, .unset, .unset, .unset, .unset] [])) rfl at_76 (by decide) (by decide)
    refine Go.by st17 ?_
    have ne_b15_b17 : b15 ≠ b17 := ne_new lt_b15_17 g_b17
    have sz_b17 : h0.size ≤ b17 := Nat.le_trans X16.sz (Nat.le_of_eq g_b17.symm)
    have K0_h17 : Keep h0 h17 [] := K0_h16.ext E17
    have F17_coder : Fld Z h17 b17 "java/lang/String" "coder" "B" (.int (0 : Int32)) := D17 (Or.inr (hw _ (List.mem_of_getElem? (i := 27) rfl))) (ty := .byte) (by decide)
    have F17_value : Fld Z h17 b17 "java/lang/String" "value" "[B" .null := D17 (Or.inr (hw _ (List.mem_of_getElem? (i := 29) rfl))) (ty := (.array .byte)) (by decide)
    show Go _ _ _ _ (T17.setTop (mkF m 79 #[.val (.int i0), .val (.int i1), .val (.int i2), .val (.int i3), .val (.int (1 : Int32)), .val (.int (((i0 &&& (255 : Int32))).toUInt32.toUInt16.toUInt32.toInt32)), .val (.int ((((XT.ushr i0 (8 : Int32)) &&& (255 : Int32))).toUInt32.toUInt16.toUInt32.toInt32)), .val (.int ((((XT.ushr i0 (16 : Int32)) &&& (255 : Int32))).toUInt32.toUInt16.toUInt32.toInt32)), .val (.ref b15), .unset, .unset, .unset, .unset, .unset, .unset] [(.ref b17)]))
    refine Go.by (fun _ k => XS.dup X17.here X17.hx rfl (X17.cd at_79) rfl rfl k) ?_
    show Go _ _ _ _ (T17.setTop (mkF m 80 #[.val (.int i0), .val (.int i1), .val (.int i2), .val (.int i3), .val (.int (1 : Int32)), .val (.int (((i0 &&& (255 : Int32))).toUInt32.toUInt16.toUInt32.toInt32)), .val (.int ((((XT.ushr i0 (8 : Int32)) &&& (255 : Int32))).toUInt32.toUInt16.toUInt32.toInt32)), .val (.int ((((XT.ushr i0 (16 : Int32)) &&& (255 : Int32))).toUInt32.toUInt16.toUInt32.toInt32)), .val (.ref b15), .unset, .unset, .unset, .unset, .unset, .unset] [(.ref b17), (.ref b17)]))
    refine Go.by (fun _ k => XS.aload X17.here X17.hx rfl (X17.cd at_80) rfl rfl k) ?_
    show Go _ _ _ _ (T17.setTop (mkF m 82 #[.val (.int i0), .val (.int i1), .val (.int i2), .val (.int i3), .val (.int (1 : Int32)), .val (.int (((i0 &&& (255 : Int32))).toUInt32.toUInt16.toUInt32.toInt32)), .val (.int ((((XT.ushr i0 (8 : Int32)) &&& (255 : Int32))).toUInt32.toUInt16.toUInt32.toInt32)), .val (.int ((((XT.ushr i0 (16 : Int32)) &&& (255 : Int32))).toUInt32.toUInt16.toUInt32.toInt32)), .val (.ref b15), .unset, .unset, .unset, .unset, .unset, .unset] [(.ref b15), (.ref b17), (.ref b17)]))
    have f18 : Arv Z h17 b15 k15 .char (1 : Int32) [(.int (((i0 &&& (255 : Int32))).toUInt32.toUInt16.toUInt32.toInt32))] (.int (0 : Int32)) := A16.ext E17
    have lt_b15_19 := (X17.lt (.tail _ (.head _)))
    have lt_b17_19 := (X17.lt (.head _))
    obtain ⟨_, T19, h19, X19, K19, ⟨t_19, rfl, fr_t_19, fl_t_19, P19_0⟩, st19⟩ := X17.spN (W := 1) rfl (hw _ (List.mem_of_getElem? (i := 4) rfl)) (hw _ (List.mem_of_getElem? (i := 5) rfl)) (hw _ (List.mem_of_getElem? (i := 6) rfl)) (by decide) (payNew (fun d hd => hw d ((by decide +kernel : ∀ d ∈ StrChars.Road.words, d ∈ tables_1) d hd)) (hw _ (List.mem_of_getElem? (i := 2) rfl)) (cs := [(((i0 &&& (255 : Int32))).toUInt32.toUInt16.toUInt32.toInt32)]) (n := 1) X17.old (X17.ge (.head _)) A17 F17_value F17_coder f18 Sc nc rfl rfl (by decide) (by decide) (all1 (c255 _) alln) (by decide) (by decide)) (allS (.head _) all0) (g := (mkF m 82 #[.val (.int i0), .val (.int i1), .val (.int i2), .val (.int i3), .val (.int (1 : Int32)), .val (.int (((i0 &&& (255 : Int32))).toUInt32.toUInt16.toUInt32.toInt32)), .val (.int ((((XT.ushr i0 (8 : Int32)) &&& (255 : Int32))).toUInt32.toUInt16.toUInt32.toInt32)), .val (.int ((((XT.ushr i0 (16 : Int32)) &&& (255 : Int32))).toUInt32.toUInt16.toUInt32.toInt32)), .val (.ref b15), .unset, .unset, .unset, .unset, .unset, .unset] [(.ref b15), (.ref b17), (.ref b17)])) rfl rfl (a := b17) (argsL := [(.ref b15)]) (rest := [(.ref b17)]) (lenOf pd_8 rfl) rfl (by exact Nat.le_of_eq rfl) at_82 rfl (by decide) (by decide)
    refine Go.tr st19 ?_
    have K0_h19 : Keep h0 h19 [] := K0_h17.trans K19 (allS (Or.inr sz_b17) all0)
    have ne_b15_t_19 : b15 ≠ t_19 := ne_ge lt_b15_19 fr_t_19
    have ne_b17_t_19 : b17 ≠ t_19 := ne_ge lt_b17_19 fr_t_19
    have sz_t_19 : h0.size ≤ t_19 := Nat.le_trans X17.sz fr_t_19
    show Go _ _ _ _ (T19.setTop (mkF m 85 #[.val (.int i0), .val (.int i1), .val (.int i2), .val (.int i3), .val (.int (1 : Int32)), .val (.int (((i0 &&& (255 : Int32))).toUInt32.toUInt16.toUInt32.toInt32)), .val (.int ((((XT.ushr i0 (8 : Int32)) &&& (255 : Int32))).toUInt32.toUInt16.toUInt32.toInt32)), .val (.int ((((XT.ushr i0 (16 : Int32)) &&& (255 : Int32))).toUInt32.toUInt16.toUInt32.toInt32)), .val (.ref b15), .unset, .unset, .unset, .unset, .unset, .unset] [(.ref b17)]))
    refine Go.by (fun _ k => XS.astore X19.here X19.hx rfl (X19.cd at_85) rfl rfl (l' := #[.val (.int i0), .val (.int i1), .val (.int i2), .val (.int i3), .val (.int (1 : Int32)), .val (.int (((i0 &&& (255 : Int32))).toUInt32.toUInt16.toUInt32.toInt32)), .val (.int ((((XT.ushr i0 (8 : Int32)) &&& (255 : Int32))).toUInt32.toUInt16.toUInt32.toInt32)), .val (.int ((((XT.ushr i0 (16 : Int32)) &&& (255 : Int32))).toUInt32.toUInt16.toUInt32.toInt32)), .val (.ref b15), .val (.ref b17), .unset, .unset, .unset, .unset, .unset]) rfl k) ?_
    show Go _ _ _ _ (T19.setTop (mkF m 87 #[.val (.int i0), .val (.int i1), .val (.int i2), .val (.int i3), .val (.int (1 : Int32)), .val (.int (((i0 &&& (255 : Int32))).toUInt32.toUInt16.toUInt32.toInt32)), .val (.int ((((XT.ushr i0 (8 : Int32)) &&& (255 : Int32))).toUInt32.toUInt16.toUInt32.toInt32)), .val (.int ((((XT.ushr i0 (16 : Int32)) &&& (255 : Int32))).toUInt32.toUInt16.toUInt32.toInt32)), .val (.ref b15), .val (.ref b17), .unset, .unset, .unset, .unset, .unset] []))
    have lt_b15_20 := (X19.lt (.tail _ (.head _)))
    have lt_b17_20 := (X19.lt (.head _))
    have lt_t_19_20 := P19_0.ltT
    obtain ⟨T20, h20, b20, g_b20, X20, E20, A20, D20, st20⟩ := X19.new (hw _ (List.mem_of_getElem? (i := 30) rfl)) (hw _ (List.mem_of_getElem? (i := 31) rfl)) (hw _ (List.mem_of_getElem? (i := 32) rfl)) (g := (mkF m 87 #[.val (.int i0), .val (.int i1), .val (.int i2), .val (.int i3), .val (.int (1 : Int32)), .val (.int (((i0 &&& (255 : Int32))).toUInt32.toUInt16.toUInt32.toInt32)), .val (.int ((((XT.ushr i0 (8 : Int32)) &&& (255 : Int32))).toUInt32.toUInt16.toUInt32.toInt32)), .val (.int ((((XT.ushr i0 (16 : Int32)) &&& (255 : Int32))).toUInt32.toUInt16.toUInt32.toInt32)), .val (.ref b15), .val (.ref b17), .unset, .unset, .unset, .unset, .unset] [])) rfl at_87 (by decide) (by decide)
    refine Go.by st20 ?_
    have ne_b15_b20 : b15 ≠ b20 := ne_new lt_b15_20 g_b20
    have ne_b17_b20 : b17 ≠ b20 := ne_new lt_b17_20 g_b20
    have ne_t_19_b20 : t_19 ≠ b20 := ne_new lt_t_19_20 g_b20
    have sz_b20 : h0.size ≤ b20 := Nat.le_trans X19.sz (Nat.le_of_eq g_b20.symm)
    have K0_h20 : Keep h0 h20 [] := K0_h19.ext E20
    have F20_regex : Fld Z h20 b20 "com/example/rivulet/rivulet/RegexLiteral" "regex" "Ljava/lang/String;" .null := D20 (Or.inr (hw _ (List.mem_of_getElem? (i := 46) rfl))) (ty := (.object "java/lang/String")) (by decide)
    have F20_replacement : Fld Z h20 b20 "com/example/rivulet/rivulet/RegexLiteral" "replacement" "Lcom/example/rivulet/rivulet/Replacement;" .null := D20 (Or.inr (hw _ (List.mem_of_getElem? (i := 48) rfl))) (ty := (.object "com/example/rivulet/rivulet/Replacement")) (by decide)
    have F20_modifiers : Fld Z h20 b20 "com/example/rivulet/rivulet/RegexLiteral" "modifiers" "Ljava/lang/String;" .null := D20 (Or.inr (hw _ (List.mem_of_getElem? (i := 50) rfl))) (ty := (.object "java/lang/String")) (by decide)
    show Go _ _ _ _ (T20.setTop (mkF m 90 #[.val (.int i0), .val (.int i1), .val (.int i2), .val (.int i3), .val (.int (1 : Int32)), .val (.int (((i0 &&& (255 : Int32))).toUInt32.toUInt16.toUInt32.toInt32)), .val (.int ((((XT.ushr i0 (8 : Int32)) &&& (255 : Int32))).toUInt32.toUInt16.toUInt32.toInt32)), .val (.int ((((XT.ushr i0 (16 : Int32)) &&& (255 : Int32))).toUInt32.toUInt16.toUInt32.toInt32)), .val (.ref b15), .val (.ref b17), .unset, .unset, .unset, .unset, .unset] [(.ref b20)]))
    refine Go.by (fun _ k => XS.dup X20.here X20.hx rfl (X20.cd at_90) rfl rfl k) ?_
    show Go _ _ _ _ (T20.setTop (mkF m 91 #[.val (.int i0), .val (.int i1), .val (.int i2), .val (.int i3), .val (.int (1 : Int32)), .val (.int (((i0 &&& (255 : Int32))).toUInt32.toUInt16.toUInt32.toInt32)), .val (.int ((((XT.ushr i0 (8 : Int32)) &&& (255 : Int32))).toUInt32.toUInt16.toUInt32.toInt32)), .val (.int ((((XT.ushr i0 (16 : Int32)) &&& (255 : Int32))).toUInt32.toUInt16.toUInt32.toInt32)), .val (.ref b15), .val (.ref b17), .unset, .unset, .unset, .unset, .unset] [(.ref b20), (.ref b20)]))
    obtain ⟨b21, T21, h21, X21, E21, st21⟩ := X20.ldcS (hw _ (List.mem_of_getElem? (i := 33) rfl)) (own_SA hw) (g := (mkF m 91 #[.val (.int i0), .val (.int i1), .val (.int i2), .val (.int i3), .val (.int (1 : Int32)), .val (.int (((i0 &&& (255 : Int32))).toUInt32.toUInt16.toUInt32.toInt32)), .val (.int ((((XT.ushr i0 (8 : Int32)) &&& (255 : Int32))).toUInt32.toUInt16.toUInt32.toInt32)), .val (.int ((((XT.ushr i0 (16 : Int32)) &&& (255 : Int32))).toUInt32.toUInt16.toUInt32.toInt32)), .val (.ref b15), .val (.ref b17), .unset, .unset, .unset, .unset, .unset] [(.ref b20), (.ref b20)])) rfl at_91 (n := 0) (by decide) (by decide) (by decide) (by decide)
    refine Go.by st21 ?_
    have K0_h21 : Keep h0 h21 [] := K0_h20.ext E21
    show Go _ _ _ _ (T21.setTop (mkF m 93 #[.val (.int i0), .val (.int i1), .val (.int i2), .val (.int i3), .val (.int (1 : Int32)), .val (.int (((i0 &&& (255 : Int32))).toUInt32.toUInt16.toUInt32.toInt32)), .val (.int ((((XT.ushr i0 (8 : Int32)) &&& (255 : Int32))).toUInt32.toUInt16.toUInt32.toInt32)), .val (.int ((((XT.ushr i0 (16 : Int32)) &&& (255 : Int32))).toUInt32.toUInt16.toUInt32.toInt32)), .val (.ref b15), .val (.ref b17), .unset, .unset, .unset, .unset, .unset] [(.ref b21), (.ref b20), (.ref b20)]))
    refine Go.by (fun _ k => XS.aconstNull X21.here X21.hx rfl (X21.cd at_93)  k) ?_
    show Go _ _ _ _ (T21.setTop (mkF m 94 #[.val (.int i0), .val (.int i1), .val (.int i2), .val (.int i3), .val (.int (1 : Int32)), .val (.int (((i0 &&& (255 : Int32))).toUInt32.toUInt16.toUInt32.toInt32)), .val (.int ((((XT.ushr i0 (8 : Int32)) &&& (255 : Int32))).toUInt32.toUInt16.toUInt32.toInt32)), .val (.int ((((XT.ushr i0 (16 : Int32)) &&& (255 : Int32))).toUInt32.toUInt16.toUInt32.toInt32)), .val (.ref b15), .val (.ref b17), .unset, .unset, .unset, .unset, .unset] [.null, (.ref b21), (.ref b20), (.ref b20)]))
    refine Go.by (fun _ k => XS.aload X21.here X21.hx rfl (X21.cd at_94) rfl rfl k) ?_
    show Go _ _ _ _ (T21.setTop (mkF m 96 #[.val (.int i0), .val (.int i1), .val (.int i2), .val (.int i3), .val (.int (1 : Int32)), .val (.int (((i0 &&& (255 : Int32))).toUInt32.toUInt16.toUInt32.toInt32)), .val (.int ((((XT.ushr i0 (8 : Int32)) &&& (255 : Int32))).toUInt32.toUInt16.toUInt32.toInt32)), .val (.int ((((XT.ushr i0 (16 : Int32)) &&& (255 : Int32))).toUInt32.toUInt16.toUInt32.toInt32)), .val (.ref b15), .val (.ref b17), .unset, .unset, .unset, .unset, .unset] [(.ref b17), .null, (.ref b21), (.ref b20), (.ref b20)]))
    have f22 : Exa Z h21 b20 "com/example/rivulet/rivulet/RegexLiteral" := A20.ext E21
    have f23 : Fld Z h21 b20 "com/example/rivulet/rivulet/RegexLiteral" "regex" "Ljava/lang/String;" .null := F20_regex.ext E21
    have f24 : Fld Z h21 b20 "com/example/rivulet/rivulet/RegexLiteral" "replacement" "Lcom/example/rivulet/rivulet/Replacement;" .null := F20_replacement.ext E21
    have f25 : Fld Z h21 b20 "com/example/rivulet/rivulet/RegexLiteral" "modifiers" "Ljava/lang/String;" .null := F20_modifiers.ext E21
    obtain ⟨_, T26, h26, X26, K26, ⟨rfl, P26_0⟩, st26⟩ := X21.spN (W := 1) rfl (hw _ (List.mem_of_getElem? (i := 36) rfl)) (hw _ (List.mem_of_getElem? (i := 37) rfl)) (hw _ (List.mem_of_getElem? (i := 38) rfl)) (by decide) ((rm_ini l Z a0 hw n0 b20 b21 b17 .null .null .null h21 X21.old f22 f23 f24 f25 (X21.ge (.head _)) (X21.lt (.head _))).pay (hw _ (List.mem_of_getElem? (i := 38) rfl)) (hw _ (List.mem_of_getElem? (i := 32) rfl)) (by decide) (by decide)) (allS (.head _) all0) (g := (mkF m 96 #[.val (.int i0), .val (.int i1), .val (.int i2), .val (.int i3), .val (.int (1 : Int32)), .val (.int (((i0 &&& (255 : Int32))).toUInt32.toUInt16.toUInt32.toInt32)), .val (.int ((((XT.ushr i0 (8 : Int32)) &&& (255 : Int32))).toUInt32.toUInt16.toUInt32.toInt32)), .val (.int ((((XT.ushr i0 (16 : Int32)) &&& (255 : Int32))).toUInt32.toUInt16.toUInt32.toInt32)), .val (.ref b15), .val (.ref b17), .unset, .unset, .unset, .unset, .unset] [(.ref b17), .null, (.ref b21), (.ref b20), (.ref b20)])) rfl rfl (a := b20) (argsL := [(.ref b21), .null, (.ref b17)]) (rest := [(.ref b20)]) (lenOf pd_9 rfl) rfl (by exact Nat.le_of_eq rfl) at_96 rfl (by decide) (by decide)
    refine Go.tr st26 ?_
    have K0_h26 : Keep h0 h26 [] := K0_h21.trans K26 (allS (Or.inr sz_b20) all0)
    show Go _ _ _ _ (T26.setTop (mkF m 99 #[.val (.int i0), .val (.int i1), .val (.int i2), .val (.int i3), .val (.int (1 : Int32)), .val (.int (((i0 &&& (255 : Int32))).toUInt32.toUInt16.toUInt32.toInt32)), .val (.int ((((XT.ushr i0 (8 : Int32)) &&& (255 : Int32))).toUInt32.toUInt16.toUInt32.toInt32)), .val (.int ((((XT.ushr i0 (16 : Int32)) &&& (255 : Int32))).toUInt32.toUInt16.toUInt32.toInt32)), .val (.ref b15), .val (.ref b17), .unset, .unset, .unset, .unset, .unset] [(.ref b20)]))
    refine Go.by (fun _ k => XS.astore X26.here X26.hx rfl (X26.cd at_99) rfl rfl (l' := #[.val (.int i0), .val (.int i1), .val (.int i2), .val (.int i3), .val (.int (1 : Int32)), .val (.int (((i0 &&& (255 : Int32))).toUInt32.toUInt16.toUInt32.toInt32)), .val (.int ((((XT.ushr i0 (8 : Int32)) &&& (255 : Int32))).toUInt32.toUInt16.toUInt32.toInt32)), .val (.int ((((XT.ushr i0 (16 : Int32)) &&& (255 : Int32))).toUInt32.toUInt16.toUInt32.toInt32)), .val (.ref b15), .val (.ref b17), .val (.ref b20), .unset, .unset, .unset, .unset]) rfl k) ?_
    show Go _ _ _ _ (T26.setTop (mkF m 101 #[.val (.int i0), .val (.int i1), .val (.int i2), .val (.int i3), .val (.int (1 : Int32)), .val (.int (((i0 &&& (255 : Int32))).toUInt32.toUInt16.toUInt32.toInt32)), .val (.int ((((XT.ushr i0 (8 : Int32)) &&& (255 : Int32))).toUInt32.toUInt16.toUInt32.toInt32)), .val (.int ((((XT.ushr i0 (16 : Int32)) &&& (255 : Int32))).toUInt32.toUInt16.toUInt32.toInt32)), .val (.ref b15), .val (.ref b17), .val (.ref b20), .unset, .unset, .unset, .unset] []))
    refine Go.by (fun _ k => XS.iloadN X26.here X26.hx rfl (X26.cd at_101) rfl  k) ?_
    show Go _ _ _ _ (T26.setTop (mkF m 102 #[.val (.int i0), .val (.int i1), .val (.int i2), .val (.int i3), .val (.int (1 : Int32)), .val (.int (((i0 &&& (255 : Int32))).toUInt32.toUInt16.toUInt32.toInt32)), .val (.int ((((XT.ushr i0 (8 : Int32)) &&& (255 : Int32))).toUInt32.toUInt16.toUInt32.toInt32)), .val (.int ((((XT.ushr i0 (16 : Int32)) &&& (255 : Int32))).toUInt32.toUInt16.toUInt32.toInt32)), .val (.ref b15), .val (.ref b17), .val (.ref b20), .unset, .unset, .unset, .unset] [(.int i2)]))
    refine Go.by (fun _ k => XS.i2c X26.here X26.hx rfl (X26.cd at_102) rfl k) ?_
    show Go _ _ _ _ (T26.setTop (mkF m 103 #[.val (.int i0), .val (.int i1), .val (.int i2), .val (.int i3), .val (.int (1 : Int32)), .val (.int (((i0 &&& (255 : Int32))).toUInt32.toUInt16.toUInt32.toInt32)), .val (.int ((((XT.ushr i0 (8 : Int32)) &&& (255 : Int32))).toUInt32.toUInt16.toUInt32.toInt32)), .val (.int ((((XT.ushr i0 (16 : Int32)) &&& (255 : Int32))).toUInt32.toUInt16.toUInt32.toInt32)), .val (.ref b15), .val (.ref b17), .val (.ref b20), .unset, .unset, .unset, .unset] [(.int ((i2).toUInt32.toUInt16.toUInt32.toInt32))]))
    refine Go.by (fun _ k => XS.istore X26.here X26.hx rfl (X26.cd at_103) rfl (l' := #[.val (.int i0), .val (.int i1), .val (.int i2), .val (.int i3), .val (.int (1 : Int32)), .val (.int (((i0 &&& (255 : Int32))).toUInt32.toUInt16.toUInt32.toInt32)), .val (.int ((((XT.ushr i0 (8 : Int32)) &&& (255 : Int32))).toUInt32.toUInt16.toUInt32.toInt32)), .val (.int ((((XT.ushr i0 (16 : Int32)) &&& (255 : Int32))).toUInt32.toUInt16.toUInt32.toInt32)), .val (.ref b15), .val (.ref b17), .val (.ref b20), .val (.int ((i2).toUInt32.toUInt16.toUInt32.toInt32)), .unset, .unset, .unset]) rfl k) ?_
    show Go _ _ _ _ (T26.setTop (mkF m 105 #[.val (.int i0), .val (.int i1), .val (.int i2), .val (.int i3), .val (.int (1 : Int32)), .val (.int (((i0 &&& (255 : Int32))).toUInt32.toUInt16.toUInt32.toInt32)), .val (.int ((((XT.ushr i0 (8 : Int32)) &&& (255 : Int32))).toUInt32.toUInt16.toUInt32.toInt32)), .val (.int ((((XT.ushr i0 (16 : Int32)) &&& (255 : Int32))).toUInt32.toUInt16.toUInt32.toInt32)), .val (.ref b15), .val (.ref b17), .val (.ref b20), .val (.int ((i2).toUInt32.toUInt16.toUInt32.toInt32)), .unset, .unset, .unset] []))
    obtain ⟨r27_0, hr27, st27⟩ : ∃ (r27_0 : Int32), (((((i2).toUInt32.toUInt16.toUInt32.toInt32) = (((i0 &&& (255 : Int32))).toUInt32.toUInt16.toUInt32.toInt32)) ∧ r27_0 = (1 : Int32)) ∨ (¬ (((i2).toUInt32.toUInt16.toUInt32.toInt32) = (((i0 &&& (255 : Int32))).toUInt32.toUInt16.toUInt32.toInt32)) ∧ r27_0 = (0 : Int32))) ∧ ∀ t, Steps p.tables e below (T26.setTop (mkF m 148 #[.val (.int i0), .val (.int i1), .val (.int i2), .val (.int i3), .val (.int (1 : Int32)), .val (.int (((i0 &&& (255 : Int32))).toUInt32.toUInt16.toUInt32.toInt32)), .val (.int ((((XT.ushr i0 (8 : Int32)) &&& (255 : Int32))).toUInt32.toUInt16.toUInt32.toInt32)), .val (.int ((((XT.ushr i0 (16 : Int32)) &&& (255 : Int32))).toUInt32.toUInt16.toUInt32.toInt32)), .val (.ref b15), .val (.ref b17), .val (.ref b20), .val (.int ((i2).toUInt32.toUInt16.toUInt32.toInt32)), .unset, .unset, .unset] [(.int r27_0)])) t → Steps p.tables e below (T26.setTop (mkF m 105 #[.val (.int i0), .val (.int i1), .val (.int i2), .val (.int i3), .val (.int (1 : Int32)), .val (.int (((i0 &&& (255 : Int32))).toUInt32.toUInt16.toUInt32.toInt32)), .val (.int ((((XT.ushr i0 (8 : Int32)) &&& (255 : Int32))).toUInt32.toUInt16.toUInt32.toInt32)), .val (.int ((((XT.ushr i0 (16 : Int32)) &&& (255 : Int32))).toUInt32.toUInt16.toUInt32.toInt32)), .val (.ref b15), .val (.ref b17), .val (.ref b20), .val (.int ((i2).toUInt32.toUInt16.toUInt32.toInt32)), .unset, .unset, .unset] [])) t := by
      by_cases c27_0 : ((i2).toUInt32.toUInt16.toUInt32.toInt32) = (((i0 &&& (255 : Int32))).toUInt32.toUInt16.toUInt32.toInt32)
      · refine ⟨(1 : Int32), Or.inl ⟨c27_0, rfl⟩, fun t k => ?_⟩
        refine XS.iload X26.here X26.hx rfl (X26.cd at_105) rfl  ?_
        show Steps p.tables e below (T26.setTop (mkF m 107 #[.val (.int i0), .val (.int i1), .val (.int i2), .val (.int i3), .val (.int (1 : Int32)), .val (.int (((i0 &&& (255 : Int32))).toUInt32.toUInt16.toUInt32.toInt32)), .val (.int ((((XT.ushr i0 (8 : Int32)) &&& (255 : Int32))).toUInt32.toUInt16.toUInt32.toInt32)), .val (.int ((((XT.ushr i0 (16 : Int32)) &&& (255 : Int32))).toUInt32.toUInt16.toUInt32.toInt32)), .val (.ref b15), .val (.ref b17), .val (.ref b20), .val (.int ((i2).toUInt32.toUInt16.toUInt32.toInt32)), .unset, .unset, .unset] [(.int (1 : Int32))])) t
        refine XS.ifNo X26.here X26.hx rfl (X26.cd at_107) rfl (XT.i0_le_f (by decide)) ?_
        show Steps p.tables e below (T26.setTop (mkF m 110 #[.val (.int i0), .val (.int i1), .val (.int i2), .val (.int i3), .val (.int (1 : Int32)), .val (.int (((i0 &&& (255 : Int32))).toUInt32.toUInt16.toUInt32.toInt32)), .val (.int ((((XT.ushr i0 (8 : Int32)) &&& (255 : Int32))).toUInt32.toUInt16.toUInt32.toInt32)), .val (.int ((((XT.ushr i0 (16 : Int32)) &&& (255 : Int32))).toUInt32.toUInt16.toUInt32.toInt32)), .val (.ref b15), .val (.ref b17), .val (.ref b20), .val (.int ((i2).toUInt32.toUInt16.toUInt32.toInt32)), .unset, .unset, .unset] [])) t
        refine XS.iload X26.here X26.hx rfl (X26.cd at_110) rfl  ?_
        show Steps p.tables e below (T26.setTop (mkF m 112 #[.val (.int i0), .val (.int i1), .val (.int i2), .val (.int i3), .val (.int (1 : Int32)), .val (.int (((i0 &&& (255 : Int32))).toUInt32.toUInt16.toUInt32.toInt32)), .val (.int ((((XT.ushr i0 (8 : Int32)) &&& (255 : Int32))).toUInt32.toUInt16.toUInt32.toInt32)), .val (.int ((((XT.ushr i0 (16 : Int32)) &&& (255 : Int32))).toUInt32.toUInt16.toUInt32.toInt32)), .val (.ref b15), .val (.ref b17), .val (.ref b20), .val (.int ((i2).toUInt32.toUInt16.toUInt32.toInt32)), .unset, .unset, .unset] [(.int ((i2).toUInt32.toUInt16.toUInt32.toInt32))])) t
        refine XS.iload X26.here X26.hx rfl (X26.cd at_112) rfl  ?_
        show Steps p.tables e below (T26.setTop (mkF m 114 #[.val (.int i0), .val (.int i1), .val (.int i2), .val (.int i3), .val (.int (1 : Int32)), .val (.int (((i0 &&& (255 : Int32))).toUInt32.toUInt16.toUInt32.toInt32)), .val (.int ((((XT.ushr i0 (8 : Int32)) &&& (255 : Int32))).toUInt32.toUInt16.toUInt32.toInt32)), .val (.int ((((XT.ushr i0 (16 : Int32)) &&& (255 : Int32))).toUInt32.toUInt16.toUInt32.toInt32)), .val (.ref b15), .val (.ref b17), .val (.ref b20), .val (.int ((i2).toUInt32.toUInt16.toUInt32.toInt32)), .unset, .unset, .unset] [(.int (((i0 &&& (255 : Int32))).toUInt32.toUInt16.toUInt32.toInt32)), (.int ((i2).toUInt32.toUInt16.toUInt32.toInt32))])) t
        refine XS.icmpYes X26.here X26.hx rfl (pc0 := 114) (pc' := 143) rfl (X26.cd at_114) rfl (XT.ii_eq_t c27_0) (by decide) (by decide) ?_
        show Steps p.tables e below (T26.setTop (mkF m 143 #[.val (.int i0), .val (.int i1), .val (.int i2), .val (.int i3), .val (.int (1 : Int32)), .val (.int (((i0 &&& (255 : Int32))).toUInt32.toUInt16.toUInt32.toInt32)), .val (.int ((((XT.ushr i0 (8 : Int32)) &&& (255 : Int32))).toUInt32.toUInt16.toUInt32.toInt32)), .val (.int ((((XT.ushr i0 (16 : Int32)) &&& (255 : Int32))).toUInt32.toUInt16.toUInt32.toInt32)), .val (.ref b15), .val (.ref b17), .val (.ref b20), .val (.int ((i2).toUInt32.toUInt16.toUInt32.toInt32)), .unset, .unset, .unset] [])) t
        refine XS.iconst X26.here X26.hx rfl (X26.cd at_143)  ?_
        show Steps p.tables e below (T26.setTop (mkF m 144 #[.val (.int i0), .val (.int i1), .val (.int i2), .val (.int i3), .val (.int (1 : Int32)), .val (.int (((i0 &&& (255 : Int32))).toUInt32.toUInt16.toUInt32.toInt32)), .val (.int ((((XT.ushr i0 (8 : Int32)) &&& (255 : Int32))).toUInt32.toUInt16.toUInt32.toInt32)), .val (.int ((((XT.ushr i0 (16 : Int32)) &&& (255 : Int32))).toUInt32.toUInt16.toUInt32.toInt32)), .val (.ref b15), .val (.ref b17), .val (.ref b20), .val (.int ((i2).toUInt32.toUInt16.toUInt32.toInt32)), .unset, .unset, .unset] [(.int (1 : Int32))])) t
        refine XS.goto X26.here X26.hx rfl (pc0 := 144) (pc' := 148) rfl (X26.cd at_144) (by decide) (by decide) ?_
        show Steps p.tables e below (T26.setTop (mkF m 148 #[.val (.int i0), .val (.int i1), .val (.int i2), .val (.int i3), .val (.int (1 : Int32)), .val (.int (((i0 &&& (255 : Int32))).toUInt32.toUInt16.toUInt32.toInt32)), .val (.int ((((XT.ushr i0 (8 : Int32)) &&& (255 : Int32))).toUInt32.toUInt16.toUInt32.toInt32)), .val (.int ((((XT.ushr i0 (16 : Int32)) &&& (255 : Int32))).toUInt32.toUInt16.toUInt32.toInt32)), .val (.ref b15), .val (.ref b17), .val (.ref b20), .val (.int ((i2).toUInt32.toUInt16.toUInt32.toInt32)), .unset, .unset, .unset] [(.int (1 : Int32))])) t
        exact k
      · refine ⟨(0 : Int32), Or.inr (⟨c27_0, rfl⟩), fun t k => ?_⟩
        refine XS.iload X26.here X26.hx rfl (X26.cd at_105) rfl  ?_
        show Steps p.tables e below (T26.setTop (mkF m 107 #[.val (.int i0), .val (.int i1), .val (.int i2), .val (.int i3), .val (.int (1 : Int32)), .val (.int (((i0 &&& (255 : Int32))).toUInt32.toUInt16.toUInt32.toInt32)), .val (.int ((((XT.ushr i0 (8 : Int32)) &&& (255 : Int32))).toUInt32.toUInt16.toUInt32.toInt32)), .val (.int ((((XT.ushr i0 (16 : Int32)) &&& (255 : Int32))).toUInt32.toUInt16.toUInt32.toInt32)), .val (.ref b15), .val (.ref b17), .val (.ref b20), .val (.int ((i2).toUInt32.toUInt16.toUInt32.toInt32)), .unset, .unset, .unset] [(.int (1 : Int32))])) t
        refine XS.ifNo X26.here X26.hx rfl (X26.cd at_107) rfl (XT.i0_le_f (by decide)) ?_
        show Steps p.tables e below (T26.setTop (mkF m 110 #[.val (.int i0), .val (.int i1), .val (.int i2), .val (.int i3), .val (.int (1 : Int32)), .val (.int (((i0 &&& (255 : Int32))).toUInt32.toUInt16.toUInt32.toInt32)), .val (.int ((((XT.ushr i0 (8 : Int32)) &&& (255 : Int32))).toUInt32.toUInt16.toUInt32.toInt32)), .val (.int ((((XT.ushr i0 (16 : Int32)) &&& (255 : Int32))).toUInt32.toUInt16.toUInt32.toInt32)), .val (.ref b15), .val (.ref b17), .val (.ref b20), .val (.int ((i2).toUInt32.toUInt16.toUInt32.toInt32)), .unset, .unset, .unset] [])) t
        refine XS.iload X26.here X26.hx rfl (X26.cd at_110) rfl  ?_
        show Steps p.tables e below (T26.setTop (mkF m 112 #[.val (.int i0), .val (.int i1), .val (.int i2), .val (.int i3), .val (.int (1 : Int32)), .val (.int (((i0 &&& (255 : Int32))).toUInt32.toUInt16.toUInt32.toInt32)), .val (.int ((((XT.ushr i0 (8 : Int32)) &&& (255 : Int32))).toUInt32.toUInt16.toUInt32.toInt32)), .val (.int ((((XT.ushr i0 (16 : Int32)) &&& (255 : Int32))).toUInt32.toUInt16.toUInt32.toInt32)), .val (.ref b15), .val (.ref b17), .val (.ref b20), .val (.int ((i2).toUInt32.toUInt16.toUInt32.toInt32)), .unset, .unset, .unset] [(.int ((i2).toUInt32.toUInt16.toUInt32.toInt32))])) t
        refine XS.iload X26.here X26.hx rfl (X26.cd at_112) rfl  ?_
        show Steps p.tables e below (T26.setTop (mkF m 114 #[.val (.int i0), .val (.int i1), .val (.int i2), .val (.int i3), .val (.int (1 : Int32)), .val (.int (((i0 &&& (255 : Int32))).toUInt32.toUInt16.toUInt32.toInt32)), .val (.int ((((XT.ushr i0 (8 : Int32)) &&& (255 : Int32))).toUInt32.toUInt16.toUInt32.toInt32)), .val (.int ((((XT.ushr i0 (16 : Int32)) &&& (255 : Int32))).toUInt32.toUInt16.toUInt32.toInt32)), .val (.ref b15), .val (.ref b17), .val (.ref b20), .val (.int ((i2).toUInt32.toUInt16.toUInt32.toInt32)), .unset, .unset, .unset] [(.int (((i0 &&& (255 : Int32))).toUInt32.toUInt16.toUInt32.toInt32)), (.int ((i2).toUInt32.toUInt16.toUInt32.toInt32))])) t
        refine XS.icmpNo X26.here X26.hx rfl (X26.cd at_114) rfl (XT.ii_eq_f c27_0) ?_
        show Steps p.tables e below (T26.setTop (mkF m 117 #[.val (.int i0), .val (.int i1), .val (.int i2), .val (.int i3), .val (.int (1 : Int32)), .val (.int (((i0 &&& (255 : Int32))).toUInt32.toUInt16.toUInt32.toInt32)), .val (.int ((((XT.ushr i0 (8 : Int32)) &&& (255 : Int32))).toUInt32.toUInt16.toUInt32.toInt32)), .val (.int ((((XT.ushr i0 (16 : Int32)) &&& (255 : Int32))).toUInt32.toUInt16.toUInt32.toInt32)), .val (.ref b15), .val (.ref b17), .val (.ref b20), .val (.int ((i2).toUInt32.toUInt16.toUInt32.toInt32)), .unset, .unset, .unset] [])) t
        refine XS.iload X26.here X26.hx rfl (X26.cd at_117) rfl  ?_
        show Steps p.tables e below (T26.setTop (mkF m 119 #[.val (.int i0), .val (.int i1), .val (.int i2), .val (.int i3), .val (.int (1 : Int32)), .val (.int (((i0 &&& (255 : Int32))).toUInt32.toUInt16.toUInt32.toInt32)), .val (.int ((((XT.ushr i0 (8 : Int32)) &&& (255 : Int32))).toUInt32.toUInt16.toUInt32.toInt32)), .val (.int ((((XT.ushr i0 (16 : Int32)) &&& (255 : Int32))).toUInt32.toUInt16.toUInt32.toInt32)), .val (.ref b15), .val (.ref b17), .val (.ref b20), .val (.int ((i2).toUInt32.toUInt16.toUInt32.toInt32)), .unset, .unset, .unset] [(.int (1 : Int32))])) t
        refine XS.iconst X26.here X26.hx rfl (X26.cd at_119)  ?_
        show Steps p.tables e below (T26.setTop (mkF m 120 #[.val (.int i0), .val (.int i1), .val (.int i2), .val (.int i3), .val (.int (1 : Int32)), .val (.int (((i0 &&& (255 : Int32))).toUInt32.toUInt16.toUInt32.toInt32)), .val (.int ((((XT.ushr i0 (8 : Int32)) &&& (255 : Int32))).toUInt32.toUInt16.toUInt32.toInt32)), .val (.int ((((XT.ushr i0 (16 : Int32)) &&& (255 : Int32))).toUInt32.toUInt16.toUInt32.toInt32)), .val (.ref b15), .val (.ref b17), .val (.ref b20), .val (.int ((i2).toUInt32.toUInt16.toUInt32.toInt32)), .unset, .unset, .unset] [(.int (1 : Int32)), (.int (1 : Int32))])) t
        refine XS.icmpYes X26.here X26.hx rfl (pc0 := 120) (pc' := 130) rfl (X26.cd at_120) rfl (XT.ii_le_t (by decide)) (by decide) (by decide) ?_
        show Steps p.tables e below (T26.setTop (mkF m 130 #[.val (.int i0), .val (.int i1), .val (.int i2), .val (.int i3), .val (.int (1 : Int32)), .val (.int (((i0 &&& (255 : Int32))).toUInt32.toUInt16.toUInt32.toInt32)), .val (.int ((((XT.ushr i0 (8 : Int32)) &&& (255 : Int32))).toUInt32.toUInt16.toUInt32.toInt32)), .val (.int ((((XT.ushr i0 (16 : Int32)) &&& (255 : Int32))).toUInt32.toUInt16.toUInt32.toInt32)), .val (.ref b15), .val (.ref b17), .val (.ref b20), .val (.int ((i2).toUInt32.toUInt16.toUInt32.toInt32)), .unset, .unset, .unset] [])) t
        refine XS.iload X26.here X26.hx rfl (X26.cd at_130) rfl  ?_
        show Steps p.tables e below (T26.setTop (mkF m 132 #[.val (.int i0), .val (.int i1), .val (.int i2), .val (.int i3), .val (.int (1 : Int32)), .val (.int (((i0 &&& (255 : Int32))).toUInt32.toUInt16.toUInt32.toInt32)), .val (.int ((((XT.ushr i0 (8 : Int32)) &&& (255 : Int32))).toUInt32.toUInt16.toUInt32.toInt32)), .val (.int ((((XT.ushr i0 (16 : Int32)) &&& (255 : Int32))).toUInt32.toUInt16.toUInt32.toInt32)), .val (.ref b15), .val (.ref b17), .val (.ref b20), .val (.int ((i2).toUInt32.toUInt16.toUInt32.toInt32)), .unset, .unset, .unset] [(.int (1 : Int32))])) t
        refine XS.iconst X26.here X26.hx rfl (X26.cd at_132)  ?_
        show Steps p.tables e below (T26.setTop (mkF m 133 #[.val (.int i0), .val (.int i1), .val (.int i2), .val (.int i3), .val (.int (1 : Int32)), .val (.int (((i0 &&& (255 : Int32))).toUInt32.toUInt16.toUInt32.toInt32)), .val (.int ((((XT.ushr i0 (8 : Int32)) &&& (255 : Int32))).toUInt32.toUInt16.toUInt32.toInt32)), .val (.int ((((XT.ushr i0 (16 : Int32)) &&& (255 : Int32))).toUInt32.toUInt16.toUInt32.toInt32)), .val (.ref b15), .val (.ref b17), .val (.ref b20), .val (.int ((i2).toUInt32.toUInt16.toUInt32.toInt32)), .unset, .unset, .unset] [(.int (2 : Int32)), (.int (1 : Int32))])) t
        refine XS.icmpYes X26.here X26.hx rfl (pc0 := 133) (pc' := 147) rfl (X26.cd at_133) rfl (XT.ii_le_t (by decide)) (by decide) (by decide) ?_
        show Steps p.tables e below (T26.setTop (mkF m 147 #[.val (.int i0), .val (.int i1), .val (.int i2), .val (.int i3), .val (.int (1 : Int32)), .val (.int (((i0 &&& (255 : Int32))).toUInt32.toUInt16.toUInt32.toInt32)), .val (.int ((((XT.ushr i0 (8 : Int32)) &&& (255 : Int32))).toUInt32.toUInt16.toUInt32.toInt32)), .val (.int ((((XT.ushr i0 (16 : Int32)) &&& (255 : Int32))).toUInt32.toUInt16.toUInt32.toInt32)), .val (.ref b15), .val (.ref b17), .val (.ref b20), .val (.int ((i2).toUInt32.toUInt16.toUInt32.toInt32)), .unset, .unset, .unset] [])) t
        refine XS.iconst X26.here X26.hx rfl (X26.cd at_147)  ?_
        show Steps p.tables e below (T26.setTop (mkF m 148 #[.val (.int i0), .val (.int i1), .val (.int i2), .val (.int i3), .val (.int (1 : Int32)), .val (.int (((i0 &&& (255 : Int32))).toUInt32.toUInt16.toUInt32.toInt32)), .val (.int ((((XT.ushr i0 (8 : Int32)) &&& (255 : Int32))).toUInt32.toUInt16.toUInt32.toInt32)), .val (.int ((((XT.ushr i0 (16 : Int32)) &&& (255 : Int32))).toUInt32.toUInt16.toUInt32.toInt32)), .val (.ref b15), .val (.ref b17), .val (.ref b20), .val (.int ((i2).toUInt32.toUInt16.toUInt32.toInt32)), .unset, .unset, .unset] [(.int (0 : Int32))])) t
        exact k
    refine Go.by (fun _ k => st27 _ k) ?_
    show Go _ _ _ _ (T26.setTop (mkF m 148 #[.val (.int i0), .val (.int i1), .val (.int i2), .val (.int i3), .val (.int (1 : Int32)), .val (.int (((i0 &&& (255 : Int32))).toUInt32.toUInt16.toUInt32.toInt32)), .val (.int ((((XT.ushr i0 (8 : Int32)) &&& (255 : Int32))).toUInt32.toUInt16.toUInt32.toInt32)), .val (.int ((((XT.ushr i0 (16 : Int32)) &&& (255 : Int32))).toUInt32.toUInt16.toUInt32.toInt32)), .val (.ref b15), .val (.ref b17), .val (.ref b20), .val (.int ((i2).toUInt32.toUInt16.toUInt32.toInt32)), .unset, .unset, .unset] [(.int r27_0)]))
    refine Go.by (fun _ k => XS.istore X26.here X26.hx rfl (X26.cd at_148) rfl (l' := #[.val (.int i0), .val (.int i1), .val (.int i2), .val (.int i3), .val (.int (1 : Int32)), .val (.int (((i0 &&& (255 : Int32))).toUInt32.toUInt16.toUInt32.toInt32)), .val (.int ((((XT.ushr i0 (8 : Int32)) &&& (255 : Int32))).toUInt32.toUInt16.toUInt32.toInt32)), .val (.int ((((XT.ushr i0 (16 : Int32)) &&& (255 : Int32))).toUInt32.toUInt16.toUInt32.toInt32)), .val (.ref b15), .val (.ref b17), .val (.ref b20), .val (.int ((i2).toUInt32.toUInt16.toUInt32.toInt32)), .val (.int r27_0), .unset, .unset]) rfl k) ?_
    show Go _ _ _ _ (T26.setTop (mkF m 150 #[.val (.int i0), .val (.int i1), .val (.int i2), .val (.int i3), .val (.int (1 : Int32)), .val (.int (((i0 &&& (255 : Int32))).toUInt32.toUInt16.toUInt32.toInt32)), .val (.int ((((XT.ushr i0 (8 : Int32)) &&& (255 : Int32))).toUInt32.toUInt16.toUInt32.toInt32)), .val (.int ((((XT.ushr i0 (16 : Int32)) &&& (255 : Int32))).toUInt32.toUInt16.toUInt32.toInt32)), .val (.ref b15), .val (.ref b17), .val (.ref b20), .val (.int ((i2).toUInt32.toUInt16.toUInt32.toInt32)), .val (.int r27_0), .unset, .unset] []))
    refine Go.by (fun _ k => XS.aload X26.here X26.hx rfl (X26.cd at_150) rfl rfl k) ?_
    show Go _ _ _ _ (T26.setTop (mkF m 152 #[.val (.int i0), .val (.int i1), .val (.int i2), .val (.int i3), .val (.int (1 : Int32)), .val (.int (((i0 &&& (255 : Int32))).toUInt32.toUInt16.toUInt32.toInt32)), .val (.int ((((XT.ushr i0 (8 : Int32)) &&& (255 : Int32))).toUInt32.toUInt16.toUInt32.toInt32)), .val (.int ((((XT.ushr i0 (16 : Int32)) &&& (255 : Int32))).toUInt32.toUInt16.toUInt32.toInt32)), .val (.ref b15), .val (.ref b17), .val (.ref b20), .val (.int ((i2).toUInt32.toUInt16.toUInt32.toInt32)), .val (.int r27_0), .unset, .unset] [(.ref b20)]))
    refine Go.by (fun _ k => XS.iload X26.here X26.hx rfl (X26.cd at_152) rfl  k) ?_
    show Go _ _ _ _ (T26.setTop (mkF m 154 #[.val (.int i0), .val (.int i1), .val (.int i2), .val (.int i3), .val (.int (1 : Int32)), .val (.int (((i0 &&& (255 : Int32))).toUInt32.toUInt16.toUInt32.toInt32)), .val (.int ((((XT.ushr i0 (8 : Int32)) &&& (255 : Int32))).toUInt32.toUInt16.toUInt32.toInt32)), .val (.int ((((XT.ushr i0 (16 : Int32)) &&& (255 : Int32))).toUInt32.toUInt16.toUInt32.toInt32)), .val (.ref b15), .val (.ref b17), .val (.ref b20), .val (.int ((i2).toUInt32.toUInt16.toUInt32.toInt32)), .val (.int r27_0), .unset, .unset] [(.int ((i2).toUInt32.toUInt16.toUInt32.toInt32)), (.ref b20)]))
    have f28 : Str Z h26 b17 t_19 [(((i0 &&& (255 : Int32))).toUInt32.toUInt16.toUInt32.toInt32)] := ((P19_0.ext E20).ext E21).keep K26 (ninS ne_b17_b20 nin0) (ninS ne_t_19_b20 nin0)
    have f30 : Exa Z h26 b20 "com/example/rivulet/rivulet/RegexLiteral" := (f22).keep K26
    obtain ⟨_, T29, h29, X29, K29, ⟨r_29, rfl, rfl, p29_0⟩, st29⟩ := X26.viN (W := 0) (hw _ (List.mem_of_getElem? (i := 51) rfl)) (hw _ (List.mem_of_getElem? (i := 52) rfl)) (hw _ (List.mem_of_getElem? (i := 54) rfl)) (hw _ (List.mem_of_getElem? (i := 53) rfl)) (by decide) ((rm_has l Z a0 hw n0 b20 ((i2).toUInt32.toUInt16.toUInt32.toInt32) b17 t_19 [(((i0 &&& (255 : Int32))).toUInt32.toUInt16.toUInt32.toInt32)] zc h26 X26.old P26_0 f28 Sc nc (all1 (c255 _) alln)).pay (hw _ (List.mem_of_getElem? (i := 55) rfl)) (hw _ (List.mem_of_getElem? (i := 32) rfl)) (by decide) (by decide)) all0 f30 (g := (mkF m 154 #[.val (.int i0), .val (.int i1), .val (.int i2), .val (.int i3), .val (.int (1 : Int32)), .val (.int (((i0 &&& (255 : Int32))).toUInt32.toUInt16.toUInt32.toInt32)), .val (.int ((((XT.ushr i0 (8 : Int32)) &&& (255 : Int32))).toUInt32.toUInt16.toUInt32.toInt32)), .val (.int ((((XT.ushr i0 (16 : Int32)) &&& (255 : Int32))).toUInt32.toUInt16.toUInt32.toInt32)), .val (.ref b15), .val (.ref b17), .val (.ref b20), .val (.int ((i2).toUInt32.toUInt16.toUInt32.toInt32)), .val (.int r27_0), .unset, .unset] [(.int ((i2).toUInt32.toUInt16.toUInt32.toInt32)), (.ref b20)])) rfl rfl (argsL := [(.int ((i2).toUInt32.toUInt16.toUInt32.toInt32))]) (rest := []) (lenOf pd_10 rfl) rfl (by exact Nat.le_of_eq rfl) at_154 rfl (by decide) (by decide)
    refine Go.tr st29 ?_
    show Go _ _ _ _ (T29.setTop (mkF m 157 #[.val (.int i0), .val (.int i1), .val (.int i2), .val (.int i3), .val (.int (1 : Int32)), .val (.int (((i0 &&& (255 : Int32))).toUInt32.toUInt16.toUInt32.toInt32)), .val (.int ((((XT.ushr i0 (8 : Int32)) &&& (255 : Int32))).toUInt32.toUInt16.toUInt32.toInt32)), .val (.int ((((XT.ushr i0 (16 : Int32)) &&& (255 : Int32))).toUInt32.toUInt16.toUInt32.toInt32)), .val (.ref b15), .val (.ref b17), .val (.ref b20), .val (.int ((i2).toUInt32.toUInt16.toUInt32.toInt32)), .val (.int r27_0), .unset, .unset] [(.int r_29)]))
    refine Go.by (fun _ k => XS.iload X29.here X29.hx rfl (X29.cd at_157) rfl  k) ?_
    show Go _ _ _ _ (T29.setTop (mkF m 159 #[.val (.int i0), .val (.int i1), .val (.int i2), .val (.int i3), .val (.int (1 : Int32)), .val (.int (((i0 &&& (255 : Int32))).toUInt32.toUInt16.toUInt32.toInt32)), .val (.int ((((XT.ushr i0 (8 : Int32)) &&& (255 : Int32))).toUInt32.toUInt16.toUInt32.toInt32)), .val (.int ((((XT.ushr i0 (16 : Int32)) &&& (255 : Int32))).toUInt32.toUInt16.toUInt32.toInt32)), .val (.ref b15), .val (.ref b17), .val (.ref b20), .val (.int ((i2).toUInt32.toUInt16.toUInt32.toInt32)), .val (.int r27_0), .unset, .unset] [(.int r27_0), (.int r_29)]))
    refine Go.by (fun _ k => XS.icmpYes X29.here X29.hx rfl (pc0 := 159) (pc' := 164) rfl (X29.cd at_159) rfl (XT.ii_eq_t (by simp only [List.mem_cons, List.not_mem_nil, or_false] at p29_0; rcases p29_0 with q | q <;> rcases hr27 with z | z <;> simp_all)) (by decide) (by decide) k) ?_
    show Go _ _ _ _ (T29.setTop (mkF m 164 #[.val (.int i0), .val (.int i1), .val (.int i2), .val (.int i3), .val (.int (1 : Int32)), .val (.int (((i0 &&& (255 : Int32))).toUInt32.toUInt16.toUInt32.toInt32)), .val (.int ((((XT.ushr i0 (8 : Int32)) &&& (255 : Int32))).toUInt32.toUInt16.toUInt32.toInt32)), .val (.int ((((XT.ushr i0 (16 : Int32)) &&& (255 : Int32))).toUInt32.toUInt16.toUInt32.toInt32)), .val (.ref b15), .val (.ref b17), .val (.ref b20), .val (.int ((i2).toUInt32.toUInt16.toUInt32.toInt32)), .val (.int r27_0), .unset, .unset] []))
    refine Go.by (fun _ k => XS.iload X29.here X29.hx rfl (X29.cd at_164) rfl  k) ?_
    show Go _ _ _ _ (T29.setTop (mkF m 166 #[.val (.int i0), .val (.int i1), .val (.int i2), .val (.int i3), .val (.int (1 : Int32)), .val (.int (((i0 &&& (255 : Int32))).toUInt32.toUInt16.toUInt32.toInt32)), .val (.int ((((XT.ushr i0 (8 : Int32)) &&& (255 : Int32))).toUInt32.toUInt16.toUInt32.toInt32)), .val (.int ((((XT.ushr i0 (16 : Int32)) &&& (255 : Int32))).toUInt32.toUInt16.toUInt32.toInt32)), .val (.ref b15), .val (.ref b17), .val (.ref b20), .val (.int ((i2).toUInt32.toUInt16.toUInt32.toInt32)), .val (.int r27_0), .unset, .unset] [(.int (1 : Int32))]))
    refine Go.by (fun _ k => XS.ifNo X29.here X29.hx rfl (X29.cd at_166) rfl (XT.i0_le_f (by decide)) k) ?_
    show Go _ _ _ _ (T29.setTop (mkF m 169 #[.val (.int i0), .val (.int i1), .val (.int i2), .val (.int i3), .val (.int (1 : Int32)), .val (.int (((i0 &&& (255 : Int32))).toUInt32.toUInt16.toUInt32.toInt32)), .val (.int ((((XT.ushr i0 (8 : Int32)) &&& (255 : Int32))).toUInt32.toUInt16.toUInt32.toInt32)), .val (.int ((((XT.ushr i0 (16 : Int32)) &&& (255 : Int32))).toUInt32.toUInt16.toUInt32.toInt32)), .val (.ref b15), .val (.ref b17), .val (.ref b20), .val (.int ((i2).toUInt32.toUInt16.toUInt32.toInt32)), .val (.int r27_0), .unset, .unset] []))
    refine Go.by (fun _ k => XS.iloadN X29.here X29.hx rfl (X29.cd at_169) rfl  k) ?_
    show Go _ _ _ _ (T29.setTop (mkF m 170 #[.val (.int i0), .val (.int i1), .val (.int i2), .val (.int i3), .val (.int (1 : Int32)), .val (.int (((i0 &&& (255 : Int32))).toUInt32.toUInt16.toUInt32.toInt32)), .val (.int ((((XT.ushr i0 (8 : Int32)) &&& (255 : Int32))).toUInt32.toUInt16.toUInt32.toInt32)), .val (.int ((((XT.ushr i0 (16 : Int32)) &&& (255 : Int32))).toUInt32.toUInt16.toUInt32.toInt32)), .val (.ref b15), .val (.ref b17), .val (.ref b20), .val (.int ((i2).toUInt32.toUInt16.toUInt32.toInt32)), .val (.int r27_0), .unset, .unset] [(.int i3)]))
    refine Go.by (fun _ k => X29.ldcI (hw _ (List.mem_of_getElem? (i := 98) rfl)) (g := (mkF m 170 #[.val (.int i0), .val (.int i1), .val (.int i2), .val (.int i3), .val (.int (1 : Int32)), .val (.int (((i0 &&& (255 : Int32))).toUInt32.toUInt16.toUInt32.toInt32)), .val (.int ((((XT.ushr i0 (8 : Int32)) &&& (255 : Int32))).toUInt32.toUInt16.toUInt32.toInt32)), .val (.int ((((XT.ushr i0 (16 : Int32)) &&& (255 : Int32))).toUInt32.toUInt16.toUInt32.toInt32)), .val (.ref b15), .val (.ref b17), .val (.ref b20), .val (.int ((i2).toUInt32.toUInt16.toUInt32.toInt32)), .val (.int r27_0), .unset, .unset] [(.int i3)])) rfl at_170 _ k) ?_
    show Go _ _ _ _ (T29.setTop (mkF m 172 #[.val (.int i0), .val (.int i1), .val (.int i2), .val (.int i3), .val (.int (1 : Int32)), .val (.int (((i0 &&& (255 : Int32))).toUInt32.toUInt16.toUInt32.toInt32)), .val (.int ((((XT.ushr i0 (8 : Int32)) &&& (255 : Int32))).toUInt32.toUInt16.toUInt32.toInt32)), .val (.int ((((XT.ushr i0 (16 : Int32)) &&& (255 : Int32))).toUInt32.toUInt16.toUInt32.toInt32)), .val (.ref b15), .val (.ref b17), .val (.ref b20), .val (.int ((i2).toUInt32.toUInt16.toUInt32.toInt32)), .val (.int r27_0), .unset, .unset] [(.int (2147483647 : Int32)), (.int i3)]))
    refine Go.by (fun _ k => XS.iand X29.here X29.hx rfl (X29.cd at_172) rfl k) ?_
    show Go _ _ _ _ (T29.setTop (mkF m 173 #[.val (.int i0), .val (.int i1), .val (.int i2), .val (.int i3), .val (.int (1 : Int32)), .val (.int (((i0 &&& (255 : Int32))).toUInt32.toUInt16.toUInt32.toInt32)), .val (.int ((((XT.ushr i0 (8 : Int32)) &&& (255 : Int32))).toUInt32.toUInt16.toUInt32.toInt32)), .val (.int ((((XT.ushr i0 (16 : Int32)) &&& (255 : Int32))).toUInt32.toUInt16.toUInt32.toInt32)), .val (.ref b15), .val (.ref b17), .val (.ref b20), .val (.int ((i2).toUInt32.toUInt16.toUInt32.toInt32)), .val (.int r27_0), .unset, .unset] [(.int (i3 &&& (2147483647 : Int32)))]))
    refine Go.by (fun _ k => XS.iload X29.here X29.hx rfl (X29.cd at_173) rfl  k) ?_
    show Go _ _ _ _ (T29.setTop (mkF m 175 #[.val (.int i0), .val (.int i1), .val (.int i2), .val (.int i3), .val (.int (1 : Int32)), .val (.int (((i0 &&& (255 : Int32))).toUInt32.toUInt16.toUInt32.toInt32)), .val (.int ((((XT.ushr i0 (8 : Int32)) &&& (255 : Int32))).toUInt32.toUInt16.toUInt32.toInt32)), .val (.int ((((XT.ushr i0 (16 : Int32)) &&& (255 : Int32))).toUInt32.toUInt16.toUInt32.toInt32)), .val (.ref b15), .val (.ref b17), .val (.ref b20), .val (.int ((i2).toUInt32.toUInt16.toUInt32.toInt32)), .val (.int r27_0), .unset, .unset] [(.int (1 : Int32)), (.int (i3 &&& (2147483647 : Int32)))]))
    refine Go.by (fun _ k => X29.irem (g := (mkF m 175 #[.val (.int i0), .val (.int i1), .val (.int i2), .val (.int i3), .val (.int (1 : Int32)), .val (.int (((i0 &&& (255 : Int32))).toUInt32.toUInt16.toUInt32.toInt32)), .val (.int ((((XT.ushr i0 (8 : Int32)) &&& (255 : Int32))).toUInt32.toUInt16.toUInt32.toInt32)), .val (.int ((((XT.ushr i0 (16 : Int32)) &&& (255 : Int32))).toUInt32.toUInt16.toUInt32.toInt32)), .val (.ref b15), .val (.ref b17), .val (.ref b20), .val (.int ((i2).toUInt32.toUInt16.toUInt32.toInt32)), .val (.int r27_0), .unset, .unset] [(.int (1 : Int32)), (.int (i3 &&& (2147483647 : Int32)))])) rfl rfl (by decide) at_175 _ k) ?_
    show Go _ _ _ _ (T29.setTop (mkF m 176 #[.val (.int i0), .val (.int i1), .val (.int i2), .val (.int i3), .val (.int (1 : Int32)), .val (.int (((i0 &&& (255 : Int32))).toUInt32.toUInt16.toUInt32.toInt32)), .val (.int ((((XT.ushr i0 (8 : Int32)) &&& (255 : Int32))).toUInt32.toUInt16.toUInt32.toInt32)), .val (.int ((((XT.ushr i0 (16 : Int32)) &&& (255 : Int32))).toUInt32.toUInt16.toUInt32.toInt32)), .val (.ref b15), .val (.ref b17), .val (.ref b20), .val (.int ((i2).toUInt32.toUInt16.toUInt32.toInt32)), .val (.int r27_0), .unset, .unset] [(.int ((i3 &&& (2147483647 : Int32)) % (1 : Int32)))]))
    obtain ⟨j, hj, ej⟩ := own_rem i3 (n := (1 : Int32)) (N := 1) rfl (by decide)
    refine Go.by (fun _ k => XS.istore X29.here X29.hx rfl (X29.cd at_176) rfl (l' := #[.val (.int i0), .val (.int i1), .val (.int i2), .val (.int i3), .val (.int (1 : Int32)), .val (.int (((i0 &&& (255 : Int32))).toUInt32.toUInt16.toUInt32.toInt32)), .val (.int ((((XT.ushr i0 (8 : Int32)) &&& (255 : Int32))).toUInt32.toUInt16.toUInt32.toInt32)), .val (.int ((((XT.ushr i0 (16 : Int32)) &&& (255 : Int32))).toUInt32.toUInt16.toUInt32.toInt32)), .val (.ref b15), .val (.ref b17), .val (.ref b20), .val (.int ((i2).toUInt32.toUInt16.toUInt32.toInt32)), .val (.int r27_0), .val (.int ((i3 &&& (2147483647 : Int32)) % (1 : Int32))), .unset]) rfl k) ?_
    show Go _ _ _ _ (T29.setTop (mkF m 178 #[.val (.int i0), .val (.int i1), .val (.int i2), .val (.int i3), .val (.int (1 : Int32)), .val (.int (((i0 &&& (255 : Int32))).toUInt32.toUInt16.toUInt32.toInt32)), .val (.int ((((XT.ushr i0 (8 : Int32)) &&& (255 : Int32))).toUInt32.toUInt16.toUInt32.toInt32)), .val (.int ((((XT.ushr i0 (16 : Int32)) &&& (255 : Int32))).toUInt32.toUInt16.toUInt32.toInt32)), .val (.ref b15), .val (.ref b17), .val (.ref b20), .val (.int ((i2).toUInt32.toUInt16.toUInt32.toInt32)), .val (.int r27_0), .val (.int ((i3 &&& (2147483647 : Int32)) % (1 : Int32))), .unset] []))
    refine Go.by (fun _ k => XS.iload X29.here X29.hx rfl (X29.cd at_178) rfl  k) ?_
    show Go _ _ _ _ (T29.setTop (mkF m 180 #[.val (.int i0), .val (.int i1), .val (.int i2), .val (.int i3), .val (.int (1 : Int32)), .val (.int (((i0 &&& (255 : Int32))).toUInt32.toUInt16.toUInt32.toInt32)), .val (.int ((((XT.ushr i0 (8 : Int32)) &&& (255 : Int32))).toUInt32.toUInt16.toUInt32.toInt32)), .val (.int ((((XT.ushr i0 (16 : Int32)) &&& (255 : Int32))).toUInt32.toUInt16.toUInt32.toInt32)), .val (.ref b15), .val (.ref b17), .val (.ref b20), .val (.int ((i2).toUInt32.toUInt16.toUInt32.toInt32)), .val (.int r27_0), .val (.int ((i3 &&& (2147483647 : Int32)) % (1 : Int32))), .unset] [(.int ((i3 &&& (2147483647 : Int32)) % (1 : Int32)))]))
    obtain ⟨r31_0, hr31, st31⟩ : ∃ (r31_0 : Int32), (((((i3 &&& (2147483647 : Int32)) % (1 : Int32)) = 0) ∧ r31_0 = (((i0 &&& (255 : Int32))).toUInt32.toUInt16.toUInt32.toInt32)) ∨ (¬ (((i3 &&& (2147483647 : Int32)) % (1 : Int32)) = 0) ∧ (((i3 &&& (2147483647 : Int32)) % (1 : Int32)) = (1 : Int32)) ∧ r31_0 = ((((XT.ushr i0 (8 : Int32)) &&& (255 : Int32))).toUInt32.toUInt16.toUInt32.toInt32)) ∨ (¬ (((i3 &&& (2147483647 : Int32)) % (1 : Int32)) = 0) ∧ ¬ (((i3 &&& (2147483647 : Int32)) % (1 : Int32)) = (1 : Int32)) ∧ r31_0 = ((((XT.ushr i0 (16 : Int32)) &&& (255 : Int32))).toUInt32.toUInt16.toUInt32.toInt32))) ∧ ∀ t, Steps p.tables e below (T29.setTop (mkF m 201 #[.val (.int i0), .val (.int i1), .val (.int i2), .val (.int i3), .val (.int (1 : Int32)), .val (.int (((i0 &&& (255 : Int32))).toUInt32.toUInt16.toUInt32.toInt32)), .val (.int ((((XT.ushr i0 (8 : Int32)) &&& (255 : Int32))).toUInt32.toUInt16.toUInt32.toInt32)), .val (.int ((((XT.ushr i0 (16 : Int32)) &&& (255 : Int32))).toUInt32.toUInt16.toUInt32.toInt32)), .val (.ref b15), .val (.ref b17), .val (.ref b20), .val (.int ((i2).toUInt32.toUInt16.toUInt32.toInt32)), .val (.int r27_0), .val (.int ((i3 &&& (2147483647 : Int32)) % (1 : Int32))), .unset] [(.int r31_0)])) t → Steps p.tables e below (T29.setTop (mkF m 180 #[.val (.int i0), .val (.int i1), .val (.int i2), .val (.int i3), .val (.int (1 : Int32)), .val (.int (((i0 &&& (255 : Int32))).toUInt32.toUInt16.toUInt32.toInt32)), .val (.int ((((XT.ushr i0 (8 : Int32)) &&& (255 : Int32))).toUInt32.toUInt16.toUInt32.toInt32)), .val (.int ((((XT.ushr i0 (16 : Int32)) &&& (255 : Int32))).toUInt32.toUInt16.toUInt32.toInt32)), .val (.ref b15), .val (.ref b17), .val (.ref b20), .val (.int ((i2).toUInt32.toUInt16.toUInt32.toInt32)), .val (.int r27_0), .val (.int ((i3 &&& (2147483647 : Int32)) % (1 : Int32))), .unset] [(.int ((i3 &&& (2147483647 : Int32)) % (1 : Int32)))])) t := by
      by_cases c31_0 : ((i3 &&& (2147483647 : Int32)) % (1 : Int32)) = 0
      · refine ⟨(((i0 &&& (255 : Int32))).toUInt32.toUInt16.toUInt32.toInt32), Or.inl ⟨c31_0, rfl⟩, fun t k => ?_⟩
        refine XS.ifNo X29.here X29.hx rfl (X29.cd at_180) rfl (XT.i0_ne_f c31_0) ?_
        show Steps p.tables e below (T29.setTop (mkF m 183 #[.val (.int i0), .val (.int i1), .val (.int i2), .val (.int i3), .val (.int (1 : Int32)), .val (.int (((i0 &&& (255 : Int32))).toUInt32.toUInt16.toUInt32.toInt32)), .val (.int ((((XT.ushr i0 (8 : Int32)) &&& (255 : Int32))).toUInt32.toUInt16.toUInt32.toInt32)), .val (.int ((((XT.ushr i0 (16 : Int32)) &&& (255 : Int32))).toUInt32.toUInt16.toUInt32.toInt32)), .val (.ref b15), .val (.ref b17), .val (.ref b20), .val (.int ((i2).toUInt32.toUInt16.toUInt32.toInt32)), .val (.int r27_0), .val (.int ((i3 &&& (2147483647 : Int32)) % (1 : Int32))), .unset] [])) t
        refine XS.iload X29.here X29.hx rfl (X29.cd at_183) rfl  ?_
        show Steps p.tables e below (T29.setTop (mkF m 185 #[.val (.int i0), .val (.int i1), .val (.int i2), .val (.int i3), .val (.int (1 : Int32)), .val (.int (((i0 &&& (255 : Int32))).toUInt32.toUInt16.toUInt32.toInt32)), .val (.int ((((XT.ushr i0 (8 : Int32)) &&& (255 : Int32))).toUInt32.toUInt16.toUInt32.toInt32)), .val (.int ((((XT.ushr i0 (16 : Int32)) &&& (255 : Int32))).toUInt32.toUInt16.toUInt32.toInt32)), .val (.ref b15), .val (.ref b17), .val (.ref b20), .val (.int ((i2).toUInt32.toUInt16.toUInt32.toInt32)), .val (.int r27_0), .val (.int ((i3 &&& (2147483647 : Int32)) % (1 : Int32))), .unset] [(.int (((i0 &&& (255 : Int32))).toUInt32.toUInt16.toUInt32.toInt32))])) t
        refine XS.goto X29.here X29.hx rfl (pc0 := 185) (pc' := 201) rfl (X29.cd at_185) (by decide) (by decide) ?_
        show Steps p.tables e below (T29.setTop (mkF m 201 #[.val (.int i0), .val (.int i1), .val (.int i2), .val (.int i3), .val (.int (1 : Int32)), .val (.int (((i0 &&& (255 : Int32))).toUInt32.toUInt16.toUInt32.toInt32)), .val (.int ((((XT.ushr i0 (8 : Int32)) &&& (255 : Int32))).toUInt32.toUInt16.toUInt32.toInt32)), .val (.int ((((XT.ushr i0 (16 : Int32)) &&& (255 : Int32))).toUInt32.toUInt16.toUInt32.toInt32)), .val (.ref b15), .val (.ref b17), .val (.ref b20), .val (.int ((i2).toUInt32.toUInt16.toUInt32.toInt32)), .val (.int r27_0), .val (.int ((i3 &&& (2147483647 : Int32)) % (1 : Int32))), .unset] [(.int (((i0 &&& (255 : Int32))).toUInt32.toUInt16.toUInt32.toInt32))])) t
        exact k
      · by_cases c31_1 : ((i3 &&& (2147483647 : Int32)) % (1 : Int32)) = (1 : Int32)
        · refine ⟨((((XT.ushr i0 (8 : Int32)) &&& (255 : Int32))).toUInt32.toUInt16.toUInt32.toInt32), Or.inr (Or.inl ⟨c31_0, c31_1, rfl⟩), fun t k => ?_⟩
          refine XS.ifYes X29.here X29.hx rfl (pc0 := 180) (pc' := 188) rfl (X29.cd at_180) rfl (XT.i0_ne_t c31_0) (by decide) (by decide) ?_
          show Steps p.tables e below (T29.setTop (mkF m 188 #[.val (.int i0), .val (.int i1), .val (.int i2), .val (.int i3), .val (.int (1 : Int32)), .val (.int (((i0 &&& (255 : Int32))).toUInt32.toUInt16.toUInt32.toInt32)), .val (.int ((((XT.ushr i0 (8 : Int32)) &&& (255 : Int32))).toUInt32.toUInt16.toUInt32.toInt32)), .val (.int ((((XT.ushr i0 (16 : Int32)) &&& (255 : Int32))).toUInt32.toUInt16.toUInt32.toInt32)), .val (.ref b15), .val (.ref b17), .val (.ref b20), .val (.int ((i2).toUInt32.toUInt16.toUInt32.toInt32)), .val (.int r27_0), .val (.int ((i3 &&& (2147483647 : Int32)) % (1 : Int32))), .unset] [])) t
          refine XS.iload X29.here X29.hx rfl (X29.cd at_188) rfl  ?_
          show Steps p.tables e below (T29.setTop (mkF m 190 #[.val (.int i0), .val (.int i1), .val (.int i2), .val (.int i3), .val (.int (1 : Int32)), .val (.int (((i0 &&& (255 : Int32))).toUInt32.toUInt16.toUInt32.toInt32)), .val (.int ((((XT.ushr i0 (8 : Int32)) &&& (255 : Int32))).toUInt32.toUInt16.toUInt32.toInt32)), .val (.int ((((XT.ushr i0 (16 : Int32)) &&& (255 : Int32))).toUInt32.toUInt16.toUInt32.toInt32)), .val (.ref b15), .val (.ref b17), .val (.ref b20), .val (.int ((i2).toUInt32.toUInt16.toUInt32.toInt32)), .val (.int r27_0), .val (.int ((i3 &&& (2147483647 : Int32)) % (1 : Int32))), .unset] [(.int ((i3 &&& (2147483647 : Int32)) % (1 : Int32)))])) t
          refine XS.iconst X29.here X29.hx rfl (X29.cd at_190)  ?_
          show Steps p.tables e below (T29.setTop (mkF m 191 #[.val (.int i0), .val (.int i1), .val (.int i2), .val (.int i3), .val (.int (1 : Int32)), .val (.int (((i0 &&& (255 : Int32))).toUInt32.toUInt16.toUInt32.toInt32)), .val (.int ((((XT.ushr i0 (8 : Int32)) &&& (255 : Int32))).toUInt32.toUInt16.toUInt32.toInt32)), .val (.int ((((XT.ushr i0 (16 : Int32)) &&& (255 : Int32))).toUInt32.toUInt16.toUInt32.toInt32)), .val (.ref b15), .val (.ref b17), .val (.ref b20), .val (.int ((i2).toUInt32.toUInt16.toUInt32.toInt32)), .val (.int r27_0), .val (.int ((i3 &&& (2147483647 : Int32)) % (1 : Int32))), .unset] [(.int (1 : Int32)), (.int ((i3 &&& (2147483647 : Int32)) % (1 : Int32)))])) t
          refine XS.icmpNo X29.here X29.hx rfl (X29.cd at_191) rfl (XT.ii_ne_f c31_1) ?_
          show Steps p.tables e below (T29.setTop (mkF m 194 #[.val (.int i0), .val (.int i1), .val (.int i2), .val (.int i3), .val (.int (1 : Int32)), .val (.int (((i0 &&& (255 : Int32))).toUInt32.toUInt16.toUInt32.toInt32)), .val (.int ((((XT.ushr i0 (8 : Int32)) &&& (255 : Int32))).toUInt32.toUInt16.toUInt32.toInt32)), .val (.int ((((XT.ushr i0 (16 : Int32)) &&& (255 : Int32))).toUInt32.toUInt16.toUInt32.toInt32)), .val (.ref b15), .val (.ref b17), .val (.ref b20), .val (.int ((i2).toUInt32.toUInt16.toUInt32.toInt32)), .val (.int r27_0), .val (.int ((i3 &&& (2147483647 : Int32)) % (1 : Int32))), .unset] [])) t
          refine XS.iload X29.here X29.hx rfl (X29.cd at_194) rfl  ?_
          show Steps p.tables e below (T29.setTop (mkF m 196 #[.val (.int i0), .val (.int i1), .val (.int i2), .val (.int i3), .val (.int (1 : Int32)), .val (.int (((i0 &&& (255 : Int32))).toUInt32.toUInt16.toUInt32.toInt32)), .val (.int ((((XT.ushr i0 (8 : Int32)) &&& (255 : Int32))).toUInt32.toUInt16.toUInt32.toInt32)), .val (.int ((((XT.ushr i0 (16 : Int32)) &&& (255 : Int32))).toUInt32.toUInt16.toUInt32.toInt32)), .val (.ref b15), .val (.ref b17), .val (.ref b20), .val (.int ((i2).toUInt32.toUInt16.toUInt32.toInt32)), .val (.int r27_0), .val (.int ((i3 &&& (2147483647 : Int32)) % (1 : Int32))), .unset] [(.int ((((XT.ushr i0 (8 : Int32)) &&& (255 : Int32))).toUInt32.toUInt16.toUInt32.toInt32))])) t
          refine XS.goto X29.here X29.hx rfl (pc0 := 196) (pc' := 201) rfl (X29.cd at_196) (by decide) (by decide) ?_
          show Steps p.tables e below (T29.setTop (mkF m 201 #[.val (.int i0), .val (.int i1), .val (.int i2), .val (.int i3), .val (.int (1 : Int32)), .val (.int (((i0 &&& (255 : Int32))).toUInt32.toUInt16.toUInt32.toInt32)), .val (.int ((((XT.ushr i0 (8 : Int32)) &&& (255 : Int32))).toUInt32.toUInt16.toUInt32.toInt32)), .val (.int ((((XT.ushr i0 (16 : Int32)) &&& (255 : Int32))).toUInt32.toUInt16.toUInt32.toInt32)), .val (.ref b15), .val (.ref b17), .val (.ref b20), .val (.int ((i2).toUInt32.toUInt16.toUInt32.toInt32)), .val (.int r27_0), .val (.int ((i3 &&& (2147483647 : Int32)) % (1 : Int32))), .unset] [(.int ((((XT.ushr i0 (8 : Int32)) &&& (255 : Int32))).toUInt32.toUInt16.toUInt32.toInt32))])) t
          exact k
        · refine ⟨((((XT.ushr i0 (16 : Int32)) &&& (255 : Int32))).toUInt32.toUInt16.toUInt32.toInt32), Or.inr (Or.inr (⟨c31_0, c31_1, rfl⟩)), fun t k => ?_⟩
          refine XS.ifYes X29.here X29.hx rfl (pc0 := 180) (pc' := 188) rfl (X29.cd at_180) rfl (XT.i0_ne_t c31_0) (by decide) (by decide) ?_
          show Steps p.tables e below (T29.setTop (mkF m 188 #[.val (.int i0), .val (.int i1), .val (.int i2), .val (.int i3), .val (.int (1 : Int32)), .val (.int (((i0 &&& (255 : Int32))).toUInt32.toUInt16.toUInt32.toInt32)), .val (.int ((((XT.ushr i0 (8 : Int32)) &&& (255 : Int32))).toUInt32.toUInt16.toUInt32.toInt32)), .val (.int ((((XT.ushr i0 (16 : Int32)) &&& (255 : Int32))).toUInt32.toUInt16.toUInt32.toInt32)), .val (.ref b15), .val (.ref b17), .val (.ref b20), .val (.int ((i2).toUInt32.toUInt16.toUInt32.toInt32)), .val (.int r27_0), .val (.int ((i3 &&& (2147483647 : Int32)) % (1 : Int32))), .unset] [])) t
          refine XS.iload X29.here X29.hx rfl (X29.cd at_188) rfl  ?_
          show Steps p.tables e below (T29.setTop (mkF m 190 #[.val (.int i0), .val (.int i1), .val (.int i2), .val (.int i3), .val (.int (1 : Int32)), .val (.int (((i0 &&& (255 : Int32))).toUInt32.toUInt16.toUInt32.toInt32)), .val (.int ((((XT.ushr i0 (8 : Int32)) &&& (255 : Int32))).toUInt32.toUInt16.toUInt32.toInt32)), .val (.int ((((XT.ushr i0 (16 : Int32)) &&& (255 : Int32))).toUInt32.toUInt16.toUInt32.toInt32)), .val (.ref b15), .val (.ref b17), .val (.ref b20), .val (.int ((i2).toUInt32.toUInt16.toUInt32.toInt32)), .val (.int r27_0), .val (.int ((i3 &&& (2147483647 : Int32)) % (1 : Int32))), .unset] [(.int ((i3 &&& (2147483647 : Int32)) % (1 : Int32)))])) t
          refine XS.iconst X29.here X29.hx rfl (X29.cd at_190)  ?_
          show Steps p.tables e below (T29.setTop (mkF m 191 #[.val (.int i0), .val (.int i1), .val (.int i2), .val (.int i3), .val (.int (1 : Int32)), .val (.int (((i0 &&& (255 : Int32))).toUInt32.toUInt16.toUInt32.toInt32)), .val (.int ((((XT.ushr i0 (8 : Int32)) &&& (255 : Int32))).toUInt32.toUInt16.toUInt32.toInt32)), .val (.int ((((XT.ushr i0 (16 : Int32)) &&& (255 : Int32))).toUInt32.toUInt16.toUInt32.toInt32)), .val (.ref b15), .val (.ref b17), .val (.ref b20), .val (.int ((i2).toUInt32.toUInt16.toUInt32.toInt32)), .val (.int r27_0), .val (.int ((i3 &&& (2147483647 : Int32)) % (1 : Int32))), .unset] [(.int (1 : Int32)), (.int ((i3 &&& (2147483647 : Int32)) % (1 : Int32)))])) t
          refine XS.icmpYes X29.here X29.hx rfl (pc0 := 191) (pc' := 199) rfl (X29.cd at_191) rfl (XT.ii_ne_t c31_1) (by decide) (by decide) ?_
          show Steps p.tables e below (T29.setTop (mkF m 199 #[.val (.int i0), .val (.int i1), .val (.int i2), .val (.int i3), .val (.int (1 : Int32)), .val (.int (((i0 &&& (255 : Int32))).toUInt32.toUInt16.toUInt32.toInt32)), .val (.int ((((XT.ushr i0 (8 : Int32)) &&& (255 : Int32))).toUInt32.toUInt16.toUInt32.toInt32)), .val (.int ((((XT.ushr i0 (16 : Int32)) &&& (255 : Int32))).toUInt32.toUInt16.toUInt32.toInt32)), .val (.ref b15), .val (.ref b17), .val (.ref b20), .val (.int ((i2).toUInt32.toUInt16.toUInt32.toInt32)), .val (.int r27_0), .val (.int ((i3 &&& (2147483647 : Int32)) % (1 : Int32))), .unset] [])) t
          refine XS.iload X29.here X29.hx rfl (X29.cd at_199) rfl  ?_
          show Steps p.tables e below (T29.setTop (mkF m 201 #[.val (.int i0), .val (.int i1), .val (.int i2), .val (.int i3), .val (.int (1 : Int32)), .val (.int (((i0 &&& (255 : Int32))).toUInt32.toUInt16.toUInt32.toInt32)), .val (.int ((((XT.ushr i0 (8 : Int32)) &&& (255 : Int32))).toUInt32.toUInt16.toUInt32.toInt32)), .val (.int ((((XT.ushr i0 (16 : Int32)) &&& (255 : Int32))).toUInt32.toUInt16.toUInt32.toInt32)), .val (.ref b15), .val (.ref b17), .val (.ref b20), .val (.int ((i2).toUInt32.toUInt16.toUInt32.toInt32)), .val (.int r27_0), .val (.int ((i3 &&& (2147483647 : Int32)) % (1 : Int32))), .unset] [(.int ((((XT.ushr i0 (16 : Int32)) &&& (255 : Int32))).toUInt32.toUInt16.toUInt32.toInt32))])) t
          exact k
    refine Go.by (fun _ k => st31 _ k) ?_
    show Go _ _ _ _ (T29.setTop (mkF m 201 #[.val (.int i0), .val (.int i1), .val (.int i2), .val (.int i3), .val (.int (1 : Int32)), .val (.int (((i0 &&& (255 : Int32))).toUInt32.toUInt16.toUInt32.toInt32)), .val (.int ((((XT.ushr i0 (8 : Int32)) &&& (255 : Int32))).toUInt32.toUInt16.toUInt32.toInt32)), .val (.int ((((XT.ushr i0 (16 : Int32)) &&& (255 : Int32))).toUInt32.toUInt16.toUInt32.toInt32)), .val (.ref b15), .val (.ref b17), .val (.ref b20), .val (.int ((i2).toUInt32.toUInt16.toUInt32.toInt32)), .val (.int r27_0), .val (.int ((i3 &&& (2147483647 : Int32)) % (1 : Int32))), .unset] [(.int r31_0)]))
    refine Go.by (fun _ k => XS.istore X29.here X29.hx rfl (X29.cd at_201) rfl (l' := #[.val (.int i0), .val (.int i1), .val (.int i2), .val (.int i3), .val (.int (1 : Int32)), .val (.int (((i0 &&& (255 : Int32))).toUInt32.toUInt16.toUInt32.toInt32)), .val (.int ((((XT.ushr i0 (8 : Int32)) &&& (255 : Int32))).toUInt32.toUInt16.toUInt32.toInt32)), .val (.int ((((XT.ushr i0 (16 : Int32)) &&& (255 : Int32))).toUInt32.toUInt16.toUInt32.toInt32)), .val (.ref b15), .val (.ref b17), .val (.ref b20), .val (.int ((i2).toUInt32.toUInt16.toUInt32.toInt32)), .val (.int r27_0), .val (.int ((i3 &&& (2147483647 : Int32)) % (1 : Int32))), .val (.int r31_0)]) rfl k) ?_
    show Go _ _ _ _ (T29.setTop (mkF m 203 #[.val (.int i0), .val (.int i1), .val (.int i2), .val (.int i3), .val (.int (1 : Int32)), .val (.int (((i0 &&& (255 : Int32))).toUInt32.toUInt16.toUInt32.toInt32)), .val (.int ((((XT.ushr i0 (8 : Int32)) &&& (255 : Int32))).toUInt32.toUInt16.toUInt32.toInt32)), .val (.int ((((XT.ushr i0 (16 : Int32)) &&& (255 : Int32))).toUInt32.toUInt16.toUInt32.toInt32)), .val (.ref b15), .val (.ref b17), .val (.ref b20), .val (.int ((i2).toUInt32.toUInt16.toUInt32.toInt32)), .val (.int r27_0), .val (.int ((i3 &&& (2147483647 : Int32)) % (1 : Int32))), .val (.int r31_0)] []))
    refine Go.by (fun _ k => XS.aload X29.here X29.hx rfl (X29.cd at_203) rfl rfl k) ?_
    show Go _ _ _ _ (T29.setTop (mkF m 205 #[.val (.int i0), .val (.int i1), .val (.int i2), .val (.int i3), .val (.int (1 : Int32)), .val (.int (((i0 &&& (255 : Int32))).toUInt32.toUInt16.toUInt32.toInt32)), .val (.int ((((XT.ushr i0 (8 : Int32)) &&& (255 : Int32))).toUInt32.toUInt16.toUInt32.toInt32)), .val (.int ((((XT.ushr i0 (16 : Int32)) &&& (255 : Int32))).toUInt32.toUInt16.toUInt32.toInt32)), .val (.ref b15), .val (.ref b17), .val (.ref b20), .val (.int ((i2).toUInt32.toUInt16.toUInt32.toInt32)), .val (.int r27_0), .val (.int ((i3 &&& (2147483647 : Int32)) % (1 : Int32))), .val (.int r31_0)] [(.ref b20)]))
    refine Go.by (fun _ k => XS.iload X29.here X29.hx rfl (X29.cd at_205) rfl  k) ?_
    show Go _ _ _ _ (T29.setTop (mkF m 207 #[.val (.int i0), .val (.int i1), .val (.int i2), .val (.int i3), .val (.int (1 : Int32)), .val (.int (((i0 &&& (255 : Int32))).toUInt32.toUInt16.toUInt32.toInt32)), .val (.int ((((XT.ushr i0 (8 : Int32)) &&& (255 : Int32))).toUInt32.toUInt16.toUInt32.toInt32)), .val (.int ((((XT.ushr i0 (16 : Int32)) &&& (255 : Int32))).toUInt32.toUInt16.toUInt32.toInt32)), .val (.ref b15), .val (.ref b17), .val (.ref b20), .val (.int ((i2).toUInt32.toUInt16.toUInt32.toInt32)), .val (.int r27_0), .val (.int ((i3 &&& (2147483647 : Int32)) % (1 : Int32))), .val (.int r31_0)] [(.int r31_0), (.ref b20)]))
    obtain ⟨_, T32, h32, X32, K32, ⟨r_32, rfl, rfl, p32_0⟩, st32⟩ := X29.viN (W := 0) (hw _ (List.mem_of_getElem? (i := 51) rfl)) (hw _ (List.mem_of_getElem? (i := 52) rfl)) (hw _ (List.mem_of_getElem? (i := 54) rfl)) (hw _ (List.mem_of_getElem? (i := 53) rfl)) (by decide) ((rm_has l Z a0 hw n0 b20 r31_0 b17 t_19 [(((i0 &&& (255 : Int32))).toUInt32.toUInt16.toUInt32.toInt32)] zc h26 X29.old P26_0 f28 Sc nc (all1 (c255 _) alln)).pay (hw _ (List.mem_of_getElem? (i := 55) rfl)) (hw _ (List.mem_of_getElem? (i := 32) rfl)) (by decide) (by decide)) all0 f30 (g := (mkF m 207 #[.val (.int i0), .val (.int i1), .val (.int i2), .val (.int i3), .val (.int (1 : Int32)), .val (.int (((i0 &&& (255 : Int32))).toUInt32.toUInt16.toUInt32.toInt32)), .val (.int ((((XT.ushr i0 (8 : Int32)) &&& (255 : Int32))).toUInt32.toUInt16.toUInt32.toInt32)), .val (.int ((((XT.ushr i0 (16 : Int32)) &&& (255 : Int32))).toUInt32.toUInt16.toUInt32.toInt32)), .val (.ref b15), .val (.ref b17), .val (.ref b20), .val (.int ((i2).toUInt32.toUInt16.toUInt32.toInt32)), .val (.int r27_0), .val (.int ((i3 &&& (2147483647 : Int32)) % (1 : Int32))), .val (.int r31_0)] [(.int r31_0), (.ref b20)])) rfl rfl (argsL := [(.int r31_0)]) (rest := []) (lenOf pd_10 rfl) rfl (by exact Nat.le_of_eq rfl) at_207 rfl (by decide) (by decide)
    refine Go.tr st32 ?_
    show Go _ _ _ _ (T32.setTop (mkF m 210 #[.val (.int i0), .val (.int i1), .val (.int i2), .val (.int i3), .val (.int (1 : Int32)), .val (.int (((i0 &&& (255 : Int32))).toUInt32.toUInt16.toUInt32.toInt32)), .val (.int ((((XT.ushr i0 (8 : Int32)) &&& (255 : Int32))).toUInt32.toUInt16.toUInt32.toInt32)), .val (.int ((((XT.ushr i0 (16 : Int32)) &&& (255 : Int32))).toUInt32.toUInt16.toUInt32.toInt32)), .val (.ref b15), .val (.ref b17), .val (.ref b20), .val (.int ((i2).toUInt32.toUInt16.toUInt32.toInt32)), .val (.int r27_0), .val (.int ((i3 &&& (2147483647 : Int32)) % (1 : Int32))), .val (.int r31_0)] [(.int r_32)]))
    have hm : r31_0 ∈ ([((i0 &&& (255 : Int32))).toUInt32.toUInt16.toUInt32.toInt32] : List Int32) := by
      have d0 : j = 0 ∨ j = 1 ∨ j = 2 := by omega
      rcases hr31 with ⟨_, q⟩ | ⟨q0, q1, q⟩ | ⟨q0, q1, q⟩
      · rw [q]; simp
      · rw [ej] at q0 q1; rcases d0 with rfl | rfl | rfl <;> first | exact absurd rfl q0 | exact absurd q1 (by decide) | (exfalso; omega) | (rw [q]; simp)
      · rw [ej] at q0 q1; rcases d0 with rfl | rfl | rfl <;> first | exact absurd rfl q0 | exact absurd rfl q1 | (exfalso; omega) | (rw [q]; simp)
    refine Go.by (fun _ k => XS.ifYes X32.here X32.hx rfl (pc0 := 210) (pc' := 215) rfl (X32.cd at_210) rfl (XT.i0_ne_t (fun z => z01_no p32_0 z hm)) (by decide) (by decide) k) ?_
    show Go _ _ _ _ (T32.setTop (mkF m 215 #[.val (.int i0), .val (.int i1), .val (.int i2), .val (.int i3), .val (.int (1 : Int32)), .val (.int (((i0 &&& (255 : Int32))).toUInt32.toUInt16.toUInt32.toInt32)), .val (.int ((((XT.ushr i0 (8 : Int32)) &&& (255 : Int32))).toUInt32.toUInt16.toUInt32.toInt32)), .val (.int ((((XT.ushr i0 (16 : Int32)) &&& (255 : Int32))).toUInt32.toUInt16.toUInt32.toInt32)), .val (.ref b15), .val (.ref b17), .val (.ref b20), .val (.int ((i2).toUInt32.toUInt16.toUInt32.toInt32)), .val (.int r27_0), .val (.int ((i3 &&& (2147483647 : Int32)) % (1 : Int32))), .val (.int r31_0)] []))
    refine Go.by (fun _ k => XS.iconst X32.here X32.hx rfl (X32.cd at_215)  k) ?_
    show Go _ _ _ _ (T32.setTop (mkF m 216 #[.val (.int i0), .val (.int i1), .val (.int i2), .val (.int i3), .val (.int (1 : Int32)), .val (.int (((i0 &&& (255 : Int32))).toUInt32.toUInt16.toUInt32.toInt32)), .val (.int ((((XT.ushr i0 (8 : Int32)) &&& (255 : Int32))).toUInt32.toUInt16.toUInt32.toInt32)), .val (.int ((((XT.ushr i0 (16 : Int32)) &&& (255 : Int32))).toUInt32.toUInt16.toUInt32.toInt32)), .val (.ref b15), .val (.ref b17), .val (.ref b20), .val (.int ((i2).toUInt32.toUInt16.toUInt32.toInt32)), .val (.int r27_0), .val (.int ((i3 &&& (2147483647 : Int32)) % (1 : Int32))), .val (.int r31_0)] [(.int (1 : Int32))]))
    exact X32.retN (by simp) rfl at_216 K0_h26 rfl (by decide) (by decide)
  · rw [hn]
    show Go _ _ _ _ (T0.setTop (mkF m 3 #[.val (.int i0), .val (.int i1), .val (.int i2), .val (.int i3), .unset, .unset, .unset, .unset, .unset, .unset, .unset, .unset, .unset, .unset, .unset] [(.int (2 : Int32))]))
    refine Go.by (fun _ k => XS.istore X0.here X0.hx rfl (X0.cd at_3) rfl (l' := #[.val (.int i0), .val (.int i1), .val (.int i2), .val (.int i3), .val (.int (2 : Int32)), .unset, .unset, .unset, .unset, .unset, .unset, .unset, .unset, .unset, .unset]) rfl k) ?_
    show Go _ _ _ _ (T0.setTop (mkF m 5 #[.val (.int i0), .val (.int i1), .val (.int i2), .val (.int i3), .val (.int (2 : Int32)), .unset, .unset, .unset, .unset, .unset, .unset, .unset, .unset, .unset, .unset] []))
    refine Go.by (fun _ k => XS.iloadN X0.here X0.hx rfl (X0.cd at_5) rfl  k) ?_
    show Go _ _ _ _ (T0.setTop (mkF m 6 #[.val (.int i0), .val (.int i1), .val (.int i2), .val (.int i3), .val (.int (2 : Int32)), .unset, .unset, .unset, .unset, .unset, .unset, .unset, .unset, .unset, .unset] [(.int i0)]))
    refine Go.by (fun _ k => XS.sipush X0.here X0.hx rfl (X0.cd at_6)  k) ?_
    show Go _ _ _ _ (T0.setTop (mkF m 9 #[.val (.int i0), .val (.int i1), .val (.int i2), .val (.int i3), .val (.int (2 : Int32)), .unset, .unset, .unset, .unset, .unset, .unset, .unset, .unset, .unset, .unset] [(.int (255 : Int32)), (.int i0)]))
    refine Go.by (fun _ k => XS.iand X0.here X0.hx rfl (X0.cd at_9) rfl k) ?_
    show Go _ _ _ _ (T0.setTop (mkF m 10 #[.val (.int i0), .val (.int i1), .val (.int i2), .val (.int i3), .val (.int (2 : Int32)), .unset, .unset, .unset, .unset, .unset, .unset, .unset, .unset, .unset, .unset] [(.int (i0 &&& (255 : Int32)))]))
    refine Go.by (fun _ k => XS.i2c X0.here X0.hx rfl (X0.cd at_10) rfl k) ?_
    show Go _ _ _ _ (T0.setTop (mkF m 11 #[.val (.int i0), .val (.int i1), .val (.int i2), .val (.int i3), .val (.int (2 : Int32)), .unset, .unset, .unset, .unset, .unset, .unset, .unset, .unset, .unset, .unset] [(.int (((i0 &&& (255 : Int32))).toUInt32.toUInt16.toUInt32.toInt32))]))
    refine Go.by (fun _ k => XS.istore X0.here X0.hx rfl (X0.cd at_11) rfl (l' := #[.val (.int i0), .val (.int i1), .val (.int i2), .val (.int i3), .val (.int (2 : Int32)), .val (.int (((i0 &&& (255 : Int32))).toUInt32.toUInt16.toUInt32.toInt32)), .unset, .unset, .unset, .unset, .unset, .unset, .unset, .unset, .unset]) rfl k) ?_
    show Go _ _ _ _ (T0.setTop (mkF m 13 #[.val (.int i0), .val (.int i1), .val (.int i2), .val (.int i3), .val (.int (2 : Int32)), .val (.int (((i0 &&& (255 : Int32))).toUInt32.toUInt16.toUInt32.toInt32)), .unset, .unset, .unset, .unset, .unset, .unset, .unset, .unset, .unset] []))
    refine Go.by (fun _ k => XS.iloadN X0.here X0.hx rfl (X0.cd at_13) rfl  k) ?_
    show Go _ _ _ _ (T0.setTop (mkF m 14 #[.val (.int i0), .val (.int i1), .val (.int i2), .val (.int i3), .val (.int (2 : Int32)), .val (.int (((i0 &&& (255 : Int32))).toUInt32.toUInt16.toUInt32.toInt32)), .unset, .unset, .unset, .unset, .unset, .unset, .unset, .unset, .unset] [(.int i0)]))
    refine Go.by (fun _ k => XS.bipush X0.here X0.hx rfl (X0.cd at_14)  k) ?_
    show Go _ _ _ _ (T0.setTop (mkF m 16 #[.val (.int i0), .val (.int i1), .val (.int i2), .val (.int i3), .val (.int (2 : Int32)), .val (.int (((i0 &&& (255 : Int32))).toUInt32.toUInt16.toUInt32.toInt32)), .unset, .unset, .unset, .unset, .unset, .unset, .unset, .unset, .unset] [(.int (8 : Int32)), (.int i0)]))
    refine Go.by (fun _ k => XS.iushr X0.here X0.hx rfl (X0.cd at_16) rfl k) ?_
    show Go _ _ _ _ (T0.setTop (mkF m 17 #[.val (.int i0), .val (.int i1), .val (.int i2), .val (.int i3), .val (.int (2 : Int32)), .val (.int (((i0 &&& (255 : Int32))).toUInt32.toUInt16.toUInt32.toInt32)), .unset, .unset, .unset, .unset, .unset, .unset, .unset, .unset, .unset] [(.int (XT.ushr i0 (8 : Int32)))]))
    refine Go.by (fun _ k => XS.sipush X0.here X0.hx rfl (X0.cd at_17)  k) ?_
    show Go _ _ _ _ (T0.setTop (mkF m 20 #[.val (.int i0), .val (.int i1), .val (.int i2), .val (.int i3), .val (.int (2 : Int32)), .val (.int (((i0 &&& (255 : Int32))).toUInt32.toUInt16.toUInt32.toInt32)), .unset, .unset, .unset, .unset, .unset, .unset, .unset, .unset, .unset] [(.int (255 : Int32)), (.int (XT.ushr i0 (8 : Int32)))]))
    refine Go.by (fun _ k => XS.iand X0.here X0.hx rfl (X0.cd at_20) rfl k) ?_
    show Go _ _ _ _ (T0.setTop (mkF m 21 #[.val (.int i0), .val (.int i1), .val (.int i2), .val (.int i3), .val (.int (2 : Int32)), .val (.int (((i0 &&& (255 : Int32))).toUInt32.toUInt16.toUInt32.toInt32)), .unset, .unset, .unset, .unset, .unset, .unset, .unset, .unset, .unset] [(.int ((XT.ushr i0 (8 : Int32)) &&& (255 : Int32)))]))
    refine Go.by (fun _ k => XS.i2c X0.here X0.hx rfl (X0.cd at_21) rfl k) ?_
    show Go _ _ _ _ (T0.setTop (mkF m 22 #[.val (.int i0), .val (.int i1), .val (.int i2), .val (.int i3), .val (.int (2 : Int32)), .val (.int (((i0 &&& (255 : Int32))).toUInt32.toUInt16.toUInt32.toInt32)), .unset, .unset, .unset, .unset, .unset, .unset, .unset, .unset, .unset] [(.int ((((XT.ushr i0 (8 : Int32)) &&& (255 : Int32))).toUInt32.toUInt16.toUInt32.toInt32))]))
    refine Go.by (fun _ k => XS.istore X0.here X0.hx rfl (X0.cd at_22) rfl (l' := #[.val (.int i0), .val (.int i1), .val (.int i2), .val (.int i3), .val (.int (2 : Int32)), .val (.int (((i0 &&& (255 : Int32))).toUInt32.toUInt16.toUInt32.toInt32)), .val (.int ((((XT.ushr i0 (8 : Int32)) &&& (255 : Int32))).toUInt32.toUInt16.toUInt32.toInt32)), .unset, .unset, .unset, .unset, .unset, .unset, .unset, .unset]) rfl k) ?_
    show Go _ _ _ _ (T0.setTop (mkF m 24 #[.val (.int i0), .val (.int i1), .val (.int i2), .val (.int i3), .val (.int (2 : Int32)), .val (.int (((i0 &&& (255 : Int32))).toUInt32.toUInt16.toUInt32.toInt32)), .val (.int ((((XT.ushr i0 (8 : Int32)) &&& (255 : Int32))).toUInt32.toUInt16.toUInt32.toInt32)), .unset, .unset, .unset, .unset, .unset, .unset, .unset, .unset] []))
    refine Go.by (fun _ k => XS.iloadN X0.here X0.hx rfl (X0.cd at_24) rfl  k) ?_
    show Go _ _ _ _ (T0.setTop (mkF m 25 #[.val (.int i0), .val (.int i1), .val (.int i2), .val (.int i3), .val (.int (2 : Int32)), .val (.int (((i0 &&& (255 : Int32))).toUInt32.toUInt16.toUInt32.toInt32)), .val (.int ((((XT.ushr i0 (8 : Int32)) &&& (255 : Int32))).toUInt32.toUInt16.toUInt32.toInt32)), .unset, .unset, .unset, .unset, .unset, .unset, .unset, .unset] [(.int i0)]))
    refine Go.by (fun _ k => XS.bipush X0.here X0.hx rfl (X0.cd at_25)  k) ?_
    show Go _ _ _ _ (T0.setTop (mkF m 27 #[.val (.int i0), .val (.int i1), .val (.int i2), .val (.int i3), .val (.int (2 : Int32)), .val (.int (((i0 &&& (255 : Int32))).toUInt32.toUInt16.toUInt32.toInt32)), .val (.int ((((XT.ushr i0 (8 : Int32)) &&& (255 : Int32))).toUInt32.toUInt16.toUInt32.toInt32)), .unset, .unset, .unset, .unset, .unset, .unset, .unset, .unset] [(.int (16 : Int32)), (.int i0)]))
    refine Go.by (fun _ k => XS.iushr X0.here X0.hx rfl (X0.cd at_27) rfl k) ?_
    show Go _ _ _ _ (T0.setTop (mkF m 28 #[.val (.int i0), .val (.int i1), .val (.int i2), .val (.int i3), .val (.int (2 : Int32)), .val (.int (((i0 &&& (255 : Int32))).toUInt32.toUInt16.toUInt32.toInt32)), .val (.int ((((XT.ushr i0 (8 : Int32)) &&& (255 : Int32))).toUInt32.toUInt16.toUInt32.toInt32)), .unset, .unset, .unset, .unset, .unset, .unset, .unset, .unset] [(.int (XT.ushr i0 (16 : Int32)))]))
    refine Go.by (fun _ k => XS.sipush X0.here X0.hx rfl (X0.cd at_28)  k) ?_
    show Go _ _ _ _ (T0.setTop (mkF m 31 #[.val (.int i0), .val (.int i1), .val (.int i2), .val (.int i3), .val (.int (2 : Int32)), .val (.int (((i0 &&& (255 : Int32))).toUInt32.toUInt16.toUInt32.toInt32)), .val (.int ((((XT.ushr i0 (8 : Int32)) &&& (255 : Int32))).toUInt32.toUInt16.toUInt32.toInt32)), .unset, .unset, .unset, .unset, .unset, .unset, .unset, .unset] [(.int (255 : Int32)), (.int (XT.ushr i0 (16 : Int32)))]))
    refine Go.by (fun _ k => XS.iand X0.here X0.hx rfl (X0.cd at_31) rfl k) ?_
    show Go _ _ _ _ (T0.setTop (mkF m 32 #[.val (.int i0), .val (.int i1), .val (.int i2), .val (.int i3), .val (.int (2 : Int32)), .val (.int (((i0 &&& (255 : Int32))).toUInt32.toUInt16.toUInt32.toInt32)), .val (.int ((((XT.ushr i0 (8 : Int32)) &&& (255 : Int32))).toUInt32.toUInt16.toUInt32.toInt32)), .unset, .unset, .unset, .unset, .unset, .unset, .unset, .unset] [(.int ((XT.ushr i0 (16 : Int32)) &&& (255 : Int32)))]))
    refine Go.by (fun _ k => XS.i2c X0.here X0.hx rfl (X0.cd at_32) rfl k) ?_
    show Go _ _ _ _ (T0.setTop (mkF m 33 #[.val (.int i0), .val (.int i1), .val (.int i2), .val (.int i3), .val (.int (2 : Int32)), .val (.int (((i0 &&& (255 : Int32))).toUInt32.toUInt16.toUInt32.toInt32)), .val (.int ((((XT.ushr i0 (8 : Int32)) &&& (255 : Int32))).toUInt32.toUInt16.toUInt32.toInt32)), .unset, .unset, .unset, .unset, .unset, .unset, .unset, .unset] [(.int ((((XT.ushr i0 (16 : Int32)) &&& (255 : Int32))).toUInt32.toUInt16.toUInt32.toInt32))]))
    refine Go.by (fun _ k => XS.istore X0.here X0.hx rfl (X0.cd at_33) rfl (l' := #[.val (.int i0), .val (.int i1), .val (.int i2), .val (.int i3), .val (.int (2 : Int32)), .val (.int (((i0 &&& (255 : Int32))).toUInt32.toUInt16.toUInt32.toInt32)), .val (.int ((((XT.ushr i0 (8 : Int32)) &&& (255 : Int32))).toUInt32.toUInt16.toUInt32.toInt32)), .val (.int ((((XT.ushr i0 (16 : Int32)) &&& (255 : Int32))).toUInt32.toUInt16.toUInt32.toInt32)), .unset, .unset, .unset, .unset, .unset, .unset, .unset]) rfl k) ?_
    show Go _ _ _ _ (T0.setTop (mkF m 35 #[.val (.int i0), .val (.int i1), .val (.int i2), .val (.int i3), .val (.int (2 : Int32)), .val (.int (((i0 &&& (255 : Int32))).toUInt32.toUInt16.toUInt32.toInt32)), .val (.int ((((XT.ushr i0 (8 : Int32)) &&& (255 : Int32))).toUInt32.toUInt16.toUInt32.toInt32)), .val (.int ((((XT.ushr i0 (16 : Int32)) &&& (255 : Int32))).toUInt32.toUInt16.toUInt32.toInt32)), .unset, .unset, .unset, .unset, .unset, .unset, .unset] []))
    refine Go.by (fun _ k => XS.iload X0.here X0.hx rfl (X0.cd at_35) rfl  k) ?_
    show Go _ _ _ _ (T0.setTop (mkF m 37 #[.val (.int i0), .val (.int i1), .val (.int i2), .val (.int i3), .val (.int (2 : Int32)), .val (.int (((i0 &&& (255 : Int32))).toUInt32.toUInt16.toUInt32.toInt32)), .val (.int ((((XT.ushr i0 (8 : Int32)) &&& (255 : Int32))).toUInt32.toUInt16.toUInt32.toInt32)), .val (.int ((((XT.ushr i0 (16 : Int32)) &&& (255 : Int32))).toUInt32.toUInt16.toUInt32.toInt32)), .unset, .unset, .unset, .unset, .unset, .unset, .unset] [(.int (2 : Int32))]))
    obtain ⟨T33, h33, b33, k33, g_b33, X33, E33, A33, st33⟩ := X0.newP (hw _ (List.mem_of_getElem? (i := 0) rfl)) (g := (mkF m 37 #[.val (.int i0), .val (.int i1), .val (.int i2), .val (.int i3), .val (.int (2 : Int32)), .val (.int (((i0 &&& (255 : Int32))).toUInt32.toUInt16.toUInt32.toInt32)), .val (.int ((((XT.ushr i0 (8 : Int32)) &&& (255 : Int32))).toUInt32.toUInt16.toUInt32.toInt32)), .val (.int ((((XT.ushr i0 (16 : Int32)) &&& (255 : Int32))).toUInt32.toUInt16.toUInt32.toInt32)), .unset, .unset, .unset, .unset, .unset, .unset, .unset] [(.int (2 : Int32))])) rfl at_37 rfl (by decide) (cap := 2) (by decide) (by decide) (by decide) (by decide) (vs := [(.int (0 : Int32)), (.int (0 : Int32))]) rfl
    refine Go.by st33 ?_
    have sz_b33 : h0.size ≤ b33 := Nat.le_trans X0.sz (Nat.le_of_eq g_b33.symm)
    have K0_h33 : Keep h0 h33 [] := (Keep.refl h0 []).ext E33
    have F33 : Arv Z h33 b33 k33 .char (2 : Int32) [(.int (0 : Int32)), (.int (0 : Int32))] (.int (0 : Int32)) := A33
    show Go _ _ _ _ (T33.setTop (mkF m 39 #[.val (.int i0), .val (.int i1), .val (.int i2), .val (.int i3), .val (.int (2 : Int32)), .val (.int (((i0 &&& (255 : Int32))).toUInt32.toUInt16.toUInt32.toInt32)), .val (.int ((((XT.ushr i0 (8 : Int32)) &&& (255 : Int32))).toUInt32.toUInt16.toUInt32.toInt32)), .val (.int ((((XT.ushr i0 (16 : Int32)) &&& (255 : Int32))).toUInt32.toUInt16.toUInt32.toInt32)), .unset, .unset, .unset, .unset, .unset, .unset, .unset] [(.ref b33)]))
    refine Go.by (fun _ k => XS.astore X33.here X33.hx rfl (X33.cd at_39) rfl rfl (l' := #[.val (.int i0), .val (.int i1), .val (.int i2), .val (.int i3), .val (.int (2 : Int32)), .val (.int (((i0 &&& (255 : Int32))).toUInt32.toUInt16.toUInt32.toInt32)), .val (.int ((((XT.ushr i0 (8 : Int32)) &&& (255 : Int32))).toUInt32.toUInt16.toUInt32.toInt32)), .val (.int ((((XT.ushr i0 (16 : Int32)) &&& (255 : Int32))).toUInt32.toUInt16.toUInt32.toInt32)), .val (.ref b33), .unset, .unset, .unset, .unset, .unset, .unset]) rfl k) ?_
    show Go _ _ _ _ (T33.setTop (mkF m 41 #[.val (.int i0), .val (.int i1), .val (.int i2), .val (.int i3), .val (.int (2 : Int32)), .val (.int (((i0 &&& (255 : Int32))).toUInt32.toUInt16.toUInt32.toInt32)), .val (.int ((((XT.ushr i0 (8 : Int32)) &&& (255 : Int32))).toUInt32.toUInt16.toUInt32.toInt32)), .val (.int ((((XT.ushr i0 (16 : Int32)) &&& (255 : Int32))).toUInt32.toUInt16.toUInt32.toInt32)), .val (.ref b33), .unset, .unset, .unset, .unset, .unset, .unset] []))
    refine Go.by (fun _ k => XS.iload X33.here X33.hx rfl (X33.cd at_41) rfl  k) ?_
    show Go _ _ _ _ (T33.setTop (mkF m 43 #[.val (.int i0), .val (.int i1), .val (.int i2), .val (.int i3), .val (.int (2 : Int32)), .val (.int (((i0 &&& (255 : Int32))).toUInt32.toUInt16.toUInt32.toInt32)), .val (.int ((((XT.ushr i0 (8 : Int32)) &&& (255 : Int32))).toUInt32.toUInt16.toUInt32.toInt32)), .val (.int ((((XT.ushr i0 (16 : Int32)) &&& (255 : Int32))).toUInt32.toUInt16.toUInt32.toInt32)), .val (.ref b33), .unset, .unset, .unset, .unset, .unset, .unset] [(.int (2 : Int32))]))
    refine Go.by (fun _ k => XS.ifNo X33.here X33.hx rfl (X33.cd at_43) rfl (XT.i0_le_f (by decide)) k) ?_
    show Go _ _ _ _ (T33.setTop (mkF m 46 #[.val (.int i0), .val (.int i1), .val (.int i2), .val (.int i3), .val (.int (2 : Int32)), .val (.int (((i0 &&& (255 : Int32))).toUInt32.toUInt16.toUInt32.toInt32)), .val (.int ((((XT.ushr i0 (8 : Int32)) &&& (255 : Int32))).toUInt32.toUInt16.toUInt32.toInt32)), .val (.int ((((XT.ushr i0 (16 : Int32)) &&& (255 : Int32))).toUInt32.toUInt16.toUInt32.toInt32)), .val (.ref b33), .unset, .unset, .unset, .unset, .unset, .unset] []))
    refine Go.by (fun _ k => XS.aload X33.here X33.hx rfl (X33.cd at_46) rfl rfl k) ?_
    show Go _ _ _ _ (T33.setTop (mkF m 48 #[.val (.int i0), .val (.int i1), .val (.int i2), .val (.int i3), .val (.int (2 : Int32)), .val (.int (((i0 &&& (255 : Int32))).toUInt32.toUInt16.toUInt32.toInt32)), .val (.int ((((XT.ushr i0 (8 : Int32)) &&& (255 : Int32))).toUInt32.toUInt16.toUInt32.toInt32)), .val (.int ((((XT.ushr i0 (16 : Int32)) &&& (255 : Int32))).toUInt32.toUInt16.toUInt32.toInt32)), .val (.ref b33), .unset, .unset, .unset, .unset, .unset, .unset] [(.ref b33)]))
    refine Go.by (fun _ k => XS.iconst X33.here X33.hx rfl (X33.cd at_48)  k) ?_
    show Go _ _ _ _ (T33.setTop (mkF m 49 #[.val (.int i0), .val (.int i1), .val (.int i2), .val (.int i3), .val (.int (2 : Int32)), .val (.int (((i0 &&& (255 : Int32))).toUInt32.toUInt16.toUInt32.toInt32)), .val (.int ((((XT.ushr i0 (8 : Int32)) &&& (255 : Int32))).toUInt32.toUInt16.toUInt32.toInt32)), .val (.int ((((XT.ushr i0 (16 : Int32)) &&& (255 : Int32))).toUInt32.toUInt16.toUInt32.toInt32)), .val (.ref b33), .unset, .unset, .unset, .unset, .unset, .unset] [(.int (0 : Int32)), (.ref b33)]))
    refine Go.by (fun _ k => XS.iload X33.here X33.hx rfl (X33.cd at_49) rfl  k) ?_
    show Go _ _ _ _ (T33.setTop (mkF m 51 #[.val (.int i0), .val (.int i1), .val (.int i2), .val (.int i3), .val (.int (2 : Int32)), .val (.int (((i0 &&& (255 : Int32))).toUInt32.toUInt16.toUInt32.toInt32)), .val (.int ((((XT.ushr i0 (8 : Int32)) &&& (255 : Int32))).toUInt32.toUInt16.toUInt32.toInt32)), .val (.int ((((XT.ushr i0 (16 : Int32)) &&& (255 : Int32))).toUInt32.toUInt16.toUInt32.toInt32)), .val (.ref b33), .unset, .unset, .unset, .unset, .unset, .unset] [(.int (((i0 &&& (255 : Int32))).toUInt32.toUInt16.toUInt32.toInt32)), (.int (0 : Int32)), (.ref b33)]))
    obtain ⟨T34, h34, X34, W34, A34, st34⟩ := X33.stC (x' := (((i0 &&& (255 : Int32))).toUInt32.toUInt16.toUInt32.toInt32)) F33 (.head _) ⟨by decide, by decide⟩ (i := 0) rfl (Nat.le_of_ble_eq_true rfl) (nar_i2c _) (vs' := [(.int (((i0 &&& (255 : Int32))).toUInt32.toUInt16.toUInt32.toInt32)), (.int (0 : Int32))]) rfl (g := (mkF m 51 #[.val (.int i0), .val (.int i1), .val (.int i2), .val (.int i3), .val (.int (2 : Int32)), .val (.int (((i0 &&& (255 : Int32))).toUInt32.toUInt16.toUInt32.toInt32)), .val (.int ((((XT.ushr i0 (8 : Int32)) &&& (255 : Int32))).toUInt32.toUInt16.toUInt32.toInt32)), .val (.int ((((XT.ushr i0 (16 : Int32)) &&& (255 : Int32))).toUInt32.toUInt16.toUInt32.toInt32)), .val (.ref b33), .unset, .unset, .unset, .unset, .unset, .unset] [(.int (((i0 &&& (255 : Int32))).toUInt32.toUInt16.toUInt32.toInt32)), (.int (0 : Int32)), (.ref b33)])) rfl rfl at_51
    refine Go.by st34 ?_
    have K0_h34 : Keep h0 h34 [] := K0_h33.trans W34 (allS (Or.inr sz_b33) all0)
    show Go _ _ _ _ (T34.setTop (mkF m 52 #[.val (.int i0), .val (.int i1), .val (.int i2), .val (.int i3), .val (.int (2 : Int32)), .val (.int (((i0 &&& (255 : Int32))).toUInt32.toUInt16.toUInt32.toInt32)), .val (.int ((((XT.ushr i0 (8 : Int32)) &&& (255 : Int32))).toUInt32.toUInt16.toUInt32.toInt32)), .val (.int ((((XT.ushr i0 (16 : Int32)) &&& (255 : Int32))).toUInt32.toUInt16.toUInt32.toInt32)), .val (.ref b33), .unset, .unset, .unset, .unset, .unset, .unset] []))
    refine Go.by (fun _ k => XS.iload X34.here X34.hx rfl (X34.cd at_52) rfl  k) ?_
    show Go _ _ _ _ (T34.setTop (mkF m 54 #[.val (.int i0), .val (.int i1), .val (.int i2), .val (.int i3), .val (.int (2 : Int32)), .val (.int (((i0 &&& (255 : Int32))).toUInt32.toUInt16.toUInt32.toInt32)), .val (.int ((((XT.ushr i0 (8 : Int32)) &&& (255 : Int32))).toUInt32.toUInt16.toUInt32.toInt32)), .val (.int ((((XT.ushr i0 (16 : Int32)) &&& (255 : Int32))).toUInt32.toUInt16.toUInt32.toInt32)), .val (.ref b33), .unset, .unset, .unset, .unset, .unset, .unset] [(.int (2 : Int32))]))
    refine Go.by (fun _ k => XS.iconst X34.here X34.hx rfl (X34.cd at_54)  k) ?_
    show Go _ _ _ _ (T34.setTop (mkF m 55 #[.val (.int i0), .val (.int i1), .val (.int i2), .val (.int i3), .val (.int (2 : Int32)), .val (.int (((i0 &&& (255 : Int32))).toUInt32.toUInt16.toUInt32.toInt32)), .val (.int ((((XT.ushr i0 (8 : Int32)) &&& (255 : Int32))).toUInt32.toUInt16.toUInt32.toInt32)), .val (.int ((((XT.ushr i0 (16 : Int32)) &&& (255 : Int32))).toUInt32.toUInt16.toUInt32.toInt32)), .val (.ref b33), .unset, .unset, .unset, .unset, .unset, .unset] [(.int (1 : Int32)), (.int (2 : Int32))]))
    refine Go.by (fun _ k => XS.icmpNo X34.here X34.hx rfl (X34.cd at_55) rfl (XT.ii_le_f (by decide)) k) ?_
    show Go _ _ _ _ (T34.setTop (mkF m 58 #[.val (.int i0), .val (.int i1), .val (.int i2), .val (.int i3), .val (.int (2 : Int32)), .val (.int (((i0 &&& (255 : Int32))).toUInt32.toUInt16.toUInt32.toInt32)), .val (.int ((((XT.ushr i0 (8 : Int32)) &&& (255 : Int32))).toUInt32.toUInt16.toUInt32.toInt32)), .val (.int ((((XT.ushr i0 (16 : Int32)) &&& (255 : Int32))).toUInt32.toUInt16.toUInt32.toInt32)), .val (.ref b33), .unset, .unset, .unset, .unset, .unset, .unset] []))
    refine Go.by (fun _ k => XS.aload X34.here X34.hx rfl (X34.cd at_58) rfl rfl k) ?_
    show Go _ _ _ _ (T34.setTop (mkF m 60 #[.val (.int i0), .val (.int i1), .val (.int i2), .val (.int i3), .val (.int (2 : Int32)), .val (.int (((i0 &&& (255 : Int32))).toUInt32.toUInt16.toUInt32.toInt32)), .val (.int ((((XT.ushr i0 (8 : Int32)) &&& (255 : Int32))).toUInt32.toUInt16.toUInt32.toInt32)), .val (.int ((((XT.ushr i0 (16 : Int32)) &&& (255 : Int32))).toUInt32.toUInt16.toUInt32.toInt32)), .val (.ref b33), .unset, .unset, .unset, .unset, .unset, .unset] [(.ref b33)]))
    refine Go.by (fun _ k => XS.iconst X34.here X34.hx rfl (X34.cd at_60)  k) ?_
    show Go _ _ _ _ (T34.setTop (mkF m 61 #[.val (.int i0), .val (.int i1), .val (.int i2), .val (.int i3), .val (.int (2 : Int32)), .val (.int (((i0 &&& (255 : Int32))).toUInt32.toUInt16.toUInt32.toInt32)), .val (.int ((((XT.ushr i0 (8 : Int32)) &&& (255 : Int32))).toUInt32.toUInt16.toUInt32.toInt32)), .val (.int ((((XT.ushr i0 (16 : Int32)) &&& (255 : Int32))).toUInt32.toUInt16.toUInt32.toInt32)), .val (.ref b33), .unset, .unset, .unset, .unset, .unset, .unset] [(.int (1 : Int32)), (.ref b33)]))
    refine Go.by (fun _ k => XS.iload X34.here X34.hx rfl (X34.cd at_61) rfl  k) ?_
    show Go _ _ _ _ (T34.setTop (mkF m 63 #[.val (.int i0), .val (.int i1), .val (.int i2), .val (.int i3), .val (.int (2 : Int32)), .val (.int (((i0 &&& (255 : Int32))).toUInt32.toUInt16.toUInt32.toInt32)), .val (.int ((((XT.ushr i0 (8 : Int32)) &&& (255 : Int32))).toUInt32.toUInt16.toUInt32.toInt32)), .val (.int ((((XT.ushr i0 (16 : Int32)) &&& (255 : Int32))).toUInt32.toUInt16.toUInt32.toInt32)), .val (.ref b33), .unset, .unset, .unset, .unset, .unset, .unset] [(.int ((((XT.ushr i0 (8 : Int32)) &&& (255 : Int32))).toUInt32.toUInt16.toUInt32.toInt32)), (.int (1 : Int32)), (.ref b33)]))
    obtain ⟨T35, h35, X35, W35, A35, st35⟩ := X34.stC (x' := ((((XT.ushr i0 (8 : Int32)) &&& (255 : Int32))).toUInt32.toUInt16.toUInt32.toInt32)) A34 (.head _) ⟨by decide, by decide⟩ (i := 1) rfl (Nat.le_of_ble_eq_true rfl) (nar_i2c _) (vs' := [(.int (((i0 &&& (255 : Int32))).toUInt32.toUInt16.toUInt32.toInt32)), (.int ((((XT.ushr i0 (8 : Int32)) &&& (255 : Int32))).toUInt32.toUInt16.toUInt32.toInt32))]) rfl (g := (mkF m 63 #[.val (.int i0), .val (.int i1), .val (.int i2), .val (.int i3), .val (.int (2 : Int32)), .val (.int (((i0 &&& (255 : Int32))).toUInt32.toUInt16.toUInt32.toInt32)), .val (.int ((((XT.ushr i0 (8 : Int32)) &&& (255 : Int32))).toUInt32.toUInt16.toUInt32.toInt32)), .val (.int ((((XT.ushr i0 (16 : Int32)) &&& (255 : Int32))).toUInt32.toUInt16.toUInt32.toInt32)), .val (.ref b33), .unset, .unset, .unset, .unset, .unset, .unset] [(.int ((((XT.ushr i0 (8 : Int32)) &&& (255 : Int32))).toUInt32.toUInt16.toUInt32.toInt32)), (.int (1 : Int32)), (.ref b33)])) rfl rfl at_63
    refine Go.by st35 ?_
    have K0_h35 : Keep h0 h35 [] := K0_h34.trans W35 (allS (Or.inr sz_b33) all0)
    show Go _ _ _ _ (T35.setTop (mkF m 64 #[.val (.int i0), .val (.int i1), .val (.int i2), .val (.int i3), .val (.int (2 : Int32)), .val (.int (((i0 &&& (255 : Int32))).toUInt32.toUInt16.toUInt32.toInt32)), .val (.int ((((XT.ushr i0 (8 : Int32)) &&& (255 : Int32))).toUInt32.toUInt16.toUInt32.toInt32)), .val (.int ((((XT.ushr i0 (16 : Int32)) &&& (255 : Int32))).toUInt32.toUInt16.toUInt32.toInt32)), .val (.ref b33), .unset, .unset, .unset, .unset, .unset, .unset] []))
    refine Go.by (fun _ k => XS.iload X35.here X35.hx rfl (X35.cd at_64) rfl  k) ?_
    show Go _ _ _ _ (T35.setTop (mkF m 66 #[.val (.int i0), .val (.int i1), .val (.int i2), .val (.int i3), .val (.int (2 : Int32)), .val (.int (((i0 &&& (255 : Int32))).toUInt32.toUInt16.toUInt32.toInt32)), .val (.int ((((XT.ushr i0 (8 : Int32)) &&& (255 : Int32))).toUInt32.toUInt16.toUInt32.toInt32)), .val (.int ((((XT.ushr i0 (16 : Int32)) &&& (255 : Int32))).toUInt32.toUInt16.toUInt32.toInt32)), .val (.ref b33), .unset, .unset, .unset, .unset, .unset, .unset] [(.int (2 : Int32))]))
    refine Go.by (fun _ k => XS.iconst X35.here X35.hx rfl (X35.cd at_66)  k) ?_
    show Go _ _ _ _ (T35.setTop (mkF m 67 #[.val (.int i0), .val (.int i1), .val (.int i2), .val (.int i3), .val (.int (2 : Int32)), .val (.int (((i0 &&& (255 : Int32))).toUInt32.toUInt16.toUInt32.toInt32)), .val (.int ((((XT.ushr i0 (8 : Int32)) &&& (255 : Int32))).toUInt32.toUInt16.toUInt32.toInt32)), .val (.int ((((XT.ushr i0 (16 : Int32)) &&& (255 : Int32))).toUInt32.toUInt16.toUInt32.toInt32)), .val (.ref b33), .unset, .unset, .unset, .unset, .unset, .unset] [(.int (2 : Int32)), (.int (2 : Int32))]))
    refine Go.by (fun _ k => XS.icmpYes X35.here X35.hx rfl (pc0 := 67) (pc' := 76) rfl (X35.cd at_67) rfl (XT.ii_le_t (by decide)) (by decide) (by decide) k) ?_
    show Go _ _ _ _ (T35.setTop (mkF m 76 #[.val (.int i0), .val (.int i1), .val (.int i2), .val (.int i3), .val (.int (2 : Int32)), .val (.int (((i0 &&& (255 : Int32))).toUInt32.toUInt16.toUInt32.toInt32)), .val (.int ((((XT.ushr i0 (8 : Int32)) &&& (255 : Int32))).toUInt32.toUInt16.toUInt32.toInt32)), .val (.int ((((XT.ushr i0 (16 : Int32)) &&& (255 : Int32))).toUInt32.toUInt16.toUInt32.toInt32)), .val (.ref b33), .unset, .unset, .unset, .unset, .unset, .unset] []))
    have lt_b33_36 := (X35.lt (.head _))
    obtain ⟨T36, h36, b36, g_b36, X36, E36, A36, D36, st36⟩ := X35.new (hw _ (List.mem_of_getElem? (i := 1) rfl)) (hw _ (List.mem_of_getElem? (i := 2) rfl)) (hw _ (List.mem_of_getElem? (i := 3) rfl)) (g := (mkF m 76 #[.val (.int i0), .val (.int i1), .val (.int i2), .val (.int i3), .val (.int (2 : Int32)), .val (.int (((i0 &&& (255 : Int32))).toUInt32.toUInt16.toUInt32.toInt32)), .val (.int ((((XT.ushr i0 (8 : Int32)) &&& (255 : Int32))).toUInt32.toUInt16.toUInt32.toInt32)), .val (.int ((((XT.ushr i0 (16 : Int32)) &&& (255 : Int32))).toUInt32.toUInt16.toUInt32.toInt32)), .val (.ref b33), .unset, .unset, .unset, .unset, .unset, .unset] [])) rfl at_76 (by decide) (by decide)
    refine Go.by st36 ?_
    have ne_b33_b36 : b33 ≠ b36 := ne_new lt_b33_36 g_b36
    have sz_b36 : h0.size ≤ b36 := Nat.le_trans X35.sz (Nat.le_of_eq g_b36.symm)
    have K0_h36 : Keep h0 h36 [] := K0_h35.ext E36
    have F36_coder : Fld Z h36 b36 "java/lang/String" "coder" "B" (.int (0 : Int32)) := D36 (Or.inr (hw _ (List.mem_of_getElem? (i := 27) rfl))) (ty := .byte) (by decide)
    have F36_value : Fld Z h36 b36 "java/lang/String" "value" "[B" .null := D36 (Or.inr (hw _ (List.mem_of_getElem? (i := 29) rfl))) (ty := (.array .byte)) (by decide)
    show Go _ _ _ _ (T36.setTop (mkF m 79 #[.val (.int i0), .val (.int i1), .val (.int i2), .val (.int i3), .val (.int (2 : Int32)), .val (.int (((i0 &&& (255 : Int32))).toUInt32.toUInt16.toUInt32.toInt32)), .val (.int ((((XT.ushr i0 (8 : Int32)) &&& (255 : Int32))).toUInt32.toUInt16.toUInt32.toInt32)), .val (.int ((((XT.ushr i0 (16 : Int32)) &&& (255 : Int32))).toUInt32.toUInt16.toUInt32.toInt32)), .val (.ref b33), .unset, .unset, .unset, .unset, .unset, .unset] [(.ref b36)]))
    refine Go.by (fun _ k => XS.dup X36.here X36.hx rfl (X36.cd at_79) rfl rfl k) ?_
    show Go _ _ _ _ (T36.setTop (mkF m 80 #[.val (.int i0), .val (.int i1), .val (.int i2), .val (.int i3), .val (.int (2 : Int32)), .val (.int (((i0 &&& (255 : Int32))).toUInt32.toUInt16.toUInt32.toInt32)), .val (.int ((((XT.ushr i0 (8 : Int32)) &&& (255 : Int32))).toUInt32.toUInt16.toUInt32.toInt32)), .val (.int ((((XT.ushr i0 (16 : Int32)) &&& (255 : Int32))).toUInt32.toUInt16.toUInt32.toInt32)), .val (.ref b33), .unset, .unset, .unset, .unset, .unset, .unset] [(.ref b36), (.ref b36)]))
    refine Go.by (fun _ k => XS.aload X36.here X36.hx rfl (X36.cd at_80) rfl rfl k) ?_
    show Go _ _ _ _ (T36.setTop (mkF m 82 #[.val (.int i0), .val (.int i1), .val (.int i2), .val (.int i3), .val (.int (2 : Int32)), .val (.int (((i0 &&& (255 : Int32))).toUInt32.toUInt16.toUInt32.toInt32)), .val (.int ((((XT.ushr i0 (8 : Int32)) &&& (255 : Int32))).toUInt32.toUInt16.toUInt32.toInt32)), .val (.int ((((XT.ushr i0 (16 : Int32)) &&& (255 : Int32))).toUInt32.toUInt16.toUInt32.toInt32)), .val (.ref b33), .unset, .unset, .unset, .unset, .unset, .unset] [(.ref b33), (.ref b36), (.ref b36)]))
    have f37 : Arv Z h36 b33 k33 .char (2 : Int32) [(.int (((i0 &&& (255 : Int32))).toUInt32.toUInt16.toUInt32.toInt32)), (.int ((((XT.ushr i0 (8 : Int32)) &&& (255 : Int32))).toUInt32.toUInt16.toUInt32.toInt32))] (.int (0 : Int32)) := A35.ext E36
    have lt_b33_38 := (X36.lt (.tail _ (.head _)))
    have lt_b36_38 := (X36.lt (.head _))
    obtain ⟨_, T38, h38, X38, K38, ⟨t_38, rfl, fr_t_38, fl_t_38, P38_0⟩, st38⟩ := X36.spN (W := 1) rfl (hw _ (List.mem_of_getElem? (i := 4) rfl)) (hw _ (List.mem_of_getElem? (i := 5) rfl)) (hw _ (List.mem_of_getElem? (i := 6) rfl)) (by decide) (payNew (fun d hd => hw d ((by decide +kernel : ∀ d ∈ StrChars.Road.words, d ∈ tables_1) d hd)) (hw _ (List.mem_of_getElem? (i := 2) rfl)) (cs := [(((i0 &&& (255 : Int32))).toUInt32.toUInt16.toUInt32.toInt32), ((((XT.ushr i0 (8 : Int32)) &&& (255 : Int32))).toUInt32.toUInt16.toUInt32.toInt32)]) (n := 2) X36.old (X36.ge (.head _)) A36 F36_value F36_coder f37 Sc nc rfl rfl (by decide) (by decide) (all1 (c255 _) (all1 (c255 _) alln)) (by decide) (by decide)) (allS (.head _) all0) (g := (mkF m 82 #[.val (.int i0), .val (.int i1), .val (.int i2), .val (.int i3), .val (.int (2 : Int32)), .val (.int (((i0 &&& (255 : Int32))).toUInt32.toUInt16.toUInt32.toInt32)), .val (.int ((((XT.ushr i0 (8 : Int32)) &&& (255 : Int32))).toUInt32.toUInt16.toUInt32.toInt32)), .val (.int ((((XT.ushr i0 (16 : Int32)) &&& (255 : Int32))).toUInt32.toUInt16.toUInt32.toInt32)), .val (.ref b33), .unset, .unset, .unset, .unset, .unset, .unset] [(.ref b33), (.ref b36), (.ref b36)])) rfl rfl (a := b36) (argsL := [(.ref b33)]) (rest := [(.ref b36)]) (lenOf pd_8 rfl) rfl (by exact Nat.le_of_eq rfl) at_82 rfl (by decide) (by decide)
    refine Go.tr st38 ?_
    have K0_h38 : Keep h0 h38 [] := K0_h36.trans K38 (allS (Or.inr sz_b36) all0)
    have ne_b33_t_38 : b33 ≠ t_38 := ne_ge lt_b33_38 fr_t_38
    have ne_b36_t_38 : b36 ≠ t_38 := ne_ge lt_b36_38 fr_t_38
    have sz_t_38 : h0.size ≤ t_38 := Nat.le_trans X36.sz fr_t_38
    show Go _ _ _ _ (T38.setTop (mkF m 85 #[.val (.int i0), .val (.int i1), .val (.int i2), .val (.int i3), .val (.int (2 : Int32)), .val (.int (((i0 &&& (255 : Int32))).toUInt32.toUInt16.toUInt32.toInt32)), .val (.int ((((XT.ushr i0 (8 : Int32)) &&& (255 : Int32))).toUInt32.toUInt16.toUInt32.toInt32)), .val (.int ((((XT.ushr i0 (16 : Int32)) &&& (255 : Int32))).toUInt32.toUInt16.toUInt32.toInt32)), .val (.ref b33), .unset, .unset, .unset, .unset, .unset, .unset] [(.ref b36)]))
    refine Go.by (fun _ k => XS.astore X38.here X38.hx rfl (X38.cd at_85) rfl rfl (l' := #[.val (.int i0), .val (.int i1), .val (.int i2), .val (.int i3), .val (.int (2 : Int32)), .val (.int (((i0 &&& (255 : Int32))).toUInt32.toUInt16.toUInt32.toInt32)), .val (.int ((((XT.ushr i0 (8 : Int32)) &&& (255 : Int32))).toUInt32.toUInt16.toUInt32.toInt32)), .val (.int ((((XT.ushr i0 (16 : Int32)) &&& (255 : Int32))).toUInt32.toUInt16.toUInt32.toInt32)), .val (.ref b33), .val (.ref b36), .unset, .unset, .unset, .unset, .unset]) rfl k) ?_
    show Go _ _ _ _ (T38.setTop (mkF m 87 #[.val (.int i0), .val (.int i1), .val (.int i2), .val (.int i3), .val (.int (2 : Int32)), .val (.int (((i0 &&& (255 : Int32))).toUInt32.toUInt16.toUInt32.toInt32)), .val (.int ((((XT.ushr i0 (8 : Int32)) &&& (255 : Int32))).toUInt32.toUInt16.toUInt32.toInt32)), .val (.int ((((XT.ushr i0 (16 : Int32)) &&& (255 : Int32))).toUInt32.toUInt16.toUInt32.toInt32)), .val (.ref b33), .val (.ref b36), .unset, .unset, .unset, .unset, .unset] []))
    have lt_b33_39 := (X38.lt (.tail _ (.head _)))
    have lt_b36_39 := (X38.lt (.head _))
    have lt_t_38_39 := P38_0.ltT
    obtain ⟨T39, h39, b39, g_b39, X39, E39, A39, D39, st39⟩ := X38.new (hw _ (List.mem_of_getElem? (i := 30) rfl)) (hw _ (List.mem_of_getElem? (i := 31) rfl)) (hw _ (List.mem_of_getElem? (i := 32) rfl)) (g := (mkF m 87 #[.val (.int i0), .val (.int i1), .val (.int i2), .val (.int i3), .val (.int (2 : Int32)), .val (.int (((i0 &&& (255 : Int32))).toUInt32.toUInt16.toUInt32.toInt32)), .val (.int ((((XT.ushr i0 (8 : Int32)) &&& (255 : Int32))).toUInt32.toUInt16.toUInt32.toInt32)), .val (.int ((((XT.ushr i0 (16 : Int32)) &&& (255 : Int32))).toUInt32.toUInt16.toUInt32.toInt32)), .val (.ref b33), .val (.ref b36), .unset, .unset, .unset, .unset, .unset] [])) rfl at_87 (by decide) (by decide)
    refine Go.by st39 ?_
    have ne_b33_b39 : b33 ≠ b39 := ne_new lt_b33_39 g_b39
    have ne_b36_b39 : b36 ≠ b39 := ne_new lt_b36_39 g_b39
    have ne_t_38_b39 : t_38 ≠ b39 := ne_new lt_t_38_39 g_b39
    have sz_b39 : h0.size ≤ b39 := Nat.le_trans X38.sz (Nat.le_of_eq g_b39.symm)
    have K0_h39 : Keep h0 h39 [] := K0_h38.ext E39
    have F39_regex : Fld Z h39 b39 "com/example/rivulet/rivulet/RegexLiteral" "regex" "Ljava/lang/String;" .null := D39 (Or.inr (hw _ (List.mem_of_getElem? (i := 46) rfl))) (ty := (.object "java/lang/String")) (by decide)
    have F39_replacement : Fld Z h39 b39 "com/example/rivulet/rivulet/RegexLiteral" "replacement" "Lcom/example/rivulet/rivulet/Replacement;" .null := D39 (Or.inr (hw _ (List.mem_of_getElem? (i := 48) rfl))) (ty := (.object "com/example/rivulet/rivulet/Replacement")) (by decide)
    have F39_modifiers : Fld Z h39 b39 "com/example/rivulet/rivulet/RegexLiteral" "modifiers" "Ljava/lang/String;" .null := D39 (Or.inr (hw _ (List.mem_of_getElem? (i := 50) rfl))) (ty := (.object "java/lang/String")) (by decide)
    show Go _ _ _ _ (T39.setTop (mkF m 90 #[.val (.int i0), .val (.int i1), .val (.int i2), .val (.int i3), .val (.int (2 : Int32)), .val (.int (((i0 &&& (255 : Int32))).toUInt32.toUInt16.toUInt32.toInt32)), .val (.int ((((XT.ushr i0 (8 : Int32)) &&& (255 : Int32))).toUInt32.toUInt16.toUInt32.toInt32)), .val (.int ((((XT.ushr i0 (16 : Int32)) &&& (255 : Int32))).toUInt32.toUInt16.toUInt32.toInt32)), .val (.ref b33), .val (.ref b36), .unset, .unset, .unset, .unset, .unset] [(.ref b39)]))
    refine Go.by (fun _ k => XS.dup X39.here X39.hx rfl (X39.cd at_90) rfl rfl k) ?_
    show Go _ _ _ _ (T39.setTop (mkF m 91 #[.val (.int i0), .val (.int i1), .val (.int i2), .val (.int i3), .val (.int (2 : Int32)), .val (.int (((i0 &&& (255 : Int32))).toUInt32.toUInt16.toUInt32.toInt32)), .val (.int ((((XT.ushr i0 (8 : Int32)) &&& (255 : Int32))).toUInt32.toUInt16.toUInt32.toInt32)), .val (.int ((((XT.ushr i0 (16 : Int32)) &&& (255 : Int32))).toUInt32.toUInt16.toUInt32.toInt32)), .val (.ref b33), .val (.ref b36), .unset, .unset, .unset, .unset, .unset] [(.ref b39), (.ref b39)]))
    obtain ⟨b40, T40, h40, X40, E40, st40⟩ := X39.ldcS (hw _ (List.mem_of_getElem? (i := 33) rfl)) (own_SA hw) (g := (mkF m 91 #[.val (.int i0), .val (.int i1), .val (.int i2), .val (.int i3), .val (.int (2 : Int32)), .val (.int (((i0 &&& (255 : Int32))).toUInt32.toUInt16.toUInt32.toInt32)), .val (.int ((((XT.ushr i0 (8 : Int32)) &&& (255 : Int32))).toUInt32.toUInt16.toUInt32.toInt32)), .val (.int ((((XT.ushr i0 (16 : Int32)) &&& (255 : Int32))).toUInt32.toUInt16.toUInt32.toInt32)), .val (.ref b33), .val (.ref b36), .unset, .unset, .unset, .unset, .unset] [(.ref b39), (.ref b39)])) rfl at_91 (n := 0) (by decide) (by decide) (by decide) (by decide)
    refine Go.by st40 ?_
    have K0_h40 : Keep h0 h40 [] := K0_h39.ext E40
    show Go _ _ _ _ (T40.setTop (mkF m 93 #[.val (.int i0), .val (.int i1), .val (.int i2), .val (.int i3), .val (.int (2 : Int32)), .val (.int (((i0 &&& (255 : Int32))).toUInt32.toUInt16.toUInt32.toInt32)), .val (.int ((((XT.ushr i0 (8 : Int32)) &&& (255 : Int32))).toUInt32.toUInt16.toUInt32.toInt32)), .val (.int ((((XT.ushr i0 (16 : Int32)) &&& (255 : Int32))).toUInt32.toUInt16.toUInt32.toInt32)), .val (.ref b33), .val (.ref b36), .unset, .unset, .unset, .unset, .unset] [(.ref b40), (.ref b39), (.ref b39)]))
    refine Go.by (fun _ k => XS.aconstNull X40.here X40.hx rfl (X40.cd at_93)  k) ?_
    show Go _ _ _ _ (T40.setTop (mkF m 94 #[.val (.int i0), .val (.int i1), .val (.int i2), .val (.int i3), .val (.int (2 : Int32)), .val (.int (((i0 &&& (255 : Int32))).toUInt32.toUInt16.toUInt32.toInt32)), .val (.int ((((XT.ushr i0 (8 : Int32)) &&& (255 : Int32))).toUInt32.toUInt16.toUInt32.toInt32)), .val (.int ((((XT.ushr i0 (16 : Int32)) &&& (255 : Int32))).toUInt32.toUInt16.toUInt32.toInt32)), .val (.ref b33), .val (.ref b36), .unset, .unset, .unset, .unset, .unset] [.null, (.ref b40), (.ref b39), (.ref b39)]))
    refine Go.by (fun _ k => XS.aload X40.here X40.hx rfl (X40.cd at_94) rfl rfl k) ?_
    show Go _ _ _ _ (T40.setTop (mkF m 96 #[.val (.int i0), .val (.int i1), .val (.int i2), .val (.int i3), .val (.int (2 : Int32)), .val (.int (((i0 &&& (255 : Int32))).toUInt32.toUInt16.toUInt32.toInt32)), .val (.int ((((XT.ushr i0 (8 : Int32)) &&& (255 : Int32))).toUInt32.toUInt16.toUInt32.toInt32)), .val (.int ((((XT.ushr i0 (16 : Int32)) &&& (255 : Int32))).toUInt32.toUInt16.toUInt32.toInt32)), .val (.ref b33), .val (.ref b36), .unset, .unset, .unset, .unset, .unset] [(.ref b36), .null, (.ref b40), (.ref b39), (.ref b39)]))
    have f41 : Exa Z h40 b39 "com/example/rivulet/rivulet/RegexLiteral" := A39.ext E40
    have f42 : Fld Z h40 b39 "com/example/rivulet/rivulet/RegexLiteral" "regex" "Ljava/lang/String;" .null := F39_regex.ext E40
    have f43 : Fld Z h40 b39 "com/example/rivulet/rivulet/RegexLiteral" "replacement" "Lcom/example/rivulet/rivulet/Replacement;" .null := F39_replacement.ext E40
    have f44 : Fld Z h40 b39 "com/example/rivulet/rivulet/RegexLiteral" "modifiers" "Ljava/lang/String;" .null := F39_modifiers.ext E40
    obtain ⟨_, T45, h45, X45, K45, ⟨rfl, P45_0⟩, st45⟩ := X40.spN (W := 1) rfl (hw _ (List.mem_of_getElem? (i := 36) rfl)) (hw _ (List.mem_of_getElem? (i := 37) rfl)) (hw _ (List.mem_of_getElem? (i := 38) rfl)) (by decide) ((rm_ini l Z a0 hw n0 b39 b40 b36 .null .null .null h40 X40.old f41 f42 f43 f44 (X40.ge (.head _)) (X40.lt (.head _))).pay (hw _ (List.mem_of_getElem? (i := 38) rfl)) (hw _ (List.mem_of_getElem? (i := 32) rfl)) (by decide) (by decide)) (allS (.head _) all0) (g := (mkF m 96 #[.val (.int i0), .val (.int i1), .val (.int i2), .val (.int i3), .val (.int (2 : Int32)), .val (.int (((i0 &&& (255 : Int32))).toUInt32.toUInt16.toUInt32.toInt32)), .val (.int ((((XT.ushr i0 (8 : Int32)) &&& (255 : Int32))).toUInt32.toUInt16.toUInt32.toInt32)), .val (.int ((((XT.ushr i0 (16 : Int32)) &&& (255 : Int32))).toUInt32.toUInt16.toUInt32.toInt32)), .val (.ref b33), .val (.ref b36), .unset, .unset, .unset, .unset, .unset] [(.ref b36), .null, (.ref b40), (.ref b39), (.ref b39)])) rfl rfl (a := b39) (argsL := [(.ref b40), .null, (.ref b36)]) (rest := [(.ref b39)]) (lenOf pd_9 rfl) rfl (by exact Nat.le_of_eq rfl) at_96 rfl (by decide) (by decide)
    refine Go.tr st45 ?_
    have K0_h45 : Keep h0 h45 [] := K0_h40.trans K45 (allS (Or.inr sz_b39) all0)
    show Go _ _ _ _ (T45.setTop (mkF m 99 #[.val (.int i0), .val (.int i1), .val (.int i2), .val (.int i3), .val (.int (2 : Int32)), .val (.int (((i0 &&& (255 : Int32))).toUInt32.toUInt16.toUInt32.toInt32)), .val (.int ((((XT.ushr i0 (8 : Int32)) &&& (255 : Int32))).toUInt32.toUInt16.toUInt32.toInt32)), .val (.int ((((XT.ushr i0 (16 : Int32)) &&& (255 : Int32))).toUInt32.toUInt16.toUInt32.toInt32)), .val (.ref b33), .val (.ref b36), .unset, .unset, .unset, .unset, .unset] [(.ref b39)]))
    refine Go.by (fun _ k => XS.astore X45.here X45.hx rfl (X45.cd at_99) rfl rfl (l' := #[.val (.int i0), .val (.int i1), .val (.int i2), .val (.int i3), .val (.int (2 : Int32)), .val (.int (((i0 &&& (255 : Int32))).toUInt32.toUInt16.toUInt32.toInt32)), .val (.int ((((XT.ushr i0 (8 : Int32)) &&& (255 : Int32))).toUInt32.toUInt16.toUInt32.toInt32)), .val (.int ((((XT.ushr i0 (16 : Int32)) &&& (255 : Int32))).toUInt32.toUInt16.toUInt32.toInt32)), .val (.ref b33), .val (.ref b36), .val (.ref b39), .unset, .unset, .unset, .unset]) rfl k) ?_
    show Go _ _ _ _ (T45.setTop (mkF m 101 #[.val (.int i0), .val (.int i1), .val (.int i2), .val (.int i3), .val (.int (2 : Int32)), .val (.int (((i0 &&& (255 : Int32))).toUInt32.toUInt16.toUInt32.toInt32)), .val (.int ((((XT.ushr i0 (8 : Int32)) &&& (255 : Int32))).toUInt32.toUInt16.toUInt32.toInt32)), .val (.int ((((XT.ushr i0 (16 : Int32)) &&& (255 : Int32))).toUInt32.toUInt16.toUInt32.toInt32)), .val (.ref b33), .val (.ref b36), .val (.ref b39), .unset, .unset, .unset, .unset] []))
    refine Go.by (fun _ k => XS.iloadN X45.here X45.hx rfl (X45.cd at_101) rfl  k) ?_
    show Go _ _ _ _ (T45.setTop (mkF m 102 #[.val (.int i0), .val (.int i1), .val (.int i2), .val (.int i3), .val (.int (2 : Int32)), .val (.int (((i0 &&& (255 : Int32))).toUInt32.toUInt16.toUInt32.toInt32)), .val (.int ((((XT.ushr i0 (8 : Int32)) &&& (255 : Int32))).toUInt32.toUInt16.toUInt32.toInt32)), .val (.int ((((XT.ushr i0 (16 : Int32)) &&& (255 : Int32))).toUInt32.toUInt16.toUInt32.toInt32)), .val (.ref b33), .val (.ref b36), .val (.ref b39), .unset, .unset, .unset, .unset] [(.int i2)]))
    refine Go.by (fun _ k => XS.i2c X45.here X45.hx rfl (X45.cd at_102) rfl k) ?_
    show Go _ _ _ _ (T45.setTop (mkF m 103 #[.val (.int i0), .val (.int i1), .val (.int i2), .val (.int i3), .val (.int (2 : Int32)), .val (.int (((i0 &&& (255 : Int32))).toUInt32.toUInt16.toUInt32.toInt32)), .val (.int ((((XT.ushr i0 (8 : Int32)) &&& (255 : Int32))).toUInt32.toUInt16.toUInt32.toInt32)), .val (.int ((((XT.ushr i0 (16 : Int32)) &&& (255 : Int32))).toUInt32.toUInt16.toUInt32.toInt32)), .val (.ref b33), .val (.ref b36), .val (.ref b39), .unset, .unset, .unset, .unset] [(.int ((i2).toUInt32.toUInt16.toUInt32.toInt32))]))
    refine Go.by (fun _ k => XS.istore X45.here X45.hx rfl (X45.cd at_103) rfl (l' := #[.val (.int i0), .val (.int i1), .val (.int i2), .val (.int i3), .val (.int (2 : Int32)), .val (.int (((i0 &&& (255 : Int32))).toUInt32.toUInt16.toUInt32.toInt32)), .val (.int ((((XT.ushr i0 (8 : Int32)) &&& (255 : Int32))).toUInt32.toUInt16.toUInt32.toInt32)), .val (.int ((((XT.ushr i0 (16 : Int32)) &&& (255 : Int32))).toUInt32.toUInt16.toUInt32.toInt32)), .val (.ref b33), .val (.ref b36), .val (.ref b39), .val (.int ((i2).toUInt32.toUInt16.toUInt32.toInt32)), .unset, .unset, .unset]) rfl k) ?_
    show Go _ _ _ _ (T45.setTop (mkF m 105 #[.val (.int i0), .val (.int i1), .val (.int i2), .val (.int i3), .val (.int (2 : Int32)), .val (.int (((i0 &&& (255 : Int32))).toUInt32.toUInt16.toUInt32.toInt32)), .val (.int ((((XT.ushr i0 (8 : Int32)) &&& (255 : Int32))).toUInt32.toUInt16.toUInt32.toInt32)), .val (.int ((((XT.ushr i0 (16 : Int32)) &&& (255 : Int32))).toUInt32.toUInt16.toUInt32.toInt32)), .val (.ref b33), .val (.ref b36), .val (.ref b39), .val (.int ((i2).toUInt32.toUInt16.toUInt32.toInt32)), .unset, .unset, .unset] []))
    obtain ⟨r46_0, hr46, st46⟩ : ∃ (r46_0 : Int32), (((((i2).toUInt32.toUInt16.toUInt32.toInt32) = (((i0 &&& (255 : Int32))).toUInt32.toUInt16.toUInt32.toInt32)) ∧ r46_0 = (1 : Int32)) ∨ (¬ (((i2).toUInt32.toUInt16.toUInt32.toInt32) = (((i0 &&& (255 : Int32))).toUInt32.toUInt16.toUInt32.toInt32)) ∧ (((i2).toUInt32.toUInt16.toUInt32.toInt32) = ((((XT.ushr i0 (8 : Int32)) &&& (255 : Int32))).toUInt32.toUInt16.toUInt32.toInt32)) ∧ r46_0 = (1 : Int32)) ∨ (¬ (((i2).toUInt32.toUInt16.toUInt32.toInt32) = (((i0 &&& (255 : Int32))).toUInt32.toUInt16.toUInt32.toInt32)) ∧ ¬ (((i2).toUInt32.toUInt16.toUInt32.toInt32) = ((((XT.ushr i0 (8 : Int32)) &&& (255 : Int32))).toUInt32.toUInt16.toUInt32.toInt32)) ∧ r46_0 = (0 : Int32))) ∧ ∀ t, Steps p.tables e below (T45.setTop (mkF m 148 #[.val (.int i0), .val (.int i1), .val (.int i2), .val (.int i3), .val (.int (2 : Int32)), .val (.int (((i0 &&& (255 : Int32))).toUInt32.toUInt16.toUInt32.toInt32)), .val (.int ((((XT.ushr i0 (8 : Int32)) &&& (255 : Int32))).toUInt32.toUInt16.toUInt32.toInt32)), .val (.int ((((XT.ushr i0 (16 : Int32)) &&& (255 : Int32))).toUInt32.toUInt16.toUInt32.toInt32)), .val (.ref b33), .val (.ref b36), .val (.ref b39), .val (.int ((i2).toUInt32.toUInt16.toUInt32.toInt32)), .unset, .unset, .unset] [(.int r46_0)])) t → Steps p.tables e below (T45.setTop (mkF m 105 #[.val (.int i0), .val (.int i1), .val (.int i2), .val (.int i3), .val (.int (2 : Int32)), .val (.int (((i0 &&& (255 : Int32))).toUInt32.toUInt16.toUInt32.toInt32)), .val (.int ((((XT.ushr i0 (8 : Int32)) &&& (255 : Int32))).toUInt32.toUInt16.toUInt32.toInt32)), .val (.int ((((XT.ushr i0 (16 : Int32)) &&& (255 : Int32))).toUInt32.toUInt16.toUInt32.toInt32)), .val (.ref b33), .val (.ref b36), .val (.ref b39), .val (.int ((i2).toUInt32.toUInt16.toUInt32.toInt32)), .unset, .unset, .unset] [])) t := by
      by_cases c46_0 : ((i2).toUInt32.toUInt16.toUInt32.toInt32) = (((i0 &&& (255 : Int32))).toUInt32.toUInt16.toUInt32.toInt32)
      · refine ⟨(1 : Int32), Or.inl ⟨c46_0, rfl⟩, fun t k => ?_⟩
        refine XS.iload X45.here X45.hx rfl (X45.cd at_105) rfl  ?_
        show Steps p.tables e below (T45.setTop (mkF m 107 #[.val (.int i0), .val (.int i1), .val (.int i2), .val (.int i3), .val (.int (2 : Int32)), .val (.int (((i0 &&& (255 : Int32))).toUInt32.toUInt16.toUInt32.toInt32)), .val (.int ((((XT.ushr i0 (8 : Int32)) &&& (255 : Int32))).toUInt32.toUInt16.toUInt32.toInt32)), .val (.int ((((XT.ushr i0 (16 : Int32)) &&& (255 : Int32))).toUInt32.toUInt16.toUInt32.toInt32)), .val (.ref b33), .val (.ref b36), .val (.ref b39), .val (.int ((i2).toUInt32.toUInt16.toUInt32.toInt32)), .unset, .unset, .unset] [(.int (2 : Int32))])) t
        refine XS.ifNo X45.here X45.hx rfl (X45.cd at_107) rfl (XT.i0_le_f (by decide)) ?_
        show Steps p.tables e below (T45.setTop (mkF m 110 #[.val (.int i0), .val (.int i1), .val (.int i2), .val (.int i3), .val (.int (2 : Int32)), .val (.int (((i0 &&& (255 : Int32))).toUInt32.toUInt16.toUInt32.toInt32)), .val (.int ((((XT.ushr i0 (8 : Int32)) &&& (255 : Int32))).toUInt32.toUInt16.toUInt32.toInt32)), .val (.int ((((XT.ushr i0 (16 : Int32)) &&& (255 : Int32))).toUInt32.toUInt16.toUInt32.toInt32)), .val (.ref b33), .val (.ref b36), .val (.ref b39), .val (.int ((i2).toUInt32.toUInt16.toUInt32.toInt32)), .unset, .unset, .unset] [])) t
        refine XS.iload X45.here X45.hx rfl (X45.cd at_110) rfl  ?_
        show Steps p.tables e below (T45.setTop (mkF m 112 #[.val (.int i0), .val (.int i1), .val (.int i2), .val (.int i3), .val (.int (2 : Int32)), .val (.int (((i0 &&& (255 : Int32))).toUInt32.toUInt16.toUInt32.toInt32)), .val (.int ((((XT.ushr i0 (8 : Int32)) &&& (255 : Int32))).toUInt32.toUInt16.toUInt32.toInt32)), .val (.int ((((XT.ushr i0 (16 : Int32)) &&& (255 : Int32))).toUInt32.toUInt16.toUInt32.toInt32)), .val (.ref b33), .val (.ref b36), .val (.ref b39), .val (.int ((i2).toUInt32.toUInt16.toUInt32.toInt32)), .unset, .unset, .unset] [(.int ((i2).toUInt32.toUInt16.toUInt32.toInt32))])) t
        refine XS.iload X45.here X45.hx rfl (X45.cd at_112) rfl  ?_
        show Steps p.tables e below (T45.setTop (mkF m 114 #[.val (.int i0), .val (.int i1), .val (.int i2), .val (.int i3), .val (.int (2 : Int32)), .val (.int (((i0 &&& (255 : Int32))).toUInt32.toUInt16.toUInt32.toInt32)), .val (.int ((((XT.ushr i0 (8 : Int32)) &&& (255 : Int32))).toUInt32.toUInt16.toUInt32.toInt32)), .val (.int ((((XT.ushr i0 (16 : Int32)) &&& (255 : Int32))).toUInt32.toUInt16.toUInt32.toInt32)), .val (.ref b33), .val (.ref b36), .val (.ref b39), .val (.int ((i2).toUInt32.toUInt16.toUInt32.toInt32)), .unset, .unset, .unset] [(.int (((i0 &&& (255 : Int32))).toUInt32.toUInt16.toUInt32.toInt32)), (.int ((i2).toUInt32.toUInt16.toUInt32.toInt32))])) t
        refine XS.icmpYes X45.here X45.hx rfl (pc0 := 114) (pc' := 143) rfl (X45.cd at_114) rfl (XT.ii_eq_t c46_0) (by decide) (by decide) ?_
        show Steps p.tables e below (T45.setTop (mkF m 143 #[.val (.int i0), .val (.int i1), .val (.int i2), .val (.int i3), .val (.int (2 : Int32)), .val (.int (((i0 &&& (255 : Int32))).toUInt32.toUInt16.toUInt32.toInt32)), .val (.int ((((XT.ushr i0 (8 : Int32)) &&& (255 : Int32))).toUInt32.toUInt16.toUInt32.toInt32)), .val (.int ((((XT.ushr i0 (16 : Int32)) &&& (255 : Int32))).toUInt32.toUInt16.toUInt32.toInt32)), .val (.ref b33), .val (.ref b36), .val (.ref b39), .val (.int ((i2).toUInt32.toUInt16.toUInt32.toInt32)), .unset, .unset, .unset] [])) t
        refine XS.iconst X45.here X45.hx rfl (X45.cd at_143)  ?_
        show Steps p.tables e below (T45.setTop (mkF m 144 #[.val (.int i0), .val (.int i1), .val (.int i2), .val (.int i3), .val (.int (2 : Int32)), .val (.int (((i0 &&& (255 : Int32))).toUInt32.toUInt16.toUInt32.toInt32)), .val (.int ((((XT.ushr i0 (8 : Int32)) &&& (255 : Int32))).toUInt32.toUInt16.toUInt32.toInt32)), .val (.int ((((XT.ushr i0 (16 : Int32)) &&& (255 : Int32))).toUInt32.toUInt16.toUInt32.toInt32)), .val (.ref b33), .val (.ref b36), .val (.ref b39), .val (.int ((i2).toUInt32.toUInt16.toUInt32.toInt32)), .unset, .unset, .unset] [(.int (1 : Int32))])) t
        refine XS.goto X45.here X45.hx rfl (pc0 := 144) (pc' := 148) rfl (X45.cd at_144) (by decide) (by decide) ?_
        show Steps p.tables e below (T45.setTop (mkF m 148 #[.val (.int i0), .val (.int i1), .val (.int i2), .val (.int i3), .val (.int (2 : Int32)), .val (.int (((i0 &&& (255 : Int32))).toUInt32.toUInt16.toUInt32.toInt32)), .val (.int ((((XT.ushr i0 (8 : Int32)) &&& (255 : Int32))).toUInt32.toUInt16.toUInt32.toInt32)), .val (.int ((((XT.ushr i0 (16 : Int32)) &&& (255 : Int32))).toUInt32.toUInt16.toUInt32.toInt32)), .val (.ref b33), .val (.ref b36), .val (.ref b39), .val (.int ((i2).toUInt32.toUInt16.toUInt32.toInt32)), .unset, .unset, .unset] [(.int (1 : Int32))])) t
        exact k
      · by_cases c46_1 : ((i2).toUInt32.toUInt16.toUInt32.toInt32) = ((((XT.ushr i0 (8 : Int32)) &&& (255 : Int32))).toUInt32.toUInt16.toUInt32.toInt32)
        · refine ⟨(1 : Int32), Or.inr (Or.inl ⟨c46_0, c46_1, rfl⟩), fun t k => ?_⟩
          refine XS.iload X45.here X45.hx rfl (X45.cd at_105) rfl  ?_
          show Steps p.tables e below (T45.setTop (mkF m 107 #[.val (.int i0), .val (.int i1), .val (.int i2), .val (.int i3), .val (.int (2 : Int32)), .val (.int (((i0 &&& (255 : Int32))).toUInt32.toUInt16.toUInt32.toInt32)), .val (.int ((((XT.ushr i0 (8 : Int32)) &&& (255 : Int32))).toUInt32.toUInt16.toUInt32.toInt32)), .val (.int ((((XT.ushr i0 (16 : Int32)) &&& (255 : Int32))).toUInt32.toUInt16.toUInt32.toInt32)), .val (.ref b33), .val (.ref b36), .val (.ref b39), .val (.int ((i2).toUInt32.toUInt16.toUInt32.toInt32)), .unset, .unset, .unset] [(.int (2 : Int32))])) t
          refine XS.ifNo X45.here X45.hx rfl (X45.cd at_107) rfl (XT.i0_le_f (by decide)) ?_
          show Steps p.tables e below (T45.setTop (mkF m 110 #[.val (.int i0), .val (.int i1), .val (.int i2), .val (.int i3), .val (.int (2 : Int32)), .val (.int (((i0 &&& (255 : Int32))).toUInt32.toUInt16.toUInt32.toInt32)), .val (.int ((((XT.ushr i0 (8 : Int32)) &&& (255 : Int32))).toUInt32.toUInt16.toUInt32.toInt32)), .val (.int ((((XT.ushr i0 (16 : Int32)) &&& (255 : Int32))).toUInt32.toUInt16.toUInt32.toInt32)), .val (.ref b33), .val (.ref b36), .val (.ref b39), .val (.int ((i2).toUInt32.toUInt16.toUInt32.toInt32)), .unset, .unset, .unset] [])) t
          refine XS.iload X45.here X45.hx rfl (X45.cd at_110) rfl  ?_
          show Steps p.tables e below (T45.setTop (mkF m 112 #[.val (.int i0), .val (.int i1), .val (.int i2), .val (.int i3), .val (.int (2 : Int32)), .val (.int (((i0 &&& (255 : Int32))).toUInt32.toUInt16.toUInt32.toInt32)), .val (.int ((((XT.ushr i0 (8 : Int32)) &&& (255 : Int32))).toUInt32.toUInt16.toUInt32.toInt32)), .val (.int ((((XT.ushr i0 (16 : Int32)) &&& (255 : Int32))).toUInt32.toUInt16.toUInt32.toInt32)), .val (.ref b33), .val (.ref b36), .val (.ref b39), .val (.int ((i2).toUInt32.toUInt16.toUInt32.toInt32)), .unset, .unset, .unset] [(.int ((i2).toUInt32.toUInt16.toUInt32.toInt32))])) t
          refine XS.iload X45.here X45.hx rfl (X45.cd at_112) rfl  ?_
          show Steps p.tables e below (T45.setTop (mkF m 114 #[.val (.int i0), .val (.int i1), .val (.int i2), .val (.int i3), .val (.int (2 : Int32)), .val (.int (((i0 &&& (255 : Int32))).toUInt32.toUInt16.toUInt32.toInt32)), .val (.int ((((XT.ushr i0 (8 : Int32)) &&& (255 : Int32))).toUInt32.toUInt16.toUInt32.toInt32)), .val (.int ((((XT.ushr i0 (16 : Int32)) &&& (255 : Int32))).toUInt32.toUInt16.toUInt32.toInt32)), .val (.ref b33), .val (.ref b36), .val (.ref b39), .val (.int ((i2).toUInt32.toUInt16.toUInt32.toInt32)), .unset, .unset, .unset] [(.int (((i0 &&& (255 : Int32))).toUInt32.toUInt16.toUInt32.toInt32)), (.int ((i2).toUInt32.toUInt16.toUInt32.toInt32))])) t
          refine XS.icmpNo X45.here X45.hx rfl (X45.cd at_114) rfl (XT.ii_eq_f c46_0) ?_
          show Steps p.tables e below (T45.setTop (mkF m 117 #[.val (.int i0), .val (.int i1), .val (.int i2), .val (.int i3), .val (.int (2 : Int32)), .val (.int (((i0 &&& (255 : Int32))).toUInt32.toUInt16.toUInt32.toInt32)), .val (.int ((((XT.ushr i0 (8 : Int32)) &&& (255 : Int32))).toUInt32.toUInt16.toUInt32.toInt32)), .val (.int ((((XT.ushr i0 (16 : Int32)) &&& (255 : Int32))).toUInt32.toUInt16.toUInt32.toInt32)), .val (.ref b33), .val (.ref b36), .val (.ref b39), .val (.int ((i2).toUInt32.toUInt16.toUInt32.toInt32)), .unset, .unset, .unset] [])) t
          refine XS.iload X45.here X45.hx rfl (X45.cd at_117) rfl  ?_
          show Steps p.tables e below (T45.setTop (mkF m 119 #[.val (.int i0), .val (.int i1), .val (.int i2), .val (.int i3), .val (.int (2 : Int32)), .val (.int (((i0 &&& (255 : Int32))).toUInt32.toUInt16.toUInt32.toInt32)), .val (.int ((((XT.ushr i0 (8 : Int32)) &&& (255 : Int32))).toUInt32.toUInt16.toUInt32.toInt32)), .val (.int ((((XT.ushr i0 (16 : Int32)) &&& (255 : Int32))).toUInt32.toUInt16.toUInt32.toInt32)), .val (.ref b33), .val (.ref b36), .val (.ref b39), .val (.int ((i2).toUInt32.toUInt16.toUInt32.toInt32)), .unset, .unset, .unset] [(.int (2 : Int32))])) t
          refine XS.iconst X45.here X45.hx rfl (X45.cd at_119)  ?_
          show Steps p.tables e below (T45.setTop (mkF m 120 #[.val (.int i0), .val (.int i1), .val (.int i2), .val (.int i3), .val (.int (2 : Int32)), .val (.int (((i0 &&& (255 : Int32))).toUInt32.toUInt16.toUInt32.toInt32)), .val (.int ((((XT.ushr i0 (8 : Int32)) &&& (255 : Int32))).toUInt32.toUInt16.toUInt32.toInt32)), .val (.int ((((XT.ushr i0 (16 : Int32)) &&& (255 : Int32))).toUInt32.toUInt16.toUInt32.toInt32)), .val (.ref b33), .val (.ref b36), .val (.ref b39), .val (.int ((i2).toUInt32.toUInt16.toUInt32.toInt32)), .unset, .unset, .unset] [(.int (1 : Int32)), (.int (2 : Int32))])) t
          refine XS.icmpNo X45.here X45.hx rfl (X45.cd at_120) rfl (XT.ii_le_f (by decide)) ?_
          show Steps p.tables e below (T45.setTop (mkF m 123 #[.val (.int i0), .val (.int i1), .val (.int i2), .val (.int i3), .val (.int (2 : Int32)), .val (.int (((i0 &&& (255 : Int32))).toUInt32.toUInt16.toUInt32.toInt32)), .val (.int ((((XT.ushr i0 (8 : Int32)) &&& (255 : Int32))).toUInt32.toUInt16.toUInt32.toInt32)), .val (.int ((((XT.ushr i0 (16 : Int32)) &&& (255 : Int32))).toUInt32.toUInt16.toUInt32.toInt32)), .val (.ref b33), .val (.ref b36), .val (.ref b39), .val (.int ((i2).toUInt32.toUInt16.toUInt32.toInt32)), .unset, .unset, .unset] [])) t
          refine XS.iload X45.here X45.hx rfl (X45.cd at_123) rfl  ?_
          show Steps p.tables e below (T45.setTop (mkF m 125 #[.val (.int i0), .val (.int i1), .val (.int i2), .val (.int i3), .val (.int (2 : Int32)), .val (.int (((i0 &&& (255 : Int32))).toUInt32.toUInt16.toUInt32.toInt32)), .val (.int ((((XT.ushr i0 (8 : Int32)) &&& (255 : Int32))).toUInt32.toUInt16.toUInt32.toInt32)), .val (.int ((((XT.ushr i0 (16 : Int32)) &&& (255 : Int32))).toUInt32.toUInt16.toUInt32.toInt32)), .val (.ref b33), .val (.ref b36), .val (.ref b39), .val (.int ((i2).toUInt32.toUInt16.toUInt32.toInt32)), .unset, .unset, .unset] [(.int ((i2).toUInt32.toUInt16.toUInt32.toInt32))])) t
          refine XS.iload X45.here X45.hx rfl (X45.cd at_125) rfl  ?_
          show Steps p.tables e below (T45.setTop (mkF m 127 #[.val (.int i0), .val (.int i1), .val (.int i2), .val (.int i3), .val (.int (2 : Int32)), .val (.int (((i0 &&& (255 : Int32))).toUInt32.toUInt16.toUInt32.toInt32)), .val (.int ((((XT.ushr i0 (8 : Int32)) &&& (255 : Int32))).toUInt32.toUInt16.toUInt32.toInt32)), .val (.int ((((XT.ushr i0 (16 : Int32)) &&& (255 : Int32))).toUInt32.toUInt16.toUInt32.toInt32)), .val (.ref b33), .val (.ref b36), .val (.ref b39), .val (.int ((i2).toUInt32.toUInt16.toUInt32.toInt32)), .unset, .unset, .unset] [(.int ((((XT.ushr i0 (8 : Int32)) &&& (255 : Int32))).toUInt32.toUInt16.toUInt32.toInt32)), (.int ((i2).toUInt32.toUInt16.toUInt32.toInt32))])) t
          refine XS.icmpYes X45.here X45.hx rfl (pc0 := 127) (pc' := 143) rfl (X45.cd at_127) rfl (XT.ii_eq_t c46_1) (by decide) (by decide) ?_
          show Steps p.tables e below (T45.setTop (mkF m 143 #[.val (.int i0), .val (.int i1), .val (.int i2), .val (.int i3), .val (.int (2 : Int32)), .val (.int (((i0 &&& (255 : Int32))).toUInt32.toUInt16.toUInt32.toInt32)), .val (.int ((((XT.ushr i0 (8 : Int32)) &&& (255 : Int32))).toUInt32.toUInt16.toUInt32.toInt32)), .val (.int ((((XT.ushr i0 (16 : Int32)) &&& (255 : Int32))).toUInt32.toUInt16.toUInt32.toInt32)), .val (.ref b33), .val (.ref b36), .val (.ref b39), .val (.int ((i2).toUInt32.toUInt16.toUInt32.toInt32)), .unset, .unset, .unset] [])) t
          refine XS.iconst X45.here X45.hx rfl (X45.cd at_143)  ?_
          show Steps p.tables e below (T45.setTop (mkF m 144 #[.val (.int i0), .val (.int i1), .val (.int i2), .val (.int i3), .val (.int (2 : Int32)), .val (.int (((i0 &&& (255 : Int32))).toUInt32.toUInt16.toUInt32.toInt32)), .val (.int ((((XT.ushr i0 (8 : Int32)) &&& (255 : Int32))).toUInt32.toUInt16.toUInt32.toInt32)), .val (.int ((((XT.ushr i0 (16 : Int32)) &&& (255 : Int32))).toUInt32.toUInt16.toUInt32.toInt32)), .val (.ref b33), .val (.ref b36), .val (.ref b39), .val (.int ((i2).toUInt32.toUInt16.toUInt32.toInt32)), .unset, .unset, .unset] [(.int (1 : Int32))])) t
          refine XS.goto X45.here X45.hx rfl (pc0 := 144) (pc' := 148) rfl (X45.cd at_144) (by decide) (by decide) ?_
          show Steps p.tables e below (T45.setTop (mkF m 148 #[.val (.int i0), .val (.int i1), .val (.int i2), .val (.int i3), .val (.int (2 : Int32)), .val (.int (((i0 &&& (255 : Int32))).toUInt32.toUInt16.toUInt32.toInt32)), .val (.int ((((XT.ushr i0 (8 : Int32)) &&& (255 : Int32))).toUInt32.toUInt16.toUInt32.toInt32)), .val (.int ((((XT.ushr i0 (16 : Int32)) &&& (255 : Int32))).toUInt32.toUInt16.toUInt32.toInt32)), .val (.ref b33), .val (.ref b36), .val (.ref b39), .val (.int ((i2).toUInt32.toUInt16.toUInt32.toInt32)), .unset, .unset, .unset] [(.int (1 : Int32))])) t
          exact k
        · refine ⟨(0 : Int32), Or.inr (Or.inr (⟨c46_0, c46_1, rfl⟩)), fun t k => ?_⟩
          refine XS.iload X45.here X45.hx rfl (X45.cd at_105) rfl  ?_
          show Steps p.tables e below (T45.setTop (mkF m 107 #[.val (.int i0), .val (.int i1), .val (.int i2), .val (.int i3), .val (.int (2 : Int32)), .val (.int (((i0 &&& (255 : Int32))).toUInt32.toUInt16.toUInt32.toInt32)), .val (.int ((((XT.ushr i0 (8 : Int32)) &&& (255 : Int32))).toUInt32.toUInt16.toUInt32.toInt32)), .val (.int ((((XT.ushr i0 (16 : Int32)) &&& (255 : Int32))).toUInt32.toUInt16.toUInt32.toInt32)), .val (.ref b33), .val (.ref b36), .val (.ref b39), .val (.int ((i2).toUInt32.toUInt16.toUInt32.toInt32)), .unset, .unset, .unset] [(.int (2 : Int32))])) t
          refine XS.ifNo X45.here X45.hx rfl (X45.cd at_107) rfl (XT.i0_le_f (by decide)) ?_
          show Steps p.tables e below (T45.setTop (mkF m 110 #[.val (.int i0), .val (.int i1), .val (.int i2), .val (.int i3), .val (.int (2 : Int32)), .val (.int (((i0 &&& (255 : Int32))).toUInt32.toUInt16.toUInt32.toInt32)), .val (.int ((((XT.ushr i0 (8 : Int32)) &&& (255 : Int32))).toUInt32.toUInt16.toUInt32.toInt32)), .val (.int ((((XT.ushr i0 (16 : Int32)) &&& (255 : Int32))).toUInt32.toUInt16.toUInt32.toInt32)), .val (.ref b33), .val (.ref b36), .val (.ref b39), .val (.int ((i2).toUInt32.toUInt16.toUInt32.toInt32)), .unset, .unset, .unset] [])) t
          refine XS.iload X45.here X45.hx rfl (X45.cd at_110) rfl  ?_
          show Steps p.tables e below (T45.setTop (mkF m 112 #[.val (.int i0), .val (.int i1), .val (.int i2), .val (.int i3), .val (.int (2 : Int32)), .val (.int (((i0 &&& (255 : Int32))).toUInt32.toUInt16.toUInt32.toInt32)), .val (.int ((((XT.ushr i0 (8 : Int32)) &&& (255 : Int32))).toUInt32.toUInt16.toUInt32.toInt32)), .val (.int ((((XT.ushr i0 (16 : Int32)) &&& (255 : Int32))).toUInt32.toUInt16.toUInt32.toInt32)), .val (.ref b33), .val (.ref b36), .val (.ref b39), .val (.int ((i2).toUInt32.toUInt16.toUInt32.toInt32)), .unset, .unset, .unset] [(.int ((i2).toUInt32.toUInt16.toUInt32.toInt32))])) t
          refine XS.iload X45.here X45.hx rfl (X45.cd at_112) rfl  ?_
          show Steps p.tables e below (T45.setTop (mkF m 114 #[.val (.int i0), .val (.int i1), .val (.int i2), .val (.int i3), .val (.int (2 : Int32)), .val (.int (((i0 &&& (255 : Int32))).toUInt32.toUInt16.toUInt32.toInt32)), .val (.int ((((XT.ushr i0 (8 : Int32)) &&& (255 : Int32))).toUInt32.toUInt16.toUInt32.toInt32)), .val (.int ((((XT.ushr i0 (16 : Int32)) &&& (255 : Int32))).toUInt32.toUInt16.toUInt32.toInt32)), .val (.ref b33), .val (.ref b36), .val (.ref b39), .val (.int ((i2).toUInt32.toUInt16.toUInt32.toInt32)), .unset, .unset, .unset] [(.int (((i0 &&& (255 : Int32))).toUInt32.toUInt16.toUInt32.toInt32)), (.int ((i2).toUInt32.toUInt16.toUInt32.toInt32))])) t
          refine XS.icmpNo X45.here X45.hx rfl (X45.cd at_114) rfl (XT.ii_eq_f c46_0) ?_
          show Steps p.tables e below (T45.setTop (mkF m 117 #[.val (.int i0), .val (.int i1), .val (.int i2), .val (.int i3), .val (.int (2 : Int32)), .val (.int (((i0 &&& (255 : Int32))).toUInt32.toUInt16.toUInt32.toInt32)), .val (.int ((((XT.ushr i0 (8 : Int32)) &&& (255 : Int32))).toUInt32.toUInt16.toUInt32.toInt32)), .val (.int ((((XT.ushr i0 (16 : Int32)) &&& (255 : Int32))).toUInt32.toUInt16.toUInt32.toInt32)), .val (.ref b33), .val (.ref b36), .val (.ref b39), .val (.int ((i2).toUInt32.toUInt16.toUInt32.toInt32)), .unset, .unset, .unset] [])) t
          refine XS.iload X45.here X45.hx rfl (X45.cd at_117) rfl  ?_
          show Steps p.tables e below (T45.setTop (mkF m 119 #[.val (.int i0), .val (.int i1), .val (.int i2), .val (.int i3), .val (.int (2 : Int32)), .val (.int (((i0 &&& (255 : Int32))).toUInt32.toUInt16.toUInt32.toInt32)), .val (.int ((((XT.ushr i0 (8 : Int32)) &&& (255 : Int32))).toUInt32.toUInt16.toUInt32.toInt32)), .val (.int ((((XT.ushr i0 (16 : Int32)) &&& (255 : Int32))).toUInt32.toUInt16.toUInt32.toInt32)), .val (.ref b33), .val (.ref b36), .val (.ref b39), .val (.int ((i2).toUInt32.toUInt16.toUInt32.toInt32)), .unset, .unset, .unset] [(.int (2 : Int32))])) t
          refine XS.iconst X45.here X45.hx rfl (X45.cd at_119)  ?_
          show Steps p.tables e below (T45.setTop (mkF m 120 #[.val (.int i0), .val (.int i1), .val (.int i2), .val (.int i3), .val (.int (2 : Int32)), .val (.int (((i0 &&& (255 : Int32))).toUInt32.toUInt16.toUInt32.toInt32)), .val (.int ((((XT.ushr i0 (8 : Int32)) &&& (255 : Int32))).toUInt32.toUInt16.toUInt32.toInt32)), .val (.int ((((XT.ushr i0 (16 : Int32)) &&& (255 : Int32))).toUInt32.toUInt16.toUInt32.toInt32)), .val (.ref b33), .val (.ref b36), .val (.ref b39), .val (.int ((i2).toUInt32.toUInt16.toUInt32.toInt32)), .unset, .unset, .unset] [(.int (1 : Int32)), (.int (2 : Int32))])) t
          refine XS.icmpNo X45.here X45.hx rfl (X45.cd at_120) rfl (XT.ii_le_f (by decide)) ?_
          show Steps p.tables e below (T45.setTop (mkF m 123 #[.val (.int i0), .val (.int i1), .val (.int i2), .val (.int i3), .val (.int (2 : Int32)), .val (.int (((i0 &&& (255 : Int32))).toUInt32.toUInt16.toUInt32.toInt32)), .val (.int ((((XT.ushr i0 (8 : Int32)) &&& (255 : Int32))).toUInt32.toUInt16.toUInt32.toInt32)), .val (.int ((((XT.ushr i0 (16 : Int32)) &&& (255 : Int32))).toUInt32.toUInt16.toUInt32.toInt32)), .val (.ref b33), .val (.ref b36), .val (.ref b39), .val (.int ((i2).toUInt32.toUInt16.toUInt32.toInt32)), .unset, .unset, .unset] [])) t
          refine XS.iload X45.here X45.hx rfl (X45.cd at_123) rfl  ?_
          show Steps p.tables e below (T45.setTop (mkF m 125 #[.val (.int i0), .val (.int i1), .val (.int i2), .val (.int i3), .val (.int (2 : Int32)), .val (.int (((i0 &&& (255 : Int32))).toUInt32.toUInt16.toUInt32.toInt32)), .val (.int ((((XT.ushr i0 (8 : Int32)) &&& (255 : Int32))).toUInt32.toUInt16.toUInt32.toInt32)), .val (.int ((((XT.ushr i0 (16 : Int32)) &&& (255 : Int32))).toUInt32.toUInt16.toUInt32.toInt32)), .val (.ref b33), .val (.ref b36), .val (.ref b39), .val (.int ((i2).toUInt32.toUInt16.toUInt32.toInt32)), .unset, .unset, .unset] [(.int ((i2).toUInt32.toUInt16.toUInt32.toInt32))])) t
          refine XS.iload X45.here X45.hx rfl (X45.cd at_125) rfl  ?_
          show Steps p.tables e below (T45.setTop (mkF m 127 #[.val (.int i0), .val (.int i1), .val (.int i2), .val (.int i3), .val (.int (2 : Int32)), .val (.int (((i0 &&& (255 : Int32))).toUInt32.toUInt16.toUInt32.toInt32)), .val (.int ((((XT.ushr i0 (8 : Int32)) &&& (255 : Int32))).toUInt32.toUInt16.toUInt32.toInt32)), .val (.int ((((XT.ushr i0 (16 : Int32)) &&& (255 : Int32))).toUInt32.toUInt16.toUInt32.toInt32)), .val (.ref b33), .val (.ref b36), .val (.ref b39), .val (.int ((i2).toUInt32.toUInt16.toUInt32.toInt32)), .unset, .unset, .unset] [(.int ((((XT.ushr i0 (8 : Int32)) &&& (255 : Int32))).toUInt32.toUInt16.toUInt32.toInt32)), (.int ((i2).toUInt32.toUInt16.toUInt32.toInt32))])) t
          refine XS.icmpNo X45.here X45.hx rfl (X45.cd at_127) rfl (XT.ii_eq_f c46_1) ?_
          show Steps p.tables e below (T45.setTop (mkF m 130 #[.val (.int i0), .val (.int i1), .val (.int i2), .val (.int i3), .val (.int (2 : Int32)), .val (.int (((i0 &&& (255 : Int32))).toUInt32.toUInt16.toUInt32.toInt32)), .val (.int ((((XT.ushr i0 (8 : Int32)) &&& (255 : Int32))).toUInt32.toUInt16.toUInt32.toInt32)), .val (.int ((((XT.ushr i0 (16 : Int32)) &&& (255 : Int32))).toUInt32.toUInt16.toUInt32.toInt32)), .val (.ref b33), .val (.ref b36), .val (.ref b39), .val (.int ((i2).toUInt32.toUInt16.toUInt32.toInt32)), .unset, .unset, .unset] [])) t
          refine XS.iload X45.here X45.hx rfl (X45.cd at_130) rfl  ?_
          show Steps p.tables e below (T45.setTop (mkF m 132 #[.val (.int i0), .val (.int i1), .val (.int i2), .val (.int i3), .val (.int (2 : Int32)), .val (.int (((i0 &&& (255 : Int32))).toUInt32.toUInt16.toUInt32.toInt32)), .val (.int ((((XT.ushr i0 (8 : Int32)) &&& (255 : Int32))).toUInt32.toUInt16.toUInt32.toInt32)), .val (.int ((((XT.ushr i0 (16 : Int32)) &&& (255 : Int32))).toUInt32.toUInt16.toUInt32.toInt32)), .val (.ref b33), .val (.ref b36), .val (.ref b39), .val (.int ((i2).toUInt32.toUInt16.toUInt32.toInt32)), .unset, .unset, .unset] [(.int (2 : Int32))])) t
          refine XS.iconst X45.here X45.hx rfl (X45.cd at_132)  ?_
          show Steps p.tables e below (T45.setTop (mkF m 133 #[.val (.int i0), .val (.int i1), .val (.int i2), .val (.int i3), .val (.int (2 : Int32)), .val (.int (((i0 &&& (255 : Int32))).toUInt32.toUInt16.toUInt32.toInt32)), .val (.int ((((XT.ushr i0 (8 : Int32)) &&& (255 : Int32))).toUInt32.toUInt16.toUInt32.toInt32)), .val (.int ((((XT.ushr i0 (16 : Int32)) &&& (255 : Int32))).toUInt32.toUInt16.toUInt32.toInt32)), .val (.ref b33), .val (.ref b36), .val (.ref b39), .val (.int ((i2).toUInt32.toUInt16.toUInt32.toInt32)), .unset, .unset, .unset] [(.int (2 : Int32)), (.int (2 : Int32))])) t
          refine XS.icmpYes X45.here X45.hx rfl (pc0 := 133) (pc' := 147) rfl (X45.cd at_133) rfl (XT.ii_le_t (by decide)) (by decide) (by decide) ?_
          show Steps p.tables e below (T45.setTop (mkF m 147 #[.val (.int i0), .val (.int i1), .val (.int i2), .val (.int i3), .val (.int (2 : Int32)), .val (.int (((i0 &&& (255 : Int32))).toUInt32.toUInt16.toUInt32.toInt32)), .val (.int ((((XT.ushr i0 (8 : Int32)) &&& (255 : Int32))).toUInt32.toUInt16.toUInt32.toInt32)), .val (.int ((((XT.ushr i0 (16 : Int32)) &&& (255 : Int32))).toUInt32.toUInt16.toUInt32.toInt32)), .val (.ref b33), .val (.ref b36), .val (.ref b39), .val (.int ((i2).toUInt32.toUInt16.toUInt32.toInt32)), .unset, .unset, .unset] [])) t
          refine XS.iconst X45.here X45.hx rfl (X45.cd at_147)  ?_
          show Steps p.tables e below (T45.setTop (mkF m 148 #[.val (.int i0), .val (.int i1), .val (.int i2), .val (.int i3), .val (.int (2 : Int32)), .val (.int (((i0 &&& (255 : Int32))).toUInt32.toUInt16.toUInt32.toInt32)), .val (.int ((((XT.ushr i0 (8 : Int32)) &&& (255 : Int32))).toUInt32.toUInt16.toUInt32.toInt32)), .val (.int ((((XT.ushr i0 (16 : Int32)) &&& (255 : Int32))).toUInt32.toUInt16.toUInt32.toInt32)), .val (.ref b33), .val (.ref b36), .val (.ref b39), .val (.int ((i2).toUInt32.toUInt16.toUInt32.toInt32)), .unset, .unset, .unset] [(.int (0 : Int32))])) t
          exact k
    refine Go.by (fun _ k => st46 _ k) ?_
    show Go _ _ _ _ (T45.setTop (mkF m 148 #[.val (.int i0), .val (.int i1), .val (.int i2), .val (.int i3), .val (.int (2 : Int32)), .val (.int (((i0 &&& (255 : Int32))).toUInt32.toUInt16.toUInt32.toInt32)), .val (.int ((((XT.ushr i0 (8 : Int32)) &&& (255 : Int32))).toUInt32.toUInt16.toUInt32.toInt32)), .val (.int ((((XT.ushr i0 (16 : Int32)) &&& (255 : Int32))).toUInt32.toUInt16.toUInt32.toInt32)), .val (.ref b33), .val (.ref b36), .val (.ref b39), .val (.int ((i2).toUInt32.toUInt16.toUInt32.toInt32)), .unset, .unset, .unset] [(.int r46_0)]))
    refine Go.by (fun _ k => XS.istore X45.here X45.hx rfl (X45.cd at_148) rfl (l' := #[.val (.int i0), .val (.int i1), .val (.int i2), .val (.int i3), .val (.int (2 : Int32)), .val (.int (((i0 &&& (255 : Int32))).toUInt32.toUInt16.toUInt32.toInt32)), .val (.int ((((XT.ushr i0 (8 : Int32)) &&& (255 : Int32))).toUInt32.toUInt16.toUInt32.toInt32)), .val (.int ((((XT.ushr i0 (16 : Int32)) &&& (255 : Int32))).toUInt32.toUInt16.toUInt32.toInt32)), .val (.ref b33), .val (.ref b36), .val (.ref b39), .val (.int ((i2).toUInt32.toUInt16.toUInt32.toInt32)), .val (.int r46_0), .unset, .unset]) rfl k) ?_
    show Go _ _ _ _ (T45.setTop (mkF m 150 #[.val (.int i0), .val (.int i1), .val (.int i2), .val (.int i3), .val (.int (2 : Int32)), .val (.int (((i0 &&& (255 : Int32))).toUInt32.toUInt16.toUInt32.toInt32)), .val (.int ((((XT.ushr i0 (8 : Int32)) &&& (255 : Int32))).toUInt32.toUInt16.toUInt32.toInt32)), .val (.int ((((XT.ushr i0 (16 : Int32)) &&& (255 : Int32))).toUInt32.toUInt16.toUInt32.toInt32)), .val (.ref b33), .val (.ref b36), .val (.ref b39), .val (.int ((i2).toUInt32.toUInt16.toUInt32.toInt32)), .val (.int r46_0), .unset, .unset] []))
    refine Go.by (fun _ k => XS.aload X45.here X45.hx rfl (X45.cd at_150) rfl rfl k) ?_
    show Go _ _ _ _ (T45.setTop (mkF m 152 #[.val (.int i0), .val (.int i1), .val (.int i2), .val (.int i3), .val (.int (2 : Int32)), .val (.int (((i0 &&& (255 : Int32))).toUInt32.toUInt16.toUInt32.toInt32)), .val (.int ((((XT.ushr i0 (8 : Int32)) &&& (255 : Int32))).toUInt32.toUInt16.toUInt32.toInt32)), .val (.int ((((XT.ushr i0 (16 : Int32)) &&& (255 : Int32))).toUInt32.toUInt16.toUInt32.toInt32)), .val (.ref b33), .val (.ref b36), .val (.ref b39), .val (.int ((i2).toUInt32.toUInt16.toUInt32.toInt32)), .val (.int r46_0), .unset, .unset] [(.ref b39)]))
    refine Go.by (fun _ k => XS.iload X45.here X45.hx rfl (X45.cd at_152) rfl  k) ?_
    show Go _ _ _ _ (T45.setTop (mkF m 154 #[.val (.int i0), .val (.int i1), .val (.int i2), .val (.int i3), .val (.int (2 : Int32)), .val (.int (((i0 &&& (255 : Int32))).toUInt32.toUInt16.toUInt32.toInt32)), .val (.int ((((XT.ushr i0 (8 : Int32)) &&& (255 : Int32))).toUInt32.toUInt16.toUInt32.toInt32)), .val (.int ((((XT.ushr i0 (16 : Int32)) &&& (255 : Int32))).toUInt32.toUInt16.toUInt32.toInt32)), .val (.ref b33), .val (.ref b36), .val (.ref b39), .val (.int ((i2).toUInt32.toUInt16.toUInt32.toInt32)), .val (.int r46_0), .unset, .unset] [(.int ((i2).toUInt32.toUInt16.toUInt32.toInt32)), (.ref b39)]))
    have f47 : Str Z h45 b36 t_38 [(((i0 &&& (255 : Int32))).toUInt32.toUInt16.toUInt32.toInt32), ((((XT.ushr i0 (8 : Int32)) &&& (255 : Int32))).toUInt32.toUInt16.toUInt32.toInt32)] := ((P38_0.ext E39).ext E40).keep K45 (ninS ne_b36_b39 nin0) (ninS ne_t_38_b39 nin0)
    have f49 : Exa Z h45 b39 "com/example/rivulet/rivulet/RegexLiteral" := (f41).keep K45
    obtain ⟨_, T48, h48, X48, K48, ⟨r_48, rfl, rfl, p48_0⟩, st48⟩ := X45.viN (W := 0) (hw _ (List.mem_of_getElem? (i := 51) rfl)) (hw _ (List.mem_of_getElem? (i := 52) rfl)) (hw _ (List.mem_of_getElem? (i := 54) rfl)) (hw _ (List.mem_of_getElem? (i := 53) rfl)) (by decide) ((rm_has l Z a0 hw n0 b39 ((i2).toUInt32.toUInt16.toUInt32.toInt32) b36 t_38 [(((i0 &&& (255 : Int32))).toUInt32.toUInt16.toUInt32.toInt32), ((((XT.ushr i0 (8 : Int32)) &&& (255 : Int32))).toUInt32.toUInt16.toUInt32.toInt32)] zc h45 X45.old P45_0 f47 Sc nc (all1 (c255 _) (all1 (c255 _) alln))).pay (hw _ (List.mem_of_getElem? (i := 55) rfl)) (hw _ (List.mem_of_getElem? (i := 32) rfl)) (by decide) (by decide)) all0 f49 (g := (mkF m 154 #[.val (.int i0), .val (.int i1), .val (.int i2), .val (.int i3), .val (.int (2 : Int32)), .val (.int (((i0 &&& (255 : Int32))).toUInt32.toUInt16.toUInt32.toInt32)), .val (.int ((((XT.ushr i0 (8 : Int32)) &&& (255 : Int32))).toUInt32.toUInt16.toUInt32.toInt32)), .val (.int ((((XT.ushr i0 (16 : Int32)) &&& (255 : Int32))).toUInt32.toUInt16.toUInt32.toInt32)), .val (.ref b33), .val (.ref b36), .val (.ref b39), .val (.int ((i2).toUInt32.toUInt16.toUInt32.toInt32)), .val (.int r46_0), .unset, .unset] [(.int ((i2).toUInt32.toUInt16.toUInt32.toInt32)), (.ref b39)])) rfl rfl (argsL := [(.int ((i2).toUInt32.toUInt16.toUInt32.toInt32))]) (rest := []) (lenOf pd_10 rfl) rfl (by exact Nat.le_of_eq rfl) at_154 rfl (by decide) (by decide)
    refine Go.tr st48 ?_
    show Go _ _ _ _ (T48.setTop (mkF m 157 #[.val (.int i0), .val (.int i1), .val (.int i2), .val (.int i3), .val (.int (2 : Int32)), .val (.int (((i0 &&& (255 : Int32))).toUInt32.toUInt16.toUInt32.toInt32)), .val (.int ((((XT.ushr i0 (8 : Int32)) &&& (255 : Int32))).toUInt32.toUInt16.toUInt32.toInt32)), .val (.int ((((XT.ushr i0 (16 : Int32)) &&& (255 : Int32))).toUInt32.toUInt16.toUInt32.toInt32)), .val (.ref b33), .val (.ref b36), .val (.ref b39), .val (.int ((i2).toUInt32.toUInt16.toUInt32.toInt32)), .val (.int r46_0), .unset, .unset] [(.int r_48)]))
    refine Go.by (fun _ k => XS.iload X48.here X48.hx rfl (X48.cd at_157) rfl  k) ?_
    show Go _ _ _ _ (T48.setTop (mkF m 159 #[.val (.int i0), .val (.int i1), .val (.int i2), .val (.int i3), .val (.int (2 : Int32)), .val (.int (((i0 &&& (255 : Int32))).toUInt32.toUInt16.toUInt32.toInt32)), .val (.int ((((XT.ushr i0 (8 : Int32)) &&& (255 : Int32))).toUInt32.toUInt16.toUInt32.toInt32)), .val (.int ((((XT.ushr i0 (16 : Int32)) &&& (255 : Int32))).toUInt32.toUInt16.toUInt32.toInt32)), .val (.ref b33), .val (.ref b36), .val (.ref b39), .val (.int ((i2).toUInt32.toUInt16.toUInt32.toInt32)), .val (.int r46_0), .unset, .unset] [(.int r46_0), (.int r_48)]))
    refine Go.by (fun _ k => XS.icmpYes X48.here X48.hx rfl (pc0 := 159) (pc' := 164) rfl (X48.cd at_159) rfl (XT.ii_eq_t (by simp only [List.mem_cons, List.not_mem_nil, or_false] at p48_0; rcases p48_0 with q | q <;> rcases hr46 with z | z | z <;> simp_all)) (by decide) (by decide) k) ?_
    show Go _ _ _ _ (T48.setTop (mkF m 164 #[.val (.int i0), .val (.int i1), .val (.int i2), .val (.int i3), .val (.int (2 : Int32)), .val (.int (((i0 &&& (255 : Int32))).toUInt32.toUInt16.toUInt32.toInt32)), .val (.int ((((XT.ushr i0 (8 : Int32)) &&& (255 : Int32))).toUInt32.toUInt16.toUInt32.toInt32)), .val (.int ((((XT.ushr i0 (16 : Int32)) &&& (255 : Int32))).toUInt32.toUInt16.toUInt32.toInt32)), .val (.ref b33), .val (.ref b36), .val (.ref b39), .val (.int ((i2).toUInt32.toUInt16.toUInt32.toInt32)), .val (.int r46_0), .unset, .unset] []))
    refine Go.by (fun _ k => XS.iload X48.here X48.hx rfl (X48.cd at_164) rfl  k) ?_
    show Go _ _ _ _ (T48.setTop (mkF m 166 #[.val (.int i0), .val (.int i1), .val (.int i2), .val (.int i3), .val (.int (2 : Int32)), .val (.int (((i0 &&& (255 : Int32))).toUInt32.toUInt16.toUInt32.toInt32)), .val (.int ((((XT.ushr i0 (8 : Int32)) &&& (255 : Int32))).toUInt32.toUInt16.toUInt32.toInt32)), .val (.int ((((XT.ushr i0 (16 : Int32)) &&& (255 : Int32))).toUInt32.toUInt16.toUInt32.toInt32)), .val (.ref b33), .val (.ref b36), .val (.ref b39), .val (.int ((i2).toUInt32.toUInt16.toUInt32.toInt32)), .val (.int r46_0), .unset, .unset] [(.int (2 : Int32))]))
    refine Go.by (fun _ k => XS.ifNo X48.here X48.hx rfl (X48.cd at_166) rfl (XT.i0_le_f (by decide)) k) ?_
    show Go _ _ _ _ (T48.setTop (mkF m 169 #[.val (.int i0), .val (.int i1), .val (.int i2), .val (.int i3), .val (.int (2 : Int32)), .val (.int (((i0 &&& (255 : Int32))).toUInt32.toUInt16.toUInt32.toInt32)), .val (.int ((((XT.ushr i0 (8 : Int32)) &&& (255 : Int32))).toUInt32.toUInt16.toUInt32.toInt32)), .val (.int ((((XT.ushr i0 (16 : Int32)) &&& (255 : Int32))).toUInt32.toUInt16.toUInt32.toInt32)), .val (.ref b33), .val (.ref b36), .val (.ref b39), .val (.int ((i2).toUInt32.toUInt16.toUInt32.toInt32)), .val (.int r46_0), .unset, .unset] []))
    refine Go.by (fun _ k => XS.iloadN X48.here X48.hx rfl (X48.cd at_169) rfl  k) ?_
    show Go _ _ _ _ (T48.setTop (mkF m 170 #[.val (.int i0), .val (.int i1), .val (.int i2), .val (.int i3), .val (.int (2 : Int32)), .val (.int (((i0 &&& (255 : Int32))).toUInt32.toUInt16.toUInt32.toInt32)), .val (.int ((((XT.ushr i0 (8 : Int32)) &&& (255 : Int32))).toUInt32.toUInt16.toUInt32.toInt32)), .val (.int ((((XT.ushr i0 (16 : Int32)) &&& (255 : Int32))).toUInt32.toUInt16.toUInt32.toInt32)), .val (.ref b33), .val (.ref b36), .val (.ref b39), .val (.int ((i2).toUInt32.toUInt16.toUInt32.toInt32)), .val (.int r46_0), .unset, .unset] [(.int i3)]))
    refine Go.by (fun _ k => X48.ldcI (hw _ (List.mem_of_getElem? (i := 98) rfl)) (g := (mkF m 170 #[.val (.int i0), .val (.int i1), .val (.int i2), .val (.int i3), .val (.int (2 : Int32)), .val (.int (((i0 &&& (255 : Int32))).toUInt32.toUInt16.toUInt32.toInt32)), .val (.int ((((XT.ushr i0 (8 : Int32)) &&& (255 : Int32))).toUInt32.toUInt16.toUInt32.toInt32)), .val (.int ((((XT.ushr i0 (16 : Int32)) &&& (255 : Int32))).toUInt32.toUInt16.toUInt32.toInt32)), .val (.ref b33), .val (.ref b36), .val (.ref b39), .val (.int ((i2).toUInt32.toUInt16.toUInt32.toInt32)), .val (.int r46_0), .unset, .unset] [(.int i3)])) rfl at_170 _ k) ?_
    show Go _ _ _ _ (T48.setTop (mkF m 172 #[.val (.int i0), .val (.int i1), .val (.int i2), .val (.int i3), .val (.int (2 : Int32)), .val (.int (((i0 &&& (255 : Int32))).toUInt32.toUInt16.toUInt32.toInt32)), .val (.int ((((XT.ushr i0 (8 : Int32)) &&& (255 : Int32))).toUInt32.toUInt16.toUInt32.toInt32)), .val (.int ((((XT.ushr i0 (16 : Int32)) &&& (255 : Int32))).toUInt32.toUInt16.toUInt32.toInt32)), .val (.ref b33), .val (.ref b36), .val (.ref b39), .val (.int ((i2).toUInt32.toUInt16.toUInt32.toInt32)), .val (.int r46_0), .unset, .unset] [(.int (2147483647 : Int32)), (.int i3)]))
    refine Go.by (fun _ k => XS.iand X48.here X48.hx rfl (X48.cd at_172) rfl k) ?_
    show Go _ _ _ _ (T48.setTop (mkF m 173 #[.val (.int i0), .val (.int i1), .val (.int i2), .val (.int i3), .val (.int (2 : Int32)), .val (.int (((i0 &&& (255 : Int32))).toUInt32.toUInt16.toUInt32.toInt32)), .val (.int ((((XT.ushr i0 (8 : Int32)) &&& (255 : Int32))).toUInt32.toUInt16.toUInt32.toInt32)), .val (.int ((((XT.ushr i0 (16 : Int32)) &&& (255 : Int32))).toUInt32.toUInt16.toUInt32.toInt32)), .val (.ref b33), .val (.ref b36), .val (.ref b39), .val (.int ((i2).toUInt32.toUInt16.toUInt32.toInt32)), .val (.int r46_0), .unset, .unset] [(.int (i3 &&& (2147483647 : Int32)))]))
    refine Go.by (fun _ k => XS.iload X48.here X48.hx rfl (X48.cd at_173) rfl  k) ?_
    show Go _ _ _ _ (T48.setTop (mkF m 175 #[.val (.int i0), .val (.int i1), .val (.int i2), .val (.int i3), .val (.int (2 : Int32)), .val (.int (((i0 &&& (255 : Int32))).toUInt32.toUInt16.toUInt32.toInt32)), .val (.int ((((XT.ushr i0 (8 : Int32)) &&& (255 : Int32))).toUInt32.toUInt16.toUInt32.toInt32)), .val (.int ((((XT.ushr i0 (16 : Int32)) &&& (255 : Int32))).toUInt32.toUInt16.toUInt32.toInt32)), .val (.ref b33), .val (.ref b36), .val (.ref b39), .val (.int ((i2).toUInt32.toUInt16.toUInt32.toInt32)), .val (.int r46_0), .unset, .unset] [(.int (2 : Int32)), (.int (i3 &&& (2147483647 : Int32)))]))
    refine Go.by (fun _ k => X48.irem (g := (mkF m 175 #[.val (.int i0), .val (.int i1), .val (.int i2), .val (.int i3), .val (.int (2 : Int32)), .val (.int (((i0 &&& (255 : Int32))).toUInt32.toUInt16.toUInt32.toInt32)), .val (.int ((((XT.ushr i0 (8 : Int32)) &&& (255 : Int32))).toUInt32.toUInt16.toUInt32.toInt32)), .val (.int ((((XT.ushr i0 (16 : Int32)) &&& (255 : Int32))).toUInt32.toUInt16.toUInt32.toInt32)), .val (.ref b33), .val (.ref b36), .val (.ref b39), .val (.int ((i2).toUInt32.toUInt16.toUInt32.toInt32)), .val (.int r46_0), .unset, .unset] [(.int (2 : Int32)), (.int (i3 &&& (2147483647 : Int32)))])) rfl rfl (by decide) at_175 _ k) ?_
    show Go _ _ _ _ (T48.setTop (mkF m 176 #[.val (.int i0), .val (.int i1), .val (.int i2), .val (.int i3), .val (.int (2 : Int32)), .val (.int (((i0 &&& (255 : Int32))).toUInt32.toUInt16.toUInt32.toInt32)), .val (.int ((((XT.ushr i0 (8 : Int32)) &&& (255 : Int32))).toUInt32.toUInt16.toUInt32.toInt32)), .val (.int ((((XT.ushr i0 (16 : Int32)) &&& (255 : Int32))).toUInt32.toUInt16.toUInt32.toInt32)), .val (.ref b33), .val (.ref b36), .val (.ref b39), .val (.int ((i2).toUInt32.toUInt16.toUInt32.toInt32)), .val (.int r46_0), .unset, .unset] [(.int ((i3 &&& (2147483647 : Int32)) % (2 : Int32)))]))
    obtain ⟨j, hj, ej⟩ := own_rem i3 (n := (2 : Int32)) (N := 2) rfl (by decide)
    refine Go.by (fun _ k => XS.istore X48.here X48.hx rfl (X48.cd at_176) rfl (l' := #[.val (.int i0), .val (.int i1), .val (.int i2), .val (.int i3), .val (.int (2 : Int32)), .val (.int (((i0 &&& (255 : Int32))).toUInt32.toUInt16.toUInt32.toInt32)), .val (.int ((((XT.ushr i0 (8 : Int32)) &&& (255 : Int32))).toUInt32.toUInt16.toUInt32.toInt32)), .val (.int ((((XT.ushr i0 (16 : Int32)) &&& (255 : Int32))).toUInt32.toUInt16.toUInt32.toInt32)), .val (.ref b33), .val (.ref b36), .val (.ref b39), .val (.int ((i2).toUInt32.toUInt16.toUInt32.toInt32)), .val (.int r46_0), .val (.int ((i3 &&& (2147483647 : Int32)) % (2 : Int32))), .unset]) rfl k) ?_
    show Go _ _ _ _ (T48.setTop (mkF m 178 #[.val (.int i0), .val (.int i1), .val (.int i2), .val (.int i3), .val (.int (2 : Int32)), .val (.int (((i0 &&& (255 : Int32))).toUInt32.toUInt16.toUInt32.toInt32)), .val (.int ((((XT.ushr i0 (8 : Int32)) &&& (255 : Int32))).toUInt32.toUInt16.toUInt32.toInt32)), .val (.int ((((XT.ushr i0 (16 : Int32)) &&& (255 : Int32))).toUInt32.toUInt16.toUInt32.toInt32)), .val (.ref b33), .val (.ref b36), .val (.ref b39), .val (.int ((i2).toUInt32.toUInt16.toUInt32.toInt32)), .val (.int r46_0), .val (.int ((i3 &&& (2147483647 : Int32)) % (2 : Int32))), .unset] []))
    refine Go.by (fun _ k => XS.iload X48.here X48.hx rfl (X48.cd at_178) rfl  k) ?_
    show Go _ _ _ _ (T48.setTop (mkF m 180 #[.val (.int i0), .val (.int i1), .val (.int i2), .val (.int i3), .val (.int (2 : Int32)), .val (.int (((i0 &&& (255 : Int32))).toUInt32.toUInt16.toUInt32.toInt32)), .val (.int ((((XT.ushr i0 (8 : Int32)) &&& (255 : Int32))).toUInt32.toUInt16.toUInt32.toInt32)), .val (.int ((((XT.ushr i0 (16 : Int32)) &&& (255 : Int32))).toUInt32.toUInt16.toUInt32.toInt32)), .val (.ref b33), .val (.ref b36), .val (.ref b39), .val (.int ((i2).toUInt32.toUInt16.toUInt32.toInt32)), .val (.int r46_0), .val (.int ((i3 &&& (2147483647 : Int32)) % (2 : Int32))), .unset] [(.int ((i3 &&& (2147483647 : Int32)) % (2 : Int32)))]))
    obtain ⟨r50_0, hr50, st50⟩ : ∃ (r50_0 : Int32), (((((i3 &&& (2147483647 : Int32)) % (2 : Int32)) = 0) ∧ r50_0 = (((i0 &&& (255 : Int32))).toUInt32.toUInt16.toUInt32.toInt32)) ∨ (¬ (((i3 &&& (2147483647 : Int32)) % (2 : Int32)) = 0) ∧ (((i3 &&& (2147483647 : Int32)) % (2 : Int32)) = (1 : Int32)) ∧ r50_0 = ((((XT.ushr i0 (8 : Int32)) &&& (255 : Int32))).toUInt32.toUInt16.toUInt32.toInt32)) ∨ (¬ (((i3 &&& (2147483647 : Int32)) % (2 : Int32)) = 0) ∧ ¬ (((i3 &&& (2147483647 : Int32)) % (2 : Int32)) = (1 : Int32)) ∧ r50_0 = ((((XT.ushr i0 (16 : Int32)) &&& (255 : Int32))).toUInt32.toUInt16.toUInt32.toInt32))) ∧ ∀ t, Steps p.tables e below (T48.setTop (mkF m 201 #[.val (.int i0), .val (.int i1), .val (.int i2), .val (.int i3), .val (.int (2 : Int32)), .val (.int (((i0 &&& (255 : Int32))).toUInt32.toUInt16.toUInt32.toInt32)), .val (.int ((((XT.ushr i0 (8 : Int32)) &&& (255 : Int32))).toUInt32.toUInt16.toUInt32.toInt32)), .val (.int ((((XT.ushr i0 (16 : Int32)) &&& (255 : Int32))).toUInt32.toUInt16.toUInt32.toInt32)), .val (.ref b33), .val (.ref b36), .val (.ref b39), .val (.int ((i2).toUInt32.toUInt16.toUInt32.toInt32)), .val (.int r46_0), .val (.int ((i3 &&& (2147483647 : Int32)) % (2 : Int32))), .unset] [(.int r50_0)])) t → Steps p.tables e below (T48.setTop (mkF m 180 #[.val (.int i0), .val (.int i1), .val (.int i2), .val (.int i3), .val (.int (2 : Int32)), .val (.int (((i0 &&& (255 : Int32))).toUInt32.toUInt16.toUInt32.toInt32)), .val (.int ((((XT.ushr i0 (8 : Int32)) &&& (255 : Int32))).toUInt32.toUInt16.toUInt32.toInt32)), .val (.int ((((XT.ushr i0 (16 : Int32)) &&& (255 : Int32))).toUInt32.toUInt16.toUInt32.toInt32)), .val (.ref b33), .val (.ref b36), .val (.ref b39), .val (.int ((i2).toUInt32.toUInt16.toUInt32.toInt32)), .val (.int r46_0), .val (.int ((i3 &&& (2147483647 : Int32)) % (2 : Int32))), .unset] [(.int ((i3 &&& (2147483647 : Int32)) % (2 : Int32)))])) t := by
      by_cases c50_0 : ((i3 &&& (2147483647 : Int32)) % (2 : Int32)) = 0
      · refine ⟨(((i0 &&& (255 : Int32))).toUInt32.toUInt16.toUInt32.toInt32), Or.inl ⟨c50_0, rfl⟩, fun t k => ?_⟩
        refine XS.ifNo X48.here X48.hx rfl (X48.cd at_180) rfl (XT.i0_ne_f c50_0) ?_
        show Steps p.tables e below (T48.setTop (mkF m 183 #[.val (.int i0), .val (.int i1), .val (.int i2), .val (.int i3), .val (.int (2 : Int32)), .val (.int (((i0 &&& (255 : Int32))).toUInt32.toUInt16.toUInt32.toInt32)), .val (.int ((((XT.ushr i0 (8 : Int32)) &&& (255 : Int32))).toUInt32.toUInt16.toUInt32.toInt32)), .val (.int ((((XT.ushr i0 (16 : Int32)) &&& (255 : Int32))).toUInt32.toUInt16.toUInt32.toInt32)), .val (.ref b33), .val (.ref b36), .val (.ref b39), .val (.int ((i2).toUInt32.toUInt16.toUInt32.toInt32)), .val (.int r46_0), .val (.int ((i3 &&& (2147483647 : Int32)) % (2 : Int32))), .unset] [])) t
        refine XS.iload X48.here X48.hx rfl (X48.cd at_183) rfl  ?_
        show Steps p.tables e below (T48.setTop (mkF m 185 #[.val (.int i0), .val (.int i1), .val (.int i2), .val (.int i3), .val (.int (2 : Int32)), .val (.int (((i0 &&& (255 : Int32))).toUInt32.toUInt16.toUInt32.toInt32)), .val (.int ((((XT.ushr i0 (8 : Int32)) &&& (255 : Int32))).toUInt32.toUInt16.toUInt32.toInt32)), .val (.int ((((XT.ushr i0 (16 : Int32)) &&& (255 : Int32))).toUInt32.toUInt16.toUInt32.toInt32)), .val (.ref b33), .val (.ref b36), .val (.ref b39), .val (.int ((i2).toUInt32.toUInt16.toUInt32.toInt32)), .val (.int r46_0), .val (.int ((i3 &&& (2147483647 : Int32)) % (2 : Int32))), .unset] [(.int (((i0 &&& (255 : Int32))).toUInt32.toUInt16.toUInt32.toInt32))])) t
        refine XS.goto X48.here X48.hx rfl (pc0 := 185) (pc' := 201) rfl (X48.cd at_185) (by decide) (by decide) ?_
        show Steps p.tables e below (T48.setTop (mkF m 201 #[.val (.int i0), .val (.int i1), .val (.int i2), .val (.int i3), .val (.int (2 : Int32)), .val (.int (((i0 &&& (255 : Int32))).toUInt32.toUInt16.toUInt32.toInt32)), .val (.int ((((XT.ushr i0 (8 : Int32)) &&& (255 : Int32))).toUInt32.toUInt16.toUInt32.toInt32)), .val (.int ((((XT.ushr i0 (16 : Int32)) &&& (255 : Int32))).toUInt32.toUInt16.toUInt32.toInt32)), .val (.ref b33), .val (.ref b36), .val (.ref b39), .val (.int ((i2).toUInt32.toUInt16.toUInt32.toInt32)), .val (.int r46_0), .val (.int ((i3 &&& (2147483647 : Int32)) % (2 : Int32))), .unset] [(.int (((i0 &&& (255 : Int32))).toUInt32.toUInt16.toUInt32.toInt32))])) t
        exact k
      · by_cases c50_1 : ((i3 &&& (2147483647 : Int32)) % (2 : Int32)) = (1 : Int32)
        · refine ⟨((((XT.ushr i0 (8 : Int32)) &&& (255 : Int32))).toUInt32.toUInt16.toUInt32.toInt32), Or.inr (Or.inl ⟨c50_0, c50_1, rfl⟩), fun t k => ?_⟩
          refine XS.ifYes X48.here X48.hx rfl (pc0 := 180) (pc' := 188) rfl (X48.cd at_180) rfl (XT.i0_ne_t c50_0) (by decide) (by decide) ?_
          show Steps p.tables e below (T48.setTop (mkF m 188 #[.val (.int i0), .val (.int i1), .val (.int i2), .val (.int i3), .val (.int (2 : Int32)), .val (.int (((i0 &&& (255 : Int32))).toUInt32.toUInt16.toUInt32.toInt32)), .val (.int ((((XT.ushr i0 (8 : Int32)) &&& (255 : Int32))).toUInt32.toUInt16.toUInt32.toInt32)), .val (.int ((((XT.ushr i0 (16 : Int32)) &&& (255 : Int32))).toUInt32.toUInt16.toUInt32.toInt32)), .val (.ref b33), .val (.ref b36), .val (.ref b39), .val (.int ((i2).toUInt32.toUInt16.toUInt32.toInt32)), .val (.int r46_0), .val (.int ((i3 &&& (2147483647 : Int32)) % (2 : Int32))), .unset] [])) t
          refine XS.iload X48.here X48.hx rfl (X48.cd at_188) rfl  ?_
          show Steps p.tables e below (T48.setTop (mkF m 190 #[.val (.int i0), .val (.int i1), .val (.int i2), .val (.int i3), .val (.int (2 : Int32)), .val (.int (((i0 &&& (255 : Int32))).toUInt32.toUInt16.toUInt32.toInt32)), .val (.int ((((XT.ushr i0 (8 : Int32)) &&& (255 : Int32))).toUInt32.toUInt16.toUInt32.toInt32)), .val (.int ((((XT.ushr i0 (16 : Int32)) &&& (255 : Int32))).toUInt32.toUInt16.toUInt32.toInt32)), .val (.ref b33), .val (.ref b36), .val (.ref b39), .val (.int ((i2).toUInt32.toUInt16.toUInt32.toInt32)), .val (.int r46_0), .val (.int ((i3 &&& (2147483647 : Int32)) % (2 : Int32))), .unset] [(.int ((i3 &&& (2147483647 : Int32)) % (2 : Int32)))])) t
          refine XS.iconst X48.here X48.hx rfl (X48.cd at_190)  ?_
          show Steps p.tables e below (T48.setTop (mkF m 191 #[.val (.int i0), .val (.int i1), .val (.int i2), .val (.int i3), .val (.int (2 : Int32)), .val (.int (((i0 &&& (255 : Int32))).toUInt32.toUInt16.toUInt32.toInt32)), .val (.int ((((XT.ushr i0 (8 : Int32)) &&& (255 : Int32))).toUInt32.toUInt16.toUInt32.toInt32)), .val (.int ((((XT.ushr i0 (16 : Int32)) &&& (255 : Int32))).toUInt32.toUInt16.toUInt32.toInt32)), .val (.ref b33), .val (.ref b36), .val (.ref b39), .val (.int ((i2).toUInt32.toUInt16.toUInt32.toInt32)), .val (.int r46_0), .val (.int ((i3 &&& (2147483647 : Int32)) % (2 : Int32))), .unset] [(.int (1 : Int32)), (.int ((i3 &&& (2147483647 : Int32)) % (2 : Int32)))])) t
          refine XS.icmpNo X48.here X48.hx rfl (X48.cd at_191) rfl (XT.ii_ne_f c50_1) ?_
          show Steps p.tables e below (T48.setTop (mkF m 194 #[.val (.int i0), .val (.int i1), .val (.int i2), .val (.int i3), .val (.int (2 : Int32)), .val (.int (((i0 &&& (255 : Int32))).toUInt32.toUInt16.toUInt32.toInt32)), .val (.int ((((XT.ushr i0 (8 : Int32)) &&& (255 : Int32))).toUInt32.toUInt16.toUInt32.toInt32)), .val (.int ((((XT.ushr i0 (16 : Int32)) &&& (255 : Int32))).toUInt32.toUInt16.toUInt32.toInt32)), .val (.ref b33), .val (.ref b36), .val (.ref b39), .val (.int ((i2).toUInt32.toUInt16.toUInt32.toInt32)), .val (.int r46_0), .val (.int ((i3 &&& (2147483647 : Int32)) % (2 : Int32))), .unset] [])) t
          refine XS.iload X48.here X48.hx rfl (X48.cd at_194) rfl  ?_
          show Steps p.tables e below (T48.setTop (mkF m 196 #[.val (.int i0), .val (.int i1), .val (.int i2), .val (.int i3), .val (.int (2 : Int32)), .val (.int (((i0 &&& (255 : Int32))).toUInt32.toUInt16.toUInt32.toInt32)), .val (.int ((((XT.ushr i0 (8 : Int32)) &&& (255 : Int32))).toUInt32.toUInt16.toUInt32.toInt32)), .val (.int ((((XT.ushr i0 (16 : Int32)) &&& (255 : Int32))).toUInt32.toUInt16.toUInt32.toInt32)), .val (.ref b33), .val (.ref b36), .val (.ref b39), .val (.int ((i2).toUInt32.toUInt16.toUInt32.toInt32)), .val (.int r46_0), .val (.int ((i3 &&& (2147483647 : Int32)) % (2 : Int32))), .unset] [(.int ((((XT.ushr i0 (8 : Int32)) &&& (255 : Int32))).toUInt32.toUInt16.toUInt32.toInt32))])) t
          refine XS.goto X48.here X48.hx rfl (pc0 := 196) (pc' := 201) rfl (X48.cd at_196) (by decide) (by decide) ?_
          show Steps p.tables e below (T48.setTop (mkF m 201 #[.val (.int i0), .val (.int i1), .val (.int i2), .val (.int i3), .val (.int (2 : Int32)), .val (.int (((i0 &&& (255 : Int32))).toUInt32.toUInt16.toUInt32.toInt32)), .val (.int ((((XT.ushr i0 (8 : Int32)) &&& (255 : Int32))).toUInt32.toUInt16.toUInt32.toInt32)), .val (.int ((((XT.ushr i0 (16 : Int32)) &&& (255 : Int32))).toUInt32.toUInt16.toUInt32.toInt32)), .val (.ref b33), .val (.ref b36), .val (.ref b39), .val (.int ((i2).toUInt32.toUInt16.toUInt32.toInt32)), .val (.int r46_0), .val (.int ((i3 &&& (2147483647 : Int32)) % (2 : Int32))), .unset] [(.int ((((XT.ushr i0 (8 : Int32)) &&& (255 : Int32))).toUInt32.toUInt16.toUInt32.toInt32))])) t
          exact k
        · refine ⟨((((XT.ushr i0 (16 : Int32)) &&& (255 : Int32))).toUInt32.toUInt16.toUInt32.toInt32), Or.inr (Or.inr (⟨c50_0, c50_1, rfl⟩)), fun t k => ?_⟩
          refine XS.ifYes X48.here X48.hx rfl (pc0 := 180) (pc' := 188) rfl (X48.cd at_180) rfl (XT.i0_ne_t c50_0) (by decide) (by decide) ?_
          show Steps p.tables e below (T48.setTop (mkF m 188 #[.val (.int i0), .val (.int i1), .val (.int i2), .val (.int i3), .val (.int (2 : Int32)), .val (.int (((i0 &&& (255 : Int32))).toUInt32.toUInt16.toUInt32.toInt32)), .val (.int ((((XT.ushr i0 (8 : Int32)) &&& (255 : Int32))).toUInt32.toUInt16.toUInt32.toInt32)), .val (.int ((((XT.ushr i0 (16 : Int32)) &&& (255 : Int32))).toUInt32.toUInt16.toUInt32.toInt32)), .val (.ref b33), .val (.ref b36), .val (.ref b39), .val (.int ((i2).toUInt32.toUInt16.toUInt32.toInt32)), .val (.int r46_0), .val (.int ((i3 &&& (2147483647 : Int32)) % (2 : Int32))), .unset] [])) t
          refine XS.iload X48.here X48.hx rfl (X48.cd at_188) rfl  ?_
          show Steps p.tables e below (T48.setTop (mkF m 190 #[.val (.int i0), .val (.int i1), .val (.int i2), .val (.int i3), .val (.int (2 : Int32)), .val (.int (((i0 &&& (255 : Int32))).toUInt32.toUInt16.toUInt32.toInt32)), .val (.int ((((XT.ushr i0 (8 : Int32)) &&& (255 : Int32))).toUInt32.toUInt16.toUInt32.toInt32)), .val (.int ((((XT.ushr i0 (16 : Int32)) &&& (255 : Int32))).toUInt32.toUInt16.toUInt32.toInt32)), .val (.ref b33), .val (.ref b36), .val (.ref b39), .val (.int ((i2).toUInt32.toUInt16.toUInt32.toInt32)), .val (.int r46_0), .val (.int ((i3 &&& (2147483647 : Int32)) % (2 : Int32))), .unset] [(.int ((i3 &&& (2147483647 : Int32)) % (2 : Int32)))])) t
          refine XS.iconst X48.here X48.hx rfl (X48.cd at_190)  ?_
          show Steps p.tables e below (T48.setTop (mkF m 191 #[.val (.int i0), .val (.int i1), .val (.int i2), .val (.int i3), .val (.int (2 : Int32)), .val (.int (((i0 &&& (255 : Int32))).toUInt32.toUInt16.toUInt32.toInt32)), .val (.int ((((XT.ushr i0 (8 : Int32)) &&& (255 : Int32))).toUInt32.toUInt16.toUInt32.toInt32)), .val (.int ((((XT.ushr i0 (16 : Int32)) &&& (255 : Int32))).toUInt32.toUInt16.toUInt32.toInt32)), .val (.ref b33), .val (.ref b36), .val (.ref b39), .val (.int ((i2).toUInt32.toUInt16.toUInt32.toInt32)), .val (.int r46_0), .val (.int ((i3 &&& (2147483647 : Int32)) % (2 : Int32))), .unset] [(.int (1 : Int32)), (.int ((i3 &&& (2147483647 : Int32)) % (2 : Int32)))])) t
          refine XS.icmpYes X48.here X48.hx rfl (pc0 := 191) (pc' := 199) rfl (X48.cd at_191) rfl (XT.ii_ne_t c50_1) (by decide) (by decide) ?_
          show Steps p.tables e below (T48.setTop (mkF m 199 #[.val (.int i0), .val (.int i1), .val (.int i2), .val (.int i3), .val (.int (2 : Int32)), .val (.int (((i0 &&& (255 : Int32))).toUInt32.toUInt16.toUInt32.toInt32)), .val (.int ((((XT.ushr i0 (8 : Int32)) &&& (255 : Int32))).toUInt32.toUInt16.toUInt32.toInt32)), .val (.int ((((XT.ushr i0 (16 : Int32)) &&& (255 : Int32))).toUInt32.toUInt16.toUInt32.toInt32)), .val (.ref b33), .val (.ref b36), .val (.ref b39), .val (.int ((i2).toUInt32.toUInt16.toUInt32.toInt32)), .val (.int r46_0), .val (.int ((i3 &&& (2147483647 : Int32)) % (2 : Int32))), .unset] [])) t
          refine XS.iload X48.here X48.hx rfl (X48.cd at_199) rfl  ?_
          show Steps p.tables e below (T48.setTop (mkF m 201 #[.val (.int i0), .val (.int i1), .val (.int i2), .val (.int i3), .val (.int (2 : Int32)), .val (.int (((i0 &&& (255 : Int32))).toUInt32.toUInt16.toUInt32.toInt32)), .val (.int ((((XT.ushr i0 (8 : Int32)) &&& (255 : Int32))).toUInt32.toUInt16.toUInt32.toInt32)), .val (.int ((((XT.ushr i0 (16 : Int32)) &&& (255 : Int32))).toUInt32.toUInt16.toUInt32.toInt32)), .val (.ref b33), .val (.ref b36), .val (.ref b39), .val (.int ((i2).toUInt32.toUInt16.toUInt32.toInt32)), .val (.int r46_0), .val (.int ((i3 &&& (2147483647 : Int32)) % (2 : Int32))), .unset] [(.int ((((XT.ushr i0 (16 : Int32)) &&& (255 : Int32))).toUInt32.toUInt16.toUInt32.toInt32))])) t
          exact k
    refine Go.by (fun _ k => st50 _ k) ?_
    show Go _ _ _ _ (T48.setTop (mkF m 201 #[.val (.int i0), .val (.int i1), .val (.int i2), .val (.int i3), .val (.int (2 : Int32)), .val (.int (((i0 &&& (255 : Int32))).toUInt32.toUInt16.toUInt32.toInt32)), .val (.int ((((XT.ushr i0 (8 : Int32)) &&& (255 : Int32))).toUInt32.toUInt16.toUInt32.toInt32)), .val (.int ((((XT.ushr i0 (16 : Int32)) &&& (255 : Int32))).toUInt32.toUInt16.toUInt32.toInt32)), .val (.ref b33), .val (.ref b36), .val (.ref b39), .val (.int ((i2).toUInt32.toUInt16.toUInt32.toInt32)), .val (.int r46_0), .val (.int ((i3 &&& (2147483647 : Int32)) % (2 : Int32))), .unset] [(.int r50_0)]))
    refine Go.by (fun _ k => XS.istore X48.here X48.hx rfl (X48.cd at_201) rfl (l' := #[.val (.int i0), .val (.int i1), .val (.int i2), .val (.int i3), .val (.int (2 : Int32)), .val (.int (((i0 &&& (255 : Int32))).toUInt32.toUInt16.toUInt32.toInt32)), .val (.int ((((XT.ushr i0 (8 : Int32)) &&& (255 : Int32))).toUInt32.toUInt16.toUInt32.toInt32)), .val (.int ((((XT.ushr i0 (16 : Int32)) &&& (255 : Int32))).toUInt32.toUInt16.toUInt32.toInt32)), .val (.ref b33), .val (.ref b36), .val (.ref b39), .val (.int ((i2).toUInt32.toUInt16.toUInt32.toInt32)), .val (.int r46_0), .val (.int ((i3 &&& (2147483647 : Int32)) % (2 : Int32))), .val (.int r50_0)]) rfl k) ?_
    show Go _ _ _ _ (T48.setTop (mkF m 203 #[.val (.int i0), .val (.int i1), .val (.int i2), .val (.int i3), .val (.int (2 : Int32)), .val (.int (((i0 &&& (255 : Int32))).toUInt32.toUInt16.toUInt32.toInt32)), .val (.int ((((XT.ushr i0 (8 : Int32)) &&& (255 : Int32))).toUInt32.toUInt16.toUInt32.toInt32)), .val (.int ((((XT.ushr i0 (16 : Int32)) &&& (255 : Int32))).toUInt32.toUInt16.toUInt32.toInt32)), .val (.ref b33), .val (.ref b36), .val (.ref b39), .val (.int ((i2).toUInt32.toUInt16.toUInt32.toInt32)), .val (.int r46_0), .val (.int ((i3 &&& (2147483647 : Int32)) % (2 : Int32))), .val (.int r50_0)] []))
    refine Go.by (fun _ k => XS.aload X48.here X48.hx rfl (X48.cd at_203) rfl rfl k) ?_
    show Go _ _ _ _ (T48.setTop (mkF m 205 #[.val (.int i0), .val (.int i1), .val (.int i2), .val (.int i3), .val (.int (2 : Int32)), .val (.int (((i0 &&& (255 : Int32))).toUInt32.toUInt16.toUInt32.toInt32)), .val (.int ((((XT.ushr i0 (8 : Int32)) &&& (255 : Int32))).toUInt32.toUInt16.toUInt32.toInt32)), .val (.int ((((XT.ushr i0 (16 : Int32)) &&& (255 : Int32))).toUInt32.toUInt16.toUInt32.toInt32)), .val (.ref b33), .val (.ref b36), .val (.ref b39), .val (.int ((i2).toUInt32.toUInt16.toUInt32.toInt32)), .val (.int r46_0), .val (.int ((i3 &&& (2147483647 : Int32)) % (2 : Int32))), .val (.int r50_0)] [(.ref b39)]))
    refine Go.by (fun _ k => XS.iload X48.here X48.hx rfl (X48.cd at_205) rfl  k) ?_
    show Go _ _ _ _ (T48.setTop (mkF m 207 #[.val (.int i0), .val (.int i1), .val (.int i2), .val (.int i3), .val (.int (2 : Int32)), .val (.int (((i0 &&& (255 : Int32))).toUInt32.toUInt16.toUInt32.toInt32)), .val (.int ((((XT.ushr i0 (8 : Int32)) &&& (255 : Int32))).toUInt32.toUInt16.toUInt32.toInt32)), .val (.int ((((XT.ushr i0 (16 : Int32)) &&& (255 : Int32))).toUInt32.toUInt16.toUInt32.toInt32)), .val (.ref b33), .val (.ref b36), .val (.ref b39), .val (.int ((i2).toUInt32.toUInt16.toUInt32.toInt32)), .val (.int r46_0), .val (.int ((i3 &&& (2147483647 : Int32)) % (2 : Int32))), .val (.int r50_0)] [(.int r50_0), (.ref b39)]))
    obtain ⟨_, T51, h51, X51, K51, ⟨r_51, rfl, rfl, p51_0⟩, st51⟩ := X48.viN (W := 0) (hw _ (List.mem_of_getElem? (i := 51) rfl)) (hw _ (List.mem_of_getElem? (i := 52) rfl)) (hw _ (List.mem_of_getElem? (i := 54) rfl)) (hw _ (List.mem_of_getElem? (i := 53) rfl)) (by decide) ((rm_has l Z a0 hw n0 b39 r50_0 b36 t_38 [(((i0 &&& (255 : Int32))).toUInt32.toUInt16.toUInt32.toInt32), ((((XT.ushr i0 (8 : Int32)) &&& (255 : Int32))).toUInt32.toUInt16.toUInt32.toInt32)] zc h45 X48.old P45_0 f47 Sc nc (all1 (c255 _) (all1 (c255 _) alln))).pay (hw _ (List.mem_of_getElem? (i := 55) rfl)) (hw _ (List.mem_of_getElem? (i := 32) rfl)) (by decide) (by decide)) all0 f49 (g := (mkF m 207 #[.val (.int i0), .val (.int i1), .val (.int i2), .val (.int i3), .val (.int (2 : Int32)), .val (.int (((i0 &&& (255 : Int32))).toUInt32.toUInt16.toUInt32.toInt32)), .val (.int ((((XT.ushr i0 (8 : Int32)) &&& (255 : Int32))).toUInt32.toUInt16.toUInt32.toInt32)), .val (.int ((((XT.ushr i0 (16 : Int32)) &&& (255 : Int32))).toUInt32.toUInt16.toUInt32.toInt32)), .val (.ref b33), .val (.ref b36), .val (.ref b39), .val (.int ((i2).toUInt32.toUInt16.toUInt32.toInt32)), .val (.int r46_0), .val (.int ((i3 &&& (2147483647 : Int32)) % (2 : Int32))), .val (.int r50_0)] [(.int r50_0), (.ref b39)])) rfl rfl (argsL := [(.int r50_0)]) (rest := []) (lenOf pd_10 rfl) rfl (by exact Nat.le_of_eq rfl) at_207 rfl (by decide) (by decide)
    refine Go.tr st51 ?_
    show Go _ _ _ _ (T51.setTop (mkF m 210 #[.val (.int i0), .val (.int i1), .val (.int i2), .val (.int i3), .val (.int (2 : Int32)), .val (.int (((i0 &&& (255 : Int32))).toUInt32.toUInt16.toUInt32.toInt32)), .val (.int ((((XT.ushr i0 (8 : Int32)) &&& (255 : Int32))).toUInt32.toUInt16.toUInt32.toInt32)), .val (.int ((((XT.ushr i0 (16 : Int32)) &&& (255 : Int32))).toUInt32.toUInt16.toUInt32.toInt32)), .val (.ref b33), .val (.ref b36), .val (.ref b39), .val (.int ((i2).toUInt32.toUInt16.toUInt32.toInt32)), .val (.int r46_0), .val (.int ((i3 &&& (2147483647 : Int32)) % (2 : Int32))), .val (.int r50_0)] [(.int r_51)]))
    have hm : r50_0 ∈ ([((i0 &&& (255 : Int32))).toUInt32.toUInt16.toUInt32.toInt32, (((XT.ushr i0 (8 : Int32)) &&& (255 : Int32))).toUInt32.toUInt16.toUInt32.toInt32] : List Int32) := by
      have d0 : j = 0 ∨ j = 1 ∨ j = 2 := by omega
      rcases hr50 with ⟨_, q⟩ | ⟨q0, q1, q⟩ | ⟨q0, q1, q⟩
      · rw [q]; simp
      · rw [ej] at q0 q1; rcases d0 with rfl | rfl | rfl <;> first | exact absurd rfl q0 | exact absurd q1 (by decide) | (exfalso; omega) | (rw [q]; simp)
      · rw [ej] at q0 q1; rcases d0 with rfl | rfl | rfl <;> first | exact absurd rfl q0 | exact absurd rfl q1 | (exfalso; omega) | (rw [q]; simp)
    refine Go.by (fun _ k => XS.ifYes X51.here X51.hx rfl (pc0 := 210) (pc' := 215) rfl (X51.cd at_210) rfl (XT.i0_ne_t (fun z => z01_no p51_0 z hm)) (by decide) (by decide) k) ?_
    show Go _ _ _ _ (T51.setTop (mkF m 215 #[.val (.int i0), .val (.int i1), .val (.int i2), .val (.int i3), .val (.int (2 : Int32)), .val (.int (((i0 &&& (255 : Int32))).toUInt32.toUInt16.toUInt32.toInt32)), .val (.int ((((XT.ushr i0 (8 : Int32)) &&& (255 : Int32))).toUInt32.toUInt16.toUInt32.toInt32)), .val (.int ((((XT.ushr i0 (16 : Int32)) &&& (255 : Int32))).toUInt32.toUInt16.toUInt32.toInt32)), .val (.ref b33), .val (.ref b36), .val (.ref b39), .val (.int ((i2).toUInt32.toUInt16.toUInt32.toInt32)), .val (.int r46_0), .val (.int ((i3 &&& (2147483647 : Int32)) % (2 : Int32))), .val (.int r50_0)] []))
    refine Go.by (fun _ k => XS.iconst X51.here X51.hx rfl (X51.cd at_215)  k) ?_
    show Go _ _ _ _ (T51.setTop (mkF m 216 #[.val (.int i0), .val (.int i1), .val (.int i2), .val (.int i3), .val (.int (2 : Int32)), .val (.int (((i0 &&& (255 : Int32))).toUInt32.toUInt16.toUInt32.toInt32)), .val (.int ((((XT.ushr i0 (8 : Int32)) &&& (255 : Int32))).toUInt32.toUInt16.toUInt32.toInt32)), .val (.int ((((XT.ushr i0 (16 : Int32)) &&& (255 : Int32))).toUInt32.toUInt16.toUInt32.toInt32)), .val (.ref b33), .val (.ref b36), .val (.ref b39), .val (.int ((i2).toUInt32.toUInt16.toUInt32.toInt32)), .val (.int r46_0), .val (.int ((i3 &&& (2147483647 : Int32)) % (2 : Int32))), .val (.int r50_0)] [(.int (1 : Int32))]))
    exact X51.retN (by simp) rfl at_216 K0_h45 rfl (by decide) (by decide)
  · rw [hn]
    show Go _ _ _ _ (T0.setTop (mkF m 3 #[.val (.int i0), .val (.int i1), .val (.int i2), .val (.int i3), .unset, .unset, .unset, .unset, .unset, .unset, .unset, .unset, .unset, .unset, .unset] [(.int (3 : Int32))]))
    refine Go.by (fun _ k => XS.istore X0.here X0.hx rfl (X0.cd at_3) rfl (l' := #[.val (.int i0), .val (.int i1), .val (.int i2), .val (.int i3), .val (.int (3 : Int32)), .unset, .unset, .unset, .unset, .unset, .unset, .unset, .unset, .unset, .unset]) rfl k) ?_
    show Go _ _ _ _ (T0.setTop (mkF m 5 #[.val (.int i0), .val (.int i1), .val (.int i2), .val (.int i3), .val (.int (3 : Int32)), .unset, .unset, .unset, .unset, .unset, .unset, .unset, .unset, .unset, .unset] []))
    refine Go.by (fun _ k => XS.iloadN X0.here X0.hx rfl (X0.cd at_5) rfl  k) ?_
    show Go _ _ _ _ (T0.setTop (mkF m 6 #[.val (.int i0), .val (.int i1), .val (.int i2), .val (.int i3), .val (.int (3 : Int32)), .unset, .unset, .unset, .unset, .unset, .unset, .unset, .unset, .unset, .unset] [(.int i0)]))
    refine Go.by (fun _ k => XS.sipush X0.here X0.hx rfl (X0.cd at_6)  k) ?_
    show Go _ _ _ _ (T0.setTop (mkF m 9 #[.val (.int i0), .val (.int i1), .val (.int i2), .val (.int i3), .val (.int (3 : Int32)), .unset, .unset, .unset, .unset, .unset, .unset, .unset, .unset, .unset, .unset] [(.int (255 : Int32)), (.int i0)]))
    refine Go.by (fun _ k => XS.iand X0.here X0.hx rfl (X0.cd at_9) rfl k) ?_
    show Go _ _ _ _ (T0.setTop (mkF m 10 #[.val (.int i0), .val (.int i1), .val (.int i2), .val (.int i3), .val (.int (3 : Int32)), .unset, .unset, .unset, .unset, .unset, .unset, .unset, .unset, .unset, .unset] [(.int (i0 &&& (255 : Int32)))]))
    refine Go.by (fun _ k => XS.i2c X0.here X0.hx rfl (X0.cd at_10) rfl k) ?_
    show Go _ _ _ _ (T0.setTop (mkF m 11 #[.val (.int i0), .val (.int i1), .val (.int i2), .val (.int i3), .val (.int (3 : Int32)), .unset, .unset, .unset, .unset, .unset, .unset, .unset, .unset, .unset, .unset] [(.int (((i0 &&& (255 : Int32))).toUInt32.toUInt16.toUInt32.toInt32))]))
    refine Go.by (fun _ k => XS.istore X0.here X0.hx rfl (X0.cd at_11) rfl (l' := #[.val (.int i0), .val (.int i1), .val (.int i2), .val (.int i3), .val (.int (3 : Int32)), .val (.int (((i0 &&& (255 : Int32))).toUInt32.toUInt16.toUInt32.toInt32)), .unset, .unset, .unset, .unset, .unset, .unset, .unset, .unset, .unset]) rfl k) ?_
    show Go _ _ _ _ (T0.setTop (mkF m 13 #[.val (.int i0), .val (.int i1), .val (.int i2), .val (.int i3), .val (.int (3 : Int32)), .val (.int (((i0 &&& (255 : Int32))).toUInt32.toUInt16.toUInt32.toInt32)), .unset, .unset, .unset, .unset, .unset, .unset, .unset, .unset, .unset] []))
    refine Go.by (fun _ k => XS.iloadN X0.here X0.hx rfl (X0.cd at_13) rfl  k) ?_
    show Go _ _ _ _ (T0.setTop (mkF m 14 #[.val (.int i0), .val (.int i1), .val (.int i2), .val (.int i3), .val (.int (3 : Int32)), .val (.int (((i0 &&& (255 : Int32))).toUInt32.toUInt16.toUInt32.toInt32)), .unset, .unset, .unset, .unset, .unset, .unset, .unset, .unset, .unset] [(.int i0)]))
    refine Go.by (fun _ k => XS.bipush X0.here X0.hx rfl (X0.cd at_14)  k) ?_
    show Go _ _ _ _ (T0.setTop (mkF m 16 #[.val (.int i0), .val (.int i1), .val (.int i2), .val (.int i3), .val (.int (3 : Int32)), .val (.int (((i0 &&& (255 : Int32))).toUInt32.toUInt16.toUInt32.toInt32)), .unset, .unset, .unset, .unset, .unset, .unset, .unset, .unset, .unset] [(.int (8 : Int32)), (.int i0)]))
    refine Go.by (fun _ k => XS.iushr X0.here X0.hx rfl (X0.cd at_16) rfl k) ?_
    show Go _ _ _ _ (T0.setTop (mkF m 17 #[.val (.int i0), .val (.int i1), .val (.int i2), .val (.int i3), .val (.int (3 : Int32)), .val (.int (((i0 &&& (255 : Int32))).toUInt32.toUInt16.toUInt32.toInt32)), .unset, .unset, .unset, .unset, .unset, .unset, .unset, .unset, .unset] [(.int (XT.ushr i0 (8 : Int32)))]))
    refine Go.by (fun _ k => XS.sipush X0.here X0.hx rfl (X0.cd at_17)  k) ?_
    show Go _ _ _ _ (T0.setTop (mkF m 20 #[.val (.int i0), .val (.int i1), .val (.int i2), .val (.int i3), .val (.int (3 : Int32)), .val (.int (((i0 &&& (255 : Int32))).toUInt32.toUInt16.toUInt32.toInt32)), .unset, .unset, .unset, .unset, .unset, .unset, .unset, .unset, .unset] [(.int (255 : Int32)), (.int (XT.ushr i0 (8 : Int32)))]))
    refine Go.by (fun _ k => XS.iand X0.here X0.hx rfl (X0.cd at_20) rfl k) ?_
    show Go _ _ _ _ (T0.setTop (mkF m 21 #[.val (.int i0), .val (.int i1), .val (.int i2), .val (.int i3), .val (.int (3 : Int32)), .val (.int (((i0 &&& (255 : Int32))).toUInt32.toUInt16.toUInt32.toInt32)), .unset, .unset, .unset, .unset, .unset, .unset, .unset, .unset, .unset] [(.int ((XT.ushr i0 (8 : Int32)) &&& (255 : Int32)))]))
    refine Go.by (fun _ k => XS.i2c X0.here X0.hx rfl (X0.cd at_21) rfl k) ?_
    show Go _ _ _ _ (T0.setTop (mkF m 22 #[.val (.int i0), .val (.int i1), .val (.int i2), .val (.int i3), .val (.int (3 : Int32)), .val (.int (((i0 &&& (255 : Int32))).toUInt32.toUInt16.toUInt32.toInt32)), .unset, .unset, .unset, .unset, .unset, .unset, .unset, .unset, .unset] [(.int ((((XT.ushr i0 (8 : Int32)) &&& (255 : Int32))).toUInt32.toUInt16.toUInt32.toInt32))]))
    refine Go.by (fun _ k => XS.istore X0.here X0.hx rfl (X0.cd at_22) rfl (l' := #[.val (.int i0), .val (.int i1), .val (.int i2), .val (.int i3), .val (.int (3 : Int32)), .val (.int (((i0 &&& (255 : Int32))).toUInt32.toUInt16.toUInt32.toInt32)), .val (.int ((((XT.ushr i0 (8 : Int32)) &&& (255 : Int32))).toUInt32.toUInt16.toUInt32.toInt32)), .unset, .unset, .unset, .unset, .unset, .unset, .unset, .unset]) rfl k) ?_
    show Go _ _ _ _ (T0.setTop (mkF m 24 #[.val (.int i0), .val (.int i1), .val (.int i2), .val (.int i3), .val (.int (3 : Int32)), .val (.int (((i0 &&& (255 : Int32))).toUInt32.toUInt16.toUInt32.toInt32)), .val (.int ((((XT.ushr i0 (8 : Int32)) &&& (255 : Int32))).toUInt32.toUInt16.toUInt32.toInt32)), .unset, .unset, .unset, .unset, .unset, .unset, .unset, .unset] []))
    refine Go.by (fun _ k => XS.iloadN X0.here X0.hx rfl (X0.cd at_24) rfl  k) ?_
    show Go _ _ _ _ (T0.setTop (mkF m 25 #[.val (.int i0), .val (.int i1), .val (.int i2), .val (.int i3), .val (.int (3 : Int32)), .val (.int (((i0 &&& (255 : Int32))).toUInt32.toUInt16.toUInt32.toInt32)), .val (.int ((((XT.ushr i0 (8 : Int32)) &&& (255 : Int32))).toUInt32.toUInt16.toUInt32.toInt32)), .unset, .unset, .unset, .unset, .unset, .unset, .unset, .unset] [(.int i0)]))
    refine Go.by (fun _ k => XS.bipush X0.here X0.hx rfl (X0.cd at_25)  k) ?_
    show Go _ _ _ _ (T0.setTop (mkF m 27 #[.val (.int i0), .val (.int i1), .val (.int i2), .val (.int i3), .val (.int (3 : Int32)), .val (.int (((i0 &&& (255 : Int32))).toUInt32.toUInt16.toUInt32.toInt32)), .val (.int ((((XT.ushr i0 (8 : Int32)) &&& (255 : Int32))).toUInt32.toUInt16.toUInt32.toInt32)), .unset, .unset, .unset, .unset, .unset, .unset, .unset, .unset] [(.int (16 : Int32)), (.int i0)]))
    refine Go.by (fun _ k => XS.iushr X0.here X0.hx rfl (X0.cd at_27) rfl k) ?_
    show Go _ _ _ _ (T0.setTop (mkF m 28 #[.val (.int i0), .val (.int i1), .val (.int i2), .val (.int i3), .val (.int (3 : Int32)), .val (.int (((i0 &&& (255 : Int32))).toUInt32.toUInt16.toUInt32.toInt32)), .val (.int ((((XT.ushr i0 (8 : Int32)) &&& (255 : Int32))).toUInt32.toUInt16.toUInt32.toInt32)), .unset, .unset, .unset, .unset, .unset, .unset, .unset, .unset] [(.int (XT.ushr i0 (16 : Int32)))]))
    refine Go.by (fun _ k => XS.sipush X0.here X0.hx rfl (X0.cd at_28)  k) ?_
    show Go _ _ _ _ (T0.setTop (mkF m 31 #[.val (.int i0), .val (.int i1), .val (.int i2), .val (.int i3), .val (.int (3 : Int32)), .val (.int (((i0 &&& (255 : Int32))).toUInt32.toUInt16.toUInt32.toInt32)), .val (.int ((((XT.ushr i0 (8 : Int32)) &&& (255 : Int32))).toUInt32.toUInt16.toUInt32.toInt32)), .unset, .unset, .unset, .unset, .unset, .unset, .unset, .unset] [(.int (255 : Int32)), (.int (XT.ushr i0 (16 : Int32)))]))
    refine Go.by (fun _ k => XS.iand X0.here X0.hx rfl (X0.cd at_31) rfl k) ?_
    show Go _ _ _ _ (T0.setTop (mkF m 32 #[.val (.int i0), .val (.int i1), .val (.int i2), .val (.int i3), .val (.int (3 : Int32)), .val (.int (((i0 &&& (255 : Int32))).toUInt32.toUInt16.toUInt32.toInt32)), .val (.int ((((XT.ushr i0 (8 : Int32)) &&& (255 : Int32))).toUInt32.toUInt16.toUInt32.toInt32)), .unset, .unset, .unset, .unset, .unset, .unset, .unset, .unset] [(.int ((XT.ushr i0 (16 : Int32)) &&& (255 : Int32)))]))
    refine Go.by (fun _ k => XS.i2c X0.here X0.hx rfl (X0.cd at_32) rfl k) ?_
    show Go _ _ _ _ (T0.setTop (mkF m 33 #[.val (.int i0), .val (.int i1), .val (.int i2), .val (.int i3), .val (.int (3 : Int32)), .val (.int (((i0 &&& (255 : Int32))).toUInt32.toUInt16.toUInt32.toInt32)), .val (.int ((((XT.ushr i0 (8 : Int32)) &&& (255 : Int32))).toUInt32.toUInt16.toUInt32.toInt32)), .unset, .unset, .unset, .unset, .unset, .unset, .unset, .unset] [(.int ((((XT.ushr i0 (16 : Int32)) &&& (255 : Int32))).toUInt32.toUInt16.toUInt32.toInt32))]))
    refine Go.by (fun _ k => XS.istore X0.here X0.hx rfl (X0.cd at_33) rfl (l' := #[.val (.int i0), .val (.int i1), .val (.int i2), .val (.int i3), .val (.int (3 : Int32)), .val (.int (((i0 &&& (255 : Int32))).toUInt32.toUInt16.toUInt32.toInt32)), .val (.int ((((XT.ushr i0 (8 : Int32)) &&& (255 : Int32))).toUInt32.toUInt16.toUInt32.toInt32)), .val (.int ((((XT.ushr i0 (16 : Int32)) &&& (255 : Int32))).toUInt32.toUInt16.toUInt32.toInt32)), .unset, .unset, .unset, .unset, .unset, .unset, .unset]) rfl k) ?_
    show Go _ _ _ _ (T0.setTop (mkF m 35 #[.val (.int i0), .val (.int i1), .val (.int i2), .val (.int i3), .val (.int (3 : Int32)), .val (.int (((i0 &&& (255 : Int32))).toUInt32.toUInt16.toUInt32.toInt32)), .val (.int ((((XT.ushr i0 (8 : Int32)) &&& (255 : Int32))).toUInt32.toUInt16.toUInt32.toInt32)), .val (.int ((((XT.ushr i0 (16 : Int32)) &&& (255 : Int32))).toUInt32.toUInt16.toUInt32.toInt32)), .unset, .unset, .unset, .unset, .unset, .unset, .unset] []))
    refine Go.by (fun _ k => XS.iload X0.here X0.hx rfl (X0.cd at_35) rfl  k) ?_
    show Go _ _ _ _ (T0.setTop (mkF m 37 #[.val (.int i0), .val (.int i1), .val (.int i2), .val (.int i3), .val (.int (3 : Int32)), .val (.int (((i0 &&& (255 : Int32))).toUInt32.toUInt16.toUInt32.toInt32)), .val (.int ((((XT.ushr i0 (8 : Int32)) &&& (255 : Int32))).toUInt32.toUInt16.toUInt32.toInt32)), .val (.int ((((XT.ushr i0 (16 : Int32)) &&& (255 : Int32))).toUInt32.toUInt16.toUInt32.toInt32)), .unset, .unset, .unset, .unset, .unset, .unset, .unset] [(.int (3 : Int32))]))
    obtain ⟨T52, h52, b52, k52, g_b52, X52, E52, A52, st52⟩ := X0.newP (hw _ (List.mem_of_getElem? (i := 0) rfl)) (g := (mkF m 37 #[.val (.int i0), .val (.int i1), .val (.int i2), .val (.int i3), .val (.int (3 : Int32)), .val (.int (((i0 &&& (255 : Int32))).toUInt32.toUInt16.toUInt32.toInt32)), .val (.int ((((XT.ushr i0 (8 : Int32)) &&& (255 : Int32))).toUInt32.toUInt16.toUInt32.toInt32)), .val (.int ((((XT.ushr i0 (16 : Int32)) &&& (255 : Int32))).toUInt32.toUInt16.toUInt32.toInt32)), .unset, .unset, .unset, .unset, .unset, .unset, .unset] [(.int (3 : Int32))])) rfl at_37 rfl (by decide) (cap := 3) (by decide) (by decide) (by decide) (by decide) (vs := [(.int (0 : Int32)), (.int (0 : Int32)), (.int (0 : Int32))]) rfl
    refine Go.by st52 ?_
    have sz_b52 : h0.size ≤ b52 := Nat.le_trans X0.sz (Nat.le_of_eq g_b52.symm)
    have K0_h52 : Keep h0 h52 [] := (Keep.refl h0 []).ext E52
    have F52 : Arv Z h52 b52 k52 .char (3 : Int32) [(.int (0 : Int32)), (.int (0 : Int32)), (.int (0 : Int32))] (.int (0 : Int32)) := A52
    show Go _ _ _ _ (T52.setTop (mkF m 39 #[.val (.int i0), .val (.int i1), .val (.int i2), .val (.int i3), .val (.int (3 : Int32)), .val (.int (((i0 &&& (255 : Int32))).toUInt32.toUInt16.toUInt32.toInt32)), .val (.int ((((XT.ushr i0 (8 : Int32)) &&& (255 : Int32))).toUInt32.toUInt16.toUInt32.toInt32)), .val (.int ((((XT.ushr i0 (16 : Int32)) &&& (255 : Int32))).toUInt32.toUInt16.toUInt32.toInt32)), .unset, .unset, .unset, .unset, .unset, .unset, .unset] [(.ref b52)]))
    refine Go.by (fun _ k => XS.astore X52.here X52.hx rfl (X52.cd at_39) rfl rfl (l' := #[.val (.int i0), .val (.int i1), .val (.int i2), .val (.int i3), .val (.int (3 : Int32)), .val (.int (((i0 &&& (255 : Int32))).toUInt32.toUInt16.toUInt32.toInt32)), .val (.int ((((XT.ushr i0 (8 : Int32)) &&& (255 : Int32))).toUInt32.toUInt16.toUInt32.toInt32)), .val (.int ((((XT.ushr i0 (16 : Int32)) &&& (255 : Int32))).toUInt32.toUInt16.toUInt32.toInt32)), .val (.ref b52), .unset, .unset, .unset, .unset, .unset, .unset]) rfl k) ?_
    show Go _ _ _ _ (T52.setTop (mkF m 41 #[.val (.int i0), .val (.int i1), .val (.int i2), .val (.int i3), .val (.int (3 : Int32)), .val (.int (((i0 &&& (255 : Int32))).toUInt32.toUInt16.toUInt32.toInt32)), .val (.int ((((XT.ushr i0 (8 : Int32)) &&& (255 : Int32))).toUInt32.toUInt16.toUInt32.toInt32)), .val (.int ((((XT.ushr i0 (16 : Int32)) &&& (255 : Int32))).toUInt32.toUInt16.toUInt32.toInt32)), .val (.ref b52), .unset, .unset, .unset, .unset, .unset, .unset] []))
    refine Go.by (fun _ k => XS.iload X52.here X52.hx rfl (X52.cd at_41) rfl  k) ?_
    show Go _ _ _ _ (T52.setTop (mkF m 43 #[.val (.int i0), .val (.int i1), .val (.int i2), .val (.int i3), .val (.int (3 : Int32)), .val (.int (((i0 &&& (255 : Int32))).toUInt32.toUInt16.toUInt32.toInt32)), .val (.int ((((XT.ushr i0 (8 : Int32)) &&& (255 : Int32))).toUInt32.toUInt16.toUInt32.toInt32)), .val (.int ((((XT.ushr i0 (16 : Int32)) &&& (255 : Int32))).toUInt32.toUInt16.toUInt32.toInt32)), .val (.ref b52), .unset, .unset, .unset, .unset, .unset, .unset] [(.int (3 : Int32))]))
    refine Go.by (fun _ k => XS.ifNo X52.here X52.hx rfl (X52.cd at_43) rfl (XT.i0_le_f (by decide)) k) ?_
    show Go _ _ _ _ (T52.setTop (mkF m 46 #[.val (.int i0), .val (.int i1), .val (.int i2), .val (.int i3), .val (.int (3 : Int32)), .val (.int (((i0 &&& (255 : Int32))).toUInt32.toUInt16.toUInt32.toInt32)), .val (.int ((((XT.ushr i0 (8 : Int32)) &&& (255 : Int32))).toUInt32.toUInt16.toUInt32.toInt32)), .val (.int ((((XT.ushr i0 (16 : Int32)) &&& (255 : Int32))).toUInt32.toUInt16.toUInt32.toInt32)), .val (.ref b52), .unset, .unset, .unset, .unset, .unset, .unset] []))
    refine Go.by (fun _ k => XS.aload X52.here X52.hx rfl (X52.cd at_46) rfl rfl k) ?_
    show Go _ _ _ _ (T52.setTop (mkF m 48 #[.val (.int i0), .val (.int i1), .val (.int i2), .val (.int i3), .val (.int (3 : Int32)), .val (.int (((i0 &&& (255 : Int32))).toUInt32.toUInt16.toUInt32.toInt32)), .val (.int ((((XT.ushr i0 (8 : Int32)) &&& (255 : Int32))).toUInt32.toUInt16.toUInt32.toInt32)), .val (.int ((((XT.ushr i0 (16 : Int32)) &&& (255 : Int32))).toUInt32.toUInt16.toUInt32.toInt32)), .val (.ref b52), .unset, .unset, .unset, .unset, .unset, .unset] [(.ref b52)]))
    refine Go.by (fun _ k => XS.iconst X52.here X52.hx rfl (X52.cd at_48)  k) ?_
    show Go _ _ _ _ (T52.setTop (mkF m 49 #[.val (.int i0), .val (.int i1), .val (.int i2), .val (.int i3), .val (.int (3 : Int32)), .val (.int (((i0 &&& (255 : Int32))).toUInt32.toUInt16.toUInt32.toInt32)), .val (.int ((((XT.ushr i0 (8 : Int32)) &&& (255 : Int32))).toUInt32.toUInt16.toUInt32.toInt32)), .val (.int ((((XT.ushr i0 (16 : Int32)) &&& (255 : Int32))).toUInt32.toUInt16.toUInt32.toInt32)), .val (.ref b52), .unset, .unset, .unset, .unset, .unset, .unset] [(.int (0 : Int32)), (.ref b52)]))
    refine Go.by (fun _ k => XS.iload X52.here X52.hx rfl (X52.cd at_49) rfl  k) ?_
    show Go _ _ _ _ (T52.setTop (mkF m 51 #[.val (.int i0), .val (.int i1), .val (.int i2), .val (.int i3), .val (.int (3 : Int32)), .val (.int (((i0 &&& (255 : Int32))).toUInt32.toUInt16.toUInt32.toInt32)), .val (.int ((((XT.ushr i0 (8 : Int32)) &&& (255 : Int32))).toUInt32.toUInt16.toUInt32.toInt32)), .val (.int ((((XT.ushr i0 (16 : Int32)) &&& (255 : Int32))).toUInt32.toUInt16.toUInt32.toInt32)), .val (.ref b52), .unset, .unset, .unset, .unset, .unset, .unset] [(.int (((i0 &&& (255 : Int32))).toUInt32.toUInt16.toUInt32.toInt32)), (.int (0 : Int32)), (.ref b52)]))
    obtain ⟨T53, h53, X53, W53, A53, st53⟩ := X52.stC (x' := (((i0 &&& (255 : Int32))).toUInt32.toUInt16.toUInt32.toInt32)) F52 (.head _) ⟨by decide, by decide⟩ (i := 0) rfl (Nat.le_of_ble_eq_true rfl) (nar_i2c _) (vs' := [(.int (((i0 &&& (255 : Int32))).toUInt32.toUInt16.toUInt32.toInt32)), (.int (0 : Int32)), (.int (0 : Int32))]) rfl (g := (mkF m 51 #[.val (.int i0), .val (.int i1), .val (.int i2), .val (.int i3), .val (.int (3 : Int32)), .val (.int (((i0 &&& (255 : Int32))).toUInt32.toUInt16.toUInt32.toInt32)), .val (.int ((((XT.ushr i0 (8 : Int32)) &&& (255 : Int32))).toUInt32.toUInt16.toUInt32.toInt32)), .val (.int ((((XT.ushr i0 (16 : Int32)) &&& (255 : Int32))).toUInt32.toUInt16.toUInt32.toInt32)), .val (.ref b52), .unset, .unset, .unset, .unset, .unset, .unset] [(.int (((i0 &&& (255 : Int32))).toUInt32.toUInt16.toUInt32.toInt32)), (.int (0 : Int32)), (.ref b52)])) rfl rfl at_51
    refine Go.by st53 ?_
    have K0_h53 : Keep h0 h53 [] := K0_h52.trans W53 (allS (Or.inr sz_b52) all0)
    show Go _ _ _ _ (T53.setTop (mkF m 52 #[.val (.int i0), .val (.int i1), .val (.int i2), .val (.int i3), .val (.int (3 : Int32)), .val (.int (((i0 &&& (255 : Int32))).toUInt32.toUInt16.toUInt32.toInt32)), .val (.int ((((XT.ushr i0 (8 : Int32)) &&& (255 : Int32))).toUInt32.toUInt16.toUInt32.toInt32)), .val (.int ((((XT.ushr i0 (16 : Int32)) &&& (255 : Int32))).toUInt32.toUInt16.toUInt32.toInt32)), .val (.ref b52), .unset, .unset, .unset, .unset, .unset, .unset] []))
    refine Go.by (fun _ k => XS.iload X53.here X53.hx rfl (X53.cd at_52) rfl  k) ?_
    show Go _ _ _ _ (T53.setTop (mkF m 54 #[.val (.int i0), .val (.int i1), .val (.int i2), .val (.int i3), .val (.int (3 : Int32)), .val (.int (((i0 &&& (255 : Int32))).toUInt32.toUInt16.toUInt32.toInt32)), .val (.int ((((XT.ushr i0 (8 : Int32)) &&& (255 : Int32))).toUInt32.toUInt16.toUInt32.toInt32)), .val (.int ((((XT.ushr i0 (16 : Int32)) &&& (255 : Int32))).toUInt32.toUInt16.toUInt32.toInt32)), .val (.ref b52), .unset, .unset, .unset, .unset, .unset, .unset] [(.int (3 : Int32))]))
    refine Go.by (fun _ k => XS.iconst X53.here X53.hx rfl (X53.cd at_54)  k) ?_
    show Go _ _ _ _ (T53.setTop (mkF m 55 #[.val (.int i0), .val (.int i1), .val (.int i2), .val (.int i3), .val (.int (3 : Int32)), .val (.int (((i0 &&& (255 : Int32))).toUInt32.toUInt16.toUInt32.toInt32)), .val (.int ((((XT.ushr i0 (8 : Int32)) &&& (255 : Int32))).toUInt32.toUInt16.toUInt32.toInt32)), .val (.int ((((XT.ushr i0 (16 : Int32)) &&& (255 : Int32))).toUInt32.toUInt16.toUInt32.toInt32)), .val (.ref b52), .unset, .unset, .unset, .unset, .unset, .unset] [(.int (1 : Int32)), (.int (3 : Int32))]))
    refine Go.by (fun _ k => XS.icmpNo X53.here X53.hx rfl (X53.cd at_55) rfl (XT.ii_le_f (by decide)) k) ?_
    show Go _ _ _ _ (T53.setTop (mkF m 58 #[.val (.int i0), .val (.int i1), .val (.int i2), .val (.int i3), .val (.int (3 : Int32)), .val (.int (((i0 &&& (255 : Int32))).toUInt32.toUInt16.toUInt32.toInt32)), .val (.int ((((XT.ushr i0 (8 : Int32)) &&& (255 : Int32))).toUInt32.toUInt16.toUInt32.toInt32)), .val (.int ((((XT.ushr i0 (16 : Int32)) &&& (255 : Int32))).toUInt32.toUInt16.toUInt32.toInt32)), .val (.ref b52), .unset, .unset, .unset, .unset, .unset, .unset] []))
    refine Go.by (fun _ k => XS.aload X53.here X53.hx rfl (X53.cd at_58) rfl rfl k) ?_
    show Go _ _ _ _ (T53.setTop (mkF m 60 #[.val (.int i0), .val (.int i1), .val (.int i2), .val (.int i3), .val (.int (3 : Int32)), .val (.int (((i0 &&& (255 : Int32))).toUInt32.toUInt16.toUInt32.toInt32)), .val (.int ((((XT.ushr i0 (8 : Int32)) &&& (255 : Int32))).toUInt32.toUInt16.toUInt32.toInt32)), .val (.int ((((XT.ushr i0 (16 : Int32)) &&& (255 : Int32))).toUInt32.toUInt16.toUInt32.toInt32)), .val (.ref b52), .unset, .unset, .unset, .unset, .unset, .unset] [(.ref b52)]))
    refine Go.by (fun _ k => XS.iconst X53.here X53.hx rfl (X53.cd at_60)  k) ?_
    show Go _ _ _ _ (T53.setTop (mkF m 61 #[.val (.int i0), .val (.int i1), .val (.int i2), .val (.int i3), .val (.int (3 : Int32)), .val (.int (((i0 &&& (255 : Int32))).toUInt32.toUInt16.toUInt32.toInt32)), .val (.int ((((XT.ushr i0 (8 : Int32)) &&& (255 : Int32))).toUInt32.toUInt16.toUInt32.toInt32)), .val (.int ((((XT.ushr i0 (16 : Int32)) &&& (255 : Int32))).toUInt32.toUInt16.toUInt32.toInt32)), .val (.ref b52), .unset, .unset, .unset, .unset, .unset, .unset] [(.int (1 : Int32)), (.ref b52)]))
    refine Go.by (fun _ k => XS.iload X53.here X53.hx rfl (X53.cd at_61) rfl  k) ?_
    show Go _ _ _ _ (T53.setTop (mkF m 63 #[.val (.int i0), .val (.int i1), .val (.int i2), .val (.int i3), .val (.int (3 : Int32)), .val (.int (((i0 &&& (255 : Int32))).toUInt32.toUInt16.toUInt32.toInt32)), .val (.int ((((XT.ushr i0 (8 : Int32)) &&& (255 : Int32))).toUInt32.toUInt16.toUInt32.toInt32)), .val (.int ((((XT.ushr i0 (16 : Int32)) &&& (255 : Int32))).toUInt32.toUInt16.toUInt32.toInt32)), .val (.ref b52), .unset, .unset, .unset, .unset, .unset, .unset] [(.int ((((XT.ushr i0 (8 : Int32)) &&& (255 : Int32))).toUInt32.toUInt16.toUInt32.toInt32)), (.int (1 : Int32)), (.ref b52)]))
    obtain ⟨T54, h54, X54, W54, A54, st54⟩ := X53.stC (x' := ((((XT.ushr i0 (8 : Int32)) &&& (255 : Int32))).toUInt32.toUInt16.toUInt32.toInt32)) A53 (.head _) ⟨by decide, by decide⟩ (i := 1) rfl (Nat.le_of_ble_eq_true rfl) (nar_i2c _) (vs' := [(.int (((i0 &&& (255 : Int32))).toUInt32.toUInt16.toUInt32.toInt32)), (.int ((((XT.ushr i0 (8 : Int32)) &&& (255 : Int32))).toUInt32.toUInt16.toUInt32.toInt32)), (.int (0 : Int32))]) rfl (g := (mkF m 63 #[.val (.int i0), .val (.int i1), .val (.int i2), .val (.int i3), .val (.int (3 : Int32)), .val (.int (((i0 &&& (255 : Int32))).toUInt32.toUInt16.toUInt32.toInt32)), .val (.int ((((XT.ushr i0 (8 : Int32)) &&& (255 : Int32))).toUInt32.toUInt16.toUInt32.toInt32)), .val (.int ((((XT.ushr i0 (16 : Int32)) &&& (255 : Int32))).toUInt32.toUInt16.toUInt32.toInt32)), .val (.ref b52), .unset, .unset, .unset, .unset, .unset, .unset] [(.int ((((XT.ushr i0 (8 : Int32)) &&& (255 : Int32))).toUInt32.toUInt16.toUInt32.toInt32)), (.int (1 : Int32)), (.ref b52)])) rfl rfl at_63
    refine Go.by st54 ?_
    have K0_h54 : Keep h0 h54 [] := K0_h53.trans W54 (allS (Or.inr sz_b52) all0)
    show Go _ _ _ _ (T54.setTop (mkF m 64 #[.val (.int i0), .val (.int i1), .val (.int i2), .val (.int i3), .val (.int (3 : Int32)), .val (.int (((i0 &&& (255 : Int32))).toUInt32.toUInt16.toUInt32.toInt32)), .val (.int ((((XT.ushr i0 (8 : Int32)) &&& (255 : Int32))).toUInt32.toUInt16.toUInt32.toInt32)), .val (.int ((((XT.ushr i0 (16 : Int32)) &&& (255 : Int32))).toUInt32.toUInt16.toUInt32.toInt32)), .val (.ref b52), .unset, .unset, .unset, .unset, .unset, .unset] []))
    refine Go.by (fun _ k => XS.iload X54.here X54.hx rfl (X54.cd at_64) rfl  k) ?_
    show Go _ _ _ _ (T54.setTop (mkF m 66 #[.val (.int i0), .val (.int i1), .val (.int i2), .val (.int i3), .val (.int (3 : Int32)), .val (.int (((i0 &&& (255 : Int32))).toUInt32.toUInt16.toUInt32.toInt32)), .val (.int ((((XT.ushr i0 (8 : Int32)) &&& (255 : Int32))).toUInt32.toUInt16.toUInt32.toInt32)), .val (.int ((((XT.ushr i0 (16 : Int32)) &&& (255 : Int32))).toUInt32.toUInt16.toUInt32.toInt32)), .val (.ref b52), .unset, .unset, .unset, .unset, .unset, .unset] [(.int (3 : Int32))]))
    refine Go.by (fun _ k => XS.iconst X54.here X54.hx rfl (X54.cd at_66)  k) ?_
    show Go _ _ _ _ (T54.setTop (mkF m 67 #[.val (.int i0), .val (.int i1), .val (.int i2), .val (.int i3), .val (.int (3 : Int32)), .val (.int (((i0 &&& (255 : Int32))).toUInt32.toUInt16.toUInt32.toInt32)), .val (.int ((((XT.ushr i0 (8 : Int32)) &&& (255 : Int32))).toUInt32.toUInt16.toUInt32.toInt32)), .val (.int ((((XT.ushr i0 (16 : Int32)) &&& (255 : Int32))).toUInt32.toUInt16.toUInt32.toInt32)), .val (.ref b52), .unset, .unset, .unset, .unset, .unset, .unset] [(.int (2 : Int32)), (.int (3 : Int32))]))
    refine Go.by (fun _ k => XS.icmpNo X54.here X54.hx rfl (X54.cd at_67) rfl (XT.ii_le_f (by decide)) k) ?_
    show Go _ _ _ _ (T54.setTop (mkF m 70 #[.val (.int i0), .val (.int i1), .val (.int i2), .val (.int i3), .val (.int (3 : Int32)), .val (.int (((i0 &&& (255 : Int32))).toUInt32.toUInt16.toUInt32.toInt32)), .val (.int ((((XT.ushr i0 (8 : Int32)) &&& (255 : Int32))).toUInt32.toUInt16.toUInt32.toInt32)), .val (.int ((((XT.ushr i0 (16 : Int32)) &&& (255 : Int32))).toUInt32.toUInt16.toUInt32.toInt32)), .val (.ref b52), .unset, .unset, .unset, .unset, .unset, .unset] []))
    refine Go.by (fun _ k => XS.aload X54.here X54.hx rfl (X54.cd at_70) rfl rfl k) ?_
    show Go _ _ _ _ (T54.setTop (mkF m 72 #[.val (.int i0), .val (.int i1), .val (.int i2), .val (.int i3), .val (.int (3 : Int32)), .val (.int (((i0 &&& (255 : Int32))).toUInt32.toUInt16.toUInt32.toInt32)), .val (.int ((((XT.ushr i0 (8 : Int32)) &&& (255 : Int32))).toUInt32.toUInt16.toUInt32.toInt32)), .val (.int ((((XT.ushr i0 (16 : Int32)) &&& (255 : Int32))).toUInt32.toUInt16.toUInt32.toInt32)), .val (.ref b52), .unset, .unset, .unset, .unset, .unset, .unset] [(.ref b52)]))
    refine Go.by (fun _ k => XS.iconst X54.here X54.hx rfl (X54.cd at_72)  k) ?_
    show Go _ _ _ _ (T54.setTop (mkF m 73 #[.val (.int i0), .val (.int i1), .val (.int i2), .val (.int i3), .val (.int (3 : Int32)), .val (.int (((i0 &&& (255 : Int32))).toUInt32.toUInt16.toUInt32.toInt32)), .val (.int ((((XT.ushr i0 (8 : Int32)) &&& (255 : Int32))).toUInt32.toUInt16.toUInt32.toInt32)), .val (.int ((((XT.ushr i0 (16 : Int32)) &&& (255 : Int32))).toUInt32.toUInt16.toUInt32.toInt32)), .val (.ref b52), .unset, .unset, .unset, .unset, .unset, .unset] [(.int (2 : Int32)), (.ref b52)]))
    refine Go.by (fun _ k => XS.iload X54.here X54.hx rfl (X54.cd at_73) rfl  k) ?_
    show Go _ _ _ _ (T54.setTop (mkF m 75 #[.val (.int i0), .val (.int i1), .val (.int i2), .val (.int i3), .val (.int (3 : Int32)), .val (.int (((i0 &&& (255 : Int32))).toUInt32.toUInt16.toUInt32.toInt32)), .val (.int ((((XT.ushr i0 (8 : Int32)) &&& (255 : Int32))).toUInt32.toUInt16.toUInt32.toInt32)), .val (.int ((((XT.ushr i0 (16 : Int32)) &&& (255 : Int32))).toUInt32.toUInt16.toUInt32.toInt32)), .val (.ref b52), .unset, .unset, .unset, .unset, .unset, .unset] [(.int ((((XT.ushr i0 (16 : Int32)) &&& (255 : Int32))).toUInt32.toUInt16.toUInt32.toInt32)), (.int (2 : Int32)), (.ref b52)]))
    obtain ⟨T55, h55, X55, W55, A55, st55⟩ := X54.stC (x' := ((((XT.ushr i0 (16 : Int32)) &&& (255 : Int32))).toUInt32.toUInt16.toUInt32.toInt32)) A54 (.head _) ⟨by decide, by decide⟩ (i := 2) rfl (Nat.le_of_ble_eq_true rfl) (nar_i2c _) (vs' := [(.int (((i0 &&& (255 : Int32))).toUInt32.toUInt16.toUInt32.toInt32)), (.int ((((XT.ushr i0 (8 : Int32)) &&& (255 : Int32))).toUInt32.toUInt16.toUInt32.toInt32)), (.int ((((XT.ushr i0 (16 : Int32)) &&& (255 : Int32))).toUInt32.toUInt16.toUInt32.toInt32))]) rfl (g := (mkF m 75 #[.val (.int i0), .val (.int i1), .val (.int i2), .val (.int i3), .val (.int (3 : Int32)), .val (.int (((i0 &&& (255 : Int32))).toUInt32.toUInt16.toUInt32.toInt32)), .val (.int ((((XT.ushr i0 (8 : Int32)) &&& (255 : Int32))).toUInt32.toUInt16.toUInt32.toInt32)), .val (.int ((((XT.ushr i0 (16 : Int32)) &&& (255 : Int32))).toUInt32.toUInt16.toUInt32.toInt32)), .val (.ref b52), .unset, .unset, .unset, .unset, .unset, .unset] [(.int ((((XT.ushr i0 (16 : Int32)) &&& (255 : Int32))).toUInt32.toUInt16.toUInt32.toInt32)), (.int (2 : Int32)), (.ref b52)])) rfl rfl at_75
    refine Go.by st55 ?_
    have K0_h55 : Keep h0 h55 [] := K0_h54.trans W55 (allS (Or.inr sz_b52) all0)
    show Go _ _ _ _ (T55.setTop (mkF m 76 #[.val (.int i0), .val (.int i1), .val (.int i2), .val (.int i3), .val (.int (3 : Int32)), .val (.int (((i0 &&& (255 : Int32))).toUInt32.toUInt16.toUInt32.toInt32)), .val (.int ((((XT.ushr i0 (8 : Int32)) &&& (255 : Int32))).toUInt32.toUInt16.toUInt32.toInt32)), .val (.int ((((XT.ushr i0 (16 : Int32)) &&& (255 : Int32))).toUInt32.toUInt16.toUInt32.toInt32)), .val (.ref b52), .unset, .unset, .unset, .unset, .unset, .unset] []))
    have lt_b52_56 := (X55.lt (.head _))
    obtain ⟨T56, h56, b56, g_b56, X56, E56, A56, D56, st56⟩ := X55.new (hw _ (List.mem_of_getElem? (i := 1) rfl)) (hw _ (List.mem_of_getElem? (i := 2) rfl)) (hw _ (List.mem_of_getElem? (i := 3) rfl)) (g := (mkF m 76 #[.val (.int i0), .val (.int i1), .val (.int i2), .val (.int i3), .val (.int (3 : Int32)), .val (.int (((i0 &&& (255 : Int32))).toUInt32.toUInt16.toUInt32.toInt32)), .val (.int ((((XT.ushr i0 (8 : Int32)) &&& (255 : Int32))).toUInt32.toUInt16.toUInt32.toInt32)), .val (.int ((((XT.ushr i0 (16 : Int32)) &&& (255 : Int32))).toUInt32.toUInt16.toUInt32.toInt32)), .val (.ref b52), .unset, .unset, .unset, .unset, .unset, .unset] [])) rfl at_76 (by decide) (by decide)
    refine Go.by st56 ?_
    have ne_b52_b56 : b52 ≠ b56 := ne_new lt_b52_56 g_b56
    have sz_b56 : h0.size ≤ b56 := Nat.le_trans X55.sz (Nat.le_of_eq g_b56.symm)
    have K0_h56 : Keep h0 h56 [] := K0_h55.ext E56
    have F56_coder : Fld Z h56 b56 "java/lang/String" "coder" "B" (.int (0 : Int32)) := D56 (Or.inr (hw _ (List.mem_of_getElem? (i := 27) rfl))) (ty := .byte) (by decide)
    have F56_value : Fld Z h56 b56 "java/lang/String" "value" "[B" .null := D56 (Or.inr (hw _ (List.mem_of_getElem? (i := 29) rfl))) (ty := (.array .byte)) (by decide)
    show Go _ _ _ _ (T56.setTop (mkF m 79 #[.val (.int i0), .val (.int i1), .val (.int i2), .val (.int i3), .val (.int (3 : Int32)), .val (.int (((i0 &&& (255 : Int32))).toUInt32.toUInt16.toUInt32.toInt32)), .val (.int ((((XT.ushr i0 (8 : Int32)) &&& (255 : Int32))).toUInt32.toUInt16.toUInt32.toInt32)), .val (.int ((((XT.ushr i0 (16 : Int32)) &&& (255 : Int32))).toUInt32.toUInt16.toUInt32.toInt32)), .val (.ref b52), .unset, .unset, .unset, .unset, .unset, .unset] [(.ref b56)]))
    refine Go.by (fun _ k => XS.dup X56.here X56.hx rfl (X56.cd at_79) rfl rfl k) ?_
    show Go _ _ _ _ (T56.setTop (mkF m 80 #[.val (.int i0), .val (.int i1), .val (.int i2), .val (.int i3), .val (.int (3 : Int32)), .val (.int (((i0 &&& (255 : Int32))).toUInt32.toUInt16.toUInt32.toInt32)), .val (.int ((((XT.ushr i0 (8 : Int32)) &&& (255 : Int32))).toUInt32.toUInt16.toUInt32.toInt32)), .val (.int ((((XT.ushr i0 (16 : Int32)) &&& (255 : Int32))).toUInt32.toUInt16.toUInt32.toInt32)), .val (.ref b52), .unset, .unset, .unset, .unset, .unset, .unset] [(.ref b56), (.ref b56)]))
    refine Go.by (fun _ k => XS.aload X56.here X56.hx rfl (X56.cd at_80) rfl rfl k) ?_
    show Go _ _ _ _ (T56.setTop (mkF m 82 #[.val (.int i0), .val (.int i1), .val (.int i2), .val (.int i3), .val (.int (3 : Int32)), .val (.int (((i0 &&& (255 : Int32))).toUInt32.toUInt16.toUInt32.toInt32)), .val (.int ((((XT.ushr i0 (8 : Int32)) &&& (255 : Int32))).toUInt32.toUInt16.toUInt32.toInt32)), .val (.int ((((XT.ushr i0 (16 : Int32)) &&& (255 : Int32))).toUInt32.toUInt16.toUInt32.toInt32)), .val (.ref b52), .unset, .unset, .unset, .unset, .unset, .unset] [(.ref b52), (.ref b56), (.ref b56)]))
    have f57 : Arv Z h56 b52 k52 .char (3 : Int32) [(.int (((i0 &&& (255 : Int32))).toUInt32.toUInt16.toUInt32.toInt32)), (.int ((((XT.ushr i0 (8 : Int32)) &&& (255 : Int32))).toUInt32.toUInt16.toUInt32.toInt32)), (.int ((((XT.ushr i0 (16 : Int32)) &&& (255 : Int32))).toUInt32.toUInt16.toUInt32.toInt32))] (.int (0 : Int32)) := A55.ext E56
    have lt_b52_58 := (X56.lt (.tail _ (.head _)))
    have lt_b56_58 := (X56.lt (.head _))
    obtain ⟨_, T58, h58, X58, K58, ⟨t_58, rfl, fr_t_58, fl_t_58, P58_0⟩, st58⟩ := X56.spN (W := 1) rfl (hw _ (List.mem_of_getElem? (i := 4) rfl)) (hw _ (List.mem_of_getElem? (i := 5) rfl)) (hw _ (List.mem_of_getElem? (i := 6) rfl)) (by decide) (payNew (fun d hd => hw d ((by decide +kernel : ∀ d ∈ StrChars.Road.words, d ∈ tables_1) d hd)) (hw _ (List.mem_of_getElem? (i := 2) rfl)) (cs := [(((i0 &&& (255 : Int32))).toUInt32.toUInt16.toUInt32.toInt32), ((((XT.ushr i0 (8 : Int32)) &&& (255 : Int32))).toUInt32.toUInt16.toUInt32.toInt32), ((((XT.ushr i0 (16 : Int32)) &&& (255 : Int32))).toUInt32.toUInt16.toUInt32.toInt32)]) (n := 3) X56.old (X56.ge (.head _)) A56 F56_value F56_coder f57 Sc nc rfl rfl (by decide) (by decide) (all1 (c255 _) (all1 (c255 _) (all1 (c255 _) alln))) (by decide) (by decide)) (allS (.head _) all0) (g := (mkF m 82 #[.val (.int i0), .val (.int i1), .val (.int i2), .val (.int i3), .val (.int (3 : Int32)), .val (.int (((i0 &&& (255 : Int32))).toUInt32.toUInt16.toUInt32.toInt32)), .val (.int ((((XT.ushr i0 (8 : Int32)) &&& (255 : Int32))).toUInt32.toUInt16.toUInt32.toInt32)), .val (.int ((((XT.ushr i0 (16 : Int32)) &&& (255 : Int32))).toUInt32.toUInt16.toUInt32.toInt32)), .val (.ref b52), .unset, .unset, .unset, .unset, .unset, .unset] [(.ref b52), (.ref b56), (.ref b56)])) rfl rfl (a := b56) (argsL := [(.ref b52)]) (rest := [(.ref b56)]) (lenOf pd_8 rfl) rfl (by exact Nat.le_of_eq rfl) at_82 rfl (by decide) (by decide)
    refine Go.tr st58 ?_
    have K0_h58 : Keep h0 h58 [] := K0_h56.trans K58 (allS (Or.inr sz_b56) all0)
    have ne_b52_t_58 : b52 ≠ t_58 := ne_ge lt_b52_58 fr_t_58
    have ne_b56_t_58 : b56 ≠ t_58 := ne_ge lt_b56_58 fr_t_58
    have sz_t_58 : h0.size ≤ t_58 := Nat.le_trans X56.sz fr_t_58
    show Go _ _ _ _ (T58.setTop (mkF m 85 #[.val (.int i0), .val (.int i1), .val (.int i2), .val (.int i3), .val (.int (3 : Int32)), .val (.int (((i0 &&& (255 : Int32))).toUInt32.toUInt16.toUInt32.toInt32)), .val (.int ((((XT.ushr i0 (8 : Int32)) &&& (255 : Int32))).toUInt32.toUInt16.toUInt32.toInt32)), .val (.int ((((XT.ushr i0 (16 : Int32)) &&& (255 : Int32))).toUInt32.toUInt16.toUInt32.toInt32)), .val (.ref b52), .unset, .unset, .unset, .unset, .unset, .unset] [(.ref b56)]))
    refine Go.by (fun _ k => XS.astore X58.here X58.hx rfl (X58.cd at_85) rfl rfl (l' := #[.val (.int i0), .val (.int i1), .val (.int i2), .val (.int i3), .val (.int (3 : Int32)), .val (.int (((i0 &&& (255 : Int32))).toUInt32.toUInt16.toUInt32.toInt32)), .val (.int ((((XT.ushr i0 (8 : Int32)) &&& (255 : Int32))).toUInt32.toUInt16.toUInt32.toInt32)), .val (.int ((((XT.ushr i0 (16 : Int32)) &&& (255 : Int32))).toUInt32.toUInt16.toUInt32.toInt32)), .val (.ref b52), .val (.ref b56), .unset, .unset, .unset, .unset, .unset]) rfl k) ?_
    show Go _ _ _ _ (T58.setTop (mkF m 87 #[.val (.int i0), .val (.int i1), .val (.int i2), .val (.int i3), .val (.int (3 : Int32)), .val (.int (((i0 &&& (255 : Int32))).toUInt32.toUInt16.toUInt32.toInt32)), .val (.int ((((XT.ushr i0 (8 : Int32)) &&& (255 : Int32))).toUInt32.toUInt16.toUInt32.toInt32)), .val (.int ((((XT.ushr i0 (16 : Int32)) &&& (255 : Int32))).toUInt32.toUInt16.toUInt32.toInt32)), .val (.ref b52), .val (.ref b56), .unset, .unset, .unset, .unset, .unset] []))
    have lt_b52_59 := (X58.lt (.tail _ (.head _)))
    have lt_b56_59 := (X58.lt (.head _))
    have lt_t_58_59 := P58_0.ltT
    obtain ⟨T59, h59, b59, g_b59, X59, E59, A59, D59, st59⟩ := X58.new (hw _ (List.mem_of_getElem? (i := 30) rfl)) (hw _ (List.mem_of_getElem? (i := 31) rfl)) (hw _ (List.mem_of_getElem? (i := 32) rfl)) (g := (mkF m 87 #[.val (.int i0), .val (.int i1), .val (.int i2), .val (.int i3), .val (.int (3 : Int32)), .val (.int (((i0 &&& (255 : Int32))).toUInt32.toUInt16.toUInt32.toInt32)), .val (.int ((((XT.ushr i0 (8 : Int32)) &&& (255 : Int32))).toUInt32.toUInt16.toUInt32.toInt32)), .val (.int ((((XT.ushr i0 (16 : Int32)) &&& (255 : Int32))).toUInt32.toUInt16.toUInt32.toInt32)), .val (.ref b52), .val (.ref b56), .unset, .unset, .unset, .unset, .unset] [])) rfl at_87 (by decide) (by decide)
    refine Go.by st59 ?_
    have ne_b52_b59 : b52 ≠ b59 := ne_new lt_b52_59 g_b59
    have ne_b56_b59 : b56 ≠ b59 := ne_new lt_b56_59 g_b59
    have ne_t_58_b59 : t_58 ≠ b59 := ne_new lt_t_58_59 g_b59
    have sz_b59 : h0.size ≤ b59 := Nat.le_trans X58.sz (Nat.le_of_eq g_b59.symm)
    have K0_h59 : Keep h0 h59 [] := K0_h58.ext E59
    have F59_regex : Fld Z h59 b59 "com/example/rivulet/rivulet/RegexLiteral" "regex" "Ljava/lang/String;" .null := D59 (Or.inr (hw _ (List.mem_of_getElem? (i := 46) rfl))) (ty := (.object "java/lang/String")) (by decide)
    have F59_replacement : Fld Z h59 b59 "com/example/rivulet/rivulet/RegexLiteral" "replacement" "Lcom/example/rivulet/rivulet/Replacement;" .null := D59 (Or.inr (hw _ (List.mem_of_getElem? (i := 48) rfl))) (ty := (.object "com/example/rivulet/rivulet/Replacement")) (by decide)
    have F59_modifiers : Fld Z h59 b59 "com/example/rivulet/rivulet/RegexLiteral" "modifiers" "Ljava/lang/String;" .null := D59 (Or.inr (hw _ (List.mem_of_getElem? (i := 50) rfl))) (ty := (.object "java/lang/String")) (by decide)
    show Go _ _ _ _ (T59.setTop (mkF m 90 #[.val (.int i0), .val (.int i1), .val (.int i2), .val (.int i3), .val (.int (3 : Int32)), .val (.int (((i0 &&& (255 : Int32))).toUInt32.toUInt16.toUInt32.toInt32)), .val (.int ((((XT.ushr i0 (8 : Int32)) &&& (255 : Int32))).toUInt32.toUInt16.toUInt32.toInt32)), .val (.int ((((XT.ushr i0 (16 : Int32)) &&& (255 : Int32))).toUInt32.toUInt16.toUInt32.toInt32)), .val (.ref b52), .val (.ref b56), .unset, .unset, .unset, .unset, .unset] [(.ref b59)]))
    refine Go.by (fun _ k => XS.dup X59.here X59.hx rfl (X59.cd at_90) rfl rfl k) ?_
    show Go _ _ _ _ (T59.setTop (mkF m 91 #[.val (.int i0), .val (.int i1), .val (.int i2), .val (.int i3), .val (.int (3 : Int32)), .val (.int (((i0 &&& (255 : Int32))).toUInt32.toUInt16.toUInt32.toInt32)), .val (.int ((((XT.ushr i0 (8 : Int32)) &&& (255 : Int32))).toUInt32.toUInt16.toUInt32.toInt32)), .val (.int ((((XT.ushr i0 (16 : Int32)) &&& (255 : Int32))).toUInt32.toUInt16.toUInt32.toInt32)), .val (.ref b52), .val (.ref b56), .unset, .unset, .unset, .unset, .unset] [(.ref b59), (.ref b59)]))
    obtain ⟨b60, T60, h60, X60, E60, st60⟩ := X59.ldcS (hw _ (List.mem_of_getElem? (i := 33) rfl)) (own_SA hw) (g := (mkF m 91 #[.val (.int i0), .val (.int i1), .val (.int i2), .val (.int i3), .val (.int (3 : Int32)), .val (.int (((i0 &&& (255 : Int32))).toUInt32.toUInt16.toUInt32.toInt32)), .val (.int ((((XT.ushr i0 (8 : Int32)) &&& (255 : Int32))).toUInt32.toUInt16.toUInt32.toInt32)), .val (.int ((((XT.ushr i0 (16 : Int32)) &&& (255 : Int32))).toUInt32.toUInt16.toUInt32.toInt32)), .val (.ref b52), .val (.ref b56), .unset, .unset, .unset, .unset, .unset] [(.ref b59), (.ref b59)])) rfl at_91 (n := 0) (by decide) (by decide) (by decide) (by decide)
    refine Go.by st60 ?_
    have K0_h60 : Keep h0 h60 [] := K0_h59.ext E60
    show Go _ _ _ _ (T60.setTop (mkF m 93 #[.val (.int i0), .val (.int i1), .val (.int i2), .val (.int i3), .val (.int (3 : Int32)), .val (.int (((i0 &&& (255 : Int32))).toUInt32.toUInt16.toUInt32.toInt32)), .val (.int ((((XT.ushr i0 (8 : Int32)) &&& (255 : Int32))).toUInt32.toUInt16.toUInt32.toInt32)), .val (.int ((((XT.ushr i0 (16 : Int32)) &&& (255 : Int32))).toUInt32.toUInt16.toUInt32.toInt32)), .val (.ref b52), .val (.ref b56), .unset, .unset, .unset, .unset, .unset] [(.ref b60), (.ref b59), (.ref b59)]))
    refine Go.by (fun _ k => XS.aconstNull X60.here X60.hx rfl (X60.cd at_93)  k) ?_
    show Go _ _ _ _ (T60.setTop (mkF m 94 #[.val (.int i0), .val (.int i1), .val (.int i2), .val (.int i3), .val (.int (3 : Int32)), .val (.int (((i0 &&& (255 : Int32))).toUInt32.toUInt16.toUInt32.toInt32)), .val (.int ((((XT.ushr i0 (8 : Int32)) &&& (255 : Int32))).toUInt32.toUInt16.toUInt32.toInt32)), .val (.int ((((XT.ushr i0 (16 : Int32)) &&& (255 : Int32))).toUInt32.toUInt16.toUInt32.toInt32)), .val (.ref b52), .val (.ref b56), .unset, .unset, .unset, .unset, .unset] [.null, (.ref b60), (.ref b59), (.ref b59)]))
    refine Go.by (fun _ k => XS.aload X60.here X60.hx rfl (X60.cd at_94) rfl rfl k) ?_
    show Go _ _ _ _ (T60.setTop (mkF m 96 #[.val (.int i0), .val (.int i1), .val (.int i2), .val (.int i3), .val (.int (3 : Int32)), .val (.int (((i0 &&& (255 : Int32))).toUInt32.toUInt16.toUInt32.toInt32)), .val (.int ((((XT.ushr i0 (8 : Int32)) &&& (255 : Int32))).toUInt32.toUInt16.toUInt32.toInt32)), .val (.int ((((XT.ushr i0 (16 : Int32)) &&& (255 : Int32))).toUInt32.toUInt16.toUInt32.toInt32)), .val (.ref b52), .val (.ref b56), .unset, .unset, .unset, .unset, .unset] [(.ref b56), .null, (.ref b60), (.ref b59), (.ref b59)]))
    have f61 : Exa Z h60 b59 "com/example/rivulet/rivulet/RegexLiteral" := A59.ext E60
    have f62 : Fld Z h60 b59 "com/example/rivulet/rivulet/RegexLiteral" "regex" "Ljava/lang/String;" .null := F59_regex.ext E60
    have f63 : Fld Z h60 b59 "com/example/rivulet/rivulet/RegexLiteral" "replacement" "Lcom/example/rivulet/rivulet/Replacement;" .null := F59_replacement.ext E60
    have f64 : Fld Z h60 b59 "com/example/rivulet/rivulet/RegexLiteral" "modifiers" "Ljava/lang/String;" .null := F59_modifiers.ext E60
    obtain ⟨_, T65, h65, X65, K65, ⟨rfl, P65_0⟩, st65⟩ := X60.spN (W := 1) rfl (hw _ (List.mem_of_getElem? (i := 36) rfl)) (hw _ (List.mem_of_getElem? (i := 37) rfl)) (hw _ (List.mem_of_getElem? (i := 38) rfl)) (by decide) ((rm_ini l Z a0 hw n0 b59 b60 b56 .null .null .null h60 X60.old f61 f62 f63 f64 (X60.ge (.head _)) (X60.lt (.head _))).pay (hw _ (List.mem_of_getElem? (i := 38) rfl)) (hw _ (List.mem_of_getElem? (i := 32) rfl)) (by decide) (by decide)) (allS (.head _) all0) (g := (mkF m 96 #[.val (.int i0), .val (.int i1), .val (.int i2), .val (.int i3), .val (.int (3 : Int32)), .val (.int (((i0 &&& (255 : Int32))).toUInt32.toUInt16.toUInt32.toInt32)), .val (.int ((((XT.ushr i0 (8 : Int32)) &&& (255 : Int32))).toUInt32.toUInt16.toUInt32.toInt32)), .val (.int ((((XT.ushr i0 (16 : Int32)) &&& (255 : Int32))).toUInt32.toUInt16.toUInt32.toInt32)), .val (.ref b52), .val (.ref b56), .unset, .unset, .unset, .unset, .unset] [(.ref b56), .null, (.ref b60), (.ref b59), (.ref b59)])) rfl rfl (a := b59) (argsL := [(.ref b60), .null, (.ref b56)]) (rest := [(.ref b59)]) (lenOf pd_9 rfl) rfl (by exact Nat.le_of_eq rfl) at_96 rfl (by decide) (by decide)
    refine Go.tr st65 ?_
    have K0_h65 : Keep h0 h65 [] := K0_h60.trans K65 (allS (Or.inr sz_b59) all0)
    show Go _ _ _ _ (T65.setTop (mkF m 99 #[.val (.int i0), .val (.int i1), .val (.int i2), .val (.int i3), .val (.int (3 : Int32)), .val (.int (((i0 &&& (255 : Int32))).toUInt32.toUInt16.toUInt32.toInt32)), .val (.int ((((XT.ushr i0 (8 : Int32)) &&& (255 : Int32))).toUInt32.toUInt16.toUInt32.toInt32)), .val (.int ((((XT.ushr i0 (16 : Int32)) &&& (255 : Int32))).toUInt32.toUInt16.toUInt32.toInt32)), .val (.ref b52), .val (.ref b56), .unset, .unset, .unset, .unset, .unset] [(.ref b59)]))
    refine Go.by (fun _ k => XS.astore X65.here X65.hx rfl (X65.cd at_99) rfl rfl (l' := #[.val (.int i0), .val (.int i1), .val (.int i2), .val (.int i3), .val (.int (3 : Int32)), .val (.int (((i0 &&& (255 : Int32))).toUInt32.toUInt16.toUInt32.toInt32)), .val (.int ((((XT.ushr i0 (8 : Int32)) &&& (255 : Int32))).toUInt32.toUInt16.toUInt32.toInt32)), .val (.int ((((XT.ushr i0 (16 : Int32)) &&& (255 : Int32))).toUInt32.toUInt16.toUInt32.toInt32)), .val (.ref b52), .val (.ref b56), .val (.ref b59), .unset, .unset, .unset, .unset]) rfl k) ?_
    show Go _ _ _ _ (T65.setTop (mkF m 101 #[.val (.int i0), .val (.int i1), .val (.int i2), .val (.int i3), .val (.int (3 : Int32)), .val (.int (((i0 &&& (255 : Int32))).toUInt32.toUInt16.toUInt32.toInt32)), .val (.int ((((XT.ushr i0 (8 : Int32)) &&& (255 : Int32))).toUInt32.toUInt16.toUInt32.toInt32)), .val (.int ((((XT.ushr i0 (16 : Int32)) &&& (255 : Int32))).toUInt32.toUInt16.toUInt32.toInt32)), .val (.ref b52), .val (.ref b56), .val (.ref b59), .unset, .unset, .unset, .unset] []))
    refine Go.by (fun _ k => XS.iloadN X65.here X65.hx rfl (X65.cd at_101) rfl  k) ?_
    show Go _ _ _ _ (T65.setTop (mkF m 102 #[.val (.int i0), .val (.int i1), .val (.int i2), .val (.int i3), .val (.int (3 : Int32)), .val (.int (((i0 &&& (255 : Int32))).toUInt32.toUInt16.toUInt32.toInt32)), .val (.int ((((XT.ushr i0 (8 : Int32)) &&& (255 : Int32))).toUInt32.toUInt16.toUInt32.toInt32)), .val (.int ((((XT.ushr i0 (16 : Int32)) &&& (255 : Int32))).toUInt32.toUInt16.toUInt32.toInt32)), .val (.ref b52), .val (.ref b56), .val (.ref b59), .unset, .unset, .unset, .unset] [(.int i2)]))
    refine Go.by (fun _ k => XS.i2c X65.here X65.hx rfl (X65.cd at_102) rfl k) ?_
    show Go _ _ _ _ (T65.setTop (mkF m 103 #[.val (.int i0), .val (.int i1), .val (.int i2), .val (.int i3), .val (.int (3 : Int32)), .val (.int (((i0 &&& (255 : Int32))).toUInt32.toUInt16.toUInt32.toInt32)), .val (.int ((((XT.ushr i0 (8 : Int32)) &&& (255 : Int32))).toUInt32.toUInt16.toUInt32.toInt32)), .val (.int ((((XT.ushr i0 (16 : Int32)) &&& (255 : Int32))).toUInt32.toUInt16.toUInt32.toInt32)), .val (.ref b52), .val (.ref b56), .val (.ref b59), .unset, .unset, .unset, .unset] [(.int ((i2).toUInt32.toUInt16.toUInt32.toInt32))]))
    refine Go.by (fun _ k => XS.istore X65.here X65.hx rfl (X65.cd at_103) rfl (l' := #[.val (.int i0), .val (.int i1), .val (.int i2), .val (.int i3), .val (.int (3 : Int32)), .val (.int (((i0 &&& (255 : Int32))).toUInt32.toUInt16.toUInt32.toInt32)), .val (.int ((((XT.ushr i0 (8 : Int32)) &&& (255 : Int32))).toUInt32.toUInt16.toUInt32.toInt32)), .val (.int ((((XT.ushr i0 (16 : Int32)) &&& (255 : Int32))).toUInt32.toUInt16.toUInt32.toInt32)), .val (.ref b52), .val (.ref b56), .val (.ref b59), .val (.int ((i2).toUInt32.toUInt16.toUInt32.toInt32)), .unset, .unset, .unset]) rfl k) ?_
    show Go _ _ _ _ (T65.setTop (mkF m 105 #[.val (.int i0), .val (.int i1), .val (.int i2), .val (.int i3), .val (.int (3 : Int32)), .val (.int (((i0 &&& (255 : Int32))).toUInt32.toUInt16.toUInt32.toInt32)), .val (.int ((((XT.ushr i0 (8 : Int32)) &&& (255 : Int32))).toUInt32.toUInt16.toUInt32.toInt32)), .val (.int ((((XT.ushr i0 (16 : Int32)) &&& (255 : Int32))).toUInt32.toUInt16.toUInt32.toInt32)), .val (.ref b52), .val (.ref b56), .val (.ref b59), .val (.int ((i2).toUInt32.toUInt16.toUInt32.toInt32)), .unset, .unset, .unset] []))
    obtain ⟨r66_0, hr66, st66⟩ : ∃ (r66_0 : Int32), (((((i2).toUInt32.toUInt16.toUInt32.toInt32) = (((i0 &&& (255 : Int32))).toUInt32.toUInt16.toUInt32.toInt32)) ∧ r66_0 = (1 : Int32)) ∨ (¬ (((i2).toUInt32.toUInt16.toUInt32.toInt32) = (((i0 &&& (255 : Int32))).toUInt32.toUInt16.toUInt32.toInt32)) ∧ (((i2).toUInt32.toUInt16.toUInt32.toInt32) = ((((XT.ushr i0 (8 : Int32)) &&& (255 : Int32))).toUInt32.toUInt16.toUInt32.toInt32)) ∧ r66_0 = (1 : Int32)) ∨ (¬ (((i2).toUInt32.toUInt16.toUInt32.toInt32) = (((i0 &&& (255 : Int32))).toUInt32.toUInt16.toUInt32.toInt32)) ∧ ¬ (((i2).toUInt32.toUInt16.toUInt32.toInt32) = ((((XT.ushr i0 (8 : Int32)) &&& (255 : Int32))).toUInt32.toUInt16.toUInt32.toInt32)) ∧ (((i2).toUInt32.toUInt16.toUInt32.toInt32) = ((((XT.ushr i0 (16 : Int32)) &&& (255 : Int32))).toUInt32.toUInt16.toUInt32.toInt32)) ∧ r66_0 = (1 : Int32)) ∨ (¬ (((i2).toUInt32.toUInt16.toUInt32.toInt32) = (((i0 &&& (255 : Int32))).toUInt32.toUInt16.toUInt32.toInt32)) ∧ ¬ (((i2).toUInt32.toUInt16.toUInt32.toInt32) = ((((XT.ushr i0 (8 : Int32)) &&& (255 : Int32))).toUInt32.toUInt16.toUInt32.toInt32)) ∧ ¬ (((i2).toUInt32.toUInt16.toUInt32.toInt32) = ((((XT.ushr i0 (16 : Int32)) &&& (255 : Int32))).toUInt32.toUInt16.toUInt32.toInt32)) ∧ r66_0 = (0 : Int32))) ∧ ∀ t, Steps p.tables e below (T65.setTop (mkF m 148 #[.val (.int i0), .val (.int i1), .val (.int i2), .val (.int i3), .val (.int (3 : Int32)), .val (.int (((i0 &&& (255 : Int32))).toUInt32.toUInt16.toUInt32.toInt32)), .val (.int ((((XT.ushr i0 (8 : Int32)) &&& (255 : Int32))).toUInt32.toUInt16.toUInt32.toInt32)), .val (.int ((((XT.ushr i0 (16 : Int32)) &&& (255 : Int32))).toUInt32.toUInt16.toUInt32.toInt32)), .val (.ref b52), .val (.ref b56), .val (.ref b59), .val (.int ((i2).toUInt32.toUInt16.toUInt32.toInt32)), .unset, .unset, .unset] [(.int r66_0)])) t → Steps p.tables e below (T65.setTop (mkF m 105 #[.val (.int i0), .val (.int i1), .val (.int i2), .val (.int i3), .val (.int (3 : Int32)), .val (.int (((i0 &&& (255 : Int32))).toUInt32.toUInt16.toUInt32.toInt32)), .val (.int ((((XT.ushr i0 (8 : Int32)) &&& (255 : Int32))).toUInt32.toUInt16.toUInt32.toInt32)), .val (.int ((((XT.ushr i0 (16 : Int32)) &&& (255 : Int32))).toUInt32.toUInt16.toUInt32.toInt32)), .val (.ref b52), .val (.ref b56), .val (.ref b59), .val (.int ((i2).toUInt32.toUInt16.toUInt32.toInt32)), .unset, .unset, .unset] [])) t := by
      by_cases c66_0 : ((i2).toUInt32.toUInt16.toUInt32.toInt32) = (((i0 &&& (255 : Int32))).toUInt32.toUInt16.toUInt32.toInt32)
      · refine ⟨(1 : Int32), Or.inl ⟨c66_0, rfl⟩, fun t k => ?_⟩
        refine XS.iload X65.here X65.hx rfl (X65.cd at_105) rfl  ?_
        show Steps p.tables e below (T65.setTop (mkF m 107 #[.val (.int i0), .val (.int i1), .val (.int i2), .val (.int i3), .val (.int (3 : Int32)), .val (.int (((i0 &&& (255 : Int32))).toUInt32.toUInt16.toUInt32.toInt32)), .val (.int ((((XT.ushr i0 (8 : Int32)) &&& (255 : Int32))).toUInt32.toUInt16.toUInt32.toInt32)), .val (.int ((((XT.ushr i0 (16 : Int32)) &&& (255 : Int32))).toUInt32.toUInt16.toUInt32.toInt32)), .val (.ref b52), .val (.ref b56), .val (.ref b59), .val (.int ((i2).toUInt32.toUInt16.toUInt32.toInt32)), .unset, .unset, .unset] [(.int (3 : Int32))])) t
        refine XS.ifNo X65.here X65.hx rfl (X65.cd at_107) rfl (XT.i0_le_f (by decide)) ?_
        show Steps p.tables e below (T65.setTop (mkF m 110 #[.val (.int i0), .val (.int i1), .val (.int i2), .val (.int i3), .val (.int (3 : Int32)), .val (.int (((i0 &&& (255 : Int32))).toUInt32.toUInt16.toUInt32.toInt32)), .val (.int ((((XT.ushr i0 (8 : Int32)) &&& (255 : Int32))).toUInt32.toUInt16.toUInt32.toInt32)), .val (.int ((((XT.ushr i0 (16 : Int32)) &&& (255 : Int32))).toUInt32.toUInt16.toUInt32.toInt32)), .val (.ref b52), .val (.ref b56), .val (.ref b59), .val (.int ((i2).toUInt32.toUInt16.toUInt32.toInt32)), .unset, .unset, .unset] [])) t
        refine XS.iload X65.here X65.hx rfl (X65.cd at_110) rfl  ?_
        show Steps p.tables e below (T65.setTop (mkF m 112 #[.val (.int i0), .val (.int i1), .val (.int i2), .val (.int i3), .val (.int (3 : Int32)), .val (.int (((i0 &&& (255 : Int32))).toUInt32.toUInt16.toUInt32.toInt32)), .val (.int ((((XT.ushr i0 (8 : Int32)) &&& (255 : Int32))).toUInt32.toUInt16.toUInt32.toInt32)), .val (.int ((((XT.ushr i0 (16 : Int32)) &&& (255 : Int32))).toUInt32.toUInt16.toUInt32.toInt32)), .val (.ref b52), .val (.ref b56), .val (.ref b59), .val (.int ((i2).toUInt32.toUInt16.toUInt32.toInt32)), .unset, .unset, .unset] [(.int ((i2).toUInt32.toUInt16.toUInt32.toInt32))])) t
        refine XS.iload X65.here X65.hx rfl (X65.cd at_112) rfl  ?_
        show Steps p.tables e below (T65.setTop (mkF m 114 #[.val (.int i0), .val (.int i1), .val (.int i2), .val (.int i3), .val (.int (3 : Int32)), .val (.int (((i0 &&& (255 : Int32))).toUInt32.toUInt16.toUInt32.toInt32)), .val (.int ((((XT.ushr i0 (8 : Int32)) &&& (255 : Int32))).toUInt32.toUInt16.toUInt32.toInt32)), .val (.int ((((XT.ushr i0 (16 : Int32)) &&& (255 : Int32))).toUInt32.toUInt16.toUInt32.toInt32)), .val (.ref b52), .val (.ref b56), .val (.ref b59), .val (.int ((i2).toUInt32.toUInt16.toUInt32.toInt32)), .unset, .unset, .unset] [(.int (((i0 &&& (255 : Int32))).toUInt32.toUInt16.toUInt32.toInt32)), (.int ((i2).toUInt32.toUInt16.toUInt32.toInt32))])) t
        refine XS.icmpYes X65.here X65.hx rfl (pc0 := 114) (pc' := 143) rfl (X65.cd at_114) rfl (XT.ii_eq_t c66_0) (by decide) (by decide) ?_
        show Steps p.tables e below (T65.setTop (mkF m 143 #[.val (.int i0), .val (.int i1), .val (.int i2), .val (.int i3), .val (.int (3 : Int32)), .val (.int (((i0 &&& (255 : Int32))).toUInt32.toUInt16.toUInt32.toInt32)), .val (.int ((((XT.ushr i0 (8 : Int32)) &&& (255 : Int32))).toUInt32.toUInt16.toUInt32.toInt32)), .val (.int ((((XT.ushr i0 (16 : Int32)) &&& (255 : Int32))).toUInt32.toUInt16.toUInt32.toInt32)), .val (.ref b52), .val (.ref b56), .val (.ref b59), .val (.int ((i2).toUInt32.toUInt16.toUInt32.toInt32)), .unset, .unset, .unset] [])) t
        refine XS.iconst X65.here X65.hx rfl (X65.cd at_143)  ?_
        show Steps p.tables e below (T65.setTop (mkF m 144 #[.val (.int i0), .val (.int i1), .val (.int i2), .val (.int i3), .val (.int (3 : Int32)), .val (.int (((i0 &&& (255 : Int32))).toUInt32.toUInt16.toUInt32.toInt32)), .val (.int ((((XT.ushr i0 (8 : Int32)) &&& (255 : Int32))).toUInt32.toUInt16.toUInt32.toInt32)), .val (.int ((((XT.ushr i0 (16 : Int32)) &&& (255 : Int32))).toUInt32.toUInt16.toUInt32.toInt32)), .val (.ref b52), .val (.ref b56), .val (.ref b59), .val (.int ((i2).toUInt32.toUInt16.toUInt32.toInt32)), .unset, .unset, .unset] [(.int (1 : Int32))])) t
        refine XS.goto X65.here X65.hx rfl (pc0 := 144) (pc' := 148) rfl (X65.cd at_144) (by decide) (by decide) ?_
        show Steps p.tables e below (T65.setTop (mkF m 148 #[.val (.int i0), .val (.int i1), .val (.int i2), .val (.int i3), .val (.int (3 : Int32)), .val (.int (((i0 &&& (255 : Int32))).toUInt32.toUInt16.toUInt32.toInt32)), .val (.int ((((XT.ushr i0 (8 : Int32)) &&& (255 : Int32))).toUInt32.toUInt16.toUInt32.toInt32)), .val (.int ((((XT.ushr i0 (16 : Int32)) &&& (255 : Int32))).toUInt32.toUInt16.toUInt32.toInt32)), .val (.ref b52), .val (.ref b56), .val (.ref b59), .val (.int ((i2).toUInt32.toUInt16.toUInt32.toInt32)), .unset, .unset, .unset] [(.int (1 : Int32))])) t
        exact k
      · by_cases c66_1 : ((i2).toUInt32.toUInt16.toUInt32.toInt32) = ((((XT.ushr i0 (8 : Int32)) &&& (255 : Int32))).toUInt32.toUInt16.toUInt32.toInt32)
        · refine ⟨(1 : Int32), Or.inr (Or.inl ⟨c66_0, c66_1, rfl⟩), fun t k => ?_⟩
          refine XS.iload X65.here X65.hx rfl (X65.cd at_105) rfl  ?_
          show Steps p.tables e below (T65.setTop (mkF m 107 #[.val (.int i0), .val (.int i1), .val (.int i2), .val (.int i3), .val (.int (3 : Int32)), .val (.int (((i0 &&& (255 : Int32))).toUInt32.toUInt16.toUInt32.toInt32)), .val (.int ((((XT.ushr i0 (8 : Int32)) &&& (255 : Int32))).toUInt32.toUInt16.toUInt32.toInt32)), .val (.int ((((XT.ushr i0 (16 : Int32)) &&& (255 : Int32))).toUInt32.toUInt16.toUInt32.toInt32)), .val (.ref b52), .val (.ref b56), .val (.ref b59), .val (.int ((i2).toUInt32.toUInt16.toUInt32.toInt32)), .unset, .unset, .unset] [(.int (3 : Int32))])) t
          refine XS.ifNo X65.here X65.hx rfl (X65.cd at_107) rfl (XT.i0_le_f (by decide)) ?_
          show Steps p.tables e below (T65.setTop (mkF m 110 #[.val (.int i0), .val (.int i1), .val (.int i2), .val (.int i3), .val (.int (3 : Int32)), .val (.int (((i0 &&& (255 : Int32))).toUInt32.toUInt16.toUInt32.toInt32)), .val (.int ((((XT.ushr i0 (8 : Int32)) &&& (255 : Int32))).toUInt32.toUInt16.toUInt32.toInt32)), .val (.int ((((XT.ushr i0 (16 : Int32)) &&& (255 : Int32))).toUInt32.toUInt16.toUInt32.toInt32)), .val (.ref b52), .val (.ref b56), .val (.ref b59), .val (.int ((i2).toUInt32.toUInt16.toUInt32.toInt32)), .unset, .unset, .unset] [])) t
          refine XS.iload X65.here X65.hx rfl (X65.cd at_110) rfl  ?_
          show Steps p.tables e below (T65.setTop (mkF m 112 #[.val (.int i0), .val (.int i1), .val (.int i2), .val (.int i3), .val (.int (3 : Int32)), .val (.int (((i0 &&& (255 : Int32))).toUInt32.toUInt16.toUInt32.toInt32)), .val (.int ((((XT.ushr i0 (8 : Int32)) &&& (255 : Int32))).toUInt32.toUInt16.toUInt32.toInt32)), .val (.int ((((XT.ushr i0 (16 : Int32)) &&& (255 : Int32))).toUInt32.toUInt16.toUInt32.toInt32)), .val (.ref b52), .val (.ref b56), .val (.ref b59), .val (.int ((i2).toUInt32.toUInt16.toUInt32.toInt32)), .unset, .unset, .unset] [(.int ((i2).toUInt32.toUInt16.toUInt32.toInt32))])) t
          refine XS.iload X65.here X65.hx rfl (X65.cd at_112) rfl  ?_
          show Steps p.tables e below (T65.setTop (mkF m 114 #[.val (.int i0), .val (.int i1), .val (.int i2), .val (.int i3), .val (.int (3 : Int32)), .val (.int (((i0 &&& (255 : Int32))).toUInt32.toUInt16.toUInt32.toInt32)), .val (.int ((((XT.ushr i0 (8 : Int32)) &&& (255 : Int32))).toUInt32.toUInt16.toUInt32.toInt32)), .val (.int ((((XT.ushr i0 (16 : Int32)) &&& (255 : Int32))).toUInt32.toUInt16.toUInt32.toInt32)), .val (.ref b52), .val (.ref b56), .val (.ref b59), .val (.int ((i2).toUInt32.toUInt16.toUInt32.toInt32)), .unset, .unset, .unset] [(.int (((i0 &&& (255 : Int32))).toUInt32.toUInt16.toUInt32.toInt32)), (.int ((i2).toUInt32.toUInt16.toUInt32.toInt32))])) t
          refine XS.icmpNo X65.here X65.hx rfl (X65.cd at_114) rfl (XT.ii_eq_f c66_0) ?_
          show Steps p.tables e below (T65.setTop (mkF m 117 #[.val (.int i0), .val (.int i1), .val (.int i2), .val (.int i3), .val (.int (3 : Int32)), .val (.int (((i0 &&& (255 : Int32))).toUInt32.toUInt16.toUInt32.toInt32)), .val (.int ((((XT.ushr i0 (8 : Int32)) &&& (255 : Int32))).toUInt32.toUInt16.toUInt32.toInt32)), .val (.int ((((XT.ushr i0 (16 : Int32)) &&& (255 : Int32))).toUInt32.toUInt16.toUInt32.toInt32)), .val (.ref b52), .val (.ref b56), .val (.ref b59), .val (.int ((i2).toUInt32.toUInt16.toUInt32.toInt32)), .unset, .unset, .unset] [])) t
          refine XS.iload X65.here X65.hx rfl (X65.cd at_117) rfl  ?_
          show Steps p.tables e below (T65.setTop (mkF m 119 #[.val (.int i0), .val (.int i1), .val (.int i2), .val (.int i3), .val (.int (3 : Int32)), .val (.int (((i0 &&& (255 : Int32))).toUInt32.toUInt16.toUInt32.toInt32)), .val (.int ((((XT.ushr i0 (8 : Int32)) &&& (255 : Int32))).toUInt32.toUInt16.toUInt32.toInt32)), .val (.int ((((XT.ushr i0 (16 : Int32)) &&& (255 : Int32))).toUInt32.toUInt16.toUInt32.toInt32)), .val (.ref b52), .val (.ref b56), .val (.ref b59), .val (.int ((i2).toUInt32.toUInt16.toUInt32.toInt32)), .unset, .unset, .unset] [(.int (3 : Int32))])) t
          refine XS.iconst X65.here X65.hx rfl (X65.cd at_119)  ?_
          show Steps p.tables e below (T65.setTop (mkF m 120 #[.val (.int i0), .val (.int i1), .val (.int i2), .val (.int i3), .val (.int (3 : Int32)), .val (.int (((i0 &&& (255 : Int32))).toUInt32.toUInt16.toUInt32.toInt32)), .val (.int ((((XT.ushr i0 (8 : Int32)) &&& (255 : Int32))).toUInt32.toUInt16.toUInt32.toInt32)), .val (.int ((((XT.ushr i0 (16 : Int32)) &&& (255 : Int32))).toUInt32.toUInt16.toUInt32.toInt32)), .val (.ref b52), .val (.ref b56), .val (.ref b59), .val (.int ((i2).toUInt32.toUInt16.toUInt32.toInt32)), .unset, .unset, .unset] [(.int (1 : Int32)), (.int (3 : Int32))])) t
          refine XS.icmpNo X65.here X65.hx rfl (X65.cd at_120) rfl (XT.ii_le_f (by decide)) ?_
          show Steps p.tables e below (T65.setTop (mkF m 123 #[.val (.int i0), .val (.int i1), .val (.int i2), .val (.int i3), .val (.int (3 : Int32)), .val (.int (((i0 &&& (255 : Int32))).toUInt32.toUInt16.toUInt32.toInt32)), .val (.int ((((XT.ushr i0 (8 : Int32)) &&& (255 : Int32))).toUInt32.toUInt16.toUInt32.toInt32)), .val (.int ((((XT.ushr i0 (16 : Int32)) &&& (255 : Int32))).toUInt32.toUInt16.toUInt32.toInt32)), .val (.ref b52), .val (.ref b56), .val (.ref b59), .val (.int ((i2).toUInt32.toUInt16.toUInt32.toInt32)), .unset, .unset, .unset] [])) t
          refine XS.iload X65.here X65.hx rfl (X65.cd at_123) rfl  ?_
          show Steps p.tables e below (T65.setTop (mkF m 125 #[.val (.int i0), .val (.int i1), .val (.int i2), .val (.int i3), .val (.int (3 : Int32)), .val (.int (((i0 &&& (255 : Int32))).toUInt32.toUInt16.toUInt32.toInt32)), .val (.int ((((XT.ushr i0 (8 : Int32)) &&& (255 : Int32))).toUInt32.toUInt16.toUInt32.toInt32)), .val (.int ((((XT.ushr i0 (16 : Int32)) &&& (255 : Int32))).toUInt32.toUInt16.toUInt32.toInt32)), .val (.ref b52), .val (.ref b56), .val (.ref b59), .val (.int ((i2).toUInt32.toUInt16.toUInt32.toInt32)), .unset, .unset, .unset] [(.int ((i2).toUInt32.toUInt16.toUInt32.toInt32))])) t
          refine XS.iload X65.here X65.hx rfl (X65.cd at_125) rfl  ?_
          show Steps p.tables e below (T65.setTop (mkF m 127 #[.val (.int i0), .val (.int i1), .val (.int i2), .val (.int i3), .val (.int (3 : Int32)), .val (.int (((i0 &&& (255 : Int32))).toUInt32.toUInt16.toUInt32.toInt32)), .val (.int ((((XT.ushr i0 (8 : Int32)) &&& (255 : Int32))).toUInt32.toUInt16.toUInt32.toInt32)), .val (.int ((((XT.ushr i0 (16 : Int32)) &&& (255 : Int32))).toUInt32.toUInt16.toUInt32.toInt32)), .val (.ref b52), .val (.ref b56), .val (.ref b59), .val (.int ((i2).toUInt32.toUInt16.toUInt32.toInt32)), .unset, .unset, .unset] [(.int ((((XT.ushr i0 (8 : Int32)) &&& (255 : Int32))).toUInt32.toUInt16.toUInt32.toInt32)), (.int ((i2).toUInt32.toUInt16.toUInt32.toInt32))])) t
          refine XS.icmpYes X65.here X65.hx rfl (pc0 := 127) (pc' := 143) rfl (X65.cd at_127) rfl (XT.ii_eq_t c66_1) (by decide) (by decide) ?_
          show Steps p.tables e below (T65.setTop (mkF m 143 #[.val (.int i0), .val (.int i1), .val (.int i2), .val (.int i3), .val (.int (3 : Int32)), .val (.int (((i0 &&& (255 : Int32))).toUInt32.toUInt16.toUInt32.toInt32)), .val (.int ((((XT.ushr i0 (8 : Int32)) &&& (255 : Int32))).toUInt32.toUInt16.toUInt32.toInt32)), .val (.int ((((XT.ushr i0 (16 : Int32)) &&& (255 : Int32))).toUInt32.toUInt16.toUInt32.toInt32)), .val (.ref b52), .val (.ref b56), .val (.ref b59), .val (.int ((i2).toUInt32.toUInt16.toUInt32.toInt32)), .unset, .unset, .unset] [])) t
          refine XS.iconst X65.here X65.hx rfl (X65.cd at_143)  ?_
          show Steps p.tables e below (T65.setTop (mkF m 144 #[.val (.int i0), .val (.int i1), .val (.int i2), .val (.int i3), .val (.int (3 : Int32)), .val (.int (((i0 &&& (255 : Int32))).toUInt32.toUInt16.toUInt32.toInt32)), .val (.int ((((XT.ushr i0 (8 : Int32)) &&& (255 : Int32))).toUInt32.toUInt16.toUInt32.toInt32)), .val (.int ((((XT.ushr i0 (16 : Int32)) &&& (255 : Int32))).toUInt32.toUInt16.toUInt32.toInt32)), .val (.ref b52), .val (.ref b56), .val (.ref b59), .val (.int ((i2).toUInt32.toUInt16.toUInt32.toInt32)), .unset, .unset, .unset] [(.int (1 : Int32))])) t
          refine XS.goto X65.here X65.hx rfl (pc0 := 144) (pc' := 148) rfl (X65.cd at_144) (by decide) (by decide) ?_
          show Steps p.tables e below (T65.setTop (mkF m 148 #[.val (.int i0), .val (.int i1), .val (.int i2), .val (.int i3), .val (.int (3 : Int32)), .val (.int (((i0 &&& (255 : Int32))).toUInt32.toUInt16.toUInt32.toInt32)), .val (.int ((((XT.ushr i0 (8 : Int32)) &&& (255 : Int32))).toUInt32.toUInt16.toUInt32.toInt32)), .val (.int ((((XT.ushr i0 (16 : Int32)) &&& (255 : Int32))).toUInt32.toUInt16.toUInt32.toInt32)), .val (.ref b52), .val (.ref b56), .val (.ref b59), .val (.int ((i2).toUInt32.toUInt16.toUInt32.toInt32)), .unset, .unset, .unset] [(.int (1 : Int32))])) t
          exact k
        · by_cases c66_2 : ((i2).toUInt32.toUInt16.toUInt32.toInt32) = ((((XT.ushr i0 (16 : Int32)) &&& (255 : Int32))).toUInt32.toUInt16.toUInt32.toInt32)
          · refine ⟨(1 : Int32), Or.inr (Or.inr (Or.inl ⟨c66_0, c66_1, c66_2, rfl⟩)), fun t k => ?_⟩
            refine XS.iload X65.here X65.hx rfl (X65.cd at_105) rfl  ?_
            show Steps p.tables e below (T65.setTop (mkF m 107 #[.val (.int i0), .val (.int i1), .val (.int i2), .val (.int i3), .val (.int (3 : Int32)), .val (.int (((i0 &&& (255 : Int32))).toUInt32.toUInt16.toUInt32.toInt32)), .val (.int ((((XT.ushr i0 (8 : Int32)) &&& (255 : Int32))).toUInt32.toUInt16.toUInt32.toInt32)), .val (.int ((((XT.ushr i0 (16 : Int32)) &&& (255 : Int32))).toUInt32.toUInt16.toUInt32.toInt32)), .val (.ref b52), .val (.ref b56), .val (.ref b59), .val (.int ((i2).toUInt32.toUInt16.toUInt32.toInt32)), .unset, .unset, .unset] [(.int (3 : Int32))])) t
            refine XS.ifNo X65.here X65.hx rfl (X65.cd at_107) rfl (XT.i0_le_f (by decide)) ?_
            show Steps p.tables e below (T65.setTop (mkF m 110 #[.val (.int i0), .val (.int i1), .val (.int i2), .val (.int i3), .val (.int (3 : Int32)), .val (.int (((i0 &&& (255 : Int32))).toUInt32.toUInt16.toUInt32.toInt32)), .val (.int ((((XT.ushr i0 (8 : Int32)) &&& (255 : Int32))).toUInt32.toUInt16.toUInt32.toInt32)), .val (.int ((((XT.ushr i0 (16 : Int32)) &&& (255 : Int32))).toUInt32.toUInt16.toUInt32.toInt32)), .val (.ref b52), .val (.ref b56), .val (.ref b59), .val (.int ((i2).toUInt32.toUInt16.toUInt32.toInt32)), .unset, .unset, .unset] [])) t
            refine XS.iload X65.here X65.hx rfl (X65.cd at_110) rfl  ?_
            show Steps p.tables e below (T65.setTop (mkF m 112 #[.val (.int i0), .val (.int i1), .val (.int i2), .val (.int i3), .val (.int (3 : Int32)), .val (.int (((i0 &&& (255 : Int32))).toUInt32.toUInt16.toUInt32.toInt32)), .val (.int ((((XT.ushr i0 (8 : Int32)) &&& (255 : Int32))).toUInt32.toUInt16.toUInt32.toInt32)), .val (.int ((((XT.ushr i0 (16 : Int32)) &&& (255 : Int32))).toUInt32.toUInt16.toUInt32.toInt32)), .val (.ref b52), .val (.ref b56), .val (.ref b59), .val (.int ((i2).toUInt32.toUInt16.toUInt32.toInt32)), .unset, .unset, .unset] [(.int ((i2).toUInt32.toUInt16.toUInt32.toInt32))])) t
            refine XS.iload X65.here X65.hx rfl (X65.cd at_112) rfl  ?_
            show Steps p.tables e below (T65.setTop (mkF m 114 #[.val (.int i0), .val (.int i1), .val (.int i2), .val (.int i3), .val (.int (3 : Int32)), .val (.int (((i0 &&& (255 : Int32))).toUInt32.toUInt16.toUInt32.toInt32)), .val (.int ((((XT.ushr i0 (8 : Int32)) &&& (255 : Int32))).toUInt32.toUInt16.toUInt32.toInt32)), .val (.int ((((XT.ushr i0 (16 : Int32)) &&& (255 : Int32))).toUInt32.toUInt16.toUInt32.toInt32)), .val (.ref b52), .val (.ref b56), .val (.ref b59), .val (.int ((i2).toUInt32.toUInt16.toUInt32.toInt32)), .unset, .unset, .unset] [(.int (((i0 &&& (255 : Int32))).toUInt32.toUInt16.toUInt32.toInt32)), (.int ((i2).toUInt32.toUInt16.toUInt32.toInt32))])) t
            refine XS.icmpNo X65.here X65.hx rfl (X65.cd at_114) rfl (XT.ii_eq_f c66_0) ?_
            show Steps p.tables e below (T65.setTop (mkF m 117 #[.val (.int i0), .val (.int i1), .val (.int i2), .val (.int i3), .val (.int (3 : Int32)), .val (.int (((i0 &&& (255 : Int32))).toUInt32.toUInt16.toUInt32.toInt32)), .val (.int ((((XT.ushr i0 (8 : Int32)) &&& (255 : Int32))).toUInt32.toUInt16.toUInt32.toInt32)), .val (.int ((((XT.ushr i0 (16 : Int32)) &&& (255 : Int32))).toUInt32.toUInt16.toUInt32.toInt32)), .val (.ref b52), .val (.ref b56), .val (.ref b59), .val (.int ((i2).toUInt32.toUInt16.toUInt32.toInt32)), .unset, .unset, .unset] [])) t
            refine XS.iload X65.here X65.hx rfl (X65.cd at_117) rfl  ?_
            show Steps p.tables e below (T65.setTop (mkF m 119 #[.val (.int i0), .val (.int i1), .val (.int i2), .val (.int i3), .val (.int (3 : Int32)), .val (.int (((i0 &&& (255 : Int32))).toUInt32.toUInt16.toUInt32.toInt32)), .val (.int ((((XT.ushr i0 (8 : Int32)) &&& (255 : Int32))).toUInt32.toUInt16.toUInt32.toInt32)), .val (.int ((((XT.ushr i0 (16 : Int32)) &&& (255 : Int32))).toUInt32.toUInt16.toUInt32.toInt32)), .val (.ref b52), .val (.ref b56), .val (.ref b59), .val (.int ((i2).toUInt32.toUInt16.toUInt32.toInt32)), .unset, .unset, .unset] [(.int (3 : Int32))])) t
            refine XS.iconst X65.here X65.hx rfl (X65.cd at_119)  ?_
            show Steps p.tables e below (T65.setTop (mkF m 120 #[.val (.int i0), .val (.int i1), .val (.int i2), .val (.int i3), .val (.int (3 : Int32)), .val (.int (((i0 &&& (255 : Int32))).toUInt32.toUInt16.toUInt32.toInt32)), .val (.int ((((XT.ushr i0 (8 : Int32)) &&& (255 : Int32))).toUInt32.toUInt16.toUInt32.toInt32)), .val (.int ((((XT.ushr i0 (16 : Int32)) &&& (255 : Int32))).toUInt32.toUInt16.toUInt32.toInt32)), .val (.ref b52), .val (.ref b56), .val (.ref b59), .val (.int ((i2).toUInt32.toUInt16.toUInt32.toInt32)), .unset, .unset, .unset] [(.int (1 : Int32)), (.int (3 : Int32))])) t
            refine XS.icmpNo X65.here X65.hx rfl (X65.cd at_120) rfl (XT.ii_le_f (by decide)) ?_
            show Steps p.tables e below (T65.setTop (mkF m 123 #[.val (.int i0), .val (.int i1), .val (.int i2), .val (.int i3), .val (.int (3 : Int32)), .val (.int (((i0 &&& (255 : Int32))).toUInt32.toUInt16.toUInt32.toInt32)), .val (.int ((((XT.ushr i0 (8 : Int32)) &&& (255 : Int32))).toUInt32.toUInt16.toUInt32.toInt32)), .val (.int ((((XT.ushr i0 (16 : Int32)) &&& (255 : Int32))).toUInt32.toUInt16.toUInt32.toInt32)), .val (.ref b52), .val (.ref b56), .val (.ref b59), .val (.int ((i2).toUInt32.toUInt16.toUInt32.toInt32)), .unset, .unset, .unset] [])) t
            refine XS.iload X65.here X65.hx rfl (X65.cd at_123) rfl  ?_
            show Steps p.tables e below (T65.setTop (mkF m 125 #[.val (.int i0), .val (.int i1), .val (.int i2), .val (.int i3), .val (.int (3 : Int32)), .val (.int (((i0 &&& (255 : Int32))).toUInt32.toUInt16.toUInt32.toInt32)), .val (.int ((((XT.ushr i0 (8 : Int32)) &&& (255 : Int32))).toUInt32.toUInt16.toUInt32.toInt32)), .val (.int ((((XT.ushr i0 (16 : Int32)) &&& (255 : Int32))).toUInt32.toUInt16.toUInt32.toInt32)), .val (.ref b52), .val (.ref b56), .val (.ref b59), .val (.int ((i2).toUInt32.toUInt16.toUInt32.toInt32)), .unset, .unset, .unset] [(.int ((i2).toUInt32.toUInt16.toUInt32.toInt32))])) t
            refine XS.iload X65.here X65.hx rfl (X65.cd at_125) rfl  ?_
            show Steps p.tables e below (T65.setTop (mkF m 127 #[.val (.int i0), .val (.int i1), .val (.int i2), .val (.int i3), .val (.int (3 : Int32)), .val (.int (((i0 &&& (255 : Int32))).toUInt32.toUInt16.toUInt32.toInt32)), .val (.int ((((XT.ushr i0 (8 : Int32)) &&& (255 : Int32))).toUInt32.toUInt16.toUInt32.toInt32)), .val (.int ((((XT.ushr i0 (16 : Int32)) &&& (255 : Int32))).toUInt32.toUInt16.toUInt32.toInt32)), .val (.ref b52), .val (.ref b56), .val (.ref b59), .val (.int ((i2).toUInt32.toUInt16.toUInt32.toInt32)), .unset, .unset, .unset] [(.int ((((XT.ushr i0 (8 : Int32)) &&& (255 : Int32))).toUInt32.toUInt16.toUInt32.toInt32)), (.int ((i2).toUInt32.toUInt16.toUInt32.toInt32))])) t
            refine XS.icmpNo X65.here X65.hx rfl (X65.cd at_127) rfl (XT.ii_eq_f c66_1) ?_
            show Steps p.tables e below (T65.setTop (mkF m 130 #[.val (.int i0), .val (.int i1), .val (.int i2), .val (.int i3), .val (.int (3 : Int32)), .val (.int (((i0 &&& (255 : Int32))).toUInt32.toUInt16.toUInt32.toInt32)), .val (.int ((((XT.ushr i0 (8 : Int32)) &&& (255 : Int32))).toUInt32.toUInt16.toUInt32.toInt32)), .val (.int ((((XT.ushr i0 (16 : Int32)) &&& (255 : Int32))).toUInt32.toUInt16.toUInt32.toInt32)), .val (.ref b52), .val (.ref b56), .val (.ref b59), .val (.int ((i2).toUInt32.toUInt16.toUInt32.toInt32)), .unset, .unset, .unset] [])) t
            refine XS.iload X65.here X65.hx rfl (X65.cd at_130) rfl  ?_
            show Steps p.tables e below (T65.setTop (mkF m 132 #[.val (.int i0), .val (.int i1), .val (.int i2), .val (.int i3), .val (.int (3 : Int32)), .val (.int (((i0 &&& (255 : Int32))).toUInt32.toUInt16.toUInt32.toInt32)), .val (.int ((((XT.ushr i0 (8 : Int32)) &&& (255 : Int32))).toUInt32.toUInt16.toUInt32.toInt32)), .val (.int ((((XT.ushr i0 (16 : Int32)) &&& (255 : Int32))).toUInt32.toUInt16.toUInt32.toInt32)), .val (.ref b52), .val (.ref b56), .val (.ref b59), .val (.int ((i2).toUInt32.toUInt16.toUInt32.toInt32)), .unset, .unset, .unset] [(.int (3 : Int32))])) t
            refine XS.iconst X65.here X65.hx rfl (X65.cd at_132)  ?_
            show Steps p.tables e below (T65.setTop (mkF m 133 #[.val (.int i0), .val (.int i1), .val (.int i2), .val (.int i3), .val (.int (3 : Int32)), .val (.int (((i0 &&& (255 : Int32))).toUInt32.toUInt16.toUInt32.toInt32)), .val (.int ((((XT.ushr i0 (8 : Int32)) &&& (255 : Int32))).toUInt32.toUInt16.toUInt32.toInt32)), .val (.int ((((XT.ushr i0 (16 : Int32)) &&& (255 : Int32))).toUInt32.toUInt16.toUInt32.toInt32)), .val (.ref b52), .val (.ref b56), .val (.ref b59), .val (.int ((i2).toUInt32.toUInt16.toUInt32.toInt32)), .unset, .unset, .unset] [(.int (2 : Int32)), (.int (3 : Int32))])) t
            refine XS.icmpNo X65.here X65.hx rfl (X65.cd at_133) rfl (XT.ii_le_f (by decide)) ?_
            show Steps p.tables e below (T65.setTop (mkF m 136 #[.val (.int i0), .val (.int i1), .val (.int i2), .val (.int i3), .val (.int (3 : Int32)), .val (.int (((i0 &&& (255 : Int32))).toUInt32.toUInt16.toUInt32.toInt32)), .val (.int ((((XT.ushr i0 (8 : Int32)) &&& (255 : Int32))).toUInt32.toUInt16.toUInt32.toInt32)), .val (.int ((((XT.ushr i0 (16 : Int32)) &&& (255 : Int32))).toUInt32.toUInt16.toUInt32.toInt32)), .val (.ref b52), .val (.ref b56), .val (.ref b59), .val (.int ((i2).toUInt32.toUInt16.toUInt32.toInt32)), .unset, .unset, .unset] [])) t
            refine XS.iload X65.here X65.hx rfl (X65.cd at_136) rfl  ?_
            show Steps p.tables e below (T65.setTop (mkF m 138 #[.val (.int i0), .val (.int i1), .val (.int i2), .val (.int i3), .val (.int (3 : Int32)), .val (.int (((i0 &&& (255 : Int32))).toUInt32.toUInt16.toUInt32.toInt32)), .val (.int ((((XT.ushr i0 (8 : Int32)) &&& (255 : Int32))).toUInt32.toUInt16.toUInt32.toInt32)), .val (.int ((((XT.ushr i0 (16 : Int32)) &&& (255 : Int32))).toUInt32.toUInt16.toUInt32.toInt32)), .val (.ref b52), .val (.ref b56), .val (.ref b59), .val (.int ((i2).toUInt32.toUInt16.toUInt32.toInt32)), .unset, .unset, .unset] [(.int ((i2).toUInt32.toUInt16.toUInt32.toInt32))])) t
            refine XS.iload X65.here X65.hx rfl (X65.cd at_138) rfl  ?_
            show Steps p.tables e below (T65.setTop (mkF m 140 #[.val (.int i0), .val (.int i1), .val (.int i2), .val (.int i3), .val (.int (3 : Int32)), .val (.int (((i0 &&& (255 : Int32))).toUInt32.toUInt16.toUInt32.toInt32)), .val (.int ((((XT.ushr i0 (8 : Int32)) &&& (255 : Int32))).toUInt32.toUInt16.toUInt32.toInt32)), .val (.int ((((XT.ushr i0 (16 : Int32)) &&& (255 : Int32))).toUInt32.toUInt16.toUInt32.toInt32)), .val (.ref b52), .val (.ref b56), .val (.ref b59), .val (.int ((i2).toUInt32.toUInt16.toUInt32.toInt32)), .unset, .unset, .unset] [(.int ((((XT.ushr i0 (16 : Int32)) &&& (255 : Int32))).toUInt32.toUInt16.toUInt32.toInt32)), (.int ((i2).toUInt32.toUInt16.toUInt32.toInt32))])) t
            refine XS.icmpNo X65.here X65.hx rfl (X65.cd at_140) rfl (XT.ii_ne_f c66_2) ?_
            show Steps p.tables e below (T65.setTop (mkF m 143 #[.val (.int i0), .val (.int i1), .val (.int i2), .val (.int i3), .val (.int (3 : Int32)), .val (.int (((i0 &&& (255 : Int32))).toUInt32.toUInt16.toUInt32.toInt32)), .val (.int ((((XT.ushr i0 (8 : Int32)) &&& (255 : Int32))).toUInt32.toUInt16.toUInt32.toInt32)), .val (.int ((((XT.ushr i0 (16 : Int32)) &&& (255 : Int32))).toUInt32.toUInt16.toUInt32.toInt32)), .val (.ref b52), .val (.ref b56), .val (.ref b59), .val (.int ((i2).toUInt32.toUInt16.toUInt32.toInt32)), .unset, .unset, .unset] [])) t
            refine XS.iconst X65.here X65.hx rfl (X65.cd at_143)  ?_
            show Steps p.tables e below (T65.setTop (mkF m 144 #[.val (.int i0), .val (.int i1), .val (.int i2), .val (.int i3), .val (.int (3 : Int32)), .val (.int (((i0 &&& (255 : Int32))).toUInt32.toUInt16.toUInt32.toInt32)), .val (.int ((((XT.ushr i0 (8 : Int32)) &&& (255 : Int32))).toUInt32.toUInt16.toUInt32.toInt32)), .val (.int ((((XT.ushr i0 (16 : Int32)) &&& (255 : Int32))).toUInt32.toUInt16.toUInt32.toInt32)), .val (.ref b52), .val (.ref b56), .val (.ref b59), .val (.int ((i2).toUInt32.toUInt16.toUInt32.toInt32)), .unset, .unset, .unset] [(.int (1 : Int32))])) t
            refine XS.goto X65.here X65.hx rfl (pc0 := 144) (pc' := 148) rfl (X65.cd at_144) (by decide) (by decide) ?_
            show Steps p.tables e below (T65.setTop (mkF m 148 #[.val (.int i0), .val (.int i1), .val (.int i2), .val (.int i3), .val (.int (3 : Int32)), .val (.int (((i0 &&& (255 : Int32))).toUInt32.toUInt16.toUInt32.toInt32)), .val (.int ((((XT.ushr i0 (8 : Int32)) &&& (255 : Int32))).toUInt32.toUInt16.toUInt32.toInt32)), .val (.int ((((XT.ushr i0 (16 : Int32)) &&& (255 : Int32))).toUInt32.toUInt16.toUInt32.toInt32)), .val (.ref b52), .val (.ref b56), .val (.ref b59), .val (.int ((i2).toUInt32.toUInt16.toUInt32.toInt32)), .unset, .unset, .unset] [(.int (1 : Int32))])) t
            exact k
          · refine ⟨(0 : Int32), Or.inr (Or.inr (Or.inr (⟨c66_0, c66_1, c66_2, rfl⟩))), fun t k => ?_⟩
            refine XS.iload X65.here X65.hx rfl (X65.cd at_105) rfl  ?_
            show Steps p.tables e below (T65.setTop (mkF m 107 #[.val (.int i0), .val (.int i1), .val (.int i2), .val (.int i3), .val (.int (3 : Int32)), .val (.int (((i0 &&& (255 : Int32))).toUInt32.toUInt16.toUInt32.toInt32)), .val (.int ((((XT.ushr i0 (8 : Int32)) &&& (255 : Int32))).toUInt32.toUInt16.toUInt32.toInt32)), .val (.int ((((XT.ushr i0 (16 : Int32)) &&& (255 : Int32))).toUInt32.toUInt16.toUInt32.toInt32)), .val (.ref b52), .val (.ref b56), .val (.ref b59), .val (.int ((i2).toUInt32.toUInt16.toUInt32.toInt32)), .unset, .unset, .unset] [(.int (3 : Int32))])) t
            refine XS.ifNo X65.here X65.hx rfl (X65.cd at_107) rfl (XT.i0_le_f (by decide)) ?_
            show Steps p.tables e below (T65.setTop (mkF m 110 #[.val (.int i0), .val (.int i1), .val (.int i2), .val (.int i3), .val (.int (3 : Int32)), .val (.int (((i0 &&& (255 : Int32))).toUInt32.toUInt16.toUInt32.toInt32)), .val (.int ((((XT.ushr i0 (8 : Int32)) &&& (255 : Int32))).toUInt32.toUInt16.toUInt32.toInt32)), .val (.int ((((XT.ushr i0 (16 : Int32)) &&& (255 : Int32))).toUInt32.toUInt16.toUInt32.toInt32)), .val (.ref b52), .val (.ref b56), .val (.ref b59), .val (.int ((i2).toUInt32.toUInt16.toUInt32.toInt32)), .unset, .unset, .unset] [])) t
            refine XS.iload X65.here X65.hx rfl (X65.cd at_110) rfl  ?_
            show Steps p.tables e below (T65.setTop (mkF m 112 #[.val (.int i0), .val (.int i1), .val (.int i2), .val (.int i3), .val (.int (3 : Int32)), .val (.int (((i0 &&& (255 : Int32))).toUInt32.toUInt16.toUInt32.toInt32)), .val (.int ((((XT.ushr i0 (8 : Int32)) &&& (255 : Int32))).toUInt32.toUInt16.toUInt32.toInt32)), .val (.int ((((XT.ushr i0 (16 : Int32)) &&& (255 : Int32))).toUInt32.toUInt16.toUInt32.toInt32)), .val (.ref b52), .val (.ref b56), .val (.ref b59), .val (.int ((i2).toUInt32.toUInt16.toUInt32.toInt32)), .unset, .unset, .unset] [(.int ((i2).toUInt32.toUInt16.toUInt32.toInt32))])) t
            refine XS.iload X65.here X65.hx rfl (X65.cd at_112) rfl  ?_
            show Steps p.tables e below (T65.setTop (mkF m 114 #[.val (.int i0), .val (.int i1), .val (.int i2), .val (.int i3), .val (.int (3 : Int32)), .val (.int (((i0 &&& (255 : Int32))).toUInt32.toUInt16.toUInt32.toInt32)), .val (.int ((((XT.ushr i0 (8 : Int32)) &&& (255 : Int32))).toUInt32.toUInt16.toUInt32.toInt32)), .val (.int ((((XT.ushr i0 (16 : Int32)) &&& (255 : Int32))).toUInt32.toUInt16.toUInt32.toInt32)), .val (.ref b52), .val (.ref b56), .val (.ref b59), .val (.int ((i2).toUInt32.toUInt16.toUInt32.toInt32)), .unset, .unset, .unset] [(.int (((i0 &&& (255 : Int32))).toUInt32.toUInt16.toUInt32.toInt32)), (.int ((i2).toUInt32.toUInt16.toUInt32.toInt32))])) t
            refine XS.icmpNo X65.here X65.hx rfl (X65.cd at_114) rfl (XT.ii_eq_f c66_0) ?_
            show Steps p.tables e below (T65.setTop (mkF m 117 #[.val (.int i0), .val (.int i1), .val (.int i2), .val (.int i3), .val (.int (3 : Int32)), .val (.int (((i0 &&& (255 : Int32))).toUInt32.toUInt16.toUInt32.toInt32)), .val (.int ((((XT.ushr i0 (8 : Int32)) &&& (255 : Int32))).toUInt32.toUInt16.toUInt32.toInt32)), .val (.int ((((XT.ushr i0 (16 : Int32)) &&& (255 : Int32))).toUInt32.toUInt16.toUInt32.toInt32)), .val (.ref b52), .val (.ref b56), .val (.ref b59), .val (.int ((i2).toUInt32.toUInt16.toUInt32.toInt32)), .unset, .unset, .unset] [])) t
            refine XS.iload X65.here X65.hx rfl (X65.cd at_117) rfl  ?_
            show Steps p.tables e below (T65.setTop (mkF m 119 #[.val (.int i0), .val (.int i1), .val (.int i2), .val (.int i3), .val (.int (3 : Int32)), .val (.int (((i0 &&& (255 : Int32))).toUInt32.toUInt16.toUInt32.toInt32)), .val (.int ((((XT.ushr i0 (8 : Int32)) &&& (255 : Int32))).toUInt32.toUInt16.toUInt32.toInt32)), .val (.int ((((XT.ushr i0 (16 : Int32)) &&& (255 : Int32))).toUInt32.toUInt16.toUInt32.toInt32)), .val (.ref b52), .val (.ref b56), .val (.ref b59), .val (.int ((i2).toUInt32.toUInt16.toUInt32.toInt32)), .unset, .unset, .unset] [(.int (3 : Int32))])) t
            refine XS.iconst X65.here X65.hx rfl (X65.cd at_119)  ?_
            show Steps p.tables e below (T65.setTop (mkF m 120 #[.val (.int i0), .val (.int i1), .val (.int i2), .val (.int i3), .val (.int (3 : Int32)), .val (.int (((i0 &&& (255 : Int32))).toUInt32.toUInt16.toUInt32.toInt32)), .val (.int ((((XT.ushr i0 (8 : Int32)) &&& (255 : Int32))).toUInt32.toUInt16.toUInt32.toInt32)), .val (.int ((((XT.ushr i0 (16 : Int32)) &&& (255 : Int32))).toUInt32.toUInt16.toUInt32.toInt32)), .val (.ref b52), .val (.ref b56), .val (.ref b59), .val (.int ((i2).toUInt32.toUInt16.toUInt32.toInt32)), .unset, .unset, .unset] [(.int (1 : Int32)), (.int (3 : Int32))])) t
            refine XS.icmpNo X65.here X65.hx rfl (X65.cd at_120) rfl (XT.ii_le_f (by decide)) ?_
            show Steps p.tables e below (T65.setTop (mkF m 123 #[.val (.int i0), .val (.int i1), .val (.int i2), .val (.int i3), .val (.int (3 : Int32)), .val (.int (((i0 &&& (255 : Int32))).toUInt32.toUInt16.toUInt32.toInt32)), .val (.int ((((XT.ushr i0 (8 : Int32)) &&& (255 : Int32))).toUInt32.toUInt16.toUInt32.toInt32)), .val (.int ((((XT.ushr i0 (16 : Int32)) &&& (255 : Int32))).toUInt32.toUInt16.toUInt32.toInt32)), .val (.ref b52), .val (.ref b56), .val (.ref b59), .val (.int ((i2).toUInt32.toUInt16.toUInt32.toInt32)), .unset, .unset, .unset] [])) t
            refine XS.iload X65.here X65.hx rfl (X65.cd at_123) rfl  ?_
            show Steps p.tables e below (T65.setTop (mkF m 125 #[.val (.int i0), .val (.int i1), .val (.int i2), .val (.int i3), .val (.int (3 : Int32)), .val (.int (((i0 &&& (255 : Int32))).toUInt32.toUInt16.toUInt32.toInt32)), .val (.int ((((XT.ushr i0 (8 : Int32)) &&& (255 : Int32))).toUInt32.toUInt16.toUInt32.toInt32)), .val (.int ((((XT.ushr i0 (16 : Int32)) &&& (255 : Int32))).toUInt32.toUInt16.toUInt32.toInt32)), .val (.ref b52), .val (.ref b56), .val (.ref b59), .val (.int ((i2).toUInt32.toUInt16.toUInt32.toInt32)), .unset, .unset, .unset] [(.int ((i2).toUInt32.toUInt16.toUInt32.toInt32))])) t
            refine XS.iload X65.here X65.hx rfl (X65.cd at_125) rfl  ?_
            show Steps p.tables e below (T65.setTop (mkF m 127 #[.val (.int i0), .val (.int i1), .val (.int i2), .val (.int i3), .val (.int (3 : Int32)), .val (.int (((i0 &&& (255 : Int32))).toUInt32.toUInt16.toUInt32.toInt32)), .val (.int ((((XT.ushr i0 (8 : Int32)) &&& (255 : Int32))).toUInt32.toUInt16.toUInt32.toInt32)), .val (.int ((((XT.ushr i0 (16 : Int32)) &&& (255 : Int32))).toUInt32.toUInt16.toUInt32.toInt32)), .val (.ref b52), .val (.ref b56), .val (.ref b59), .val (.int ((i2).toUInt32.toUInt16.toUInt32.toInt32)), .unset, .unset, .unset] [(.int ((((XT.ushr i0 (8 : Int32)) &&& (255 : Int32))).toUInt32.toUInt16.toUInt32.toInt32)), (.int ((i2).toUInt32.toUInt16.toUInt32.toInt32))])) t
            refine XS.icmpNo X65.here X65.hx rfl (X65.cd at_127) rfl (XT.ii_eq_f c66_1) ?_
            show Steps p.tables e below (T65.setTop (mkF m 130 #[.val (.int i0), .val (.int i1), .val (.int i2), .val (.int i3), .val (.int (3 : Int32)), .val (.int (((i0 &&& (255 : Int32))).toUInt32.toUInt16.toUInt32.toInt32)), .val (.int ((((XT.ushr i0 (8 : Int32)) &&& (255 : Int32))).toUInt32.toUInt16.toUInt32.toInt32)), .val (.int ((((XT.ushr i0 (16 : Int32)) &&& (255 : Int32))).toUInt32.toUInt16.toUInt32.toInt32)), .val (.ref b52), .val (.ref b56), .val (.ref b59), .val (.int ((i2).toUInt32.toUInt16.toUInt32.toInt32)), .unset, .unset, .unset] [])) t
            refine XS.iload X65.here X65.hx rfl (X65.cd at_130) rfl  ?_
            show Steps p.tables e below (T65.setTop (mkF m 132 #[.val (.int i0), .val (.int i1), .val (.int i2), .val (.int i3), .val (.int (3 : Int32)), .val (.int (((i0 &&& (255 : Int32))).toUInt32.toUInt16.toUInt32.toInt32)), .val (.int ((((XT.ushr i0 (8 : Int32)) &&& (255 : Int32))).toUInt32.toUInt16.toUInt32.toInt32)), .val (.int ((((XT.ushr i0 (16 : Int32)) &&& (255 : Int32))).toUInt32.toUInt16.toUInt32.toInt32)), .val (.ref b52), .val (.ref b56), .val (.ref b59), .val (.int ((i2).toUInt32.toUInt16.toUInt32.toInt32)), .unset, .unset, .unset] [(.int (3 : Int32))])) t
            refine XS.iconst X65.here X65.hx rfl (X65.cd at_132)  ?_
            show Steps p.tables e below (T65.setTop (mkF m 133 #[.val (.int i0), .val (.int i1), .val (.int i2), .val (.int i3), .val (.int (3 : Int32)), .val (.int (((i0 &&& (255 : Int32))).toUInt32.toUInt16.toUInt32.toInt32)), .val (.int ((((XT.ushr i0 (8 : Int32)) &&& (255 : Int32))).toUInt32.toUInt16.toUInt32.toInt32)), .val (.int ((((XT.ushr i0 (16 : Int32)) &&& (255 : Int32))).toUInt32.toUInt16.toUInt32.toInt32)), .val (.ref b52), .val (.ref b56), .val (.ref b59), .val (.int ((i2).toUInt32.toUInt16.toUInt32.toInt32)), .unset, .unset, .unset] [(.int (2 : Int32)), (.int (3 : Int32))])) t
            refine XS.icmpNo X65.here X65.hx rfl (X65.cd at_133) rfl (XT.ii_le_f (by decide)) ?_
            show Steps p.tables e below (T65.setTop (mkF m 136 #[.val (.int i0), .val (.int i1), .val (.int i2), .val (.int i3), .val (.int (3 : Int32)), .val (.int (((i0 &&& (255 : Int32))).toUInt32.toUInt16.toUInt32.toInt32)), .val (.int ((((XT.ushr i0 (8 : Int32)) &&& (255 : Int32))).toUInt32.toUInt16.toUInt32.toInt32)), .val (.int ((((XT.ushr i0 (16 : Int32)) &&& (255 : Int32))).toUInt32.toUInt16.toUInt32.toInt32)), .val (.ref b52), .val (.ref b56), .val (.ref b59), .val (.int ((i2).toUInt32.toUInt16.toUInt32.toInt32)), .unset, .unset, .unset] [])) t
            refine XS.iload X65.here X65.hx rfl (X65.cd at_136) rfl  ?_
            show Steps p.tables e below (T65.setTop (mkF m 138 #[.val (.int i0), .val (.int i1), .val (.int i2), .val (.int i3), .val (.int (3 : Int32)), .val (.int (((i0 &&& (255 : Int32))).toUInt32.toUInt16.toUInt32.toInt32)), .val (.int ((((XT.ushr i0 (8 : Int32)) &&& (255 : Int32))).toUInt32.toUInt16.toUInt32.toInt32)), .val (.int ((((XT.ushr i0 (16 : Int32)) &&& (255 : Int32))).toUInt32.toUInt16.toUInt32.toInt32)), .val (.ref b52), .val (.ref b56), .val (.ref b59), .val (.int ((i2).toUInt32.toUInt16.toUInt32.toInt32)), .unset, .unset, .unset] [(.int ((i2).toUInt32.toUInt16.toUInt32.toInt32))])) t
            refine XS.iload X65.here X65.hx rfl (X65.cd at_138) rfl  ?_
            show Steps p.tables e below (T65.setTop (mkF m 140 #[.val (.int i0), .val (.int i1), .val (.int i2), .val (.int i3), .val (.int (3 : Int32)), .val (.int (((i0 &&& (255 : Int32))).toUInt32.toUInt16.toUInt32.toInt32)), .val (.int ((((XT.ushr i0 (8 : Int32)) &&& (255 : Int32))).toUInt32.toUInt16.toUInt32.toInt32)), .val (.int ((((XT.ushr i0 (16 : Int32)) &&& (255 : Int32))).toUInt32.toUInt16.toUInt32.toInt32)), .val (.ref b52), .val (.ref b56), .val (.ref b59), .val (.int ((i2).toUInt32.toUInt16.toUInt32.toInt32)), .unset, .unset, .unset] [(.int ((((XT.ushr i0 (16 : Int32)) &&& (255 : Int32))).toUInt32.toUInt16.toUInt32.toInt32)), (.int ((i2).toUInt32.toUInt16.toUInt32.toInt32))])) t
            refine XS.icmpYes X65.here X65.hx rfl (pc0 := 140) (pc' := 147) rfl (X65.cd at_140) rfl (XT.ii_ne_t c66_2) (by decide) (by decide) ?_
            show Steps p.tables e below (T65.setTop (mkF m 147 #[.val (.int i0), .val (.int i1), .val (.int i2), .val (.int i3), .val (.int (3 : Int32)), .val (.int (((i0 &&& (255 : Int32))).toUInt32.toUInt16.toUInt32.toInt32)), .val (.int ((((XT.ushr i0 (8 : Int32)) &&& (255 : Int32))).toUInt32.toUInt16.toUInt32.toInt32)), .val (.int ((((XT.ushr i0 (16 : Int32)) &&& (255 : Int32))).toUInt32.toUInt16.toUInt32.toInt32)), .val (.ref b52), .val (.ref b56), .val (.ref b59), .val (.int ((i2).toUInt32.toUInt16.toUInt32.toInt32)), .unset, .unset, .unset] [])) t
            refine XS.iconst X65.here X65.hx rfl (X65.cd at_147)  ?_
            show Steps p.tables e below (T65.setTop (mkF m 148 #[.val (.int i0), .val (.int i1), .val (.int i2), .val (.int i3), .val (.int (3 : Int32)), .val (.int (((i0 &&& (255 : Int32))).toUInt32.toUInt16.toUInt32.toInt32)), .val (.int ((((XT.ushr i0 (8 : Int32)) &&& (255 : Int32))).toUInt32.toUInt16.toUInt32.toInt32)), .val (.int ((((XT.ushr i0 (16 : Int32)) &&& (255 : Int32))).toUInt32.toUInt16.toUInt32.toInt32)), .val (.ref b52), .val (.ref b56), .val (.ref b59), .val (.int ((i2).toUInt32.toUInt16.toUInt32.toInt32)), .unset, .unset, .unset] [(.int (0 : Int32))])) t
            exact k
    refine Go.by (fun _ k => st66 _ k) ?_
    show Go _ _ _ _ (T65.setTop (mkF m 148 #[.val (.int i0), .val (.int i1), .val (.int i2), .val (.int i3), .val (.int (3 : Int32)), .val (.int (((i0 &&& (255 : Int32))).toUInt32.toUInt16.toUInt32.toInt32)), .val (.int ((((XT.ushr i0 (8 : Int32)) &&& (255 : Int32))).toUInt32.toUInt16.toUInt32.toInt32)), .val (.int ((((XT.ushr i0 (16 : Int32)) &&& (255 : Int32))).toUInt32.toUInt16.toUInt32.toInt32)), .val (.ref b52), .val (.ref b56), .val (.ref b59), .val (.int ((i2).toUInt32.toUInt16.toUInt32.toInt32)), .unset, .unset, .unset] [(.int r66_0)]))
    refine Go.by (fun _ k => XS.istore X65.here X65.hx rfl (X65.cd at_148) rfl (l' := #[.val (.int i0), .val (.int i1), .val (.int i2), .val (.int i3), .val (.int (3 : Int32)), .val (.int (((i0 &&& (255 : Int32))).toUInt32.toUInt16.toUInt32.toInt32)), .val (.int ((((XT.ushr i0 (8 : Int32)) &&& (255 : Int32))).toUInt32.toUInt16.toUInt32.toInt32)), .val (.int ((((XT.ushr i0 (16 : Int32)) &&& (255 : Int32))).toUInt32.toUInt16.toUInt32.toInt32)), .val (.ref b52), .val (.ref b56), .val (.ref b59), .val (.int ((i2).toUInt32.toUInt16.toUInt32.toInt32)), .val (.int r66_0), .unset, .unset]) rfl k) ?_
    show Go _ _ _ _ (T65.setTop (mkF m 150 #[.val (.int i0), .val (.int i1), .val (.int i2), .val (.int i3), .val (.int (3 : Int32)), .val (.int (((i0 &&& (255 : Int32))).toUInt32.toUInt16.toUInt32.toInt32)), .val (.int ((((XT.ushr i0 (8 : Int32)) &&& (255 : Int32))).toUInt32.toUInt16.toUInt32.toInt32)), .val (.int ((((XT.ushr i0 (16 : Int32)) &&& (255 : Int32))).toUInt32.toUInt16.toUInt32.toInt32)), .val (.ref b52), .val (.ref b56), .val (.ref b59), .val (.int ((i2).toUInt32.toUInt16.toUInt32.toInt32)), .val (.int r66_0), .unset, .unset] []))
    refine Go.by (fun _ k => XS.aload X65.here X65.hx rfl (X65.cd at_150) rfl rfl k) ?_
    show Go _ _ _ _ (T65.setTop (mkF m 152 #[.val (.int i0), .val (.int i1), .val (.int i2), .val (.int i3), .val (.int (3 : Int32)), .val (.int (((i0 &&& (255 : Int32))).toUInt32.toUInt16.toUInt32.toInt32)), .val (.int ((((XT.ushr i0 (8 : Int32)) &&& (255 : Int32))).toUInt32.toUInt16.toUInt32.toInt32)), .val (.int ((((XT.ushr i0 (16 : Int32)) &&& (255 : Int32))).toUInt32.toUInt16.toUInt32.toInt32)), .val (.ref b52), .val (.ref b56), .val (.ref b59), .val (.int ((i2).toUInt32.toUInt16.toUInt32.toInt32)), .val (.int r66_0), .unset, .unset] [(.ref b59)]))
    refine Go.by (fun _ k => XS.iload X65.here X65.hx rfl (X65.cd at_152) rfl  k) ?_
    show Go _ _ _ _ (T65.setTop (mkF m 154 #[.val (.int i0), .val (.int i1), .val (.int i2), .val (.int i3), .val (.int (3 : Int32)), .val (.int (((i0 &&& (255 : Int32))).toUInt32.toUInt16.toUInt32.toInt32)), .val (.int ((((XT.ushr i0 (8 : Int32)) &&& (255 : Int32))).toUInt32.toUInt16.toUInt32.toInt32)), .val (.int ((((XT.ushr i0 (16 : Int32)) &&& (255 : Int32))).toUInt32.toUInt16.toUInt32.toInt32)), .val (.ref b52), .val (.ref b56), .val (.ref b59), .val (.int ((i2).toUInt32.toUInt16.toUInt32.toInt32)), .val (.int r66_0), .unset, .unset] [(.int ((i2).toUInt32.toUInt16.toUInt32.toInt32)), (.ref b59)]))
    have f67 : Str Z h65 b56 t_58 [(((i0 &&& (255 : Int32))).toUInt32.toUInt16.toUInt32.toInt32), ((((XT.ushr i0 (8 : Int32)) &&& (255 : Int32))).toUInt32.toUInt16.toUInt32.toInt32), ((((XT.ushr i0 (16 : Int32)) &&& (255 : Int32))).toUInt32.toUInt16.toUInt32.toInt32)] := ((P58_0.ext E59).ext E60).keep K65 (ninS ne_b56_b59 nin0) (ninS ne_t_58_b59 nin0)
    have f69 : Exa Z h65 b59 "com/example/rivulet/rivulet/RegexLiteral" := (f61).keep K65
    obtain ⟨_, T68, h68, X68, K68, ⟨r_68, rfl, rfl, p68_0⟩, st68⟩ := X65.viN (W := 0) (hw _ (List.mem_of_getElem? (i := 51) rfl)) (hw _ (List.mem_of_getElem? (i := 52) rfl)) (hw _ (List.mem_of_getElem? (i := 54) rfl)) (hw _ (List.mem_of_getElem? (i := 53) rfl)) (by decide) ((rm_has l Z a0 hw n0 b59 ((i2).toUInt32.toUInt16.toUInt32.toInt32) b56 t_58 [(((i0 &&& (255 : Int32))).toUInt32.toUInt16.toUInt32.toInt32), ((((XT.ushr i0 (8 : Int32)) &&& (255 : Int32))).toUInt32.toUInt16.toUInt32.toInt32), ((((XT.ushr i0 (16 : Int32)) &&& (255 : Int32))).toUInt32.toUInt16.toUInt32.toInt32)] zc h65 X65.old P65_0 f67 Sc nc (all1 (c255 _) (all1 (c255 _) (all1 (c255 _) alln)))).pay (hw _ (List.mem_of_getElem? (i := 55) rfl)) (hw _ (List.mem_of_getElem? (i := 32) rfl)) (by decide) (by decide)) all0 f69 (g := (mkF m 154 #[.val (.int i0), .val (.int i1), .val (.int i2), .val (.int i3), .val (.int (3 : Int32)), .val (.int (((i0 &&& (255 : Int32))).toUInt32.toUInt16.toUInt32.toInt32)), .val (.int ((((XT.ushr i0 (8 : Int32)) &&& (255 : Int32))).toUInt32.toUInt16.toUInt32.toInt32)), .val (.int ((((XT.ushr i0 (16 : Int32)) &&& (255 : Int32))).toUInt32.toUInt16.toUInt32.toInt32)), .val (.ref b52), .val (.ref b56), .val (.ref b59), .val (.int ((i2).toUInt32.toUInt16.toUInt32.toInt32)), .val (.int r66_0), .unset, .unset] [(.int ((i2).toUInt32.toUInt16.toUInt32.toInt32)), (.ref b59)])) rfl rfl (argsL := [(.int ((i2).toUInt32.toUInt16.toUInt32.toInt32))]) (rest := []) (lenOf pd_10 rfl) rfl (by exact Nat.le_of_eq rfl) at_154 rfl (by decide) (by decide)
    refine Go.tr st68 ?_
    show Go _ _ _ _ (T68.setTop (mkF m 157 #[.val (.int i0), .val (.int i1), .val (.int i2), .val (.int i3), .val (.int (3 : Int32)), .val (.int (((i0 &&& (255 : Int32))).toUInt32.toUInt16.toUInt32.toInt32)), .val (.int ((((XT.ushr i0 (8 : Int32)) &&& (255 : Int32))).toUInt32.toUInt16.toUInt32.toInt32)), .val (.int ((((XT.ushr i0 (16 : Int32)) &&& (255 : Int32))).toUInt32.toUInt16.toUInt32.toInt32)), .val (.ref b52), .val (.ref b56), .val (.ref b59), .val (.int ((i2).toUInt32.toUInt16.toUInt32.toInt32)), .val (.int r66_0), .unset, .unset] [(.int r_68)]))
    refine Go.by (fun _ k => XS.iload X68.here X68.hx rfl (X68.cd at_157) rfl  k) ?_
    show Go _ _ _ _ (T68.setTop (mkF m 159 #[.val (.int i0), .val (.int i1), .val (.int i2), .val (.int i3), .val (.int (3 : Int32)), .val (.int (((i0 &&& (255 : Int32))).toUInt32.toUInt16.toUInt32.toInt32)), .val (.int ((((XT.ushr i0 (8 : Int32)) &&& (255 : Int32))).toUInt32.toUInt16.toUInt32.toInt32)), .val (.int ((((XT.ushr i0 (16 : Int32)) &&& (255 : Int32))).toUInt32.toUInt16.toUInt32.toInt32)), .val (.ref b52), .val (.ref b56), .val (.ref b59), .val (.int ((i2).toUInt32.toUInt16.toUInt32.toInt32)), .val (.int r66_0), .unset, .unset] [(.int r66_0), (.int r_68)]))
    refine Go.by (fun _ k => XS.icmpYes X68.here X68.hx rfl (pc0 := 159) (pc' := 164) rfl (X68.cd at_159) rfl (XT.ii_eq_t (by simp only [List.mem_cons, List.not_mem_nil, or_false] at p68_0; rcases p68_0 with q | q <;> rcases hr66 with z | z | z | z <;> simp_all)) (by decide) (by decide) k) ?_
    show Go _ _ _ _ (T68.setTop (mkF m 164 #[.val (.int i0), .val (.int i1), .val (.int i2), .val (.int i3), .val (.int (3 : Int32)), .val (.int (((i0 &&& (255 : Int32))).toUInt32.toUInt16.toUInt32.toInt32)), .val (.int ((((XT.ushr i0 (8 : Int32)) &&& (255 : Int32))).toUInt32.toUInt16.toUInt32.toInt32)), .val (.int ((((XT.ushr i0 (16 : Int32)) &&& (255 : Int32))).toUInt32.toUInt16.toUInt32.toInt32)), .val (.ref b52), .val (.ref b56), .val (.ref b59), .val (.int ((i2).toUInt32.toUInt16.toUInt32.toInt32)), .val (.int r66_0), .unset, .unset] []))
    refine Go.by (fun _ k => XS.iload X68.here X68.hx rfl (X68.cd at_164) rfl  k) ?_
    show Go _ _ _ _ (T68.setTop (mkF m 166 #[.val (.int i0), .val (.int i1), .val (.int i2), .val (.int i3), .val (.int (3 : Int32)), .val (.int (((i0 &&& (255 : Int32))).toUInt32.toUInt16.toUInt32.toInt32)), .val (.int ((((XT.ushr i0 (8 : Int32)) &&& (255 : Int32))).toUInt32.toUInt16.toUInt32.toInt32)), .val (.int ((((XT.ushr i0 (16 : Int32)) &&& (255 : Int32))).toUInt32.toUInt16.toUInt32.toInt32)), .val (.ref b52), .val (.ref b56), .val (.ref b59), .val (.int ((i2).toUInt32.toUInt16.toUInt32.toInt32)), .val (.int r66_0), .unset, .unset] [(.int (3 : Int32))]))
    refine Go.by (fun _ k => XS.ifNo X68.here X68.hx rfl (X68.cd at_166) rfl (XT.i0_le_f (by decide)) k) ?_
    show Go _ _ _ _ (T68.setTop (mkF m 169 #[.val (.int i0), .val (.int i1), .val (.int i2), .val (.int i3), .val (.int (3 : Int32)), .val (.int (((i0 &&& (255 : Int32))).toUInt32.toUInt16.toUInt32.toInt32)), .val (.int ((((XT.ushr i0 (8 : Int32)) &&& (255 : Int32))).toUInt32.toUInt16.toUInt32.toInt32)), .val (.int ((((XT.ushr i0 (16 : Int32)) &&& (255 : Int32))).toUInt32.toUInt16.toUInt32.toInt32)), .val (.ref b52), .val (.ref b56), .val (.ref b59), .val (.int ((i2).toUInt32.toUInt16.toUInt32.toInt32)), .val (.int r66_0), .unset, .unset] []))
    refine Go.by (fun _ k => XS.iloadN X68.here X68.hx rfl (X68.cd at_169) rfl  k) ?_
    show Go _ _ _ _ (T68.setTop (mkF m 170 #[.val (.int i0), .val (.int i1), .val (.int i2), .val (.int i3), .val (.int (3 : Int32)), .val (.int (((i0 &&& (255 : Int32))).toUInt32.toUInt16.toUInt32.toInt32)), .val (.int ((((XT.ushr i0 (8 : Int32)) &&& (255 : Int32))).toUInt32.toUInt16.toUInt32.toInt32)), .val (.int ((((XT.ushr i0 (16 : Int32)) &&& (255 : Int32))).toUInt32.toUInt16.toUInt32.toInt32)), .val (.ref b52), .val (.ref b56), .val (.ref b59), .val (.int ((i2).toUInt32.toUInt16.toUInt32.toInt32)), .val (.int r66_0), .unset, .unset] [(.int i3)]))
    refine Go.by (fun _ k => X68.ldcI (hw _ (List.mem_of_getElem? (i := 98) rfl)) (g := (mkF m 170 #[.val (.int i0), .val (.int i1), .val (.int i2), .val (.int i3), .val (.int (3 : Int32)), .val (.int (((i0 &&& (255 : Int32))).toUInt32.toUInt16.toUInt32.toInt32)), .val (.int ((((XT.ushr i0 (8 : Int32)) &&& (255 : Int32))).toUInt32.toUInt16.toUInt32.toInt32)), .val (.int ((((XT.ushr i0 (16 : Int32)) &&& (255 : Int32))).toUInt32.toUInt16.toUInt32.toInt32)), .val (.ref b52), .val (.ref b56), .val (.ref b59), .val (.int ((i2).toUInt32.toUInt16.toUInt32.toInt32)), .val (.int r66_0), .unset, .unset] [(.int i3)])) rfl at_170 _ k) ?_
    show Go _ _ _ _ (T68.setTop (mkF m 172 #[.val (.int i0), .val (.int i1), .val (.int i2), .val (.int i3), .val (.int (3 : Int32)), .val (.int (((i0 &&& (255 : Int32))).toUInt32.toUInt16.toUInt32.toInt32)), .val (.int ((((XT.ushr i0 (8 : Int32)) &&& (255 : Int32))).toUInt32.toUInt16.toUInt32.toInt32)), .val (.int ((((XT.ushr i0 (16 : Int32)) &&& (255 : Int32))).toUInt32.toUInt16.toUInt32.toInt32)), .val (.ref b52), .val (.ref b56), .val (.ref b59), .val (.int ((i2).toUInt32.toUInt16.toUInt32.toInt32)), .val (.int r66_0), .unset, .unset] [(.int (2147483647 : Int32)), (.int i3)]))
    refine Go.by (fun _ k => XS.iand X68.here X68.hx rfl (X68.cd at_172) rfl k) ?_
    show Go _ _ _ _ (T68.setTop (mkF m 173 #[.val (.int i0), .val (.int i1), .val (.int i2), .val (.int i3), .val (.int (3 : Int32)), .val (.int (((i0 &&& (255 : Int32))).toUInt32.toUInt16.toUInt32.toInt32)), .val (.int ((((XT.ushr i0 (8 : Int32)) &&& (255 : Int32))).toUInt32.toUInt16.toUInt32.toInt32)), .val (.int ((((XT.ushr i0 (16 : Int32)) &&& (255 : Int32))).toUInt32.toUInt16.toUInt32.toInt32)), .val (.ref b52), .val (.ref b56), .val (.ref b59), .val (.int ((i2).toUInt32.toUInt16.toUInt32.toInt32)), .val (.int r66_0), .unset, .unset] [(.int (i3 &&& (2147483647 : Int32)))]))
    refine Go.by (fun _ k => XS.iload X68.here X68.hx rfl (X68.cd at_173) rfl  k) ?_
    show Go _ _ _ _ (T68.setTop (mkF m 175 #[.val (.int i0), .val (.int i1), .val (.int i2), .val (.int i3), .val (.int (3 : Int32)), .val (.int (((i0 &&& (255 : Int32))).toUInt32.toUInt16.toUInt32.toInt32)), .val (.int ((((XT.ushr i0 (8 : Int32)) &&& (255 : Int32))).toUInt32.toUInt16.toUInt32.toInt32)), .val (.int ((((XT.ushr i0 (16 : Int32)) &&& (255 : Int32))).toUInt32.toUInt16.toUInt32.toInt32)), .val (.ref b52), .val (.ref b56), .val (.ref b59), .val (.int ((i2).toUInt32.toUInt16.toUInt32.toInt32)), .val (.int r66_0), .unset, .unset] [(.int (3 : Int32)), (.int (i3 &&& (2147483647 : Int32)))]))
    refine Go.by (fun _ k => X68.irem (g := (mkF m 175 #[.val (.int i0), .val (.int i1), .val (.int i2), .val (.int i3), .val (.int (3 : Int32)), .val (.int (((i0 &&& (255 : Int32))).toUInt32.toUInt16.toUInt32.toInt32)), .val (.int ((((XT.ushr i0 (8 : Int32)) &&& (255 : Int32))).toUInt32.toUInt16.toUInt32.toInt32)), .val (.int ((((XT.ushr i0 (16 : Int32)) &&& (255 : Int32))).toUInt32.toUInt16.toUInt32.toInt32)), .val (.ref b52), .val (.ref b56), .val (.ref b59), .val (.int ((i2).toUInt32.toUInt16.toUInt32.toInt32)), .val (.int r66_0), .unset, .unset] [(.int (3 : Int32)), (.int (i3 &&& (2147483647 : Int32)))])) rfl rfl (by decide) at_175 _ k) ?_
    show Go _ _ _ _ (T68.setTop (mkF m 176 #[.val (.int i0), .val (.int i1), .val (.int i2), .val (.int i3), .val (.int (3 : Int32)), .val (.int (((i0 &&& (255 : Int32))).toUInt32.toUInt16.toUInt32.toInt32)), .val (.int ((((XT.ushr i0 (8 : Int32)) &&& (255 : Int32))).toUInt32.toUInt16.toUInt32.toInt32)), .val (.int ((((XT.ushr i0 (16 : Int32)) &&& (255 : Int32))).toUInt32.toUInt16.toUInt32.toInt32)), .val (.ref b52), .val (.ref b56), .val (.ref b59), .val (.int ((i2).toUInt32.toUInt16.toUInt32.toInt32)), .val (.int r66_0), .unset, .unset] [(.int ((i3 &&& (2147483647 : Int32)) % (3 : Int32)))]))
    obtain ⟨j, hj, ej⟩ := own_rem i3 (n := (3 : Int32)) (N := 3) rfl (by decide)
    refine Go.by (fun _ k => XS.istore X68.here X68.hx rfl (X68.cd at_176) rfl (l' := #[.val (.int i0), .val (.int i1), .val (.int i2), .val (.int i3), .val (.int (3 : Int32)), .val (.int (((i0 &&& (255 : Int32))).toUInt32.toUInt16.toUInt32.toInt32)), .val (.int ((((XT.ushr i0 (8 : Int32)) &&& (255 : Int32))).toUInt32.toUInt16.toUInt32.toInt32)), .val (.int ((((XT.ushr i0 (16 : Int32)) &&& (255 : Int32))).toUInt32.toUInt16.toUInt32.toInt32)), .val (.ref b52), .val (.ref b56), .val (.ref b59), .val (.int ((i2).toUInt32.toUInt16.toUInt32.toInt32)), .val (.int r66_0), .val (.int ((i3 &&& (2147483647 : Int32)) % (3 : Int32))), .unset]) rfl k) ?_
    show Go _ _ _ _ (T68.setTop (mkF m 178 #[.val (.int i0), .val (.int i1), .val (.int i2), .val (.int i3), .val (.int (3 : Int32)), .val (.int (((i0 &&& (255 : Int32))).toUInt32.toUInt16.toUInt32.toInt32)), .val (.int ((((XT.ushr i0 (8 : Int32)) &&& (255 : Int32))).toUInt32.toUInt16.toUInt32.toInt32)), .val (.int ((((XT.ushr i0 (16 : Int32)) &&& (255 : Int32))).toUInt32.toUInt16.toUInt32.toInt32)), .val (.ref b52), .val (.ref b56), .val (.ref b59), .val (.int ((i2).toUInt32.toUInt16.toUInt32.toInt32)), .val (.int r66_0), .val (.int ((i3 &&& (2147483647 : Int32)) % (3 : Int32))), .unset] []))
    refine Go.by (fun _ k => XS.iload X68.here X68.hx rfl (X68.cd at_178) rfl  k) ?_
    show Go _ _ _ _ (T68.setTop (mkF m 180 #[.val (.int i0), .val (.int i1), .val (.int i2), .val (.int i3), .val (.int (3 : Int32)), .val (.int (((i0 &&& (255 : Int32))).toUInt32.toUInt16.toUInt32.toInt32)), .val (.int ((((XT.ushr i0 (8 : Int32)) &&& (255 : Int32))).toUInt32.toUInt16.toUInt32.toInt32)), .val (.int ((((XT.ushr i0 (16 : Int32)) &&& (255 : Int32))).toUInt32.toUInt16.toUInt32.toInt32)), .val (.ref b52), .val (.ref b56), .val (.ref b59), .val (.int ((i2).toUInt32.toUInt16.toUInt32.toInt32)), .val (.int r66_0), .val (.int ((i3 &&& (2147483647 : Int32)) % (3 : Int32))), .unset] [(.int ((i3 &&& (2147483647 : Int32)) % (3 : Int32)))]))
    obtain ⟨r70_0, hr70, st70⟩ : ∃ (r70_0 : Int32), (((((i3 &&& (2147483647 : Int32)) % (3 : Int32)) = 0) ∧ r70_0 = (((i0 &&& (255 : Int32))).toUInt32.toUInt16.toUInt32.toInt32)) ∨ (¬ (((i3 &&& (2147483647 : Int32)) % (3 : Int32)) = 0) ∧ (((i3 &&& (2147483647 : Int32)) % (3 : Int32)) = (1 : Int32)) ∧ r70_0 = ((((XT.ushr i0 (8 : Int32)) &&& (255 : Int32))).toUInt32.toUInt16.toUInt32.toInt32)) ∨ (¬ (((i3 &&& (2147483647 : Int32)) % (3 : Int32)) = 0) ∧ ¬ (((i3 &&& (2147483647 : Int32)) % (3 : Int32)) = (1 : Int32)) ∧ r70_0 = ((((XT.ushr i0 (16 : Int32)) &&& (255 : Int32))).toUInt32.toUInt16.toUInt32.toInt32))) ∧ ∀ t, Steps p.tables e below (T68.setTop (mkF m 201 #[.val (.int i0), .val (.int i1), .val (.int i2), .val (.int i3), .val (.int (3 : Int32)), .val (.int (((i0 &&& (255 : Int32))).toUInt32.toUInt16.toUInt32.toInt32)), .val (.int ((((XT.ushr i0 (8 : Int32)) &&& (255 : Int32))).toUInt32.toUInt16.toUInt32.toInt32)), .val (.int ((((XT.ushr i0 (16 : Int32)) &&& (255 : Int32))).toUInt32.toUInt16.toUInt32.toInt32)), .val (.ref b52), .val (.ref b56), .val (.ref b59), .val (.int ((i2).toUInt32.toUInt16.toUInt32.toInt32)), .val (.int r66_0), .val (.int ((i3 &&& (2147483647 : Int32)) % (3 : Int32))), .unset] [(.int r70_0)])) t → Steps p.tables e below (T68.setTop (mkF m 180 #[.val (.int i0), .val (.int i1), .val (.int i2), .val (.int i3), .val (.int (3 : Int32)), .val (.int (((i0 &&& (255 : Int32))).toUInt32.toUInt16.toUInt32.toInt32)), .val (.int ((((XT.ushr i0 (8 : Int32)) &&& (255 : Int32))).toUInt32.toUInt16.toUInt32.toInt32)), .val (.int ((((XT.ushr i0 (16 : Int32)) &&& (255 : Int32))).toUInt32.toUInt16.toUInt32.toInt32)), .val (.ref b52), .val (.ref b56), .val (.ref b59), .val (.int ((i2).toUInt32.toUInt16.toUInt32.toInt32)), .val (.int r66_0), .val (.int ((i3 &&& (2147483647 : Int32)) % (3 : Int32))), .unset] [(.int ((i3 &&& (2147483647 : Int32)) % (3 : Int32)))])) t := by
      by_cases c70_0 : ((i3 &&& (2147483647 : Int32)) % (3 : Int32)) = 0
      · refine ⟨(((i0 &&& (255 : Int32))).toUInt32.toUInt16.toUInt32.toInt32), Or.inl ⟨c70_0, rfl⟩, fun t k => ?_⟩
        refine XS.ifNo X68.here X68.hx rfl (X68.cd at_180) rfl (XT.i0_ne_f c70_0) ?_
        show Steps p.tables e below (T68.setTop (mkF m 183 #[.val (.int i0), .val (.int i1), .val (.int i2), .val (.int i3), .val (.int (3 : Int32)), .val (.int (((i0 &&& (255 : Int32))).toUInt32.toUInt16.toUInt32.toInt32)), .val (.int ((((XT.ushr i0 (8 : Int32)) &&& (255 : Int32))).toUInt32.toUInt16.toUInt32.toInt32)), .val (.int ((((XT.ushr i0 (16 : Int32)) &&& (255 : Int32))).toUInt32.toUInt16.toUInt32.toInt32)), .val (.ref b52), .val (.ref b56), .val (.ref b59), .val (.int ((i2).toUInt32.toUInt16.toUInt32.toInt32)), .val (.int r66_0), .val (.int ((i3 &&& (2147483647 : Int32)) % (3 : Int32))), .unset] [])) t
        refine XS.iload X68.here X68.hx rfl (X68.cd at_183) rfl  ?_
        show Steps p.tables e below (T68.setTop (mkF m 185 #[.val (.int i0), .val (.int i1), .val (.int i2), .val (.int i3), .val (.int (3 : Int32)), .val (.int (((i0 &&& (255 : Int32))).toUInt32.toUInt16.toUInt32.toInt32)), .val (.int ((((XT.ushr i0 (8 : Int32)) &&& (255 : Int32))).toUInt32.toUInt16.toUInt32.toInt32)), .val (.int ((((XT.ushr i0 (16 : Int32)) &&& (255 : Int32))).toUInt32.toUInt16.toUInt32.toInt32)), .val (.ref b52), .val (.ref b56), .val (.ref b59), .val (.int ((i2).toUInt32.toUInt16.toUInt32.toInt32)), .val (.int r66_0), .val (.int ((i3 &&& (2147483647 : Int32)) % (3 : Int32))), .unset] [(.int (((i0 &&& (255 : Int32))).toUInt32.toUInt16.toUInt32.toInt32))])) t
        refine XS.goto X68.here X68.hx rfl (pc0 := 185) (pc' := 201) rfl (X68.cd at_185) (by decide) (by decide) ?_
        show Steps p.tables e below (T68.setTop (mkF m 201 #[.val (.int i0), .val (.int i1), .val (.int i2), .val (.int i3), .val (.int (3 : Int32)), .val (.int (((i0 &&& (255 : Int32))).toUInt32.toUInt16.toUInt32.toInt32)), .val (.int ((((XT.ushr i0 (8 : Int32)) &&& (255 : Int32))).toUInt32.toUInt16.toUInt32.toInt32)), .val (.int ((((XT.ushr i0 (16 : Int32)) &&& (255 : Int32))).toUInt32.toUInt16.toUInt32.toInt32)), .val (.ref b52), .val (.ref b56), .val (.ref b59), .val (.int ((i2).toUInt32.toUInt16.toUInt32.toInt32)), .val (.int r66_0), .val (.int ((i3 &&& (2147483647 : Int32)) % (3 : Int32))), .unset] [(.int (((i0 &&& (255 : Int32))).toUInt32.toUInt16.toUInt32.toInt32))])) t
        exact k
      · by_cases c70_1 : ((i3 &&& (2147483647 : Int32)) % (3 : Int32)) = (1 : Int32)
        · refine ⟨((((XT.ushr i0 (8 : Int32)) &&& (255 : Int32))).toUInt32.toUInt16.toUInt32.toInt32), Or.inr (Or.inl ⟨c70_0, c70_1, rfl⟩), fun t k => ?_⟩
          refine XS.ifYes X68.here X68.hx rfl (pc0 := 180) (pc' := 188) rfl (X68.cd at_180) rfl (XT.i0_ne_t c70_0) (by decide) (by decide) ?_
          show Steps p.tables e below (T68.setTop (mkF m 188 #[.val (.int i0), .val (.int i1), .val (.int i2), .val (.int i3), .val (.int (3 : Int32)), .val (.int (((i0 &&& (255 : Int32))).toUInt32.toUInt16.toUInt32.toInt32)), .val (.int ((((XT.ushr i0 (8 : Int32)) &&& (255 : Int32))).toUInt32.toUInt16.toUInt32.toInt32)), .val (.int ((((XT.ushr i0 (16 : Int32)) &&& (255 : Int32))).toUInt32.toUInt16.toUInt32.toInt32)), .val (.ref b52), .val (.ref b56), .val (.ref b59), .val (.int ((i2).toUInt32.toUInt16.toUInt32.toInt32)), .val (.int r66_0), .val (.int ((i3 &&& (2147483647 : Int32)) % (3 : Int32))), .unset] [])) t
          refine XS.iload X68.here X68.hx rfl (X68.cd at_188) rfl  ?_
          show Steps p.tables e below (T68.setTop (mkF m 190 #[.val (.int i0), .val (.int i1), .val (.int i2), .val (.int i3), .val (.int (3 : Int32)), .val (.int (((i0 &&& (255 : Int32))).toUInt32.toUInt16.toUInt32.toInt32)), .val (.int ((((XT.ushr i0 (8 : Int32)) &&& (255 : Int32))).toUInt32.toUInt16.toUInt32.toInt32)), .val (.int ((((XT.ushr i0 (16 : Int32)) &&& (255 : Int32))).toUInt32.toUInt16.toUInt32.toInt32)), .val (.ref b52), .val (.ref b56), .val (.ref b59), .val (.int ((i2).toUInt32.toUInt16.toUInt32.toInt32)), .val (.int r66_0), .val (.int ((i3 &&& (2147483647 : Int32)) % (3 : Int32))), .unset] [(.int ((i3 &&& (2147483647 : Int32)) % (3 : Int32)))])) t
          refine XS.iconst X68.here X68.hx rfl (X68.cd at_190)  ?_
          show Steps p.tables e below (T68.setTop (mkF m 191 #[.val (.int i0), .val (.int i1), .val (.int i2), .val (.int i3), .val (.int (3 : Int32)), .val (.int (((i0 &&& (255 : Int32))).toUInt32.toUInt16.toUInt32.toInt32)), .val (.int ((((XT.ushr i0 (8 : Int32)) &&& (255 : Int32))).toUInt32.toUInt16.toUInt32.toInt32)), .val (.int ((((XT.ushr i0 (16 : Int32)) &&& (255 : Int32))).toUInt32.toUInt16.toUInt32.toInt32)), .val (.ref b52), .val (.ref b56), .val (.ref b59), .val (.int ((i2).toUInt32.toUInt16.toUInt32.toInt32)), .val (.int r66_0), .val (.int ((i3 &&& (2147483647 : Int32)) % (3 : Int32))), .unset] [(.int (1 : Int32)), (.int ((i3 &&& (2147483647 : Int32)) % (3 : Int32)))])) t
          refine XS.icmpNo X68.here X68.hx rfl (X68.cd at_191) rfl (XT.ii_ne_f c70_1) ?_
          show Steps p.tables e below (T68.setTop (mkF m 194 #[.val (.int i0), .val (.int i1), .val (.int i2), .val (.int i3), .val (.int (3 : Int32)), .val (.int (((i0 &&& (255 : Int32))).toUInt32.toUInt16.toUInt32.toInt32)), .val (.int ((((XT.ushr i0 (8 : Int32)) &&& (255 : Int32))).toUInt32.toUInt16.toUInt32.toInt32)), .val (.int ((((XT.ushr i0 (16 : Int32)) &&& (255 : Int32))).toUInt32.toUInt16.toUInt32.toInt32)), .val (.ref b52), .val (.ref b56), .val (.ref b59), .val (.int ((i2).toUInt32.toUInt16.toUInt32.toInt32)), .val (.int r66_0), .val (.int ((i3 &&& (2147483647 : Int32)) % (3 : Int32))), .unset] [])) t
          refine XS.iload X68.here X68.hx rfl (X68.cd at_194) rfl  ?_
          show Steps p.tables e below (T68.setTop (mkF m 196 #[.val (.int i0), .val (.int i1), .val (.int i2), .val (.int i3), .val (.int (3 : Int32)), .val (.int (((i0 &&& (255 : Int32))).toUInt32.toUInt16.toUInt32.toInt32)), .val (.int ((((XT.ushr i0 (8 : Int32)) &&& (255 : Int32))).toUInt32.toUInt16.toUInt32.toInt32)), .val (.int ((((XT.ushr i0 (16 : Int32)) &&& (255 : Int32))).toUInt32.toUInt16.toUInt32.toInt32)), .val (.ref b52), .val (.ref b56), .val (.ref b59), .val (.int ((i2).toUInt32.toUInt16.toUInt32.toInt32)), .val (.int r66_0), .val (.int ((i3 &&& (2147483647 : Int32)) % (3 : Int32))), .unset] [(.int ((((XT.ushr i0 (8 : Int32)) &&& (255 : Int32))).toUInt32.toUInt16.toUInt32.toInt32))])) t
          refine XS.goto X68.here X68.hx rfl (pc0 := 196) (pc' := 201) rfl (X68.cd at_196) (by decide) (by decide) ?_
          show Steps p.tables e below (T68.setTop (mkF m 201 #[.val (.int i0), .val (.int i1), .val (.int i2), .val (.int i3), .val (.int (3 : Int32)), .val (.int (((i0 &&& (255 : Int32))).toUInt32.toUInt16.toUInt32.toInt32)), .val (.int ((((XT.ushr i0 (8 : Int32)) &&& (255 : Int32))).toUInt32.toUInt16.toUInt32.toInt32)), .val (.int ((((XT.ushr i0 (16 : Int32)) &&& (255 : Int32))).toUInt32.toUInt16.toUInt32.toInt32)), .val (.ref b52), .val (.ref b56), .val (.ref b59), .val (.int ((i2).toUInt32.toUInt16.toUInt32.toInt32)), .val (.int r66_0), .val (.int ((i3 &&& (2147483647 : Int32)) % (3 : Int32))), .unset] [(.int ((((XT.ushr i0 (8 : Int32)) &&& (255 : Int32))).toUInt32.toUInt16.toUInt32.toInt32))])) t
          exact k
        · refine ⟨((((XT.ushr i0 (16 : Int32)) &&& (255 : Int32))).toUInt32.toUInt16.toUInt32.toInt32), Or.inr (Or.inr (⟨c70_0, c70_1, rfl⟩)), fun t k => ?_⟩
          refine XS.ifYes X68.here X68.hx rfl (pc0 := 180) (pc' := 188) rfl (X68.cd at_180) rfl (XT.i0_ne_t c70_0) (by decide) (by decide) ?_
          show Steps p.tables e below (T68.setTop (mkF m 188 #[.val (.int i0), .val (.int i1), .val (.int i2), .val (.int i3), .val (.int (3 : Int32)), .val (.int (((i0 &&& (255 : Int32))).toUInt32.toUInt16.toUInt32.toInt32)), .val (.int ((((XT.ushr i0 (8 : Int32)) &&& (255 : Int32))).toUInt32.toUInt16.toUInt32.toInt32)), .val (.int ((((XT.ushr i0 (16 : Int32)) &&& (255 : Int32))).toUInt32.toUInt16.toUInt32.toInt32)), .val (.ref b52), .val (.ref b56), .val (.ref b59), .val (.int ((i2).toUInt32.toUInt16.toUInt32.toInt32)), .val (.int r66_0), .val (.int ((i3 &&& (2147483647 : Int32)) % (3 : Int32))), .unset] [])) t
          refine XS.iload X68.here X68.hx rfl (X68.cd at_188) rfl  ?_
          show Steps p.tables e below (T68.setTop (mkF m 190 #[.val (.int i0), .val (.int i1), .val (.int i2), .val (.int i3), .val (.int (3 : Int32)), .val (.int (((i0 &&& (255 : Int32))).toUInt32.toUInt16.toUInt32.toInt32)), .val (.int ((((XT.ushr i0 (8 : Int32)) &&& (255 : Int32))).toUInt32.toUInt16.toUInt32.toInt32)), .val (.int ((((XT.ushr i0 (16 : Int32)) &&& (255 : Int32))).toUInt32.toUInt16.toUInt32.toInt32)), .val (.ref b52), .val (.ref b56), .val (.ref b59), .val (.int ((i2).toUInt32.toUInt16.toUInt32.toInt32)), .val (.int r66_0), .val (.int ((i3 &&& (2147483647 : Int32)) % (3 : Int32))), .unset] [(.int ((i3 &&& (2147483647 : Int32)) % (3 : Int32)))])) t
          refine XS.iconst X68.here X68.hx rfl (X68.cd at_190)  ?_
          show Steps p.tables e below (T68.setTop (mkF m 191 #[.val (.int i0), .val (.int i1), .val (.int i2), .val (.int i3), .val (.int (3 : Int32)), .val (.int (((i0 &&& (255 : Int32))).toUInt32.toUInt16.toUInt32.toInt32)), .val (.int ((((XT.ushr i0 (8 : Int32)) &&& (255 : Int32))).toUInt32.toUInt16.toUInt32.toInt32)), .val (.int ((((XT.ushr i0 (16 : Int32)) &&& (255 : Int32))).toUInt32.toUInt16.toUInt32.toInt32)), .val (.ref b52), .val (.ref b56), .val (.ref b59), .val (.int ((i2).toUInt32.toUInt16.toUInt32.toInt32)), .val (.int r66_0), .val (.int ((i3 &&& (2147483647 : Int32)) % (3 : Int32))), .unset] [(.int (1 : Int32)), (.int ((i3 &&& (2147483647 : Int32)) % (3 : Int32)))])) t
          refine XS.icmpYes X68.here X68.hx rfl (pc0 := 191) (pc' := 199) rfl (X68.cd at_191) rfl (XT.ii_ne_t c70_1) (by decide) (by decide) ?_
          show Steps p.tables e below (T68.setTop (mkF m 199 #[.val (.int i0), .val (.int i1), .val (.int i2), .val (.int i3), .val (.int (3 : Int32)), .val (.int (((i0 &&& (255 : Int32))).toUInt32.toUInt16.toUInt32.toInt32)), .val (.int ((((XT.ushr i0 (8 : Int32)) &&& (255 : Int32))).toUInt32.toUInt16.toUInt32.toInt32)), .val (.int ((((XT.ushr i0 (16 : Int32)) &&& (255 : Int32))).toUInt32.toUInt16.toUInt32.toInt32)), .val (.ref b52), .val (.ref b56), .val (.ref b59), .val (.int ((i2).toUInt32.toUInt16.toUInt32.toInt32)), .val (.int r66_0), .val (.int ((i3 &&& (2147483647 : Int32)) % (3 : Int32))), .unset] [])) t
          refine XS.iload X68.here X68.hx rfl (X68.cd at_199) rfl  ?_
          show Steps p.tables e below (T68.setTop (mkF m 201 #[.val (.int i0), .val (.int i1), .val (.int i2), .val (.int i3), .val (.int (3 : Int32)), .val (.int (((i0 &&& (255 : Int32))).toUInt32.toUInt16.toUInt32.toInt32)), .val (.int ((((XT.ushr i0 (8 : Int32)) &&& (255 : Int32))).toUInt32.toUInt16.toUInt32.toInt32)), .val (.int ((((XT.ushr i0 (16 : Int32)) &&& (255 : Int32))).toUInt32.toUInt16.toUInt32.toInt32)), .val (.ref b52), .val (.ref b56), .val (.ref b59), .val (.int ((i2).toUInt32.toUInt16.toUInt32.toInt32)), .val (.int r66_0), .val (.int ((i3 &&& (2147483647 : Int32)) % (3 : Int32))), .unset] [(.int ((((XT.ushr i0 (16 : Int32)) &&& (255 : Int32))).toUInt32.toUInt16.toUInt32.toInt32))])) t
          exact k
    refine Go.by (fun _ k => st70 _ k) ?_
    show Go _ _ _ _ (T68.setTop (mkF m 201 #[.val (.int i0), .val (.int i1), .val (.int i2), .val (.int i3), .val (.int (3 : Int32)), .val (.int (((i0 &&& (255 : Int32))).toUInt32.toUInt16.toUInt32.toInt32)), .val (.int ((((XT.ushr i0 (8 : Int32)) &&& (255 : Int32))).toUInt32.toUInt16.toUInt32.toInt32)), .val (.int ((((XT.ushr i0 (16 : Int32)) &&& (255 : Int32))).toUInt32.toUInt16.toUInt32.toInt32)), .val (.ref b52), .val (.ref b56), .val (.ref b59), .val (.int ((i2).toUInt32.toUInt16.toUInt32.toInt32)), .val (.int r66_0), .val (.int ((i3 &&& (2147483647 : Int32)) % (3 : Int32))), .unset] [(.int r70_0)]))
    refine Go.by (fun _ k => XS.istore X68.here X68.hx rfl (X68.cd at_201) rfl (l' := #[.val (.int i0), .val (.int i1), .val (.int i2), .val (.int i3), .val (.int (3 : Int32)), .val (.int (((i0 &&& (255 : Int32))).toUInt32.toUInt16.toUInt32.toInt32)), .val (.int ((((XT.ushr i0 (8 : Int32)) &&& (255 : Int32))).toUInt32.toUInt16.toUInt32.toInt32)), .val (.int ((((XT.ushr i0 (16 : Int32)) &&& (255 : Int32))).toUInt32.toUInt16.toUInt32.toInt32)), .val (.ref b52), .val (.ref b56), .val (.ref b59), .val (.int ((i2).toUInt32.toUInt16.toUInt32.toInt32)), .val (.int r66_0), .val (.int ((i3 &&& (2147483647 : Int32)) % (3 : Int32))), .val (.int r70_0)]) rfl k) ?_
    show Go _ _ _ _ (T68.setTop (mkF m 203 #[.val (.int i0), .val (.int i1), .val (.int i2), .val (.int i3), .val (.int (3 : Int32)), .val (.int (((i0 &&& (255 : Int32))).toUInt32.toUInt16.toUInt32.toInt32)), .val (.int ((((XT.ushr i0 (8 : Int32)) &&& (255 : Int32))).toUInt32.toUInt16.toUInt32.toInt32)), .val (.int ((((XT.ushr i0 (16 : Int32)) &&& (255 : Int32))).toUInt32.toUInt16.toUInt32.toInt32)), .val (.ref b52), .val (.ref b56), .val (.ref b59), .val (.int ((i2).toUInt32.toUInt16.toUInt32.toInt32)), .val (.int r66_0), .val (.int ((i3 &&& (2147483647 : Int32)) % (3 : Int32))), .val (.int r70_0)] []))
    refine Go.by (fun _ k => XS.aload X68.here X68.hx rfl (X68.cd at_203) rfl rfl k) ?_
    show Go _ _ _ _ (T68.setTop (mkF m 205 #[.val (.int i0), .val (.int i1), .val (.int i2), .val (.int i3), .val (.int (3 : Int32)), .val (.int (((i0 &&& (255 : Int32))).toUInt32.toUInt16.toUInt32.toInt32)), .val (.int ((((XT.ushr i0 (8 : Int32)) &&& (255 : Int32))).toUInt32.toUInt16.toUInt32.toInt32)), .val (.int ((((XT.ushr i0 (16 : Int32)) &&& (255 : Int32))).toUInt32.toUInt16.toUInt32.toInt32)), .val (.ref b52), .val (.ref b56), .val (.ref b59), .val (.int ((i2).toUInt32.toUInt16.toUInt32.toInt32)), .val (.int r66_0), .val (.int ((i3 &&& (2147483647 : Int32)) % (3 : Int32))), .val (.int r70_0)] [(.ref b59)]))
    refine Go.by (fun _ k => XS.iload X68.here X68.hx rfl (X68.cd at_205) rfl  k) ?_
    show Go _ _ _ _ (T68.setTop (mkF m 207 #[.val (.int i0), .val (.int i1), .val (.int i2), .val (.int i3), .val (.int (3 : Int32)), .val (.int (((i0 &&& (255 : Int32))).toUInt32.toUInt16.toUInt32.toInt32)), .val (.int ((((XT.ushr i0 (8 : Int32)) &&& (255 : Int32))).toUInt32.toUInt16.toUInt32.toInt32)), .val (.int ((((XT.ushr i0 (16 : Int32)) &&& (255 : Int32))).toUInt32.toUInt16.toUInt32.toInt32)), .val (.ref b52), .val (.ref b56), .val (.ref b59), .val (.int ((i2).toUInt32.toUInt16.toUInt32.toInt32)), .val (.int r66_0), .val (.int ((i3 &&& (2147483647 : Int32)) % (3 : Int32))), .val (.int r70_0)] [(.int r70_0), (.ref b59)]))
    obtain ⟨_, T71, h71, X71, K71, ⟨r_71, rfl, rfl, p71_0⟩, st71⟩ := X68.viN (W := 0) (hw _ (List.mem_of_getElem? (i := 51) rfl)) (hw _ (List.mem_of_getElem? (i := 52) rfl)) (hw _ (List.mem_of_getElem? (i := 54) rfl)) (hw _ (List.mem_of_getElem? (i := 53) rfl)) (by decide) ((rm_has l Z a0 hw n0 b59 r70_0 b56 t_58 [(((i0 &&& (255 : Int32))).toUInt32.toUInt16.toUInt32.toInt32), ((((XT.ushr i0 (8 : Int32)) &&& (255 : Int32))).toUInt32.toUInt16.toUInt32.toInt32), ((((XT.ushr i0 (16 : Int32)) &&& (255 : Int32))).toUInt32.toUInt16.toUInt32.toInt32)] zc h65 X68.old P65_0 f67 Sc nc (all1 (c255 _) (all1 (c255 _) (all1 (c255 _) alln)))).pay (hw _ (List.mem_of_getElem? (i := 55) rfl)) (hw _ (List.mem_of_getElem? (i := 32) rfl)) (by decide) (by decide)) all0 f69 (g := (mkF m 207 #[.val (.int i0), .val (.int i1), .val (.int i2), .val (.int i3), .val (.int (3 : Int32)), .val (.int (((i0 &&& (255 : Int32))).toUInt32.toUInt16.toUInt32.toInt32)), .val (.int ((((XT.ushr i0 (8 : Int32)) &&& (255 : Int32))).toUInt32.toUInt16.toUInt32.toInt32)), .val (.int ((((XT.ushr i0 (16 : Int32)) &&& (255 : Int32))).toUInt32.toUInt16.toUInt32.toInt32)), .val (.ref b52), .val (.ref b56), .val (.ref b59), .val (.int ((i2).toUInt32.toUInt16.toUInt32.toInt32)), .val (.int r66_0), .val (.int ((i3 &&& (2147483647 : Int32)) % (3 : Int32))), .val (.int r70_0)] [(.int r70_0), (.ref b59)])) rfl rfl (argsL := [(.int r70_0)]) (rest := []) (lenOf pd_10 rfl) rfl (by exact Nat.le_of_eq rfl) at_207 rfl (by decide) (by decide)
    refine Go.tr st71 ?_
    show Go _ _ _ _ (T71.setTop (mkF m 210 #[.val (.int i0), .val (.int i1), .val (.int i2), .val (.int i3), .val (.int (3 : Int32)), .val (.int (((i0 &&& (255 : Int32))).toUInt32.toUInt16.toUInt32.toInt32)), .val (.int ((((XT.ushr i0 (8 : Int32)) &&& (255 : Int32))).toUInt32.toUInt16.toUInt32.toInt32)), .val (.int ((((XT.ushr i0 (16 : Int32)) &&& (255 : Int32))).toUInt32.toUInt16.toUInt32.toInt32)), .val (.ref b52), .val (.ref b56), .val (.ref b59), .val (.int ((i2).toUInt32.toUInt16.toUInt32.toInt32)), .val (.int r66_0), .val (.int ((i3 &&& (2147483647 : Int32)) % (3 : Int32))), .val (.int r70_0)] [(.int r_71)]))
    have hm : r70_0 ∈ ([((i0 &&& (255 : Int32))).toUInt32.toUInt16.toUInt32.toInt32, (((XT.ushr i0 (8 : Int32)) &&& (255 : Int32))).toUInt32.toUInt16.toUInt32.toInt32, (((XT.ushr i0 (16 : Int32)) &&& (255 : Int32))).toUInt32.toUInt16.toUInt32.toInt32] : List Int32) := by
      have d0 : j = 0 ∨ j = 1 ∨ j = 2 := by omega
      rcases hr70 with ⟨_, q⟩ | ⟨q0, q1, q⟩ | ⟨q0, q1, q⟩
      · rw [q]; simp
      · rw [ej] at q0 q1; rcases d0 with rfl | rfl | rfl <;> first | exact absurd rfl q0 | exact absurd q1 (by decide) | (exfalso; omega) | (rw [q]; simp)
      · rw [ej] at q0 q1; rcases d0 with rfl | rfl | rfl <;> first | exact absurd rfl q0 | exact absurd rfl q1 | (exfalso; omega) | (rw [q]; simp)
    refine Go.by (fun _ k => XS.ifYes X71.here X71.hx rfl (pc0 := 210) (pc' := 215) rfl (X71.cd at_210) rfl (XT.i0_ne_t (fun z => z01_no p71_0 z hm)) (by decide) (by decide) k) ?_
    show Go _ _ _ _ (T71.setTop (mkF m 215 #[.val (.int i0), .val (.int i1), .val (.int i2), .val (.int i3), .val (.int (3 : Int32)), .val (.int (((i0 &&& (255 : Int32))).toUInt32.toUInt16.toUInt32.toInt32)), .val (.int ((((XT.ushr i0 (8 : Int32)) &&& (255 : Int32))).toUInt32.toUInt16.toUInt32.toInt32)), .val (.int ((((XT.ushr i0 (16 : Int32)) &&& (255 : Int32))).toUInt32.toUInt16.toUInt32.toInt32)), .val (.ref b52), .val (.ref b56), .val (.ref b59), .val (.int ((i2).toUInt32.toUInt16.toUInt32.toInt32)), .val (.int r66_0), .val (.int ((i3 &&& (2147483647 : Int32)) % (3 : Int32))), .val (.int r70_0)] []))
    refine Go.by (fun _ k => XS.iconst X71.here X71.hx rfl (X71.cd at_215)  k) ?_
    show Go _ _ _ _ (T71.setTop (mkF m 216 #[.val (.int i0), .val (.int i1), .val (.int i2), .val (.int i3), .val (.int (3 : Int32)), .val (.int (((i0 &&& (255 : Int32))).toUInt32.toUInt16.toUInt32.toInt32)), .val (.int ((((XT.ushr i0 (8 : Int32)) &&& (255 : Int32))).toUInt32.toUInt16.toUInt32.toInt32)), .val (.int ((((XT.ushr i0 (16 : Int32)) &&& (255 : Int32))).toUInt32.toUInt16.toUInt32.toInt32)), .val (.ref b52), .val (.ref b56), .val (.ref b59), .val (.int ((i2).toUInt32.toUInt16.toUInt32.toInt32)), .val (.int r66_0), .val (.int ((i3 &&& (2147483647 : Int32)) % (3 : Int32))), .val (.int r70_0)] [(.int (1 : Int32))]))
    exact X71.retN (by simp) rfl at_216 K0_h65 rfl (by decide) (by decide)
set_option maxRecDepth 65536 in
set_option maxHeartbeats 40000000 in
theorem comes_1 {Post : Tables → Env → Array Value → State → Outcome → State → Prop} (hpost : ∀ tb e args s v u, (limb_1_1.after args s (.returned v) u = true ∧ limb_1_2.after args s (.returned v) u = true ∧ True) → ReturnedEndW s (.returned v) u (Jvm.fieldLocs frame_1_writes args s ++ Jvm.arrayLocs frame_1_arrays args s ++ Jvm.staticLocs frame_1_statics s) 24 2176 → Post tb e args s (.returned v) u) :
    ArmFor flags0 classFile x code maxLocals ret World_1 tables_1 room_1 Calls_1 rest_1 Pre_1 Post := by
  intro l hfl _ _ p e ha hc hk s m args below hf hA hF happ hP
  obtain ⟨hcalls, hrest, hpre⟩ := hP
  obtain ⟨-, -, -, hnamed, -, -, -, hat⟩ := (Spec.applies_iff hf).mp happ
  obtain ⟨hg, hn⟩ := and_e (Cond.before_iff.mp (show (Jvm.Cond.and given_1 narrow_1).before args s = true from hpre))
  obtain ⟨h1, gv0⟩ := and_e hg
  obtain ⟨gi0, gv1⟩ := and_e gv0
  obtain ⟨gi1, gv2⟩ := and_e gv1
  obtain ⟨gi2, gv3⟩ := and_e gv2
  obtain ⟨w0, w1, w2, w3, rfl⟩ : ∃ w0 w1 w2 w3 : Value, args = #[w0, w1, w2, w3] := by
    have hs : args.size = 4 := by simpa [Cond.value, given_1] using h1
    obtain ⟨L⟩ := args
    match L, hs with
    | [w0, w1, w2, w3], _ => exact ⟨w0, w1, w2, w3, rfl⟩
  have hw := fun d (hd : d ∈ tables_1) => atoms_spec (ws := Jvm.Cond.code x code maxLocals ret :: tables_1) hat d (List.mem_cons_of_mem _ hd)
  obtain ⟨hsets, hown0⟩ := atoms_of _ (rest_1_c_eq ▸ (show rest_1_c.before _ s = true from hrest))
  have hfit : Fit s := fun {y c} hc i hi => by
    obtain ⟨ha, rfl⟩ := Array.getElem?_eq_some_iff.mp hc
    have q := List.all_eq_true.mp ((Array.all_eq_true_iff_forall_mem.mp hF) _ (Array.getElem_mem ha)) i (List.mem_range.mpr hi)
    simpa [Array.getElem?_eq_getElem hi] using q
  obtain ⟨i0, e0⟩ := is_v gi0
  obtain rfl : w0 = (.int i0) := Option.some.inj e0
  obtain ⟨i1, e1⟩ := is_v gi1
  obtain rfl : w1 = (.int i1) := Option.some.inj e1
  obtain ⟨i2, e2⟩ := is_v gi2
  obtain rfl : w2 = (.int i2) := Option.some.inj e2
  obtain ⟨i3, e3⟩ := is_v gv3
  obtain rfl : w3 = (.int i3) := Option.some.inj e3
  obtain ⟨zc, ec⟩ := is_v (Cond.before_iff.mp (hsets _ (List.mem_of_getElem? (i := 1) rfl)))
  have Sc : Sta s s.heap "java/lang/String" "COMPACT_STRINGS" "Z" (.int zc) := Sta.start ec (Or.inl (hsets _ (List.mem_of_getElem? (i := 0) rfl)))
  have nc : ¬ (zc = (0 : Int32)) := gotF (Cond.eq_ints ec (Term.int_eval (0))) (not_v (Cond.before_iff.mp (hsets _ (List.mem_of_getElem? (i := 2) rfl))))
  obtain ⟨vf, ef, rf⟩ := isR_v (Cond.before_iff.mp (hsets _ (List.mem_of_getElem? (i := 8) rfl)))
  have Sf : Sta s s.heap "jdk/internal/util/Preconditions" "SIOOBE_FORMATTER" "Ljava/util/function/BiFunction;" vf := Sta.start ef (Or.inl (hsets _ (List.mem_of_getElem? (i := 7) rfl)))
  have hcw : Jvm.Lit.compactW.before #[.int i0, .int i1, .int i2, .int i3] s = true := (hsets _ (List.mem_of_getElem? (i := 2) rfl))
  have CH0 : CHv s EL s.vm s.heap := CHv.start (own_EW hw) (fun q hq => hcalls.1 q ((by decide +kernel : ∀ q ∈ EL, q ∈ consts_1) q hq)) hcw (hw _ (List.mem_of_getElem? (i := 19) rfl)) (hw _ (List.mem_of_getElem? (i := 2) rfl))
  have M := rm_law l s _ hw s.heap.size i0 i1 i2 i3 zc s.heap (Old.start s) Sc nc
  obtain ⟨n, o, h1, h2, h3, v, L, rfl, ⟨K, rfl, N⟩, -, hq⟩ := M p e ha hc hk s m _ below hf ((Spec.applies_iff_loose hf).mp happ).1 ⟨rfl, State.Warmed39.refl s, rfl, CH0, all0⟩ trivial
  exact ⟨n, _, h1, h2, h3, hpost _ _ _ _ _ _ ⟨Cond.after_iff.mpr rfl, Cond.after_iff.mpr (eq_i res_at (Term.int_eval (1)) rfl), trivial⟩ ⟨hq.1, hq.2.1, hq.2.2.1, (hq.2.2.2.sift fun y hy => Or.inr (N y hy)).mono (by decide) (by decide)⟩⟩
theorem main_1_1 : Claimed_1_1 := comes_1 fun _ _ _ _ _ _ h hF => ⟨h.1, hF⟩
theorem main_1_2 : Claimed_1_2 := comes_1 fun _ _ _ _ _ _ h hF => ⟨h.2.1, hF⟩
end Jvm.Pilot.@@N@@
namespace Jvm.Pilot.@@N@@
open Jvm Jvm.ClassFile Sem Op Lib Jvm.Free Jvm.Stand Jvm.Pilot.@@N@@.Jvm.D
/-! MADE BY PROGRAM (witnessworld.py) out of the Statement's table words and the real class files: 22 classes; the members and pool entries that the words name. The judged class is class 1, her method 1. -/
namespace start1
open Jvm.ClassFile
def u (s : String) : CpInfo := .utf8 (stringToUtf16 s)
/-- a pool by its gaps: so many unusable entries, then the entry; so many at the end -/
def gap : Nat → List CpInfo → List CpInfo
  | 0, r => r
  | n + 1, r => .unusable :: gap n r
def poolList (es : List (Nat × CpInfo)) (last : Nat) : List CpInfo := es.foldr (fun e r => gap e.1 (e.2 :: r)) (gap last [])
def pool (es : List (Nat × CpInfo)) (last : Nat) : Array CpInfo := ⟨poolList es last⟩
def fileOf (pool : Array CpInfo) (this : Nat) (attrs : Array Attribute := #[]) (ms : Array MethodInfo := #[]) (fl : Nat := 33) (sup : Nat := 0) (ifs : Array Nat := #[]) (fds : Array FieldInfo := #[]) : ClassFile where
  minorVersion := 0
  majorVersion := 65
  constantPool := pool
  accessFlags := fl
  thisClass := this
  superClass := sup
  interfaces := ifs
  fields := fds
  methods := ms
  attributes := attrs
def plain (name : String) (sup : Option ClassId) : Class where
  name := name
  kind := .ordinary
  loader := none
  accessFlags := 33
  super := sup
  interfaces := #[]
  cf := none
  fields := #[]
  methods := #[]
  instanceTypes := #[]
  staticTypes := #[]
  resolved := #[]
  callSites := []
  init := .initialized
  statics := none
  mirror := none

def pool0 : Array CpInfo := pool [(5, u "<init>"), (0, u "()V"), (1, .class_ 10), (1, u "java/lang/Object")] 113

def k0c0 : Code := { maxStack := 0, maxLocals := 1, code := object_method_1_code, exceptionTable := #[], attributes := #[] }
def k0m0 : Method := { name := "<init>", desc := "()V", sig := { parameters := [], returnType := none }, accessFlags := 1, code := some k0c0 }
/-- java/lang/Object -/
def k0 : Class := { plain "java/lang/Object" none with
  accessFlags := 33
  interfaces := #[]
  cf := some (fileOf pool0 8 #[] #[{ accessFlags := 1, nameIndex := 5, descriptorIndex := 6, attributes := #[] }] 33 0 #[] #[])
  fields := #[]
  methods := #[k0m0]
  instanceTypes := #[]
  staticTypes := #[]
  resolved := Array.replicate 124 none
  statics := none }

def pool1 : Array CpInfo := pool [(2, .class_ 4), (1, u "java/lang/Object"), (0, u "<init>"), (0, u "()V"), (0, .class_ 8), (0, u "java/lang/String"), (0, .methodref 7 10), (0, .nameAndType 5 11), (0, u "([C)V"), (0, .class_ 13), (0, u "com/example/rivulet/rivulet/RegexLiteral"), (0, .string 15), (0, u ""), (0, .methodref 12 17), (0, .nameAndType 5 18), (0, u "(Ljava/lang/String;Lcom/example/rivulet/rivulet/Replacement;Ljava/lang/String;)V"), (0, .methodref 12 20), (0, .nameAndType 21 22), (0, u "has"), (0, u "(C)Z"), (0, .integer 2147483647), (0, .class_ 25), (0, u "com/example/rivulet/rivulet/RegexLiteralHasPinLaw"), (2, u "law"), (0, u "(IIII)Z")] 5

def k1m0 : Method := { name := "<init>", desc := "()V", sig := { parameters := [], returnType := none }, accessFlags := 1, code := none }
def k1c1 : Code := { maxStack := 5, maxLocals := 15, code := code, exceptionTable := #[], attributes := #[] }
def k1m1 : Method := { name := "law", desc := "(IIII)Z", sig := { parameters := [.int, .int, .int, .int], returnType := some .boolean }, accessFlags := 9, code := some k1c1 }
/-- com/example/rivulet/rivulet/RegexLiteralHasPinLaw -/
def k1 : Class := { plain "com/example/rivulet/rivulet/RegexLiteralHasPinLaw" (some 0) with
  accessFlags := 49
  interfaces := #[]
  cf := some (fileOf pool1 24 #[] #[{ accessFlags := 1, nameIndex := 5, descriptorIndex := 6, attributes := #[] }, { accessFlags := 9, nameIndex := 28, descriptorIndex := 29, attributes := #[] }] 49 2 #[] #[])
  fields := #[]
  methods := #[k1m0, k1m1]
  instanceTypes := #[]
  staticTypes := #[]
  resolved := Array.replicate 35 none
  statics := none }

def pool2 : Array CpInfo := pool [(1, .class_ 2), (0, u "java/io/Serializable"), (0, .class_ 4), (0, u "java/lang/Object")] 2

/-- java/io/Serializable -/
def k2 : Class := { plain "java/io/Serializable" (some 0) with
  accessFlags := 1537
  interfaces := #[]
  cf := some (fileOf pool2 1 #[] #[] 1537 3 #[] #[])
  fields := #[]
  methods := #[]
  instanceTypes := #[]
  staticTypes := #[]
  resolved := Array.replicate 7 none
  statics := none }

def pool3 : Array CpInfo := pool [(1, .class_ 2), (0, u "java/lang/Comparable"), (0, .class_ 4), (0, u "java/lang/Object")] 7

/-- java/lang/Comparable -/
def k3 : Class := { plain "java/lang/Comparable" (some 0) with
  accessFlags := 1537
  interfaces := #[]
  cf := some (fileOf pool3 1 #[] #[] 1537 3 #[] #[])
  fields := #[]
  methods := #[]
  instanceTypes := #[]
  staticTypes := #[]
  resolved := Array.replicate 12 none
  statics := none }

def pool4 : Array CpInfo := pool [(2, .class_ 4), (1, u "java/lang/CharSequence"), (42, .class_ 48), (0, u "java/lang/CharSequence$1CodePointIterator"), (10, .class_ 60), (0, u "java/lang/CharSequence$1CharIterator"), (5, .class_ 67), (0, u "java/lang/Object")] 63

/-- java/lang/CharSequence -/
def k4 : Class := { plain "java/lang/CharSequence" (some 0) with
  accessFlags := 1537
  interfaces := #[]
  cf := some (fileOf pool4 2 #[.nestMembers #[47, 59]] #[] 1537 66 #[] #[])
  fields := #[]
  methods := #[]
  instanceTypes := #[]
  staticTypes := #[]
  resolved := Array.replicate 131 none
  statics := none }

def pool5 : Array CpInfo := pool [(1, .class_ 2), (0, u "java/lang/constant/Constable"), (0, .class_ 4), (0, u "java/lang/Object")] 6

/-- java/lang/constant/Constable -/
def k5 : Class := { plain "java/lang/constant/Constable" (some 0) with
  accessFlags := 1537
  interfaces := #[]
  cf := some (fileOf pool5 1 #[] #[] 1537 3 #[] #[])
  fields := #[]
  methods := #[]
  instanceTypes := #[]
  staticTypes := #[]
  resolved := Array.replicate 11 none
  statics := none }

def pool6 : Array CpInfo := pool [(1, .class_ 2), (0, u "java/lang/constant/ConstantDesc"), (0, .class_ 4), (0, u "java/lang/Object")] 32

/-- java/lang/constant/ConstantDesc -/
def k6 : Class := { plain "java/lang/constant/ConstantDesc" (some 0) with
  accessFlags := 1537
  interfaces := #[]
  cf := some (fileOf pool6 1 #[] #[] 1537 3 #[] #[])
  fields := #[]
  methods := #[]
  instanceTypes := #[]
  staticTypes := #[]
  resolved := Array.replicate 37 none
  statics := none }

def pool7 : Array CpInfo := pool [(1, .methodref 2 3), (0, .class_ 4), (0, .nameAndType 5 6), (0, u "java/lang/Object"), (0, u "<init>"), (0, u "()V"), (0, .string 8), (0, u ""), (0, .fieldref 10 11), (0, .class_ 12), (0, .nameAndType 13 14), (0, u "java/lang/String"), (0, u "value"), (0, u "[B"), (0, .fieldref 10 16), (0, .nameAndType 17 18), (0, u "coder"), (0, u "B"), (2, u "hash"), (0, u "I"), (2, u "hashIsZero"), (0, u "Z"), (0, .methodref 10 28), (0, .nameAndType 5 29), (0, u "([CIILjava/lang/Void;)V"), (8, .fieldref 10 39), (0, .nameAndType 40 26), (0, u "COMPACT_STRINGS"), (1, .class_ 44), (1, u "java/lang/StringUTF16"), (0, u "compress"), (1, .methodref 42 48), (0, .nameAndType 49 50), (0, u "coderFromArrayLen"), (0, u "([BI)B"), (56, .class_ 109), (1, u "java/lang/StringLatin1"), (32, u "()Z"), (34, .methodref 42 178), (0, .nameAndType 45 179), (0, u "([CII)[B"), (154, u "()I"), (0, .methodref 10 336), (0, .nameAndType 17 337), (0, u "()B"), (154, .methodref 10 493), (0, .nameAndType 494 142), (0, u "isLatin1"), (10, .methodref 10 506), (0, .nameAndType 507 334), (0, u "length"), (67, .class_ 576), (0, u "java/lang/CharSequence"), (22, u "CASE_INSENSITIVE_ORDER"), (0, u "Ljava/util/Comparator;"), (32, .methodref 10 634), (0, .nameAndType 635 636), (0, u "indexOf"), (0, u "(II)I"), (0, .methodref 107 638), (0, .nameAndType 635 639), (0, u "([BIII)I"), (125, u "(I)I"), (244, u "([C)V"), (90, u "serialPersistentFields"), (0, u "[Ljava/io/ObjectStreamField;"), (0, .class_ 1104), (0, u "java/lang/String$CaseInsensitiveComparator"), (1, .class_ 1107), (0, u "java/io/Serializable"), (0, .class_ 1109), (0, u "java/lang/Comparable"), (0, .class_ 1111), (0, u "java/lang/constant/Constable"), (0, .class_ 1113), (0, u "java/lang/constant/ConstantDesc"), (2, u "serialVersionUID"), (0, u "J"), (3, u "REPL"), (0, u "C"), (2, u "LATIN1"), (1, u "UTF16")] 323

def k7m0 : Method := { name := "<init>", desc := "()V", sig := { parameters := [], returnType := none }, accessFlags := 1, code := none }
def k7c1 : Code := { maxStack := 5, maxLocals := 2, code := jdk_42_method_3_code, exceptionTable := #[], attributes := #[] }
def k7m1 : Method := { name := "<init>", desc := "([C)V", sig := { parameters := [(.array .char)], returnType := none }, accessFlags := 1, code := some k7c1 }
def k7c2 : Code := { maxStack := 2, maxLocals := 1, code := jdk_42_method_54_code, exceptionTable := #[], attributes := #[] }
def k7m2 : Method := { name := "length", desc := "()I", sig := { parameters := [], returnType := some .int }, accessFlags := 1, code := some k7c2 }
def k7c3 : Code := { maxStack := 3, maxLocals := 2, code := jdk_42_method_79_code, exceptionTable := #[], attributes := #[] }
def k7m3 : Method := { name := "indexOf", desc := "(I)I", sig := { parameters := [.int], returnType := some .int }, accessFlags := 1, code := some k7c3 }
def k7c4 : Code := { maxStack := 4, maxLocals := 3, code := jdk_42_method_80_code, exceptionTable := #[], attributes := #[] }
def k7m4 : Method := { name := "indexOf", desc := "(II)I", sig := { parameters := [.int, .int], returnType := some .int }, accessFlags := 1, code := some k7c4 }
def k7c5 : Code := { maxStack := 4, maxLocals := 6, code := jdk_42_method_149_code, exceptionTable := #[], attributes := #[] }
def k7m5 : Method := { name := "<init>", desc := "([CIILjava/lang/Void;)V", sig := { parameters := [(.array .char), .int, .int, (.object "java/lang/Void")], returnType := none }, accessFlags := 2, code := some k7c5 }
def k7c6 : Code := { maxStack := 1, maxLocals := 1, code := jdk_42_method_152_code, exceptionTable := #[], attributes := #[] }
def k7m6 : Method := { name := "coder", desc := "()B", sig := { parameters := [], returnType := some .byte }, accessFlags := 0, code := some k7c6 }
def k7c7 : Code := { maxStack := 1, maxLocals := 1, code := jdk_42_method_154_code, exceptionTable := #[], attributes := #[] }
def k7m7 : Method := { name := "isLatin1", desc := "()Z", sig := { parameters := [], returnType := some .boolean }, accessFlags := 0, code := some k7c7 }
/-- java/lang/String -/
def k7 : Class := { plain "java/lang/String" (some 0) with
  accessFlags := 49
  interfaces := #[2, 3, 4, 5, 6]
  cf := some (fileOf pool7 10 #[.nestMembers #[1103]] #[{ accessFlags := 1, nameIndex := 5, descriptorIndex := 6, attributes := #[] }, { accessFlags := 1, nameIndex := 5, descriptorIndex := 1010, attributes := #[] }, { accessFlags := 1, nameIndex := 507, descriptorIndex := 334, attributes := #[] }, { accessFlags := 1, nameIndex := 635, descriptorIndex := 765, attributes := #[] }, { accessFlags := 1, nameIndex := 635, descriptorIndex := 636, attributes := #[] }, { accessFlags := 2, nameIndex := 5, descriptorIndex := 29, attributes := #[] }, { accessFlags := 0, nameIndex := 17, descriptorIndex := 337, attributes := #[] }, { accessFlags := 0, nameIndex := 494, descriptorIndex := 142, attributes := #[] }] 49 2 #[1106, 1108, 575, 1110, 1112] #[{ accessFlags := 18, nameIndex := 13, descriptorIndex := 14, attributes := #[] }, { accessFlags := 18, nameIndex := 17, descriptorIndex := 18, attributes := #[] }, { accessFlags := 2, nameIndex := 21, descriptorIndex := 22, attributes := #[] }, { accessFlags := 2, nameIndex := 25, descriptorIndex := 26, attributes := #[] }, { accessFlags := 26, nameIndex := 1116, descriptorIndex := 1117, attributes := #[] }, { accessFlags := 24, nameIndex := 40, descriptorIndex := 26, attributes := #[] }, { accessFlags := 26, nameIndex := 1101, descriptorIndex := 1102, attributes := #[] }, { accessFlags := 26, nameIndex := 1121, descriptorIndex := 1122, attributes := #[] }, { accessFlags := 25, nameIndex := 599, descriptorIndex := 600, attributes := #[] }, { accessFlags := 24, nameIndex := 1125, descriptorIndex := 18, attributes := #[] }, { accessFlags := 24, nameIndex := 1127, descriptorIndex := 18, attributes := #[] }])
  fields := #[{ name := "value", type := (.array .byte), accessFlags := 18, slot := 0, constantValue := 0 }, { name := "coder", type := .byte, accessFlags := 18, slot := 1, constantValue := 0 }, { name := "hash", type := .int, accessFlags := 2, slot := 2, constantValue := 0 }, { name := "hashIsZero", type := .boolean, accessFlags := 2, slot := 3, constantValue := 0 }, { name := "serialVersionUID", type := .long, accessFlags := 26, slot := 0, constantValue := 0 }, { name := "COMPACT_STRINGS", type := .boolean, accessFlags := 24, slot := 1, constantValue := 0 }, { name := "serialPersistentFields", type := (.array (.object "java/io/ObjectStreamField")), accessFlags := 26, slot := 2, constantValue := 0 }, { name := "REPL", type := .char, accessFlags := 26, slot := 3, constantValue := 0 }, { name := "CASE_INSENSITIVE_ORDER", type := (.object "java/util/Comparator"), accessFlags := 25, slot := 4, constantValue := 0 }, { name := "LATIN1", type := .byte, accessFlags := 24, slot := 5, constantValue := 0 }, { name := "UTF16", type := .byte, accessFlags := 24, slot := 6, constantValue := 0 }]
  methods := #[k7m0, k7m1, k7m2, k7m3, k7m4, k7m5, k7m6, k7m7]
  instanceTypes := #[(.array .byte), .byte, .int, .boolean]
  staticTypes := #[.long, .boolean, (.array (.object "java/io/ObjectStreamField")), .char, (.object "java/util/Comparator"), .byte, .byte]
  resolved := Array.replicate 1451 none
  statics := some 0 }

def pool8 : Array CpInfo := pool [(6, .class_ 8), (1, u "java/lang/Object"), (0, u "<init>"), (0, u "()V"), (1, .class_ 14), (1, u "java/lang/StringUTF16"), (31, u "$assertionsDisabled"), (0, u "Z"), (13, u "HI_BYTE_SHIFT"), (0, u "I"), (2, u "LO_BYTE_SHIFT"), (49, .methodref 12 116), (0, .nameAndType 117 118), (0, u "compress"), (0, u "([CI[BII)I"), (3, u "([CII)[B"), (138, u "coderFromArrayLen"), (0, u "([BI)B"), (106, .class_ 371), (1, u "java/lang/StringUTF16$LinesSpliterator"), (58, u "MAX_LENGTH"), (196, .class_ 628), (0, u "java/lang/StringUTF16$CodePointsSpliterator"), (0, .class_ 630), (0, u "java/lang/StringUTF16$CharsSpliterator")] 4

def k8m0 : Method := { name := "<init>", desc := "()V", sig := { parameters := [], returnType := none }, accessFlags := 0, code := none }
def k8c1 : Code := { maxStack := 2, maxLocals := 2, code := jdk_52_method_15_code, exceptionTable := #[], attributes := #[] }
def k8m1 : Method := { name := "coderFromArrayLen", desc := "([BI)B", sig := { parameters := [(.array .byte), .int], returnType := some .byte }, accessFlags := 8, code := some k8c1 }
def k8c2 : Code := { maxStack := 5, maxLocals := 6, code := jdk_52_method_16_code, exceptionTable := #[], attributes := #[] }
def k8m2 : Method := { name := "compress", desc := "([CII)[B", sig := { parameters := [(.array .char), .int, .int], returnType := some (.array .byte) }, accessFlags := 9, code := some k8c2 }
def k8c3 : Code := { maxStack := 3, maxLocals := 7, code := jdk_52_method_21_code, exceptionTable := #[], attributes := #[] }
def k8m3 : Method := { name := "compress", desc := "([CI[BII)I", sig := { parameters := [(.array .char), .int, (.array .byte), .int, .int], returnType := some .int }, accessFlags := 9, code := some k8c3 }
/-- java/lang/StringUTF16 -/
def k8 : Class := { plain "java/lang/StringUTF16" (some 0) with
  accessFlags := 48
  interfaces := #[]
  cf := some (fileOf pool8 12 #[.nestMembers #[627, 629, 369]] #[{ accessFlags := 0, nameIndex := 9, descriptorIndex := 10, attributes := #[] }, { accessFlags := 8, nameIndex := 261, descriptorIndex := 262, attributes := #[] }, { accessFlags := 9, nameIndex := 117, descriptorIndex := 122, attributes := #[] }, { accessFlags := 9, nameIndex := 117, descriptorIndex := 118, attributes := #[] }] 48 6 #[] #[{ accessFlags := 26, nameIndex := 61, descriptorIndex := 62, attributes := #[] }, { accessFlags := 26, nameIndex := 65, descriptorIndex := 62, attributes := #[] }, { accessFlags := 24, nameIndex := 430, descriptorIndex := 62, attributes := #[] }, { accessFlags := 4120, nameIndex := 46, descriptorIndex := 47, attributes := #[] }])
  fields := #[{ name := "HI_BYTE_SHIFT", type := .int, accessFlags := 26, slot := 0, constantValue := 0 }, { name := "LO_BYTE_SHIFT", type := .int, accessFlags := 26, slot := 1, constantValue := 0 }, { name := "MAX_LENGTH", type := .int, accessFlags := 24, slot := 2, constantValue := 0 }, { name := "$assertionsDisabled", type := .boolean, accessFlags := 4120, slot := 3, constantValue := 0 }]
  methods := #[k8m0, k8m1, k8m2, k8m3]
  instanceTypes := #[]
  staticTypes := #[.int, .int, .int, .boolean]
  resolved := Array.replicate 635 none
  statics := none }

def pool9 : Array CpInfo := pool [(1, .methodref 2 3), (0, .class_ 4), (0, .nameAndType 5 6), (0, u "java/lang/Object"), (0, u "<init>"), (0, u "()V"), (0, .class_ 8), (0, u "java/lang/Record")] 13

def k9c0 : Code := { maxStack := 1, maxLocals := 1, code := jdk_30_method_1_code, exceptionTable := #[], attributes := #[] }
def k9m0 : Method := { name := "<init>", desc := "()V", sig := { parameters := [], returnType := none }, accessFlags := 4, code := some k9c0 }
/-- java/lang/Record -/
def k9 : Class := { plain "java/lang/Record" (some 0) with
  accessFlags := 1057
  interfaces := #[]
  cf := some (fileOf pool9 7 #[] #[{ accessFlags := 4, nameIndex := 5, descriptorIndex := 6, attributes := #[] }] 1057 2 #[] #[])
  fields := #[]
  methods := #[k9m0]
  instanceTypes := #[]
  staticTypes := #[]
  resolved := Array.replicate 22 none
  statics := none }

def pool10 : Array CpInfo := pool [(1, .methodref 2 3), (0, .class_ 4), (0, .nameAndType 5 6), (0, u "java/lang/Record"), (0, u "<init>"), (0, u "()V"), (0, .fieldref 8 9), (0, .class_ 10), (0, .nameAndType 11 12), (0, u "com/example/rivulet/rivulet/RegexLiteral"), (0, u "regex"), (0, u "Ljava/lang/String;"), (0, .fieldref 8 14), (0, .nameAndType 15 16), (0, u "replacement"), (0, u "Lcom/example/rivulet/rivulet/Replacement;"), (0, .fieldref 8 18), (0, .nameAndType 19 12), (0, u "modifiers"), (0, .methodref 21 22), (0, .class_ 23), (0, .nameAndType 24 25), (0, u "java/lang/String"), (0, u "indexOf"), (0, u "(I)I"), (33, u "IGNORE_CASE"), (0, u "C"), (2, u "GLOBAL"), (1, u "RESULT"), (1, u "PATTERN_MODIFIERS"), (2, u "SUBSTITUTION_MODIFIERS"), (2, u "(Ljava/lang/String;Lcom/example/rivulet/rivulet/Replacement;Ljava/lang/String;)V"), (3, u "has"), (0, u "(C)Z")] 36

def k10c0 : Code := { maxStack := 2, maxLocals := 4, code := prog_3_method_1_code, exceptionTable := #[], attributes := #[] }
def k10m0 : Method := { name := "<init>", desc := "(Ljava/lang/String;Lcom/example/rivulet/rivulet/Replacement;Ljava/lang/String;)V", sig := { parameters := [(.object "java/lang/String"), (.object "com/example/rivulet/rivulet/Replacement"), (.object "java/lang/String")], returnType := none }, accessFlags := 0, code := some k10c0 }
def k10c1 : Code := { maxStack := 2, maxLocals := 2, code := prog_3_method_2_code, exceptionTable := #[], attributes := #[] }
def k10m1 : Method := { name := "has", desc := "(C)Z", sig := { parameters := [.char], returnType := some .boolean }, accessFlags := 0, code := some k10c1 }
/-- com/example/rivulet/rivulet/RegexLiteral -/
def k10 : Class := { plain "com/example/rivulet/rivulet/RegexLiteral" (some 9) with
  accessFlags := 48
  interfaces := #[]
  cf := some (fileOf pool10 8 #[] #[{ accessFlags := 0, nameIndex := 5, descriptorIndex := 73, attributes := #[] }, { accessFlags := 0, nameIndex := 77, descriptorIndex := 78, attributes := #[] }] 48 2 #[] #[{ accessFlags := 18, nameIndex := 11, descriptorIndex := 12, attributes := #[] }, { accessFlags := 18, nameIndex := 15, descriptorIndex := 16, attributes := #[] }, { accessFlags := 18, nameIndex := 19, descriptorIndex := 12, attributes := #[] }, { accessFlags := 24, nameIndex := 59, descriptorIndex := 60, attributes := #[] }, { accessFlags := 24, nameIndex := 63, descriptorIndex := 60, attributes := #[] }, { accessFlags := 24, nameIndex := 65, descriptorIndex := 60, attributes := #[] }, { accessFlags := 24, nameIndex := 67, descriptorIndex := 12, attributes := #[] }, { accessFlags := 24, nameIndex := 70, descriptorIndex := 12, attributes := #[] }])
  fields := #[{ name := "regex", type := (.object "java/lang/String"), accessFlags := 18, slot := 0, constantValue := 0 }, { name := "replacement", type := (.object "com/example/rivulet/rivulet/Replacement"), accessFlags := 18, slot := 1, constantValue := 0 }, { name := "modifiers", type := (.object "java/lang/String"), accessFlags := 18, slot := 2, constantValue := 0 }, { name := "IGNORE_CASE", type := .char, accessFlags := 24, slot := 0, constantValue := 0 }, { name := "GLOBAL", type := .char, accessFlags := 24, slot := 1, constantValue := 0 }, { name := "RESULT", type := .char, accessFlags := 24, slot := 2, constantValue := 0 }, { name := "PATTERN_MODIFIERS", type := (.object "java/lang/String"), accessFlags := 24, slot := 3, constantValue := 0 }, { name := "SUBSTITUTION_MODIFIERS", type := (.object "java/lang/String"), accessFlags := 24, slot := 4, constantValue := 0 }]
  methods := #[k10m0, k10m1]
  instanceTypes := #[(.object "java/lang/String"), (.object "com/example/rivulet/rivulet/Replacement"), (.object "java/lang/String")]
  staticTypes := #[.char, .char, .char, (.object "java/lang/String"), (.object "java/lang/String")]
  resolved := Array.replicate 115 none
  statics := none }

def pool11 : Array CpInfo := pool [(4, .class_ 6), (1, u "java/lang/Object"), (0, u "<init>"), (0, u "()V"), (5, .class_ 16), (1, u "java/lang/StringLatin1"), (21, .methodref 39 40), (0, .class_ 41), (0, .nameAndType 42 43), (0, u "java/lang/Math"), (0, u "min"), (0, u "(II)I"), (44, .methodref 14 89), (0, .nameAndType 90 91), (0, u "canEncode"), (0, u "(I)Z"), (0, .methodref 39 93), (0, .nameAndType 94 43), (0, u "max"), (0, .methodref 14 96), (0, .nameAndType 97 98), (0, u "indexOfChar"), (0, u "([BIII)I"), (2, u "indexOf"), (19, u "$assertionsDisabled"), (0, u "Z"), (98, .class_ 223), (1, u "java/lang/StringLatin1$LinesSpliterator"), (166, .class_ 391), (0, u "java/lang/StringLatin1$CharsSpliterator")] 3

def k11m0 : Method := { name := "<init>", desc := "()V", sig := { parameters := [], returnType := none }, accessFlags := 0, code := none }
def k11c1 : Code := { maxStack := 2, maxLocals := 1, code := jdk_43_method_4_code, exceptionTable := #[], attributes := #[] }
def k11m1 : Method := { name := "canEncode", desc := "(I)Z", sig := { parameters := [.int], returnType := some .boolean }, accessFlags := 9, code := some k11c1 }
def k11c2 : Code := { maxStack := 4, maxLocals := 4, code := jdk_43_method_22_code, exceptionTable := #[], attributes := #[] }
def k11m2 : Method := { name := "indexOf", desc := "([BIII)I", sig := { parameters := [(.array .byte), .int, .int, .int], returnType := some .int }, accessFlags := 9, code := some k11c2 }
def k11c3 : Code := { maxStack := 2, maxLocals := 6, code := jdk_43_method_23_code, exceptionTable := #[], attributes := #[] }
def k11m3 : Method := { name := "indexOfChar", desc := "([BIII)I", sig := { parameters := [(.array .byte), .int, .int, .int], returnType := some .int }, accessFlags := 10, code := some k11c3 }
/-- java/lang/StringLatin1 -/
def k11 : Class := { plain "java/lang/StringLatin1" (some 0) with
  accessFlags := 48
  interfaces := #[]
  cf := some (fileOf pool11 14 #[.nestMembers #[390, 221]] #[{ accessFlags := 0, nameIndex := 7, descriptorIndex := 8, attributes := #[] }, { accessFlags := 9, nameIndex := 90, descriptorIndex := 91, attributes := #[] }, { accessFlags := 9, nameIndex := 101, descriptorIndex := 98, attributes := #[] }, { accessFlags := 10, nameIndex := 97, descriptorIndex := 98, attributes := #[] }] 48 4 #[] #[{ accessFlags := 4120, nameIndex := 121, descriptorIndex := 122, attributes := #[] }])
  fields := #[{ name := "$assertionsDisabled", type := .boolean, accessFlags := 4120, slot := 0, constantValue := 0 }]
  methods := #[k11m0, k11m1, k11m2, k11m3]
  instanceTypes := #[]
  staticTypes := #[.boolean]
  resolved := Array.replicate 395 none
  statics := none }

def pool12 : Array CpInfo := pool [(1, .class_ 2), (0, u "java/lang/Math"), (1, .class_ 6), (1, u "java/lang/Object"), (0, u "<init>"), (0, u "()V"), (89, .class_ 100), (1, u "java/lang/Math$RandomNumberGeneratorHolder"), (71, u "negativeZeroFloatBits"), (0, u "J"), (2, u "negativeZeroDoubleBits"), (21, u "max"), (2, u "min"), (43, u "$assertionsDisabled"), (0, u "Z"), (88, u "(II)I"), (2, u "twoToTheDoubleScaleDown"), (0, u "D"), (4, u "twoToTheDoubleScaleUp"), (9, u "E"), (3, u "PI"), (2, u "TAU"), (2, u "DEGREES_TO_RADIANS"), (0, u "RADIANS_TO_DEGREES")] 94

def k12m0 : Method := { name := "<init>", desc := "()V", sig := { parameters := [], returnType := none }, accessFlags := 2, code := none }
def k12c1 : Code := { maxStack := 2, maxLocals := 2, code := jdk_29_method_65_code, exceptionTable := #[], attributes := #[] }
def k12m1 : Method := { name := "max", desc := "(II)I", sig := { parameters := [.int, .int], returnType := some .int }, accessFlags := 9, code := some k12c1 }
def k12c2 : Code := { maxStack := 2, maxLocals := 2, code := jdk_29_method_69_code, exceptionTable := #[], attributes := #[] }
def k12m2 : Method := { name := "min", desc := "(II)I", sig := { parameters := [.int, .int], returnType := some .int }, accessFlags := 9, code := some k12c2 }
/-- java/lang/Math -/
def k12 : Class := { plain "java/lang/Math" (some 0) with
  accessFlags := 49
  interfaces := #[]
  cf := some (fileOf pool12 1 #[.nestMembers #[98]] #[{ accessFlags := 2, nameIndex := 7, descriptorIndex := 8, attributes := #[] }, { accessFlags := 9, nameIndex := 198, descriptorIndex := 335, attributes := #[] }, { accessFlags := 9, nameIndex := 201, descriptorIndex := 335, attributes := #[] }] 49 4 #[] #[{ accessFlags := 25, nameIndex := 354, descriptorIndex := 339, attributes := #[] }, { accessFlags := 25, nameIndex := 358, descriptorIndex := 339, attributes := #[] }, { accessFlags := 25, nameIndex := 361, descriptorIndex := 339, attributes := #[] }, { accessFlags := 26, nameIndex := 364, descriptorIndex := 339, attributes := #[] }, { accessFlags := 26, nameIndex := 365, descriptorIndex := 339, attributes := #[] }, { accessFlags := 26, nameIndex := 172, descriptorIndex := 173, attributes := #[] }, { accessFlags := 26, nameIndex := 176, descriptorIndex := 173, attributes := #[] }, { accessFlags := 8, nameIndex := 344, descriptorIndex := 339, attributes := #[] }, { accessFlags := 8, nameIndex := 338, descriptorIndex := 339, attributes := #[] }, { accessFlags := 4120, nameIndex := 245, descriptorIndex := 246, attributes := #[] }])
  fields := #[{ name := "E", type := .double, accessFlags := 25, slot := 0, constantValue := 0 }, { name := "PI", type := .double, accessFlags := 25, slot := 1, constantValue := 0 }, { name := "TAU", type := .double, accessFlags := 25, slot := 2, constantValue := 0 }, { name := "DEGREES_TO_RADIANS", type := .double, accessFlags := 26, slot := 3, constantValue := 0 }, { name := "RADIANS_TO_DEGREES", type := .double, accessFlags := 26, slot := 4, constantValue := 0 }, { name := "negativeZeroFloatBits", type := .long, accessFlags := 26, slot := 5, constantValue := 0 }, { name := "negativeZeroDoubleBits", type := .long, accessFlags := 26, slot := 6, constantValue := 0 }, { name := "twoToTheDoubleScaleUp", type := .double, accessFlags := 8, slot := 7, constantValue := 0 }, { name := "twoToTheDoubleScaleDown", type := .double, accessFlags := 8, slot := 8, constantValue := 0 }, { name := "$assertionsDisabled", type := .boolean, accessFlags := 4120, slot := 9, constantValue := 0 }]
  methods := #[k12m0, k12m1, k12m2]
  instanceTypes := #[]
  staticTypes := #[.double, .double, .double, .double, .double, .long, .long, .double, .double, .boolean]
  resolved := Array.replicate 460 none
  statics := none }

def pool13 : Array CpInfo := pool [(2, .class_ 4), (1, u "java/lang/Object"), (0, u "<init>"), (0, u "()V"), (17, .class_ 26), (1, u "jdk/internal/util/Preconditions"), (28, .class_ 56), (0, u "jdk/internal/util/Preconditions$4"), (57, .class_ 115), (0, u "jdk/internal/util/Preconditions$1"), (7, u "SIOOBE_FORMATTER"), (0, u "Ljava/util/function/BiFunction;"), (0, .class_ 126), (0, u "jdk/internal/util/Preconditions$2"), (3, u "AIOOBE_FORMATTER"), (0, .class_ 132), (0, u "jdk/internal/util/Preconditions$3"), (3, u "IOOBE_FORMATTER")] 57

def k13m0 : Method := { name := "<init>", desc := "()V", sig := { parameters := [], returnType := none }, accessFlags := 1, code := none }
/-- jdk/internal/util/Preconditions -/
def k13 : Class := { plain "jdk/internal/util/Preconditions" (some 0) with
  accessFlags := 33
  interfaces := #[]
  cf := some (fileOf pool13 24 #[.nestMembers #[55, 131, 125, 114]] #[{ accessFlags := 1, nameIndex := 5, descriptorIndex := 6, attributes := #[] }] 33 2 #[] #[{ accessFlags := 25, nameIndex := 123, descriptorIndex := 124, attributes := #[] }, { accessFlags := 25, nameIndex := 130, descriptorIndex := 124, attributes := #[] }, { accessFlags := 25, nameIndex := 136, descriptorIndex := 124, attributes := #[] }])
  fields := #[{ name := "SIOOBE_FORMATTER", type := (.object "java/util/function/BiFunction"), accessFlags := 25, slot := 0, constantValue := 0 }, { name := "AIOOBE_FORMATTER", type := (.object "java/util/function/BiFunction"), accessFlags := 25, slot := 1, constantValue := 0 }, { name := "IOOBE_FORMATTER", type := (.object "java/util/function/BiFunction"), accessFlags := 25, slot := 2, constantValue := 0 }]
  methods := #[k13m0]
  instanceTypes := #[]
  staticTypes := #[(.object "java/util/function/BiFunction"), (.object "java/util/function/BiFunction"), (.object "java/util/function/BiFunction")]
  resolved := Array.replicate 194 none
  statics := some 1 }

def pool14 : Array CpInfo := pool [(9, u "<init>"), (6, .class_ 18), (1, u "java/lang/Object"), (0, u "()V"), (1, .class_ 23), (1, u "jdk/internal/util/ArraysSupport"), (0, u "LOG2_ARRAY_LONG_INDEX_SCALE"), (0, u "I"), (2, u "U"), (0, u "Ljdk/internal/misc/Unsafe;"), (8, u "BIG_ENDIAN"), (0, u "Z"), (8, u "LOG2_BYTE_BIT_SIZE"), (4, u "LOG2_ARRAY_INT_INDEX_SCALE"), (54, u "JLA"), (0, u "Ljdk/internal/access/JavaLangAccess;"), (11, u "LOG2_ARRAY_BOOLEAN_INDEX_SCALE"), (9, u "LOG2_ARRAY_BYTE_INDEX_SCALE"), (5, u "LOG2_ARRAY_CHAR_INDEX_SCALE"), (5, u "LOG2_ARRAY_SHORT_INDEX_SCALE"), (18, u "LOG2_ARRAY_FLOAT_INDEX_SCALE"), (24, u "LOG2_ARRAY_DOUBLE_INDEX_SCALE"), (89, u "T_BOOLEAN"), (2, u "T_CHAR"), (1, u "T_FLOAT"), (1, u "T_DOUBLE"), (1, u "T_BYTE"), (1, u "T_SHORT"), (1, u "T_INT"), (1, u "T_LONG"), (1, u "SOFT_MAX_ARRAY_LENGTH")] 83

def k14m0 : Method := { name := "<init>", desc := "()V", sig := { parameters := [], returnType := none }, accessFlags := 2, code := none }
/-- jdk/internal/util/ArraysSupport -/
def k14 : Class := { plain "jdk/internal/util/ArraysSupport" (some 0) with
  accessFlags := 33
  interfaces := #[]
  cf := some (fileOf pool14 21 #[] #[{ accessFlags := 2, nameIndex := 9, descriptorIndex := 19, attributes := #[] }] 33 16 #[] #[{ accessFlags := 24, nameIndex := 28, descriptorIndex := 29, attributes := #[] }, { accessFlags := 26, nameIndex := 38, descriptorIndex := 39, attributes := #[] }, { accessFlags := 25, nameIndex := 121, descriptorIndex := 25, attributes := #[] }, { accessFlags := 25, nameIndex := 131, descriptorIndex := 25, attributes := #[] }, { accessFlags := 25, nameIndex := 137, descriptorIndex := 25, attributes := #[] }, { accessFlags := 25, nameIndex := 143, descriptorIndex := 25, attributes := #[] }, { accessFlags := 25, nameIndex := 53, descriptorIndex := 25, attributes := #[] }, { accessFlags := 25, nameIndex := 24, descriptorIndex := 25, attributes := #[] }, { accessFlags := 25, nameIndex := 162, descriptorIndex := 25, attributes := #[] }, { accessFlags := 25, nameIndex := 187, descriptorIndex := 25, attributes := #[] }, { accessFlags := 26, nameIndex := 48, descriptorIndex := 25, attributes := #[] }, { accessFlags := 25, nameIndex := 277, descriptorIndex := 25, attributes := #[] }, { accessFlags := 25, nameIndex := 280, descriptorIndex := 25, attributes := #[] }, { accessFlags := 25, nameIndex := 282, descriptorIndex := 25, attributes := #[] }, { accessFlags := 25, nameIndex := 284, descriptorIndex := 25, attributes := #[] }, { accessFlags := 25, nameIndex := 286, descriptorIndex := 25, attributes := #[] }, { accessFlags := 25, nameIndex := 288, descriptorIndex := 25, attributes := #[] }, { accessFlags := 25, nameIndex := 290, descriptorIndex := 25, attributes := #[] }, { accessFlags := 25, nameIndex := 292, descriptorIndex := 25, attributes := #[] }, { accessFlags := 26, nameIndex := 108, descriptorIndex := 109, attributes := #[] }, { accessFlags := 25, nameIndex := 294, descriptorIndex := 25, attributes := #[] }])
  fields := #[{ name := "U", type := (.object "jdk/internal/misc/Unsafe"), accessFlags := 24, slot := 0, constantValue := 0 }, { name := "BIG_ENDIAN", type := .boolean, accessFlags := 26, slot := 1, constantValue := 0 }, { name := "LOG2_ARRAY_BOOLEAN_INDEX_SCALE", type := .int, accessFlags := 25, slot := 2, constantValue := 0 }, { name := "LOG2_ARRAY_BYTE_INDEX_SCALE", type := .int, accessFlags := 25, slot := 3, constantValue := 0 }, { name := "LOG2_ARRAY_CHAR_INDEX_SCALE", type := .int, accessFlags := 25, slot := 4, constantValue := 0 }, { name := "LOG2_ARRAY_SHORT_INDEX_SCALE", type := .int, accessFlags := 25, slot := 5, constantValue := 0 }, { name := "LOG2_ARRAY_INT_INDEX_SCALE", type := .int, accessFlags := 25, slot := 6, constantValue := 0 }, { name := "LOG2_ARRAY_LONG_INDEX_SCALE", type := .int, accessFlags := 25, slot := 7, constantValue := 0 }, { name := "LOG2_ARRAY_FLOAT_INDEX_SCALE", type := .int, accessFlags := 25, slot := 8, constantValue := 0 }, { name := "LOG2_ARRAY_DOUBLE_INDEX_SCALE", type := .int, accessFlags := 25, slot := 9, constantValue := 0 }, { name := "LOG2_BYTE_BIT_SIZE", type := .int, accessFlags := 26, slot := 10, constantValue := 0 }, { name := "T_BOOLEAN", type := .int, accessFlags := 25, slot := 11, constantValue := 0 }, { name := "T_CHAR", type := .int, accessFlags := 25, slot := 12, constantValue := 0 }, { name := "T_FLOAT", type := .int, accessFlags := 25, slot := 13, constantValue := 0 }, { name := "T_DOUBLE", type := .int, accessFlags := 25, slot := 14, constantValue := 0 }, { name := "T_BYTE", type := .int, accessFlags := 25, slot := 15, constantValue := 0 }, { name := "T_SHORT", type := .int, accessFlags := 25, slot := 16, constantValue := 0 }, { name := "T_INT", type := .int, accessFlags := 25, slot := 17, constantValue := 0 }, { name := "T_LONG", type := .int, accessFlags := 25, slot := 18, constantValue := 0 }, { name := "JLA", type := (.object "jdk/internal/access/JavaLangAccess"), accessFlags := 26, slot := 19, constantValue := 0 }, { name := "SOFT_MAX_ARRAY_LENGTH", type := .int, accessFlags := 25, slot := 20, constantValue := 0 }]
  methods := #[k14m0]
  instanceTypes := #[]
  staticTypes := #[(.object "jdk/internal/misc/Unsafe"), .boolean, .int, .int, .int, .int, .int, .int, .int, .int, .int, .int, .int, .int, .int, .int, .int, .int, .int, (.object "jdk/internal/access/JavaLangAccess"), .int]
  resolved := Array.replicate 378 none
  statics := none }

def pool15 : Array CpInfo := pool [(1, u "java/lang/Cloneable"), (0, .class_ 1), (0, u "java/lang/Object"), (0, .class_ 3)] 3

/-- java/lang/Cloneable -/
def k15 : Class := { plain "java/lang/Cloneable" (some 0) with
  accessFlags := 1537
  interfaces := #[]
  cf := some (fileOf pool15 2 #[] #[] 1537 4 #[] #[])
  fields := #[]
  methods := #[]
  instanceTypes := #[]
  staticTypes := #[]
  resolved := Array.replicate 8 none
  statics := none }

/-- the primitive byte -/
def k16 : Class := { plain "byte" none with kind := .primitive 'B', accessFlags := 0x411 }
/-- [B -/
def k17 : Class := { plain "[B" (some 0) with kind := .array 16 .byte, interfaces := #[15, 2], accessFlags := 1041 }

/-- the primitive char -/
def k18 : Class := { plain "char" none with kind := .primitive 'C', accessFlags := 0x411 }
/-- [C -/
def k19 : Class := { plain "[C" (some 0) with kind := .array 18 .char, interfaces := #[15, 2], accessFlags := 1041 }

/-- the primitive int -/
def k20 : Class := { plain "int" none with kind := .primitive 'I', accessFlags := 0x411 }
/-- [I -/
def k21 : Class := { plain "[I" (some 0) with kind := .array 20 .int, interfaces := #[15, 2], accessFlags := 1041 }

def heap : Heap := #[{ cls := 7, slots := #[.long 0, .int 1, .null, .int 0, .null, .int 0, .int 0], vm := .statics 7 },
  { cls := 13, slots := #[.null, .null, .null], vm := .statics 13 }]
def classes : Array Class := #[k0, k1, k2, k3, k4, k5, k6, k7, k8, k9, k10, k11, k12, k13, k14, k15, k16, k17, k18, k19, k20, k21]
def interned : List (Array UInt16 × Addr) := []
def slotsUsed : Nat := 10
def theMethod : MethodId := ⟨1, 1⟩
def args0 : Array Value := #[.int 5, .int 2, .int 7, .int 3]
def aboutOver (below : List Frame) : State where
  vm := { classes := classes, interned := interned.toArray }
  heap := heap
  slotsUsed := slotsUsed
  threads := #[{ frames := .invoking theMethod args0 :: below }]
def below0 : List Frame := [.native { method := ⟨0, 0⟩, args := #[] }]
def about1 : State := aboutOver below0
def p0 : Program := .bare "" "" ""
def e0 : Env := launch0.env 0 0 0
theorem w_frames : about1.frames = Frame.invoking theMethod args0 :: below0 := rfl
set_option maxRecDepth 65536 in
theorem w_args : argsFit about1.vm theMethod args0 = true := by decide +kernel
set_option maxRecDepth 65536 in
theorem w_heap : heapFits about1 = true := by decide +kernel
set_option maxRecDepth 65536 in
theorem w_runnable : about1.curStatus? = some .runnable := by decide +kernel
set_option maxRecDepth 65536 in
theorem w_alone : about1.alone = true := by decide +kernel
set_option maxRecDepth 65536 in
theorem w_named : about1.methodNamed? x = some theMethod := by decide +kernel
set_option maxRecDepth 65536 in
theorem w_hears : about1.hears theMethod below0 = true := by decide +kernel
set_option maxRecDepth 65536 in
theorem w_ripe : about1.ripe theMethod args0 below0 = true := by decide +kernel
theorem w_running : about1.status = .running := rfl
set_option maxRecDepth 65536 in
theorem w_room : about1.hasRoom e0.platform room_1 = true :=
  launch0.hasRoom_least _ room_1 (by decide +kernel) (by decide +kernel) (by decide +kernel) (by decide +kernel) (by decide +kernel) (by decide +kernel)
theorem allAtoms_all (ts : List Jvm.Cond) (a : Array Jvm.Value) (st : Jvm.State) : (allAtoms ts).before a st = ts.all (fun c => c.before a st) := by
  induction ts with
  | nil => rfl
  | cons c t ih =>
    show (Jvm.Cond.and c (allAtoms t)).before a st = _
    rw [Jvm.Cond.before_and, ih, List.all_cons]
def words1 : List Jvm.Cond := Jvm.Cond.code x code maxLocals ret :: tables_1
/-- a 'code' word, met by the world's own term for the bytes: nothing is compared byte by byte -/
theorem code_word {y : MethodName} {bytes : ByteArray} {mx : Nat} {rt : Option FieldType} {a : Array Value} {s : State} {m : MethodId} {meth : Method} {c : Code} (h1 : s.methodNamed? y = some m) (h2 : s.vm.method? m = some meth) (h3 : meth.code = some c) (h4 : c.code = bytes)
    (h5 : (c.maxLocals == mx && c.exceptionTable.isEmpty && decide (c.maxStack ≤ mostOperands) && decide (meth.sig.returnType = rt) && !meth.locks && decide (parseMethodDescriptor y.desc = some meth.sig)) = true) : (Jvm.Cond.code y bytes mx rt).before a s = true := by
  simp only [Bool.and_eq_true, beq_iff_eq, Bool.not_eq_true', decide_eq_true_eq] at h5
  obtain ⟨⟨⟨⟨⟨g1, g2⟩, g3⟩, g4⟩, g5⟩, g6⟩ := h5
  simp [Cond.before, Cond.holds, Cond.value, h1, h2, h3, h4, g1, g2, g3, g4, g5, g6]
def isCode : Jvm.Cond → Bool
  | .code _ _ _ _ => true
  | _ => false
theorem all_split {L : List Jvm.Cond} {P : Jvm.Cond → Bool} (h1 : L.all (fun c => isCode c || P c) = true) (h2 : ∀ c ∈ L.filter isCode, P c = true) : L.all P = true := by
  refine List.all_eq_true.mpr fun c hc => ?_
  have h := List.all_eq_true.mp h1 c hc
  rcases Bool.eq_false_or_eq_true (isCode c) with hi | hi
  · exact h2 c (List.mem_filter.mpr ⟨hc, hi⟩)
  · simpa [hi] using h
set_option maxRecDepth 65536 in
theorem w_c0 : (Jvm.Cond.code x code maxLocals ret).before args0 about1 = true := code_word (m := ⟨1, 1⟩) (meth := k1m1) (c := k1c1) (by decide +kernel) rfl rfl rfl (by decide +kernel)
set_option maxRecDepth 65536 in
theorem w_c1 : (Jvm.Cond.code ({ cls := "java/lang/String", name := "<init>", desc := "([C)V" } : Jvm.MethodName) jdk_42_method_3_code (2 : Nat) (Option.none : Option Jvm.ClassFile.FieldType)).before args0 about1 = true := code_word (m := ⟨7, 1⟩) (meth := k7m1) (c := k7c1) (by decide +kernel) rfl rfl rfl (by decide +kernel)
set_option maxRecDepth 65536 in
theorem w_c2 : (Jvm.Cond.code ({ cls := "java/lang/String", name := "<init>", desc := "([CIILjava/lang/Void;)V" } : Jvm.MethodName) jdk_42_method_149_code (6 : Nat) (Option.none : Option Jvm.ClassFile.FieldType)).before args0 about1 = true := code_word (m := ⟨7, 5⟩) (meth := k7m5) (c := k7c5) (by decide +kernel) rfl rfl rfl (by decide +kernel)
set_option maxRecDepth 65536 in
theorem w_c3 : (Jvm.Cond.code ({ cls := "java/lang/Object", name := "<init>", desc := "()V" } : Jvm.MethodName) object_method_1_code (1 : Nat) (Option.none : Option Jvm.ClassFile.FieldType)).before args0 about1 = true := code_word (m := ⟨0, 0⟩) (meth := k0m0) (c := k0c0) (by decide +kernel) rfl rfl rfl (by decide +kernel)
set_option maxRecDepth 65536 in
theorem w_c4 : (Jvm.Cond.code ({ cls := "java/lang/StringUTF16", name := "compress", desc := "([CII)[B" } : Jvm.MethodName) jdk_52_method_16_code (6 : Nat) (Option.some (Jvm.ClassFile.FieldType.array Jvm.ClassFile.FieldType.byte))).before args0 about1 = true := code_word (m := ⟨8, 2⟩) (meth := k8m2) (c := k8c2) (by decide +kernel) rfl rfl rfl (by decide +kernel)
set_option maxRecDepth 65536 in
theorem w_c5 : (Jvm.Cond.code ({ cls := "java/lang/StringUTF16", name := "compress", desc := "([CI[BII)I" } : Jvm.MethodName) jdk_52_method_21_code (7 : Nat) (Option.some Jvm.ClassFile.FieldType.int)).before args0 about1 = true := code_word (m := ⟨8, 3⟩) (meth := k8m3) (c := k8c3) (by decide +kernel) rfl rfl rfl (by decide +kernel)
set_option maxRecDepth 65536 in
theorem w_c6 : (Jvm.Cond.code ({ cls := "java/lang/StringUTF16", name := "coderFromArrayLen", desc := "([BI)B" } : Jvm.MethodName) jdk_52_method_15_code (2 : Nat) (Option.some Jvm.ClassFile.FieldType.byte)).before args0 about1 = true := code_word (m := ⟨8, 1⟩) (meth := k8m1) (c := k8c1) (by decide +kernel) rfl rfl rfl (by decide +kernel)
set_option maxRecDepth 65536 in
theorem w_c7 : (Jvm.Cond.code ({ cls := "com/example/rivulet/rivulet/RegexLiteral", name := "<init>", desc := "(Ljava/lang/String;Lcom/example/rivulet/rivulet/Replacement;Ljava/lang/String;)V" } : Jvm.MethodName) prog_3_method_1_code (4 : Nat) (Option.none : Option Jvm.ClassFile.FieldType)).before args0 about1 = true := code_word (m := ⟨10, 0⟩) (meth := k10m0) (c := k10c0) (by decide +kernel) rfl rfl rfl (by decide +kernel)
set_option maxRecDepth 65536 in
theorem w_c8 : (Jvm.Cond.code ({ cls := "java/lang/Record", name := "<init>", desc := "()V" } : Jvm.MethodName) jdk_30_method_1_code (1 : Nat) (Option.none : Option Jvm.ClassFile.FieldType)).before args0 about1 = true := code_word (m := ⟨9, 0⟩) (meth := k9m0) (c := k9c0) (by decide +kernel) rfl rfl rfl (by decide +kernel)
set_option maxRecDepth 65536 in
theorem w_c9 : (Jvm.Cond.code ({ cls := "com/example/rivulet/rivulet/RegexLiteral", name := "has", desc := "(C)Z" } : Jvm.MethodName) prog_3_method_2_code (2 : Nat) (Option.some Jvm.ClassFile.FieldType.boolean)).before args0 about1 = true := code_word (m := ⟨10, 1⟩) (meth := k10m1) (c := k10c1) (by decide +kernel) rfl rfl rfl (by decide +kernel)
set_option maxRecDepth 65536 in
theorem w_c10 : (Jvm.Cond.code ({ cls := "java/lang/String", name := "indexOf", desc := "(I)I" } : Jvm.MethodName) jdk_42_method_79_code (2 : Nat) (Option.some Jvm.ClassFile.FieldType.int)).before args0 about1 = true := code_word (m := ⟨7, 3⟩) (meth := k7m3) (c := k7c3) (by decide +kernel) rfl rfl rfl (by decide +kernel)
set_option maxRecDepth 65536 in
theorem w_c11 : (Jvm.Cond.code ({ cls := "java/lang/String", name := "indexOf", desc := "(II)I" } : Jvm.MethodName) jdk_42_method_80_code (3 : Nat) (Option.some Jvm.ClassFile.FieldType.int)).before args0 about1 = true := code_word (m := ⟨7, 4⟩) (meth := k7m4) (c := k7c4) (by decide +kernel) rfl rfl rfl (by decide +kernel)
set_option maxRecDepth 65536 in
theorem w_c12 : (Jvm.Cond.code ({ cls := "java/lang/String", name := "isLatin1", desc := "()Z" } : Jvm.MethodName) jdk_42_method_154_code (1 : Nat) (Option.some Jvm.ClassFile.FieldType.boolean)).before args0 about1 = true := code_word (m := ⟨7, 7⟩) (meth := k7m7) (c := k7c7) (by decide +kernel) rfl rfl rfl (by decide +kernel)
set_option maxRecDepth 65536 in
theorem w_c13 : (Jvm.Cond.code ({ cls := "java/lang/String", name := "length", desc := "()I" } : Jvm.MethodName) jdk_42_method_54_code (1 : Nat) (Option.some Jvm.ClassFile.FieldType.int)).before args0 about1 = true := code_word (m := ⟨7, 2⟩) (meth := k7m2) (c := k7c2) (by decide +kernel) rfl rfl rfl (by decide +kernel)
set_option maxRecDepth 65536 in
theorem w_c14 : (Jvm.Cond.code ({ cls := "java/lang/String", name := "coder", desc := "()B" } : Jvm.MethodName) jdk_42_method_152_code (1 : Nat) (Option.some Jvm.ClassFile.FieldType.byte)).before args0 about1 = true := code_word (m := ⟨7, 6⟩) (meth := k7m6) (c := k7c6) (by decide +kernel) rfl rfl rfl (by decide +kernel)
set_option maxRecDepth 65536 in
theorem w_c15 : (Jvm.Cond.code ({ cls := "java/lang/StringLatin1", name := "indexOf", desc := "([BIII)I" } : Jvm.MethodName) jdk_43_method_22_code (4 : Nat) (Option.some Jvm.ClassFile.FieldType.int)).before args0 about1 = true := code_word (m := ⟨11, 2⟩) (meth := k11m2) (c := k11c2) (by decide +kernel) rfl rfl rfl (by decide +kernel)
set_option maxRecDepth 65536 in
theorem w_c16 : (Jvm.Cond.code ({ cls := "java/lang/StringLatin1", name := "canEncode", desc := "(I)Z" } : Jvm.MethodName) jdk_43_method_4_code (1 : Nat) (Option.some Jvm.ClassFile.FieldType.boolean)).before args0 about1 = true := code_word (m := ⟨11, 1⟩) (meth := k11m1) (c := k11c1) (by decide +kernel) rfl rfl rfl (by decide +kernel)
set_option maxRecDepth 65536 in
theorem w_c17 : (Jvm.Cond.code ({ cls := "java/lang/Math", name := "max", desc := "(II)I" } : Jvm.MethodName) jdk_29_method_65_code (2 : Nat) (Option.some Jvm.ClassFile.FieldType.int)).before args0 about1 = true := code_word (m := ⟨12, 1⟩) (meth := k12m1) (c := k12c1) (by decide +kernel) rfl rfl rfl (by decide +kernel)
set_option maxRecDepth 65536 in
theorem w_c18 : (Jvm.Cond.code ({ cls := "java/lang/Math", name := "min", desc := "(II)I" } : Jvm.MethodName) jdk_29_method_69_code (2 : Nat) (Option.some Jvm.ClassFile.FieldType.int)).before args0 about1 = true := code_word (m := ⟨12, 2⟩) (meth := k12m2) (c := k12c2) (by decide +kernel) rfl rfl rfl (by decide +kernel)
set_option maxRecDepth 65536 in
theorem w_c19 : (Jvm.Cond.code ({ cls := "java/lang/StringLatin1", name := "indexOfChar", desc := "([BIII)I" } : Jvm.MethodName) jdk_43_method_23_code (6 : Nat) (Option.some Jvm.ClassFile.FieldType.int)).before args0 about1 = true := code_word (m := ⟨11, 3⟩) (meth := k11m3) (c := k11c3) (by decide +kernel) rfl rfl rfl (by decide +kernel)
def codes1 : List Jvm.Cond := [Jvm.Cond.code x code maxLocals ret, Jvm.Cond.code ({ cls := "java/lang/String", name := "<init>", desc := "([C)V" } : Jvm.MethodName) jdk_42_method_3_code (2 : Nat) (Option.none : Option Jvm.ClassFile.FieldType), Jvm.Cond.code ({ cls := "java/lang/String", name := "<init>", desc := "([CIILjava/lang/Void;)V" } : Jvm.MethodName) jdk_42_method_149_code (6 : Nat) (Option.none : Option Jvm.ClassFile.FieldType), Jvm.Cond.code ({ cls := "java/lang/Object", name := "<init>", desc := "()V" } : Jvm.MethodName) object_method_1_code (1 : Nat) (Option.none : Option Jvm.ClassFile.FieldType), Jvm.Cond.code ({ cls := "java/lang/StringUTF16", name := "compress", desc := "([CII)[B" } : Jvm.MethodName) jdk_52_method_16_code (6 : Nat) (Option.some (Jvm.ClassFile.FieldType.array Jvm.ClassFile.FieldType.byte)), Jvm.Cond.code ({ cls := "java/lang/StringUTF16", name := "compress", desc := "([CI[BII)I" } : Jvm.MethodName) jdk_52_method_21_code (7 : Nat) (Option.some Jvm.ClassFile.FieldType.int), Jvm.Cond.code ({ cls := "java/lang/StringUTF16", name := "coderFromArrayLen", desc := "([BI)B" } : Jvm.MethodName) jdk_52_method_15_code (2 : Nat) (Option.some Jvm.ClassFile.FieldType.byte), Jvm.Cond.code ({ cls := "com/example/rivulet/rivulet/RegexLiteral", name := "<init>", desc := "(Ljava/lang/String;Lcom/example/rivulet/rivulet/Replacement;Ljava/lang/String;)V" } : Jvm.MethodName) prog_3_method_1_code (4 : Nat) (Option.none : Option Jvm.ClassFile.FieldType), Jvm.Cond.code ({ cls := "java/lang/Record", name := "<init>", desc := "()V" } : Jvm.MethodName) jdk_30_method_1_code (1 : Nat) (Option.none : Option Jvm.ClassFile.FieldType), Jvm.Cond.code ({ cls := "com/example/rivulet/rivulet/RegexLiteral", name := "has", desc := "(C)Z" } : Jvm.MethodName) prog_3_method_2_code (2 : Nat) (Option.some Jvm.ClassFile.FieldType.boolean), Jvm.Cond.code ({ cls := "java/lang/String", name := "indexOf", desc := "(I)I" } : Jvm.MethodName) jdk_42_method_79_code (2 : Nat) (Option.some Jvm.ClassFile.FieldType.int), Jvm.Cond.code ({ cls := "java/lang/String", name := "indexOf", desc := "(II)I" } : Jvm.MethodName) jdk_42_method_80_code (3 : Nat) (Option.some Jvm.ClassFile.FieldType.int), Jvm.Cond.code ({ cls := "java/lang/String", name := "isLatin1", desc := "()Z" } : Jvm.MethodName) jdk_42_method_154_code (1 : Nat) (Option.some Jvm.ClassFile.FieldType.boolean), Jvm.Cond.code ({ cls := "java/lang/String", name := "length", desc := "()I" } : Jvm.MethodName) jdk_42_method_54_code (1 : Nat) (Option.some Jvm.ClassFile.FieldType.int), Jvm.Cond.code ({ cls := "java/lang/String", name := "coder", desc := "()B" } : Jvm.MethodName) jdk_42_method_152_code (1 : Nat) (Option.some Jvm.ClassFile.FieldType.byte), Jvm.Cond.code ({ cls := "java/lang/StringLatin1", name := "indexOf", desc := "([BIII)I" } : Jvm.MethodName) jdk_43_method_22_code (4 : Nat) (Option.some Jvm.ClassFile.FieldType.int), Jvm.Cond.code ({ cls := "java/lang/StringLatin1", name := "canEncode", desc := "(I)Z" } : Jvm.MethodName) jdk_43_method_4_code (1 : Nat) (Option.some Jvm.ClassFile.FieldType.boolean), Jvm.Cond.code ({ cls := "java/lang/Math", name := "max", desc := "(II)I" } : Jvm.MethodName) jdk_29_method_65_code (2 : Nat) (Option.some Jvm.ClassFile.FieldType.int), Jvm.Cond.code ({ cls := "java/lang/Math", name := "min", desc := "(II)I" } : Jvm.MethodName) jdk_29_method_69_code (2 : Nat) (Option.some Jvm.ClassFile.FieldType.int), Jvm.Cond.code ({ cls := "java/lang/StringLatin1", name := "indexOfChar", desc := "([BIII)I" } : Jvm.MethodName) jdk_43_method_23_code (6 : Nat) (Option.some Jvm.ClassFile.FieldType.int)]
set_option maxRecDepth 65536 in
theorem codes_eq : words1.filter isCode = codes1 := rfl
theorem w_codes : ∀ c ∈ words1.filter isCode, c.before args0 about1 = true := by
  rw [codes_eq]
  intro c hc
  simp only [codes1, List.mem_cons, List.not_mem_nil, or_false] at hc
  rcases hc with rfl | rfl | rfl | rfl | rfl | rfl | rfl | rfl | rfl | rfl | rfl | rfl | rfl | rfl | rfl | rfl | rfl | rfl | rfl | rfl
  · exact w_c0
  · exact w_c1
  · exact w_c2
  · exact w_c3
  · exact w_c4
  · exact w_c5
  · exact w_c6
  · exact w_c7
  · exact w_c8
  · exact w_c9
  · exact w_c10
  · exact w_c11
  · exact w_c12
  · exact w_c13
  · exact w_c14
  · exact w_c15
  · exact w_c16
  · exact w_c17
  · exact w_c18
  · exact w_c19
set_option maxRecDepth 65536 in
theorem w_t1 : (words1.take 24).all (fun c => isCode c || c.before args0 about1) = true := by decide +kernel
set_option maxRecDepth 65536 in
theorem w_t2 : ((words1.drop 24).take 24).all (fun c => isCode c || c.before args0 about1) = true := by decide +kernel
set_option maxRecDepth 65536 in
theorem w_t3 : (((words1.drop 24).drop 24).take 24).all (fun c => isCode c || c.before args0 about1) = true := by decide +kernel
set_option maxRecDepth 65536 in
theorem w_t4 : ((((words1.drop 24).drop 24).drop 24).take 24).all (fun c => isCode c || c.before args0 about1) = true := by decide +kernel
set_option maxRecDepth 65536 in
theorem w_t5 : ((((words1.drop 24).drop 24).drop 24).drop 24).all (fun c => isCode c || c.before args0 about1) = true := by decide +kernel
theorem w_tables : (allAtoms (Jvm.Cond.code x code maxLocals ret :: tables_1)).before args0 about1 = true := by
  rw [allAtoms_all]
  show words1.all (fun c => c.before args0 about1) = true
  refine all_split ?_ w_codes
  rw [← List.take_append_drop 24 words1, List.all_append, w_t1, ← List.take_append_drop 24 (words1.drop 24), List.all_append, w_t2, ← List.take_append_drop 24 ((words1.drop 24).drop 24), List.all_append, w_t3, ← List.take_append_drop 24 (((words1.drop 24).drop 24).drop 24), List.all_append, w_t4, w_t5]
  rfl
set_option maxRecDepth 65536 in
theorem w_rest : rest_1_c.before args0 about1 = true := by decide +kernel
set_option maxRecDepth 65536 in
theorem w_case : (Jvm.Cond.and given_1 narrow_1).before args0 about1 = true := by decide +kernel
set_option maxRecDepth 65536 in
theorem w_consts : constsHeld consts_1 about1 := Jvm.Lit.constsHeldB_iff.mp (by decide +kernel)
theorem w_applies : (headSpec (Jvm.Cond.code x code maxLocals ret :: tables_1) room_1).applies x e0.platform about1 = true :=
  (Spec.applies_iff w_frames).mpr ⟨w_running, w_runnable, w_alone, w_named, w_hears, w_ripe, w_room, w_tables⟩
theorem atStart : AtStart classFile x code maxLocals ret World_1 tables_1 room_1 Calls_1 rest_1 Pre_1 launch0 p0 e0 about1 theMethod args0 below0 :=
  ⟨lists_1, trivial, launch0.admits_env _ _ _, launch0.least_env, fairChoices_fair.cas, fairChoices_fair.clock, w_frames, w_args, w_heap, w_applies, ⟨w_consts, trivial⟩, w_rest, w_case⟩
end start1
theorem witness_1 : WitnessClaimed_1 := ⟨start1.p0, start1.e0, start1.about1, start1.theMethod, start1.args0, start1.below0, start1.atStart⟩
end Jvm.Pilot.@@N@@
