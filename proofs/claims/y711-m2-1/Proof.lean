import JvmDerived
import JvmDerived.Pilot.@@N@@Statement
import JvmDerived.Pilot.@@N@@Code
set_option linter.unusedVariables false
set_option linter.unusedSimpArgs false
/- laws to paste: Road.eqW, Road.lenW, pair_says, shr0, narrow_ch (cut by pick.py; bodies as the Statement names them) -/
namespace Jvm.Pilot.@@N@@
namespace StrChars
open Jvm Sem ClassFile Op Lib Jvm.Stand Jvm.Free.XT Jvm.Free.ALB Jvm.Free.JM Jvm.Free
open Jvm.Lib.Cold (StaticIs)
/-- the byte that i2b leaves of a char -/
def lo8 (x : Int32) : Int32 := x.toInt8.toInt32
theorem fits_lo8 (y : Int32) : fits .byte (.int (lo8 y)) = true := by
  have h1 := y.toInt8.le_toInt
  have h2 := y.toInt8.toInt_lt
  simp only [lo8, fits, Bool.and_eq_true, decide_eq_true_eq, Int32.le_iff_toInt_le, Int8.toInt_toInt32, show (-128 : Int32).toInt = -128 from by decide, show (127 : Int32).toInt = 127 from by decide]
  omega
def U16 : String := "java/lang/StringUTF16"
namespace Cmp5
def yN : MethodName := ⟨"java/lang/StringUTF16", "compress", "([CI[BII)I"⟩
abbrev yB : ByteArray := jdk_52_method_21_code
end Cmp5
namespace Cmp3
def yN : MethodName := ⟨"java/lang/StringUTF16", "compress", "([CII)[B"⟩
abbrev yB : ByteArray := jdk_52_method_16_code
end Cmp3
namespace CodL
def yN : MethodName := ⟨"java/lang/StringUTF16", "coderFromArrayLen", "([BI)B"⟩
abbrev yB : ByteArray := jdk_52_method_15_code
end CodL
namespace New4
def yN : MethodName := ⟨"java/lang/String", "<init>", "([CIILjava/lang/Void;)V"⟩
abbrev yB : ByteArray := jdk_42_method_149_code
end New4
namespace New1
def yN : MethodName := ⟨"java/lang/String", "<init>", "([C)V"⟩
abbrev yB : ByteArray := jdk_42_method_3_code
end New1
/-- the byte, read back as charAt reads it, is the char -/
theorem lo8_mask {x : Int32} (h0 : ¬ x < 0) (h1 : ¬ 255 < x) : lo8 x &&& 255 = x := by
  have t : ∀ k : Fin 256, lo8 (Int32.ofNat k.val) &&& 255 = Int32.ofNat k.val := by decide +kernel
  rw [Int32.lt_iff_toInt_lt] at h0 h1
  have e0 : (0 : Int32).toInt = 0 := rfl
  have e1 : (255 : Int32).toInt = 255 := rfl
  obtain ⟨k, hk⟩ : ∃ k : Nat, x.toInt = k := ⟨x.toInt.toNat, by omega⟩
  have hx : x = Int32.ofNat k := Int32.toInt_inj.mp (by rw [hk, Int32.toInt_ofNat_small (by omega)])
  rw [hx]
  exact t ⟨k, by omega⟩
end StrChars
namespace StrChars.Road
open Jvm Sem ClassFile Op Lib Jvm.Stand Jvm.Free Jvm.Free.XT
open Jvm.Lib.Cold (StaticIs)
abbrev ST : String := "java/lang/String"
/-- every table word that New1's law asks, flat -/
abbrev words : List Jvm.Cond := [.code New1.yN New1.yB 2 none, .initialized ST, .methodLink ST 27 New4.yN, .instanceMethod New4.yN,
  .code New4.yN New4.yB 6 none, .fieldLink ST 38 ST "COMPACT_STRINGS" "Z", .laysFinal ST ST "value" "[B", .fieldLink ST 9 ST "value" "[B", .laysFinal ST ST "coder" "B", .fieldLink ST 15 ST "coder" "B",
  .methodLink ST 1 Lib.objectInit, .instanceMethod Lib.objectInit, .code Lib.objectInit ⟨#[0xb1]⟩ 1 none, .methodLink ST 177 Cmp3.yN, .static Cmp3.yN, .methodLink ST 47 CodL.yN, .static CodL.yN,
  .code Cmp3.yN Cmp3.yB 6 (some (.array .byte)), .initialized U16, .arrayClass .byte, .methodLink U16 115 Cmp5.yN, .static Cmp5.yN, .code Cmp5.yN Cmp5.yB 7 (some .int), .code CodL.yN CodL.yB 2 (some .byte)]
end StrChars.Road
namespace StrChars
open Jvm Sem ClassFile Op Lib Jvm.Stand Jvm.Free.XT Jvm.Free.ALB Jvm.Free.JM Jvm.Free
open Jvm.Lib.Cold (StaticIs)
def hi8 (x : Int32) : Int32 := lo8 (x >>> ((8 : Int32) &&& 31))
/-- what StringUTF16.getChar makes of two bytes -/
def pairCh (u v : Int32) : Int32 := (((u &&& 255) <<< ((0 : Int32) &&& 31)) ||| ((v &&& 255) <<< ((8 : Int32) &&& 31))).toUInt32.toUInt16.toUInt32.toInt32
theorem shr0 (c : Int32) : c >>> ((0 : Int32) &&& 31) = c := by
  have e : ((0 : Int32) &&& 31) = 0 := by decide
  rw [e]
  apply Int32.toBitVec_inj.mp
  rw [Int32.toBitVec_shiftRight]
  have e1 : ((0 : Int32).toBitVec.smod 32) = 0#32 := by decide
  rw [e1, BitVec.sshiftRight_eq']
  exact BitVec.sshiftRight_zero
theorem lo8_and (x : Int32) : (lo8 x &&& 255).toBitVec.toNat = x.toBitVec.toNat % 256 := by
  have h : (lo8 x).toBitVec = (x.toBitVec.signExtend 8).signExtend 32 := by rw [lo8, Int8.toBitVec_toInt32, Int32.toBitVec_toInt8]
  rw [Int32.toBitVec_and, BitVec.toNat_and, h]
  have e : ((x.toBitVec.signExtend 8).signExtend 32).toNat % 256 = x.toBitVec.toNat % 256 := by
    rw [BitVec.toNat_signExtend]
    have hlt := x.toBitVec.isLt
    simp only [BitVec.toNat_setWidth, BitVec.toNat_signExtend]
    split <;> split <;> omega
  rw [← e]
  exact Nat.and_two_pow_sub_one_eq_mod _ 8
theorem pair_says {c : Int32} (h0 : ¬ c < 0) (h1 : ¬ 65535 < c) : pairCh (lo8 c) (hi8 c) = c := by
  rw [Int32.lt_iff_toInt_lt] at h0 h1
  have e0 : (0 : Int32).toInt = 0 := rfl
  have e1 : (65535 : Int32).toInt = 65535 := rfl
  have hc : c.toInt = c.toBitVec.toNat := by
    have := c.toBitVec.isLt
    have e : c.toInt = c.toBitVec.toInt := rfl
    rw [e] at h0 h1
    rw [e]
    rw [BitVec.toInt_eq_toNat_cond] at h0 h1 ⊢
    split at h0 <;> split <;> omega
  have hn : c.toBitVec.toNat < 65536 := by omega
  have a1 := lo8_and c
  have a2 : (hi8 c &&& 255).toBitVec.toNat = c.toBitVec.toNat / 256 := by
    rw [hi8, lo8_and]
    have e : ((8 : Int32) &&& 31) = 8 := by decide
    rw [e, Int32.toBitVec_shiftRight]
    have e2 : ((8 : Int32).toBitVec.smod 32) = 8#32 := by decide
    rw [e2, BitVec.sshiftRight_eq', BitVec.toNat_sshiftRight_of_msb_false (by rw [BitVec.msb_eq_false_iff_two_mul_lt]; omega)]
    show c.toBitVec.toNat >>> 8 % 256 = _
    rw [Nat.shiftRight_eq_div_pow]
    omega
  unfold pairCh
  apply Int32.toBitVec_inj.mp
  apply BitVec.eq_of_toNat_eq
  have f0 : ((0 : Int32) &&& 31) = 0 := by decide
  have f8 : ((8 : Int32) &&& 31) = 8 := by decide
  rw [f0, f8]
  have g : (((lo8 c &&& 255) <<< (0 : Int32)) ||| ((hi8 c &&& 255) <<< (8 : Int32))).toBitVec.toNat = c.toBitVec.toNat := by
    rw [Int32.toBitVec_or, Int32.toBitVec_shiftLeft, Int32.toBitVec_shiftLeft]
    have s0 : ((0 : Int32).toBitVec.smod 32) = 0#32 := by decide
    have s8 : ((8 : Int32).toBitVec.smod 32) = 8#32 := by decide
    rw [s0, s8, BitVec.toNat_or]
    simp only [BitVec.shiftLeft_eq', BitVec.toNat_shiftLeft, a1, a2]
    show (c.toBitVec.toNat % 256) <<< 0 % 2 ^ 32 ||| (c.toBitVec.toNat / 256) <<< 8 % 2 ^ 32 = _
    rw [Nat.shiftLeft_zero, Nat.mod_eq_of_lt (show c.toBitVec.toNat % 256 < 2 ^ 32 by omega), Nat.mod_eq_of_lt (show (c.toBitVec.toNat / 256) <<< 8 < 2 ^ 32 by rw [Nat.shiftLeft_eq]; omega), Nat.or_comm, ← Nat.shiftLeft_add_eq_or_of_lt (by omega), Nat.shiftLeft_eq]
    omega
  show BitVec.toNat (((((lo8 c &&& 255) <<< (0 : Int32)) ||| ((hi8 c &&& 255) <<< (8 : Int32))).toBitVec.setWidth 16).setWidth 32) = _
  rw [BitVec.toNat_setWidth, BitVec.toNat_setWidth, g]
  omega
end StrChars
namespace StrChars
open Jvm Sem ClassFile Op Lib Jvm.Stand Jvm.Free.XT Jvm.Free.ALB Jvm.Free.JM Jvm.Free
open Jvm.Lib.Cold (StaticIs)
theorem shr1 {n : Nat} (h : 2 * n < 2 ^ 31) : Int32.ofNat (2 * n) >>> ((1 : Int32) &&& 31) = Int32.ofNat n := by
  have e : ((1 : Int32) &&& 31) = 1 := by decide
  rw [e]
  apply Int32.toBitVec_inj.mp
  rw [Int32.toBitVec_shiftRight]
  have e1 : ((1 : Int32).toBitVec.smod 32) = 1#32 := by decide
  have hm : (BitVec.ofNat 32 (2 * n)).toNat = 2 * n := by rw [BitVec.toNat_ofNat, Nat.mod_eq_of_lt (by omega)]
  rw [e1, BitVec.sshiftRight_eq']
  apply BitVec.eq_of_toNat_eq
  show ((BitVec.ofNat 32 (2 * n)).sshiftRight 1).toNat = (BitVec.ofNat 32 n).toNat
  rw [BitVec.toNat_sshiftRight_of_msb_false (by rw [BitVec.msb_eq_false_iff_two_mul_lt, hm]; omega), hm, BitVec.toNat_ofNat, Nat.shiftRight_eq_div_pow]
  omega
theorem narrow_ch {c : Int32} (h0 : ¬ c < 0) (h1 : ¬ 65535 < c) : narrow .char (.int c) = .int c := by
  have q : narrow .char (.int (pairCh (lo8 c) (hi8 c))) = .int (pairCh (lo8 c) (hi8 c)) := narrow_c _
  rwa [pair_says h0 h1] at q
/-- the array's cell V codes the n chars f 0 .. f (n - 1) by the coder cd, as the JDK does: coder 1 just where some char is above 255 -/
def Cod (cd : Int32) (n : Nat) (f : Nat → Int32) (V : Cell) : Prop := (cd = 0 ∧ V.slots.size = n ∧ ∀ j, j < n → V.slots[j]? = some (.int (lo8 (f j))) ∧ ¬ 255 < f j) ∨ (cd = 1 ∧ V.slots.size = 2 * n ∧ (∀ j, j < n → V.slots[2 * j]? = some (.int (lo8 (f j))) ∧ V.slots[2 * j + 1]? = some (.int (hi8 (f j)))) ∧ ∃ j, j < n ∧ 255 < f j)
theorem Cod.cd {cd : Int32} {n : Nat} {f : Nat → Int32} {V : Cell} (h : Cod cd n f V) : cd = 0 ∨ cd = 1 := h.imp (fun q => q.1) fun q => q.1
theorem Cod.len {cd : Int32} {n : Nat} {f : Nat → Int32} {V : Cell} (h : Cod cd n f V) (hs : V.slots.size < 2 ^ 31) : Int32.ofNat V.slots.size >>> (cd &&& 31) = Int32.ofNat n := by
  rcases h with ⟨rfl, h, -⟩ | ⟨rfl, h, -⟩
  · rw [shr0, h]
  · rw [h, shr1 (by omega)]
/-- **x is a String of the n chars f 0 .. f (n - 1)**, Latin-1 or UTF-16; its array at t has the cell V -/
def Txt (x t : Addr) (V : Cell) (cd : Int32) (n : Nat) (f : Nat → Int32) (U : State) : Prop := Exact "java/lang/String" x U ∧ Has x "java/lang/String" "value" "[B" (.ref t) U ∧ Has x "java/lang/String" "coder" "B" (.int cd) U ∧ XT.Arr .byte t V U ∧ Cod cd n f V ∧ ∀ j, j < n → ¬ f j < 0 ∧ ¬ 65535 < f j
theorem Txt.mv {x t : Addr} {V : Cell} {cd : Int32} {n : Nat} {f : Nat → Int32} {U U' : State} (h : Txt x t V cd n f U) (hal : U.vm.Alike U'.vm) (hh : U'.heap = U.heap) : Txt x t V cd n f U' := ⟨h.1.mv hal hh, h.2.1.mv hal hh, h.2.2.1.mv hal hh, h.2.2.2.1.mv hal hh, h.2.2.2.2⟩
namespace Cdr
def yN : MethodName := ⟨"java/lang/String", "coder", "()B"⟩
abbrev yB : ByteArray := jdk_42_method_152_code
theorem d0 : decode yB 0 = .ok (.getstatic 38, 3) := by decide +kernel
theorem d3 : decode yB 3 = .ok (.ifCond (.eq) 10, 3) := by decide +kernel
theorem d6 : decode yB 6 = .ok (.aload_n 0, 1) := by decide +kernel
theorem d7 : decode yB 7 = .ok (.getfield 15, 3) := by decide +kernel
theorem d10 : decode yB 10 = .ok (.goto 4, 3) := by decide +kernel
theorem d14 : decode yB 14 = .ok (.ireturn, 1) := by decide +kernel
def site : List Cond := [.fieldLink "java/lang/String" 38 "java/lang/String" "COMPACT_STRINGS" "Z", .fieldLink "java/lang/String" 15 "java/lang/String" "coder" "B"]
def tab : Cond := tabOf yN yB 1 (some .byte) site
def P (x : Addr) (cd z : Int32) (args : Array Value) (s : State) : Prop := args = #[.ref x] ∧ Has x "java/lang/String" "coder" "B" (.int cd) s ∧ (cd = 0 ∨ cd = 1) ∧ StaticIs s "java/lang/String" "COMPACT_STRINGS" "Z" (.int z) ∧ ¬ z = 0
def E (cd : Int32) (r : Option Value) (s u : State) : Prop := XT.PureE (some (.int cd)) r s u
theorem law (l : Launch) (x : Addr) (cd z : Int32) : Law l yN 1 0 0 0 yB 1 (some .byte) site (P x cd z) (E cd) [] 0 0 := by
  refine Law.of_walk (plainFor_of_name (by decide +kernel)) (by decide +kernel) (by decide +kernel) (by decide) (fun _ _ h => by rw [h.1]; rfl) (fun _ U U' hal hh h => ⟨h.1, h.2.1.mv hal hh, h.2.2.1, h.2.2.2.1.there hal hh, h.2.2.2.2⟩) (fun r U U' V V' h1 hal h2 h => XT.PureE.mv r U U' V V' h1 hal h2 h) ?_
  intro p e s m args below meth c s₁ X0 hexec hbytes hml hret hlk hnm hown hh0 W hP
  obtain ⟨rfl, hx, hc, s1, hz⟩ := hP
  have c1 : Steps p.tables e below (s₁.setTop (entryFrame m #[.ref x] 1)) (s₁.setTop (mkF m 0 #[.val (.ref x)] [])) := entry rfl
  obtain ⟨T2, X2, q2, st2⟩ := X0.sget hexec hown (wk W (.fieldLink "java/lang/String" 38 "java/lang/String" "COMPACT_STRINGS" "Z")) s1 (fun _ _ h => by rw [hh0]; exact h) (g := (mkF m 0 #[.val (.ref x)] [])) rfl (hb hbytes d0)
  have hh2 := q2.trans hh0
  have c3 : Steps p.tables e below (s₁.setTop (entryFrame m #[.ref x] 1)) (T2.setTop (mkF m 7 #[.val (.ref x)] [.ref x])) := (c1.trans (st2 _ (Steps.refl _))).trans (by
    refine XS.ifNo X2.here hexec rfl (hb hbytes d3) rfl (i0_eq_f hz) ?_
    refine XS.aloadN X2.here hexec rfl (hb hbytes d6) rfl rfl ?_
    exact Steps.refl _)
  obtain ⟨T4, X4, q4, st4⟩ := X2.hget hexec hown (wk W (.fieldLink "java/lang/String" 15 "java/lang/String" "coder" "B")) (hx.mv X2.warmed.alike hh2) (g := (mkF m 7 #[.val (.ref x)] [.ref x])) rfl (rest := []) rfl (hb hbytes d7)
  have c5 : Steps p.tables e below (s₁.setTop (entryFrame m #[.ref x] 1)) (T4.setTop (mkF m 14 #[.val (.ref x)] [.int cd])) := (c3.trans (st4 _ (Steps.refl _))).trans (by
    refine XS.goto X4.here hexec rfl (pc0 := 10) rfl (hb hbytes d10) (by decide) rfl ?_
    exact Steps.refl _)
  exact ⟨T4, some (.int cd), _, _, _, X4, rfl, rfl, rfl, (fun h => by cases h), ⟨rfl, q4.trans hh2⟩, fun fs hl => c5.trans (X4.ireturnOut hexec hret (by rcases hc with rfl | rfl <;> rfl) (Or.inr (Or.inr (Or.inl rfl))) (hb hbytes d14) hl)⟩
end Cdr
namespace Len
def yN : MethodName := ⟨"java/lang/String", "length", "()I"⟩
abbrev yB : ByteArray := jdk_42_method_54_code
theorem d0 : decode yB 0 = .ok (.aload_n 0, 1) := by decide +kernel
theorem d1 : decode yB 1 = .ok (.getfield 9, 3) := by decide +kernel
theorem d4 : decode yB 4 = .ok (.arraylength, 1) := by decide +kernel
theorem d5 : decode yB 5 = .ok (.aload_n 0, 1) := by decide +kernel
theorem d6 : decode yB 6 = .ok (.invokevirtual 335, 3) := by decide +kernel
theorem d9 : decode yB 9 = .ok (.ishr, 1) := by decide +kernel
theorem d10 : decode yB 10 = .ok (.ireturn, 1) := by decide +kernel
def site : List Cond := [.fieldLink "java/lang/String" 9 "java/lang/String" "value" "[B", Cdr.tab] ++ virtW "java/lang/String" 335 "java/lang/String" Cdr.yN Cdr.yN
def tab : Cond := tabOf yN yB 1 (some .int) site
def P (x t : Addr) (V : Cell) (cd : Int32) (n : Nat) (f : Nat → Int32) (z : Int32) (args : Array Value) (s : State) : Prop := args = #[.ref x] ∧ Txt x t V cd n f s ∧ StaticIs s "java/lang/String" "COMPACT_STRINGS" "Z" (.int z) ∧ ¬ z = 0
def E (n : Nat) (r : Option Value) (s u : State) : Prop := XT.PureE (some (.int (Int32.ofNat n))) r s u
/-- length() of a String of n chars, in either coding -/
theorem law (l : Launch) (x t : Addr) (V : Cell) (cd : Int32) (n : Nat) (f : Nat → Int32) (z : Int32) : Law l yN 1 0 1 13 yB 1 (some .int) site (P x t V cd n f z) (E n) [] 0 0 := by
  refine Law.of_walk (plainFor_of_name (by decide +kernel)) (by decide +kernel) (by decide +kernel) (by decide) (fun _ _ h => by rw [h.1]; rfl) (fun _ U U' hal hh h => ⟨h.1, h.2.1.mv hal hh, h.2.2.1.there hal hh, h.2.2.2⟩) (fun r U U' V V' h1 hal h2 h => XT.PureE.mv r U U' V V' h1 hal h2 h) ?_
  intro p e s m args below meth c s₁ X0 hexec hbytes hml hret hlk hnm hown hh0 W hP
  obtain ⟨rfl, hx, s1, hz⟩ := hP
  have v31 := hx.2.2.2.1.2.2.2
  have c1 : Steps p.tables e below (s₁.setTop (entryFrame m #[.ref x] 1)) (s₁.setTop (mkF m 1 #[.val (.ref x)] [.ref x])) := Steps.trans (entry rfl) (by
    show Steps p.tables e below (s₁.setTop (mkF m 0 #[.val (.ref x)] [])) _
    refine XS.aloadN X0.here hexec rfl (hb hbytes d0) rfl rfl ?_
    exact Steps.refl _)
  obtain ⟨T2, X2, q2, st2⟩ := X0.hget hexec hown (wk W (.fieldLink "java/lang/String" 9 "java/lang/String" "value" "[B")) (hx.mv X0.warmed.alike hh0).2.1 (g := (mkF m 1 #[.val (.ref x)] [.ref x])) rfl (rest := []) rfl (hb hbytes d1)
  have hh2 := q2.trans hh0
  have hx2 := hx.mv X2.warmed.alike hh2
  have c3 : Steps p.tables e below (s₁.setTop (entryFrame m #[.ref x] 1)) (T2.setTop (mkF m 6 #[.val (.ref x)] [.ref x, .int (Int32.ofNat V.slots.size)])) := (c1.trans (st2 _ (Steps.refl _))).trans (by
    refine X2.alen hexec hx2.2.2.2.1 rfl rfl (hb hbytes d4) ?_
    refine XS.aloadN X2.here hexec rfl (hb hbytes d5) rfl rfl ?_
    exact Steps.refl _)
  obtain ⟨v4, T4, X4, E4, g4⟩ := X2.callV hexec (Cdr.law l x cd z) hown (wks W (virtW "java/lang/String" 335 "java/lang/String" Cdr.yN Cdr.yN)) rfl (by decide) (wk W Cdr.tab) (W := 1) (Nat.le_of_ble_eq_true rfl) (Nat.le_of_ble_eq_true rfl) (Nat.le_refl _) (Nat.le_refl _) (hx2.1.fc X2.warmed.alike) hx2.1.is (g := (mkF m 6 #[.val (.ref x)] [.ref x, .int (Int32.ofNat V.slots.size)])) rfl (by rw [hml]; rfl) c3 (argsL := []) (rest := [.int (Int32.ofNat V.slots.size)]) rfl rfl (by show 2 * 0 + (1 + 0) ≤ _; decide) (hb hbytes d6) (⟨rfl, hx2.2.2.1, hx.2.2.2.2.1.cd, s1.there X2.warmed.alike hh2, hz⟩)
  obtain ⟨rfl, q4⟩ := E4
  have c5 : Steps p.tables e below (s₁.setTop (entryFrame m #[.ref x] 1)) (T4.setTop (mkF m 10 #[.val (.ref x)] [.int (Int32.ofNat V.slots.size >>> (cd &&& 31))])) := Steps.trans g4 (by
    refine ishr X4.here hexec rfl (hb hbytes d9) rfl ?_
    exact Steps.refl _)
  rw [hx.2.2.2.2.1.len v31] at c5
  exact ⟨T4, some (.int (Int32.ofNat n)), _, _, _, X4, rfl, rfl, rfl, (fun h => by cases h), ⟨rfl, q4.trans hh2⟩, fun fs hl => c5.trans (X4.ireturnOut hexec hret rfl (Or.inl rfl) (hb hbytes d10) hl)⟩
theorem pays {l : Launch} {R : Room} {p : Program} {e : Env} {below : List Frame} {s : State} {sargs : Array Value} {len W : Nat} (x t : Addr) (V : Cell) (cd : Int32) (n : Nat) (f : Nat → Int32) (z : Int32) (htab : tab.before sargs s = true) (hfr : 2 ≤ R.frames) (hlo : W + 25 ≤ R.locals) :
    Back l R p e below s sargs yN len W (fun A₁ a₁ => A₁.cells + 0 ≤ R.cells ∧ A₁.slots + 0 ≤ R.slots ∧ P x t V cd n f z a₁ A₁.U) (fun A₁ _ v₁ B₁ => E n v₁ A₁.U B₁.U ∧ B₁.locs = A₁.locs ++ [] ∧ B₁.cells = A₁.cells + 0 ∧ B₁.slots = A₁.slots + 0) :=
  (law l x t V cd n f z).pays htab hfr (by omega)
end Len
end StrChars
namespace StrChars.Road
open Jvm Sem ClassFile Op Lib Jvm.Stand Jvm.Free Jvm.Free.XT
open Jvm.Lib.Cold (StaticIs)
theorem consq {a : Array Value} {s : State} {c : Jvm.Cond} {L : List Jvm.Cond} (h0 : c.before a s = true) (h : ∀ w ∈ L, w.before a s = true) : ∀ w ∈ c :: L, w.before a s = true := fun w hw => (List.mem_cons.mp hw).elim (fun e => e ▸ h0) (h w)
/-- the words of String.length(), either coding -/
abbrev wordsLen : List Jvm.Cond := [.code Len.yN Len.yB 1 (some .int), .initialized ST, .fieldLink ST 9 ST "value" "[B", .fieldLink ST 38 ST "COMPACT_STRINGS" "Z", .fieldLink ST 15 ST "coder" "B", .code Cdr.yN Cdr.yB 1 (some .byte), .methodLink ST 335 Cdr.yN, .declares Cdr.yN, .selects ST Cdr.yN Cdr.yN, .instanceMethod Cdr.yN]
theorem tabLen_of {a : Array Value} {s : State} (h : ∀ w ∈ wordsLen, w.before a s = true) : Len.tab.before a s = true := by
  have hc : Cdr.tab.before a s = true := unparts (wk h (.code Cdr.yN Cdr.yB 1 (some .byte))) (wks h (.initialized Cdr.yN.cls :: Cdr.site))
  have q := consq hc h
  exact unparts (wk q (.code Len.yN Len.yB 1 (some .int))) (wks q (.initialized Len.yN.cls :: Len.site))
theorem movedLen {Z s : State} {a0 args : Array Value} (hZ : Z.Warmed39 s.vm) (hw : ∀ d ∈ wordsLen, d.before a0 Z = true) : ∀ d ∈ wordsLen, d.before args s = true := fun d hd => by
  have q := hw d hd
  have t : ∀ d ∈ wordsLen, d = .arrayClass .byte ∨ (d.onTables && d.keepsFace) = true := by decide +kernel
  rcases t d hd with rfl | t
  · exact RoadKit.mvA hZ q
  · exact RoadKit.mv hZ q t
/-- the bytes of the chars cs, low before high -/
def wideBytes : List Int32 → List Value
  | [] => []
  | c :: cs => .int (lo8 c) :: .int (hi8 c) :: wideBytes cs
theorem wide_lo (d : Value) : ∀ (cs : List Int32) (j : Nat), j < cs.length → (wideBytes cs).getD (2 * j) d = .int (lo8 (cs.getD j 0))
  | [], j, h => absurd h (Nat.not_lt_zero j)
  | c :: cs, 0, _ => rfl
  | c :: cs, j + 1, h => by
    have q := wide_lo d cs j (by simpa using h)
    rw [show 2 * (j + 1) = 2 * j + 1 + 1 from by omega]
    simpa [wideBytes] using q
theorem wide_hi (d : Value) : ∀ (cs : List Int32) (j : Nat), j < cs.length → (wideBytes cs).getD (2 * j + 1) d = .int (hi8 (cs.getD j 0))
  | [], j, h => absurd h (Nat.not_lt_zero j)
  | c :: cs, 0, _ => rfl
  | c :: cs, j + 1, h => by
    have q := wide_hi d cs j (by simpa using h)
    rw [show 2 * (j + 1) + 1 = 2 * j + 1 + 1 + 1 from by omega]
    simpa [wideBytes] using q
theorem low_at (d : Value) (cs : List Int32) (j : Nat) (h : j < cs.length) : (cs.map fun c => Value.int (lo8 c)).getD j d = .int (lo8 (cs.getD j 0)) := by
  simp [List.getD_eq_getElem?_getD, h]
/-- an array of N2 bytes vs codes the chars cs by the coder cd -/
def CodA (cs : List Int32) (cd N2 : Int32) (vs : List Value) : Prop := (cd = 0 ∧ N2 = Int32.ofNat cs.length ∧ vs = (cs.map fun c => Value.int (lo8 c)) ∧ ∀ c ∈ cs, ¬ 255 < c) ∨ (cd = 1 ∧ N2 = Int32.ofNat (2 * cs.length) ∧ vs = wideBytes cs ∧ ∃ c ∈ cs, 255 < c)
theorem CodA.cod {cs : List Int32} {cd N2 : Int32} {vs : List Value} {V : Cell} (h : CodA cs cd N2 vs) (hn : 2 * cs.length < 2 ^ 31) (hs : V.slots.size = N2.toNatClampNeg) (hv : RoadKit.Has V vs (.int 0)) : Cod cd cs.length (fun j => cs.getD j 0) V := by
  rcases h with ⟨rfl, rfl, rfl, h⟩ | ⟨rfl, rfl, rfl, c, hc, hw⟩
  · rw [n32 (by omega)] at hs
    exact Or.inl ⟨rfl, hs, fun j hj => ⟨by rw [hv j (by omega), low_at _ _ _ hj], by
      have e : cs.getD j 0 = cs[j] := by simp [List.getD_eq_getElem?_getD, hj]
      show ¬ 255 < cs.getD j 0
      rw [e]; exact h _ (List.getElem_mem _)⟩⟩
  · rw [n32 (by omega)] at hs
    obtain ⟨j, hj, rfl⟩ := List.getElem_of_mem hc
    exact Or.inr ⟨rfl, hs, fun j hj => ⟨by rw [hv _ (by omega), wide_lo _ _ _ hj], by rw [hv _ (by omega), wide_hi _ _ _ hj]⟩, j, hj, by
      have e : cs.getD j 0 = cs[j] := by simp [List.getD_eq_getElem?_getD, hj]
      show 255 < cs.getD j 0
      rw [e]; exact hw⟩
/-- an object of exactly java/lang/String, its two fields found: as the laws ask it -/
theorem strObj {Z U : State} {a0 : Array Value} {kI : Nat} (wi : (Jvm.Cond.instantiable ST kI).before a0 Z = true) (al : Z.vm.Alike U.vm) {x : Addr} {v0 c0 : Value} (E : RoadKit.Exa Z U.heap x ST) (V : RoadKit.Fld Z U.heap x ST "value" "[B" v0) (C : RoadKit.Fld Z U.heap x ST "coder" "B" c0) :
    ∃ (D : Cell) (fV fC : Field), Blank ST x D U ∧ Found ST "value" "[B" fV U ∧ Found ST "coder" "B" fC U ∧ D.slots[fV.slot]? = some v0 ∧ D.slots[fC.slot]? = some c0 ∧ RoadKit.slotOf Z ST "value" "[B" = fV.slot ∧ RoadKit.slotOf Z ST "coder" "B" = fC.slot := by
  obtain ⟨D, cfV, kV, iV, fV, hD, gV, stV, knV, obV, asV, slV⟩ := V
  obtain ⟨D', cfC, kC, iC, fC, hD', gC, stC, -, -, asC, slC⟩ := C
  cases hD.symm.trans hD'
  obtain ⟨D2, kD, e1, e2, e3, e4, e5⟩ := E
  cases hD.symm.trans e1
  obtain ⟨c2, k2, i1, i2, i3, -⟩ := Cond.instantiable_spec wi
  cases e2.symm.trans i1
  cases e3.symm.trans i2
  obtain ⟨kU, u1, u2⟩ := al.2.2 _ _ e3
  exact ⟨D, fV, fC, ⟨hD, ⟨knV, fun q hq => by rw [hq] at obV; cases obV⟩, by rw [al.findClass]; exact e2, kU, u1, by rw [u2]; exact i3, by rw [u2]; exact e5 i3⟩, ⟨SBG.found_only al ⟨cfV, kV, iV, gV⟩, stV⟩, ⟨SBG.found_only al ⟨cfC, kC, iC, gC⟩, stC⟩, slV, slC, by simp [RoadKit.slotOf, gV], by simp [RoadKit.slotOf, gC]⟩
theorem sta_is {Z U : State} (al : Z.vm.Alike U.vm) {C n d : String} {v : Value} (S : RoadKit.Sta Z U.heap C n d v) : StaticIs U C n d v := by
  obtain ⟨cfS, iS, kS, fS, st, cS, t1, t2, t3, t4, t5, t6, t7⟩ := S
  exact StaticIs.there (s := { Z with heap := U.heap }) ⟨cfS, iS, kS, fS, st, cS, t1, t2, t3, t4, t5, (fun q => by rw [q] at t6; cases t6), t7⟩ al rfl
/-- **length() OF SUCH A STRING** -/
theorem lenW {p : Program} {l : Launch} {e : Env} {R : Room} {s : State} {args : Array Value} {below : List Frame} {len W : Nat} {Z : State} {a0 : Array Value} {h : Heap} (hZ : Z.Warmed39 s.vm) (hw : ∀ d ∈ wordsLen, d.before a0 Z = true) {kI : Nat} (wi : (Jvm.Cond.instantiable ST kI).before a0 Z = true)
    {x t : Addr} {kb : ClassId} {cs : List Int32} {cd N2 z : Int32} {vs : List Value} (E : RoadKit.Exa Z h x ST) (V : RoadKit.Fld Z h x ST "value" "[B" (.ref t)) (C : RoadKit.Fld Z h x ST "coder" "B" (.int cd)) (K : RoadKit.Arv Z h t kb .byte N2 vs (.int 0)) (hc : CodA cs cd N2 vs) (hb : ∀ c ∈ cs, ¬ c < 0 ∧ ¬ (65535 : Int32) < c)
    (S : RoadKit.Sta Z h ST "COMPACT_STRINGS" "Z" (.int z)) (hz : ¬ z = 0) (l2 : cs.length ≤ 4000) (hfr : 2 ≤ R.frames) (hlo : W + 25 ≤ R.locals) :
    Back l R p e below s args (⟨"java/lang/String", "length", "()I"⟩ : MethodName) len W (fun P a => a = #[.ref x] ∧ P.U.heap = h ∧ P.cells + 0 ≤ R.cells ∧ P.slots + 0 ≤ R.slots)
      (fun P _ v B => ∃ L, (v = some (.int (Int32.ofNat cs.length)) ∧ L = [] ∧ B.U.heap = h) ∧ B.locs = P.locs ++ L ∧ B.cells = P.cells + 0 ∧ B.slots = P.slots + 0) := by
  obtain ⟨A, K1, K2, K3, K4, K5, K6⟩ := K
  have hcod := hc.cod (by omega) K3 K5
  intro m meth c P g ig mk a X hg hsize hdg hW hn hp'
  obtain ⟨rfl, rfl, r1, r2⟩ := hp'
  have al : Z.vm.Alike P.U.vm := hZ.alike.trans X.warmed.alike
  obtain ⟨D, fV, fC, hB, F1, F2, g1, g2, -, -⟩ := strObj wi al E V C
  have hx : Txt x t A cd cs.length (fun j => cs.getD j 0) P.U := ⟨⟨_, hB.2.2.1, D, hB.1, rfl, by cases q : D.vm <;> first | rfl | exact absurd q (hB.2.1.2 _)⟩, Has.of hB F1 g1, Has.of hB F2 g2, ⟨K1.1, State.isArrayOf_alike al K1.2.1, K1.2.2, by rcases hcod with ⟨-, q, -⟩ | ⟨-, q, -⟩ <;> omega⟩, hcod, fun j hj => by
    have e : cs.getD j 0 = cs[j] := by simp [List.getD_eq_getElem?_getD, hj]
    show ¬ cs.getD j 0 < 0 ∧ ¬ 65535 < cs.getD j 0
    rw [e]; exact hb _ (List.getElem_mem _)⟩
  obtain ⟨v, B, X', ⟨⟨hv, hh⟩, hl, hk, hs⟩, st⟩ := Len.pays x t A cd cs.length (fun j => cs.getD j 0) z (tabLen_of (movedLen hZ hw)) hfr hlo m meth c P g ig mk _ X hg hsize hdg hW hn ⟨r1, r2, rfl, hx, sta_is al S, hz⟩
  exact ⟨v, B, X', ⟨[], ⟨hv, rfl, hh⟩, hl, hk, hs⟩, st⟩
end StrChars.Road
namespace StrChars
open Jvm Sem ClassFile Op Lib Jvm.Stand Jvm.Free.XT Jvm.Free.ALB Jvm.Free.JM Jvm.Free
open Jvm.Lib.Cold (StaticIs)
/-- what place i of a byte[]'s cell holds -/
def yv (A : Cell) (i : Nat) : Int32 := match A.slots[i]? with | some (.int x) => x | _ => 0
theorem yv_get {a : Addr} {A : Cell} {U : State} (h : XT.Arr .byte a A U) (ht : Typed .byte A) {i : Nat} (hi : i < A.slots.size) : A.slots[i]? = some (.int (yv A i)) := by
  have e := Array.getElem?_eq_getElem hi
  have f := ht i _ e
  unfold yv; rw [e]
  generalize A.slots[i] = v at f
  cases v <;> simp [fits] at f ⊢
/-- the two arrays are equal, place for place -/
def EqC (A B : Cell) : Prop := A.slots.size = B.slots.size ∧ ∀ i, i < A.slots.size → yv A i = yv B i
/-- a boolean that says whether p -/
def Says01 (q : Prop) (r : Option Value) (s u : State) : Prop := ∃ v : Int32, r = some (.int v) ∧ u.heap = s.heap ∧ ((v = 1 ∧ q) ∨ (v = 0 ∧ ¬ q))
theorem Says01.mv {q : Prop} : ∀ r (U U' V V' : State), U'.heap = U.heap → V.vm.Alike V'.vm → V'.heap = V.heap → Says01 q r U V → Says01 q r U' V' :=
  fun r U U' V V' h1 _ h2 ⟨v, a, b, c⟩ => ⟨v, a, by rw [h1, h2]; exact b, c⟩
namespace LEq
def yN : MethodName := ⟨"java/lang/StringLatin1", "equals", "([B[B)Z"⟩
abbrev yB : ByteArray := jdk_43_method_13_code
theorem d0 : decode yB 0 = .ok (.aload_n 0, 1) := by decide +kernel
theorem d1 : decode yB 1 = .ok (.arraylength, 1) := by decide +kernel
theorem d2 : decode yB 2 = .ok (.aload_n 1, 1) := by decide +kernel
theorem d3 : decode yB 3 = .ok (.arraylength, 1) := by decide +kernel
theorem d4 : decode yB 4 = .ok (.if_icmp (.ne) 30, 3) := by decide +kernel
theorem d7 : decode yB 7 = .ok (.iconst 0, 1) := by decide +kernel
theorem d8 : decode yB 8 = .ok (.istore_n 2, 1) := by decide +kernel
theorem d9 : decode yB 9 = .ok (.iload_n 2, 1) := by decide +kernel
theorem d10 : decode yB 10 = .ok (.aload_n 0, 1) := by decide +kernel
theorem d11 : decode yB 11 = .ok (.arraylength, 1) := by decide +kernel
theorem d12 : decode yB 12 = .ok (.if_icmp (.ge) 20, 3) := by decide +kernel
theorem d15 : decode yB 15 = .ok (.aload_n 0, 1) := by decide +kernel
theorem d16 : decode yB 16 = .ok (.iload_n 2, 1) := by decide +kernel
theorem d17 : decode yB 17 = .ok (.baload, 1) := by decide +kernel
theorem d18 : decode yB 18 = .ok (.aload_n 1, 1) := by decide +kernel
theorem d19 : decode yB 19 = .ok (.iload_n 2, 1) := by decide +kernel
theorem d20 : decode yB 20 = .ok (.baload, 1) := by decide +kernel
theorem d21 : decode yB 21 = .ok (.if_icmp (.eq) 5, 3) := by decide +kernel
theorem d24 : decode yB 24 = .ok (.iconst 0, 1) := by decide +kernel
theorem d25 : decode yB 25 = .ok (.ireturn, 1) := by decide +kernel
theorem d26 : decode yB 26 = .ok (.iinc 2 1, 3) := by decide +kernel
theorem d29 : decode yB 29 = .ok (.goto (-20), 3) := by decide +kernel
theorem d32 : decode yB 32 = .ok (.iconst 1, 1) := by decide +kernel
theorem d33 : decode yB 33 = .ok (.ireturn, 1) := by decide +kernel
theorem d34 : decode yB 34 = .ok (.iconst 0, 1) := by decide +kernel
theorem d35 : decode yB 35 = .ok (.ireturn, 1) := by decide +kernel
def site : List Cond := []
def tab : Cond := tabOf yN yB 3 (some .boolean) site
def P (a : Addr) (A : Cell) (b : Addr) (B : Cell) (args : Array Value) (s : State) : Prop := args = #[.ref a, .ref b] ∧ XT.Arr .byte a A s ∧ Typed .byte A ∧ XT.Arr .byte b B s ∧ Typed .byte B
/-- whether two byte[] are equal, place for place -/
theorem law (l : Launch) (a : Addr) (A : Cell) (b : Addr) (B : Cell) : Law l yN 2 2 0 0 yB 3 (some .boolean) site (P a A b B) (Says01 (EqC A B)) [] 0 0 := by
  refine Law.of_walk (plainFor_of_name (by decide +kernel)) (by decide +kernel) (by decide +kernel) (by decide) (fun _ _ h => by rw [h.1]; rfl) (fun _ U U' hal hh h => ⟨h.1, h.2.1.mv hal hh, h.2.2.1, h.2.2.2.1.mv hal hh, h.2.2.2.2⟩) (fun r U U' V V' h1 hal h2 h => Says01.mv r U U' V V' h1 hal h2 h) ?_
  intro p e s m args below meth c s₁ X0 hexec hbytes hml hret hlk hnm hown hh0 W hP
  obtain ⟨rfl, hA, tA, hB, tB⟩ := hP
  have a31 := hA.2.2.2
  have b31 := hB.2.2.2
  have hA0 := hA.mv X0.warmed.alike hh0
  have hB0 := hB.mv X0.warmed.alike hh0
  have c1 : Steps p.tables e below (s₁.setTop (entryFrame m #[.ref a, .ref b] 3)) (s₁.setTop (mkF m 0 #[.val (.ref a), .val (.ref b), .unset] [])) := entry rfl
  have c2 : Steps p.tables e below (s₁.setTop (entryFrame m #[.ref a, .ref b] 3)) (s₁.setTop (mkF m 4 #[.val (.ref a), .val (.ref b), .unset] [.int (Int32.ofNat B.slots.size), .int (Int32.ofNat A.slots.size)])) := c1.trans (by
    refine XS.aloadN X0.here hexec rfl (hb hbytes d0) rfl rfl ?_
    refine X0.alen hexec hA0 rfl rfl (hb hbytes d1) ?_
    refine XS.aloadN X0.here hexec rfl (hb hbytes d2) rfl rfl ?_
    refine X0.alen hexec hB0 rfl rfl (hb hbytes d3) ?_
    exact Steps.refl _)
  by_cases hs : A.slots.size = B.slots.size
  · have c3 : Steps p.tables e below (s₁.setTop (entryFrame m #[.ref a, .ref b] 3)) (s₁.setTop (mkF m 9 #[.val (.ref a), .val (.ref b), .val (.int 0)] [])) := c2.trans (by
      refine XS.icmpNo X0.here hexec rfl (hb hbytes d4) rfl (ii_ne_f (by rw [hs])) ?_
      refine iconstV X0.here hexec rfl 0 (hb hbytes d7) (by decide) ?_
      refine XS.istoreN X0.here hexec rfl (hb hbytes d8) rfl rfl ?_
      exact Steps.refl _)
    have loop : ∀ (r i : Nat), i + r = A.slots.size → (∀ j, j < i → yv A j = yv B j) → Steps p.tables e below (s₁.setTop (entryFrame m #[.ref a, .ref b] 3)) (s₁.setTop (mkF m 9 #[.val (.ref a), .val (.ref b), .val (.int (Int32.ofNat i))] [])) → ∃ (pc : Nat) (Ls : Array Slot) (v : Int32), (pc = 25 ∨ pc = 33) ∧ ((v = 1 ∧ EqC A B) ∨ (v = 0 ∧ ¬ EqC A B)) ∧ Steps p.tables e below (s₁.setTop (entryFrame m #[.ref a, .ref b] 3)) (s₁.setTop (mkF m pc Ls [.int v])) := by
      intro r
      induction r with
      | zero =>
        intro i hi he cl
        exact ⟨33, _, 1, Or.inr rfl, Or.inl ⟨rfl, hs, fun j hj => he j (by omega)⟩, cl.trans (by
          refine XS.iloadN X0.here hexec rfl (hb hbytes d9) rfl ?_
          refine XS.aloadN X0.here hexec rfl (hb hbytes d10) rfl rfl ?_
          refine X0.alen hexec hA0 rfl rfl (hb hbytes d11) ?_
          refine XS.icmpYes X0.here hexec rfl (pc0 := 12) rfl (hb hbytes d12) rfl (ii_ge_t (nlt32 (by omega) (by omega))) (by decide) rfl ?_
          refine iconstV X0.here hexec rfl 1 (hb hbytes d32) (by decide) ?_
          exact Steps.refl _)⟩
      | succ r ih =>
        intro i hi he cl
        have c4 : Steps p.tables e below (s₁.setTop (entryFrame m #[.ref a, .ref b] 3)) (s₁.setTop (mkF m 21 #[.val (.ref a), .val (.ref b), .val (.int (Int32.ofNat i))] [.int (yv B i), .int (yv A i)])) := cl.trans (by
          refine XS.iloadN X0.here hexec rfl (hb hbytes d9) rfl ?_
          refine XS.aloadN X0.here hexec rfl (hb hbytes d10) rfl rfl ?_
          refine X0.alen hexec hA0 rfl rfl (hb hbytes d11) ?_
          refine XS.icmpNo X0.here hexec rfl (hb hbytes d12) rfl (ii_ge_f (lt32 (by omega) (by omega))) ?_
          refine XS.aloadN X0.here hexec rfl (hb hbytes d15) rfl rfl ?_
          refine XS.iloadN X0.here hexec rfl (hb hbytes d16) rfl ?_
          refine X0.aget hexec hA0 rfl (yv_get hA tA (i := i) (by omega)) rfl rfl (hb hbytes d17) ?_
          refine XS.aloadN X0.here hexec rfl (hb hbytes d18) rfl rfl ?_
          refine XS.iloadN X0.here hexec rfl (hb hbytes d19) rfl ?_
          refine X0.aget hexec hB0 rfl (yv_get hB tB (i := i) (by omega)) rfl rfl (hb hbytes d20) ?_
          exact Steps.refl _)
        by_cases hv : yv A i = yv B i
        · have c5 : Steps p.tables e below (s₁.setTop (entryFrame m #[.ref a, .ref b] 3)) (s₁.setTop (mkF m 9 #[.val (.ref a), .val (.ref b), .val (.int (Int32.ofNat i + 1))] [])) := c4.trans (by
            refine XS.icmpYes X0.here hexec rfl (pc0 := 21) rfl (hb hbytes d21) rfl (ii_eq_t hv) (by decide) rfl ?_
            refine iincV X0.here hexec rfl 1 (hb hbytes d26) (by decide) rfl rfl ?_
            refine XS.goto X0.here hexec rfl (pc0 := 29) rfl (hb hbytes d29) (by decide) rfl ?_
            exact Steps.refl _)
          rw [succ32] at c5
          exact ih (i + 1) (by omega) (fun j hj => by
            by_cases e : j = i
            · rw [e]; exact hv
            · exact he j (by omega)) c5
        · exact ⟨25, _, 0, Or.inl rfl, Or.inr ⟨rfl, fun q => hv (q.2 i (by omega))⟩, c4.trans (by
            refine XS.icmpNo X0.here hexec rfl (hb hbytes d21) rfl (ii_eq_f hv) ?_
            refine iconstV X0.here hexec rfl 0 (hb hbytes d24) (by decide) ?_
            exact Steps.refl _)⟩
    obtain ⟨pc, Ls, v, hpc, hv, cz⟩ := loop A.slots.size 0 (by omega) (fun j hj => absurd hj (Nat.not_lt_zero j)) c3
    have nv : narrow .boolean (.int v) = .int v := by rcases hv with ⟨rfl, -⟩ | ⟨rfl, -⟩ <;> rfl
    rcases hpc with rfl | rfl
    · exact ⟨s₁, some (.int v), _, _, _, X0, rfl, rfl, rfl, (fun h => by cases h), ⟨v, rfl, hh0, hv⟩, fun fs hl => cz.trans (X0.ireturnOut hexec hret nv (Or.inr (Or.inl rfl)) (hb hbytes d25) hl)⟩
    · exact ⟨s₁, some (.int v), _, _, _, X0, rfl, rfl, rfl, (fun h => by cases h), ⟨v, rfl, hh0, hv⟩, fun fs hl => cz.trans (X0.ireturnOut hexec hret nv (Or.inr (Or.inl rfl)) (hb hbytes d33) hl)⟩
  · have c3 : Steps p.tables e below (s₁.setTop (entryFrame m #[.ref a, .ref b] 3)) (s₁.setTop (mkF m 35 #[.val (.ref a), .val (.ref b), .unset] [.int 0])) := c2.trans (by
      refine XS.icmpYes X0.here hexec rfl (pc0 := 4) rfl (hb hbytes d4) rfl (ii_ne_t (ne32 a31 b31 hs)) (by decide) rfl ?_
      refine iconstV X0.here hexec rfl 0 (hb hbytes d34) (by decide) ?_
      exact Steps.refl _)
    exact ⟨s₁, some (.int 0), _, _, _, X0, rfl, rfl, rfl, (fun h => by cases h), ⟨0, rfl, hh0, Or.inr ⟨rfl, fun q => hs q.1⟩⟩, fun fs hl => c3.trans (X0.ireturnOut hexec hret rfl (Or.inr (Or.inl rfl)) (hb hbytes d35) hl)⟩
end LEq
theorem Cod.ty {cd : Int32} {n : Nat} {f : Nat → Int32} {V : Cell} (h : Cod cd n f V) : Typed .byte V := fun i v hv => by
  have hi : i < V.slots.size := (Array.getElem?_eq_some_iff.mp hv).1
  rcases h with ⟨-, k1, k2⟩ | ⟨-, k1, k2, -⟩
  · rw [(k2 i (by omega)).1] at hv; cases hv; exact fits_lo8 _
  · rcases Nat.mod_two_eq_zero_or_one i with e | e
    · obtain ⟨j, rfl⟩ : ∃ j, i = 2 * j := ⟨i / 2, by omega⟩
      rw [(k2 j (by omega)).1] at hv; cases hv; exact fits_lo8 _
    · obtain ⟨j, rfl⟩ : ∃ j, i = 2 * j + 1 := ⟨i / 2, by omega⟩
      rw [(k2 j (by omega)).2] at hv; cases hv; exact fits_lo8 _
/-- the same text -/
def SameT (n : Nat) (f : Nat → Int32) (k : Nat) (g : Nat → Int32) : Prop := n = k ∧ ∀ j, j < n → f j = g j
theorem lo8_inj {x y : Int32} (h0 : ¬ x < 0) (h1 : ¬ 255 < x) (k0 : ¬ y < 0) (k1 : ¬ 255 < y) (h : lo8 x = lo8 y) : x = y := by
  rw [← lo8_mask h0 h1, ← lo8_mask k0 k1, h]
/-- arrays coded by one coder are equal just where the texts are -/
theorem Cod.eqv {cd : Int32} {n k : Nat} {f g : Nat → Int32} {V V' : Cell} (h : Cod cd n f V) (h' : Cod cd k g V') (hf : ∀ j, j < n → ¬ f j < 0 ∧ ¬ 65535 < f j) (hg : ∀ j, j < k → ¬ g j < 0 ∧ ¬ 65535 < g j) : EqC V V' ↔ SameT n f k g := by
  have yvv : ∀ {W : Cell} {i : Nat} {x : Int32}, W.slots[i]? = some (.int x) → yv W i = x := fun q => by unfold yv; rw [q]
  rcases h with ⟨rfl, k1, k2⟩ | ⟨rfl, k1, k2, -⟩
  · rcases h' with ⟨-, m1, m2⟩ | ⟨e, -⟩
    · constructor
      · rintro ⟨e1, e2⟩
        refine ⟨by omega, fun j hj => ?_⟩
        have q := e2 j (by omega)
        rw [yvv (k2 j hj).1, yvv (m2 j (by omega)).1] at q
        exact lo8_inj (hf j hj).1 (k2 j hj).2 (hg j (by omega)).1 (m2 j (by omega)).2 q
      · rintro ⟨rfl, e2⟩
        refine ⟨by omega, fun j hj => ?_⟩
        rw [yvv (k2 j (by omega)).1, yvv (m2 j (by omega)).1, e2 j (by omega)]
    · exact absurd e (by decide)
  · rcases h' with ⟨e, -⟩ | ⟨-, m1, m2, -⟩
    · exact absurd e (by decide)
    · constructor
      · rintro ⟨e1, e2⟩
        refine ⟨by omega, fun j hj => ?_⟩
        have q1 := e2 (2 * j) (by omega)
        have q2 := e2 (2 * j + 1) (by omega)
        rw [yvv (k2 j hj).1, yvv (m2 j (by omega)).1] at q1
        rw [yvv (k2 j hj).2, yvv (m2 j (by omega)).2] at q2
        rw [← pair_says (hf j hj).1 (hf j hj).2, ← pair_says (hg j (by omega)).1 (hg j (by omega)).2, q1, q2]
      · rintro ⟨rfl, e2⟩
        refine ⟨by omega, fun i hi => ?_⟩
        rcases Nat.mod_two_eq_zero_or_one i with e | e
        · obtain ⟨j, rfl⟩ : ∃ j, i = 2 * j := ⟨i / 2, by omega⟩
          rw [yvv (k2 j (by omega)).1, yvv (m2 j (by omega)).1, e2 j (by omega)]
        · obtain ⟨j, rfl⟩ : ∃ j, i = 2 * j + 1 := ⟨i / 2, by omega⟩
          rw [yvv (k2 j (by omega)).2, yvv (m2 j (by omega)).2, e2 j (by omega)]
/-- two codings differ: so do the texts -/
theorem Cod.dif {cd cd' : Int32} {n k : Nat} {f g : Nat → Int32} {V V' : Cell} (h : Cod cd n f V) (h' : Cod cd' k g V') (hne : ¬ cd = cd') : ¬ SameT n f k g := by
  rintro ⟨rfl, e⟩
  rcases h with ⟨rfl, -, k2⟩ | ⟨rfl, -, -, j, hj, hw⟩
  · rcases h' with ⟨rfl, -⟩ | ⟨-, -, -, j, hj, hw⟩
    · exact hne rfl
    · exact (k2 j hj).2 (by rw [e j hj]; exact hw)
  · rcases h' with ⟨-, -, m2⟩ | ⟨rfl, -⟩
    · exact (m2 j hj).2 (by rw [← e j hj]; exact hw)
    · exact hne rfl
/-- an object of exactly C is an instance of C -/
theorem cinst {p : Program} {l : Launch} {e : Env} {R : Room} {s : State} {m : MethodId} {args : Array Value} {below : List Frame} {meth : Method} {c : Code} {T : State} {locs : List Loc} {cells slots : Nat} (X : Stand p l e R s m args below meth c T locs cells slots) (hexec : p.tables.exec = Jvm.exec) {own C : String} {index : Nat} (hown : s.vm.findClass own = some m.cls) (hlink : (Cond.classLink own index C).before args s = true) {a : Addr} (hE : Exact C a T)
    {g : JFrame} (hg : g.method = m) {rest : List Value} (hstack : g.stack = .ref a :: rest) (hdg : decode c.code g.pc = .ok (.instanceof index, 3)) :
    ∃ T', Stand p l e R s m args below meth c T' locs cells slots ∧ T'.heap = T.heap ∧ ∀ target, Steps p.tables e below (T'.setTop { g with pc := g.pc + 3, stack := .int 1 :: rest }) target → Steps p.tables e below (T.setTop g) target := by
  obtain ⟨cB, h1, D, h2, h3, h4⟩ := hE
  have h1' : s.vm.findClass C = some cB := by rw [← X.warmed.alike.findClass]; exact h1
  obtain ⟨vm', X', st⟩ := X.instanceofYes hexec hown hlink h2 h4 h1' (by rw [h3]; exact Jvm.Free.SB.assignable_self _ _) hg hstack hdg
  exact ⟨_, X', rfl, st⟩
theorem cself {p : Program} {l : Launch} {e : Env} {R : Room} {s : State} {m : MethodId} {args : Array Value} {below : List Frame} {meth : Method} {c : Code} {T : State} {locs : List Loc} {cells slots : Nat} (X : Stand p l e R s m args below meth c T locs cells slots) (hexec : p.tables.exec = Jvm.exec) {own C : String} {index : Nat} (hown : s.vm.findClass own = some m.cls) (hlink : (Cond.classLink own index C).before args s = true) {a : Addr} (hE : Exact C a T)
    {g : JFrame} (hg : g.method = m) {rest : List Value} (hstack : g.stack = .ref a :: rest) (hdg : decode c.code g.pc = .ok (.checkcast index, 3)) :
    ∃ T', Stand p l e R s m args below meth c T' locs cells slots ∧ T'.heap = T.heap ∧ ∀ target, Steps p.tables e below (T'.setTop { g with pc := g.pc + 3, stack := .ref a :: rest }) target → Steps p.tables e below (T.setTop g) target := by
  obtain ⟨cB, h1, D, h2, h3, h4⟩ := hE
  have h1' : s.vm.findClass C = some cB := by rw [← X.warmed.alike.findClass]; exact h1
  obtain ⟨vm', X', st⟩ := X.checkcastYes hexec hown hlink h2 h4 h1' (by rw [h3]; exact Jvm.Free.SB.assignable_self _ _) hg hstack hdg
  exact ⟨_, X', rfl, fun t h => st t (by rw [← hstack] at h; exact h)⟩
namespace SEq
def yN : MethodName := ⟨"java/lang/String", "equals", "(Ljava/lang/Object;)Z"⟩
abbrev yB : ByteArray := jdk_42_method_66_code
theorem d0 : decode yB 0 = .ok (.aload_n 0, 1) := by decide +kernel
theorem d1 : decode yB 1 = .ok (.aload_n 1, 1) := by decide +kernel
theorem d2 : decode yB 2 = .ok (.if_acmp (.ne) 5, 3) := by decide +kernel
theorem d5 : decode yB 5 = .ok (.iconst 1, 1) := by decide +kernel
theorem d6 : decode yB 6 = .ok (.ireturn, 1) := by decide +kernel
theorem d7 : decode yB 7 = .ok (.aload_n 1, 1) := by decide +kernel
theorem d8 : decode yB 8 = .ok (.instanceof 10, 3) := by decide +kernel
theorem d11 : decode yB 11 = .ok (.ifCond (.eq) 43, 3) := by decide +kernel
theorem d14 : decode yB 14 = .ok (.aload_n 1, 1) := by decide +kernel
theorem d15 : decode yB 15 = .ok (.checkcast 10, 3) := by decide +kernel
theorem d18 : decode yB 18 = .ok (.astore_n 2, 1) := by decide +kernel
theorem d19 : decode yB 19 = .ok (.getstatic 38, 3) := by decide +kernel
theorem d22 : decode yB 22 = .ok (.ifCond (.eq) 14, 3) := by decide +kernel
theorem d25 : decode yB 25 = .ok (.aload_n 0, 1) := by decide +kernel
theorem d26 : decode yB 26 = .ok (.getfield 15, 3) := by decide +kernel
theorem d29 : decode yB 29 = .ok (.aload_n 2, 1) := by decide +kernel
theorem d30 : decode yB 30 = .ok (.getfield 15, 3) := by decide +kernel
theorem d33 : decode yB 33 = .ok (.if_icmp (.ne) 21, 3) := by decide +kernel
theorem d36 : decode yB 36 = .ok (.aload_n 0, 1) := by decide +kernel
theorem d37 : decode yB 37 = .ok (.getfield 9, 3) := by decide +kernel
theorem d40 : decode yB 40 = .ok (.aload_n 2, 1) := by decide +kernel
theorem d41 : decode yB 41 = .ok (.getfield 9, 3) := by decide +kernel
theorem d44 : decode yB 44 = .ok (.invokestatic 541, 3) := by decide +kernel
theorem d47 : decode yB 47 = .ok (.ifCond (.eq) 7, 3) := by decide +kernel
theorem d50 : decode yB 50 = .ok (.iconst 1, 1) := by decide +kernel
theorem d51 : decode yB 51 = .ok (.goto 4, 3) := by decide +kernel
theorem d54 : decode yB 54 = .ok (.iconst 0, 1) := by decide +kernel
theorem d55 : decode yB 55 = .ok (.ireturn, 1) := by decide +kernel
def site : List Cond := [.classLink "java/lang/String" 10 "java/lang/String", .fieldLink "java/lang/String" 38 "java/lang/String" "COMPACT_STRINGS" "Z", .fieldLink "java/lang/String" 15 "java/lang/String" "coder" "B", .fieldLink "java/lang/String" 9 "java/lang/String" "value" "[B", LEq.tab] ++ staticW "java/lang/String" 541 LEq.yN
def tab : Cond := tabOf yN yB 3 (some .boolean) site
def P (x t : Addr) (V : Cell) (cd : Int32) (n : Nat) (f : Nat → Int32) (y t' : Addr) (V' : Cell) (cd' : Int32) (k : Nat) (g : Nat → Int32) (z : Int32) (args : Array Value) (s : State) : Prop := args = #[.ref x, .ref y] ∧ Txt x t V cd n f s ∧ Txt y t' V' cd' k g s ∧ StaticIs s "java/lang/String" "COMPACT_STRINGS" "Z" (.int z) ∧ ¬ z = 0
/-- equals(Object) of two Strings: whether the texts are the same -/
theorem law (l : Launch) (x t : Addr) (V : Cell) (cd : Int32) (n : Nat) (f : Nat → Int32) (y t' : Addr) (V' : Cell) (cd' : Int32) (k : Nat) (g : Nat → Int32) (z : Int32) : Law l yN 2 1 1 14 yB 3 (some .boolean) site (P x t V cd n f y t' V' cd' k g z) (Says01 (SameT n f k g)) [] 0 0 := by
  refine Law.of_walk (plainFor_of_name (by decide +kernel)) (by decide +kernel) (by decide +kernel) (by decide) (fun _ _ h => by rw [h.1]; rfl) (fun _ U U' hal hh h => ⟨h.1, h.2.1.mv hal hh, h.2.2.1.mv hal hh, h.2.2.2.1.there hal hh, h.2.2.2.2⟩) (fun r U U' V V' h1 hal h2 h => Says01.mv r U U' V V' h1 hal h2 h) ?_
  intro p e s m args below meth c s₁ X0 hexec hbytes hml hret hlk hnm hown hh0 W hP
  obtain ⟨rfl, hx, hy, s1, hz⟩ := hP
  have c1 : Steps p.tables e below (s₁.setTop (entryFrame m #[.ref x, .ref y] 3)) (s₁.setTop (mkF m 2 #[.val (.ref x), .val (.ref y), .unset] [.ref y, .ref x])) := Steps.trans (entry rfl) (by
    show Steps p.tables e below (s₁.setTop (mkF m 0 #[.val (.ref x), .val (.ref y), .unset] [])) _
    refine XS.aloadN X0.here hexec rfl (hb hbytes d0) rfl rfl ?_
    refine XS.aloadN X0.here hexec rfl (hb hbytes d1) rfl rfl ?_
    exact Steps.refl _)
  by_cases hxy : x = y
  · have c2 : Steps p.tables e below (s₁.setTop (entryFrame m #[.ref x, .ref y] 3)) (s₁.setTop (mkF m 6 #[.val (.ref x), .val (.ref y), .unset] [.int 1])) := c1.trans (by
      refine acmpNo X0.here hexec rfl (hb hbytes d2) rfl rfl rfl (by simp [acmp, hxy]) ?_
      refine iconstV X0.here hexec rfl 1 (hb hbytes d5) (by decide) ?_
      exact Steps.refl _)
    subst hxy
    have ec : cd = cd' := by
      obtain ⟨D, fd, a1, a2, a3⟩ := hx.2.2.1
      obtain ⟨D', fd', b1, b2, b3⟩ := hy.2.2.1
      cases a1.symm.trans b1
      obtain ⟨q1, q2, q3, q4⟩ := a2.1
      obtain ⟨r1, r2, r3, r4⟩ := b2.1
      cases q4.symm.trans r4
      cases a3.symm.trans b3; rfl
    have et : t = t' := by
      obtain ⟨D, fd, a1, a2, a3⟩ := hx.2.1
      obtain ⟨D', fd', b1, b2, b3⟩ := hy.2.1
      cases a1.symm.trans b1
      obtain ⟨q1, q2, q3, q4⟩ := a2.1
      obtain ⟨r1, r2, r3, r4⟩ := b2.1
      cases q4.symm.trans r4
      cases a3.symm.trans b3; rfl
    subst ec et
    have ev : V = V' := by cases hx.2.2.2.1.1.symm.trans hy.2.2.2.1.1; rfl
    subst ev
    have hs : SameT n f k g := (Cod.eqv hx.2.2.2.2.1 hy.2.2.2.2.1 hx.2.2.2.2.2 hy.2.2.2.2.2).mp ⟨rfl, fun _ _ => rfl⟩
    exact ⟨s₁, some (.int 1), _, _, _, X0, rfl, rfl, rfl, (fun h => by cases h), ⟨1, rfl, hh0, Or.inl ⟨rfl, hs⟩⟩, fun fs hl => c2.trans (X0.ireturnOut hexec hret rfl (Or.inr (Or.inl rfl)) (hb hbytes d6) hl)⟩
  · have c2 : Steps p.tables e below (s₁.setTop (entryFrame m #[.ref x, .ref y] 3)) (s₁.setTop (mkF m 8 #[.val (.ref x), .val (.ref y), .unset] [.ref y])) := c1.trans (by
      refine acmpYes X0.here hexec rfl (pc0 := 2) rfl (hb hbytes d2) rfl rfl rfl (by simp [acmp, hxy]) (by decide) rfl ?_
      refine XS.aloadN X0.here hexec rfl (hb hbytes d7) rfl rfl ?_
      exact Steps.refl _)
    obtain ⟨T3, X3, q3, st3⟩ := cinst X0 hexec hown (wk W (.classLink "java/lang/String" 10 "java/lang/String")) (hy.mv X0.warmed.alike hh0).1 (g := (mkF m 8 #[.val (.ref x), .val (.ref y), .unset] [.ref y])) rfl (rest := []) rfl (hb hbytes d8)
    have hh3 := q3.trans hh0
    have c4 : Steps p.tables e below (s₁.setTop (entryFrame m #[.ref x, .ref y] 3)) (T3.setTop (mkF m 15 #[.val (.ref x), .val (.ref y), .unset] [.ref y])) := (c2.trans (st3 _ (Steps.refl _))).trans (by
      refine XS.ifNo X3.here hexec rfl (hb hbytes d11) rfl (i0_eq_f (by decide)) ?_
      refine XS.aloadN X3.here hexec rfl (hb hbytes d14) rfl rfl ?_
      exact Steps.refl _)
    obtain ⟨T5, X5, q5, st5⟩ := cself X3 hexec hown (wk W (.classLink "java/lang/String" 10 "java/lang/String")) (hy.mv X3.warmed.alike hh3).1 (g := (mkF m 15 #[.val (.ref x), .val (.ref y), .unset] [.ref y])) rfl (rest := []) rfl (hb hbytes d15)
    have hh5 := q5.trans hh3
    have c6 : Steps p.tables e below (s₁.setTop (entryFrame m #[.ref x, .ref y] 3)) (T5.setTop (mkF m 19 #[.val (.ref x), .val (.ref y), .val (.ref y)] [])) := (c4.trans (st5 _ (Steps.refl _))).trans (by
      refine XS.astoreN X5.here hexec rfl (hb hbytes d18) rfl rfl rfl ?_
      exact Steps.refl _)
    obtain ⟨T7, X7, q7, st7⟩ := X5.sget hexec hown (wk W (.fieldLink "java/lang/String" 38 "java/lang/String" "COMPACT_STRINGS" "Z")) s1 (fun _ _ h => by rw [hh5]; exact h) (g := (mkF m 19 #[.val (.ref x), .val (.ref y), .val (.ref y)] [])) rfl (hb hbytes d19)
    have hh7 := q7.trans hh5
    have c8 : Steps p.tables e below (s₁.setTop (entryFrame m #[.ref x, .ref y] 3)) (T7.setTop (mkF m 26 #[.val (.ref x), .val (.ref y), .val (.ref y)] [.ref x])) := (c6.trans (st7 _ (Steps.refl _))).trans (by
      refine XS.ifNo X7.here hexec rfl (hb hbytes d22) rfl (i0_eq_f hz) ?_
      refine XS.aloadN X7.here hexec rfl (hb hbytes d25) rfl rfl ?_
      exact Steps.refl _)
    obtain ⟨T9, X9, q9, st9⟩ := X7.hget hexec hown (wk W (.fieldLink "java/lang/String" 15 "java/lang/String" "coder" "B")) (hx.mv X7.warmed.alike hh7).2.2.1 (g := (mkF m 26 #[.val (.ref x), .val (.ref y), .val (.ref y)] [.ref x])) rfl (rest := []) rfl (hb hbytes d26)
    have hh9 := q9.trans hh7
    have c10 : Steps p.tables e below (s₁.setTop (entryFrame m #[.ref x, .ref y] 3)) (T9.setTop (mkF m 30 #[.val (.ref x), .val (.ref y), .val (.ref y)] [.ref y, .int cd])) := (c8.trans (st9 _ (Steps.refl _))).trans (by
      refine XS.aloadN X9.here hexec rfl (hb hbytes d29) rfl rfl ?_
      exact Steps.refl _)
    obtain ⟨T11, X11, q11, st11⟩ := X9.hget hexec hown (wk W (.fieldLink "java/lang/String" 15 "java/lang/String" "coder" "B")) (hy.mv X9.warmed.alike hh9).2.2.1 (g := (mkF m 30 #[.val (.ref x), .val (.ref y), .val (.ref y)] [.ref y, .int cd])) rfl (rest := [.int cd]) rfl (hb hbytes d30)
    have hh11 := q11.trans hh9
    have c12 : Steps p.tables e below (s₁.setTop (entryFrame m #[.ref x, .ref y] 3)) (T11.setTop (mkF m 33 #[.val (.ref x), .val (.ref y), .val (.ref y)] [.int cd', .int cd])) := c10.trans (st11 _ (Steps.refl _))
    by_cases hcd : cd = cd'
    · subst hcd
      have c13 : Steps p.tables e below (s₁.setTop (entryFrame m #[.ref x, .ref y] 3)) (T11.setTop (mkF m 37 #[.val (.ref x), .val (.ref y), .val (.ref y)] [.ref x])) := c12.trans (by
        refine XS.icmpNo X11.here hexec rfl (hb hbytes d33) rfl (ii_ne_f rfl) ?_
        refine XS.aloadN X11.here hexec rfl (hb hbytes d36) rfl rfl ?_
        exact Steps.refl _)
      obtain ⟨T14, X14, q14, st14⟩ := X11.hget hexec hown (wk W (.fieldLink "java/lang/String" 9 "java/lang/String" "value" "[B")) (hx.mv X11.warmed.alike hh11).2.1 (g := (mkF m 37 #[.val (.ref x), .val (.ref y), .val (.ref y)] [.ref x])) rfl (rest := []) rfl (hb hbytes d37)
      have hh14 := q14.trans hh11
      have c15 : Steps p.tables e below (s₁.setTop (entryFrame m #[.ref x, .ref y] 3)) (T14.setTop (mkF m 41 #[.val (.ref x), .val (.ref y), .val (.ref y)] [.ref y, .ref t])) := (c13.trans (st14 _ (Steps.refl _))).trans (by
        refine XS.aloadN X14.here hexec rfl (hb hbytes d40) rfl rfl ?_
        exact Steps.refl _)
      obtain ⟨T16, X16, q16, st16⟩ := X14.hget hexec hown (wk W (.fieldLink "java/lang/String" 9 "java/lang/String" "value" "[B")) (hy.mv X14.warmed.alike hh14).2.1 (g := (mkF m 41 #[.val (.ref x), .val (.ref y), .val (.ref y)] [.ref y, .ref t])) rfl (rest := [.ref t]) rfl (hb hbytes d41)
      have hh16 := q16.trans hh14
      have c17 : Steps p.tables e below (s₁.setTop (entryFrame m #[.ref x, .ref y] 3)) (T16.setTop (mkF m 44 #[.val (.ref x), .val (.ref y), .val (.ref y)] [.ref t', .ref t])) := c15.trans (st16 _ (Steps.refl _))
      obtain ⟨v18, T18, X18, E18, g18⟩ := X16.callS hexec (LEq.law l t V t' V') hown (wks W (staticW "java/lang/String" 541 LEq.yN)) (wk W LEq.tab) (W := 0) (Nat.le_of_ble_eq_true rfl) (Nat.le_of_ble_eq_true rfl) (Nat.le_refl _) (Nat.le_refl _) (g := (mkF m 44 #[.val (.ref x), .val (.ref y), .val (.ref y)] [.ref t', .ref t])) rfl (by rw [hml]; rfl) c17 (argsL := [.ref t, .ref t']) (rest := []) rfl rfl (by show 2 * 0 + 0 ≤ _; decide) (hb hbytes d44) (⟨rfl, hx.2.2.2.1.mv X16.warmed.alike hh16, hx.2.2.2.2.1.ty, hy.2.2.2.1.mv X16.warmed.alike hh16, hy.2.2.2.2.1.ty⟩)
      obtain ⟨v, rfl, q18, hv⟩ := E18
      have iff := Cod.eqv hx.2.2.2.2.1 hy.2.2.2.2.1 hx.2.2.2.2.2 hy.2.2.2.2.2
      rcases hv with ⟨rfl, he⟩ | ⟨rfl, he⟩
      · have c19 : Steps p.tables e below (s₁.setTop (entryFrame m #[.ref x, .ref y] 3)) (T18.setTop (mkF m 55 #[.val (.ref x), .val (.ref y), .val (.ref y)] [.int 1])) := Steps.trans g18 (by
          refine XS.ifNo X18.here hexec rfl (hb hbytes d47) rfl (i0_eq_f (by decide)) ?_
          refine iconstV X18.here hexec rfl 1 (hb hbytes d50) (by decide) ?_
          refine XS.goto X18.here hexec rfl (pc0 := 51) rfl (hb hbytes d51) (by decide) rfl ?_
          exact Steps.refl _)
        exact ⟨T18, some (.int 1), _, _, _, X18, rfl, rfl, rfl, (fun h => by cases h), ⟨1, rfl, q18.trans hh16, Or.inl ⟨rfl, iff.mp he⟩⟩, fun fs hl => c19.trans (X18.ireturnOut hexec hret rfl (Or.inr (Or.inl rfl)) (hb hbytes d55) hl)⟩
      · have c19 : Steps p.tables e below (s₁.setTop (entryFrame m #[.ref x, .ref y] 3)) (T18.setTop (mkF m 55 #[.val (.ref x), .val (.ref y), .val (.ref y)] [.int 0])) := Steps.trans g18 (by
          refine XS.ifYes X18.here hexec rfl (pc0 := 47) rfl (hb hbytes d47) rfl (i0_eq_t rfl) (by decide) rfl ?_
          refine iconstV X18.here hexec rfl 0 (hb hbytes d54) (by decide) ?_
          exact Steps.refl _)
        exact ⟨T18, some (.int 0), _, _, _, X18, rfl, rfl, rfl, (fun h => by cases h), ⟨0, rfl, q18.trans hh16, Or.inr ⟨rfl, fun q => he (iff.mpr q)⟩⟩, fun fs hl => c19.trans (X18.ireturnOut hexec hret rfl (Or.inr (Or.inl rfl)) (hb hbytes d55) hl)⟩
    · have c13 : Steps p.tables e below (s₁.setTop (entryFrame m #[.ref x, .ref y] 3)) (T11.setTop (mkF m 55 #[.val (.ref x), .val (.ref y), .val (.ref y)] [.int 0])) := c12.trans (by
        refine XS.icmpYes X11.here hexec rfl (pc0 := 33) rfl (hb hbytes d33) rfl (ii_ne_t hcd) (by decide) rfl ?_
        refine iconstV X11.here hexec rfl 0 (hb hbytes d54) (by decide) ?_
        exact Steps.refl _)
      exact ⟨T11, some (.int 0), _, _, _, X11, rfl, rfl, rfl, (fun h => by cases h), ⟨0, rfl, hh11, Or.inr ⟨rfl, Cod.dif hx.2.2.2.2.1 hy.2.2.2.2.1 hcd⟩⟩, fun fs hl => c13.trans (X11.ireturnOut hexec hret rfl (Or.inr (Or.inl rfl)) (hb hbytes d55) hl)⟩
theorem pays {l : Launch} {R : Room} {p : Program} {e : Env} {below : List Frame} {s : State} {sargs : Array Value} {len W : Nat} (x t : Addr) (V : Cell) (cd : Int32) (n : Nat) (f : Nat → Int32) (y t' : Addr) (V' : Cell) (cd' : Int32) (k : Nat) (g : Nat → Int32) (z : Int32) (htab : tab.before sargs s = true) (hfr : 2 ≤ R.frames) (hlo : W + 28 ≤ R.locals) :
    Back l R p e below s sargs yN len W (fun A₁ a₁ => A₁.cells + 0 ≤ R.cells ∧ A₁.slots + 0 ≤ R.slots ∧ P x t V cd n f y t' V' cd' k g z a₁ A₁.U) (fun A₁ _ v₁ B₁ => Says01 (SameT n f k g) v₁ A₁.U B₁.U ∧ B₁.locs = A₁.locs ++ [] ∧ B₁.cells = A₁.cells + 0 ∧ B₁.slots = A₁.slots + 0) :=
  (law l x t V cd n f y t' V' cd' k g z).pays htab hfr (by omega)
end SEq
end StrChars
namespace StrChars.Road
open Jvm Sem ClassFile Op Lib Jvm.Stand Jvm.Free Jvm.Free.XT
open Jvm.Lib.Cold (StaticIs)
/-- the words of String.equals(Object) -/
abbrev wordsEq : List Jvm.Cond := [.code SEq.yN SEq.yB 3 (some .boolean), .initialized ST, .classLink ST 10 ST, .fieldLink ST 38 ST "COMPACT_STRINGS" "Z", .fieldLink ST 15 ST "coder" "B", .fieldLink ST 9 ST "value" "[B", .methodLink ST 541 LEq.yN, .static LEq.yN, .code LEq.yN LEq.yB 3 (some .boolean), .initialized "java/lang/StringLatin1"]
theorem tabEq_of {a : Array Value} {s : State} (h : ∀ w ∈ wordsEq, w.before a s = true) : SEq.tab.before a s = true := by
  have hl : LEq.tab.before a s = true := unparts (wk h (.code LEq.yN LEq.yB 3 (some .boolean))) (wks h (.initialized LEq.yN.cls :: LEq.site))
  have q := consq hl h
  exact unparts (wk q (.code SEq.yN SEq.yB 3 (some .boolean))) (wks q (.initialized SEq.yN.cls :: SEq.site))
theorem movedEq {Z s : State} {a0 args : Array Value} (hZ : Z.Warmed39 s.vm) (hw : ∀ d ∈ wordsEq, d.before a0 Z = true) : ∀ d ∈ wordsEq, d.before args s = true := fun d hd => by
  have t : ∀ d ∈ wordsEq, (d.onTables && d.keepsFace) = true := by decide +kernel
  exact RoadKit.mv hZ (hw d hd) (t d hd)
/-- the road's facts of a String, as the laws ask it -/
theorem txt_of {Z U : State} {a0 : Array Value} {kI : Nat} (wi : (Jvm.Cond.instantiable ST kI).before a0 Z = true) (al : Z.vm.Alike U.vm) {x t : Addr} {kb : ClassId} {cs : List Int32} {cd N2 : Int32} {vs : List Value} (E : RoadKit.Exa Z U.heap x ST) (V : RoadKit.Fld Z U.heap x ST "value" "[B" (.ref t)) (C : RoadKit.Fld Z U.heap x ST "coder" "B" (.int cd)) (K : RoadKit.Arv Z U.heap t kb .byte N2 vs (.int 0)) (hc : CodA cs cd N2 vs) (hb : ∀ c ∈ cs, ¬ c < 0 ∧ ¬ (65535 : Int32) < c) (l2 : cs.length ≤ 4000) :
    ∃ A, Txt x t A cd cs.length (fun j => cs.getD j 0) U := by
  obtain ⟨A, K1, K2, K3, K4, K5, K6⟩ := K
  have hcod := hc.cod (by omega) K3 K5
  obtain ⟨D, fV, fC, hB, F1, F2, g1, g2, -, -⟩ := strObj wi al E V C
  exact ⟨A, ⟨_, hB.2.2.1, D, hB.1, rfl, by cases q : D.vm <;> first | rfl | exact absurd q (hB.2.1.2 _)⟩, Has.of hB F1 g1, Has.of hB F2 g2, ⟨K1.1, State.isArrayOf_alike al K1.2.1, K1.2.2, by rcases hcod with ⟨-, q, -⟩ | ⟨-, q, -⟩ <;> omega⟩, hcod, fun j hj => by
    have e : cs.getD j 0 = cs[j] := by simp [List.getD_eq_getElem?_getD, hj]
    show ¬ cs.getD j 0 < 0 ∧ ¬ 65535 < cs.getD j 0
    rw [e]; exact hb _ (List.getElem_mem _)⟩
theorem same_list (cs ds : List Int32) : SameT cs.length (fun j => cs.getD j 0) ds.length (fun j => ds.getD j 0) ↔ cs = ds := by
  constructor
  · rintro ⟨e, q⟩
    refine List.ext_getElem e fun j h1 h2 => ?_
    have := q j h1
    simpa [List.getD_eq_getElem?_getD, h1, h2] using this
  · rintro rfl
    exact ⟨rfl, fun _ _ => rfl⟩
/-- **equals(Object) OF TWO SUCH STRINGS**: 1 just where the chars are the same -/
theorem eqW {p : Program} {l : Launch} {e : Env} {R : Room} {s : State} {args : Array Value} {below : List Frame} {len W : Nat} {Z : State} {a0 : Array Value} {h : Heap} (hZ : Z.Warmed39 s.vm) (hw : ∀ d ∈ wordsEq, d.before a0 Z = true) {kI : Nat} (wi : (Jvm.Cond.instantiable ST kI).before a0 Z = true)
    {x t : Addr} {kb : ClassId} {cs : List Int32} {cd N2 : Int32} {vs : List Value} (E : RoadKit.Exa Z h x ST) (V : RoadKit.Fld Z h x ST "value" "[B" (.ref t)) (C : RoadKit.Fld Z h x ST "coder" "B" (.int cd)) (K : RoadKit.Arv Z h t kb .byte N2 vs (.int 0)) (hc : CodA cs cd N2 vs) (hb : ∀ c ∈ cs, ¬ c < 0 ∧ ¬ (65535 : Int32) < c) (l2 : cs.length ≤ 4000)
    {y t' : Addr} {kb' : ClassId} {ds : List Int32} {cd' N2' : Int32} {vs' : List Value} (E' : RoadKit.Exa Z h y ST) (V' : RoadKit.Fld Z h y ST "value" "[B" (.ref t')) (C' : RoadKit.Fld Z h y ST "coder" "B" (.int cd')) (K' : RoadKit.Arv Z h t' kb' .byte N2' vs' (.int 0)) (hc' : CodA ds cd' N2' vs') (hb' : ∀ c ∈ ds, ¬ c < 0 ∧ ¬ (65535 : Int32) < c) (l2' : ds.length ≤ 4000)
    {z : Int32} (S : RoadKit.Sta Z h ST "COMPACT_STRINGS" "Z" (.int z)) (hz : ¬ z = 0) (hfr : 2 ≤ R.frames) (hlo : W + 28 ≤ R.locals) :
    Back l R p e below s args (⟨"java/lang/String", "equals", "(Ljava/lang/Object;)Z"⟩ : MethodName) len W (fun P a => a = #[.ref x, .ref y] ∧ P.U.heap = h ∧ P.cells + 0 ≤ R.cells ∧ P.slots + 0 ≤ R.slots)
      (fun P _ v B => ∃ L, (((v = some (.int 1) ∧ cs = ds) ∨ (v = some (.int 0) ∧ ¬ cs = ds)) ∧ L = [] ∧ B.U.heap = h) ∧ B.locs = P.locs ++ L ∧ B.cells = P.cells + 0 ∧ B.slots = P.slots + 0) := by
  intro m meth c P g ig mk a X hg hsize hdg hW hn hp'
  obtain ⟨rfl, rfl, r1, r2⟩ := hp'
  have al : Z.vm.Alike P.U.vm := hZ.alike.trans X.warmed.alike
  obtain ⟨A, hx⟩ := txt_of wi al E V C K hc hb l2
  obtain ⟨A', hy⟩ := txt_of wi al E' V' C' K' hc' hb' l2'
  obtain ⟨v, B, X', ⟨⟨w, hv, hh, hq⟩, hl, hk, hs⟩, st⟩ := SEq.pays x t A cd cs.length (fun j => cs.getD j 0) y t' A' cd' ds.length (fun j => ds.getD j 0) z (tabEq_of (movedEq hZ hw)) hfr hlo m meth c P g ig mk _ X hg hsize hdg hW hn ⟨r1, r2, rfl, hx, hy, sta_is al S, hz⟩
  refine ⟨v, B, X', ⟨[], ⟨?_, rfl, hh⟩, hl, hk, hs⟩, st⟩
  rcases hq with ⟨rfl, q⟩ | ⟨rfl, q⟩
  · exact Or.inl ⟨hv, (same_list cs ds).mp q⟩
  · exact Or.inr ⟨hv, fun e => q ((same_list cs ds).mpr e)⟩
end StrChars.Road
end Jvm.Pilot.@@N@@

namespace Jvm.Pilot.@@N@@
theorem gm {α : Type} {l : List α} {a : α} (i : Nat) (h : l[i]? = some a) : a ∈ l := List.mem_of_getElem? h
end Jvm.Pilot.@@N@@
namespace Jvm.Pilot.@@N@@
namespace OK
open Jvm Jvm.ClassFile Sem Op Lib Bundle Jvm.Stand Jvm.Free Jvm.LawKit Jvm.RoadKit
/-! own layer: one predicate for "the walk stands here" (Wk), one for the goal (Go), one for contracts (Ct narrow, Cw wide) -/
def Go (p : Program) (e : Env) (below : List Frame) (Fin : State → Outcome → Prop) (U : State) : Prop := ∃ t o, Steps p.tables e below U t ∧ t.status = .running ∧ Ended t below o ∧ Fin t o
theorem Go.by {p : Program} {e : Env} {below : List Frame} {Fin : State → Outcome → Prop} {U U' : State} (st : ∀ t, Steps p.tables e below U' t → Steps p.tables e below U t) (k : Go p e below Fin U') : Go p e below Fin U := by
  obtain ⟨t, o, h1, h2⟩ := k
  exact ⟨t, o, st _ h1, h2⟩
theorem Go.tr {p : Program} {e : Env} {below : List Frame} {Fin : State → Outcome → Prop} {U U' : State} (st : Steps p.tables e below U U') (k : Go p e below Fin U') : Go p e below Fin U := by
  obtain ⟨t, o, h1, h2⟩ := k
  exact ⟨t, o, st.trans h1, h2⟩
def Cst (p : Program) (meth : Method) (c : Code) (y : MethodName) (bytes : ByteArray) (maxL : Nat) (ret : Option FieldType) : Prop := p.tables.exec = Jvm.exec ∧ c.code = bytes ∧ c.maxLocals = maxL ∧ meth.name = y.name ∧ meth.sig.returnType = ret ∧ meth.locks = false
def Sfs (Z : State) (EL : List (String × Nat)) (n0 : Nat) (vm : Vm) (h : Heap) (sf : List Addr) : Prop := ∀ x ∈ sf, n0 ≤ x ∧ x < h.size ∧ Safe Z EL vm h x
theorem Sfs.go {Z : State} {EL : List (String × Nat)} {n0 : Nat} {vm vm1 : Vm} {h h' : Heap} {sf : List Addr} (S : Sfs Z EL n0 vm h sf) (D : CHr Z EL vm h vm1 h') : Sfs Z EL n0 vm1 h' sf := fun x hx =>
  ⟨(S x hx).1, Nat.lt_of_lt_of_le (S x hx).2.1 D.2.1, D.safe (S x hx).2.1 (S x hx).2.2⟩
def Ende (b : Bool) (s : State) (o : Outcome) (t : State) (L : List Loc) (k n : Nat) : Prop := match b with | true => ReturnedEndW s o t L k n | false => FrameEnd s o t L k n
def Wk (b : Bool) (p : Program) (l : Launch) (e : Env) (R : Room) (s : State) (m : MethodId) (args : Array Value) (below : List Frame) (meth : Method) (c : Code) (Z : State) (EL : List (String × Nat)) (y : MethodName) (bytes : ByteArray) (maxL : Nat) (ret : Option FieldType) (n0 : Nat) (h0 : Heap) (T : State) (h : Heap) (sf : List Addr) (cells slots : Nat) : Prop :=
  ∃ (vm0 : Vm) (k0 : Nat) (locs : List Loc) (a0 : Array Value), Stand p l e R (s.setVm vm0) m args below meth c T locs cells slots ∧ T.heap = h ∧ (b = false → vm0 = s.vm) ∧ s.Since vm0 k0 ∧ k0 ≤ h.size ∧ Z.Warmed39 vm0 ∧ vm0.findClass y.cls = some m.cls ∧ Fr n0 locs ∧ CHr Z EL s.vm h0 vm0 h ∧ Sfs Z EL n0 vm0 h sf ∧ EW Z a0 EL ∧ Old Z n0 h ∧ Cst p meth c y bytes maxL ret
def Fi (b : Bool) (R : Room) (s : State) (Z : State) (EL : List (String × Nat)) (n0 : Nat) (h0 : Heap) (ws : List Addr) (Q : Option Value → Heap → Prop) (t : State) (o : Outcome) : Prop :=
  ∃ v L, o = .returned v ∧ Keep h0 t.heap ws ∧ Q v t.heap ∧ Fr n0 L ∧ CHr Z EL s.vm h0 t.vm t.heap ∧ Ende b s o t L R.cells R.slots
section Walk
variable {b : Bool} {p : Program} {l : Launch} {e : Env} {R : Room} {s : State} {m : MethodId} {args : Array Value} {below : List Frame} {meth : Method} {c : Code} {Z : State} {EL : List (String × Nat)} {y : MethodName} {bytes : ByteArray} {maxL : Nat} {ret : Option FieldType} {n0 : Nat} {h0 : Heap} {T : State} {h h' : Heap} {sf ws : List Addr} {cells slots : Nat} {a0 : Array Value} {Q : Option Value → Heap → Prop}
theorem Wk.here (X : Wk b p l e R s m args below meth c Z EL y bytes maxL ret n0 h0 T h sf cells slots) : At T m c below := by obtain ⟨_, _, _, _, X, -⟩ := X; exact X.here
theorem Wk.cst (X : Wk b p l e R s m args below meth c Z EL y bytes maxL ret n0 h0 T h sf cells slots) : Cst p meth c y bytes maxL ret := by obtain ⟨_, _, _, _, _, _, _, _, _, _, _, _, _, _, _, _, C⟩ := X; exact C
theorem Wk.hx (X : Wk b p l e R s m args below meth c Z EL y bytes maxL ret n0 h0 T h sf cells slots) : p.tables.exec = Jvm.exec := X.cst.1
theorem Wk.cd (X : Wk b p l e R s m args below meth c Z EL y bytes maxL ret n0 h0 T h sf cells slots) {pc : Nat} {r : Except DecodeError (Instr × Nat)} (d : decode bytes pc = r) : decode c.code pc = r := by rw [X.cst.2.1]; exact d
theorem Wk.old (X : Wk b p l e R s m args below meth c Z EL y bytes maxL ret n0 h0 T h sf cells slots) : Old Z n0 h := by obtain ⟨_, _, _, _, _, _, _, _, _, _, _, _, _, _, _, O, -⟩ := X; exact O
theorem Wk.nle (X : Wk b p l e R s m args below meth c Z EL y bytes maxL ret n0 h0 T h sf cells slots) : n0 ≤ h.size := by have := X.old; rw [← this.1]; exact this.2.1
theorem Wk.sz (X : Wk b p l e R s m args below meth c Z EL y bytes maxL ret n0 h0 T h sf cells slots) : h0.size ≤ h.size := by obtain ⟨_, _, _, _, _, _, _, _, _, _, _, _, A, -⟩ := X; exact A.2.1
theorem Wk.ge (X : Wk b p l e R s m args below meth c Z EL y bytes maxL ret n0 h0 T h sf cells slots) {x : Addr} (hx : x ∈ sf) : n0 ≤ x := by obtain ⟨_, _, _, _, _, _, _, _, _, _, _, _, _, S, -⟩ := X; exact (S x hx).1
theorem Wk.lt (X : Wk b p l e R s m args below meth c Z EL y bytes maxL ret n0 h0 T h sf cells slots) {x : Addr} (hx : x ∈ sf) : x < h.size := by obtain ⟨_, _, _, _, _, _, _, _, _, _, _, _, _, S, -⟩ := X; exact (S x hx).2.1
theorem Sfs.new {vm0 : Vm} {a : Addr} (S : Sfs Z EL n0 vm0 h sf) (H : CHv Z EL vm0 h) (E : Ext h h') (hn : n0 ≤ h.size) (ha : a = h.size) (hl : a < h'.size) : Sfs Z EL n0 vm0 h' (a :: sf) := fun z hz => by
  subst ha
  rcases List.mem_cons.mp hz with rfl | hz
  · exact ⟨hn, hl, Safe.ext E H (Safe.new (Nat.le_refl _))⟩
  · exact (S.go (CHr.ext E H)) z hz
/-! ### the end -/
theorem Wk.fin (X : Wk b p l e R s m args below meth c Z EL y bytes maxL ret n0 h0 T h sf cells slots) {v : Option Value} (hv : ret = none → v = none) (K : Keep h0 h ws) (q : Q v h) (hc : cells ≤ R.cells) (hs : slots ≤ R.slots) {U : State}
    (st : ∀ fs, (∀ (f : JFrame) (acts : List Action), f.method = m → f.locked = none → f.entered = [] → (doReturn e (T.setTop f) acts v).1 = T.setFrames fs) → Steps p.tables e below U (T.setFrames fs)) : Go p e below (Fi b R s Z EL n0 h0 ws Q) U := by
  obtain ⟨vm0, k0, locs, a0, x1, rfl, x3, x4, x5, x6, x7, x8, x9, x10, x11, x12, C⟩ := X
  obtain ⟨c1, c2, c3, c4, c5, c6⟩ := C
  have A := x9.trans (CHv.at x1 x6 x11 x9.1)
  cases b with
  | true =>
    obtain ⟨fs, r1, r2, r3, r4⟩ := x1.leaveW x4 x5 (v := v) (fun q => hv (c5.symm.trans q)) c6
    exact ⟨_, _, st fs r1, r2, r3, v, locs, rfl, K, q, x8, A, r4.1, r4.2.1, r4.2.2.1, r4.2.2.2.mono hc hs⟩
  | false =>
    obtain rfl := x3 rfl
    obtain ⟨fs, r1, r2, r3, r4, r5⟩ := x1.leave (v := v) (fun q => hv (c5.symm.trans q)) c6
    exact ⟨_, _, st fs r1, r2, r3, v, locs, rfl, K, q, x8, A, ⟨_, rfl⟩, r4, r5.mono hc hs⟩
theorem Wk.retV (X : Wk b p l e R s m args below meth c Z EL y bytes maxL none n0 h0 T h sf cells slots) {pc : Nat} {Ls : Array Slot} (d : decode bytes pc = .ok (.return_, 1)) (K : Keep h0 h ws) (q : Q none h) (hc : cells ≤ R.cells) (hs : slots ≤ R.slots) :
    Go p e below (Fi b R s Z EL n0 h0 ws Q) (T.setTop (mkF m pc Ls [])) := by
  refine X.fin (v := none) (fun _ => rfl) K q hc hs fun fs hr => ?_
  have d := X.cd d
  obtain ⟨vm0, k0, locs, a0, x1, rfl, x3, x4, x5, x6, x7, x8, x9, x10, x11, x12, c1, c2, c3, c4, c5, c6⟩ := X
  exact x1.returnOut c1 c5 d hr
theorem Wk.retO (X : Wk b p l e R s m args below meth c Z EL y bytes maxL ret n0 h0 T h sf cells slots) {pc : Nat} {Ls : Array Slot} {w : Value} {t : FieldType} {i : Instr} {rest : List Value} (ht : ret = some t) (hn : narrow t w = w)
    (hi : (i = .ireturn ∧ (t = .int ∨ t = .boolean ∨ t = .byte ∨ t = .char ∨ t = .short) ∧ ∃ z, w = .int z) ∨ (i = .lreturn ∧ t = .long ∧ ∃ z, w = .long z) ∨ (i = .dreturn ∧ t = .double ∧ ∃ z, w = .double z) ∨ (i = .freturn ∧ t = .float ∧ ∃ z, w = .float z) ∨ (i = .areturn ∧ t.isReference = true ∧ w.isRef = true))
    (d : decode bytes pc = .ok (i, 1)) (K : Keep h0 h ws) (q : Q (some w) h) (hc : cells ≤ R.cells) (hs : slots ≤ R.slots) :
    Go p e below (Fi b R s Z EL n0 h0 ws Q) (T.setTop (mkF m pc Ls (w :: rest))) := by
  refine X.fin (v := some w) (fun z => by rw [ht] at z; cases z) K q hc hs fun fs hr => ?_
  have d := X.cd d
  obtain ⟨vm0, k0, locs, a0, x1, rfl, x3, x4, x5, x6, x7, x8, x9, x10, x11, x12, c1, c2, c3, c4, c5, c6⟩ := X
  exact retOut x1 c1 (c5.trans ht) hn hi d hr
theorem Wk.retI (X : Wk b p l e R s m args below meth c Z EL y bytes maxL (some .int) n0 h0 T h sf cells slots) {pc : Nat} {Ls : Array Slot} {z : Int32} {rest : List Value} (d : decode bytes pc = .ok (.ireturn, 1)) (K : Keep h0 h ws) (q : Q (some (.int z)) h) (hc : cells ≤ R.cells) (hs : slots ≤ R.slots) :
    Go p e below (Fi b R s Z EL n0 h0 ws Q) (T.setTop (mkF m pc Ls (.int z :: rest))) := X.retO rfl rfl (Or.inl ⟨rfl, Or.inl rfl, z, rfl⟩) d K q hc hs
/-- boolean, byte, char, short: the value fits already -/
theorem Wk.retN {t : FieldType} (X : Wk b p l e R s m args below meth c Z EL y bytes maxL (some t) n0 h0 T h sf cells slots) {pc : Nat} {Ls : Array Slot} {z : Int32} {rest : List Value} (ht : t = .boolean ∨ t = .byte ∨ t = .char ∨ t = .short) (hz : nar t z = z) (d : decode bytes pc = .ok (.ireturn, 1)) (K : Keep h0 h ws) (q : Q (some (.int z)) h) (hc : cells ≤ R.cells) (hs : slots ≤ R.slots) :
    Go p e below (Fi b R s Z EL n0 h0 ws Q) (T.setTop (mkF m pc Ls (.int z :: rest))) := by
  have hn : narrow t (.int z) = .int z := by
    have : narrow t (.int z) = .int (nar t z) := by rcases ht with rfl | rfl | rfl | rfl <;> rfl
    rw [this, hz]
  exact X.retO rfl hn (Or.inl ⟨rfl, Or.inr ht, z, rfl⟩) d K q hc hs
theorem Wk.retR {t : FieldType} (X : Wk b p l e R s m args below meth c Z EL y bytes maxL (some t) n0 h0 T h sf cells slots) {pc : Nat} {Ls : Array Slot} {w : Value} {rest : List Value} (ht : t.isReference = true) (hw : w.isRef = true) (d : decode bytes pc = .ok (.areturn, 1)) (K : Keep h0 h ws) (q : Q (some w) h) (hc : cells ≤ R.cells) (hs : slots ≤ R.slots) :
    Go p e below (Fi b R s Z EL n0 h0 ws Q) (T.setTop (mkF m pc Ls (w :: rest))) := by
  have hn : narrow t w = w := by cases w <;> simp [Value.isRef] at hw <;> cases t <;> rfl
  exact X.retO rfl hn (Or.inr (Or.inr (Or.inr (Or.inr ⟨rfl, ht, hw⟩)))) d K q hc hs
/-! ### steps on the heap -/
theorem Wk.new (X : Wk b p l e R s m args below meth c Z EL y bytes maxL ret n0 h0 T h sf cells slots) {a1 : Array Value} {C : String} {index n : Nat} (w : (Cond.classLink y.cls index C).before a1 Z = true) (wi : (Cond.instantiable C n).before a1 Z = true) (wz : (Cond.initialized C).before a1 Z = true) {g : JFrame} (hg : g.method = m) (hd : decode bytes g.pc = .ok (.new index, 3)) (hc : cells + 1 ≤ R.cells) (hl : slots + n ≤ R.slots) :
    ∃ (T' : State) (h' : Heap) (a : Addr), a = h.size ∧ Wk b p l e R s m args below meth c Z EL y bytes maxL ret n0 h0 T' h' (a :: sf) (cells + 1) (slots + n) ∧ Ext h h' ∧ Exa Z h' a C ∧ (∀ {O nm d : String} {ty : FieldType}, Laid Z a1 C O nm d → parseFieldDescriptor d = some ty → Fld Z h' a O nm d (defaultValue ty)) ∧
      ∀ t, Steps p.tables e below (T'.setTop { g with pc := g.pc + 3, stack := .ref a :: g.stack }) t → Steps p.tables e below (T.setTop g) t := by
  have hd := X.cd hd
  have hn := X.nle
  obtain ⟨vm0, k0, locs, a0, x1, rfl, x3, x4, x5, x6, x7, x8, x9, x10, x11, x12, C⟩ := X
  obtain ⟨T', h', X', e', E, F, D, -, st⟩ := newO x1 C.1 (s := s.setVm vm0) x6 x7 w wi wz rfl hg hd hc hl
  exact ⟨T', h', _, rfl, ⟨vm0, k0, locs, a0, X', e', x3, x4, Nat.le_trans x5 E.1, x6, x7, x8, x9.trans (CHr.ext E x9.1), x10.new x9.1 E hn rfl F.lt, x11, x12.ext E, C⟩, E, F, D, st⟩
theorem rep_get (d : Value) (n i : Nat) : (List.replicate n d).getD i d = ([] : List Value).getD i d := by
  simp only [List.getD_eq_getElem?_getD, List.getElem?_nil, Option.getD_none]
  rw [List.getElem?_replicate]
  split <;> rfl
theorem Wk.newP (X : Wk b p l e R s m args below meth c Z EL y bytes maxL ret n0 h0 T h sf cells slots) {a1 : Array Value} {aty : ArrayType} (w : (Cond.arrayClass (newarray.typeOf aty)).before a1 Z = true) {g : JFrame} (hg : g.method = m) (hd : decode bytes g.pc = .ok (.newarray aty, 2)) {n : Int32} {rest : List Value} (hs : g.stack = .int n :: rest)
    (hn : ¬ n < 0) {cap : Nat} (hcap : n.toNatClampNeg ≤ cap) (hb : cap * 8 ≤ 536870912) (hc : cells + 1 ≤ R.cells) (hl : slots + cap ≤ R.slots) {vs : List Value} (hv : List.replicate n.toNatClampNeg (defaultValue (newarray.typeOf aty)) = vs) :
    ∃ (T' : State) (h' : Heap) (a : Addr) (k : ClassId), a = h.size ∧ Wk b p l e R s m args below meth c Z EL y bytes maxL ret n0 h0 T' h' (a :: sf) (cells + 1) (slots + cap) ∧ Ext h h' ∧ Arv Z h' a k (newarray.typeOf aty) n vs (defaultValue (newarray.typeOf aty)) ∧
      ∀ t, Steps p.tables e below (T'.setTop { g with pc := g.pc + 2, stack := .ref a :: rest }) t → Steps p.tables e below (T.setTop g) t := by
  have hd := X.cd hd
  have hnl := X.nle
  obtain ⟨vm0, k0, locs, a0, x1, rfl, x3, x4, x5, x6, x7, x8, x9, x10, x11, x12, C⟩ := X
  obtain ⟨T', h', k, X', e', E, F, st⟩ := RoadKit.newP x1 C.1 (s := s.setVm vm0) x6 w rfl hg hd hs hn hcap hb hc hl
  have G := (Arv.new F hn).pad (vs' := vs) (fun i => by rw [← hv]; exact rep_get _ _ _)
  exact ⟨T', h', _, k, rfl, ⟨vm0, k0, locs, a0, X', e', x3, x4, Nat.le_trans x5 E.1, x6, x7, x8, x9.trans (CHr.ext E x9.1), x10.new x9.1 E hnl rfl F.lt, x11, x12.ext E, C⟩, E, G, st⟩
theorem Wk.getF (X : Wk b p l e R s m args below meth c Z EL y bytes maxL ret n0 h0 T h sf cells slots) {a1 : Array Value} {R0 O n d host : String} {index : Nat} (w : (Cond.fieldLink y.cls index R0 n d).before a1 Z = true ∨ (Cond.fieldLinkNest y.cls index R0 n d host).before a1 Z = true) (via : Via Z R0 O n d) {a : Addr} {v : Value} (F : Fld Z h a O n d v)
    {g : JFrame} (hg : g.method = m) {rest : List Value} (hs : g.stack = .ref a :: rest) (hd : decode bytes g.pc = .ok (.getfield index, 3)) :
    ∃ T' : State, Wk b p l e R s m args below meth c Z EL y bytes maxL ret n0 h0 T' h sf cells slots ∧ ∀ t, Steps p.tables e below (T'.setTop { g with pc := g.pc + 3, stack := v :: rest }) t → Steps p.tables e below (T.setTop g) t := by
  have hd := X.cd hd
  obtain ⟨vm0, k0, locs, a0, x1, rfl, x3, x4, x5, x6, x7, x8, x9, x10, x11, x12, C⟩ := X
  obtain ⟨T', X', e', st⟩ := RoadKit.getF x1 C.1 (s := s.setVm vm0) x6 x7 w via rfl F hg hs hd
  exact ⟨T', ⟨vm0, k0, locs, a0, X', e', x3, x4, x5, x6, x7, x8, x9, x10, x11, x12, C⟩, st⟩
theorem Wk.getS (X : Wk b p l e R s m args below meth c Z EL y bytes maxL ret n0 h0 T h sf cells slots) {a1 : Array Value} {R0 O n d : String} {index : Nat} (w : (Cond.fieldLink y.cls index R0 n d).before a1 Z = true) (via : Via Z R0 O n d) {v : Value} (F : Sta Z Z.heap O n d v)
    {g : JFrame} (hg : g.method = m) (hd : decode bytes g.pc = .ok (.getstatic index, 3)) :
    ∃ T' : State, Wk b p l e R s m args below meth c Z EL y bytes maxL ret n0 h0 T' h sf cells slots ∧ ∀ t, Steps p.tables e below (T'.setTop { g with pc := g.pc + 3, stack := v :: g.stack }) t → Steps p.tables e below (T.setTop g) t := by
  have hd := X.cd hd
  obtain ⟨vm0, k0, locs, a0, x1, rfl, x3, x4, x5, x6, x7, x8, x9, x10, x11, x12, C⟩ := X
  obtain ⟨T', X', e', st⟩ := RoadKit.getS x1 C.1 (s := s.setVm vm0) (host := "") x6 x7 w via rfl (F.ext x12.2) hg hd
  exact ⟨T', ⟨vm0, k0, locs, a0, X', e', x3, x4, x5, x6, x7, x8, x9, x10, x11, x12, C⟩, st⟩
theorem Wk.wr {vm0 : Vm} {k0 : Nat} {locs : List Loc} {T' : State} {a : Addr} {sl sl' : Nat} {v : Value} (x1' : Stand p l e R (s.setVm vm0) m args below meth c T' (locs ++ [⟨a, sl'⟩]) cells slots) (e' : T'.heap = h') (W : Wr h h' a sl v) (x3 : b = false → vm0 = s.vm) (x4 : s.Since vm0 k0) (x5 : k0 ≤ h.size) (x6 : Z.Warmed39 vm0) (x7 : vm0.findClass y.cls = some m.cls) (x8 : Fr n0 locs) (x9 : CHr Z EL s.vm h0 vm0 h) (x10 : Sfs Z EL n0 vm0 h sf) (x11 : EW Z a0 EL) (x12 : Old Z n0 h) (C : Cst p meth c y bytes maxL ret) (hm : a ∈ sf) :
    Wk b p l e R s m args below meth c Z EL y bytes maxL ret n0 h0 T' h' sf cells slots := by
  have D : CHr Z EL vm0 h vm0 h' := CHr.wr W (x10 a hm).2.2 x9.1
  exact ⟨vm0, k0, _, a0, x1', e', x3, x4, by rw [W.size]; exact x5, x6, x7, x8.snoc x1' (x10 a hm).1, x9.trans D, x10.go D, x11, x12.wr W (x10 a hm).1, C⟩
theorem Wk.putF (X : Wk b p l e R s m args below meth c Z EL y bytes maxL ret n0 h0 T h sf cells slots) {a1 : Array Value} {R0 O n d host C : String} {index kk : Nat} {ty : FieldType} (w : (Cond.fieldLink y.cls index R0 n d).before a1 Z = true ∨ (Cond.fieldLinkNest y.cls index R0 n d host).before a1 Z = true) (via : Via Z R0 O n d) {a : Addr} {v old : Value} (F : Fld Z h a O n d old) (E : Exa Z h a C)
    (L : (Cond.lays C O n d).before a1 Z = true ∨ ((Cond.laysFinal C O n d).before a1 Z = true ∧ y.cls = O ∧ y.name = "<init>")) (wi : (Cond.instantiable C kk).before a1 Z = true) (hm : a ∈ sf)
    (hty : parseFieldDescriptor d = some ty) (hn : narrow ty v = v) (hf : fits ty v = true) {g : JFrame} (hg : g.method = m) {rest : List Value} (hs : g.stack = v :: .ref a :: rest) (hd : decode bytes g.pc = .ok (.putfield index, 3)) :
    ∃ (T' : State) (h' : Heap), Wk b p l e R s m args below meth c Z EL y bytes maxL ret n0 h0 T' h' sf cells slots ∧ Wr h h' a (RoadKit.slotOf Z O n d) v ∧ ∀ t, Steps p.tables e below (T'.setTop { g with pc := g.pc + 3, stack := rest }) t → Steps p.tables e below (T.setTop g) t := by
  have hd := X.cd hd
  obtain ⟨vm0, k0, locs, a0, x1, rfl, x3, x4, x5, x6, x7, x8, x9, x10, x11, x12, CC⟩ := X
  obtain ⟨T', h', X', e', W, st⟩ := RoadKit.putF x1 CC.1 (s := s.setVm vm0) x6 x7 w via rfl F E (L.imp id fun q => ⟨q.1, q.2.1, CC.2.2.2.1.trans q.2.2⟩) wi hty hn hf hg hs hd
  exact ⟨T', h', Wk.wr X' e' W x3 x4 x5 x6 x7 x8 x9 x10 x11 x12 CC hm, W, st⟩
theorem Wk.putFN (X : Wk b p l e R s m args below meth c Z EL y bytes maxL ret n0 h0 T h sf cells slots) {a1 : Array Value} {R0 O n d C : String} {index kk : Nat} {ty : FieldType} (w : (Cond.fieldLink y.cls index R0 n d).before a1 Z = true) (via : Via Z R0 O n d) {a : Addr} {v v' old : Value} (F : Fld Z h a O n d old) (E : Exa Z h a C)
    (L : (Cond.lays C O n d).before a1 Z = true ∨ ((Cond.laysFinal C O n d).before a1 Z = true ∧ y.cls = O ∧ y.name = "<init>")) (wi : (Cond.instantiable C kk).before a1 Z = true) (hm : a ∈ sf)
    (hty : parseFieldDescriptor d = some ty) (hn : narrow ty v = v') (hf : fits ty v' = true) {g : JFrame} (hg : g.method = m) {rest : List Value} (hs : g.stack = v :: .ref a :: rest) (hd : decode bytes g.pc = .ok (.putfield index, 3)) :
    ∃ (T' : State) (h' : Heap), Wk b p l e R s m args below meth c Z EL y bytes maxL ret n0 h0 T' h' sf cells slots ∧ Wr h h' a (RoadKit.slotOf Z O n d) v' ∧ ∀ t, Steps p.tables e below (T'.setTop { g with pc := g.pc + 3, stack := rest }) t → Steps p.tables e below (T.setTop g) t := by
  have hd := X.cd hd
  obtain ⟨vm0, k0, locs, a0, x1, rfl, x3, x4, x5, x6, x7, x8, x9, x10, x11, x12, CC⟩ := X
  obtain ⟨T', h', X', e', W, st⟩ := RoadKit.putFN x1 CC.1 (s := s.setVm vm0) x6 x7 w via rfl F E (L.imp id fun q => ⟨q.1, q.2.1, CC.2.2.2.1.trans q.2.2⟩) wi hty hn hf hg hs hd
  exact ⟨T', h', Wk.wr X' e' W x3 x4 x5 x6 x7 x8 x9 x10 x11 x12 CC hm, W, st⟩
theorem Wk.stC (X : Wk b p l e R s m args below meth c Z EL y bytes maxL ret n0 h0 T h sf cells slots) {a : Addr} {k : ClassId} {n : Int32} {vs vs' : List Value} {dv : Value} (F : Arv Z h a k .char n vs dv) (hm : a ∈ sf) {j x x' : Int32} (hj : ¬ j < 0 ∧ j < n) {i : Nat} (hi : j.toNatClampNeg = i) (hl : i < vs.length) (hx : nar .char x = x') (hv : vs.set i (.int x') = vs')
    {g : JFrame} (hg : g.method = m) {rest : List Value} (hs : g.stack = .int x :: .int j :: .ref a :: rest) (hd : decode bytes g.pc = .ok (.castore, 1)) :
    ∃ (T' : State) (h' : Heap), Wk b p l e R s m args below meth c Z EL y bytes maxL ret n0 h0 T' h' sf cells slots ∧ Keep h h' [a] ∧ Arv Z h' a k .char n vs' dv ∧ ∀ t, Steps p.tables e below (T'.setTop { g with pc := g.pc + 1, stack := rest }) t → Steps p.tables e below (T.setTop g) t := by
  have hd := X.cd hd
  obtain ⟨vm0, k0, locs, a0, x1, rfl, x3, x4, x5, x6, x7, x8, x9, x10, x11, x12, CC⟩ := X
  obtain ⟨cl, A, q1, q2, q3, q4, q5⟩ := F
  obtain ⟨T', h', X', e', W, st⟩ := RoadKit.stC x1 CC.1 (s := s.setVm vm0) x6 rfl A (inb_of q2 hj) hg hs hd
  subst hx hv
  exact ⟨T', h', Wk.wr X' e' W x3 x4 x5 x6 x7 x8 x9 x10 x11 x12 CC hm, Keep.of_wr W, Arv.set A q1 q2 q3 q4 q5 (fits_nar_char x) W i hi hl, st⟩
theorem Wk.stB (X : Wk b p l e R s m args below meth c Z EL y bytes maxL ret n0 h0 T h sf cells slots) {a : Addr} {k : ClassId} {n : Int32} {vs vs' : List Value} {dv : Value} (F : Arv Z h a k .byte n vs dv) (hm : a ∈ sf) {j x x' : Int32} (hj : ¬ j < 0 ∧ j < n) {i : Nat} (hi : j.toNatClampNeg = i) (hl : i < vs.length) (hx : x.toInt8.toInt32 = x') (hv : vs.set i (.int x') = vs')
    {g : JFrame} (hg : g.method = m) {rest : List Value} (hs : g.stack = .int x :: .int j :: .ref a :: rest) (hd : decode bytes g.pc = .ok (.bastore, 1)) :
    ∃ (T' : State) (h' : Heap), Wk b p l e R s m args below meth c Z EL y bytes maxL ret n0 h0 T' h' sf cells slots ∧ Keep h h' [a] ∧ Arv Z h' a k .byte n vs' dv ∧ ∀ t, Steps p.tables e below (T'.setTop { g with pc := g.pc + 1, stack := rest }) t → Steps p.tables e below (T.setTop g) t := by
  have hd := X.cd hd
  obtain ⟨vm0, k0, locs, a0, x1, rfl, x3, x4, x5, x6, x7, x8, x9, x10, x11, x12, CC⟩ := X
  obtain ⟨cl, A, q1, q2, q3, q4, q5⟩ := F
  obtain ⟨T', h', X', e', W, st⟩ := RoadKit.stB x1 CC.1 (s := s.setVm vm0) x6 rfl A (inb_of q2 hj) hg hs hd
  subst hx hv
  exact ⟨T', h', Wk.wr X' e' W x3 x4 x5 x6 x7 x8 x9 x10 x11 x12 CC hm, Keep.of_wr W, Arv.set A q1 q2 q3 q4 q5 (fits_nar_byte x) W i hi hl, st⟩
theorem Wk.len (X : Wk b p l e R s m args below meth c Z EL y bytes maxL ret n0 h0 T h sf cells slots) {a : Addr} {k : ClassId} {n : Int32} {vs : List Value} {dv : Value} {ty : FieldType} (F : Arv Z h a k ty n vs dv)
    {g : JFrame} (hg : g.method = m) {rest : List Value} (hs : g.stack = .ref a :: rest) (hd : decode bytes g.pc = .ok (.arraylength, 1)) :
    ∀ t, Steps p.tables e below (T.setTop { g with pc := g.pc + 1, stack := .int n :: rest }) t → Steps p.tables e below (T.setTop g) t := by
  have hd := X.cd hd
  obtain ⟨vm0, k0, locs, a0, x1, rfl, x3, x4, x5, x6, x7, x8, x9, x10, x11, x12, CC⟩ := X
  obtain ⟨cl, A, q1, q2, q3, q4, q5⟩ := F
  intro t ht
  refine x1.arraylength CC.1 (cell := cl) A.1 (State.isArrayOf_alike (T := s.setVm vm0) x6.alike A.2.1) (g := g) hg (rest := rest) hs hd _ ?_
  rw [len_of q2 q3]; exact ht
theorem Wk.ldA (X : Wk b p l e R s m args below meth c Z EL y bytes maxL ret n0 h0 T h sf cells slots) {a : Addr} {k : ClassId} {n : Int32} {vs : List Value} {dv : Value} {ty : FieldType} (F : Arv Z h a k ty n vs dv) {j : Int32} (hj : ¬ j < 0 ∧ j < n) {v : Value} (hv : vs.getD j.toNatClampNeg dv = v)
    {i : Instr} (hi : (i = .iaload ∧ ty = .int) ∨ (i = .caload ∧ ty = .char) ∨ (i = .baload ∧ ty = .byte) ∨ (i = .aaload ∧ ty.isReference = true)) {g : JFrame} (hg : g.method = m) {rest : List Value} (hs : g.stack = .int j :: .ref a :: rest) (hd : decode bytes g.pc = .ok (i, 1)) :
    ∀ t, Steps p.tables e below (T.setTop { g with pc := g.pc + 1, stack := v :: rest }) t → Steps p.tables e below (T.setTop g) t := by
  have hd := X.cd hd
  obtain ⟨vm0, k0, locs, a0, x1, rfl, x3, x4, x5, x6, x7, x8, x9, x10, x11, x12, CC⟩ := X
  obtain ⟨cl, A, q1, q2, q3, q4, q5⟩ := F
  intro t ht
  have hin := inb_of q2 hj
  have hA := State.isArrayOf_alike (T := s.setVm vm0) x6.alike A.2.1
  rcases hi with ⟨rfl, rfl⟩ | ⟨rfl, rfl⟩ | ⟨rfl, rfl⟩ | ⟨rfl, hr⟩
  · exact x1.iaload CC.1 (j := j) (v := v) A.1 hA A.2.2 hin (q4.at hin hv) hg hs hd _ ht
  · exact x1.caload CC.1 (j := j) (v := v) A.1 hA A.2.2 hin (q4.at hin hv) hg hs hd _ ht
  · exact x1.baloadBytes CC.1 (j := j) (v := v) A.1 hA A.2.2 hin (q4.at hin hv) hg hs hd _ ht
  · exact x1.aaload CC.1 (j := j) (v := v) A.1 hA hr A.2.2 hin (q4.at hin hv) hg hs hd _ ht
theorem Wk.ldcI (X : Wk b p l e R s m args below meth c Z EL y bytes maxL ret n0 h0 T h sf cells slots) {a1 : Array Value} {index : Nat} {v : Int32} (w : (Cond.constant y.cls index v).before a1 Z = true) {g : JFrame} (hg : g.method = m) (hd : decode bytes g.pc = .ok (.ldc index, 2)) :
    ∀ t, Steps p.tables e below (T.setTop { g with pc := g.pc + 2, stack := .int v :: g.stack }) t → Steps p.tables e below (T.setTop g) t := by
  have hd := X.cd hd
  obtain ⟨vm0, k0, locs, a0, x1, rfl, x3, x4, x5, x6, x7, x8, x9, x10, x11, x12, CC⟩ := X
  exact x1.ldcInt CC.1 x7 (mvT (s := s.setVm vm0) x6 w) hg hd
theorem Wk.acmp (X : Wk b p l e R s m args below meth c Z EL y bytes maxL ret n0 h0 T h sf cells slots) {cd : ACond} {x y' : Value} (h1 : x.isRef = true) (h2 : y'.isRef = true) {g : JFrame} (hg : g.method = m) {rest : List Value} {o : Int} {pc0 pc' : Nat} {same : Bool} (hpc : g.pc = pc0) (hd : decode bytes g.pc = .ok (.if_acmp cd o, 3)) (hs : g.stack = y' :: x :: rest) (hq : decide (x = y') = same) (ho : 0 ≤ (pc0 : Int) + o) (hp : pc' = if acV cd same = true then ((pc0 : Int) + o).toNat else pc0 + 3) :
    ∀ t, Steps p.tables e below (T.setTop { g with pc := pc', stack := rest }) t → Steps p.tables e below (T.setTop g) t := by
  have hd := X.cd hd
  obtain ⟨vm0, k0, locs, a0, x1, rfl, x3, x4, x5, x6, x7, x8, x9, x10, x11, x12, CC⟩ := X
  exact fun t ht => Jvm.RoadKit.acmp x1 CC.1 hg h1 h2 hpc hd hs hq ho hp ht
theorem Wk.initO (X : Wk b p l e R s m args below meth c Z EL y bytes maxL ret n0 h0 T h sf cells slots) {a1 : Array Value} {idx : Nat} (w1 : (Cond.methodLink y.cls idx Lib.objectInit).before a1 Z = true) (w2 : (Cond.instanceMethod Lib.objectInit).before a1 Z = true) (w3 : (Cond.code Lib.objectInit ⟨#[0xb1]⟩ 1 none).before a1 Z = true) {g : JFrame} (hg : g.method = m) (hsize : g.locals.size = maxL) {a : Addr} {rest : List Value} (hs : g.stack = .ref a :: rest) (hd : decode bytes g.pc = .ok (.invokespecial idx, 3))
    (hf : 1 ≤ R.frames) {W : Nat} (hW : 2 * g.monitorRoom + (rest.map fun v => v.category).sum ≤ W) (hl : W + 12 ≤ R.locals) :
    ∃ T' : State, Wk b p l e R s m args below meth c Z EL y bytes maxL ret n0 h0 T' h sf cells slots ∧ ∀ t, Steps p.tables e below (T'.setTop { g with pc := g.pc + 3, stack := rest }) t → Steps p.tables e below (T.setTop g) t := by
  have hd := X.cd hd
  obtain ⟨vm0, k0, locs, a0, x1, rfl, x3, x4, x5, x6, x7, x8, x9, x10, x11, x12, CC⟩ := X
  obtain ⟨T', X', e', st⟩ := RoadKit.initO x1 CC.1 (s := s.setVm vm0) x6 x7 w1 w2 w3 rfl hg (hsize.trans CC.2.2.1.symm) hs hd hf hW hl
  exact ⟨T', ⟨vm0, k0, locs, a0, X', e', x3, x4, x5, x6, x7, x8, x9, x10, x11, x12, CC⟩, st⟩
theorem Wk.castY (X : Wk b p l e R s m args below meth c Z EL y bytes maxL ret n0 h0 T h sf cells slots) {a1 : Array Value} {K : String} {index : Nat} (w : (Cond.classLink y.cls index K).before a1 Z = true) {a : Addr} (F : Ins Z h a K true) {g : JFrame} (hg : g.method = m) {rest : List Value} (hs : g.stack = .ref a :: rest) (hd : decode bytes g.pc = .ok (.checkcast index, 3)) :
    ∃ T' : State, Wk b p l e R s m args below meth c Z EL y bytes maxL ret n0 h0 T' h sf cells slots ∧ ∀ t, Steps p.tables e below (T'.setTop { g with pc := g.pc + 3 }) t → Steps p.tables e below (T.setTop g) t := by
  have hd := X.cd hd
  obtain ⟨vm0, k0, locs, a0, x1, rfl, x3, x4, x5, x6, x7, x8, x9, x10, x11, x12, CC⟩ := X
  obtain ⟨T', X', e', st⟩ := RoadKit.castY x1 CC.1 (s := s.setVm vm0) x6 x7 w rfl F hg hs hd
  exact ⟨T', ⟨vm0, k0, locs, a0, X', e', x3, x4, x5, x6, x7, x8, x9, x10, x11, x12, CC⟩, st⟩
theorem Wk.instY (X : Wk b p l e R s m args below meth c Z EL y bytes maxL ret n0 h0 T h sf cells slots) {a1 : Array Value} {K : String} {index : Nat} (w : (Cond.classLink y.cls index K).before a1 Z = true) {a : Addr} (F : Ins Z h a K true) {g : JFrame} (hg : g.method = m) {rest : List Value} (hs : g.stack = .ref a :: rest) (hd : decode bytes g.pc = .ok (.instanceof index, 3)) :
    ∃ T' : State, Wk b p l e R s m args below meth c Z EL y bytes maxL ret n0 h0 T' h sf cells slots ∧ ∀ t, Steps p.tables e below (T'.setTop { g with pc := g.pc + 3, stack := .int 1 :: rest }) t → Steps p.tables e below (T.setTop g) t := by
  have hd := X.cd hd
  obtain ⟨vm0, k0, locs, a0, x1, rfl, x3, x4, x5, x6, x7, x8, x9, x10, x11, x12, CC⟩ := X
  obtain ⟨T', X', e', st⟩ := RoadKit.instY x1 CC.1 (s := s.setVm vm0) x6 x7 w rfl F hg hs hd
  exact ⟨T', ⟨vm0, k0, locs, a0, X', e', x3, x4, x5, x6, x7, x8, x9, x10, x11, x12, CC⟩, st⟩
/-! ### String constants (a wide walk alone) -/
theorem Wk.ldcR (X : Wk true p l e R s m args below meth c Z EL y bytes maxL ret n0 h0 T h sf cells slots) {a1 : Array Value} {text : String} {index : Nat} (w : (Cond.stringLink y.cls index text).before a1 Z = true) (wS : ∀ a ∈ Bundle.stringAtoms, a.before a1 Z = true) (hmem : (y.cls, index) ∈ EL)
    {vs : List Value} {z : Int32} (ht : (∀ c ∈ text.toList, c.toNat < 256) ∧ text.toList.map (fun c => Value.int (Jvm.Lit.byteI c.toNat.toUInt16)) = vs) (hz : ¬ z < 0) (hl : z.toNatClampNeg = vs.length)
    {g : JFrame} (hg : g.method = m) (hd : decode bytes g.pc = .ok (.ldc index, 2)) {n : Nat} (hn : 4 * text.toList.length ≤ n) (hbig : n ≤ 536870912) (hc : cells + 2 ≤ R.cells) (hl' : slots + (n + 4) ≤ R.slots) :
    ∃ (a bb : Addr) (k : ClassId) (T' : State) (h' : Heap), Wk true p l e R s m args below meth c Z EL y bytes maxL ret n0 h0 T' h' sf (cells + 2) (slots + (n + 4)) ∧ Ext h h' ∧ Exa Z h' a "java/lang/String" ∧ Fld Z h' a "java/lang/String" "coder" "B" (.int 0) ∧ Fld Z h' a "java/lang/String" "value" "[B" (.ref bb) ∧ Arv Z h' bb k .byte z vs (.int 0) ∧ (∀ x ∈ sf, x ≠ a ∧ x ≠ bb) ∧
      ∀ t, Steps p.tables e below (T'.setTop { g with pc := g.pc + 2, stack := .ref a :: g.stack }) t → Steps p.tables e below (T.setTop g) t := by
  have hd := X.cd hd
  obtain ⟨vm0, k0, locs, a0, x1, rfl, x3, x4, x5, x6, x7, x8, x9, x10, x11, x12, CC⟩ := X
  obtain ⟨a, T', h', k1, bb, k, X', e', E, hS, hk, hZ, ho, F1, F2, F3, F4, -, -, D, -, hne, st⟩ := ldcCH (a0 := a1) (EL := EL) x1 CC.1 x6 x7 w wS rfl x4 x5 (by intro q hq; obtain ⟨t, t1, t2⟩ := x11 q hq; exact ⟨t, by simpa only [Cond.before, Cond.holds, Cond.value] using t1, t2⟩) hmem x9.1 ht hz hl hg hd hn hbig hc hl'
  have S' := x10.go D
  exact ⟨a, bb, k, T', h', ⟨T'.vm, k1, locs, a0, X', e', fun q => (nomatch q), hS, hk, hZ, ho, x8, x9.trans D, S', x11, x12.ext E, CC⟩, E, F1, F2, F3, F4, fun x hx => hne x (S' x hx).2.2, st⟩
end Walk
/-! ### contracts -/
def Ct (l : Launch) (y : MethodName) (bytes : ByteArray) (maxL : Nat) (ret : Option FieldType) (wl : List Cond) (rm : Room) (Z : State) (n0 : Nat) (as' : Array Value) (h : Heap) (ws : List Addr) (Q : Option Value → Heap → Prop) : Prop :=
  MetFree l y (head1 (Cond.code y bytes maxL ret :: wl) rm) (fun a U => a = as' ∧ Z.Warmed39 U.vm ∧ U.heap = h) (fun _ _ _ _ _ => True) (fun _ U o U' => ∃ v L, o = .returned v ∧ (Keep h U'.heap ws ∧ Q v U'.heap ∧ Fr n0 L) ∧ FrameEnd U o U' L rm.cells rm.slots)
def Cw (l : Launch) (y : MethodName) (bytes : ByteArray) (maxL : Nat) (ret : Option FieldType) (wl : List Cond) (rm : Room) (Z : State) (EL : List (String × Nat)) (n0 : Nat) (as' : Array Value) (h : Heap) (ws sv : List Addr) (Q : Option Value → Heap → Prop) : Prop :=
  MetFree l y (head1 (Cond.code y bytes maxL ret :: wl) rm) (fun a U => a = as' ∧ Z.Warmed39 U.vm ∧ U.heap = h ∧ CHv Z EL U.vm h ∧ ∀ x ∈ sv, Safe Z EL U.vm h x) (fun _ _ _ _ _ => True) (fun _ U o U' => ∃ v L, o = .returned v ∧ (Keep h U'.heap ws ∧ Q v U'.heap ∧ Fr n0 L) ∧ CHr Z EL U.vm h U'.vm U'.heap ∧ ReturnedEndW U o U' L rm.cells rm.slots)
section Con
variable {l : Launch} {y : MethodName} {bytes : ByteArray} {maxL : Nat} {ret : Option FieldType} {wl : List Cond} {rm : Room} {Z : State} {EL : List (String × Nat)} {n0 : Nat} {as' : Array Value} {h : Heap} {ws sv : List Addr} {Q : Option Value → Heap → Prop} {a0 : Array Value}
theorem Ct.of_walk (hp : plainFor y = true) (hO : Old Z n0 h) (hws : ∀ x ∈ ws, n0 ≤ x ∧ x < h.size)
    (body : ∀ (p : Program) (e : Env) (s : State) (m : MethodId) (below : List Frame) (meth : Method) (c : Code) (T : State), Wk false p l e rm s m as' below meth c Z [] y bytes maxL ret n0 h T h ws 0 0 → Go p e below (Fi false rm s Z [] n0 h ws Q) (T.setTop (entryFrame m as' maxL))) : Ct l y bytes maxL ret wl rm Z n0 as' h ws Q := by
  refine MetFree.of_bodySF hp hisR ?_
  intro p e s m args below meth c s₁ Bd hml0 hP hK
  obtain ⟨rfl, hZ, hh⟩ := hP
  have X0 : Stand p l e rm s m args below meth c s₁ [] 0 0 := Stand.of_body Bd
  have e0 : s₁.heap = h := by rw [← hh, Bd.state]; rfl
  have H0 : CHv Z [] s.vm h := fun q hq => nomatch hq
  have W0 : Wk false p l e rm s m args below meth c Z [] y bytes maxL ret n0 h s₁ h ws 0 0 :=
    ⟨s.vm, 0, [], #[], X0, e0, fun _ => rfl, (State.WarmedH.refl s).since 0, Nat.zero_le _, hZ, findClass_of_methodNamed Bd.named, Fr.nil n0, CHr.refl H0, fun x hx => ⟨(hws x hx).1, (hws x hx).2, fun B => by obtain ⟨q, hq, -⟩ := B; cases hq⟩, EW.nil, hO, Bd.exec, Bd.bytes, hml0, (name_of_methodNamed Bd.named Bd.method).1, Bd.returns, Bd.notSynchronized⟩
  obtain ⟨t, o, h1, h2, h3, v, L, rfl, K, q, N, A, E⟩ := body p e s m below meth c s₁ W0
  exact ⟨t, _, h1, h2, h3, v, L, rfl, ⟨K, q, N⟩, E⟩
theorem Cw.of_walk (hp : plainFor y = true) (hO : Old Z n0 h) (hE : EW Z a0 EL) (hws : ∀ x ∈ sv, n0 ≤ x ∧ x < h.size)
    (body : ∀ (p : Program) (e : Env) (s : State) (m : MethodId) (below : List Frame) (meth : Method) (c : Code) (T : State), Wk true p l e rm s m as' below meth c Z EL y bytes maxL ret n0 h T h sv 0 0 → Go p e below (Fi true rm s Z EL n0 h ws Q) (T.setTop (entryFrame m as' maxL))) : Cw l y bytes maxL ret wl rm Z EL n0 as' h ws sv Q := by
  refine MetFree.of_bodySF hp hisR ?_
  intro p e s m args below meth c s₁ Bd hml0 hP hK
  obtain ⟨rfl, hZ, hh, H0, hS⟩ := hP
  have X0 : Stand p l e rm s m args below meth c s₁ [] 0 0 := Stand.of_body Bd
  have e0 : s₁.heap = h := by rw [← hh, Bd.state]; rfl
  have W0 : Wk true p l e rm s m args below meth c Z EL y bytes maxL ret n0 h s₁ h sv 0 0 :=
    ⟨s.vm, 0, [], a0, X0, e0, fun _ => rfl, (State.WarmedH.refl s).since 0, Nat.zero_le _, hZ, findClass_of_methodNamed Bd.named, Fr.nil n0, CHr.refl H0, fun x hx => ⟨(hws x hx).1, (hws x hx).2, hS x hx⟩, hE, hO, Bd.exec, Bd.bytes, hml0, (name_of_methodNamed Bd.named Bd.method).1, Bd.returns, Bd.notSynchronized⟩
  obtain ⟨t, o, h1, h2, h3, v, L, rfl, K, q, N, A, E⟩ := body p e s m below meth c s₁ W0
  exact ⟨t, _, h1, h2, h3, v, L, rfl, ⟨K, q, N⟩, A, E⟩
variable {R : Room} {p : Program} {e : Env} {below : List Frame} {s : State} {args : Array Value} {len W : Nat}
def Pay (l : Launch) (R : Room) (p : Program) (e : Env) (below : List Frame) (s : State) (args : Array Value) (Z : State) (n0 : Nat) (y : MethodName) (len W : Nat) (as' : Array Value) (h : Heap) (kc ks : Nat) (ws : List Addr) (Q : Option Value → Heap → Prop) : Prop :=
  ∀ vm0, Z.Warmed39 vm0 → Back l R p e below (s.setVm vm0) args y len W (fun A a => a = as' ∧ A.U.heap = h ∧ A.cells + kc ≤ R.cells ∧ A.slots + ks ≤ R.slots) (fun A _ v B => ∃ L, (Keep h B.U.heap ws ∧ Q v B.U.heap ∧ Fr n0 L) ∧ B.locs = A.locs ++ L ∧ B.cells = A.cells + kc ∧ B.slots = A.slots + ks)
def PayW (l : Launch) (R : Room) (p : Program) (e : Env) (below : List Frame) (s : State) (args : Array Value) (Z : State) (EL : List (String × Nat)) (n0 : Nat) (y : MethodName) (len W : Nat) (as' : Array Value) (h : Heap) (kc ks : Nat) (ws sv : List Addr) (Q : Option Value → Heap → Prop) : Prop :=
  ∀ vm0, Z.Warmed39 vm0 → CHv Z EL vm0 h → (∀ x ∈ sv, x < h.size ∧ Safe Z EL vm0 h x) → BackS l R p e below (s.setVm vm0) args y len W (fun A a => a = as' ∧ A.U.heap = h ∧ A.cells + kc ≤ R.cells ∧ A.slots + ks ≤ R.slots) (fun A _ v B => ∃ L, (Keep h B.U.heap ws ∧ Q v B.U.heap ∧ Fr n0 L) ∧ B.locs = A.locs ++ L ∧ B.cells = A.cells + kc ∧ B.slots = A.slots + ks ∧ CHr Z EL vm0 h B.U.vm B.U.heap)
theorem Ct.pay (hM : Ct l y bytes maxL ret [] rm Z n0 as' h ws Q) (wc : (Cond.code y bytes maxL ret).before a0 Z = true) (wz : (Cond.initialized y.cls).before a0 Z = true) (hf : rm.frames + 1 ≤ R.frames) (hl : W + (maxL + 11) + rm.locals ≤ R.locals) :
    Pay l R p e below s args Z n0 y len W as' h rm.cells rm.slots ws Q := fun vm0 hZ => backOf (s := s.setVm vm0) (Q := fun v h' L => Keep h h' ws ∧ Q v h' ∧ Fr n0 L) hM hZ wc wz hf hl
theorem Cw.pay (hM : Cw l y bytes maxL ret [] rm Z EL n0 as' h ws sv Q) (wc : (Cond.code y bytes maxL ret).before a0 Z = true) (wz : (Cond.initialized y.cls).before a0 Z = true) (hE : EW Z a0 EL) (hf : rm.frames + 1 ≤ R.frames) (hl : W + (maxL + 11) + rm.locals ≤ R.locals) :
    PayW l R p e below s args Z EL n0 y len W as' h rm.cells rm.slots ws sv Q := fun vm0 hZ H hS =>
  BackS.of_freeW (bytes := bytes) (maxL := maxL) (ret := ret) (E := fun _ first o t L k n => k = rm.cells ∧ n = rm.slots ∧ (∃ v, o = .returned v ∧ (Keep h t.heap ws ∧ Q v t.heap ∧ Fr n0 L)) ∧ CHr Z EL first.vm h t.vm t.heap) hM hf hl
    (fun m meth c A a Y hp => by
      have hU : Z.Warmed39 A.U.vm := wtrans (s := s.setVm vm0) hZ Y.warmed
      exact ⟨by show (Cond.and _ .tt).before a A.U = true; rw [Cond.before_and, mv hU wc]; rfl, mv hU wc, mv hU wz, hp.2.2.1, hp.2.2.2⟩)
    (fun m meth c A a g mk Y hp => by
      have q := CHv.at Y hZ hE H
      exact ⟨hp.1, wtrans (s := s.setVm vm0) hZ Y.warmed, hp.2.1, q.1, fun x hx => q.safe (hS x hx).1 (hS x hx).2⟩)
    (fun _ _ _ _ _ _ _ _ _ => trivial)
    (fun _ _ _ _ ⟨v, L, h1, h2, h3, h4⟩ => ⟨L, _, _, h4, rfl, rfl, ⟨v, h1, h2⟩, h3⟩)
    (fun m meth c A a g mk v t L k n Y hp _ _ ⟨e1, e2, ⟨v', e3, e4⟩, e5⟩ => by
      cases e3; subst e1 e2
      exact ⟨L, e4, rfl, rfl, rfl, (CHv.at Y hZ hE H).trans e5⟩)
end Con
/-! ### calls -/
section Calls
variable {b : Bool} {p : Program} {l : Launch} {e : Env} {R : Room} {s : State} {m : MethodId} {args : Array Value} {below : List Frame} {meth : Method} {c : Code} {Z : State} {EL : List (String × Nat)} {y : MethodName} {bytes : ByteArray} {maxL : Nat} {ret : Option FieldType} {n0 : Nat} {h0 : Heap} {T : State} {h h' : Heap} {sf ws sv : List Addr} {cells slots : Nat} {a1 : Array Value} {Q : Option Value → Heap → Prop} {y' z' : MethodName} {index W kc ks : Nat} {as' : Array Value}
theorem Wk.aftW {vm0 : Vm} {k0 : Nat} {locs : List Loc} {a0 : Array Value} {v : Option Value} {B : Pt} (X' : Stand p l e R ((s.setVm vm0).setVm B.U.vm) m args below meth c B.U B.locs B.cells B.slots) (hS : (s.setVm vm0).Since B.U.vm B.U.heap.size) (po : ∃ L, (Keep h B.U.heap ws ∧ Q v B.U.heap ∧ Fr n0 L) ∧ B.locs = locs ++ L ∧ B.cells = cells + kc ∧ B.slots = slots + ks ∧ CHr Z EL vm0 h B.U.vm B.U.heap)
    (x4 : s.Since vm0 k0) (x5 : k0 ≤ h.size) (x6 : Z.Warmed39 vm0) (x7 : vm0.findClass y.cls = some m.cls) (x8 : Fr n0 locs) (x9 : CHr Z EL s.vm h0 vm0 h) (x10 : Sfs Z EL n0 vm0 h sf) (x11 : EW Z a0 EL) (x12 : Old Z n0 h) (C : Cst p meth c y bytes maxL ret) (hm : ∀ x ∈ ws, x ∈ sf) :
    Wk true p l e R s m args below meth c Z EL y bytes maxL ret n0 h0 B.U B.U.heap sf (cells + kc) (slots + ks) ∧ Keep h B.U.heap ws ∧ Q v B.U.heap := by
  obtain ⟨L, ⟨K, q, N⟩, l1, l2, l3, D⟩ := po
  rw [l1, l2, l3] at X'
  have hk : k0 ≤ B.U.heap.size := Nat.le_trans x5 K.1
  exact ⟨⟨B.U.vm, _, _, a0, X', rfl, fun q => (by cases q), x4.trans hS hk, Nat.le_refl _, State.Warmed39.trans (t := s.setVm vm0) x6 hS.1, (hS.1.alike.findClass _ _).trans x7, x8.app N, x9.trans D, x10.go D, x11, x12.keep K (fun x hx => (x10 x (hm x hx)).1), C⟩, K, q⟩
theorem Wk.spW (X : Wk true p l e R s m args below meth c Z EL y bytes maxL ret n0 h0 T h sf cells slots) (hy1 : y'.name = "<init>") (w1 : (Cond.methodLink y.cls index y').before a1 Z = true) (w2 : (Cond.instanceMethod y').before a1 Z = true) {bytes' : ByteArray} {maxL' : Nat} (w3 : (Cond.code y' bytes' maxL' none).before a1 Z = true) (hy : y'.cls ≠ "java/lang/invoke/MethodHandle" ∧ y'.cls ≠ "java/lang/invoke/VarHandle")
    (hK : PayW l R p e below s args Z EL n0 y' 3 W as' h kc ks ws sv Q) (hm : ∀ x ∈ ws, x ∈ sf) (hv : ∀ x ∈ sv, x ∈ sf) {g : JFrame} (hg : g.method = m) (hsize : g.locals.size = maxL) {a : Addr} {argsL rest : List Value} (hlen : ∀ sig, parseMethodDescriptor y'.desc = some sig → argsL.length = sig.parameters.length) (hstack : g.stack = argsL.reverse ++ .ref a :: rest) (hW : 2 * g.monitorRoom + (rest.map fun v => v.category).sum ≤ W)
    (hd : decode bytes g.pc = .ok (.invokespecial index, 3)) (ha : (.ref a :: argsL).toArray = as') (hc : cells + kc ≤ R.cells) (hs : slots + ks ≤ R.slots) :
    ∃ (v : Option Value) (T' : State) (h' : Heap), Wk true p l e R s m args below meth c Z EL y bytes maxL ret n0 h0 T' h' sf (cells + kc) (slots + ks) ∧ Keep h h' ws ∧ Q v h' ∧ Steps p.tables e below (T.setTop g) (T'.setTop { g with pc := g.pc + 3, stack := v.toList ++ rest }) := by
  have hd := X.cd hd
  obtain ⟨vm0, k0, locs, a0, x1, rfl, x3, x4, x5, x6, x7, x8, x9, x10, x11, x12, CC⟩ := X
  obtain ⟨v, vm₁, B, hW1, X', hS, -, po, st⟩ := x1.specialBackS CC.1 hy1 x7 (mvT (s := s.setVm vm0) x6 w1) (mvT (s := s.setVm vm0) x6 w2) (mvT (s := s.setVm vm0) x6 w3) hy (hK vm0 x6 x9.1 (fun x hx => (x10 x (hv x hx)).2)) hg (hsize.trans CC.2.2.1.symm) (Steps.refl _) hlen hstack hW hd (fun _ _ => ⟨ha, rfl, hc, hs⟩)
  obtain ⟨q1, q2, q3⟩ := Wk.aftW X' hS po x4 x5 x6 x7 x8 x9 x10 x11 x12 CC hm
  exact ⟨v, _, _, q1, q2, q3, st⟩
theorem Wk.stW (X : Wk true p l e R s m args below meth c Z EL y bytes maxL ret n0 h0 T h sf cells slots) (w1 : (Cond.methodLink y.cls index y').before a1 Z = true) (w2 : (Cond.static y').before a1 Z = true) (wz : (Cond.initialized y'.cls).before a1 Z = true) {bytes' : ByteArray} {maxL' : Nat} {ret' : Option FieldType} (w3 : (Cond.code y' bytes' maxL' ret').before a1 Z = true) (hy : y'.cls ≠ "java/lang/invoke/MethodHandle" ∧ y'.cls ≠ "java/lang/invoke/VarHandle")
    (hK : PayW l R p e below s args Z EL n0 y' 3 W as' h kc ks ws sv Q) (hm : ∀ x ∈ ws, x ∈ sf) (hv : ∀ x ∈ sv, x ∈ sf) {g : JFrame} (hg : g.method = m) (hsize : g.locals.size = maxL) {argsL rest : List Value} (hlen : ∀ sig, parseMethodDescriptor y'.desc = some sig → argsL.length = sig.parameters.length) (hstack : g.stack = argsL.reverse ++ rest) (hW : 2 * g.monitorRoom + (rest.map fun v => v.category).sum ≤ W)
    (hd : decode bytes g.pc = .ok (.invokestatic index, 3)) (ha : argsL.toArray = as') (hc : cells + kc ≤ R.cells) (hs : slots + ks ≤ R.slots) :
    ∃ (v : Option Value) (T' : State) (h' : Heap), Wk true p l e R s m args below meth c Z EL y bytes maxL ret n0 h0 T' h' sf (cells + kc) (slots + ks) ∧ Keep h h' ws ∧ Q v h' ∧ Steps p.tables e below (T.setTop g) (T'.setTop { g with pc := g.pc + 3, stack := v.toList ++ rest }) := by
  have hd := X.cd hd
  obtain ⟨vm0, k0, locs, a0, x1, rfl, x3, x4, x5, x6, x7, x8, x9, x10, x11, x12, CC⟩ := X
  obtain ⟨v, vm₁, B, hW1, X', hS, -, po, st⟩ := callSS x1 CC.1 x7 (mvT (s := s.setVm vm0) x6 w1) (mvT (s := s.setVm vm0) x6 w2) (mvT (s := s.setVm vm0) x6 wz) (mvT (s := s.setVm vm0) x6 w3) hy (hK vm0 x6 x9.1 (fun x hx => (x10 x (hv x hx)).2)) hg (hsize.trans CC.2.2.1.symm) hlen hstack hW hd (fun _ _ => ⟨ha, rfl, hc, hs⟩)
  obtain ⟨q1, q2, q3⟩ := Wk.aftW X' hS po x4 x5 x6 x7 x8 x9 x10 x11 x12 CC hm
  exact ⟨v, _, _, q1, q2, q3, st⟩
end Calls
end OK
end Jvm.Pilot.@@N@@
namespace Jvm.Pilot.@@N@@
namespace OK
open Jvm Jvm.ClassFile Sem Op Lib Bundle Jvm.Stand Jvm.Free Jvm.LawKit Jvm.RoadKit
theorem ne_new {b a n : Nat} (l : b < n) (g : a = n) : b ≠ a := by omega
theorem ne_ge {b t n : Nat} (l : b < n) (g : n ≤ t) : b ≠ t := by omega
theorem up255 (cs : List Int32) (h : ∀ c ∈ cs, ¬ c < 0 ∧ ¬ (255 : Int32) < c) : ∀ c ∈ cs, ¬ c < 0 ∧ ¬ (65535 : Int32) < c := fun c hc => ⟨(h c hc).1, fun q => (h c hc).2 (by rw [Int32.lt_iff_toInt_lt] at q ⊢; have e1 : (65535 : Int32).toInt = 65535 := rfl; have e2 : (255 : Int32).toInt = 255 := rfl; omega)⟩
theorem nar_i2c (x : Int32) : nar .char x.toUInt32.toUInt16.toUInt32.toInt32 = x.toUInt32.toUInt16.toUInt32.toInt32 := by simp only [nar, UInt32.toUInt32_toInt32, UInt16.toUInt16_toUInt32]
theorem i2b_idem (c : Int32) : c.toInt8.toInt32.toInt8.toInt32 = c.toInt8.toInt32 := by simp
theorem all1 {P : Int32 → Prop} {a : Int32} {L : List Int32} (q : P a) (r : ∀ x ∈ L, P x) : ∀ x ∈ a :: L, P x := fun x z => (List.mem_cons.mp z).elim (fun u => u ▸ q) (r x)
theorem alln {P : Int32 → Prop} : ∀ x ∈ ([] : List Int32), P x := fun _ q => nomatch q
/-- a String object at x whose byte[] lies at t and that spells cs -/
def Str (Z : State) (h : Heap) (x t : Addr) (cs : List Int32) : Prop := ∃ (kb : ClassId) (cd N : Int32) (vs : List Value), Exa Z h x "java/lang/String" ∧ Fld Z h x "java/lang/String" "value" "[B" (.ref t) ∧ Fld Z h x "java/lang/String" "coder" "B" (.int cd) ∧ Arv Z h t kb .byte N vs (.int 0) ∧ StrChars.Road.CodA cs cd N vs ∧ (∀ c ∈ cs, ¬ c < 0 ∧ ¬ (65535 : Int32) < c) ∧ cs.length ≤ 4000
section Strs
variable {Z : State} {h h' : Heap} {x t : Addr} {cs : List Int32} {ws : List Addr} {n0 : Nat} {a0 : Array Value} {l : Launch} {R : Room} {p : Program} {e : Env} {below : List Frame} {s : State} {args : Array Value} {len W : Nat}
theorem Str.ext (F : Str Z h x t cs) (E : Ext h h') : Str Z h' x t cs := by obtain ⟨kb, cd, N, vs, f1, f2, f3, f4, r⟩ := F; exact ⟨kb, cd, N, vs, f1.ext E, f2.ext E, f3.ext E, f4.ext E, r⟩
theorem Str.keep (F : Str Z h x t cs) (K : Keep h h' ws) (q1 : x ∉ ws) (q2 : t ∉ ws) : Str Z h' x t cs := by obtain ⟨kb, cd, N, vs, f1, f2, f3, f4, r⟩ := F; exact ⟨kb, cd, N, vs, f1.keep K, f2.keep K q1, f3.keep K q1, f4.keep K q2, r⟩
theorem Str.other {a : Addr} {sl : Nat} {v : Value} (F : Str Z h x t cs) (W : Wr h h' a sl v) (q1 : x ≠ a) (q2 : t ≠ a) : Str Z h' x t cs := F.keep (Keep.of_wr W) (ninS q1 nin0) (ninS q2 nin0)
theorem Str.exa (F : Str Z h x t cs) : Exa Z h x "java/lang/String" := by obtain ⟨kb, cd, N, vs, f1, -⟩ := F; exact f1
theorem Str.lt (F : Str Z h x t cs) : x < h.size := F.exa.lt
theorem Str.lit {kb : ClassId} {N : Int32} {vs : List Value} (f1 : Exa Z h x "java/lang/String") (f3 : Fld Z h x "java/lang/String" "coder" "B" (.int 0)) (f2 : Fld Z h x "java/lang/String" "value" "[B" (.ref t)) (f4 : Arv Z h t kb .byte N vs (.int 0)) (hN : N = Int32.ofNat cs.length) (hv : vs = cs.map fun c => Value.int (StrChars.lo8 c)) (hp : ∀ c ∈ cs, ¬ c < 0 ∧ ¬ (255 : Int32) < c) (hl : cs.length ≤ 4000) : Str Z h x t cs :=
  ⟨kb, 0, N, vs, f1, f2, f3, f4, Or.inl ⟨rfl, hN, hv, fun c hc => (hp c hc).2⟩, up255 cs hp, hl⟩
end Strs
end OK
end Jvm.Pilot.@@N@@
namespace Jvm.Pilot.@@N@@
namespace OK
open Jvm Jvm.ClassFile Sem Op Lib Bundle Jvm.Stand Jvm.Free Jvm.LawKit Jvm.RoadKit
section StrE
variable {Z : State} {h h' : Heap} {x t : Addr} {cs : List Int32} {ws : List Addr} {n0 : Nat} {a0 : Array Value} {l : Launch} {R : Room} {p : Program} {e : Env} {below : List Frame} {s : State} {args : Array Value} {len W : Nat}
theorem payEq (hw : ∀ d ∈ StrChars.Road.wordsEq, d.before a0 Z = true) (wi : (Jvm.Cond.instantiable "java/lang/String" 4).before a0 Z = true) (hO : Old Z n0 h) {y u : Addr} {ds : List Int32} {z : Int32} (F : Str Z h x t cs) (G : Str Z h y u ds) (S : Sta Z Z.heap "java/lang/String" "COMPACT_STRINGS" "Z" (.int z)) (hz : ¬ z = 0) (hfr : 2 ≤ R.frames) (hlo : W + 28 ≤ R.locals) :
    Pay l R p e below s args Z n0 (⟨"java/lang/String", "equals", "(Ljava/lang/Object;)Z"⟩ : MethodName) len W #[.ref x, .ref y] h 0 0 [] (fun v h' => ∃ r : Int32, v = some (.int r) ∧ h = h' ∧ ((r = 1 ∧ cs = ds) ∨ (r = 0 ∧ ¬ cs = ds))) := fun vm0 hZ => by
  obtain ⟨kb, cd, N, vs, f1, f2, f3, f4, f5, f6, f7⟩ := F
  obtain ⟨kb', cd', N', vs', g1, g2, g3, g4, g5, g6, g7⟩ := G
  refine Back.mono (StrChars.Road.eqW (s := s.setVm vm0) hZ hw wi f1 f2 f3 f4 f5 f6 f7 g1 g2 g3 g4 g5 g6 g7 (S.ext hO.2) hz hfr hlo) (fun P a hp => hp) (fun P a v B _ hq => ?_)
  obtain ⟨L, ⟨q1, q2, q3⟩, hl, hc, hs⟩ := hq
  subst q2
  refine ⟨[], ⟨by rw [q3]; exact Keep.refl _ _, ?_, Fr.nil _⟩, hl, hc, hs⟩
  rcases q1 with ⟨rfl, q⟩ | ⟨rfl, q⟩
  · exact ⟨1, rfl, q3.symm, Or.inl ⟨rfl, q⟩⟩
  · exact ⟨0, rfl, q3.symm, Or.inr ⟨rfl, q⟩⟩
end StrE
end OK
end Jvm.Pilot.@@N@@
namespace Jvm.Pilot.@@N@@
namespace OK
open Jvm Jvm.ClassFile Sem Op Lib Bundle Jvm.Stand Jvm.Free Jvm.LawKit Jvm.RoadKit
theorem on_toInt {k : Nat} (h : k ≤ 100000) : (Int32.ofNat k).toInt = k := len_toInt (by omega)
theorem on_lt {a b : Nat} (ha : a ≤ 100000) (hb : b ≤ 100000) : Int32.ofNat a < Int32.ofNat b ↔ a < b := by rw [Int32.lt_iff_toInt_lt, on_toInt ha, on_toInt hb]; omega
theorem on_nn {a : Nat} (ha : a ≤ 100000) : ¬ Int32.ofNat a < 0 := by rw [Int32.lt_iff_toInt_lt, on_toInt ha]; have e : (0 : Int32).toInt = 0 := rfl; omega
theorem on_clamp {a : Nat} (ha : a ≤ 100000) : (Int32.ofNat a).toNatClampNeg = a := by simp only [Int32.toNatClampNeg, on_toInt ha]; omega
theorem on_succ (a : Nat) : Int32.ofNat a + (1 : Int32) = Int32.ofNat (a + 1) := by rw [Int32.ofNat_add]; rfl
theorem on_inj {a b : Nat} (ha : a ≤ 100000) (hb : b ≤ 100000) (h : Int32.ofNat a = Int32.ofNat b) : a = b := by have := congrArg Int32.toInt h; rw [on_toInt ha, on_toInt hb] at this; omega
theorem of255 {x : Int32} (h0 : ¬ x < 0) (h1 : ¬ 255 < x) : ∃ k : Fin 256, x = Int32.ofNat k.val := by
  rw [Int32.lt_iff_toInt_lt] at h0 h1
  have e0 : (0 : Int32).toInt = 0 := rfl
  have e1 : (255 : Int32).toInt = 255 := rfl
  exact ⟨⟨x.toInt.toNat, by omega⟩, by apply Int32.toInt_inj.mp; rw [on_toInt (by show x.toInt.toNat ≤ 100000; omega)]; show x.toInt = (x.toInt.toNat : Int); omega⟩
theorem lo8_back {x : Int32} (h0 : ¬ x < 0) (h1 : ¬ 255 < x) : x.toInt8.toInt32 &&& 255 = x := by
  have t : ∀ k : Fin 256, (Int32.ofNat k.val).toInt8.toInt32 &&& 255 = Int32.ofNat k.val := by decide +kernel
  obtain ⟨k, rfl⟩ := of255 h0 h1
  exact t k
theorem getD_mem' {cs : List Int32} {k : Nat} (hk : k < cs.length) : cs.getD k 0 ∈ cs := by simp [List.getD_eq_getElem?_getD, hk]
theorem mem_getD' {cs : List Int32} {c : Int32} (h : c ∈ cs) : ∃ k, k < cs.length ∧ cs.getD k 0 = c := by
  obtain ⟨k, hk, e⟩ := List.mem_iff_getElem.mp h
  exact ⟨k, hk, by simp [List.getD_eq_getElem?_getD, hk, e]⟩
section StrL
variable {Z : State} {h h' : Heap} {x t : Addr} {cs : List Int32} {ws : List Addr} {n0 : Nat} {a0 : Array Value} {l : Launch} {R : Room} {p : Program} {e : Env} {below : List Frame} {s : State} {args : Array Value} {len W : Nat}
/-- a Latin-1 String, opened -/
theorem Str.lat (F : Str Z h x t cs) (hp : ∀ c ∈ cs, ¬ (255 : Int32) < c) : ∃ kb : ClassId, Fld Z h x "java/lang/String" "value" "[B" (.ref t) ∧ Fld Z h x "java/lang/String" "coder" "B" (.int (0 : Int32)) ∧ Arv Z h t kb .byte (Int32.ofNat cs.length) (cs.map fun c => Value.int (StrChars.lo8 c)) (.int (0 : Int32)) ∧ cs.length ≤ 4000 := by
  obtain ⟨kb, cd, N, vs, f1, f2, f3, f4, f5, f6, f7⟩ := F
  rcases f5 with ⟨rfl, rfl, rfl, -⟩ | ⟨-, -, -, c, hc, hw⟩
  · exact ⟨kb, f2, f3, f4, f7⟩
  · exact absurd hw (hp c hc)
end StrL
end OK
end Jvm.Pilot.@@N@@
namespace Jvm.Pilot.@@N@@
namespace OK
open Jvm Jvm.ClassFile Sem Op Lib Bundle Jvm.Stand Jvm.Free Jvm.LawKit Jvm.RoadKit
section StrLen
variable {Z : State} {h h' : Heap} {x t : Addr} {cs : List Int32} {ws : List Addr} {n0 : Nat} {a0 : Array Value} {l : Launch} {R : Room} {p : Program} {e : Env} {below : List Frame} {s : State} {args : Array Value} {len W : Nat}
theorem payLen (hw : ∀ d ∈ StrChars.Road.wordsLen, d.before a0 Z = true) (wi : (Jvm.Cond.instantiable "java/lang/String" 4).before a0 Z = true) (hO : Old Z n0 h) {z : Int32} (F : Str Z h x t cs) (S : Sta Z Z.heap "java/lang/String" "COMPACT_STRINGS" "Z" (.int z)) (hz : ¬ z = 0) (hfr : 2 ≤ R.frames) (hlo : W + 25 ≤ R.locals) :
    Pay l R p e below s args Z n0 (⟨"java/lang/String", "length", "()I"⟩ : MethodName) len W #[.ref x] h 0 0 [] (fun v h' => v = some (.int (Int32.ofNat cs.length)) ∧ h = h') := fun vm0 hZ => by
  obtain ⟨kb, cd, N, vs, f1, f2, f3, f4, f5, f6, f7⟩ := F
  refine Back.mono (StrChars.Road.lenW (s := s.setVm vm0) hZ hw wi f1 f2 f3 f4 f5 f6 (S.ext hO.2) hz f7 hfr hlo) (fun P a hp => hp) (fun P a v B _ hq => ?_)
  obtain ⟨L, ⟨q1, q2, q3⟩, hl, hc, hs⟩ := hq
  subst q2
  exact ⟨[], ⟨by rw [q3]; exact Keep.refl _ _, ⟨q1, q3.symm⟩, Fr.nil _⟩, hl, hc, hs⟩
end StrLen
end OK
end Jvm.Pilot.@@N@@
namespace Jvm.Pilot.@@N@@
namespace OK
open Jvm Jvm.ClassFile Sem Op Lib Bundle Jvm.Stand Jvm.Free Jvm.LawKit Jvm.RoadKit
section Calls6
variable {b : Bool} {p : Program} {l : Launch} {e : Env} {R : Room} {s : State} {m : MethodId} {args : Array Value} {below : List Frame} {meth : Method} {c : Code} {Z : State} {EL : List (String × Nat)} {y : MethodName} {bytes : ByteArray} {maxL : Nat} {ret : Option FieldType} {n0 : Nat} {h0 : Heap} {T : State} {h h' : Heap} {sf ws sv : List Addr} {cells slots : Nat} {a1 : Array Value} {Q : Option Value → Heap → Prop} {y' z' : MethodName} {index W kc ks : Nat} {as' : Array Value}
end Calls6
end OK
end Jvm.Pilot.@@N@@
namespace Jvm.Pilot.@@N@@
namespace OK
open Jvm Jvm.ClassFile Sem Op Lib Bundle Jvm.Stand Jvm.Free Jvm.LawKit Jvm.RoadKit
section Cp
variable {b : Bool} {p : Program} {l : Launch} {e : Env} {R : Room} {s : State} {m : MethodId} {args : Array Value} {below : List Frame} {meth : Method} {c : Code} {Z : State} {EL : List (String × Nat)} {y : MethodName} {bytes : ByteArray} {maxL : Nat} {ret : Option FieldType} {n0 : Nat} {h0 : Heap} {T : State} {h : Heap} {sf : List Addr} {cells slots : Nat} {a1 : Array Value}
/-- System.arraycopy between two arrays of one primitive type; the target's list is padded up to the end of the stretch -/
theorem Wk.cpA (X : Wk b p l e R s m args below meth c Z EL y bytes maxL ret n0 h0 T h sf cells slots) {index : Nat} (w1 : (Cond.methodLink y.cls index Jvm.Stand.acN).before a1 Z = true) (w2 : (Cond.native Jvm.Stand.acN).before a1 Z = true) (w3 : (Cond.static Jvm.Stand.acN).before a1 Z = true) (w4 : (Cond.initialized "java/lang/System").before a1 Z = true)
    {a d : Addr} {k k' : ClassId} {ty : FieldType} {z z' sp dp nn : Int32} {vs vd us vr : List Value} {dv dd : Value} (A : Arv Z h a k ty z vs dv) (B : Arv Z h d k' ty z' vd dd) (hty : refKind ty = false) (hm : d ∈ sf)
    (h1 : ¬ sp < 0) (h2 : ¬ dp < 0) (h3 : ¬ nn < 0) (h4 : sp.toNatClampNeg + nn.toNatClampNeg ≤ z.toNatClampNeg) (h5 : dp.toNatClampNeg + nn.toNatClampNeg ≤ z'.toNatClampNeg)
    (hus : us = (List.range nn.toNatClampNeg).map fun i => vs.getD (sp.toNatClampNeg + i) dv) (hl : dp.toNatClampNeg + nn.toNatClampNeg ≤ vd.length) (hr : vd.take dp.toNatClampNeg ++ us ++ vd.drop (dp.toNatClampNeg + nn.toNatClampNeg) = vr)
    {g : JFrame} (hg : g.method = m) (hsize : g.locals.size = maxL) {rest : List Value} (hs : g.stack = .int nn :: .int dp :: .ref d :: .int sp :: .ref a :: rest) (hd : decode bytes g.pc = .ok (.invokestatic index, 3))
    (hf : 1 ≤ R.frames) {W : Nat} (hW : 2 * g.monitorRoom + (rest.map fun v => v.category).sum ≤ W) (hlo : W + (nativeFrameWords "java/lang/System" "arraycopy" 5 + 11) ≤ R.locals) :
    ∃ (T' : State) (h' : Heap), Wk b p l e R s m args below meth c Z EL y bytes maxL ret n0 h0 T' h' sf cells slots ∧ Keep h h' [d] ∧ Arv Z h' d k' ty z' vr dd ∧
      ∀ t, Steps p.tables e below (T'.setTop { g with pc := g.pc + 3, stack := rest }) t → Steps p.tables e below (T.setTop g) t := by
  have hd := X.cd hd
  obtain ⟨vm0, k0, locs, a0, x1, rfl, x3, x4, x5, x6, x7, x8, x9, x10, x11, x12, CC⟩ := X
  obtain ⟨T', h', L, X', e', N, K, F, st⟩ := RoadKit.cpA x1 CC.1 (s := s.setVm vm0) x6 x7 w1 w2 w3 w4 rfl A B (Or.inl ⟨rfl, hty⟩) h1 h2 h3 h4 h5 hus hl x8 (x10 d hm).1 hg (hsize.trans CC.2.2.1.symm) hs hd hf hW hlo
  have hS : ∀ x ∈ [d], x ∈ sf := fun x hx => by rcases List.mem_cons.mp hx with rfl | q; exact hm; cases q
  have D : CHr Z EL vm0 T.heap vm0 h' := CHr.keep K (fun x hx => (x10 x (hS x hx)).2.2) x9.1
  rw [hr] at F
  exact ⟨T', h', ⟨vm0, k0, L, a0, X', e', x3, x4, Nat.le_trans x5 K.1, x6, x7, N, x9.trans D, x10.go D, x11, x12.keep K (fun x hx => (x10 x (hS x hx)).1), CC⟩, K, F, st⟩
end Cp
end OK
end Jvm.Pilot.@@N@@
namespace Jvm.Pilot.@@N@@
namespace OK
open Jvm Jvm.ClassFile Sem Op Lib Bundle Jvm.Stand Jvm.Free Jvm.LawKit Jvm.RoadKit
section Calls9
variable {b : Bool} {p : Program} {l : Launch} {e : Env} {R : Room} {s : State} {m : MethodId} {args : Array Value} {below : List Frame} {meth : Method} {c : Code} {Z : State} {EL : List (String × Nat)} {y : MethodName} {bytes : ByteArray} {maxL : Nat} {ret : Option FieldType} {n0 : Nat} {h0 : Heap} {T : State} {h h' : Heap} {sf ws sv : List Addr} {cells slots : Nat} {a1 : Array Value} {Q : Option Value → Heap → Prop} {y' z' : MethodName} {index W kc ks : Nat} {as' : Array Value}
theorem Wk.aftX {vm0 : Vm} {k0 : Nat} {locs : List Loc} {a0 : Array Value} {v : Option Value} {B : Pt} (X' : Stand p l e R (s.setVm vm0) m args below meth c B.U B.locs B.cells B.slots) (po : ∃ L, (Keep h B.U.heap ws ∧ Q v B.U.heap ∧ Fr n0 L) ∧ B.locs = locs ++ L ∧ B.cells = cells + kc ∧ B.slots = slots + ks)
    (x3 : b = false → vm0 = s.vm) (x4 : s.Since vm0 k0) (x5 : k0 ≤ h.size) (x6 : Z.Warmed39 vm0) (x7 : vm0.findClass y.cls = some m.cls) (x8 : Fr n0 locs) (x9 : CHr Z EL s.vm h0 vm0 h) (x10 : Sfs Z EL n0 vm0 h sf) (x11 : EW Z a0 EL) (x12 : Old Z n0 h) (C : Cst p meth c y bytes maxL ret) (hm : ∀ x ∈ ws, x ∈ sf) :
    (∀ fr : List Addr, (∀ a ∈ fr, a ∈ sf ∨ (h.size ≤ a ∧ a < B.U.heap.size)) → Wk b p l e R s m args below meth c Z EL y bytes maxL ret n0 h0 B.U B.U.heap (fr ++ sf) (cells + kc) (slots + ks)) ∧ Keep h B.U.heap ws ∧ Q v B.U.heap := by
  obtain ⟨L, ⟨K, q, N⟩, l1, l2, l3⟩ := po
  have hs : ∀ x ∈ ws, Safe Z EL vm0 h x := fun x hx => (x10 x (hm x hx)).2.2
  have D : CHr Z EL vm0 h vm0 B.U.heap := CHr.keep K hs x9.1
  have hn : n0 ≤ h.size := by rw [← x12.1]; exact x12.2.1
  rw [l1, l2, l3] at X'
  refine ⟨fun fr hf => ⟨vm0, k0, _, a0, X', rfl, x3, x4, Nat.le_trans x5 K.1, x6, x7, x8.app N, x9.trans D, fun x hx => ?_, x11, x12.keep K (fun x hx => (x10 x (hm x hx)).1), C⟩, K, q⟩
  rcases List.mem_append.mp hx with hx | hx
  · rcases hf x hx with hx | ⟨q1, q2⟩
    · exact (x10.go D) x hx
    · exact ⟨Nat.le_trans hn q1, q2, Safe.keep K hs x9.1 (Safe.new q1)⟩
  · exact (x10.go D) x hx
theorem Wk.spX (X : Wk b p l e R s m args below meth c Z EL y bytes maxL ret n0 h0 T h sf cells slots) (hy1 : y'.name = "<init>") (w1 : (Cond.methodLink y.cls index y').before a1 Z = true) (w2 : (Cond.instanceMethod y').before a1 Z = true) {bytes' : ByteArray} {maxL' : Nat} (w3 : (Cond.code y' bytes' maxL' none).before a1 Z = true) (hy : y'.cls ≠ "java/lang/invoke/MethodHandle" ∧ y'.cls ≠ "java/lang/invoke/VarHandle")
    (hK : Pay l R p e below s args Z n0 y' 3 W as' h kc ks ws Q) (hm : ∀ x ∈ ws, x ∈ sf) {g : JFrame} (hg : g.method = m) (hsize : g.locals.size = maxL) {a : Addr} {argsL rest : List Value} (hlen : ∀ sig, parseMethodDescriptor y'.desc = some sig → argsL.length = sig.parameters.length) (hstack : g.stack = argsL.reverse ++ .ref a :: rest) (hW : 2 * g.monitorRoom + (rest.map fun v => v.category).sum ≤ W)
    (hd : decode bytes g.pc = .ok (.invokespecial index, 3)) (ha : (.ref a :: argsL).toArray = as') (hc : cells + kc ≤ R.cells) (hs : slots + ks ≤ R.slots) :
    ∃ (v : Option Value) (T' : State) (h' : Heap), (∀ fr : List Addr, (∀ a ∈ fr, a ∈ sf ∨ (h.size ≤ a ∧ a < h'.size)) → Wk b p l e R s m args below meth c Z EL y bytes maxL ret n0 h0 T' h' (fr ++ sf) (cells + kc) (slots + ks)) ∧ Keep h h' ws ∧ Q v h' ∧ Steps p.tables e below (T.setTop g) (T'.setTop { g with pc := g.pc + 3, stack := v.toList ++ rest }) := by
  have hd := X.cd hd
  obtain ⟨vm0, k0, locs, a0, x1, rfl, x3, x4, x5, x6, x7, x8, x9, x10, x11, x12, CC⟩ := X
  obtain ⟨v, vm₁, B, hW1, X', po, st⟩ := x1.specialBack CC.1 hy1 x7 (mvT (s := s.setVm vm0) x6 w1) (mvT (s := s.setVm vm0) x6 w2) (mvT (s := s.setVm vm0) x6 w3) hy (hK vm0 x6) hg (hsize.trans CC.2.2.1.symm) (Steps.refl _) hlen hstack hW hd (fun _ _ => ⟨ha, rfl, hc, hs⟩)
  obtain ⟨q1, q2, q3⟩ := Wk.aftX X' po x3 x4 x5 x6 x7 x8 x9 x10 x11 x12 CC hm
  exact ⟨v, _, _, q1, q2, q3, st⟩
theorem Wk.stX (X : Wk b p l e R s m args below meth c Z EL y bytes maxL ret n0 h0 T h sf cells slots) (w1 : (Cond.methodLink y.cls index y').before a1 Z = true) (w2 : (Cond.static y').before a1 Z = true) (wz : (Cond.initialized y'.cls).before a1 Z = true) {bytes' : ByteArray} {maxL' : Nat} {ret' : Option FieldType} (w3 : (Cond.code y' bytes' maxL' ret').before a1 Z = true) (hy : y'.cls ≠ "java/lang/invoke/MethodHandle" ∧ y'.cls ≠ "java/lang/invoke/VarHandle")
    (hK : Pay l R p e below s args Z n0 y' 3 W as' h kc ks ws Q) (hm : ∀ x ∈ ws, x ∈ sf) {g : JFrame} (hg : g.method = m) (hsize : g.locals.size = maxL) {argsL rest : List Value} (hlen : ∀ sig, parseMethodDescriptor y'.desc = some sig → argsL.length = sig.parameters.length) (hstack : g.stack = argsL.reverse ++ rest) (hW : 2 * g.monitorRoom + (rest.map fun v => v.category).sum ≤ W)
    (hd : decode bytes g.pc = .ok (.invokestatic index, 3)) (ha : argsL.toArray = as') (hc : cells + kc ≤ R.cells) (hs : slots + ks ≤ R.slots) :
    ∃ (v : Option Value) (T' : State) (h' : Heap), (∀ fr : List Addr, (∀ a ∈ fr, a ∈ sf ∨ (h.size ≤ a ∧ a < h'.size)) → Wk b p l e R s m args below meth c Z EL y bytes maxL ret n0 h0 T' h' (fr ++ sf) (cells + kc) (slots + ks)) ∧ Keep h h' ws ∧ Q v h' ∧ Steps p.tables e below (T.setTop g) (T'.setTop { g with pc := g.pc + 3, stack := v.toList ++ rest }) := by
  have hd := X.cd hd
  obtain ⟨vm0, k0, locs, a0, x1, rfl, x3, x4, x5, x6, x7, x8, x9, x10, x11, x12, CC⟩ := X
  obtain ⟨v, vm₁, B, hW1, X', po, st⟩ := Jvm.LawKit.callS x1 CC.1 x7 (mvT (s := s.setVm vm0) x6 w1) (mvT (s := s.setVm vm0) x6 w2) (mvT (s := s.setVm vm0) x6 wz) (mvT (s := s.setVm vm0) x6 w3) hy (hK vm0 x6) hg (hsize.trans CC.2.2.1.symm) hlen hstack hW hd (fun _ _ => ⟨ha, rfl, hc, hs⟩)
  obtain ⟨q1, q2, q3⟩ := Wk.aftX X' po x3 x4 x5 x6 x7 x8 x9 x10 x11 x12 CC hm
  exact ⟨v, _, _, q1, q2, q3, st _ (Steps.refl _)⟩
theorem Wk.viX (X : Wk b p l e R s m args below meth c Z EL y bytes maxL ret n0 h0 T h sf cells slots) {C : String} (w1 : (Cond.methodLink y.cls index y').before a1 Z = true) (w2 : (Cond.declares y').before a1 Z = true) (w3 : (Cond.selects C y' y').before a1 Z = true) (w4 : (Cond.instanceMethod y').before a1 Z = true) (hy : y'.cls ≠ "java/lang/invoke/MethodHandle" ∧ y'.cls ≠ "java/lang/invoke/VarHandle")
    (hK : Pay l R p e below s args Z n0 y' 3 W as' h kc ks ws Q) (hm : ∀ x ∈ ws, x ∈ sf) {a : Addr} (E : Exa Z h a C) {g : JFrame} (hg : g.method = m) (hsize : g.locals.size = maxL) {argsL rest : List Value} (hlen : ∀ sig, parseMethodDescriptor y'.desc = some sig → argsL.length = sig.parameters.length) (hstack : g.stack = argsL.reverse ++ .ref a :: rest) (hW : 2 * g.monitorRoom + (rest.map fun v => v.category).sum ≤ W)
    (hd : decode bytes g.pc = .ok (.invokevirtual index, 3)) (ha : (.ref a :: argsL).toArray = as') (hc : cells + kc ≤ R.cells) (hs : slots + ks ≤ R.slots) :
    ∃ (v : Option Value) (T' : State) (h' : Heap), (∀ fr : List Addr, (∀ a ∈ fr, a ∈ sf ∨ (h.size ≤ a ∧ a < h'.size)) → Wk b p l e R s m args below meth c Z EL y bytes maxL ret n0 h0 T' h' (fr ++ sf) (cells + kc) (slots + ks)) ∧ Keep h h' ws ∧ Q v h' ∧ Steps p.tables e below (T.setTop g) (T'.setTop { g with pc := g.pc + 3, stack := v.toList ++ rest }) := by
  have hd := X.cd hd
  obtain ⟨vm0, k0, locs, a0, x1, rfl, x3, x4, x5, x6, x7, x8, x9, x10, x11, x12, CC⟩ := X
  obtain ⟨cq, kq, q1, q2, q3⟩ := isOf (s := s.setVm vm0) (T := T) x6 rfl E
  obtain ⟨v, vm₁, B, hW1, X', po, st⟩ := x1.virtualBack CC.1 x7 (mvT (s := s.setVm vm0) x6 w1) (mvT (s := s.setVm vm0) x6 w2) (notFace_of_selects (args := #[]) (mvT (s := s.setVm vm0) x6 w3)) (mvT (s := s.setVm vm0) x6 w3) (mvT (s := s.setVm vm0) x6 w4) hy (hK vm0 x6) q1 q3 hg (hsize.trans CC.2.2.1.symm) (Steps.refl _) hlen hstack hW hd (fun _ _ => ⟨ha, rfl, hc, hs⟩)
  obtain ⟨q1, q2, q3⟩ := Wk.aftX X' po x3 x4 x5 x6 x7 x8 x9 x10 x11 x12 CC hm
  exact ⟨v, _, _, q1, q2, q3, st⟩
theorem Wk.pvX (X : Wk b p l e R s m args below meth c Z EL y bytes maxL ret n0 h0 T h sf cells slots) (w1 : (Cond.methodLink y.cls index y').before a1 Z = true) (w2 : (Cond.instanceMethod y').before a1 Z = true) (w3 : (Cond.selects y'.cls y' y').before a1 Z = true) (w4 : (Cond.privateMethod y').before a1 Z = true) {bytes' : ByteArray} {maxL' : Nat} {ret' : Option FieldType} (w5 : (Cond.code y' bytes' maxL' ret').before a1 Z = true) (hy : y'.cls ≠ "java/lang/invoke/MethodHandle" ∧ y'.cls ≠ "java/lang/invoke/VarHandle")
    (hK : Pay l R p e below s args Z n0 y' 3 W as' h kc ks ws Q) (hm : ∀ x ∈ ws, x ∈ sf) {C : String} {a : Addr} (E : Exa Z h a C) {g : JFrame} (hg : g.method = m) (hsize : g.locals.size = maxL) {argsL rest : List Value} (hlen : ∀ sig, parseMethodDescriptor y'.desc = some sig → argsL.length = sig.parameters.length) (hstack : g.stack = argsL.reverse ++ .ref a :: rest) (hW : 2 * g.monitorRoom + (rest.map fun v => v.category).sum ≤ W)
    (hd : decode bytes g.pc = .ok (.invokevirtual index, 3)) (ha : (.ref a :: argsL).toArray = as') (hc : cells + kc ≤ R.cells) (hs : slots + ks ≤ R.slots) :
    ∃ (v : Option Value) (T' : State) (h' : Heap), (∀ fr : List Addr, (∀ a ∈ fr, a ∈ sf ∨ (h.size ≤ a ∧ a < h'.size)) → Wk b p l e R s m args below meth c Z EL y bytes maxL ret n0 h0 T' h' (fr ++ sf) (cells + kc) (slots + ks)) ∧ Keep h h' ws ∧ Q v h' ∧ Steps p.tables e below (T.setTop g) (T'.setTop { g with pc := g.pc + 3, stack := v.toList ++ rest }) := by
  have hd := X.cd hd
  obtain ⟨vm0, k0, locs, a0, x1, rfl, x3, x4, x5, x6, x7, x8, x9, x10, x11, x12, CC⟩ := X
  obtain ⟨cl, q1, q2⟩ := E.cell
  obtain ⟨v, vm₁, B, hW1, X', po, st⟩ := x1.privateBack CC.1 x7 (mvT (s := s.setVm vm0) x6 w1) (mvT (s := s.setVm vm0) x6 w2) (mvT (s := s.setVm vm0) x6 w3) (Cond.privateMethod_at (mvP (args := args) (s := s.setVm vm0) x6 w4)) (mvT (s := s.setVm vm0) x6 w5) hy (hK vm0 x6) hg (hsize.trans CC.2.2.1.symm) (Steps.refl _) q1 q2 hlen hstack hW hd (fun _ _ => ⟨ha, rfl, hc, hs⟩)
  obtain ⟨q1, q2, q3⟩ := Wk.aftX X' po x3 x4 x5 x6 x7 x8 x9 x10 x11 x12 CC hm
  exact ⟨v, _, _, q1, q2, q3, st⟩
theorem Wk.voX (X : Wk b p l e R s m args below meth c Z EL y bytes maxL ret n0 h0 T h sf cells slots) {C : String} (w1 : (Cond.methodLink y.cls index y').before a1 Z = true) (w2 : (Cond.declares y').before a1 Z = true) (hnf : ∀ vm0, Z.Warmed39 vm0 → NotFace (s.setVm vm0) y') (w3 : (Cond.selects C y' z').before a1 Z = true) (w4 : (Cond.instanceMethod z').before a1 Z = true) (hy : y'.cls ≠ "java/lang/invoke/MethodHandle" ∧ y'.cls ≠ "java/lang/invoke/VarHandle")
    (hK : Pay l R p e below s args Z n0 z' 3 W as' h kc ks ws Q) (hm : ∀ x ∈ ws, x ∈ sf) {a : Addr} (E : Exa Z h a C) {g : JFrame} (hg : g.method = m) (hsize : g.locals.size = maxL) {argsL rest : List Value} (hlen : ∀ sig, parseMethodDescriptor y'.desc = some sig → argsL.length = sig.parameters.length) (hstack : g.stack = argsL.reverse ++ .ref a :: rest) (hW : 2 * g.monitorRoom + (rest.map fun v => v.category).sum ≤ W)
    (hd : decode bytes g.pc = .ok (.invokevirtual index, 3)) (ha : (.ref a :: argsL).toArray = as') (hc : cells + kc ≤ R.cells) (hs : slots + ks ≤ R.slots) :
    ∃ (v : Option Value) (T' : State) (h' : Heap), (∀ fr : List Addr, (∀ a ∈ fr, a ∈ sf ∨ (h.size ≤ a ∧ a < h'.size)) → Wk b p l e R s m args below meth c Z EL y bytes maxL ret n0 h0 T' h' (fr ++ sf) (cells + kc) (slots + ks)) ∧ Keep h h' ws ∧ Q v h' ∧ Steps p.tables e below (T.setTop g) (T'.setTop { g with pc := g.pc + 3, stack := v.toList ++ rest }) := by
  have hd := X.cd hd
  obtain ⟨vm0, k0, locs, a0, x1, rfl, x3, x4, x5, x6, x7, x8, x9, x10, x11, x12, CC⟩ := X
  obtain ⟨cq, kq, q1, q2, q3⟩ := isOf (s := s.setVm vm0) (T := T) x6 rfl E
  obtain ⟨v, vm₁, B, hW1, X', po, st⟩ := x1.virtualBack CC.1 x7 (mvT (s := s.setVm vm0) x6 w1) (mvT (s := s.setVm vm0) x6 w2) (hnf vm0 x6) (mvT (s := s.setVm vm0) x6 w3) (mvT (s := s.setVm vm0) x6 w4) hy (hK vm0 x6) q1 q3 hg (hsize.trans CC.2.2.1.symm) (Steps.refl _) hlen hstack hW hd (fun _ _ => ⟨ha, rfl, hc, hs⟩)
  obtain ⟨q1, q2, q3⟩ := Wk.aftX X' po x3 x4 x5 x6 x7 x8 x9 x10 x11 x12 CC hm
  exact ⟨v, _, _, q1, q2, q3, st⟩
end Calls9
end OK
end Jvm.Pilot.@@N@@
namespace Jvm.Pilot.@@N@@
namespace OK
open Jvm Jvm.ClassFile Sem Op Lib Bundle Jvm.Stand Jvm.Free Jvm.LawKit Jvm.RoadKit
section Calls10
variable {b : Bool} {p : Program} {l : Launch} {e : Env} {R : Room} {s : State} {m : MethodId} {args : Array Value} {below : List Frame} {meth : Method} {c : Code} {Z : State} {EL : List (String × Nat)} {y : MethodName} {bytes : ByteArray} {maxL : Nat} {ret : Option FieldType} {n0 : Nat} {h0 : Heap} {T : State} {h h' : Heap} {sf ws sv : List Addr} {cells slots : Nat} {a1 : Array Value} {Q : Option Value → Heap → Prop} {y' z' : MethodName} {index W kc ks : Nat} {as' : Array Value}
theorem own_same {Z : State} {a0 : Array Value} {y : MethodName} {own : String} (w : (Cond.instanceMethod y).before a0 Z = true) (ws : (Cond.superclass own y.cls).before a0 Z = true) (hy : y.cls ≠ "java/lang/invoke/MethodHandle" ∧ y.cls ≠ "java/lang/invoke/VarHandle") (hi : ∀ c k, Z.vm.findClass y.cls = some c → Z.vm.classes[c]? = some k → k.isInterface = false) : (Cond.sameMethod y.cls y.cls y.name y.desc).before a0 Z = true := by
  obtain ⟨mk, methM, hnamed, hmethM, -, -⟩ := Cond.instanceMethod_spec w
  have hfound : Z.methodFound? y.cls y.name y.desc = some mk := State.methodFound?_of_named hnamed hy
  have hc := findClass_of_methodNamed hnamed
  obtain ⟨k, hk, -⟩ := className_of_methodNamed hnamed
  have hni := hi _ _ hc hk
  simp [Cond.before, Cond.holds, Cond.value, hc, hfound, hnamed, hk, hni]
theorem own_selfsel {Z : State} {a0 : Array Value} {C : String} {y : MethodName} (w : (Cond.instanceMethod y).before a0 Z = true) (w3 : (Cond.selects C y y).before a0 Z = true) (w4 : (Cond.privateMethod y).before a0 Z = true) (hy : y.cls ≠ "java/lang/invoke/MethodHandle" ∧ y.cls ≠ "java/lang/invoke/VarHandle") : (Cond.selects y.cls y y).before a0 Z = true := by
  obtain ⟨c2, r2, m2, q1, q2, q3, q4, mk, q5, q6⟩ := Cond.selects_spec w3
  exact selects_self_of_private (findClass_of_methodNamed q3) q5 q6 (Cond.privateMethod_at w4) w hy
theorem own_notface {Z : State} {a0 : Array Value} {C : String} {y : MethodName} (w : (Cond.instanceMethod y).before a0 Z = true) (w3 : (Cond.selects C y y).before a0 Z = true) : ∀ c k, Z.vm.findClass y.cls = some c → Z.vm.classes[c]? = some k → k.isInterface = false := fun c k hc hk => by
  obtain ⟨c2, r2, m2, q1, q2, q3, q4, mk, q5, q6⟩ := Cond.selects_spec w3
  have e := findClass_of_methodNamed q3
  cases e.symm.trans hc; cases q5.symm.trans hk; exact q6
theorem own_nf {Z s : State} {a0 : Array Value} {C : String} {y y2 : MethodName} (e : y2.cls = y.cls) (w3 : (Cond.selects C y2 y2).before a0 Z = true) : ∀ vm0, Z.Warmed39 vm0 → NotFace (s.setVm vm0) y := fun vm0 hZ r0 h0 => by
  obtain ⟨c2, r2, m2, q1, q2, q3, q4, mk, q5, q6⟩ := Cond.selects_spec (mvT (s := s.setVm vm0) (args := a0) hZ w3)
  have e1 := findClass_of_methodNamed q3
  have e2 := findClass_of_methodNamed h0
  rw [e] at e1
  have e3 : m2.cls = r0.cls := Option.some.inj (e1.symm.trans e2)
  exact ⟨mk, e3 ▸ q5, q6⟩
theorem Wk.suX (X : Wk b p l e R s m args below meth c Z EL y bytes maxL ret n0 h0 T h sf cells slots) {K : String} (w1 : (Cond.methodLink y.cls index y').before a1 Z = true) (w2 : (Cond.sameMethod y'.cls y'.cls y'.name y'.desc).before a1 Z = true) (w3 : (Cond.instanceMethod y').before a1 Z = true) (w4 : (Cond.superclass y.cls y'.cls).before a1 Z = true) (hn : y'.name ≠ "<init>") {bytes' : ByteArray} {maxL' : Nat} {ret' : Option FieldType} (wc : (Cond.code y' bytes' maxL' ret').before a1 Z = true)
    (hK : Pay l R p e below s args Z n0 y' 3 W as' h kc ks ws Q) (hm : ∀ x ∈ ws, x ∈ sf) {a : Addr} (E : Ins Z h a K true) {g : JFrame} (hg : g.method = m) (hsize : g.locals.size = maxL) {argsL rest : List Value} (hlen : ∀ sig, parseMethodDescriptor y'.desc = some sig → argsL.length = sig.parameters.length) (hstack : g.stack = argsL.reverse ++ .ref a :: rest) (hW : 2 * g.monitorRoom + (rest.map fun v => v.category).sum ≤ W)
    (hd : decode bytes g.pc = .ok (.invokespecial index, 3)) (ha : (.ref a :: argsL).toArray = as') (hc : cells + kc ≤ R.cells) (hs : slots + ks ≤ R.slots) :
    ∃ (v : Option Value) (T' : State) (h' : Heap), (∀ fr : List Addr, (∀ a ∈ fr, a ∈ sf ∨ (h.size ≤ a ∧ a < h'.size)) → Wk b p l e R s m args below meth c Z EL y bytes maxL ret n0 h0 T' h' (fr ++ sf) (cells + kc) (slots + ks)) ∧ Keep h h' ws ∧ Q v h' ∧ Steps p.tables e below (T.setTop g) (T'.setTop { g with pc := g.pc + 3, stack := v.toList ++ rest }) := by
  have hd := X.cd hd
  obtain ⟨vm0, k0, locs, a0, x1, rfl, x3, x4, x5, x6, x7, x8, x9, x10, x11, x12, CC⟩ := X
  obtain ⟨v, vm₁, B, hW1, X', po, st⟩ := superBack (s := s.setVm vm0) x1 CC.1 x6 x7 w1 w2 w3 w4 hn (hK vm0 x6) rfl E hg (hsize.trans CC.2.2.1.symm) wc hlen hstack hW hd (fun _ _ => ⟨ha, rfl, hc, hs⟩)
  obtain ⟨q1, q2, q3⟩ := Wk.aftX X' po x3 x4 x5 x6 x7 x8 x9 x10 x11 x12 CC hm
  exact ⟨v, _, _, q1, q2, q3, st⟩
end Calls10
end OK
end Jvm.Pilot.@@N@@
namespace Jvm.Pilot.@@N@@
namespace OK
open Jvm Jvm.ClassFile Sem Op Lib Bundle Jvm.Stand Jvm.Free Jvm.LawKit Jvm.RoadKit
section Steps11
variable {b : Bool} {p : Program} {l : Launch} {e : Env} {R : Room} {s : State} {m : MethodId} {args : Array Value} {below : List Frame} {meth : Method} {c : Code} {Z : State} {EL : List (String × Nat)} {y : MethodName} {bytes : ByteArray} {maxL : Nat} {ret : Option FieldType} {n0 : Nat} {h0 : Heap} {T : State} {h : Heap} {sf : List Addr} {cells slots : Nat} {Fi : State → Outcome → Prop}
theorem Wk.ishr (X : Wk b p l e R s m args below meth c Z EL y bytes maxL ret n0 h0 T h sf cells slots) {pc : Nat} {L : Array Slot} {st : List Value} {x : Int32} {y : Int32} {rest : List Value} (hd : decode bytes pc = .ok (.ishr, 1)) (hs : st = .int y :: .int x :: rest) (hr : Go p e below Fi (T.setTop (mkF m (pc + 1) L (.int (x >>> (y &&& 31)) :: rest)))) : Go p e below Fi (T.setTop (mkF m pc L st)) := Go.by (fun _ z => XS.ishr (g := mkF m pc L st) X.here X.hx rfl (X.cd hd) hs z) hr
theorem Wk.ior (X : Wk b p l e R s m args below meth c Z EL y bytes maxL ret n0 h0 T h sf cells slots) {pc : Nat} {L : Array Slot} {st : List Value} {x : Int32} {y : Int32} {rest : List Value} (hd : decode bytes pc = .ok (.ior, 1)) (hs : st = .int y :: .int x :: rest) (hr : Go p e below Fi (T.setTop (mkF m (pc + 1) L (.int (x ||| y) :: rest)))) : Go p e below Fi (T.setTop (mkF m pc L st)) := Go.by (fun _ z => XS.ior (g := mkF m pc L st) X.here X.hx rfl (X.cd hd) hs z) hr
theorem Wk.iushr (X : Wk b p l e R s m args below meth c Z EL y bytes maxL ret n0 h0 T h sf cells slots) {pc : Nat} {L : Array Slot} {st : List Value} {x : Int32} {y : Int32} {rest : List Value} (hd : decode bytes pc = .ok (.iushr, 1)) (hs : st = .int y :: .int x :: rest) (hr : Go p e below Fi (T.setTop (mkF m (pc + 1) L (.int ((x.toUInt32 >>> (y &&& 31).toUInt32).toInt32) :: rest)))) : Go p e below Fi (T.setTop (mkF m pc L st)) := Go.by (fun _ z => XS.iushr (g := mkF m pc L st) X.here X.hx rfl (X.cd hd) hs z) hr
theorem Wk.aconstNull (X : Wk b p l e R s m args below meth c Z EL y bytes maxL ret n0 h0 T h sf cells slots) {pc : Nat} {L : Array Slot} {st : List Value} (hd : decode bytes pc = .ok (.aconst_null, 1)) (hr : Go p e below Fi (T.setTop (mkF m (pc + 1) L (.null :: st)))) : Go p e below Fi (T.setTop (mkF m pc L st)) := Go.by (fun _ z => XS.aconstNull (g := mkF m pc L st) X.here X.hx rfl (X.cd hd) z) hr
theorem Wk.dupX1 (X : Wk b p l e R s m args below meth c Z EL y bytes maxL ret n0 h0 T h sf cells slots) {pc : Nat} {L : Array Slot} {st : List Value} {x y : Value} {rest : List Value} (hd : decode bytes pc = .ok (.dup_x1, 1)) (hs : st = x :: y :: rest) (hc : x.category = 1) (hc2 : y.category = 1) (hr : Go p e below Fi (T.setTop (mkF m (pc + 1) L (x :: y :: x :: rest)))) : Go p e below Fi (T.setTop (mkF m pc L st)) := Go.by (fun _ z => XS.dupX1 (g := mkF m pc L st) X.here X.hx rfl (X.cd hd) hs hc hc2 z) hr
theorem Wk.ifnonnullYes (X : Wk b p l e R s m args below meth c Z EL y bytes maxL ret n0 h0 T h sf cells slots) {pc : Nat} {L : Array Slot} {st : List Value} {b : Addr} {rest : List Value} {o : Int} {pc0 pc' : Nat} (hpc : pc = pc0) (hd : decode bytes pc = .ok (.ifnonnull o, 3)) (hs : st = .ref b :: rest) (ho : 0 ≤ (pc0 : Int) + o) (hp : ((pc0 : Int) + o).toNat = pc') (hr : Go p e below Fi (T.setTop (mkF m (pc') L (rest)))) : Go p e below Fi (T.setTop (mkF m pc L st)) := Go.by (fun _ z => XS.ifnonnullYes (g := mkF m pc L st) X.here X.hx rfl hpc (X.cd hd) hs ho hp z) hr
theorem Wk.aloadN (X : Wk b p l e R s m args below meth c Z EL y bytes maxL ret n0 h0 T h sf cells slots) {pc : Nat} {L : Array Slot} {st : List Value} {k : Fin 4} {v : Value} (hd : decode bytes pc = .ok (.aload_n k, 1)) (hl : L[k.val]? = some (.val v)) (hv : v.isRef = true) (hr : Go p e below Fi (T.setTop (mkF m (pc + 1) L (v :: st)))) : Go p e below Fi (T.setTop (mkF m pc L st)) := Go.by (fun _ z => XS.aloadN (g := mkF m pc L st) X.here X.hx rfl (X.cd hd) hl hv z) hr
theorem Wk.iloadN (X : Wk b p l e R s m args below meth c Z EL y bytes maxL ret n0 h0 T h sf cells slots) {pc : Nat} {L : Array Slot} {st : List Value} {k : Fin 4} {v : Int32} (hd : decode bytes pc = .ok (.iload_n k, 1)) (hl : L[k.val]? = some (.val (.int v))) (hr : Go p e below Fi (T.setTop (mkF m (pc + 1) L (.int v :: st)))) : Go p e below Fi (T.setTop (mkF m pc L st)) := Go.by (fun _ z => XS.iloadN (g := mkF m pc L st) X.here X.hx rfl (X.cd hd) hl z) hr
theorem Wk.iconst (X : Wk b p l e R s m args below meth c Z EL y bytes maxL ret n0 h0 T h sf cells slots) {pc : Nat} {L : Array Slot} {st : List Value} {i : Int} (hd : decode bytes pc = .ok (.iconst i, 1)) (hr : Go p e below Fi (T.setTop (mkF m (pc + 1) L (.int (Int32.ofInt i) :: st)))) : Go p e below Fi (T.setTop (mkF m pc L st)) := Go.by (fun _ z => XS.iconst (g := mkF m pc L st) X.here X.hx rfl (X.cd hd) z) hr
theorem Wk.iload (X : Wk b p l e R s m args below meth c Z EL y bytes maxL ret n0 h0 T h sf cells slots) {pc : Nat} {L : Array Slot} {st : List Value} {k : Nat} {v : Int32} (hd : decode bytes pc = .ok (.iload k, 2)) (hl : L[k]? = some (.val (.int v))) (hr : Go p e below Fi (T.setTop (mkF m (pc + 2) L (.int v :: st)))) : Go p e below Fi (T.setTop (mkF m pc L st)) := Go.by (fun _ z => XS.iload (g := mkF m pc L st) X.here X.hx rfl (X.cd hd) hl z) hr
theorem Wk.aload (X : Wk b p l e R s m args below meth c Z EL y bytes maxL ret n0 h0 T h sf cells slots) {pc : Nat} {L : Array Slot} {st : List Value} {k : Nat} {v : Value} (hd : decode bytes pc = .ok (.aload k, 2)) (hl : L[k]? = some (.val v)) (hv : v.isRef = true) (hr : Go p e below Fi (T.setTop (mkF m (pc + 2) L (v :: st)))) : Go p e below Fi (T.setTop (mkF m pc L st)) := Go.by (fun _ z => XS.aload (g := mkF m pc L st) X.here X.hx rfl (X.cd hd) hl hv z) hr
theorem Wk.icmpYes (X : Wk b p l e R s m args below meth c Z EL y bytes maxL ret n0 h0 T h sf cells slots) {pc : Nat} {L : Array Slot} {st : List Value} {cd : ClassFile.Cond} {x y : Int32} {rest : List Value} {o : Int} {pc0 pc' : Nat} (hpc : pc = pc0) (hd : decode bytes pc = .ok (.if_icmp cd o, 3)) (hs : st = .int y :: .int x :: rest) (hc : if_icmp.holds cd x y = true) (ho : 0 ≤ (pc0 : Int) + o) (hp : ((pc0 : Int) + o).toNat = pc') (hr : Go p e below Fi (T.setTop (mkF m (pc') L (rest)))) : Go p e below Fi (T.setTop (mkF m pc L st)) := Go.by (fun _ z => XS.icmpYes (g := mkF m pc L st) X.here X.hx rfl hpc (X.cd hd) hs hc ho hp z) hr
theorem Wk.icmpNo (X : Wk b p l e R s m args below meth c Z EL y bytes maxL ret n0 h0 T h sf cells slots) {pc : Nat} {L : Array Slot} {st : List Value} {cd : ClassFile.Cond} {o : Int} {x y : Int32} {rest : List Value} (hd : decode bytes pc = .ok (.if_icmp cd o, 3)) (hs : st = .int y :: .int x :: rest) (hc : if_icmp.holds cd x y = false) (hr : Go p e below Fi (T.setTop (mkF m (pc + 3) L (rest)))) : Go p e below Fi (T.setTop (mkF m pc L st)) := Go.by (fun _ z => XS.icmpNo (g := mkF m pc L st) X.here X.hx rfl (X.cd hd) hs hc z) hr
theorem Wk.ifYes (X : Wk b p l e R s m args below meth c Z EL y bytes maxL ret n0 h0 T h sf cells slots) {pc : Nat} {L : Array Slot} {st : List Value} {cd : ClassFile.Cond} {x : Int32} {rest : List Value} {o : Int} {pc0 pc' : Nat} (hpc : pc = pc0) (hd : decode bytes pc = .ok (.ifCond cd o, 3)) (hs : st = .int x :: rest) (hc : ifCond.holds cd x = true) (ho : 0 ≤ (pc0 : Int) + o) (hp : ((pc0 : Int) + o).toNat = pc') (hr : Go p e below Fi (T.setTop (mkF m (pc') L (rest)))) : Go p e below Fi (T.setTop (mkF m pc L st)) := Go.by (fun _ z => XS.ifYes (g := mkF m pc L st) X.here X.hx rfl hpc (X.cd hd) hs hc ho hp z) hr
theorem Wk.ifNo (X : Wk b p l e R s m args below meth c Z EL y bytes maxL ret n0 h0 T h sf cells slots) {pc : Nat} {L : Array Slot} {st : List Value} {cd : ClassFile.Cond} {o : Int} {x : Int32} {rest : List Value} (hd : decode bytes pc = .ok (.ifCond cd o, 3)) (hs : st = .int x :: rest) (hc : ifCond.holds cd x = false) (hr : Go p e below Fi (T.setTop (mkF m (pc + 3) L (rest)))) : Go p e below Fi (T.setTop (mkF m pc L st)) := Go.by (fun _ z => XS.ifNo (g := mkF m pc L st) X.here X.hx rfl (X.cd hd) hs hc z) hr
theorem Wk.iadd (X : Wk b p l e R s m args below meth c Z EL y bytes maxL ret n0 h0 T h sf cells slots) {pc : Nat} {L : Array Slot} {st : List Value} {x y : Int32} {rest : List Value} (hd : decode bytes pc = .ok (.iadd, 1)) (hs : st = .int y :: .int x :: rest) (hr : Go p e below Fi (T.setTop (mkF m (pc + 1) L (.int (x + y) :: rest)))) : Go p e below Fi (T.setTop (mkF m pc L st)) := Go.by (fun _ z => XS.iadd (g := mkF m pc L st) X.here X.hx rfl (X.cd hd) hs z) hr
theorem Wk.isub (X : Wk b p l e R s m args below meth c Z EL y bytes maxL ret n0 h0 T h sf cells slots) {pc : Nat} {L : Array Slot} {st : List Value} {x y : Int32} {rest : List Value} (hd : decode bytes pc = .ok (.isub, 1)) (hs : st = .int y :: .int x :: rest) (hr : Go p e below Fi (T.setTop (mkF m (pc + 1) L (.int (x - y) :: rest)))) : Go p e below Fi (T.setTop (mkF m pc L st)) := Go.by (fun _ z => XS.isub (g := mkF m pc L st) X.here X.hx rfl (X.cd hd) hs z) hr
theorem Wk.dup (X : Wk b p l e R s m args below meth c Z EL y bytes maxL ret n0 h0 T h sf cells slots) {pc : Nat} {L : Array Slot} {st : List Value} {x : Value} {rest : List Value} (hd : decode bytes pc = .ok (.dup, 1)) (hs : st = x :: rest) (hc : x.category = 1) (hr : Go p e below Fi (T.setTop (mkF m (pc + 1) L (x :: x :: rest)))) : Go p e below Fi (T.setTop (mkF m pc L st)) := Go.by (fun _ z => XS.dup (g := mkF m pc L st) X.here X.hx rfl (X.cd hd) hs hc z) hr
theorem Wk.astore (X : Wk b p l e R s m args below meth c Z EL y bytes maxL ret n0 h0 T h sf cells slots) {pc : Nat} {L : Array Slot} {st : List Value} {k : Nat} {x : Value} {rest : List Value} {l' : Array Slot} (hd : decode bytes pc = .ok (.astore k, 2)) (hs : st = x :: rest) (hv : x.isRef = true) (hl : storeLocals L k x = some l') (hr : Go p e below Fi (T.setTop (mkF m (pc + 2) (l') (rest)))) : Go p e below Fi (T.setTop (mkF m pc L st)) := Go.by (fun _ z => XS.astore (g := mkF m pc L st) X.here X.hx rfl (X.cd hd) hs hv hl z) hr
theorem Wk.istore (X : Wk b p l e R s m args below meth c Z EL y bytes maxL ret n0 h0 T h sf cells slots) {pc : Nat} {L : Array Slot} {st : List Value} {k : Nat} {x : Int32} {rest : List Value} {l' : Array Slot} (hd : decode bytes pc = .ok (.istore k, 2)) (hs : st = .int x :: rest) (hl : storeLocals L k (.int x) = some l') (hr : Go p e below Fi (T.setTop (mkF m (pc + 2) (l') (rest)))) : Go p e below Fi (T.setTop (mkF m pc L st)) := Go.by (fun _ z => XS.istore (g := mkF m pc L st) X.here X.hx rfl (X.cd hd) hs hl z) hr
theorem Wk.istoreN (X : Wk b p l e R s m args below meth c Z EL y bytes maxL ret n0 h0 T h sf cells slots) {pc : Nat} {L : Array Slot} {st : List Value} {k : Fin 4} {x : Int32} {rest : List Value} {l' : Array Slot} (hd : decode bytes pc = .ok (.istore_n k, 1)) (hs : st = .int x :: rest) (hl : storeLocals L k.val (.int x) = some l') (hr : Go p e below Fi (T.setTop (mkF m (pc + 1) (l') (rest)))) : Go p e below Fi (T.setTop (mkF m pc L st)) := Go.by (fun _ z => XS.istoreN (g := mkF m pc L st) X.here X.hx rfl (X.cd hd) hs hl z) hr
theorem Wk.astoreN (X : Wk b p l e R s m args below meth c Z EL y bytes maxL ret n0 h0 T h sf cells slots) {pc : Nat} {L : Array Slot} {st : List Value} {k : Fin 4} {x : Value} {rest : List Value} {l' : Array Slot} (hd : decode bytes pc = .ok (.astore_n k, 1)) (hs : st = x :: rest) (hv : x.isRef = true) (hl : storeLocals L k.val x = some l') (hr : Go p e below Fi (T.setTop (mkF m (pc + 1) (l') (rest)))) : Go p e below Fi (T.setTop (mkF m pc L st)) := Go.by (fun _ z => XS.astoreN (g := mkF m pc L st) X.here X.hx rfl (X.cd hd) hs hv hl z) hr
theorem Wk.goto (X : Wk b p l e R s m args below meth c Z EL y bytes maxL ret n0 h0 T h sf cells slots) {pc : Nat} {L : Array Slot} {st : List Value} {o : Int} {pc0 pc' : Nat} (hpc : pc = pc0) (hd : decode bytes pc = .ok (.goto o, 3)) (ho : 0 ≤ (pc0 : Int) + o) (hp : ((pc0 : Int) + o).toNat = pc') (hr : Go p e below Fi (T.setTop (mkF m (pc') L st))) : Go p e below Fi (T.setTop (mkF m pc L st)) := Go.by (fun _ z => XS.goto (g := mkF m pc L st) X.here X.hx rfl hpc (X.cd hd) ho hp z) hr
theorem Wk.pop (X : Wk b p l e R s m args below meth c Z EL y bytes maxL ret n0 h0 T h sf cells slots) {pc : Nat} {L : Array Slot} {st : List Value} {x : Value} {rest : List Value} (hd : decode bytes pc = .ok (.pop, 1)) (hs : st = x :: rest) (hc : x.category = 1) (hr : Go p e below Fi (T.setTop (mkF m (pc + 1) L (rest)))) : Go p e below Fi (T.setTop (mkF m pc L st)) := Go.by (fun _ z => XS.pop (g := mkF m pc L st) X.here X.hx rfl (X.cd hd) hs hc z) hr
theorem Wk.bipush (X : Wk b p l e R s m args below meth c Z EL y bytes maxL ret n0 h0 T h sf cells slots) {pc : Nat} {L : Array Slot} {st : List Value} {i : Int} (hd : decode bytes pc = .ok (.bipush i, 2)) (hr : Go p e below Fi (T.setTop (mkF m (pc + 2) L (.int (Int8.ofInt i).toInt32 :: st)))) : Go p e below Fi (T.setTop (mkF m pc L st)) := Go.by (fun _ z => XS.bipush (g := mkF m pc L st) X.here X.hx rfl (X.cd hd) z) hr
theorem Wk.sipush (X : Wk b p l e R s m args below meth c Z EL y bytes maxL ret n0 h0 T h sf cells slots) {pc : Nat} {L : Array Slot} {st : List Value} {i : Int} (hd : decode bytes pc = .ok (.sipush i, 3)) (hr : Go p e below Fi (T.setTop (mkF m (pc + 3) L (.int (Int16.ofInt i).toInt32 :: st)))) : Go p e below Fi (T.setTop (mkF m pc L st)) := Go.by (fun _ z => XS.sipush (g := mkF m pc L st) X.here X.hx rfl (X.cd hd) z) hr
theorem Wk.iinc (X : Wk b p l e R s m args below meth c Z EL y bytes maxL ret n0 h0 T h sf cells slots) {pc : Nat} {L : Array Slot} {st : List Value} {k : Nat} {cst : Int} {x : Int32} {l' : Array Slot} (hd : decode bytes pc = .ok (.iinc k cst, 3)) (hl : L[k]? = some (.val (.int x))) (hl' : storeLocals L k (.int (x + Int32.ofInt cst)) = some l') (hr : Go p e below Fi (T.setTop (mkF m (pc + 3) (l') st))) : Go p e below Fi (T.setTop (mkF m pc L st)) := Go.by (fun _ z => XS.iinc (g := mkF m pc L st) X.here X.hx rfl (X.cd hd) hl hl' z) hr
theorem Wk.ishl (X : Wk b p l e R s m args below meth c Z EL y bytes maxL ret n0 h0 T h sf cells slots) {pc : Nat} {L : Array Slot} {st : List Value} {x : Int32} {y : Int32} {rest : List Value} (hd : decode bytes pc = .ok (.ishl, 1)) (hs : st = .int y :: .int x :: rest) (hr : Go p e below Fi (T.setTop (mkF m (pc + 1) L (.int (x <<< (y &&& 31)) :: rest)))) : Go p e below Fi (T.setTop (mkF m pc L st)) := Go.by (fun _ z => XS.ishl (g := mkF m pc L st) X.here X.hx rfl (X.cd hd) hs z) hr
theorem Wk.i2b (X : Wk b p l e R s m args below meth c Z EL y bytes maxL ret n0 h0 T h sf cells slots) {pc : Nat} {L : Array Slot} {st : List Value} {v : Int32} {rest : List Value} (hd : decode bytes pc = .ok (.i2b, 1)) (hs : st = .int v :: rest) (hr : Go p e below Fi (T.setTop (mkF m (pc + 1) L (.int (v.toInt8.toInt32) :: rest)))) : Go p e below Fi (T.setTop (mkF m pc L st)) := Go.by (fun _ z => XS.i2b (g := mkF m pc L st) X.here X.hx rfl (X.cd hd) hs z) hr
theorem Wk.i2c (X : Wk b p l e R s m args below meth c Z EL y bytes maxL ret n0 h0 T h sf cells slots) {pc : Nat} {L : Array Slot} {st : List Value} {v : Int32} {rest : List Value} (hd : decode bytes pc = .ok (.i2c, 1)) (hs : st = .int v :: rest) (hr : Go p e below Fi (T.setTop (mkF m (pc + 1) L (.int (v.toUInt32.toUInt16.toUInt32.toInt32) :: rest)))) : Go p e below Fi (T.setTop (mkF m pc L st)) := Go.by (fun _ z => XS.i2c (g := mkF m pc L st) X.here X.hx rfl (X.cd hd) hs z) hr
theorem Wk.iand (X : Wk b p l e R s m args below meth c Z EL y bytes maxL ret n0 h0 T h sf cells slots) {pc : Nat} {L : Array Slot} {st : List Value} {x y : Int32} {rest : List Value} (hd : decode bytes pc = .ok (.iand, 1)) (hs : st = .int y :: .int x :: rest) (hr : Go p e below Fi (T.setTop (mkF m (pc + 1) L (.int (x &&& y) :: rest)))) : Go p e below Fi (T.setTop (mkF m pc L st)) := Go.by (fun _ z => XS.iand (g := mkF m pc L st) X.here X.hx rfl (X.cd hd) hs z) hr
end Steps11
end OK
end Jvm.Pilot.@@N@@
namespace Jvm.Pilot.@@N@@
open Jvm Jvm.ClassFile Sem Op Lib Jvm.Free Jvm.Stand Jvm.LawKit Jvm.RoadKit Bundle Jvm.Pilot.@@N@@.Jvm.D Jvm.Pilot.@@N@@.OK
set_option maxRecDepth 65536
set_option maxHeartbeats 40000000
abbrev SC (Z : State) (zc : Int32) : Prop := Sta Z Z.heap "java/lang/String" "COMPACT_STRINGS" "Z" (.int zc)
abbrev SA1 (Z : State) : Prop := Sta Z Z.heap "java/lang/StringUTF16" "$assertionsDisabled" "Z" (.int (1 : Int32))
abbrev SU1 (Z : State) : Prop := Sta Z Z.heap "java/lang/StringUTF16" "HI_BYTE_SHIFT" "I" (.int (0 : Int32))
abbrev SV1 (Z : State) : Prop := Sta Z Z.heap "java/lang/StringUTF16" "LO_BYTE_SHIFT" "I" (.int (8 : Int32))
abbrev SF1 (Z : State) (vf : Value) : Prop := Sta Z Z.heap "jdk/internal/util/Preconditions" "SIOOBE_FORMATTER" "Ljava/util/function/BiFunction;" vf
abbrev EL : List (String × Nat) := [("java/lang/String", 7)]
theorem own_SA {Z : State} {a0 : Array Value} (hw : ∀ d ∈ tables_1, d.before a0 Z = true) : ∀ a ∈ Bundle.stringAtoms, a.before a0 Z = true := fun d hd => hw d ((by decide +kernel : ∀ d ∈ Bundle.stringAtoms, d ∈ tables_1) d hd)
theorem own_EW {Z : State} {a0 : Array Value} (hw : ∀ d ∈ tables_1, d.before a0 Z = true) : EW Z a0 EL := (EW.cons (hw _ (gm 46 rfl)) (by decide) EW.nil)
theorem own_pad (d : Value) (vs : List Value) (i : Nat) : (vs ++ [d]).getD i d = vs.getD i d := by
  simp only [List.getD_eq_getElem?_getD]
  by_cases h : i < vs.length
  · rw [List.getElem?_append_left h]
  · rw [List.getElem?_append_right (by omega), List.getElem?_eq_none (show vs.length ≤ i by omega)]
    cases q : i - vs.length with
    | zero => rfl
    | succ k => rfl
theorem own_padR (d : Value) (vs : List Value) (k i : Nat) : (vs ++ List.replicate k d).getD i d = vs.getD i d := by
  simp only [List.getD_eq_getElem?_getD]
  by_cases h : i < vs.length
  · rw [List.getElem?_append_left h]
  · rw [List.getElem?_append_right (by omega), List.getElem?_eq_none (show vs.length ≤ i by omega), List.getElem?_replicate]
    split <;> rfl
theorem own_pad0 (d : Value) (k i : Nat) : ([] : List Value).getD i d = (List.replicate k d).getD i d := (rep_get d k i).symm
theorem own_set (vs : List Value) (u v : Value) {N : Nat} (h : vs.length = N) : (vs ++ [u]).set N v = vs ++ [v] := by subst h; simp
theorem own_gc {cs : List Int32} {k : Nat} (h : k < cs.length) : (cs.map Value.int).getD k (.int (0 : Int32)) = .int (cs.getD k 0) := by simp [List.getD_eq_getElem?_getD, h]
theorem own_tk8 {cs : List Int32} {k : Nat} (h : k < cs.length) : ((cs.take (k + 1)).map fun c => Value.int (StrChars.lo8 c)) = ((cs.take k).map fun c => Value.int (StrChars.lo8 c)) ++ [Value.int (StrChars.lo8 (cs.getD k 0))] := by rw [List.take_add_one, List.map_append]; congr 1; simp [List.getD_eq_getElem?_getD, h]
theorem own_tkc {cs : List Int32} {k : Nat} (h : k < cs.length) : cs.take (k + 1) = cs.take k ++ [cs.getD k 0] := by rw [List.take_add_one]; congr 1; simp [List.getD_eq_getElem?_getD, h]
theorem own_wba (as bs : List Int32) : StrChars.Road.wideBytes (as ++ bs) = StrChars.Road.wideBytes as ++ StrChars.Road.wideBytes bs := by
  induction as with
  | nil => rfl
  | cons a as ih => simp only [List.cons_append, StrChars.Road.wideBytes, ih]
theorem own_wbl (as : List Int32) : (StrChars.Road.wideBytes as).length = 2 * as.length := by
  induction as with
  | nil => rfl
  | cons a as ih => simp only [StrChars.Road.wideBytes, List.length_cons, ih]; omega
theorem own_wlo : ∀ (cs : List Int32) (j : Nat), j < cs.length → (StrChars.Road.wideBytes cs).getD (2 * j) (.int (0 : Int32)) = .int (StrChars.lo8 (cs.getD j 0))
  | [], j, h => absurd h (Nat.not_lt_zero j)
  | c :: cs, 0, _ => rfl
  | c :: cs, j + 1, h => by
    rw [show 2 * (j + 1) = 2 * j + 1 + 1 from by omega]
    exact own_wlo cs j (by simpa using h)
theorem own_whi : ∀ (cs : List Int32) (j : Nat), j < cs.length → (StrChars.Road.wideBytes cs).getD (2 * j + 1) (.int (0 : Int32)) = .int (StrChars.hi8 (cs.getD j 0))
  | [], j, h => absurd h (Nat.not_lt_zero j)
  | c :: cs, 0, _ => rfl
  | c :: cs, j + 1, h => by
    rw [show 2 * (j + 1) + 1 = 2 * j + 1 + 1 + 1 from by omega]
    exact own_whi cs j (by simpa using h)
theorem own_shlF : ∀ n : Fin 64, (Int32.ofNat n.val) <<< ((1 : Int32) &&& 31) = Int32.ofNat (2 * n.val) := by decide +kernel
theorem own_shl {n : Nat} (h : n < 64) : (Int32.ofNat n) <<< ((1 : Int32) &&& 31) = Int32.ofNat (2 * n) := own_shlF ⟨n, h⟩
theorem own_big {n : Nat} (h : n < 64) : Int32.ofNat n < (1073741823 : Int32) := by rw [Int32.lt_iff_toInt_lt, on_toInt (by omega)]; have e : (1073741823 : Int32).toInt = 1073741823 := rfl; omega
theorem own_lo (c : Int32) : (c >>> ((0 : Int32) &&& 31)).toInt8.toInt32.toInt8.toInt32 = StrChars.lo8 c := by rw [i2b_idem, StrChars.shr0]; rfl
theorem own_hi (c : Int32) : (c >>> ((8 : Int32) &&& 31)).toInt8.toInt32.toInt8.toInt32 = StrChars.hi8 c := by rw [i2b_idem]; rfl
theorem own_cdF : ∀ n : Fin 8, (XT.ushr (Int32.ofNat n.val - Int32.ofNat n.val) (31 : Int32)).toInt8.toInt32 = 0 ∧ (n.val ≠ 0 → (XT.ushr (Int32.ofNat n.val - Int32.ofNat (2 * n.val)) (31 : Int32)).toInt8.toInt32 = 1) := by decide +kernel
theorem own_cd {cs : List Int32} {cd N : Int32} {us : List Value} (h : StrChars.Road.CodA cs cd N us) (h1 : 1 ≤ cs.length) (h4 : cs.length ≤ 4) : (XT.ushr (Int32.ofNat cs.length - N) (31 : Int32)).toInt8.toInt32 = cd := by
  rcases h with ⟨rfl, rfl, -, -⟩ | ⟨rfl, rfl, -, -⟩
  · exact (own_cdF ⟨cs.length, by omega⟩).1
  · exact (own_cdF ⟨cs.length, by omega⟩).2 (by show cs.length ≠ 0; omega)
theorem own_cdb {cs : List Int32} {cd N : Int32} {us : List Value} (h : StrChars.Road.CodA cs cd N us) : cd = 0 ∨ cd = 1 := h.imp (fun q => q.1) fun q => q.1
theorem own_nby {b : Int32} (h : b = 0 ∨ b = 1) : narrow .byte (.int b) = .int b := by rcases h with rfl | rfl <;> rfl
theorem own_fby {b : Int32} (h : b = 0 ∨ b = 1) : fits .byte (.int b) = true := by rcases h with rfl | rfl <;> rfl
theorem own_nary {b : Int32} (h : b = 0 ∨ b = 1) : nar .byte b = b := by rcases h with rfl | rfl <;> rfl
theorem own_strW {Z : State} {h : Heap} {x t : Addr} {cs : List Int32} {kb : ClassId} {cd N : Int32} {vs : List Value} (f1 : Exa Z h x "java/lang/String") (f2 : Fld Z h x "java/lang/String" "value" "[B" (.ref t)) (f3 : Fld Z h x "java/lang/String" "coder" "B" (.int cd)) (f4 : Arv Z h t kb .byte N vs (.int 0)) (f5 : StrChars.Road.CodA cs cd N vs) (f6 : ∀ c ∈ cs, ¬ c < 0 ∧ ¬ (65535 : Int32) < c) (f7 : cs.length ≤ 4000) : Str Z h x t cs := ⟨kb, cd, N, vs, f1, f2, f3, f4, f5, f6, f7⟩
theorem own_all {cs : List Int32} (h : ∀ j, j < cs.length → ¬ (255 : Int32) < cs.getD j 0) : ∀ c ∈ cs, ¬ (255 : Int32) < c := fun c hc => by obtain ⟨k, hk, e⟩ := mem_getD' hc; rw [← e]; exact h k hk
theorem own_more {cs : List Int32} {kk : Nat} (h : ∀ j, j < kk → ¬ (255 : Int32) < cs.getD j 0) (hk : ¬ (255 : Int32) < cs.getD kk 0) : ∀ j, j < kk + 1 → ¬ (255 : Int32) < cs.getD j 0 := fun j hj => by
  by_cases q : j < kk
  · exact h j q
  · rw [show j = kk by omega]; exact hk
theorem own_nar16 {c : Int32} (h : ¬ c < 0 ∧ ¬ (65535 : Int32) < c) : nar .char c = c := Value.int.inj (StrChars.narrow_ch h.1 h.2)
theorem own_c16 (x : Int32) : ¬ x.toUInt32.toUInt16.toUInt32.toInt32 < 0 ∧ ¬ (65535 : Int32) < x.toUInt32.toUInt16.toUInt32.toInt32 := by
  have h := (x.toUInt32.toUInt16).toNat_lt
  have e : (x.toUInt32.toUInt16.toUInt32.toInt32).toInt = ((x.toUInt32.toUInt16).toNat : Int) := by
    show (BitVec.toInt _) = _
    rw [BitVec.toInt_eq_toNat_of_lt]
    · rfl
    · show 2 * (x.toUInt32.toUInt16.toUInt32).toNat < _
      rw [UInt16.toNat_toUInt32]; omega
  rw [Int32.lt_iff_toInt_lt, Int32.lt_iff_toInt_lt, e]
  have e0 : (0 : Int32).toInt = 0 := rfl
  have e1 : (65535 : Int32).toInt = 65535 := rfl
  omega
theorem ef_RIRII7 (m : MethodId) (x0 : Addr) (x1 : Int32) (x2 : Addr) (x3 : Int32) (x4 : Int32) : entryFrame m #[(.ref x0), (.int x1), (.ref x2), (.int x3), (.int x4)] 7 = mkF m 0 #[.val (.ref x0), .val (.int x1), .val (.ref x2), .val (.int x3), .val (.int x4), .unset, .unset] [] := by first | (simp [entryFrame, mkF, argsToLocals, Value.category]; done) | rfl
def Q_ru_cmp5 (Z : State) (bb : Addr) (kC : ClassId) (dd : Addr) (kb : ClassId) (cs : List Int32) (h0 : Heap) (ov : Option Value) (hz : Heap) : Prop := ∃ (r : Nat), ∃ (us : List Value), ov = some (.int (Int32.ofNat r)) ∧ Arv Z hz dd kb .byte (Int32.ofNat cs.length) us (.int (0 : Int32)) ∧ ((r = cs.length ∧ us = (cs.map fun c => Value.int (StrChars.lo8 c)) ∧ ∀ c ∈ cs, ¬ (255 : Int32) < c) ∨ (r < cs.length ∧ (255 : Int32) < cs.getD r 0))
theorem pn_0 : plainName "java/lang/StringUTF16" = true := by first | (simp [plainName, overriddenIn]; done) | decide +kernel
theorem j52_21_0 : decode jdk_52_method_21_code 0 = .ok (.iconst 0, 1) := by decide +kernel
theorem j52_21_1 : decode jdk_52_method_21_code 1 = .ok (.istore 5, 2) := by decide +kernel
theorem j52_21_3 : decode jdk_52_method_21_code 3 = .ok (.iload 5, 2) := by decide +kernel
theorem j52_21_5 : decode jdk_52_method_21_code 5 = .ok (.iload 4, 2) := by decide +kernel
theorem j52_21_7 : decode jdk_52_method_21_code 7 = .ok (.if_icmp .ge 37, 3) := by decide +kernel
theorem j52_21_44 : decode jdk_52_method_21_code 44 = .ok (.iload 4, 2) := by decide +kernel
theorem j52_21_46 : decode jdk_52_method_21_code 46 = .ok (.ireturn, 1) := by decide +kernel
theorem j52_21_10 : decode jdk_52_method_21_code 10 = .ok (.aload_n 0, 1) := by decide +kernel
theorem j52_21_11 : decode jdk_52_method_21_code 11 = .ok (.iload_n 1, 1) := by decide +kernel
theorem j52_21_12 : decode jdk_52_method_21_code 12 = .ok (.caload, 1) := by decide +kernel
theorem j52_21_13 : decode jdk_52_method_21_code 13 = .ok (.istore 6, 2) := by decide +kernel
theorem j52_21_15 : decode jdk_52_method_21_code 15 = .ok (.iload 6, 2) := by decide +kernel
theorem j52_21_17 : decode jdk_52_method_21_code 17 = .ok (.sipush 255, 3) := by decide +kernel
theorem j52_21_20 : decode jdk_52_method_21_code 20 = .ok (.if_icmp .le 6, 3) := by decide +kernel
theorem j52_21_23 : decode jdk_52_method_21_code 23 = .ok (.iload 5, 2) := by decide +kernel
theorem j52_21_25 : decode jdk_52_method_21_code 25 = .ok (.ireturn, 1) := by decide +kernel
theorem j52_21_26 : decode jdk_52_method_21_code 26 = .ok (.aload_n 2, 1) := by decide +kernel
theorem j52_21_27 : decode jdk_52_method_21_code 27 = .ok (.iload_n 3, 1) := by decide +kernel
theorem j52_21_28 : decode jdk_52_method_21_code 28 = .ok (.iload 6, 2) := by decide +kernel
theorem j52_21_30 : decode jdk_52_method_21_code 30 = .ok (.i2b, 1) := by decide +kernel
theorem j52_21_31 : decode jdk_52_method_21_code 31 = .ok (.bastore, 1) := by decide +kernel
theorem j52_21_32 : decode jdk_52_method_21_code 32 = .ok (.iinc 1 1, 3) := by decide +kernel
theorem j52_21_35 : decode jdk_52_method_21_code 35 = .ok (.iinc 3 1, 3) := by decide +kernel
theorem j52_21_38 : decode jdk_52_method_21_code 38 = .ok (.iinc 5 1, 3) := by decide +kernel
theorem j52_21_41 : decode jdk_52_method_21_code 41 = .ok (.goto (-38), 3) := by decide +kernel
abbrev RM_ru_cmp5 : Room := { frames := 0, cells := 0, slots := 0, locals := 0 }
theorem ru_cmp5 (l : Launch) (Z : State) (a0 : Array Value) (hw : ∀ d ∈ tables_1, d.before a0 Z = true) (n0 : Nat) (bb : Addr) (kC : ClassId) (dd : Addr) (kb : ClassId) (cs : List Int32) (h0 : Heap) (hO : Old Z n0 h0) (pr0 : Arv Z h0 bb kC .char (Int32.ofNat cs.length) (cs.map Value.int) (.int (0 : Int32))) (pr1 : Arv Z h0 dd kb .byte (Int32.ofNat cs.length) [] (.int (0 : Int32))) (hbd : bb ≠ dd) (hl1 : 1 ≤ cs.length) (hl4 : cs.length ≤ 4) (g_dd : n0 ≤ dd) (l_dd : dd < h0.size) :
    Ct l (⟨"java/lang/StringUTF16", "compress", "([CI[BII)I"⟩ : MethodName) jdk_52_method_21_code 7 (some .int) [] RM_ru_cmp5 Z n0 #[(.ref bb), (.int (0 : Int32)), (.ref dd), (.int (0 : Int32)), (.int (Int32.ofNat cs.length))] h0 [dd] (Q_ru_cmp5 Z bb kC dd kb cs h0) := by
  refine Ct.of_walk (plainFor_of_name pn_0) hO (allS ⟨g_dd, l_dd⟩ all0) ?_
  intro p e s m below meth c T0 X0
  rw [ef_RIRII7 m bb (0 : Int32) dd (0 : Int32) (Int32.ofNat cs.length)]
  show Go _ _ _ _ (T0.setTop (mkF m 0 #[.val (.ref bb), .val (.int (0 : Int32)), .val (.ref dd), .val (.int (0 : Int32)), .val (.int (Int32.ofNat cs.length)), .unset, .unset] []))
  refine X0.iconst j52_21_0 ?_
  refine X0.istore j52_21_1 rfl (l' := #[.val (.ref bb), .val (.int (0 : Int32)), .val (.ref dd), .val (.int (0 : Int32)), .val (.int (Int32.ofNat cs.length)), .val (.int (0 : Int32)), .unset]) rfl ?_
  have loop : ∀ (mm : Nat) (kk : Nat) (us : List Value) (sl : Slot) (TL : State) (hL : Heap), (Wk false p l e RM_ru_cmp5 s m #[(.ref bb), (.int (0 : Int32)), (.ref dd), (.int (0 : Int32)), (.int (Int32.ofNat cs.length))] below meth c Z [] (⟨"java/lang/StringUTF16", "compress", "([CI[BII)I"⟩ : MethodName) jdk_52_method_21_code 7 (some .int) n0 h0 TL hL [dd] 0 0) → (Keep h0 hL [dd]) → (Arv Z hL bb kC .char (Int32.ofNat cs.length) (cs.map Value.int) (.int (0 : Int32))) → (Arv Z hL dd kb .byte (Int32.ofNat cs.length) us (.int (0 : Int32))) → (kk + mm = cs.length) → (us = ((cs.take kk).map fun c => Value.int (StrChars.lo8 c))) → (∀ j, j < kk → ¬ (255 : Int32) < cs.getD j 0) → (sl = .unset ∨ ∃ z, sl = .val (.int z)) → Go p e below (Fi false RM_ru_cmp5 s Z [] n0 h0 [dd] (Q_ru_cmp5 Z bb kC dd kb cs h0)) (TL.setTop (mkF m 3 #[.val (.ref bb), .val (.int (Int32.ofNat kk)), .val (.ref dd), .val (.int (Int32.ofNat kk)), .val (.int (Int32.ofNat cs.length)), .val (.int (Int32.ofNat kk)), sl] [])) := by
    intro mm
    induction mm with
    | zero =>
      intro kk us sl TL hL XL KL lf0 lf1 hk hus hal hsl
      show Go _ _ _ _ (TL.setTop (mkF m 3 #[.val (.ref bb), .val (.int (Int32.ofNat kk)), .val (.ref dd), .val (.int (Int32.ofNat kk)), .val (.int (Int32.ofNat cs.length)), .val (.int (Int32.ofNat kk)), sl] []))
      refine XL.iload j52_21_3 rfl ?_
      refine XL.iload j52_21_5 rfl ?_
      refine XL.icmpYes (pc0 := 7) (pc' := 44) rfl j52_21_7 rfl (XT.ii_ge_t (fun q => by have := (on_lt (by omega) (by omega)).mp q; omega)) (by decide) (by decide) ?_
      refine XL.iload j52_21_44 rfl ?_
      exact XL.retI j52_21_46 KL ⟨cs.length, us, rfl, lf1, Or.inl ⟨rfl, by rw [hus, List.take_of_length_le (by omega)], own_all (fun j hj => hal j (by omega))⟩⟩ (by decide) (by decide)
    | succ mm ih =>
      intro kk us sl TL hL XL KL lf0 lf1 hk hus hal hsl
      show Go _ _ _ _ (TL.setTop (mkF m 3 #[.val (.ref bb), .val (.int (Int32.ofNat kk)), .val (.ref dd), .val (.int (Int32.ofNat kk)), .val (.int (Int32.ofNat cs.length)), .val (.int (Int32.ofNat kk)), sl] []))
      have hkl : kk < cs.length := by omega
      rcases hsl with hsl | ⟨z0, hsl⟩ <;> subst hsl
      · show Go _ _ _ _ (TL.setTop (mkF m 3 #[.val (.ref bb), .val (.int (Int32.ofNat kk)), .val (.ref dd), .val (.int (Int32.ofNat kk)), .val (.int (Int32.ofNat cs.length)), .val (.int (Int32.ofNat kk)), .unset] []))
        refine XL.iload j52_21_3 rfl ?_
        refine XL.iload j52_21_5 rfl ?_
        refine XL.icmpNo j52_21_7 rfl (XT.ii_ge_f ((on_lt (by omega) (by omega)).mpr hkl)) ?_
        refine XL.aloadN j52_21_10 rfl rfl ?_
        refine XL.iloadN j52_21_11 rfl ?_
        refine Go.by (fun _ k => XL.ldA lf0 ⟨on_nn (by omega), (on_lt (by omega) (by omega)).mpr hkl⟩ (v := (.int (cs.getD kk 0))) (by rw [on_clamp (by omega)]; exact own_gc hkl) (Or.inr (Or.inl ⟨rfl, rfl⟩)) (g := (mkF m 12 #[.val (.ref bb), .val (.int (Int32.ofNat kk)), .val (.ref dd), .val (.int (Int32.ofNat kk)), .val (.int (Int32.ofNat cs.length)), .val (.int (Int32.ofNat kk)), .unset] [(.int (Int32.ofNat kk)), (.ref bb)])) rfl rfl j52_21_12 _ k) ?_
        show Go _ _ _ _ (TL.setTop (mkF m 13 #[.val (.ref bb), .val (.int (Int32.ofNat kk)), .val (.ref dd), .val (.int (Int32.ofNat kk)), .val (.int (Int32.ofNat cs.length)), .val (.int (Int32.ofNat kk)), .unset] [(.int (cs.getD kk 0))]))
        refine XL.istore j52_21_13 rfl (l' := #[.val (.ref bb), .val (.int (Int32.ofNat kk)), .val (.ref dd), .val (.int (Int32.ofNat kk)), .val (.int (Int32.ofNat cs.length)), .val (.int (Int32.ofNat kk)), .val (.int (cs.getD kk 0))]) rfl ?_
        refine XL.iload j52_21_15 rfl ?_
        refine XL.sipush j52_21_17 ?_
        by_cases cw : (255 : Int32) < (cs.getD kk 0)
        · refine XL.icmpNo j52_21_20 rfl (XT.ii_le_f cw) ?_
          refine XL.iload j52_21_23 rfl ?_
          exact XL.retI j52_21_25 KL ⟨kk, us, rfl, lf1, Or.inr ⟨hkl, cw⟩⟩ (by decide) (by decide)
        · refine XL.icmpYes (pc0 := 20) (pc' := 26) rfl j52_21_20 rfl (XT.ii_le_t cw) (by decide) (by decide) ?_
          refine XL.aloadN j52_21_26 rfl rfl ?_
          refine XL.iloadN j52_21_27 rfl ?_
          refine XL.iload j52_21_28 rfl ?_
          refine XL.i2b j52_21_30 rfl ?_
          have f1 : Arv Z hL dd kb .byte (Int32.ofNat cs.length) (us ++ [Value.int (0 : Int32)]) (.int (0 : Int32)) := (lf1).pad (own_pad _ _)
          have hul : us.length = kk := by rw [hus]; simp; omega
          obtain ⟨T2, h2, X2, W2, A2, st2⟩ := XL.stB (x' := (StrChars.lo8 (cs.getD kk 0))) f1 (.head _) ⟨on_nn (by omega), (on_lt (by omega) (by omega)).mpr hkl⟩ (i := kk) (on_clamp (by omega)) (by simp [hul]) (i2b_idem _) (vs' := (us ++ [Value.int (StrChars.lo8 (cs.getD kk 0))])) (own_set _ _ _ hul) (g := (mkF m 31 #[.val (.ref bb), .val (.int (Int32.ofNat kk)), .val (.ref dd), .val (.int (Int32.ofNat kk)), .val (.int (Int32.ofNat cs.length)), .val (.int (Int32.ofNat kk)), .val (.int (cs.getD kk 0))] [(.int (((cs.getD kk 0)).toInt8.toInt32)), (.int (Int32.ofNat kk)), (.ref dd)])) rfl rfl j52_21_31
          refine Go.by st2 ?_
          have K0_h2 : Keep h0 h2 [dd] := KL.trans W2 (allS (Or.inl (.head _)) all0)
          show Go _ _ _ _ (T2.setTop (mkF m 32 #[.val (.ref bb), .val (.int (Int32.ofNat kk)), .val (.ref dd), .val (.int (Int32.ofNat kk)), .val (.int (Int32.ofNat cs.length)), .val (.int (Int32.ofNat kk)), .val (.int (cs.getD kk 0))] []))
          refine X2.iinc j52_21_32 rfl (l' := #[.val (.ref bb), .val (.int ((Int32.ofNat kk) + (1 : Int32))), .val (.ref dd), .val (.int (Int32.ofNat kk)), .val (.int (Int32.ofNat cs.length)), .val (.int (Int32.ofNat kk)), .val (.int (cs.getD kk 0))]) rfl ?_
          refine X2.iinc j52_21_35 rfl (l' := #[.val (.ref bb), .val (.int ((Int32.ofNat kk) + (1 : Int32))), .val (.ref dd), .val (.int ((Int32.ofNat kk) + (1 : Int32))), .val (.int (Int32.ofNat cs.length)), .val (.int (Int32.ofNat kk)), .val (.int (cs.getD kk 0))]) rfl ?_
          refine X2.iinc j52_21_38 rfl (l' := #[.val (.ref bb), .val (.int ((Int32.ofNat kk) + (1 : Int32))), .val (.ref dd), .val (.int ((Int32.ofNat kk) + (1 : Int32))), .val (.int (Int32.ofNat cs.length)), .val (.int ((Int32.ofNat kk) + (1 : Int32))), .val (.int (cs.getD kk 0))]) rfl ?_
          refine X2.goto (pc0 := 41) (pc' := 3) rfl j52_21_41 (by decide) (by decide) ?_
          show Go _ _ _ _ (T2.setTop (mkF m 3 #[.val (.ref bb), .val (.int ((Int32.ofNat kk) + (1 : Int32))), .val (.ref dd), .val (.int ((Int32.ofNat kk) + (1 : Int32))), .val (.int (Int32.ofNat cs.length)), .val (.int ((Int32.ofNat kk) + (1 : Int32))), .val (.int (cs.getD kk 0))] []))
          rw [on_succ]
          have f3 := (lf0).keep W2 (ninS hbd nin0)
          exact ih (kk + 1) (us ++ [Value.int (StrChars.lo8 (cs.getD kk 0))]) (.val (.int (cs.getD kk 0))) _ _ X2 K0_h2 f3 A2 (by omega) (by rw [hus, own_tk8 hkl]) (own_more hal cw) (Or.inr ⟨_, rfl⟩)
      · show Go _ _ _ _ (TL.setTop (mkF m 3 #[.val (.ref bb), .val (.int (Int32.ofNat kk)), .val (.ref dd), .val (.int (Int32.ofNat kk)), .val (.int (Int32.ofNat cs.length)), .val (.int (Int32.ofNat kk)), .val (.int z0)] []))
        refine XL.iload j52_21_3 rfl ?_
        refine XL.iload j52_21_5 rfl ?_
        refine XL.icmpNo j52_21_7 rfl (XT.ii_ge_f ((on_lt (by omega) (by omega)).mpr hkl)) ?_
        refine XL.aloadN j52_21_10 rfl rfl ?_
        refine XL.iloadN j52_21_11 rfl ?_
        refine Go.by (fun _ k => XL.ldA lf0 ⟨on_nn (by omega), (on_lt (by omega) (by omega)).mpr hkl⟩ (v := (.int (cs.getD kk 0))) (by rw [on_clamp (by omega)]; exact own_gc hkl) (Or.inr (Or.inl ⟨rfl, rfl⟩)) (g := (mkF m 12 #[.val (.ref bb), .val (.int (Int32.ofNat kk)), .val (.ref dd), .val (.int (Int32.ofNat kk)), .val (.int (Int32.ofNat cs.length)), .val (.int (Int32.ofNat kk)), .val (.int z0)] [(.int (Int32.ofNat kk)), (.ref bb)])) rfl rfl j52_21_12 _ k) ?_
        show Go _ _ _ _ (TL.setTop (mkF m 13 #[.val (.ref bb), .val (.int (Int32.ofNat kk)), .val (.ref dd), .val (.int (Int32.ofNat kk)), .val (.int (Int32.ofNat cs.length)), .val (.int (Int32.ofNat kk)), .val (.int z0)] [(.int (cs.getD kk 0))]))
        refine XL.istore j52_21_13 rfl (l' := #[.val (.ref bb), .val (.int (Int32.ofNat kk)), .val (.ref dd), .val (.int (Int32.ofNat kk)), .val (.int (Int32.ofNat cs.length)), .val (.int (Int32.ofNat kk)), .val (.int (cs.getD kk 0))]) rfl ?_
        refine XL.iload j52_21_15 rfl ?_
        refine XL.sipush j52_21_17 ?_
        by_cases cw : (255 : Int32) < (cs.getD kk 0)
        · refine XL.icmpNo j52_21_20 rfl (XT.ii_le_f cw) ?_
          refine XL.iload j52_21_23 rfl ?_
          exact XL.retI j52_21_25 KL ⟨kk, us, rfl, lf1, Or.inr ⟨hkl, cw⟩⟩ (by decide) (by decide)
        · refine XL.icmpYes (pc0 := 20) (pc' := 26) rfl j52_21_20 rfl (XT.ii_le_t cw) (by decide) (by decide) ?_
          refine XL.aloadN j52_21_26 rfl rfl ?_
          refine XL.iloadN j52_21_27 rfl ?_
          refine XL.iload j52_21_28 rfl ?_
          refine XL.i2b j52_21_30 rfl ?_
          have f4 : Arv Z hL dd kb .byte (Int32.ofNat cs.length) (us ++ [Value.int (0 : Int32)]) (.int (0 : Int32)) := (lf1).pad (own_pad _ _)
          have hul : us.length = kk := by rw [hus]; simp; omega
          obtain ⟨T5, h5, X5, W5, A5, st5⟩ := XL.stB (x' := (StrChars.lo8 (cs.getD kk 0))) f4 (.head _) ⟨on_nn (by omega), (on_lt (by omega) (by omega)).mpr hkl⟩ (i := kk) (on_clamp (by omega)) (by simp [hul]) (i2b_idem _) (vs' := (us ++ [Value.int (StrChars.lo8 (cs.getD kk 0))])) (own_set _ _ _ hul) (g := (mkF m 31 #[.val (.ref bb), .val (.int (Int32.ofNat kk)), .val (.ref dd), .val (.int (Int32.ofNat kk)), .val (.int (Int32.ofNat cs.length)), .val (.int (Int32.ofNat kk)), .val (.int (cs.getD kk 0))] [(.int (((cs.getD kk 0)).toInt8.toInt32)), (.int (Int32.ofNat kk)), (.ref dd)])) rfl rfl j52_21_31
          refine Go.by st5 ?_
          have K0_h5 : Keep h0 h5 [dd] := KL.trans W5 (allS (Or.inl (.head _)) all0)
          show Go _ _ _ _ (T5.setTop (mkF m 32 #[.val (.ref bb), .val (.int (Int32.ofNat kk)), .val (.ref dd), .val (.int (Int32.ofNat kk)), .val (.int (Int32.ofNat cs.length)), .val (.int (Int32.ofNat kk)), .val (.int (cs.getD kk 0))] []))
          refine X5.iinc j52_21_32 rfl (l' := #[.val (.ref bb), .val (.int ((Int32.ofNat kk) + (1 : Int32))), .val (.ref dd), .val (.int (Int32.ofNat kk)), .val (.int (Int32.ofNat cs.length)), .val (.int (Int32.ofNat kk)), .val (.int (cs.getD kk 0))]) rfl ?_
          refine X5.iinc j52_21_35 rfl (l' := #[.val (.ref bb), .val (.int ((Int32.ofNat kk) + (1 : Int32))), .val (.ref dd), .val (.int ((Int32.ofNat kk) + (1 : Int32))), .val (.int (Int32.ofNat cs.length)), .val (.int (Int32.ofNat kk)), .val (.int (cs.getD kk 0))]) rfl ?_
          refine X5.iinc j52_21_38 rfl (l' := #[.val (.ref bb), .val (.int ((Int32.ofNat kk) + (1 : Int32))), .val (.ref dd), .val (.int ((Int32.ofNat kk) + (1 : Int32))), .val (.int (Int32.ofNat cs.length)), .val (.int ((Int32.ofNat kk) + (1 : Int32))), .val (.int (cs.getD kk 0))]) rfl ?_
          refine X5.goto (pc0 := 41) (pc' := 3) rfl j52_21_41 (by decide) (by decide) ?_
          show Go _ _ _ _ (T5.setTop (mkF m 3 #[.val (.ref bb), .val (.int ((Int32.ofNat kk) + (1 : Int32))), .val (.ref dd), .val (.int ((Int32.ofNat kk) + (1 : Int32))), .val (.int (Int32.ofNat cs.length)), .val (.int ((Int32.ofNat kk) + (1 : Int32))), .val (.int (cs.getD kk 0))] []))
          rw [on_succ]
          have f6 := (lf0).keep W5 (ninS hbd nin0)
          exact ih (kk + 1) (us ++ [Value.int (StrChars.lo8 (cs.getD kk 0))]) (.val (.int (cs.getD kk 0))) _ _ X5 K0_h5 f6 A5 (by omega) (by rw [hus, own_tk8 hkl]) (own_more hal cw) (Or.inr ⟨_, rfl⟩)
  exact loop cs.length 0 [] .unset _ _ X0 (Keep.refl h0 [dd]) pr0 pr1 (by omega) rfl (fun j hj => absurd hj (Nat.not_lt_zero _)) (Or.inl rfl)
theorem ef_I1 (m : MethodId) (x0 : Int32) : entryFrame m #[(.int x0)] 1 = mkF m 0 #[.val (.int x0)] [] := by first | (simp [entryFrame, mkF, argsToLocals, Value.category]; done) | rfl
def Q_ru_nbl (Z : State) (n : Nat) (h0 : Heap) (ov : Option Value) (hz : Heap) : Prop := ov = some (.int (Int32.ofNat (2 * n))) ∧ h0 = hz
theorem j52_3_0 : decode jdk_52_method_3_code 0 = .ok (.iload_n 0, 1) := by decide +kernel
theorem j52_3_1 : decode jdk_52_method_3_code 1 = .ok (.ifCond .ge 11, 3) := by decide +kernel
theorem j52_3_12 : decode jdk_52_method_3_code 12 = .ok (.iload_n 0, 1) := by decide +kernel
theorem j52_3_13 : decode jdk_52_method_3_code 13 = .ok (.ldc 20, 2) := by decide +kernel
theorem j52_3_15 : decode jdk_52_method_3_code 15 = .ok (.if_icmp .lt 40, 3) := by decide +kernel
theorem j52_3_55 : decode jdk_52_method_3_code 55 = .ok (.iload_n 0, 1) := by decide +kernel
theorem j52_3_56 : decode jdk_52_method_3_code 56 = .ok (.iconst 1, 1) := by decide +kernel
theorem j52_3_57 : decode jdk_52_method_3_code 57 = .ok (.ishl, 1) := by decide +kernel
theorem j52_3_58 : decode jdk_52_method_3_code 58 = .ok (.ireturn, 1) := by decide +kernel
abbrev RM_ru_nbl : Room := { frames := 0, cells := 0, slots := 0, locals := 0 }
theorem ru_nbl (l : Launch) (Z : State) (a0 : Array Value) (hw : ∀ d ∈ tables_1, d.before a0 Z = true) (n0 : Nat) (n : Nat) (h0 : Heap) (hO : Old Z n0 h0) (hn : n < 64) :
    Ct l (⟨"java/lang/StringUTF16", "newBytesLength", "(I)I"⟩ : MethodName) jdk_52_method_3_code 1 (some .int) [] RM_ru_nbl Z n0 #[(.int (Int32.ofNat n))] h0 [] (Q_ru_nbl Z n h0) := by
  refine Ct.of_walk (plainFor_of_name pn_0) hO all0 ?_
  intro p e s m below meth c T0 X0
  rw [ef_I1 m (Int32.ofNat n)]
  show Go _ _ _ _ (T0.setTop (mkF m 0 #[.val (.int (Int32.ofNat n))] []))
  refine X0.iloadN j52_3_0 rfl ?_
  refine X0.ifYes (pc0 := 1) (pc' := 12) rfl j52_3_1 rfl (XT.i0_ge_t (on_nn (by omega))) (by decide) (by decide) ?_
  refine X0.iloadN j52_3_12 rfl ?_
  refine Go.by (fun _ k => X0.ldcI (hw _ (gm 225 rfl)) (g := (mkF m 13 #[.val (.int (Int32.ofNat n))] [(.int (Int32.ofNat n))])) rfl j52_3_13 _ k) ?_
  show Go _ _ _ _ (T0.setTop (mkF m 15 #[.val (.int (Int32.ofNat n))] [(.int (1073741823 : Int32)), (.int (Int32.ofNat n))]))
  refine X0.icmpYes (pc0 := 15) (pc' := 55) rfl j52_3_15 rfl (XT.ii_lt_t (own_big hn)) (by decide) (by decide) ?_
  refine X0.iloadN j52_3_55 rfl ?_
  refine X0.iconst j52_3_56 ?_
  refine X0.ishl j52_3_57 rfl ?_
  show Go _ _ _ _ (T0.setTop (mkF m 58 #[.val (.int (Int32.ofNat n))] [(.int ((Int32.ofNat n) <<< ((1 : Int32) &&& 31)))]))
  rw [own_shl hn]
  show Go _ _ _ _ (T0.setTop (mkF m 58 #[.val (.int (Int32.ofNat n))] [(.int (Int32.ofNat (2 * n)))]))
  exact X0.retI j52_3_58 (Keep.refl h0 []) ⟨rfl, rfl⟩ (by decide) (by decide)
def Q_ru_nbf8 (Z : State) (n : Nat) (h0 : Heap) (ov : Option Value) (hz : Heap) : Prop := ∃ (t : Addr), ∃ (kb : ClassId), ov = some (.ref t) ∧ h0.size ≤ t ∧ t < hz.size ∧ Arv Z hz t kb .byte (Int32.ofNat (2 * n)) [] (.int (0 : Int32))
theorem j52_2_0 : decode jdk_52_method_2_code 0 = .ok (.iload_n 0, 1) := by decide +kernel
theorem pd_0 : parseMethodDescriptor "(I)I" = some ⟨[.int], some .int⟩ := by decide +kernel
theorem j52_2_1 : decode jdk_52_method_2_code 1 = .ok (.invokestatic 11, 3) := by decide +kernel
theorem j52_2_4 : decode jdk_52_method_2_code 4 = .ok (.newarray .byte, 2) := by decide +kernel
theorem j52_2_6 : decode jdk_52_method_2_code 6 = .ok (.areturn, 1) := by decide +kernel
abbrev RM_ru_nbf8 : Room := { frames := 1, cells := 1, slots := 8, locals := 12 }
theorem ru_nbf8 (l : Launch) (Z : State) (a0 : Array Value) (hw : ∀ d ∈ tables_1, d.before a0 Z = true) (n0 : Nat) (n : Nat) (h0 : Heap) (hO : Old Z n0 h0) (hn : 2 * n ≤ 8) :
    Ct l (⟨"java/lang/StringUTF16", "newBytesFor", "(I)[B"⟩ : MethodName) jdk_52_method_2_code 1 (some (.array .byte)) [] RM_ru_nbf8 Z n0 #[(.int (Int32.ofNat n))] h0 [] (Q_ru_nbf8 Z n h0) := by
  refine Ct.of_walk (plainFor_of_name pn_0) hO all0 ?_
  intro p e s m below meth c T0 X0
  rw [ef_I1 m (Int32.ofNat n)]
  show Go _ _ _ _ (T0.setTop (mkF m 0 #[.val (.int (Int32.ofNat n))] []))
  refine X0.iloadN j52_2_0 rfl ?_
  obtain ⟨_, T1, h1, XX1, K1, ⟨rfl, rfl⟩, st1⟩ := X0.stX (W := 0) (hw _ (gm 222 rfl)) (hw _ (gm 223 rfl)) (hw _ (gm 199 rfl)) (hw _ (gm 224 rfl)) (by decide) ((ru_nbl l Z a0 hw n0 n h0 X0.old (by omega)).pay (hw _ (gm 224 rfl)) (hw _ (gm 199 rfl)) (by decide) (by decide)) all0 (g := (mkF m 1 #[.val (.int (Int32.ofNat n))] [(.int (Int32.ofNat n))])) rfl rfl (argsL := [(.int (Int32.ofNat n))]) (rest := []) (lenOf pd_0 rfl) rfl (by exact Nat.le_of_eq rfl) j52_2_1 rfl (by decide) (by decide)
  refine Go.tr st1 ?_
  have X1 := XX1 [] all0
  obtain ⟨T2, h2, b2, k2, g_b2, X2, E2, A2, st2⟩ := X1.newP (hw _ (gm 24 rfl)) (g := (mkF m 4 #[.val (.int (Int32.ofNat n))] [(.int (Int32.ofNat (2 * n)))])) rfl j52_2_4 rfl (on_nn (by omega)) (cap := 8) (by rw [on_clamp (by omega)]; exact hn) (by decide) (by decide) (by decide) (vs := (List.replicate (Int32.ofNat (2 * n)).toNatClampNeg (.int (0 : Int32)))) rfl
  refine Go.by st2 ?_
  have sz_b2 := Nat.le_trans X1.sz (Nat.le_of_eq g_b2.symm)
  have K0_h2 := (Keep.refl h0 []).ext E2
  have F2 : Arv Z h2 b2 k2 .byte (Int32.ofNat (2 * n)) (List.replicate (Int32.ofNat (2 * n)).toNatClampNeg (.int (0 : Int32))) (.int (0 : Int32)) := A2
  show Go _ _ _ _ (T2.setTop (mkF m 6 #[.val (.int (Int32.ofNat n))] [(.ref b2)]))
  have f3 : Arv Z h2 b2 k2 .byte (Int32.ofNat (2 * n)) [] (.int (0 : Int32)) := (F2).pad (own_pad0 _ _)
  exact X2.retR rfl rfl j52_2_6 K0_h2 ⟨b2, k2, rfl, sz_b2, (X2.lt (.head _)), f3⟩ (by decide) (by decide)
theorem ef_RII3 (m : MethodId) (x0 : Addr) (x1 : Int32) (x2 : Int32) : entryFrame m #[(.ref x0), (.int x1), (.int x2)] 3 = mkF m 0 #[.val (.ref x0), .val (.int x1), .val (.int x2)] [] := by first | (simp [entryFrame, mkF, argsToLocals, Value.category]; done) | rfl
def Q_ru_putc (Z : State) (dd : Addr) (kb : ClassId) (i : Nat) (ch : Int32) (M : Nat) (us : List Value) (h0 : Heap) (ov : Option Value) (hz : Heap) : Prop := ov = none ∧ Arv Z hz dd kb .byte (Int32.ofNat M) (us ++ [Value.int (StrChars.lo8 ch), Value.int (StrChars.hi8 ch)]) (.int (0 : Int32))
theorem j52_4_0 : decode jdk_52_method_4_code 0 = .ok (.getstatic 44, 3) := by decide +kernel
theorem j52_4_3 : decode jdk_52_method_4_code 3 = .ok (.ifCond .ne 25, 3) := by decide +kernel
theorem j52_4_28 : decode jdk_52_method_4_code 28 = .ok (.iload_n 1, 1) := by decide +kernel
theorem j52_4_29 : decode jdk_52_method_4_code 29 = .ok (.iconst 1, 1) := by decide +kernel
theorem j52_4_30 : decode jdk_52_method_4_code 30 = .ok (.ishl, 1) := by decide +kernel
theorem j52_4_31 : decode jdk_52_method_4_code 31 = .ok (.istore_n 1, 1) := by decide +kernel
theorem j52_4_32 : decode jdk_52_method_4_code 32 = .ok (.aload_n 0, 1) := by decide +kernel
theorem j52_4_33 : decode jdk_52_method_4_code 33 = .ok (.iload_n 1, 1) := by decide +kernel
theorem j52_4_34 : decode jdk_52_method_4_code 34 = .ok (.iinc 1 1, 3) := by decide +kernel
theorem j52_4_37 : decode jdk_52_method_4_code 37 = .ok (.iload_n 2, 1) := by decide +kernel
theorem j52_4_38 : decode jdk_52_method_4_code 38 = .ok (.getstatic 59, 3) := by decide +kernel
theorem j52_4_41 : decode jdk_52_method_4_code 41 = .ok (.ishr, 1) := by decide +kernel
theorem j52_4_42 : decode jdk_52_method_4_code 42 = .ok (.i2b, 1) := by decide +kernel
theorem j52_4_43 : decode jdk_52_method_4_code 43 = .ok (.bastore, 1) := by decide +kernel
theorem j52_4_44 : decode jdk_52_method_4_code 44 = .ok (.aload_n 0, 1) := by decide +kernel
theorem j52_4_45 : decode jdk_52_method_4_code 45 = .ok (.iload_n 1, 1) := by decide +kernel
theorem j52_4_46 : decode jdk_52_method_4_code 46 = .ok (.iload_n 2, 1) := by decide +kernel
theorem j52_4_47 : decode jdk_52_method_4_code 47 = .ok (.getstatic 63, 3) := by decide +kernel
theorem j52_4_50 : decode jdk_52_method_4_code 50 = .ok (.ishr, 1) := by decide +kernel
theorem j52_4_51 : decode jdk_52_method_4_code 51 = .ok (.i2b, 1) := by decide +kernel
theorem j52_4_52 : decode jdk_52_method_4_code 52 = .ok (.bastore, 1) := by decide +kernel
theorem j52_4_53 : decode jdk_52_method_4_code 53 = .ok (.return_, 1) := by decide +kernel
abbrev RM_ru_putc : Room := { frames := 0, cells := 0, slots := 0, locals := 0 }
theorem ru_putc (l : Launch) (Z : State) (a0 : Array Value) (hw : ∀ d ∈ tables_1, d.before a0 Z = true) (n0 : Nat) (dd : Addr) (kb : ClassId) (i : Nat) (ch : Int32) (M : Nat) (us : List Value) (h0 : Heap) (hO : Old Z n0 h0) (pr0 : Arv Z h0 dd kb .byte (Int32.ofNat M) us (.int (0 : Int32))) (Sa : SA1 Z) (Su : SU1 Z) (Sv : SV1 Z) (hu : us.length = 2 * i) (hM : 2 * i + 2 ≤ M) (hM2 : M ≤ 100) (g_dd : n0 ≤ dd) (l_dd : dd < h0.size) :
    Ct l (⟨"java/lang/StringUTF16", "putChar", "([BII)V"⟩ : MethodName) jdk_52_method_4_code 3 none [] RM_ru_putc Z n0 #[(.ref dd), (.int (Int32.ofNat i)), (.int ch)] h0 [dd] (Q_ru_putc Z dd kb i ch M us h0) := by
  refine Ct.of_walk (plainFor_of_name pn_0) hO (allS ⟨g_dd, l_dd⟩ all0) ?_
  intro p e s m below meth c T0 X0
  rw [ef_RII3 m dd (Int32.ofNat i) ch]
  show Go _ _ _ _ (T0.setTop (mkF m 0 #[.val (.ref dd), .val (.int (Int32.ofNat i)), .val (.int ch)] []))
  obtain ⟨T1, X1, st1⟩ := X0.getS (hw _ (gm 229 rfl)) Via.refl Sa (g := (mkF m 0 #[.val (.ref dd), .val (.int (Int32.ofNat i)), .val (.int ch)] [])) rfl j52_4_0
  refine Go.by st1 ?_
  refine X1.ifYes (pc0 := 3) (pc' := 28) rfl j52_4_3 rfl (XT.i0_ne_t (by decide)) (by decide) (by decide) ?_
  refine X1.iloadN j52_4_28 rfl ?_
  refine X1.iconst j52_4_29 ?_
  refine X1.ishl j52_4_30 rfl ?_
  show Go _ _ _ _ (T1.setTop (mkF m 31 #[.val (.ref dd), .val (.int (Int32.ofNat i)), .val (.int ch)] [(.int ((Int32.ofNat i) <<< ((1 : Int32) &&& 31)))]))
  rw [own_shl (by omega)]
  show Go _ _ _ _ (T1.setTop (mkF m 31 #[.val (.ref dd), .val (.int (Int32.ofNat i)), .val (.int ch)] [(.int (Int32.ofNat (2 * i)))]))
  refine X1.istoreN j52_4_31 rfl (l' := #[.val (.ref dd), .val (.int (Int32.ofNat (2 * i))), .val (.int ch)]) rfl ?_
  refine X1.aloadN j52_4_32 rfl rfl ?_
  refine X1.iloadN j52_4_33 rfl ?_
  refine X1.iinc j52_4_34 rfl (l' := #[.val (.ref dd), .val (.int ((Int32.ofNat (2 * i)) + (1 : Int32))), .val (.int ch)]) rfl ?_
  refine X1.iloadN j52_4_37 rfl ?_
  obtain ⟨T2, X2, st2⟩ := X1.getS (hw _ (gm 230 rfl)) Via.refl Su (g := (mkF m 38 #[.val (.ref dd), .val (.int ((Int32.ofNat (2 * i)) + (1 : Int32))), .val (.int ch)] [(.int ch), (.int (Int32.ofNat (2 * i))), (.ref dd)])) rfl j52_4_38
  refine Go.by st2 ?_
  refine X2.ishr j52_4_41 rfl ?_
  refine X2.i2b j52_4_42 rfl ?_
  have f3 : Arv Z h0 dd kb .byte (Int32.ofNat M) (us ++ [Value.int (0 : Int32)]) (.int (0 : Int32)) := (pr0).pad (own_pad _ _)
  obtain ⟨T4, h4, X4, W4, A4, st4⟩ := X2.stB (x' := (StrChars.lo8 ch)) f3 (.head _) ⟨on_nn (by omega), (on_lt (by omega) (by omega)).mpr (by omega)⟩ (i := (2 * i)) (on_clamp (by omega)) (by simp [hu]) (own_lo _) (vs' := (us ++ [Value.int (StrChars.lo8 ch)])) (own_set _ _ _ hu) (g := (mkF m 43 #[.val (.ref dd), .val (.int ((Int32.ofNat (2 * i)) + (1 : Int32))), .val (.int ch)] [(.int (((ch >>> ((0 : Int32) &&& 31))).toInt8.toInt32)), (.int (Int32.ofNat (2 * i))), (.ref dd)])) rfl rfl j52_4_43
  refine Go.by st4 ?_
  have K0_h4 := (Keep.refl h0 [dd]).trans W4 (allS (Or.inl (.head _)) all0)
  show Go _ _ _ _ (T4.setTop (mkF m 44 #[.val (.ref dd), .val (.int ((Int32.ofNat (2 * i)) + (1 : Int32))), .val (.int ch)] []))
  refine X4.aloadN j52_4_44 rfl rfl ?_
  refine X4.iloadN j52_4_45 rfl ?_
  refine X4.iloadN j52_4_46 rfl ?_
  obtain ⟨T5, X5, st5⟩ := X4.getS (hw _ (gm 231 rfl)) Via.refl Sv (g := (mkF m 47 #[.val (.ref dd), .val (.int ((Int32.ofNat (2 * i)) + (1 : Int32))), .val (.int ch)] [(.int ch), (.int ((Int32.ofNat (2 * i)) + (1 : Int32))), (.ref dd)])) rfl j52_4_47
  refine Go.by st5 ?_
  refine X5.ishr j52_4_50 rfl ?_
  refine X5.i2b j52_4_51 rfl ?_
  show Go _ _ _ _ (T5.setTop (mkF m 52 #[.val (.ref dd), .val (.int ((Int32.ofNat (2 * i)) + (1 : Int32))), .val (.int ch)] [(.int (((ch >>> ((8 : Int32) &&& 31))).toInt8.toInt32)), (.int ((Int32.ofNat (2 * i)) + (1 : Int32))), (.ref dd)]))
  rw [on_succ]
  show Go _ _ _ _ (T5.setTop (mkF m 52 #[.val (.ref dd), .val (.int (Int32.ofNat (2 * i + 1))), .val (.int ch)] [(.int (((ch >>> ((8 : Int32) &&& 31))).toInt8.toInt32)), (.int (Int32.ofNat (2 * i + 1))), (.ref dd)]))
  have f6 : Arv Z h4 dd kb .byte (Int32.ofNat M) ((us ++ [Value.int (StrChars.lo8 ch)]) ++ [Value.int (0 : Int32)]) (.int (0 : Int32)) := (A4).pad (own_pad _ _)
  obtain ⟨T7, h7, X7, W7, A7, st7⟩ := X5.stB (x' := (StrChars.hi8 ch)) f6 (.head _) ⟨on_nn (by omega), (on_lt (by omega) (by omega)).mpr (by omega)⟩ (i := (2 * i + 1)) (on_clamp (by omega)) (by simp [hu]) (own_hi _) (vs' := (us ++ [Value.int (StrChars.lo8 ch), Value.int (StrChars.hi8 ch)])) (by rw [own_set _ _ _ (by simp [hu]), List.append_assoc]; rfl) (g := (mkF m 52 #[.val (.ref dd), .val (.int (Int32.ofNat (2 * i + 1))), .val (.int ch)] [(.int (((ch >>> ((8 : Int32) &&& 31))).toInt8.toInt32)), (.int (Int32.ofNat (2 * i + 1))), (.ref dd)])) rfl rfl j52_4_52
  refine Go.by st7 ?_
  have K0_h7 := K0_h4.trans W7 (allS (Or.inl (.head _)) all0)
  show Go _ _ _ _ (T7.setTop (mkF m 53 #[.val (.ref dd), .val (.int (Int32.ofNat (2 * i + 1))), .val (.int ch)] []))
  exact X7.retV j52_4_53 K0_h7 ⟨rfl, A7⟩ (by decide) (by decide)
theorem ef_RI2 (m : MethodId) (x0 : Addr) (x1 : Int32) : entryFrame m #[(.ref x0), (.int x1)] 2 = mkF m 0 #[.val (.ref x0), .val (.int x1)] [] := by first | (simp [entryFrame, mkF, argsToLocals, Value.category]; done) | rfl
def Q_ru_getc (Z : State) (t : Addr) (kb : ClassId) (i : Nat) (M : Nat) (cs : List Int32) (h0 : Heap) (ov : Option Value) (hz : Heap) : Prop := ov = some (.int (cs.getD i 0)) ∧ h0 = hz
theorem j52_5_0 : decode jdk_52_method_5_code 0 = .ok (.getstatic 44, 3) := by decide +kernel
theorem j52_5_3 : decode jdk_52_method_5_code 3 = .ok (.ifCond .ne 25, 3) := by decide +kernel
theorem j52_5_28 : decode jdk_52_method_5_code 28 = .ok (.iload_n 1, 1) := by decide +kernel
theorem j52_5_29 : decode jdk_52_method_5_code 29 = .ok (.iconst 1, 1) := by decide +kernel
theorem j52_5_30 : decode jdk_52_method_5_code 30 = .ok (.ishl, 1) := by decide +kernel
theorem j52_5_31 : decode jdk_52_method_5_code 31 = .ok (.istore_n 1, 1) := by decide +kernel
theorem j52_5_32 : decode jdk_52_method_5_code 32 = .ok (.aload_n 0, 1) := by decide +kernel
theorem j52_5_33 : decode jdk_52_method_5_code 33 = .ok (.iload_n 1, 1) := by decide +kernel
theorem j52_5_34 : decode jdk_52_method_5_code 34 = .ok (.iinc 1 1, 3) := by decide +kernel
theorem j52_5_37 : decode jdk_52_method_5_code 37 = .ok (.baload, 1) := by decide +kernel
theorem j52_5_38 : decode jdk_52_method_5_code 38 = .ok (.sipush 255, 3) := by decide +kernel
theorem j52_5_41 : decode jdk_52_method_5_code 41 = .ok (.iand, 1) := by decide +kernel
theorem j52_5_42 : decode jdk_52_method_5_code 42 = .ok (.getstatic 59, 3) := by decide +kernel
theorem j52_5_45 : decode jdk_52_method_5_code 45 = .ok (.ishl, 1) := by decide +kernel
theorem j52_5_46 : decode jdk_52_method_5_code 46 = .ok (.aload_n 0, 1) := by decide +kernel
theorem j52_5_47 : decode jdk_52_method_5_code 47 = .ok (.iload_n 1, 1) := by decide +kernel
theorem j52_5_48 : decode jdk_52_method_5_code 48 = .ok (.baload, 1) := by decide +kernel
theorem j52_5_49 : decode jdk_52_method_5_code 49 = .ok (.sipush 255, 3) := by decide +kernel
theorem j52_5_52 : decode jdk_52_method_5_code 52 = .ok (.iand, 1) := by decide +kernel
theorem j52_5_53 : decode jdk_52_method_5_code 53 = .ok (.getstatic 63, 3) := by decide +kernel
theorem j52_5_56 : decode jdk_52_method_5_code 56 = .ok (.ishl, 1) := by decide +kernel
theorem j52_5_57 : decode jdk_52_method_5_code 57 = .ok (.ior, 1) := by decide +kernel
theorem j52_5_58 : decode jdk_52_method_5_code 58 = .ok (.i2c, 1) := by decide +kernel
theorem j52_5_59 : decode jdk_52_method_5_code 59 = .ok (.ireturn, 1) := by decide +kernel
abbrev RM_ru_getc : Room := { frames := 0, cells := 0, slots := 0, locals := 0 }
theorem ru_getc (l : Launch) (Z : State) (a0 : Array Value) (hw : ∀ d ∈ tables_1, d.before a0 Z = true) (n0 : Nat) (t : Addr) (kb : ClassId) (i : Nat) (M : Nat) (cs : List Int32) (h0 : Heap) (hO : Old Z n0 h0) (pr0 : Arv Z h0 t kb .byte (Int32.ofNat M) (StrChars.Road.wideBytes cs) (.int (0 : Int32))) (Sa : SA1 Z) (Su : SU1 Z) (Sv : SV1 Z) (hp : ∀ c ∈ cs, ¬ c < 0 ∧ ¬ (65535 : Int32) < c) (hi : i < cs.length) (hM : 2 * cs.length ≤ M) (hM2 : M ≤ 100) :
    Ct l (⟨"java/lang/StringUTF16", "getChar", "([BI)C"⟩ : MethodName) jdk_52_method_5_code 2 (some .char) [] RM_ru_getc Z n0 #[(.ref t), (.int (Int32.ofNat i))] h0 [] (Q_ru_getc Z t kb i M cs h0) := by
  refine Ct.of_walk (plainFor_of_name pn_0) hO all0 ?_
  intro p e s m below meth c T0 X0
  rw [ef_RI2 m t (Int32.ofNat i)]
  show Go _ _ _ _ (T0.setTop (mkF m 0 #[.val (.ref t), .val (.int (Int32.ofNat i))] []))
  obtain ⟨T1, X1, st1⟩ := X0.getS (hw _ (gm 229 rfl)) Via.refl Sa (g := (mkF m 0 #[.val (.ref t), .val (.int (Int32.ofNat i))] [])) rfl j52_5_0
  refine Go.by st1 ?_
  refine X1.ifYes (pc0 := 3) (pc' := 28) rfl j52_5_3 rfl (XT.i0_ne_t (by decide)) (by decide) (by decide) ?_
  refine X1.iloadN j52_5_28 rfl ?_
  refine X1.iconst j52_5_29 ?_
  refine X1.ishl j52_5_30 rfl ?_
  show Go _ _ _ _ (T1.setTop (mkF m 31 #[.val (.ref t), .val (.int (Int32.ofNat i))] [(.int ((Int32.ofNat i) <<< ((1 : Int32) &&& 31)))]))
  rw [own_shl (by omega)]
  show Go _ _ _ _ (T1.setTop (mkF m 31 #[.val (.ref t), .val (.int (Int32.ofNat i))] [(.int (Int32.ofNat (2 * i)))]))
  refine X1.istoreN j52_5_31 rfl (l' := #[.val (.ref t), .val (.int (Int32.ofNat (2 * i)))]) rfl ?_
  refine X1.aloadN j52_5_32 rfl rfl ?_
  refine X1.iloadN j52_5_33 rfl ?_
  refine X1.iinc j52_5_34 rfl (l' := #[.val (.ref t), .val (.int ((Int32.ofNat (2 * i)) + (1 : Int32)))]) rfl ?_
  refine Go.by (fun _ k => X1.ldA pr0 ⟨on_nn (by omega), (on_lt (by omega) (by omega)).mpr (by omega)⟩ (v := (.int (StrChars.lo8 (cs.getD i 0)))) (by rw [on_clamp (by omega)]; exact own_wlo cs i hi) (Or.inr (Or.inr (Or.inl ⟨rfl, rfl⟩))) (g := (mkF m 37 #[.val (.ref t), .val (.int ((Int32.ofNat (2 * i)) + (1 : Int32)))] [(.int (Int32.ofNat (2 * i))), (.ref t)])) rfl rfl j52_5_37 _ k) ?_
  show Go _ _ _ _ (T1.setTop (mkF m 38 #[.val (.ref t), .val (.int ((Int32.ofNat (2 * i)) + (1 : Int32)))] [(.int (StrChars.lo8 (cs.getD i 0)))]))
  refine X1.sipush j52_5_38 ?_
  refine X1.iand j52_5_41 rfl ?_
  obtain ⟨T2, X2, st2⟩ := X1.getS (hw _ (gm 230 rfl)) Via.refl Su (g := (mkF m 42 #[.val (.ref t), .val (.int ((Int32.ofNat (2 * i)) + (1 : Int32)))] [(.int ((StrChars.lo8 (cs.getD i 0)) &&& (255 : Int32)))])) rfl j52_5_42
  refine Go.by st2 ?_
  refine X2.ishl j52_5_45 rfl ?_
  refine X2.aloadN j52_5_46 rfl rfl ?_
  refine X2.iloadN j52_5_47 rfl ?_
  show Go _ _ _ _ (T2.setTop (mkF m 48 #[.val (.ref t), .val (.int ((Int32.ofNat (2 * i)) + (1 : Int32)))] [(.int ((Int32.ofNat (2 * i)) + (1 : Int32))), (.ref t), (.int (((StrChars.lo8 (cs.getD i 0)) &&& (255 : Int32)) <<< ((0 : Int32) &&& 31)))]))
  rw [on_succ]
  show Go _ _ _ _ (T2.setTop (mkF m 48 #[.val (.ref t), .val (.int (Int32.ofNat (2 * i + 1)))] [(.int (Int32.ofNat (2 * i + 1))), (.ref t), (.int (((StrChars.lo8 (cs.getD i 0)) &&& (255 : Int32)) <<< ((0 : Int32) &&& 31)))]))
  refine Go.by (fun _ k => X2.ldA pr0 ⟨on_nn (by omega), (on_lt (by omega) (by omega)).mpr (by omega)⟩ (v := (.int (StrChars.hi8 (cs.getD i 0)))) (by rw [on_clamp (by omega)]; exact own_whi cs i hi) (Or.inr (Or.inr (Or.inl ⟨rfl, rfl⟩))) (g := (mkF m 48 #[.val (.ref t), .val (.int (Int32.ofNat (2 * i + 1)))] [(.int (Int32.ofNat (2 * i + 1))), (.ref t), (.int (((StrChars.lo8 (cs.getD i 0)) &&& (255 : Int32)) <<< ((0 : Int32) &&& 31)))])) rfl rfl j52_5_48 _ k) ?_
  show Go _ _ _ _ (T2.setTop (mkF m 49 #[.val (.ref t), .val (.int (Int32.ofNat (2 * i + 1)))] [(.int (StrChars.hi8 (cs.getD i 0))), (.int (((StrChars.lo8 (cs.getD i 0)) &&& (255 : Int32)) <<< ((0 : Int32) &&& 31)))]))
  refine X2.sipush j52_5_49 ?_
  refine X2.iand j52_5_52 rfl ?_
  obtain ⟨T3, X3, st3⟩ := X2.getS (hw _ (gm 231 rfl)) Via.refl Sv (g := (mkF m 53 #[.val (.ref t), .val (.int (Int32.ofNat (2 * i + 1)))] [(.int ((StrChars.hi8 (cs.getD i 0)) &&& (255 : Int32))), (.int (((StrChars.lo8 (cs.getD i 0)) &&& (255 : Int32)) <<< ((0 : Int32) &&& 31)))])) rfl j52_5_53
  refine Go.by st3 ?_
  refine X3.ishl j52_5_56 rfl ?_
  refine X3.ior j52_5_57 rfl ?_
  refine X3.i2c j52_5_58 rfl ?_
  have hb := hp _ (getD_mem' (cs := cs) hi)
  exact X3.retN (by simp) (nar_i2c _) j52_5_59 (Keep.refl h0 []) ⟨(congrArg (fun z => some (Value.int z)) ((StrChars.pair_says hb.1 hb.2))), rfl⟩ (by decide) (by decide)
theorem ef_RII5 (m : MethodId) (x0 : Addr) (x1 : Int32) (x2 : Int32) : entryFrame m #[(.ref x0), (.int x1), (.int x2)] 5 = mkF m 0 #[.val (.ref x0), .val (.int x1), .val (.int x2), .unset, .unset] [] := by first | (simp [entryFrame, mkF, argsToLocals, Value.category]; done) | rfl
def Q_ru_tob (Z : State) (bb : Addr) (kC : ClassId) (cs : List Int32) (h0 : Heap) (ov : Option Value) (hz : Heap) : Prop := ∃ (t : Addr), ∃ (kb : ClassId), ov = some (.ref t) ∧ h0.size ≤ t ∧ t < hz.size ∧ Arv Z hz t kb .byte (Int32.ofNat (2 * cs.length)) (StrChars.Road.wideBytes cs) (.int (0 : Int32))
theorem j52_14_0 : decode jdk_52_method_14_code 0 = .ok (.iload_n 2, 1) := by decide +kernel
theorem pd_1 : parseMethodDescriptor "(I)[B" = some ⟨[.int], some (.array .byte)⟩ := by decide +kernel
theorem j52_14_1 : decode jdk_52_method_14_code 1 = .ok (.invokestatic 107, 3) := by decide +kernel
theorem j52_14_4 : decode jdk_52_method_14_code 4 = .ok (.astore_n 3, 1) := by decide +kernel
theorem j52_14_5 : decode jdk_52_method_14_code 5 = .ok (.iconst 0, 1) := by decide +kernel
theorem j52_14_6 : decode jdk_52_method_14_code 6 = .ok (.istore 4, 2) := by decide +kernel
theorem j52_14_8 : decode jdk_52_method_14_code 8 = .ok (.iload 4, 2) := by decide +kernel
theorem j52_14_10 : decode jdk_52_method_14_code 10 = .ok (.iload_n 2, 1) := by decide +kernel
theorem j52_14_11 : decode jdk_52_method_14_code 11 = .ok (.if_icmp .ge 21, 3) := by decide +kernel
theorem j52_14_32 : decode jdk_52_method_14_code 32 = .ok (.aload_n 3, 1) := by decide +kernel
theorem j52_14_33 : decode jdk_52_method_14_code 33 = .ok (.areturn, 1) := by decide +kernel
theorem j52_14_14 : decode jdk_52_method_14_code 14 = .ok (.aload_n 3, 1) := by decide +kernel
theorem j52_14_15 : decode jdk_52_method_14_code 15 = .ok (.iload 4, 2) := by decide +kernel
theorem j52_14_17 : decode jdk_52_method_14_code 17 = .ok (.aload_n 0, 1) := by decide +kernel
theorem j52_14_18 : decode jdk_52_method_14_code 18 = .ok (.iload_n 1, 1) := by decide +kernel
theorem j52_14_19 : decode jdk_52_method_14_code 19 = .ok (.caload, 1) := by decide +kernel
theorem pd_2 : parseMethodDescriptor "([BII)V" = some ⟨[(.array .byte), .int, .int], none⟩ := by decide +kernel
theorem j52_14_20 : decode jdk_52_method_14_code 20 = .ok (.invokestatic 111, 3) := by decide +kernel
theorem j52_14_23 : decode jdk_52_method_14_code 23 = .ok (.iinc 1 1, 3) := by decide +kernel
theorem j52_14_26 : decode jdk_52_method_14_code 26 = .ok (.iinc 4 1, 3) := by decide +kernel
theorem j52_14_29 : decode jdk_52_method_14_code 29 = .ok (.goto (-21), 3) := by decide +kernel
abbrev RM_ru_tob : Room := { frames := 2, cells := 1, slots := 8, locals := 24 }
theorem ru_tob (l : Launch) (Z : State) (a0 : Array Value) (hw : ∀ d ∈ tables_1, d.before a0 Z = true) (n0 : Nat) (bb : Addr) (kC : ClassId) (cs : List Int32) (h0 : Heap) (hO : Old Z n0 h0) (pr0 : Arv Z h0 bb kC .char (Int32.ofNat cs.length) (cs.map Value.int) (.int (0 : Int32))) (Sa : SA1 Z) (Su : SU1 Z) (Sv : SV1 Z) (hl1 : 1 ≤ cs.length) (hl4 : cs.length ≤ 4) :
    Ct l (⟨"java/lang/StringUTF16", "toBytes", "([CII)[B"⟩ : MethodName) jdk_52_method_14_code 5 (some (.array .byte)) [] RM_ru_tob Z n0 #[(.ref bb), (.int (0 : Int32)), (.int (Int32.ofNat cs.length))] h0 [] (Q_ru_tob Z bb kC cs h0) := by
  refine Ct.of_walk (plainFor_of_name pn_0) hO all0 ?_
  intro p e s m below meth c T0 X0
  rw [ef_RII5 m bb (0 : Int32) (Int32.ofNat cs.length)]
  show Go _ _ _ _ (T0.setTop (mkF m 0 #[.val (.ref bb), .val (.int (0 : Int32)), .val (.int (Int32.ofNat cs.length)), .unset, .unset] []))
  refine X0.iloadN j52_14_0 rfl ?_
  have lt_bb_1 := pr0.lt
  obtain ⟨_, T1, h1, XX1, K1, ⟨t_1, kb_1, rfl, fr_t_1, fl_t_1, P1_0⟩, st1⟩ := X0.stX (W := 0) (hw _ (gm 219 rfl)) (hw _ (gm 220 rfl)) (hw _ (gm 199 rfl)) (hw _ (gm 221 rfl)) (by decide) ((ru_nbf8 l Z a0 hw n0 cs.length h0 X0.old (by omega)).pay (hw _ (gm 221 rfl)) (hw _ (gm 199 rfl)) (by decide) (by decide)) all0 (g := (mkF m 1 #[.val (.ref bb), .val (.int (0 : Int32)), .val (.int (Int32.ofNat cs.length)), .unset, .unset] [(.int (Int32.ofNat cs.length))])) rfl rfl (argsL := [(.int (Int32.ofNat cs.length))]) (rest := []) (lenOf pd_1 rfl) rfl (by exact Nat.le_of_eq rfl) j52_14_1 rfl (by decide) (by decide)
  refine Go.tr st1 ?_
  have X1 := XX1 [t_1] (allS (Or.inr ⟨fr_t_1, fl_t_1⟩) all0)
  have K0_h1 := (Keep.refl h0 []).trans K1 all0
  have ne_bb_t_1 := ne_ge lt_bb_1 fr_t_1
  have sz_t_1 := Nat.le_trans X0.sz fr_t_1
  refine X1.astoreN j52_14_4 rfl rfl (l' := #[.val (.ref bb), .val (.int (0 : Int32)), .val (.int (Int32.ofNat cs.length)), .val (.ref t_1), .unset]) rfl ?_
  refine X1.iconst j52_14_5 ?_
  refine X1.istore j52_14_6 rfl (l' := #[.val (.ref bb), .val (.int (0 : Int32)), .val (.int (Int32.ofNat cs.length)), .val (.ref t_1), .val (.int (0 : Int32))]) rfl ?_
  have loop : ∀ (mm : Nat) (kk : Nat) (TL : State) (hL : Heap), (Wk false p l e RM_ru_tob s m #[(.ref bb), (.int (0 : Int32)), (.int (Int32.ofNat cs.length))] below meth c Z [] (⟨"java/lang/StringUTF16", "toBytes", "([CII)[B"⟩ : MethodName) jdk_52_method_14_code 5 (some (.array .byte)) n0 h0 TL hL [t_1] 1 8) → (Keep h0 hL []) → (Arv Z hL bb kC .char (Int32.ofNat cs.length) (cs.map Value.int) (.int (0 : Int32))) → (Arv Z hL t_1 kb_1 .byte (Int32.ofNat (2 * cs.length)) (StrChars.Road.wideBytes (cs.take kk)) (.int (0 : Int32))) → (kk + mm = cs.length) → Go p e below (Fi false RM_ru_tob s Z [] n0 h0 [] (Q_ru_tob Z bb kC cs h0)) (TL.setTop (mkF m 8 #[.val (.ref bb), .val (.int (Int32.ofNat kk)), .val (.int (Int32.ofNat cs.length)), .val (.ref t_1), .val (.int (Int32.ofNat kk))] [])) := by
    intro mm
    induction mm with
    | zero =>
      intro kk TL hL XL KL lf0 lf1 hk
      show Go _ _ _ _ (TL.setTop (mkF m 8 #[.val (.ref bb), .val (.int (Int32.ofNat kk)), .val (.int (Int32.ofNat cs.length)), .val (.ref t_1), .val (.int (Int32.ofNat kk))] []))
      refine XL.iload j52_14_8 rfl ?_
      refine XL.iloadN j52_14_10 rfl ?_
      refine XL.icmpYes (pc0 := 11) (pc' := 32) rfl j52_14_11 rfl (XT.ii_ge_t (fun q => by have := (on_lt (by omega) (by omega)).mp q; omega)) (by decide) (by decide) ?_
      refine XL.aloadN j52_14_32 rfl rfl ?_
      have f2 : Arv Z hL t_1 kb_1 .byte (Int32.ofNat (2 * cs.length)) (StrChars.Road.wideBytes cs) (.int (0 : Int32)) := (by have q := lf1; rw [show cs.take kk = cs from List.take_of_length_le (by omega)] at q; exact q)
      exact XL.retR rfl rfl j52_14_33 KL ⟨t_1, kb_1, rfl, sz_t_1, (XL.lt (.head _)), f2⟩ (by decide) (by decide)
    | succ mm ih =>
      intro kk TL hL XL KL lf0 lf1 hk
      show Go _ _ _ _ (TL.setTop (mkF m 8 #[.val (.ref bb), .val (.int (Int32.ofNat kk)), .val (.int (Int32.ofNat cs.length)), .val (.ref t_1), .val (.int (Int32.ofNat kk))] []))
      have hkl : kk < cs.length := by omega
      refine XL.iload j52_14_8 rfl ?_
      refine XL.iloadN j52_14_10 rfl ?_
      refine XL.icmpNo j52_14_11 rfl (XT.ii_ge_f ((on_lt (by omega) (by omega)).mpr hkl)) ?_
      refine XL.aloadN j52_14_14 rfl rfl ?_
      refine XL.iload j52_14_15 rfl ?_
      refine XL.aloadN j52_14_17 rfl rfl ?_
      refine XL.iloadN j52_14_18 rfl ?_
      refine Go.by (fun _ k => XL.ldA lf0 ⟨on_nn (by omega), (on_lt (by omega) (by omega)).mpr hkl⟩ (v := (.int (cs.getD kk 0))) (by rw [on_clamp (by omega)]; exact own_gc hkl) (Or.inr (Or.inl ⟨rfl, rfl⟩)) (g := (mkF m 19 #[.val (.ref bb), .val (.int (Int32.ofNat kk)), .val (.int (Int32.ofNat cs.length)), .val (.ref t_1), .val (.int (Int32.ofNat kk))] [(.int (Int32.ofNat kk)), (.ref bb), (.int (Int32.ofNat kk)), (.ref t_1)])) rfl rfl j52_14_19 _ k) ?_
      show Go _ _ _ _ (TL.setTop (mkF m 20 #[.val (.ref bb), .val (.int (Int32.ofNat kk)), .val (.int (Int32.ofNat cs.length)), .val (.ref t_1), .val (.int (Int32.ofNat kk))] [(.int (cs.getD kk 0)), (.int (Int32.ofNat kk)), (.ref t_1)]))
      obtain ⟨_, T3, h3, XX3, K3, ⟨rfl, P3_0⟩, st3⟩ := XL.stX (W := 0) (hw _ (gm 226 rfl)) (hw _ (gm 227 rfl)) (hw _ (gm 199 rfl)) (hw _ (gm 228 rfl)) (by decide) ((ru_putc l Z a0 hw n0 t_1 kb_1 kk (cs.getD kk 0) (2 * cs.length) (StrChars.Road.wideBytes (cs.take kk)) hL XL.old lf1 Sa Su Sv (by rw [own_wbl, List.length_take]; omega) (by omega) (by omega) (XL.ge (.head _)) (XL.lt (.head _))).pay (hw _ (gm 228 rfl)) (hw _ (gm 199 rfl)) (by decide) (by decide)) (allS (.head _) all0) (g := (mkF m 20 #[.val (.ref bb), .val (.int (Int32.ofNat kk)), .val (.int (Int32.ofNat cs.length)), .val (.ref t_1), .val (.int (Int32.ofNat kk))] [(.int (cs.getD kk 0)), (.int (Int32.ofNat kk)), (.ref t_1)])) rfl rfl (argsL := [(.ref t_1), (.int (Int32.ofNat kk)), (.int (cs.getD kk 0))]) (rest := []) (lenOf pd_2 rfl) rfl (by exact Nat.le_of_eq rfl) j52_14_20 rfl (by decide) (by decide)
      refine Go.tr st3 ?_
      have X3 := XX3 [] all0
      have K0_h3 : Keep h0 h3 [] := KL.trans K3 (allS (Or.inr sz_t_1) all0)
      have f4 : Arv Z h3 t_1 kb_1 .byte (Int32.ofNat (2 * cs.length)) (StrChars.Road.wideBytes (cs.take (kk + 1))) (.int (0 : Int32)) := (by rw [own_tkc hkl, own_wba]; exact P3_0)
      refine X3.iinc j52_14_23 rfl (l' := #[.val (.ref bb), .val (.int ((Int32.ofNat kk) + (1 : Int32))), .val (.int (Int32.ofNat cs.length)), .val (.ref t_1), .val (.int (Int32.ofNat kk))]) rfl ?_
      refine X3.iinc j52_14_26 rfl (l' := #[.val (.ref bb), .val (.int ((Int32.ofNat kk) + (1 : Int32))), .val (.int (Int32.ofNat cs.length)), .val (.ref t_1), .val (.int ((Int32.ofNat kk) + (1 : Int32)))]) rfl ?_
      refine X3.goto (pc0 := 29) (pc' := 8) rfl j52_14_29 (by decide) (by decide) ?_
      show Go _ _ _ _ (T3.setTop (mkF m 8 #[.val (.ref bb), .val (.int ((Int32.ofNat kk) + (1 : Int32))), .val (.int (Int32.ofNat cs.length)), .val (.ref t_1), .val (.int ((Int32.ofNat kk) + (1 : Int32)))] []))
      rw [on_succ]
      have f5 := (lf0).keep K3 (ninS ne_bb_t_1 nin0)
      exact ih (kk + 1) _ _ X3 K0_h3 f5 f4 (by omega)
  have f6 := (pr0).keep K1 nin0
  exact loop cs.length 0 _ _ X1 K0_h1 f6 P1_0 (by omega)
theorem ef_RII6 (m : MethodId) (x0 : Addr) (x1 : Int32) (x2 : Int32) : entryFrame m #[(.ref x0), (.int x1), (.int x2)] 6 = mkF m 0 #[.val (.ref x0), .val (.int x1), .val (.int x2), .unset, .unset, .unset] [] := by first | (simp [entryFrame, mkF, argsToLocals, Value.category]; done) | rfl
def Q_ru_cmp3 (Z : State) (bb : Addr) (kC : ClassId) (cs : List Int32) (h0 : Heap) (ov : Option Value) (hz : Heap) : Prop := ∃ (t : Addr), ∃ (kb : ClassId), ∃ (cd : Int32), ∃ (N2 : Int32), ∃ (us : List Value), ov = some (.ref t) ∧ h0.size ≤ t ∧ t < hz.size ∧ Arv Z hz t kb .byte N2 us (.int (0 : Int32)) ∧ (StrChars.Road.CodA cs cd N2 us)
theorem j52_16_0 : decode jdk_52_method_16_code 0 = .ok (.iload_n 2, 1) := by decide +kernel
theorem j52_16_1 : decode jdk_52_method_16_code 1 = .ok (.newarray .byte, 2) := by decide +kernel
theorem j52_16_3 : decode jdk_52_method_16_code 3 = .ok (.astore_n 3, 1) := by decide +kernel
theorem j52_16_4 : decode jdk_52_method_16_code 4 = .ok (.aload_n 0, 1) := by decide +kernel
theorem j52_16_5 : decode jdk_52_method_16_code 5 = .ok (.iload_n 1, 1) := by decide +kernel
theorem j52_16_6 : decode jdk_52_method_16_code 6 = .ok (.aload_n 3, 1) := by decide +kernel
theorem j52_16_7 : decode jdk_52_method_16_code 7 = .ok (.iconst 0, 1) := by decide +kernel
theorem j52_16_8 : decode jdk_52_method_16_code 8 = .ok (.iload_n 2, 1) := by decide +kernel
theorem pd_3 : parseMethodDescriptor "([CI[BII)I" = some ⟨[(.array .char), .int, (.array .byte), .int, .int], some .int⟩ := by decide +kernel
theorem j52_16_9 : decode jdk_52_method_16_code 9 = .ok (.invokestatic 115, 3) := by decide +kernel
theorem j52_16_12 : decode jdk_52_method_16_code 12 = .ok (.istore 4, 2) := by decide +kernel
theorem j52_16_14 : decode jdk_52_method_16_code 14 = .ok (.iload 4, 2) := by decide +kernel
theorem j52_16_16 : decode jdk_52_method_16_code 16 = .ok (.iload_n 2, 1) := by decide +kernel
theorem j52_16_17 : decode jdk_52_method_16_code 17 = .ok (.if_icmp .eq 40, 3) := by decide +kernel
theorem j52_16_57 : decode jdk_52_method_16_code 57 = .ok (.aload_n 3, 1) := by decide +kernel
theorem j52_16_58 : decode jdk_52_method_16_code 58 = .ok (.areturn, 1) := by decide +kernel
theorem j52_16_20 : decode jdk_52_method_16_code 20 = .ok (.aload_n 0, 1) := by decide +kernel
theorem j52_16_21 : decode jdk_52_method_16_code 21 = .ok (.iload_n 1, 1) := by decide +kernel
theorem j52_16_22 : decode jdk_52_method_16_code 22 = .ok (.iload_n 2, 1) := by decide +kernel
theorem pd_4 : parseMethodDescriptor "([CII)[B" = some ⟨[(.array .char), .int, .int], some (.array .byte)⟩ := by decide +kernel
theorem j52_16_23 : decode jdk_52_method_16_code 23 = .ok (.invokestatic 119, 3) := by decide +kernel
theorem j52_16_26 : decode jdk_52_method_16_code 26 = .ok (.astore 5, 2) := by decide +kernel
theorem j52_16_28 : decode jdk_52_method_16_code 28 = .ok (.aload 5, 2) := by decide +kernel
theorem j52_16_30 : decode jdk_52_method_16_code 30 = .ok (.iload 4, 2) := by decide +kernel
theorem pd_5 : parseMethodDescriptor "([BI)C" = some ⟨[(.array .byte), .int], some .char⟩ := by decide +kernel
theorem j52_16_32 : decode jdk_52_method_16_code 32 = .ok (.invokestatic 71, 3) := by decide +kernel
theorem j52_16_35 : decode jdk_52_method_16_code 35 = .ok (.sipush 255, 3) := by decide +kernel
theorem j52_16_38 : decode jdk_52_method_16_code 38 = .ok (.if_icmp .gt 16, 3) := by decide +kernel
theorem j52_16_54 : decode jdk_52_method_16_code 54 = .ok (.aload 5, 2) := by decide +kernel
theorem j52_16_56 : decode jdk_52_method_16_code 56 = .ok (.areturn, 1) := by decide +kernel
abbrev RM_ru_cmp3 : Room := { frames := 3, cells := 2, slots := 12, locals := 40 }
theorem ru_cmp3 (l : Launch) (Z : State) (a0 : Array Value) (hw : ∀ d ∈ tables_1, d.before a0 Z = true) (n0 : Nat) (bb : Addr) (kC : ClassId) (cs : List Int32) (h0 : Heap) (hO : Old Z n0 h0) (pr0 : Arv Z h0 bb kC .char (Int32.ofNat cs.length) (cs.map Value.int) (.int (0 : Int32))) (Sa : SA1 Z) (Su : SU1 Z) (Sv : SV1 Z) (hp : ∀ c ∈ cs, ¬ c < 0 ∧ ¬ (65535 : Int32) < c) (hl1 : 1 ≤ cs.length) (hl4 : cs.length ≤ 4) :
    Ct l (⟨"java/lang/StringUTF16", "compress", "([CII)[B"⟩ : MethodName) jdk_52_method_16_code 6 (some (.array .byte)) [] RM_ru_cmp3 Z n0 #[(.ref bb), (.int (0 : Int32)), (.int (Int32.ofNat cs.length))] h0 [] (Q_ru_cmp3 Z bb kC cs h0) := by
  refine Ct.of_walk (plainFor_of_name pn_0) hO all0 ?_
  intro p e s m below meth c T0 X0
  rw [ef_RII6 m bb (0 : Int32) (Int32.ofNat cs.length)]
  show Go _ _ _ _ (T0.setTop (mkF m 0 #[.val (.ref bb), .val (.int (0 : Int32)), .val (.int (Int32.ofNat cs.length)), .unset, .unset, .unset] []))
  refine X0.iloadN j52_16_0 rfl ?_
  have lt_bb_1 := pr0.lt
  obtain ⟨T1, h1, b1, k1, g_b1, X1, E1, A1, st1⟩ := X0.newP (hw _ (gm 24 rfl)) (g := (mkF m 1 #[.val (.ref bb), .val (.int (0 : Int32)), .val (.int (Int32.ofNat cs.length)), .unset, .unset, .unset] [(.int (Int32.ofNat cs.length))])) rfl j52_16_1 rfl (on_nn (by omega)) (cap := 4) (by rw [on_clamp (by omega)]; exact hl4) (by decide) (by decide) (by decide) (vs := (List.replicate (Int32.ofNat cs.length).toNatClampNeg (.int (0 : Int32)))) rfl
  refine Go.by st1 ?_
  have ne_bb_b1 := ne_new lt_bb_1 g_b1
  have sz_b1 := Nat.le_trans X0.sz (Nat.le_of_eq g_b1.symm)
  have K0_h1 := (Keep.refl h0 []).ext E1
  have F1 : Arv Z h1 b1 k1 .byte (Int32.ofNat cs.length) (List.replicate (Int32.ofNat cs.length).toNatClampNeg (.int (0 : Int32))) (.int (0 : Int32)) := A1
  show Go _ _ _ _ (T1.setTop (mkF m 3 #[.val (.ref bb), .val (.int (0 : Int32)), .val (.int (Int32.ofNat cs.length)), .unset, .unset, .unset] [(.ref b1)]))
  have f2 : Arv Z h1 b1 k1 .byte (Int32.ofNat cs.length) [] (.int (0 : Int32)) := (F1).pad (own_pad0 _ _)
  refine X1.astoreN j52_16_3 rfl rfl (l' := #[.val (.ref bb), .val (.int (0 : Int32)), .val (.int (Int32.ofNat cs.length)), .val (.ref b1), .unset, .unset]) rfl ?_
  refine X1.aloadN j52_16_4 rfl rfl ?_
  refine X1.iloadN j52_16_5 rfl ?_
  refine X1.aloadN j52_16_6 rfl rfl ?_
  refine X1.iconst j52_16_7 ?_
  refine X1.iloadN j52_16_8 rfl ?_
  have f3 := pr0.ext E1
  obtain ⟨_, T4, h4, XX4, K4, ⟨r_4, us_4, rfl, P4_0, p4_0⟩, st4⟩ := X1.stX (W := 0) (hw _ (gm 201 rfl)) (hw _ (gm 202 rfl)) (hw _ (gm 199 rfl)) (hw _ (gm 203 rfl)) (by decide) ((ru_cmp5 l Z a0 hw n0 bb kC b1 k1 cs h1 X1.old f3 f2 ne_bb_b1 hl1 hl4 (X1.ge (.head _)) (X1.lt (.head _))).pay (hw _ (gm 203 rfl)) (hw _ (gm 199 rfl)) (by decide) (by decide)) (allS (.head _) all0) (g := (mkF m 9 #[.val (.ref bb), .val (.int (0 : Int32)), .val (.int (Int32.ofNat cs.length)), .val (.ref b1), .unset, .unset] [(.int (Int32.ofNat cs.length)), (.int (0 : Int32)), (.ref b1), (.int (0 : Int32)), (.ref bb)])) rfl rfl (argsL := [(.ref bb), (.int (0 : Int32)), (.ref b1), (.int (0 : Int32)), (.int (Int32.ofNat cs.length))]) (rest := []) (lenOf pd_3 rfl) rfl (by exact Nat.le_of_eq rfl) j52_16_9 rfl (by decide) (by decide)
  refine Go.tr st4 ?_
  have X4 := XX4 [] all0
  have K0_h4 := K0_h1.trans K4 (allS (Or.inr sz_b1) all0)
  refine X4.istore j52_16_12 rfl (l' := #[.val (.ref bb), .val (.int (0 : Int32)), .val (.int (Int32.ofNat cs.length)), .val (.ref b1), .val (.int (Int32.ofNat r_4)), .unset]) rfl ?_
  refine X4.iload j52_16_14 rfl ?_
  refine X4.iloadN j52_16_16 rfl ?_
  by_cases ce : (Int32.ofNat r_4) = (Int32.ofNat cs.length)
  · refine X4.icmpYes (pc0 := 17) (pc' := 57) rfl j52_16_17 rfl (XT.ii_eq_t ce) (by decide) (by decide) ?_
    refine X4.aloadN j52_16_57 rfl rfl ?_
    show Go _ _ _ _ (T4.setTop (mkF m 58 #[.val (.ref bb), .val (.int (0 : Int32)), .val (.int (Int32.ofNat cs.length)), .val (.ref b1), .val (.int (Int32.ofNat r_4)), .unset] [(.ref b1)]))
    have er : r_4 = cs.length := on_inj (by rcases p4_0 with q | q <;> omega) (by omega) ce
    exact X4.retR rfl rfl j52_16_58 K0_h4 ⟨b1, k1, (0 : Int32), (Int32.ofNat cs.length), us_4, rfl, sz_b1, (X4.lt (.head _)), P4_0, Or.inl ⟨rfl, rfl, by rcases p4_0 with q | q <;> first | exact ⟨q.2.1, q.2.2⟩ | omega⟩⟩ (by decide) (by decide)
  · refine X4.icmpNo j52_16_17 rfl (XT.ii_eq_f ce) ?_
    refine X4.aloadN j52_16_20 rfl rfl ?_
    show Go _ _ _ _ (T4.setTop (mkF m 21 #[.val (.ref bb), .val (.int (0 : Int32)), .val (.int (Int32.ofNat cs.length)), .val (.ref b1), .val (.int (Int32.ofNat r_4)), .unset] [(.ref bb)]))
    refine X4.iloadN j52_16_21 rfl ?_
    refine X4.iloadN j52_16_22 rfl ?_
    have hr : r_4 < cs.length ∧ (255 : Int32) < cs.getD r_4 0 := by rcases p4_0 with q | q <;> first | exact absurd (by rw [q.1]) ce | exact q
    have f5 := (f3).keep K4 (ninS ne_bb_b1 nin0)
    obtain ⟨_, T6, h6, XX6, K6, ⟨t_6, kb_6, rfl, fr_t_6, fl_t_6, P6_0⟩, st6⟩ := X4.stX (W := 0) (hw _ (gm 216 rfl)) (hw _ (gm 217 rfl)) (hw _ (gm 199 rfl)) (hw _ (gm 218 rfl)) (by decide) ((ru_tob l Z a0 hw n0 bb kC cs h4 X4.old f5 Sa Su Sv hl1 hl4).pay (hw _ (gm 218 rfl)) (hw _ (gm 199 rfl)) (by decide) (by decide)) all0 (g := (mkF m 23 #[.val (.ref bb), .val (.int (0 : Int32)), .val (.int (Int32.ofNat cs.length)), .val (.ref b1), .val (.int (Int32.ofNat r_4)), .unset] [(.int (Int32.ofNat cs.length)), (.int (0 : Int32)), (.ref bb)])) rfl rfl (argsL := [(.ref bb), (.int (0 : Int32)), (.int (Int32.ofNat cs.length))]) (rest := []) (lenOf pd_4 rfl) rfl (by exact Nat.le_of_eq rfl) j52_16_23 rfl (by decide) (by decide)
    refine Go.tr st6 ?_
    have X6 := XX6 [t_6] (allS (Or.inr ⟨fr_t_6, fl_t_6⟩) all0)
    have K0_h6 := K0_h4.trans K6 all0
    have sz_t_6 := Nat.le_trans X4.sz fr_t_6
    refine X6.astore j52_16_26 rfl rfl (l' := #[.val (.ref bb), .val (.int (0 : Int32)), .val (.int (Int32.ofNat cs.length)), .val (.ref b1), .val (.int (Int32.ofNat r_4)), .val (.ref t_6)]) rfl ?_
    refine X6.aload j52_16_28 rfl rfl ?_
    refine X6.iload j52_16_30 rfl ?_
    obtain ⟨_, T7, h7, XX7, K7, ⟨rfl, rfl⟩, st7⟩ := X6.stX (W := 0) (hw _ (gm 232 rfl)) (hw _ (gm 233 rfl)) (hw _ (gm 199 rfl)) (hw _ (gm 234 rfl)) (by decide) ((ru_getc l Z a0 hw n0 t_6 kb_6 r_4 (2 * cs.length) cs h6 X6.old P6_0 Sa Su Sv hp hr.1 (by omega) (by omega)).pay (hw _ (gm 234 rfl)) (hw _ (gm 199 rfl)) (by decide) (by decide)) all0 (g := (mkF m 32 #[.val (.ref bb), .val (.int (0 : Int32)), .val (.int (Int32.ofNat cs.length)), .val (.ref b1), .val (.int (Int32.ofNat r_4)), .val (.ref t_6)] [(.int (Int32.ofNat r_4)), (.ref t_6)])) rfl rfl (argsL := [(.ref t_6), (.int (Int32.ofNat r_4))]) (rest := []) (lenOf pd_5 rfl) rfl (by exact Nat.le_of_eq rfl) j52_16_32 rfl (by decide) (by decide)
    refine Go.tr st7 ?_
    have X7 := XX7 [] all0
    refine X7.sipush j52_16_35 ?_
    refine X7.icmpYes (pc0 := 38) (pc' := 54) rfl j52_16_38 rfl (XT.ii_gt_t hr.2) (by decide) (by decide) ?_
    refine X7.aload j52_16_54 rfl rfl ?_
    exact X7.retR rfl rfl j52_16_56 K0_h6 ⟨t_6, kb_6, (1 : Int32), (Int32.ofNat (2 * cs.length)), (StrChars.Road.wideBytes cs), rfl, sz_t_6, (X7.lt (.head _)), P6_0, Or.inr ⟨rfl, rfl, rfl, _, getD_mem' hr.1, hr.2⟩⟩ (by decide) (by decide)
def Q_ru_cfl (Z : State) (t : Addr) (kb : ClassId) (cs : List Int32) (cd : Int32) (N2 : Int32) (us : List Value) (h0 : Heap) (ov : Option Value) (hz : Heap) : Prop := ov = some (.int cd) ∧ h0 = hz
theorem j52_15_0 : decode jdk_52_method_15_code 0 = .ok (.iload_n 1, 1) := by decide +kernel
theorem j52_15_1 : decode jdk_52_method_15_code 1 = .ok (.aload_n 0, 1) := by decide +kernel
theorem j52_15_2 : decode jdk_52_method_15_code 2 = .ok (.arraylength, 1) := by decide +kernel
theorem j52_15_3 : decode jdk_52_method_15_code 3 = .ok (.isub, 1) := by decide +kernel
theorem j52_15_4 : decode jdk_52_method_15_code 4 = .ok (.bipush 31, 2) := by decide +kernel
theorem j52_15_6 : decode jdk_52_method_15_code 6 = .ok (.iushr, 1) := by decide +kernel
theorem j52_15_7 : decode jdk_52_method_15_code 7 = .ok (.i2b, 1) := by decide +kernel
theorem j52_15_8 : decode jdk_52_method_15_code 8 = .ok (.ireturn, 1) := by decide +kernel
abbrev RM_ru_cfl : Room := { frames := 0, cells := 0, slots := 0, locals := 0 }
theorem ru_cfl (l : Launch) (Z : State) (a0 : Array Value) (hw : ∀ d ∈ tables_1, d.before a0 Z = true) (n0 : Nat) (t : Addr) (kb : ClassId) (cs : List Int32) (cd : Int32) (N2 : Int32) (us : List Value) (h0 : Heap) (hO : Old Z n0 h0) (pr0 : Arv Z h0 t kb .byte N2 us (.int (0 : Int32))) (hcd : StrChars.Road.CodA cs cd N2 us) (hl1 : 1 ≤ cs.length) (hl4 : cs.length ≤ 4) :
    Ct l (⟨"java/lang/StringUTF16", "coderFromArrayLen", "([BI)B"⟩ : MethodName) jdk_52_method_15_code 2 (some .byte) [] RM_ru_cfl Z n0 #[(.ref t), (.int (Int32.ofNat cs.length))] h0 [] (Q_ru_cfl Z t kb cs cd N2 us h0) := by
  refine Ct.of_walk (plainFor_of_name pn_0) hO all0 ?_
  intro p e s m below meth c T0 X0
  rw [ef_RI2 m t (Int32.ofNat cs.length)]
  show Go _ _ _ _ (T0.setTop (mkF m 0 #[.val (.ref t), .val (.int (Int32.ofNat cs.length))] []))
  refine X0.iloadN j52_15_0 rfl ?_
  refine X0.aloadN j52_15_1 rfl rfl ?_
  refine Go.by (fun _ k => X0.len pr0 (g := (mkF m 2 #[.val (.ref t), .val (.int (Int32.ofNat cs.length))] [(.ref t), (.int (Int32.ofNat cs.length))])) rfl rfl j52_15_2 _ k) ?_
  show Go _ _ _ _ (T0.setTop (mkF m 3 #[.val (.ref t), .val (.int (Int32.ofNat cs.length))] [(.int N2), (.int (Int32.ofNat cs.length))]))
  refine X0.isub j52_15_3 rfl ?_
  refine X0.bipush j52_15_4 ?_
  refine X0.iushr j52_15_6 rfl ?_
  refine X0.i2b j52_15_7 rfl ?_
  show Go _ _ _ _ (T0.setTop (mkF m 8 #[.val (.ref t), .val (.int (Int32.ofNat cs.length))] [(.int (((XT.ushr ((Int32.ofNat cs.length) - N2) (31 : Int32))).toInt8.toInt32))]))
  rw [own_cd hcd hl1 hl4]
  show Go _ _ _ _ (T0.setTop (mkF m 8 #[.val (.ref t), .val (.int (Int32.ofNat cs.length))] [(.int cd)]))
  exact X0.retN (by simp) (own_nary (own_cdb hcd)) j52_15_8 (Keep.refl h0 []) ⟨rfl, rfl⟩ (by decide) (by decide)
theorem ef_RRIIN6 (m : MethodId) (x0 : Addr) (x1 : Addr) (x2 : Int32) (x3 : Int32) : entryFrame m #[(.ref x0), (.ref x1), (.int x2), (.int x3), .null] 6 = mkF m 0 #[.val (.ref x0), .val (.ref x1), .val (.int x2), .val (.int x3), .val .null, .unset] [] := by first | (simp [entryFrame, mkF, argsToLocals, Value.category]; done) | rfl
def Q_ru_ni4 (Z : State) (x : Addr) (bb : Addr) (kC : ClassId) (cs : List Int32) (v0 : Value) (c0 : Value) (zc : Int32) (h0 : Heap) (ov : Option Value) (hz : Heap) : Prop := ∃ (t : Addr), ov = none ∧ h0.size ≤ t ∧ t < hz.size ∧ Str Z hz x t cs
theorem pn_1 : plainName "java/lang/String" = true := by first | (simp [plainName, overriddenIn]; done) | decide +kernel
theorem j42_149_0 : decode jdk_42_method_149_code 0 = .ok (.aload_n 0, 1) := by decide +kernel
theorem j42_149_1 : decode jdk_42_method_149_code 1 = .ok (.invokespecial 1, 3) := by decide +kernel
theorem j42_149_4 : decode jdk_42_method_149_code 4 = .ok (.iload_n 3, 1) := by decide +kernel
theorem j42_149_5 : decode jdk_42_method_149_code 5 = .ok (.ifCond .ne 22, 3) := by decide +kernel
theorem j42_149_27 : decode jdk_42_method_149_code 27 = .ok (.getstatic 38, 3) := by decide +kernel
theorem j42_149_30 : decode jdk_42_method_149_code 30 = .ok (.ifCond .eq 28, 3) := by decide +kernel
theorem j42_149_33 : decode jdk_42_method_149_code 33 = .ok (.aload_n 1, 1) := by decide +kernel
theorem j42_149_34 : decode jdk_42_method_149_code 34 = .ok (.iload_n 2, 1) := by decide +kernel
theorem j42_149_35 : decode jdk_42_method_149_code 35 = .ok (.iload_n 3, 1) := by decide +kernel
theorem j42_149_36 : decode jdk_42_method_149_code 36 = .ok (.invokestatic 177, 3) := by decide +kernel
theorem j42_149_39 : decode jdk_42_method_149_code 39 = .ok (.astore 5, 2) := by decide +kernel
theorem j42_149_41 : decode jdk_42_method_149_code 41 = .ok (.aload_n 0, 1) := by decide +kernel
theorem j42_149_42 : decode jdk_42_method_149_code 42 = .ok (.aload 5, 2) := by decide +kernel
theorem j42_149_44 : decode jdk_42_method_149_code 44 = .ok (.iload_n 3, 1) := by decide +kernel
theorem pd_6 : parseMethodDescriptor "([BI)B" = some ⟨[(.array .byte), .int], some .byte⟩ := by decide +kernel
theorem j42_149_45 : decode jdk_42_method_149_code 45 = .ok (.invokestatic 47, 3) := by decide +kernel
theorem j42_149_48 : decode jdk_42_method_149_code 48 = .ok (.putfield 15, 3) := by decide +kernel
theorem j42_149_51 : decode jdk_42_method_149_code 51 = .ok (.aload_n 0, 1) := by decide +kernel
theorem j42_149_52 : decode jdk_42_method_149_code 52 = .ok (.aload 5, 2) := by decide +kernel
theorem j42_149_54 : decode jdk_42_method_149_code 54 = .ok (.putfield 9, 3) := by decide +kernel
theorem j42_149_57 : decode jdk_42_method_149_code 57 = .ok (.return_, 1) := by decide +kernel
abbrev RM_ru_ni4 : Room := { frames := 4, cells := 2, slots := 12, locals := 57 }
theorem ru_ni4 (l : Launch) (Z : State) (a0 : Array Value) (hw : ∀ d ∈ tables_1, d.before a0 Z = true) (n0 : Nat) (x : Addr) (bb : Addr) (kC : ClassId) (cs : List Int32) (v0 : Value) (c0 : Value) (zc : Int32) (h0 : Heap) (hO : Old Z n0 h0) (pr0 : Exa Z h0 x "java/lang/String") (pr1 : Fld Z h0 x "java/lang/String" "value" "[B" v0) (pr2 : Fld Z h0 x "java/lang/String" "coder" "B" c0) (pr3 : Arv Z h0 bb kC .char (Int32.ofNat cs.length) (cs.map Value.int) (.int (0 : Int32))) (Sc : SC Z zc) (nc : ¬ (zc = (0 : Int32))) (Sa : SA1 Z) (Su : SU1 Z) (Sv : SV1 Z) (hp : ∀ c ∈ cs, ¬ c < 0 ∧ ¬ (65535 : Int32) < c) (hl1 : 1 ≤ cs.length) (hl4 : cs.length ≤ 4) (hxb : bb ≠ x) (g_x : n0 ≤ x) (l_x : x < h0.size) :
    Ct l (⟨"java/lang/String", "<init>", "([CIILjava/lang/Void;)V"⟩ : MethodName) jdk_42_method_149_code 6 none [] RM_ru_ni4 Z n0 #[(.ref x), (.ref bb), (.int (0 : Int32)), (.int (Int32.ofNat cs.length)), .null] h0 [x] (Q_ru_ni4 Z x bb kC cs v0 c0 zc h0) := by
  refine Ct.of_walk (plainFor_of_name pn_1) hO (allS ⟨g_x, l_x⟩ all0) ?_
  intro p e s m below meth c T0 X0
  rw [ef_RRIIN6 m x bb (0 : Int32) (Int32.ofNat cs.length)]
  show Go _ _ _ _ (T0.setTop (mkF m 0 #[.val (.ref x), .val (.ref bb), .val (.int (0 : Int32)), .val (.int (Int32.ofNat cs.length)), .val .null, .unset] []))
  refine X0.aloadN j42_149_0 rfl rfl ?_
  obtain ⟨T1, X1, st1⟩ := X0.initO (hw _ (gm 45 rfl)) (hw _ (gm 7 rfl)) (hw _ (gm 8 rfl)) (g := (mkF m 1 #[.val (.ref x), .val (.ref bb), .val (.int (0 : Int32)), .val (.int (Int32.ofNat cs.length)), .val .null, .unset] [(.ref x)])) rfl rfl rfl j42_149_1 (by decide) (W := 0) (by exact Nat.le_of_eq rfl) (by decide)
  refine Go.by st1 ?_
  refine X1.iloadN j42_149_4 rfl ?_
  refine X1.ifYes (pc0 := 5) (pc' := 27) rfl j42_149_5 rfl (XT.i0_ne_t (fun q => by have := on_inj (b := 0) (by omega) (by omega) q; omega)) (by decide) (by decide) ?_
  obtain ⟨T2, X2, st2⟩ := X1.getS (hw _ (gm 92 rfl)) Via.refl Sc (g := (mkF m 27 #[.val (.ref x), .val (.ref bb), .val (.int (0 : Int32)), .val (.int (Int32.ofNat cs.length)), .val .null, .unset] [])) rfl j42_149_27
  refine Go.by st2 ?_
  refine X2.ifNo j42_149_30 rfl (XT.i0_eq_f nc) ?_
  refine X2.aloadN j42_149_33 rfl rfl ?_
  refine X2.iloadN j42_149_34 rfl ?_
  refine X2.iloadN j42_149_35 rfl ?_
  have lt_x_3 := (X2.lt (.head _))
  obtain ⟨_, T3, h3, XX3, K3, ⟨t_3, kb_3, cd_3, N2_3, us_3, rfl, fr_t_3, fl_t_3, P3_0, p3_0⟩, st3⟩ := X2.stX (W := 0) (hw _ (gm 197 rfl)) (hw _ (gm 198 rfl)) (hw _ (gm 199 rfl)) (hw _ (gm 200 rfl)) (by decide) ((ru_cmp3 l Z a0 hw n0 bb kC cs h0 X2.old pr3 Sa Su Sv hp hl1 hl4).pay (hw _ (gm 200 rfl)) (hw _ (gm 199 rfl)) (by decide) (by decide)) all0 (g := (mkF m 36 #[.val (.ref x), .val (.ref bb), .val (.int (0 : Int32)), .val (.int (Int32.ofNat cs.length)), .val .null, .unset] [(.int (Int32.ofNat cs.length)), (.int (0 : Int32)), (.ref bb)])) rfl rfl (argsL := [(.ref bb), (.int (0 : Int32)), (.int (Int32.ofNat cs.length))]) (rest := []) (lenOf pd_4 rfl) rfl (by exact Nat.le_of_eq rfl) j42_149_36 rfl (by decide) (by decide)
  refine Go.tr st3 ?_
  have X3 := XX3 [t_3] (allS (Or.inr ⟨fr_t_3, fl_t_3⟩) all0)
  have K0_h3 := (Keep.refl h0 [x]).trans K3 all0
  have ne_x_t_3 := ne_ge lt_x_3 fr_t_3
  have sz_t_3 := Nat.le_trans X2.sz fr_t_3
  refine X3.astore j42_149_39 rfl rfl (l' := #[.val (.ref x), .val (.ref bb), .val (.int (0 : Int32)), .val (.int (Int32.ofNat cs.length)), .val .null, .val (.ref t_3)]) rfl ?_
  refine X3.aloadN j42_149_41 rfl rfl ?_
  show Go _ _ _ _ (T3.setTop (mkF m 42 #[.val (.ref x), .val (.ref bb), .val (.int (0 : Int32)), .val (.int (Int32.ofNat cs.length)), .val .null, .val (.ref t_3)] [(.ref x)]))
  refine X3.aload j42_149_42 rfl rfl ?_
  refine X3.iloadN j42_149_44 rfl ?_
  obtain ⟨_, T4, h4, XX4, K4, ⟨rfl, rfl⟩, st4⟩ := X3.stX (W := 1) (hw _ (gm 204 rfl)) (hw _ (gm 205 rfl)) (hw _ (gm 199 rfl)) (hw _ (gm 206 rfl)) (by decide) ((ru_cfl l Z a0 hw n0 t_3 kb_3 cs cd_3 N2_3 us_3 h3 X3.old P3_0 p3_0 hl1 hl4).pay (hw _ (gm 206 rfl)) (hw _ (gm 199 rfl)) (by decide) (by decide)) all0 (g := (mkF m 45 #[.val (.ref x), .val (.ref bb), .val (.int (0 : Int32)), .val (.int (Int32.ofNat cs.length)), .val .null, .val (.ref t_3)] [(.int (Int32.ofNat cs.length)), (.ref t_3), (.ref x)])) rfl rfl (argsL := [(.ref t_3), (.int (Int32.ofNat cs.length))]) (rest := [(.ref x)]) (lenOf pd_6 rfl) rfl (by exact Nat.le_of_eq rfl) j42_149_45 rfl (by decide) (by decide)
  refine Go.tr st4 ?_
  have X4 := XX4 [] all0
  have f6 := (pr2).keep K3 nin0
  have f7 := (pr0).keep K3
  obtain ⟨T5, h5, X5, W5, st5⟩ := X4.putFN (hw _ (gm 52 rfl)) Via.refl f6 f7 (Or.inr ⟨(hw _ (gm 48 rfl)), rfl, rfl⟩) (hw _ (gm 36 rfl)) (.tail _ (.head _)) (ty := .byte) (v' := .int cd_3) (by decide) (own_nby (own_cdb p3_0)) (own_fby (own_cdb p3_0)) (g := (mkF m 48 #[.val (.ref x), .val (.ref bb), .val (.int (0 : Int32)), .val (.int (Int32.ofNat cs.length)), .val .null, .val (.ref t_3)] [(.int cd_3), (.ref x)])) rfl rfl j42_149_48
  refine Go.by st5 ?_
  have K0_h5 := K0_h3.wr W5 (Or.inl (.head _))
  have F5 : Fld Z h5 x "java/lang/String" "coder" "B" (.int cd_3) := f6.same W5
  refine X5.aloadN j42_149_51 rfl rfl ?_
  refine X5.aload j42_149_52 rfl rfl ?_
  have f9 := ((pr1).keep K3 nin0).other W5 (Or.inr (slot_ne (Or.inr (hw _ (gm 47 rfl))) (Or.inr (hw _ (gm 48 rfl))) (by decide) (t := (.array .byte)) (t' := .byte) (by decide) (by decide)))
  have f10 := (f7).wr W5
  obtain ⟨T8, h8, X8, W8, st8⟩ := X5.putF (host := "") (Or.inl (hw _ (gm 51 rfl))) Via.refl f9 f10 (Or.inr ⟨(hw _ (gm 47 rfl)), rfl, rfl⟩) (hw _ (gm 36 rfl)) (.tail _ (.head _)) (ty := (.array .byte)) (by decide) rfl rfl (g := (mkF m 54 #[.val (.ref x), .val (.ref bb), .val (.int (0 : Int32)), .val (.int (Int32.ofNat cs.length)), .val .null, .val (.ref t_3)] [(.ref t_3), (.ref x)])) rfl rfl j42_149_54
  refine Go.by st8 ?_
  have K0_h8 := K0_h5.wr W8 (Or.inl (.head _))
  have F8 : Fld Z h8 x "java/lang/String" "value" "[B" (.ref t_3) := f9.same W8
  have f12 := (f10).wr W8
  have f13 := (F5).other W8 (Or.inr (slot_ne (Or.inr (hw _ (gm 48 rfl))) (Or.inr (hw _ (gm 47 rfl))) (by decide) (t := .byte) (t' := (.array .byte)) (by decide) (by decide)))
  have f14 := ((P3_0).other W5 ne_x_t_3.symm).other W8 ne_x_t_3.symm
  have S11 : Str Z h8 x t_3 cs := own_strW f12 F8 f13 f14 p3_0 hp (by omega)
  exact X8.retV j42_149_57 K0_h8 ⟨t_3, rfl, sz_t_3, (X8.lt (.head _)), S11⟩ (by decide) (by decide)
theorem ef_RR2 (m : MethodId) (x0 : Addr) (x1 : Addr) : entryFrame m #[(.ref x0), (.ref x1)] 2 = mkF m 0 #[.val (.ref x0), .val (.ref x1)] [] := by first | (simp [entryFrame, mkF, argsToLocals, Value.category]; done) | rfl
def Q_ru_ni1 (Z : State) (x : Addr) (bb : Addr) (kC : ClassId) (cs : List Int32) (v0 : Value) (c0 : Value) (zc : Int32) (h0 : Heap) (ov : Option Value) (hz : Heap) : Prop := ∃ (t : Addr), ov = none ∧ h0.size ≤ t ∧ t < hz.size ∧ Str Z hz x t cs
theorem j42_3_0 : decode jdk_42_method_3_code 0 = .ok (.aload_n 0, 1) := by decide +kernel
theorem j42_3_1 : decode jdk_42_method_3_code 1 = .ok (.aload_n 1, 1) := by decide +kernel
theorem j42_3_2 : decode jdk_42_method_3_code 2 = .ok (.iconst 0, 1) := by decide +kernel
theorem j42_3_3 : decode jdk_42_method_3_code 3 = .ok (.aload_n 1, 1) := by decide +kernel
theorem j42_3_4 : decode jdk_42_method_3_code 4 = .ok (.arraylength, 1) := by decide +kernel
theorem j42_3_5 : decode jdk_42_method_3_code 5 = .ok (.aconst_null, 1) := by decide +kernel
theorem pd_7 : parseMethodDescriptor "([CIILjava/lang/Void;)V" = some ⟨[(.array .char), .int, .int, (.object "java/lang/Void")], none⟩ := by decide +kernel
theorem j42_3_6 : decode jdk_42_method_3_code 6 = .ok (.invokespecial 27, 3) := by decide +kernel
theorem j42_3_9 : decode jdk_42_method_3_code 9 = .ok (.return_, 1) := by decide +kernel
abbrev RM_ru_ni1 : Room := { frames := 5, cells := 2, slots := 12, locals := 74 }
theorem ru_ni1 (l : Launch) (Z : State) (a0 : Array Value) (hw : ∀ d ∈ tables_1, d.before a0 Z = true) (n0 : Nat) (x : Addr) (bb : Addr) (kC : ClassId) (cs : List Int32) (v0 : Value) (c0 : Value) (zc : Int32) (h0 : Heap) (hO : Old Z n0 h0) (pr0 : Exa Z h0 x "java/lang/String") (pr1 : Fld Z h0 x "java/lang/String" "value" "[B" v0) (pr2 : Fld Z h0 x "java/lang/String" "coder" "B" c0) (pr3 : Arv Z h0 bb kC .char (Int32.ofNat cs.length) (cs.map Value.int) (.int (0 : Int32))) (Sc : SC Z zc) (nc : ¬ (zc = (0 : Int32))) (Sa : SA1 Z) (Su : SU1 Z) (Sv : SV1 Z) (hp : ∀ c ∈ cs, ¬ c < 0 ∧ ¬ (65535 : Int32) < c) (hl1 : 1 ≤ cs.length) (hl4 : cs.length ≤ 4) (hxb : bb ≠ x) (g_x : n0 ≤ x) (l_x : x < h0.size) :
    Ct l (⟨"java/lang/String", "<init>", "([C)V"⟩ : MethodName) jdk_42_method_3_code 2 none [] RM_ru_ni1 Z n0 #[(.ref x), (.ref bb)] h0 [x] (Q_ru_ni1 Z x bb kC cs v0 c0 zc h0) := by
  refine Ct.of_walk (plainFor_of_name pn_1) hO (allS ⟨g_x, l_x⟩ all0) ?_
  intro p e s m below meth c T0 X0
  rw [ef_RR2 m x bb]
  show Go _ _ _ _ (T0.setTop (mkF m 0 #[.val (.ref x), .val (.ref bb)] []))
  refine X0.aloadN j42_3_0 rfl rfl ?_
  refine X0.aloadN j42_3_1 rfl rfl ?_
  refine X0.iconst j42_3_2 ?_
  refine X0.aloadN j42_3_3 rfl rfl ?_
  refine Go.by (fun _ k => X0.len pr3 (g := (mkF m 4 #[.val (.ref x), .val (.ref bb)] [(.ref bb), (.int (0 : Int32)), (.ref bb), (.ref x)])) rfl rfl j42_3_4 _ k) ?_
  show Go _ _ _ _ (T0.setTop (mkF m 5 #[.val (.ref x), .val (.ref bb)] [(.int (Int32.ofNat cs.length)), (.int (0 : Int32)), (.ref bb), (.ref x)]))
  refine X0.aconstNull j42_3_5 ?_
  obtain ⟨_, T1, h1, XX1, K1, ⟨t_1, rfl, fr_t_1, fl_t_1, P1_0⟩, st1⟩ := X0.spX (W := 0) rfl (hw _ (gm 41 rfl)) (hw _ (gm 42 rfl)) (hw _ (gm 44 rfl)) (by decide) ((ru_ni4 l Z a0 hw n0 x bb kC cs v0 c0 zc h0 X0.old pr0 pr1 pr2 pr3 Sc nc Sa Su Sv hp hl1 hl4 hxb (X0.ge (.head _)) (X0.lt (.head _))).pay (hw _ (gm 44 rfl)) (hw _ (gm 23 rfl)) (by decide) (by decide)) (allS (.head _) all0) (g := (mkF m 6 #[.val (.ref x), .val (.ref bb)] [.null, (.int (Int32.ofNat cs.length)), (.int (0 : Int32)), (.ref bb), (.ref x)])) rfl rfl (a := x) (argsL := [(.ref bb), (.int (0 : Int32)), (.int (Int32.ofNat cs.length)), .null]) (rest := []) (lenOf pd_7 rfl) rfl (by exact Nat.le_of_eq rfl) j42_3_6 rfl (by decide) (by decide)
  refine Go.tr st1 ?_
  have X1 := XX1 [t_1] (allS (Or.inr ⟨fr_t_1, fl_t_1⟩) all0)
  have K0_h1 := (Keep.refl h0 [x]).trans K1 (allS (Or.inl (.head _)) all0)
  have sz_t_1 := Nat.le_trans X0.sz fr_t_1
  exact X1.retV j42_3_9 K0_h1 ⟨t_1, rfl, sz_t_1, (X1.lt (.head _)), P1_0⟩ (by decide) (by decide)
theorem own_leF : ∀ n : Fin 17, ¬ (0 : Int32) < Int32.ofNat n.val - (16 : Int32) := by decide +kernel
theorem own_le {n : Nat} (h : n ≤ 16) : ¬ (0 : Int32) < Int32.ofNat n - (16 : Int32) := own_leF ⟨n, by omega⟩
theorem own_orF : ∀ o n : Fin 17, ¬ (((16 : Int32) ||| Int32.ofNat o.val) ||| Int32.ofNat n.val) < 0 := by decide +kernel
theorem own_or {o n : Nat} (h1 : o ≤ 16) (h : n ≤ 16) : ¬ (((16 : Int32) ||| Int32.ofNat o) ||| Int32.ofNat n) < 0 := own_orF ⟨o, by omega⟩ ⟨n, by omega⟩
theorem own_okF : ∀ o n : Fin 17, o.val + n.val ≤ 16 → ¬ ((16 : Int32) - Int32.ofNat o.val) < Int32.ofNat n.val := by decide +kernel
theorem own_ok {o n : Nat} (h : o + n ≤ 16) : ¬ ((16 : Int32) - Int32.ofNat o) < Int32.ofNat n := own_okF ⟨o, by omega⟩ ⟨n, by omega⟩ h
theorem own_shl0F : ∀ n : Fin 64, (Int32.ofNat n.val) <<< ((0 : Int32) &&& 31) = Int32.ofNat n.val := by decide +kernel
theorem own_shl0 {n : Nat} (h : n < 64) : (Int32.ofNat n) <<< ((0 : Int32) &&& 31) = Int32.ofNat n := own_shl0F ⟨n, h⟩
theorem own_onn {a b : Nat} : Int32.ofNat a + Int32.ofNat b = Int32.ofNat (a + b) := (Int32.ofNat_add a b).symm
theorem own_rng (d : Value) : ∀ (vs : List Value) {n : Nat}, vs.length = n → vs = (List.range n).map fun i => vs.getD i d := fun vs n h => by
  subst h
  apply List.ext_getElem
  · simp
  · intro i h1 h2
    simp [List.getD_eq_getElem?_getD, h1]
theorem own_cp (vs ws : List Value) (d : Value) {n m : Nat} (hn : vs.length = n) (hm : ws.length = m) : (vs ++ List.replicate m d).take n ++ ws ++ (vs ++ List.replicate m d).drop (n + m) = vs ++ ws := by
  subst hn hm
  rw [List.take_left', List.drop_of_length_le (by simp)]
  · simp
  · rfl
theorem own_loa (as bs : List Int32) : ((as ++ bs).map fun c => Value.int (StrChars.lo8 c)) = (as.map fun c => Value.int (StrChars.lo8 c)) ++ (bs.map fun c => Value.int (StrChars.lo8 c)) := List.map_append
theorem own_glo {cs : List Int32} {k : Nat} (h : k < cs.length) : (cs.map fun c => Value.int (StrChars.lo8 c)).getD k (.int (0 : Int32)) = .int (StrChars.lo8 (cs.getD k 0)) := by simp [List.getD_eq_getElem?_getD, h]
theorem own_back {cs : List Int32} (hcs : ∀ c ∈ cs, ¬ c < 0 ∧ ¬ (255 : Int32) < c) {k : Nat} (h : k < cs.length) : StrChars.lo8 (cs.getD k 0) &&& (255 : Int32) = cs.getD k 0 := lo8_back (hcs _ (getD_mem' h)).1 (hcs _ (getD_mem' h)).2
theorem own_wid {Z : State} {h : Heap} {x t : Addr} {cs : List Int32} (F : Str Z h x t cs) (hp : ∃ c ∈ cs, (255 : Int32) < c) : ∃ kb : ClassId, Fld Z h x "java/lang/String" "value" "[B" (.ref t) ∧ Fld Z h x "java/lang/String" "coder" "B" (.int (1 : Int32)) ∧ Arv Z h t kb .byte (Int32.ofNat (2 * cs.length)) (StrChars.Road.wideBytes cs) (.int (0 : Int32)) ∧ cs.length ≤ 4000 := by
  obtain ⟨kb, cd, N, vs, f1, f2, f3, f4, f5, f6, f7⟩ := F
  rcases f5 with ⟨-, -, -, q⟩ | ⟨rfl, rfl, rfl, -⟩
  · obtain ⟨c, hc, hw⟩ := hp; exact absurd hw (q c hc)
  · exact ⟨kb, f2, f3, f4, f7⟩
theorem own_lolen (cs : List Int32) : (cs.map fun c => Value.int (StrChars.lo8 c)).length = cs.length := by simp
def own_min (a b : Int32) : Int32 := if b < a then b else a
theorem ef_II2 (m : MethodId) (x0 : Int32) (x1 : Int32) : entryFrame m #[(.int x0), (.int x1)] 2 = mkF m 0 #[.val (.int x0), .val (.int x1)] [] := by first | (simp [entryFrame, mkF, argsToLocals, Value.category]; done) | rfl
def Q_rm_min (Z : State) (a : Int32) (b : Int32) (h0 : Heap) (ov : Option Value) (hz : Heap) : Prop := ov = some (.int (own_min a b)) ∧ h0 = hz
theorem pf_min_230 : plainFor (⟨"java/lang/Math", "min", "(II)I"⟩ : MethodName) = true := by decide +kernel
theorem j29_69_0 : decode jdk_29_method_69_code 0 = .ok (.iload_n 0, 1) := by decide +kernel
theorem j29_69_1 : decode jdk_29_method_69_code 1 = .ok (.iload_n 1, 1) := by decide +kernel
theorem j29_69_2 : decode jdk_29_method_69_code 2 = .ok (.if_icmp .gt 7, 3) := by decide +kernel
theorem j29_69_9 : decode jdk_29_method_69_code 9 = .ok (.iload_n 1, 1) := by decide +kernel
theorem j29_69_10 : decode jdk_29_method_69_code 10 = .ok (.ireturn, 1) := by decide +kernel
theorem j29_69_5 : decode jdk_29_method_69_code 5 = .ok (.iload_n 0, 1) := by decide +kernel
theorem j29_69_6 : decode jdk_29_method_69_code 6 = .ok (.goto 4, 3) := by decide +kernel
abbrev RM_rm_min : Room := { frames := 0, cells := 0, slots := 0, locals := 0 }
theorem rm_min (l : Launch) (Z : State) (a0 : Array Value) (hw : ∀ d ∈ tables_1, d.before a0 Z = true) (n0 : Nat) (a : Int32) (b : Int32) (h0 : Heap) (hO : Old Z n0 h0)  :
    Ct l (⟨"java/lang/Math", "min", "(II)I"⟩ : MethodName) jdk_29_method_69_code 2 (some .int) [] RM_rm_min Z n0 #[(.int a), (.int b)] h0 [] (Q_rm_min Z a b h0) := by
  refine Ct.of_walk pf_min_230 hO all0 ?_
  intro p e s m below meth c T0 X0
  rw [ef_II2 m a b]
  show Go _ _ _ _ (T0.setTop (mkF m 0 #[.val (.int a), .val (.int b)] []))
  refine X0.iloadN j29_69_0 rfl ?_
  refine X0.iloadN j29_69_1 rfl ?_
  by_cases cq : b < a
  · refine X0.icmpYes (pc0 := 2) (pc' := 9) rfl j29_69_2 rfl (XT.ii_gt_t cq) (by decide) (by decide) ?_
    refine X0.iloadN j29_69_9 rfl ?_
    exact X0.retI j29_69_10 (Keep.refl h0 []) ⟨(congrArg (fun z => some (Value.int z)) ((if_pos cq).symm)), rfl⟩ (by decide) (by decide)
  · refine X0.icmpNo j29_69_2 rfl (XT.ii_gt_f cq) ?_
    refine X0.iloadN j29_69_5 rfl ?_
    refine X0.goto (pc0 := 6) (pc' := 10) rfl j29_69_6 (by decide) (by decide) ?_
    exact X0.retI j29_69_10 (Keep.refl h0 []) ⟨(congrArg (fun z => some (Value.int z)) ((if_neg cq).symm)), rfl⟩ (by decide) (by decide)
def Q_ru_nbf32 (Z : State) (n : Nat) (h0 : Heap) (ov : Option Value) (hz : Heap) : Prop := ∃ (t : Addr), ∃ (kb : ClassId), ov = some (.ref t) ∧ h0.size ≤ t ∧ t < hz.size ∧ Arv Z hz t kb .byte (Int32.ofNat (2 * n)) [] (.int (0 : Int32))
abbrev RM_ru_nbf32 : Room := { frames := 1, cells := 1, slots := 32, locals := 12 }
theorem ru_nbf32 (l : Launch) (Z : State) (a0 : Array Value) (hw : ∀ d ∈ tables_1, d.before a0 Z = true) (n0 : Nat) (n : Nat) (h0 : Heap) (hO : Old Z n0 h0) (hn : 2 * n ≤ 32) :
    Ct l (⟨"java/lang/StringUTF16", "newBytesFor", "(I)[B"⟩ : MethodName) jdk_52_method_2_code 1 (some (.array .byte)) [] RM_ru_nbf32 Z n0 #[(.int (Int32.ofNat n))] h0 [] (Q_ru_nbf32 Z n h0) := by
  refine Ct.of_walk (plainFor_of_name pn_0) hO all0 ?_
  intro p e s m below meth c T0 X0
  rw [ef_I1 m (Int32.ofNat n)]
  show Go _ _ _ _ (T0.setTop (mkF m 0 #[.val (.int (Int32.ofNat n))] []))
  refine X0.iloadN j52_2_0 rfl ?_
  obtain ⟨_, T1, h1, XX1, K1, ⟨rfl, rfl⟩, st1⟩ := X0.stX (W := 0) (hw _ (gm 222 rfl)) (hw _ (gm 223 rfl)) (hw _ (gm 199 rfl)) (hw _ (gm 224 rfl)) (by decide) ((ru_nbl l Z a0 hw n0 n h0 X0.old (by omega)).pay (hw _ (gm 224 rfl)) (hw _ (gm 199 rfl)) (by decide) (by decide)) all0 (g := (mkF m 1 #[.val (.int (Int32.ofNat n))] [(.int (Int32.ofNat n))])) rfl rfl (argsL := [(.int (Int32.ofNat n))]) (rest := []) (lenOf pd_0 rfl) rfl (by exact Nat.le_of_eq rfl) j52_2_1 rfl (by decide) (by decide)
  refine Go.tr st1 ?_
  have X1 := XX1 [] all0
  obtain ⟨T2, h2, b2, k2, g_b2, X2, E2, A2, st2⟩ := X1.newP (hw _ (gm 24 rfl)) (g := (mkF m 4 #[.val (.int (Int32.ofNat n))] [(.int (Int32.ofNat (2 * n)))])) rfl j52_2_4 rfl (on_nn (by omega)) (cap := 32) (by rw [on_clamp (by omega)]; exact hn) (by decide) (by decide) (by decide) (vs := (List.replicate (Int32.ofNat (2 * n)).toNatClampNeg (.int (0 : Int32)))) rfl
  refine Go.by st2 ?_
  have sz_b2 := Nat.le_trans X1.sz (Nat.le_of_eq g_b2.symm)
  have K0_h2 := (Keep.refl h0 []).ext E2
  have F2 : Arv Z h2 b2 k2 .byte (Int32.ofNat (2 * n)) (List.replicate (Int32.ofNat (2 * n)).toNatClampNeg (.int (0 : Int32))) (.int (0 : Int32)) := A2
  show Go _ _ _ _ (T2.setTop (mkF m 6 #[.val (.int (Int32.ofNat n))] [(.ref b2)]))
  have f3 : Arv Z h2 b2 k2 .byte (Int32.ofNat (2 * n)) [] (.int (0 : Int32)) := (F2).pad (own_pad0 _ _)
  exact X2.retR rfl rfl j52_2_6 K0_h2 ⟨b2, k2, rfl, sz_b2, (X2.lt (.head _)), f3⟩ (by decide) (by decide)
def Q_rs_abi (Z : State) (a1 : Addr) (u0 : Value) (u1 : Value) (zc : Int32) (h0 : Heap) (ov : Option Value) (hz : Heap) : Prop := ∃ (vb : Addr), ∃ (kb : ClassId), ov = none ∧ h0.size ≤ vb ∧ vb < hz.size ∧ Fld Z hz a1 "java/lang/AbstractStringBuilder" "value" "[B" (.ref vb) ∧ Fld Z hz a1 "java/lang/AbstractStringBuilder" "coder" "B" (.int (0 : Int32)) ∧ Fld Z hz a1 "java/lang/AbstractStringBuilder" "count" "I" (.int (0 : Int32)) ∧ Fld Z hz a1 "java/lang/AbstractStringBuilder" "maybeLatin1" "Z" (.int (0 : Int32)) ∧ Arv Z hz vb kb .byte (16 : Int32) [] (.int (0 : Int32))
theorem pn_2 : plainName "java/lang/AbstractStringBuilder" = true := by first | (simp [plainName, overriddenIn]; done) | decide +kernel
theorem j68_2_0 : decode jdk_68_method_2_code 0 = .ok (.aload_n 0, 1) := by decide +kernel
theorem j68_2_1 : decode jdk_68_method_2_code 1 = .ok (.invokespecial 3, 3) := by decide +kernel
theorem j68_2_4 : decode jdk_68_method_2_code 4 = .ok (.getstatic 18, 3) := by decide +kernel
theorem j68_2_7 : decode jdk_68_method_2_code 7 = .ok (.ifCond .eq 18, 3) := by decide +kernel
theorem j68_2_10 : decode jdk_68_method_2_code 10 = .ok (.aload_n 0, 1) := by decide +kernel
theorem j68_2_11 : decode jdk_68_method_2_code 11 = .ok (.iload_n 1, 1) := by decide +kernel
theorem j68_2_12 : decode jdk_68_method_2_code 12 = .ok (.newarray .byte, 2) := by decide +kernel
theorem j68_2_14 : decode jdk_68_method_2_code 14 = .ok (.putfield 15, 3) := by decide +kernel
theorem j68_2_17 : decode jdk_68_method_2_code 17 = .ok (.aload_n 0, 1) := by decide +kernel
theorem j68_2_18 : decode jdk_68_method_2_code 18 = .ok (.iconst 0, 1) := by decide +kernel
theorem j68_2_19 : decode jdk_68_method_2_code 19 = .ok (.putfield 22, 3) := by decide +kernel
theorem j68_2_22 : decode jdk_68_method_2_code 22 = .ok (.goto 16, 3) := by decide +kernel
theorem j68_2_38 : decode jdk_68_method_2_code 38 = .ok (.return_, 1) := by decide +kernel
abbrev RM_rs_abi : Room := { frames := 1, cells := 1, slots := 16, locals := 12 }
theorem rs_abi (l : Launch) (Z : State) (a0 : Array Value) (hw : ∀ d ∈ tables_1, d.before a0 Z = true) (n0 : Nat) (a1 : Addr) (u0 : Value) (u1 : Value) (zc : Int32) (h0 : Heap) (hO : Old Z n0 h0) (pr0 : Exa Z h0 a1 "java/lang/StringBuilder") (pr1 : Fld Z h0 a1 "java/lang/AbstractStringBuilder" "value" "[B" u0) (pr2 : Fld Z h0 a1 "java/lang/AbstractStringBuilder" "coder" "B" u1) (pr3 : Fld Z h0 a1 "java/lang/AbstractStringBuilder" "count" "I" (.int (0 : Int32))) (pr4 : Fld Z h0 a1 "java/lang/AbstractStringBuilder" "maybeLatin1" "Z" (.int (0 : Int32))) (Sc : SC Z zc) (nc : ¬ (zc = (0 : Int32))) (g_a1 : n0 ≤ a1) (l_a1 : a1 < h0.size) :
    Ct l (⟨"java/lang/AbstractStringBuilder", "<init>", "(I)V"⟩ : MethodName) jdk_68_method_2_code 2 none [] RM_rs_abi Z n0 #[(.ref a1), (.int (16 : Int32))] h0 [a1] (Q_rs_abi Z a1 u0 u1 zc h0) := by
  refine Ct.of_walk (plainFor_of_name pn_2) hO (allS ⟨g_a1, l_a1⟩ all0) ?_
  intro p e s m below meth c T0 X0
  rw [ef_RI2 m a1 (16 : Int32)]
  show Go _ _ _ _ (T0.setTop (mkF m 0 #[.val (.ref a1), .val (.int (16 : Int32))] []))
  refine X0.aloadN j68_2_0 rfl rfl ?_
  obtain ⟨T1, X1, st1⟩ := X0.initO (hw _ (gm 21 rfl)) (hw _ (gm 7 rfl)) (hw _ (gm 8 rfl)) (g := (mkF m 1 #[.val (.ref a1), .val (.int (16 : Int32))] [(.ref a1)])) rfl rfl rfl j68_2_1 (by decide) (W := 0) (by exact Nat.le_of_eq rfl) (by decide)
  refine Go.by st1 ?_
  obtain ⟨T2, X2, st2⟩ := X1.getS (hw _ (gm 22 rfl)) Via.refl Sc (g := (mkF m 4 #[.val (.ref a1), .val (.int (16 : Int32))] [])) rfl j68_2_4
  refine Go.by st2 ?_
  refine X2.ifNo j68_2_7 rfl (XT.i0_eq_f nc) ?_
  refine X2.aloadN j68_2_10 rfl rfl ?_
  refine X2.iloadN j68_2_11 rfl ?_
  have lt_a1_3 := (X2.lt (.head _))
  obtain ⟨T3, h3, b3, k3, g_b3, X3, E3, A3, st3⟩ := X2.newP (hw _ (gm 24 rfl)) (g := (mkF m 12 #[.val (.ref a1), .val (.int (16 : Int32))] [(.int (16 : Int32)), (.ref a1)])) rfl j68_2_12 rfl (by decide) (cap := 16) (by decide) (by decide) (by decide) (by decide) (vs := [(.int (0 : Int32)), (.int (0 : Int32)), (.int (0 : Int32)), (.int (0 : Int32)), (.int (0 : Int32)), (.int (0 : Int32)), (.int (0 : Int32)), (.int (0 : Int32)), (.int (0 : Int32)), (.int (0 : Int32)), (.int (0 : Int32)), (.int (0 : Int32)), (.int (0 : Int32)), (.int (0 : Int32)), (.int (0 : Int32)), (.int (0 : Int32))]) rfl
  refine Go.by st3 ?_
  have ne_a1_b3 := ne_new lt_a1_3 g_b3
  have sz_b3 := Nat.le_trans X2.sz (Nat.le_of_eq g_b3.symm)
  have K0_h3 := (Keep.refl h0 [a1]).ext E3
  have F3 : Arv Z h3 b3 k3 .byte (16 : Int32) [(.int (0 : Int32)), (.int (0 : Int32)), (.int (0 : Int32)), (.int (0 : Int32)), (.int (0 : Int32)), (.int (0 : Int32)), (.int (0 : Int32)), (.int (0 : Int32)), (.int (0 : Int32)), (.int (0 : Int32)), (.int (0 : Int32)), (.int (0 : Int32)), (.int (0 : Int32)), (.int (0 : Int32)), (.int (0 : Int32)), (.int (0 : Int32))] (.int (0 : Int32)) := A3
  have f5 := pr1.ext E3
  have f6 := pr0.ext E3
  obtain ⟨T4, h4, X4, W4, st4⟩ := X3.putF (host := "") (Or.inl (hw _ (gm 25 rfl))) Via.refl f5 f6 (Or.inl (hw _ (gm 26 rfl))) (hw _ (gm 10 rfl)) (.tail _ (.head _)) (ty := (.array .byte)) (by decide) rfl rfl (g := (mkF m 14 #[.val (.ref a1), .val (.int (16 : Int32))] [(.ref b3), (.ref a1)])) rfl rfl j68_2_14
  refine Go.by st4 ?_
  have K0_h4 := K0_h3.wr W4 (Or.inl (.head _))
  have F4 : Fld Z h4 a1 "java/lang/AbstractStringBuilder" "value" "[B" (.ref b3) := f5.same W4
  refine X4.aloadN j68_2_17 rfl rfl ?_
  refine X4.iconst j68_2_18 ?_
  have f8 := (pr2.ext E3).other W4 (Or.inr (slot_ne (Or.inl (hw _ (gm 28 rfl))) (Or.inl (hw _ (gm 26 rfl))) (by decide) (t := .byte) (t' := (.array .byte)) (by decide) (by decide)))
  have f9 := (f6).wr W4
  obtain ⟨T7, h7, X7, W7, st7⟩ := X4.putFN (hw _ (gm 27 rfl)) Via.refl f8 f9 (Or.inl (hw _ (gm 28 rfl))) (hw _ (gm 10 rfl)) (.tail _ (.head _)) (ty := .byte) (v' := .int (0 : Int32)) (by decide) rfl rfl (g := (mkF m 19 #[.val (.ref a1), .val (.int (16 : Int32))] [(.int (0 : Int32)), (.ref a1)])) rfl rfl j68_2_19
  refine Go.by st7 ?_
  have K0_h7 := K0_h4.wr W7 (Or.inl (.head _))
  have F7 : Fld Z h7 a1 "java/lang/AbstractStringBuilder" "coder" "B" (.int (0 : Int32)) := f8.same W7
  refine X7.goto (pc0 := 22) (pc' := 38) rfl j68_2_22 (by decide) (by decide) ?_
  show Go _ _ _ _ (T7.setTop (mkF m 38 #[.val (.ref a1), .val (.int (16 : Int32))] []))
  have f10 := ((F3).other W4 ne_a1_b3.symm).other W7 ne_a1_b3.symm
  have f11 : Arv Z h7 b3 k3 .byte (16 : Int32) [] (.int (0 : Int32)) := (f10).pad (own_pad0 _ 16)
  have f12 := (F4).other W7 (Or.inr (slot_ne (Or.inl (hw _ (gm 26 rfl))) (Or.inl (hw _ (gm 28 rfl))) (by decide) (t := (.array .byte)) (t' := .byte) (by decide) (by decide)))
  have f13 := ((pr3.ext E3).other W4 (Or.inr (slot_ne (Or.inl (hw _ (gm 94 rfl))) (Or.inl (hw _ (gm 26 rfl))) (by decide) (t := .int) (t' := (.array .byte)) (by decide) (by decide)))).other W7 (Or.inr (slot_ne (Or.inl (hw _ (gm 94 rfl))) (Or.inl (hw _ (gm 28 rfl))) (by decide) (t := .int) (t' := .byte) (by decide) (by decide)))
  have f14 := ((pr4.ext E3).other W4 (Or.inr (slot_ne (Or.inl (hw _ (gm 274 rfl))) (Or.inl (hw _ (gm 26 rfl))) (by decide) (t := .boolean) (t' := (.array .byte)) (by decide) (by decide)))).other W7 (Or.inr (slot_ne (Or.inl (hw _ (gm 274 rfl))) (Or.inl (hw _ (gm 28 rfl))) (by decide) (t := .boolean) (t' := .byte) (by decide) (by decide)))
  exact X7.retV j68_2_38 K0_h7 ⟨b3, k3, rfl, sz_b3, (X7.lt (.head _)), f12, F7, f13, f14, f11⟩ (by decide) (by decide)
theorem ef_R1 (m : MethodId) (x0 : Addr) : entryFrame m #[(.ref x0)] 1 = mkF m 0 #[.val (.ref x0)] [] := by first | (simp [entryFrame, mkF, argsToLocals, Value.category]; done) | rfl
def Q_rs_sbi (Z : State) (a1 : Addr) (u0 : Value) (u1 : Value) (zc : Int32) (h0 : Heap) (ov : Option Value) (hz : Heap) : Prop := ∃ (vb : Addr), ∃ (kb : ClassId), ov = none ∧ h0.size ≤ vb ∧ vb < hz.size ∧ Fld Z hz a1 "java/lang/AbstractStringBuilder" "value" "[B" (.ref vb) ∧ Fld Z hz a1 "java/lang/AbstractStringBuilder" "coder" "B" (.int (0 : Int32)) ∧ Fld Z hz a1 "java/lang/AbstractStringBuilder" "count" "I" (.int (0 : Int32)) ∧ Fld Z hz a1 "java/lang/AbstractStringBuilder" "maybeLatin1" "Z" (.int (0 : Int32)) ∧ Arv Z hz vb kb .byte (16 : Int32) [] (.int (0 : Int32))
theorem pn_3 : plainName "java/lang/StringBuilder" = true := by first | (simp [plainName, overriddenIn]; done) | decide +kernel
theorem j67_1_0 : decode jdk_67_method_1_code 0 = .ok (.aload_n 0, 1) := by decide +kernel
theorem j67_1_1 : decode jdk_67_method_1_code 1 = .ok (.bipush 16, 2) := by decide +kernel
theorem pd_8 : parseMethodDescriptor "(I)V" = some ⟨[.int], none⟩ := by decide +kernel
theorem j67_1_3 : decode jdk_67_method_1_code 3 = .ok (.invokespecial 1, 3) := by decide +kernel
theorem j67_1_6 : decode jdk_67_method_1_code 6 = .ok (.return_, 1) := by decide +kernel
abbrev RM_rs_sbi : Room := { frames := 2, cells := 1, slots := 16, locals := 25 }
theorem rs_sbi (l : Launch) (Z : State) (a0 : Array Value) (hw : ∀ d ∈ tables_1, d.before a0 Z = true) (n0 : Nat) (a1 : Addr) (u0 : Value) (u1 : Value) (zc : Int32) (h0 : Heap) (hO : Old Z n0 h0) (pr0 : Exa Z h0 a1 "java/lang/StringBuilder") (pr1 : Fld Z h0 a1 "java/lang/AbstractStringBuilder" "value" "[B" u0) (pr2 : Fld Z h0 a1 "java/lang/AbstractStringBuilder" "coder" "B" u1) (pr3 : Fld Z h0 a1 "java/lang/AbstractStringBuilder" "count" "I" (.int (0 : Int32))) (pr4 : Fld Z h0 a1 "java/lang/AbstractStringBuilder" "maybeLatin1" "Z" (.int (0 : Int32))) (Sc : SC Z zc) (nc : ¬ (zc = (0 : Int32))) (g_a1 : n0 ≤ a1) (l_a1 : a1 < h0.size) :
    Ct l (⟨"java/lang/StringBuilder", "<init>", "()V"⟩ : MethodName) jdk_67_method_1_code 1 none [] RM_rs_sbi Z n0 #[(.ref a1)] h0 [a1] (Q_rs_sbi Z a1 u0 u1 zc h0) := by
  refine Ct.of_walk (plainFor_of_name pn_3) hO (allS ⟨g_a1, l_a1⟩ all0) ?_
  intro p e s m below meth c T0 X0
  rw [ef_R1 m a1]
  show Go _ _ _ _ (T0.setTop (mkF m 0 #[.val (.ref a1)] []))
  refine X0.aloadN j67_1_0 rfl rfl ?_
  refine X0.bipush j67_1_1 ?_
  obtain ⟨_, T1, h1, XX1, K1, ⟨vb_1, kb_1, rfl, fr_vb_1, fl_vb_1, P1_0, P1_1, P1_2, P1_3, P1_4⟩, st1⟩ := X0.spX (W := 0) rfl (hw _ (gm 15 rfl)) (hw _ (gm 16 rfl)) (hw _ (gm 20 rfl)) (by decide) ((rs_abi l Z a0 hw n0 a1 u0 u1 zc h0 X0.old pr0 pr1 pr2 pr3 pr4 Sc nc (X0.ge (.head _)) (X0.lt (.head _))).pay (hw _ (gm 20 rfl)) (hw _ (gm 19 rfl)) (by decide) (by decide)) (allS (.head _) all0) (g := (mkF m 3 #[.val (.ref a1)] [(.int (16 : Int32)), (.ref a1)])) rfl rfl (a := a1) (argsL := [(.int (16 : Int32))]) (rest := []) (lenOf pd_8 rfl) rfl (by exact Nat.le_of_eq rfl) j67_1_3 rfl (by decide) (by decide)
  refine Go.tr st1 ?_
  have X1 := XX1 [vb_1] (allS (Or.inr ⟨fr_vb_1, fl_vb_1⟩) all0)
  have K0_h1 := (Keep.refl h0 [a1]).trans K1 (allS (Or.inl (.head _)) all0)
  have sz_vb_1 := Nat.le_trans X0.sz fr_vb_1
  exact X1.retV j67_1_6 K0_h1 ⟨vb_1, kb_1, rfl, sz_vb_1, (X1.lt (.head _)), P1_0, P1_1, P1_2, P1_3, P1_4⟩ (by decide) (by decide)
def Q_rs_isl0 (Z : State) (a1 : Addr) (zc : Int32) (h0 : Heap) (ov : Option Value) (hz : Heap) : Prop := ov = some (.int (1 : Int32)) ∧ h0 = hz
theorem j68_68_0 : decode jdk_68_method_68_code 0 = .ok (.getstatic 18, 3) := by decide +kernel
theorem j68_68_3 : decode jdk_68_method_68_code 3 = .ok (.ifCond .eq 14, 3) := by decide +kernel
theorem j68_68_6 : decode jdk_68_method_68_code 6 = .ok (.aload_n 0, 1) := by decide +kernel
theorem j68_68_7 : decode jdk_68_method_68_code 7 = .ok (.getfield 22, 3) := by decide +kernel
theorem j68_68_10 : decode jdk_68_method_68_code 10 = .ok (.ifCond .ne 7, 3) := by decide +kernel
theorem j68_68_13 : decode jdk_68_method_68_code 13 = .ok (.iconst 1, 1) := by decide +kernel
theorem j68_68_14 : decode jdk_68_method_68_code 14 = .ok (.goto 4, 3) := by decide +kernel
theorem j68_68_18 : decode jdk_68_method_68_code 18 = .ok (.ireturn, 1) := by decide +kernel
abbrev RM_rs_isl0 : Room := { frames := 0, cells := 0, slots := 0, locals := 0 }
theorem rs_isl0 (l : Launch) (Z : State) (a0 : Array Value) (hw : ∀ d ∈ tables_1, d.before a0 Z = true) (n0 : Nat) (a1 : Addr) (zc : Int32) (h0 : Heap) (hO : Old Z n0 h0) (pr0 : Fld Z h0 a1 "java/lang/AbstractStringBuilder" "coder" "B" (.int (0 : Int32))) (Sc : SC Z zc) (nc : ¬ (zc = (0 : Int32))) :
    Ct l (⟨"java/lang/AbstractStringBuilder", "isLatin1", "()Z"⟩ : MethodName) jdk_68_method_68_code 1 (some .boolean) [] RM_rs_isl0 Z n0 #[(.ref a1)] h0 [] (Q_rs_isl0 Z a1 zc h0) := by
  refine Ct.of_walk (plainFor_of_name pn_2) hO all0 ?_
  intro p e s m below meth c T0 X0
  rw [ef_R1 m a1]
  show Go _ _ _ _ (T0.setTop (mkF m 0 #[.val (.ref a1)] []))
  obtain ⟨T1, X1, st1⟩ := X0.getS (hw _ (gm 22 rfl)) Via.refl Sc (g := (mkF m 0 #[.val (.ref a1)] [])) rfl j68_68_0
  refine Go.by st1 ?_
  refine X1.ifNo j68_68_3 rfl (XT.i0_eq_f nc) ?_
  refine X1.aloadN j68_68_6 rfl rfl ?_
  obtain ⟨T2, X2, st2⟩ := X1.getF (host := "") (Or.inl (hw _ (gm 27 rfl))) Via.refl pr0 (g := (mkF m 7 #[.val (.ref a1)] [(.ref a1)])) rfl rfl j68_68_7
  refine Go.by st2 ?_
  refine X2.ifNo j68_68_10 rfl (XT.i0_ne_f (by decide)) ?_
  refine X2.iconst j68_68_13 ?_
  refine X2.goto (pc0 := 14) (pc' := 18) rfl j68_68_14 (by decide) (by decide) ?_
  exact X2.retN (by simp) rfl j68_68_18 (Keep.refl h0 []) ⟨rfl, rfl⟩ (by decide) (by decide)
def Q_rs_cdr0 (Z : State) (x : Addr) (zc : Int32) (h0 : Heap) (ov : Option Value) (hz : Heap) : Prop := ov = some (.int (0 : Int32)) ∧ h0 = hz
theorem j42_152_0 : decode jdk_42_method_152_code 0 = .ok (.getstatic 38, 3) := by decide +kernel
theorem j42_152_3 : decode jdk_42_method_152_code 3 = .ok (.ifCond .eq 10, 3) := by decide +kernel
theorem j42_152_6 : decode jdk_42_method_152_code 6 = .ok (.aload_n 0, 1) := by decide +kernel
theorem j42_152_7 : decode jdk_42_method_152_code 7 = .ok (.getfield 15, 3) := by decide +kernel
theorem j42_152_10 : decode jdk_42_method_152_code 10 = .ok (.goto 4, 3) := by decide +kernel
theorem j42_152_14 : decode jdk_42_method_152_code 14 = .ok (.ireturn, 1) := by decide +kernel
abbrev RM_rs_cdr0 : Room := { frames := 0, cells := 0, slots := 0, locals := 0 }
theorem rs_cdr0 (l : Launch) (Z : State) (a0 : Array Value) (hw : ∀ d ∈ tables_1, d.before a0 Z = true) (n0 : Nat) (x : Addr) (zc : Int32) (h0 : Heap) (hO : Old Z n0 h0) (pr0 : Fld Z h0 x "java/lang/String" "coder" "B" (.int (0 : Int32))) (Sc : SC Z zc) (nc : ¬ (zc = (0 : Int32))) :
    Ct l (⟨"java/lang/String", "coder", "()B"⟩ : MethodName) jdk_42_method_152_code 1 (some .byte) [] RM_rs_cdr0 Z n0 #[(.ref x)] h0 [] (Q_rs_cdr0 Z x zc h0) := by
  refine Ct.of_walk (plainFor_of_name pn_1) hO all0 ?_
  intro p e s m below meth c T0 X0
  rw [ef_R1 m x]
  show Go _ _ _ _ (T0.setTop (mkF m 0 #[.val (.ref x)] []))
  obtain ⟨T1, X1, st1⟩ := X0.getS (hw _ (gm 92 rfl)) Via.refl Sc (g := (mkF m 0 #[.val (.ref x)] [])) rfl j42_152_0
  refine Go.by st1 ?_
  refine X1.ifNo j42_152_3 rfl (XT.i0_eq_f nc) ?_
  refine X1.aloadN j42_152_6 rfl rfl ?_
  obtain ⟨T2, X2, st2⟩ := X1.getF (host := "") (Or.inl (hw _ (gm 52 rfl))) Via.refl pr0 (g := (mkF m 7 #[.val (.ref x)] [(.ref x)])) rfl rfl j42_152_7
  refine Go.by st2 ?_
  refine X2.goto (pc0 := 10) (pc' := 14) rfl j42_152_10 (by decide) (by decide) ?_
  exact X2.retN (by simp) rfl j42_152_14 (Keep.refl h0 []) ⟨rfl, rfl⟩ (by decide) (by decide)
theorem ef_RI3 (m : MethodId) (x0 : Addr) (x1 : Int32) : entryFrame m #[(.ref x0), (.int x1)] 3 = mkF m 0 #[.val (.ref x0), .val (.int x1), .unset] [] := by first | (simp [entryFrame, mkF, argsToLocals, Value.category]; done) | rfl
def Q_rs_en0 (Z : State) (a1 : Addr) (n : Nat) (vb : Addr) (kb : ClassId) (us : List Value) (h0 : Heap) (ov : Option Value) (hz : Heap) : Prop := ov = none ∧ h0 = hz
theorem j68_9_0 : decode jdk_68_method_9_code 0 = .ok (.aload_n 0, 1) := by decide +kernel
theorem j68_9_1 : decode jdk_68_method_9_code 1 = .ok (.getfield 15, 3) := by decide +kernel
theorem j68_9_4 : decode jdk_68_method_9_code 4 = .ok (.arraylength, 1) := by decide +kernel
theorem j68_9_5 : decode jdk_68_method_9_code 5 = .ok (.aload_n 0, 1) := by decide +kernel
theorem j68_9_6 : decode jdk_68_method_9_code 6 = .ok (.getfield 22, 3) := by decide +kernel
theorem j68_9_9 : decode jdk_68_method_9_code 9 = .ok (.ishr, 1) := by decide +kernel
theorem j68_9_10 : decode jdk_68_method_9_code 10 = .ok (.istore_n 2, 1) := by decide +kernel
theorem j68_9_11 : decode jdk_68_method_9_code 11 = .ok (.iload_n 1, 1) := by decide +kernel
theorem j68_9_12 : decode jdk_68_method_9_code 12 = .ok (.iload_n 2, 1) := by decide +kernel
theorem j68_9_13 : decode jdk_68_method_9_code 13 = .ok (.isub, 1) := by decide +kernel
theorem j68_9_14 : decode jdk_68_method_9_code 14 = .ok (.ifCond .le 24, 3) := by decide +kernel
theorem j68_9_38 : decode jdk_68_method_9_code 38 = .ok (.return_, 1) := by decide +kernel
abbrev RM_rs_en0 : Room := { frames := 0, cells := 0, slots := 0, locals := 0 }
theorem rs_en0 (l : Launch) (Z : State) (a0 : Array Value) (hw : ∀ d ∈ tables_1, d.before a0 Z = true) (n0 : Nat) (a1 : Addr) (n : Nat) (vb : Addr) (kb : ClassId) (us : List Value) (h0 : Heap) (hO : Old Z n0 h0) (pr0 : Fld Z h0 a1 "java/lang/AbstractStringBuilder" "value" "[B" (.ref vb)) (pr1 : Fld Z h0 a1 "java/lang/AbstractStringBuilder" "coder" "B" (.int (0 : Int32))) (pr2 : Arv Z h0 vb kb .byte (16 : Int32) us (.int (0 : Int32))) (hn : n ≤ 16) :
    Ct l (⟨"java/lang/AbstractStringBuilder", "ensureCapacityInternal", "(I)V"⟩ : MethodName) jdk_68_method_9_code 3 none [] RM_rs_en0 Z n0 #[(.ref a1), (.int (Int32.ofNat n))] h0 [] (Q_rs_en0 Z a1 n vb kb us h0) := by
  refine Ct.of_walk (plainFor_of_name pn_2) hO all0 ?_
  intro p e s m below meth c T0 X0
  rw [ef_RI3 m a1 (Int32.ofNat n)]
  show Go _ _ _ _ (T0.setTop (mkF m 0 #[.val (.ref a1), .val (.int (Int32.ofNat n)), .unset] []))
  refine X0.aloadN j68_9_0 rfl rfl ?_
  obtain ⟨T1, X1, st1⟩ := X0.getF (host := "") (Or.inl (hw _ (gm 25 rfl))) Via.refl pr0 (g := (mkF m 1 #[.val (.ref a1), .val (.int (Int32.ofNat n)), .unset] [(.ref a1)])) rfl rfl j68_9_1
  refine Go.by st1 ?_
  refine Go.by (fun _ k => X1.len pr2 (g := (mkF m 4 #[.val (.ref a1), .val (.int (Int32.ofNat n)), .unset] [(.ref vb)])) rfl rfl j68_9_4 _ k) ?_
  show Go _ _ _ _ (T1.setTop (mkF m 5 #[.val (.ref a1), .val (.int (Int32.ofNat n)), .unset] [(.int (16 : Int32))]))
  refine X1.aloadN j68_9_5 rfl rfl ?_
  obtain ⟨T2, X2, st2⟩ := X1.getF (host := "") (Or.inl (hw _ (gm 27 rfl))) Via.refl pr1 (g := (mkF m 6 #[.val (.ref a1), .val (.int (Int32.ofNat n)), .unset] [(.ref a1), (.int (16 : Int32))])) rfl rfl j68_9_6
  refine Go.by st2 ?_
  refine X2.ishr j68_9_9 rfl ?_
  show Go _ _ _ _ (T2.setTop (mkF m 10 #[.val (.ref a1), .val (.int (Int32.ofNat n)), .unset] [(.int (16 : Int32))]))
  refine X2.istoreN j68_9_10 rfl (l' := #[.val (.ref a1), .val (.int (Int32.ofNat n)), .val (.int (16 : Int32))]) rfl ?_
  refine X2.iloadN j68_9_11 rfl ?_
  refine X2.iloadN j68_9_12 rfl ?_
  refine X2.isub j68_9_13 rfl ?_
  refine X2.ifYes (pc0 := 14) (pc' := 38) rfl j68_9_14 rfl (XT.i0_le_t (own_le hn)) (by decide) (by decide) ?_
  exact X2.retV j68_9_38 (Keep.refl h0 []) ⟨rfl, rfl⟩ (by decide) (by decide)
def Q_rs_isl1 (Z : State) (a1 : Addr) (zc : Int32) (h0 : Heap) (ov : Option Value) (hz : Heap) : Prop := ov = some (.int (0 : Int32)) ∧ h0 = hz
theorem j68_68_17 : decode jdk_68_method_68_code 17 = .ok (.iconst 0, 1) := by decide +kernel
abbrev RM_rs_isl1 : Room := { frames := 0, cells := 0, slots := 0, locals := 0 }
theorem rs_isl1 (l : Launch) (Z : State) (a0 : Array Value) (hw : ∀ d ∈ tables_1, d.before a0 Z = true) (n0 : Nat) (a1 : Addr) (zc : Int32) (h0 : Heap) (hO : Old Z n0 h0) (pr0 : Fld Z h0 a1 "java/lang/AbstractStringBuilder" "coder" "B" (.int (1 : Int32))) (Sc : SC Z zc) (nc : ¬ (zc = (0 : Int32))) :
    Ct l (⟨"java/lang/AbstractStringBuilder", "isLatin1", "()Z"⟩ : MethodName) jdk_68_method_68_code 1 (some .boolean) [] RM_rs_isl1 Z n0 #[(.ref a1)] h0 [] (Q_rs_isl1 Z a1 zc h0) := by
  refine Ct.of_walk (plainFor_of_name pn_2) hO all0 ?_
  intro p e s m below meth c T0 X0
  rw [ef_R1 m a1]
  show Go _ _ _ _ (T0.setTop (mkF m 0 #[.val (.ref a1)] []))
  obtain ⟨T1, X1, st1⟩ := X0.getS (hw _ (gm 22 rfl)) Via.refl Sc (g := (mkF m 0 #[.val (.ref a1)] [])) rfl j68_68_0
  refine Go.by st1 ?_
  refine X1.ifNo j68_68_3 rfl (XT.i0_eq_f nc) ?_
  refine X1.aloadN j68_68_6 rfl rfl ?_
  obtain ⟨T2, X2, st2⟩ := X1.getF (host := "") (Or.inl (hw _ (gm 27 rfl))) Via.refl pr0 (g := (mkF m 7 #[.val (.ref a1)] [(.ref a1)])) rfl rfl j68_68_7
  refine Go.by st2 ?_
  refine X2.ifYes (pc0 := 10) (pc' := 17) rfl j68_68_10 rfl (XT.i0_ne_t (by decide)) (by decide) (by decide) ?_
  refine X2.iconst j68_68_17 ?_
  exact X2.retN (by simp) rfl j68_68_18 (Keep.refl h0 []) ⟨rfl, rfl⟩ (by decide) (by decide)
def Q_rs_cdr1 (Z : State) (x : Addr) (zc : Int32) (h0 : Heap) (ov : Option Value) (hz : Heap) : Prop := ov = some (.int (1 : Int32)) ∧ h0 = hz
abbrev RM_rs_cdr1 : Room := { frames := 0, cells := 0, slots := 0, locals := 0 }
theorem rs_cdr1 (l : Launch) (Z : State) (a0 : Array Value) (hw : ∀ d ∈ tables_1, d.before a0 Z = true) (n0 : Nat) (x : Addr) (zc : Int32) (h0 : Heap) (hO : Old Z n0 h0) (pr0 : Fld Z h0 x "java/lang/String" "coder" "B" (.int (1 : Int32))) (Sc : SC Z zc) (nc : ¬ (zc = (0 : Int32))) :
    Ct l (⟨"java/lang/String", "coder", "()B"⟩ : MethodName) jdk_42_method_152_code 1 (some .byte) [] RM_rs_cdr1 Z n0 #[(.ref x)] h0 [] (Q_rs_cdr1 Z x zc h0) := by
  refine Ct.of_walk (plainFor_of_name pn_1) hO all0 ?_
  intro p e s m below meth c T0 X0
  rw [ef_R1 m x]
  show Go _ _ _ _ (T0.setTop (mkF m 0 #[.val (.ref x)] []))
  obtain ⟨T1, X1, st1⟩ := X0.getS (hw _ (gm 92 rfl)) Via.refl Sc (g := (mkF m 0 #[.val (.ref x)] [])) rfl j42_152_0
  refine Go.by st1 ?_
  refine X1.ifNo j42_152_3 rfl (XT.i0_eq_f nc) ?_
  refine X1.aloadN j42_152_6 rfl rfl ?_
  obtain ⟨T2, X2, st2⟩ := X1.getF (host := "") (Or.inl (hw _ (gm 52 rfl))) Via.refl pr0 (g := (mkF m 7 #[.val (.ref x)] [(.ref x)])) rfl rfl j42_152_7
  refine Go.by st2 ?_
  refine X2.goto (pc0 := 10) (pc' := 14) rfl j42_152_10 (by decide) (by decide) ?_
  exact X2.retN (by simp) rfl j42_152_14 (Keep.refl h0 []) ⟨rfl, rfl⟩ (by decide) (by decide)
def Q_rs_en1 (Z : State) (a1 : Addr) (n : Nat) (vb : Addr) (kb : ClassId) (us : List Value) (h0 : Heap) (ov : Option Value) (hz : Heap) : Prop := ov = none ∧ h0 = hz
abbrev RM_rs_en1 : Room := { frames := 0, cells := 0, slots := 0, locals := 0 }
theorem rs_en1 (l : Launch) (Z : State) (a0 : Array Value) (hw : ∀ d ∈ tables_1, d.before a0 Z = true) (n0 : Nat) (a1 : Addr) (n : Nat) (vb : Addr) (kb : ClassId) (us : List Value) (h0 : Heap) (hO : Old Z n0 h0) (pr0 : Fld Z h0 a1 "java/lang/AbstractStringBuilder" "value" "[B" (.ref vb)) (pr1 : Fld Z h0 a1 "java/lang/AbstractStringBuilder" "coder" "B" (.int (1 : Int32))) (pr2 : Arv Z h0 vb kb .byte (32 : Int32) us (.int (0 : Int32))) (hn : n ≤ 16) :
    Ct l (⟨"java/lang/AbstractStringBuilder", "ensureCapacityInternal", "(I)V"⟩ : MethodName) jdk_68_method_9_code 3 none [] RM_rs_en1 Z n0 #[(.ref a1), (.int (Int32.ofNat n))] h0 [] (Q_rs_en1 Z a1 n vb kb us h0) := by
  refine Ct.of_walk (plainFor_of_name pn_2) hO all0 ?_
  intro p e s m below meth c T0 X0
  rw [ef_RI3 m a1 (Int32.ofNat n)]
  show Go _ _ _ _ (T0.setTop (mkF m 0 #[.val (.ref a1), .val (.int (Int32.ofNat n)), .unset] []))
  refine X0.aloadN j68_9_0 rfl rfl ?_
  obtain ⟨T1, X1, st1⟩ := X0.getF (host := "") (Or.inl (hw _ (gm 25 rfl))) Via.refl pr0 (g := (mkF m 1 #[.val (.ref a1), .val (.int (Int32.ofNat n)), .unset] [(.ref a1)])) rfl rfl j68_9_1
  refine Go.by st1 ?_
  refine Go.by (fun _ k => X1.len pr2 (g := (mkF m 4 #[.val (.ref a1), .val (.int (Int32.ofNat n)), .unset] [(.ref vb)])) rfl rfl j68_9_4 _ k) ?_
  show Go _ _ _ _ (T1.setTop (mkF m 5 #[.val (.ref a1), .val (.int (Int32.ofNat n)), .unset] [(.int (32 : Int32))]))
  refine X1.aloadN j68_9_5 rfl rfl ?_
  obtain ⟨T2, X2, st2⟩ := X1.getF (host := "") (Or.inl (hw _ (gm 27 rfl))) Via.refl pr1 (g := (mkF m 6 #[.val (.ref a1), .val (.int (Int32.ofNat n)), .unset] [(.ref a1), (.int (32 : Int32))])) rfl rfl j68_9_6
  refine Go.by st2 ?_
  refine X2.ishr j68_9_9 rfl ?_
  show Go _ _ _ _ (T2.setTop (mkF m 10 #[.val (.ref a1), .val (.int (Int32.ofNat n)), .unset] [(.int (16 : Int32))]))
  refine X2.istoreN j68_9_10 rfl (l' := #[.val (.ref a1), .val (.int (Int32.ofNat n)), .val (.int (16 : Int32))]) rfl ?_
  refine X2.iloadN j68_9_11 rfl ?_
  refine X2.iloadN j68_9_12 rfl ?_
  refine X2.isub j68_9_13 rfl ?_
  refine X2.ifYes (pc0 := 14) (pc' := 38) rfl j68_9_14 rfl (XT.i0_le_t (own_le hn)) (by decide) (by decide) ?_
  exact X2.retV j68_9_38 (Keep.refl h0 []) ⟨rfl, rfl⟩ (by decide) (by decide)
def Q_rs_aln (Z : State) (a1 : Addr) (vi : Int32) (h0 : Heap) (ov : Option Value) (hz : Heap) : Prop := ov = some (.int vi) ∧ h0 = hz
theorem j68_6_0 : decode jdk_68_method_6_code 0 = .ok (.aload_n 0, 1) := by decide +kernel
theorem j68_6_1 : decode jdk_68_method_6_code 1 = .ok (.getfield 79, 3) := by decide +kernel
theorem j68_6_4 : decode jdk_68_method_6_code 4 = .ok (.ireturn, 1) := by decide +kernel
abbrev RM_rs_aln : Room := { frames := 0, cells := 0, slots := 0, locals := 0 }
theorem rs_aln (l : Launch) (Z : State) (a0 : Array Value) (hw : ∀ d ∈ tables_1, d.before a0 Z = true) (n0 : Nat) (a1 : Addr) (vi : Int32) (h0 : Heap) (hO : Old Z n0 h0) (pr0 : Exa Z h0 a1 "java/lang/StringBuilder") (pr1 : Fld Z h0 a1 "java/lang/AbstractStringBuilder" "count" "I" (.int vi)) :
    Ct l (⟨"java/lang/AbstractStringBuilder", "length", "()I"⟩ : MethodName) jdk_68_method_6_code 1 (some .int) [] RM_rs_aln Z n0 #[(.ref a1)] h0 [] (Q_rs_aln Z a1 vi h0) := by
  refine Ct.of_walk (plainFor_of_name pn_2) hO all0 ?_
  intro p e s m below meth c T0 X0
  rw [ef_R1 m a1]
  show Go _ _ _ _ (T0.setTop (mkF m 0 #[.val (.ref a1)] []))
  refine X0.aloadN j68_6_0 rfl rfl ?_
  obtain ⟨T1, X1, st1⟩ := X0.getF (host := "") (Or.inl (hw _ (gm 93 rfl))) Via.refl pr1 (g := (mkF m 1 #[.val (.ref a1)] [(.ref a1)])) rfl rfl j68_6_1
  refine Go.by st1 ?_
  exact X1.retI j68_6_4 (Keep.refl h0 []) ⟨rfl, rfl⟩ (by decide) (by decide)
def Q_rs_sln (Z : State) (a1 : Addr) (vi : Int32) (h0 : Heap) (ov : Option Value) (hz : Heap) : Prop := ov = some (.int vi) ∧ h0 = hz
theorem j67_93_0 : decode jdk_67_method_93_code 0 = .ok (.aload_n 0, 1) := by decide +kernel
theorem pd_9 : parseMethodDescriptor "()I" = some ⟨[], some .int⟩ := by decide +kernel
theorem j67_93_1 : decode jdk_67_method_93_code 1 = .ok (.invokespecial 343, 3) := by decide +kernel
theorem j67_93_4 : decode jdk_67_method_93_code 4 = .ok (.ireturn, 1) := by decide +kernel
abbrev RM_rs_sln : Room := { frames := 1, cells := 0, slots := 0, locals := 12 }
theorem rs_sln (l : Launch) (Z : State) (a0 : Array Value) (hw : ∀ d ∈ tables_1, d.before a0 Z = true) (n0 : Nat) (a1 : Addr) (vi : Int32) (h0 : Heap) (hO : Old Z n0 h0) (pr0 : Exa Z h0 a1 "java/lang/StringBuilder") (pr1 : Fld Z h0 a1 "java/lang/AbstractStringBuilder" "count" "I" (.int vi)) :
    Ct l (⟨"java/lang/StringBuilder", "length", "()I"⟩ : MethodName) jdk_67_method_93_code 1 (some .int) [] RM_rs_sln Z n0 #[(.ref a1)] h0 [] (Q_rs_sln Z a1 vi h0) := by
  refine Ct.of_walk (plainFor_of_name pn_3) hO all0 ?_
  intro p e s m below meth c T0 X0
  rw [ef_R1 m a1]
  show Go _ _ _ _ (T0.setTop (mkF m 0 #[.val (.ref a1)] []))
  refine X0.aloadN j67_93_0 rfl rfl ?_
  obtain ⟨_, T1, h1, XX1, K1, ⟨rfl, rfl⟩, st1⟩ := X0.suX (W := 0) (hw _ (gm 130 rfl)) (own_same (hw _ (gm 131 rfl)) (hw _ (gm 65 rfl)) (by decide) (own_notface (y := (⟨"java/lang/AbstractStringBuilder", "ensureCapacityInternal", "(I)V"⟩ : MethodName)) (hw _ (gm 96 rfl)) (hw _ (gm 98 rfl)))) (hw _ (gm 131 rfl)) (hw _ (gm 65 rfl)) (by decide) (hw _ (gm 133 rfl)) ((rs_aln l Z a0 hw n0 a1 vi h0 X0.old pr0 pr1).pay (hw _ (gm 133 rfl)) (hw _ (gm 19 rfl)) (by decide) (by decide)) all0 (Ins.self pr0) (g := (mkF m 1 #[.val (.ref a1)] [(.ref a1)])) rfl rfl (argsL := []) (rest := []) (lenOf pd_9 rfl) rfl (by exact Nat.le_of_eq rfl) j67_93_1 rfl (by decide) (by decide)
  refine Go.tr st1 ?_
  have X1 := XX1 [] all0
  exact X1.retI j67_93_4 (Keep.refl h0 []) ⟨rfl, rfl⟩ (by decide) (by decide)
def Q_rs_uln (Z : State) (t : Addr) (kb : ClassId) (us : List Value) (h0 : Heap) (ov : Option Value) (hz : Heap) : Prop := ov = some (.int (16 : Int32)) ∧ h0 = hz
theorem j52_6_0 : decode jdk_52_method_6_code 0 = .ok (.aload_n 0, 1) := by decide +kernel
theorem j52_6_1 : decode jdk_52_method_6_code 1 = .ok (.arraylength, 1) := by decide +kernel
theorem j52_6_2 : decode jdk_52_method_6_code 2 = .ok (.iconst 1, 1) := by decide +kernel
theorem j52_6_3 : decode jdk_52_method_6_code 3 = .ok (.ishr, 1) := by decide +kernel
theorem j52_6_4 : decode jdk_52_method_6_code 4 = .ok (.ireturn, 1) := by decide +kernel
abbrev RM_rs_uln : Room := { frames := 0, cells := 0, slots := 0, locals := 0 }
theorem rs_uln (l : Launch) (Z : State) (a0 : Array Value) (hw : ∀ d ∈ tables_1, d.before a0 Z = true) (n0 : Nat) (t : Addr) (kb : ClassId) (us : List Value) (h0 : Heap) (hO : Old Z n0 h0) (pr0 : Arv Z h0 t kb .byte (32 : Int32) us (.int (0 : Int32))) :
    Ct l (⟨"java/lang/StringUTF16", "length", "([B)I"⟩ : MethodName) jdk_52_method_6_code 1 (some .int) [] RM_rs_uln Z n0 #[(.ref t)] h0 [] (Q_rs_uln Z t kb us h0) := by
  refine Ct.of_walk (plainFor_of_name pn_0) hO all0 ?_
  intro p e s m below meth c T0 X0
  rw [ef_R1 m t]
  show Go _ _ _ _ (T0.setTop (mkF m 0 #[.val (.ref t)] []))
  refine X0.aloadN j52_6_0 rfl rfl ?_
  refine Go.by (fun _ k => X0.len pr0 (g := (mkF m 1 #[.val (.ref t)] [(.ref t)])) rfl rfl j52_6_1 _ k) ?_
  show Go _ _ _ _ (T0.setTop (mkF m 2 #[.val (.ref t)] [(.int (32 : Int32))]))
  refine X0.iconst j52_6_2 ?_
  refine X0.ishr j52_6_3 rfl ?_
  show Go _ _ _ _ (T0.setTop (mkF m 4 #[.val (.ref t)] [(.int (16 : Int32))]))
  exact X0.retI j52_6_4 (Keep.refl h0 []) ⟨rfl, rfl⟩ (by decide) (by decide)
theorem ef_IIIV4 (m : MethodId) (x0 : Int32) (x1 : Int32) (x2 : Int32) (x3 : Value) (q3 : x3.isRef = true) : entryFrame m #[(.int x0), (.int x1), (.int x2), x3] 4 = mkF m 0 #[.val (.int x0), .val (.int x1), .val (.int x2), .val x3] [] := by rcases ref_cases q3 with rfl | ⟨_, rfl⟩ <;> first | (simp [entryFrame, mkF, argsToLocals, Value.category]; done) | rfl
def Q_rs_cfs (Z : State) (o : Nat) (n : Nat) (vf : Value) (h0 : Heap) (ov : Option Value) (hz : Heap) : Prop := ov = some (.int (Int32.ofNat o)) ∧ h0 = hz
theorem pn_4 : plainName "jdk/internal/util/Preconditions" = true := by first | (simp [plainName, overriddenIn]; done) | decide +kernel
theorem j41_13_0 : decode jdk_41_method_13_code 0 = .ok (.iload_n 2, 1) := by decide +kernel
theorem j41_13_1 : decode jdk_41_method_13_code 1 = .ok (.iload_n 0, 1) := by decide +kernel
theorem j41_13_2 : decode jdk_41_method_13_code 2 = .ok (.ior, 1) := by decide +kernel
theorem j41_13_3 : decode jdk_41_method_13_code 3 = .ok (.iload_n 1, 1) := by decide +kernel
theorem j41_13_4 : decode jdk_41_method_13_code 4 = .ok (.ior, 1) := by decide +kernel
theorem j41_13_5 : decode jdk_41_method_13_code 5 = .ok (.ifCond .lt 10, 3) := by decide +kernel
theorem j41_13_8 : decode jdk_41_method_13_code 8 = .ok (.iload_n 1, 1) := by decide +kernel
theorem j41_13_9 : decode jdk_41_method_13_code 9 = .ok (.iload_n 2, 1) := by decide +kernel
theorem j41_13_10 : decode jdk_41_method_13_code 10 = .ok (.iload_n 0, 1) := by decide +kernel
theorem j41_13_11 : decode jdk_41_method_13_code 11 = .ok (.isub, 1) := by decide +kernel
theorem j41_13_12 : decode jdk_41_method_13_code 12 = .ok (.if_icmp .le 11, 3) := by decide +kernel
theorem j41_13_23 : decode jdk_41_method_13_code 23 = .ok (.iload_n 0, 1) := by decide +kernel
theorem j41_13_24 : decode jdk_41_method_13_code 24 = .ok (.ireturn, 1) := by decide +kernel
abbrev RM_rs_cfs : Room := { frames := 0, cells := 0, slots := 0, locals := 0 }
theorem rs_cfs (l : Launch) (Z : State) (a0 : Array Value) (hw : ∀ d ∈ tables_1, d.before a0 Z = true) (n0 : Nat) (o : Nat) (n : Nat) (vf : Value) (h0 : Heap) (hO : Old Z n0 h0) (rf : vf.isRef = true) (ho : o + n ≤ 16) :
    Ct l (⟨"jdk/internal/util/Preconditions", "checkFromIndexSize", "(IIILjava/util/function/BiFunction;)I"⟩ : MethodName) jdk_41_method_13_code 4 (some .int) [] RM_rs_cfs Z n0 #[(.int (Int32.ofNat o)), (.int (Int32.ofNat n)), (.int (16 : Int32)), vf] h0 [] (Q_rs_cfs Z o n vf h0) := by
  refine Ct.of_walk (plainFor_of_name pn_4) hO all0 ?_
  intro p e s m below meth c T0 X0
  rw [ef_IIIV4 m (Int32.ofNat o) (Int32.ofNat n) (16 : Int32) vf rf]
  show Go _ _ _ _ (T0.setTop (mkF m 0 #[.val (.int (Int32.ofNat o)), .val (.int (Int32.ofNat n)), .val (.int (16 : Int32)), .val vf] []))
  refine X0.iloadN j41_13_0 rfl ?_
  refine X0.iloadN j41_13_1 rfl ?_
  refine X0.ior j41_13_2 rfl ?_
  refine X0.iloadN j41_13_3 rfl ?_
  refine X0.ior j41_13_4 rfl ?_
  refine X0.ifNo j41_13_5 rfl (XT.i0_lt_f (own_or (by omega) (by omega))) ?_
  refine X0.iloadN j41_13_8 rfl ?_
  refine X0.iloadN j41_13_9 rfl ?_
  refine X0.iloadN j41_13_10 rfl ?_
  refine X0.isub j41_13_11 rfl ?_
  refine X0.icmpYes (pc0 := 12) (pc' := 23) rfl j41_13_12 rfl (XT.ii_le_t (own_ok ho)) (by decide) (by decide) ?_
  refine X0.iloadN j41_13_23 rfl ?_
  show Go _ _ _ _ (T0.setTop (mkF m 24 #[.val (.int (Int32.ofNat o)), .val (.int (Int32.ofNat n)), .val (.int (16 : Int32)), .val vf] [(.int (Int32.ofNat o))]))
  exact X0.retI j41_13_24 (Keep.refl h0 []) ⟨rfl, rfl⟩ (by decide) (by decide)
theorem ef_III3 (m : MethodId) (x0 : Int32) (x1 : Int32) (x2 : Int32) : entryFrame m #[(.int x0), (.int x1), (.int x2)] 3 = mkF m 0 #[.val (.int x0), .val (.int x1), .val (.int x2)] [] := by first | (simp [entryFrame, mkF, argsToLocals, Value.category]; done) | rfl
def Q_rs_cbo (Z : State) (o : Nat) (n : Nat) (vf : Value) (h0 : Heap) (ov : Option Value) (hz : Heap) : Prop := ov = some (.int (Int32.ofNat o)) ∧ h0 = hz
theorem j42_157_0 : decode jdk_42_method_157_code 0 = .ok (.iload_n 0, 1) := by decide +kernel
theorem j42_157_1 : decode jdk_42_method_157_code 1 = .ok (.iload_n 1, 1) := by decide +kernel
theorem j42_157_2 : decode jdk_42_method_157_code 2 = .ok (.iload_n 2, 1) := by decide +kernel
theorem j42_157_3 : decode jdk_42_method_157_code 3 = .ok (.getstatic 1053, 3) := by decide +kernel
theorem pd_10 : parseMethodDescriptor "(IIILjava/util/function/BiFunction;)I" = some ⟨[.int, .int, .int, (.object "java/util/function/BiFunction")], some .int⟩ := by decide +kernel
theorem j42_157_6 : decode jdk_42_method_157_code 6 = .ok (.invokestatic 1065, 3) := by decide +kernel
theorem j42_157_9 : decode jdk_42_method_157_code 9 = .ok (.ireturn, 1) := by decide +kernel
abbrev RM_rs_cbo : Room := { frames := 1, cells := 0, slots := 0, locals := 15 }
theorem rs_cbo (l : Launch) (Z : State) (a0 : Array Value) (hw : ∀ d ∈ tables_1, d.before a0 Z = true) (n0 : Nat) (o : Nat) (n : Nat) (vf : Value) (h0 : Heap) (hO : Old Z n0 h0) (Sf : SF1 Z vf) (rf : vf.isRef = true) (ho : o + n ≤ 16) :
    Ct l (⟨"java/lang/String", "checkBoundsOffCount", "(III)I"⟩ : MethodName) jdk_42_method_157_code 3 (some .int) [] RM_rs_cbo Z n0 #[(.int (Int32.ofNat o)), (.int (Int32.ofNat n)), (.int (16 : Int32))] h0 [] (Q_rs_cbo Z o n vf h0) := by
  refine Ct.of_walk (plainFor_of_name pn_1) hO all0 ?_
  intro p e s m below meth c T0 X0
  rw [ef_III3 m (Int32.ofNat o) (Int32.ofNat n) (16 : Int32)]
  show Go _ _ _ _ (T0.setTop (mkF m 0 #[.val (.int (Int32.ofNat o)), .val (.int (Int32.ofNat n)), .val (.int (16 : Int32))] []))
  refine X0.iloadN j42_157_0 rfl ?_
  refine X0.iloadN j42_157_1 rfl ?_
  refine X0.iloadN j42_157_2 rfl ?_
  obtain ⟨T1, X1, st1⟩ := X0.getS (hw _ (gm 256 rfl)) Via.refl Sf (g := (mkF m 3 #[.val (.int (Int32.ofNat o)), .val (.int (Int32.ofNat n)), .val (.int (16 : Int32))] [(.int (16 : Int32)), (.int (Int32.ofNat n)), (.int (Int32.ofNat o))])) rfl j42_157_3
  refine Go.by st1 ?_
  obtain ⟨_, T2, h2, XX2, K2, ⟨rfl, rfl⟩, st2⟩ := X1.stX (W := 0) (hw _ (gm 258 rfl)) (hw _ (gm 259 rfl)) (hw _ (gm 257 rfl)) (hw _ (gm 260 rfl)) (by decide) ((rs_cfs l Z a0 hw n0 o n vf h0 X1.old rf ho).pay (hw _ (gm 260 rfl)) (hw _ (gm 257 rfl)) (by decide) (by decide)) all0 (g := (mkF m 6 #[.val (.int (Int32.ofNat o)), .val (.int (Int32.ofNat n)), .val (.int (16 : Int32))] [vf, (.int (16 : Int32)), (.int (Int32.ofNat n)), (.int (Int32.ofNat o))])) rfl rfl (argsL := [(.int (Int32.ofNat o)), (.int (Int32.ofNat n)), (.int (16 : Int32)), vf]) (rest := []) (lenOf pd_10 rfl) rfl (by exact Nat.le_of_eq rfl) j42_157_6 rfl (by decide) (by decide)
  refine Go.tr st2 ?_
  have X2 := XX2 [] all0
  exact X2.retI j42_157_9 (Keep.refl h0 []) ⟨rfl, rfl⟩ (by decide) (by decide)
theorem ef_IIR3 (m : MethodId) (x0 : Int32) (x1 : Int32) (x2 : Addr) : entryFrame m #[(.int x0), (.int x1), (.ref x2)] 3 = mkF m 0 #[.val (.int x0), .val (.int x1), .val (.ref x2)] [] := by first | (simp [entryFrame, mkF, argsToLocals, Value.category]; done) | rfl
def Q_rs_ubo (Z : State) (o : Nat) (n : Nat) (t : Addr) (kb : ClassId) (us : List Value) (vf : Value) (h0 : Heap) (ov : Option Value) (hz : Heap) : Prop := ov = none ∧ h0 = hz
theorem j52_94_0 : decode jdk_52_method_94_code 0 = .ok (.iload_n 0, 1) := by decide +kernel
theorem j52_94_1 : decode jdk_52_method_94_code 1 = .ok (.iload_n 1, 1) := by decide +kernel
theorem j52_94_2 : decode jdk_52_method_94_code 2 = .ok (.aload_n 2, 1) := by decide +kernel
theorem pd_11 : parseMethodDescriptor "([B)I" = some ⟨[(.array .byte)], some .int⟩ := by decide +kernel
theorem j52_94_3 : decode jdk_52_method_94_code 3 = .ok (.invokestatic 48, 3) := by decide +kernel
theorem pd_12 : parseMethodDescriptor "(III)I" = some ⟨[.int, .int, .int], some .int⟩ := by decide +kernel
theorem j52_94_6 : decode jdk_52_method_94_code 6 = .ok (.invokestatic 419, 3) := by decide +kernel
theorem j52_94_9 : decode jdk_52_method_94_code 9 = .ok (.pop, 1) := by decide +kernel
theorem j52_94_10 : decode jdk_52_method_94_code 10 = .ok (.return_, 1) := by decide +kernel
abbrev RM_rs_ubo : Room := { frames := 2, cells := 0, slots := 0, locals := 29 }
theorem rs_ubo (l : Launch) (Z : State) (a0 : Array Value) (hw : ∀ d ∈ tables_1, d.before a0 Z = true) (n0 : Nat) (o : Nat) (n : Nat) (t : Addr) (kb : ClassId) (us : List Value) (vf : Value) (h0 : Heap) (hO : Old Z n0 h0) (pr0 : Arv Z h0 t kb .byte (32 : Int32) us (.int (0 : Int32))) (Sf : SF1 Z vf) (rf : vf.isRef = true) (ho : o + n ≤ 16) :
    Ct l (⟨"java/lang/StringUTF16", "checkBoundsOffCount", "(II[B)V"⟩ : MethodName) jdk_52_method_94_code 3 none [] RM_rs_ubo Z n0 #[(.int (Int32.ofNat o)), (.int (Int32.ofNat n)), (.ref t)] h0 [] (Q_rs_ubo Z o n t kb us vf h0) := by
  refine Ct.of_walk (plainFor_of_name pn_0) hO all0 ?_
  intro p e s m below meth c T0 X0
  rw [ef_IIR3 m (Int32.ofNat o) (Int32.ofNat n) t]
  show Go _ _ _ _ (T0.setTop (mkF m 0 #[.val (.int (Int32.ofNat o)), .val (.int (Int32.ofNat n)), .val (.ref t)] []))
  refine X0.iloadN j52_94_0 rfl ?_
  refine X0.iloadN j52_94_1 rfl ?_
  refine X0.aloadN j52_94_2 rfl rfl ?_
  obtain ⟨_, T1, h1, XX1, K1, ⟨rfl, rfl⟩, st1⟩ := X0.stX (W := 2) (hw _ (gm 250 rfl)) (hw _ (gm 251 rfl)) (hw _ (gm 199 rfl)) (hw _ (gm 252 rfl)) (by decide) ((rs_uln l Z a0 hw n0 t kb us h0 X0.old pr0).pay (hw _ (gm 252 rfl)) (hw _ (gm 199 rfl)) (by decide) (by decide)) all0 (g := (mkF m 3 #[.val (.int (Int32.ofNat o)), .val (.int (Int32.ofNat n)), .val (.ref t)] [(.ref t), (.int (Int32.ofNat n)), (.int (Int32.ofNat o))])) rfl rfl (argsL := [(.ref t)]) (rest := [(.int (Int32.ofNat n)), (.int (Int32.ofNat o))]) (lenOf pd_11 rfl) rfl (by exact Nat.le_of_eq rfl) j52_94_3 rfl (by decide) (by decide)
  refine Go.tr st1 ?_
  have X1 := XX1 [] all0
  obtain ⟨_, T2, h2, XX2, K2, ⟨rfl, rfl⟩, st2⟩ := X1.stX (W := 0) (hw _ (gm 253 rfl)) (hw _ (gm 254 rfl)) (hw _ (gm 23 rfl)) (hw _ (gm 255 rfl)) (by decide) ((rs_cbo l Z a0 hw n0 o n vf h0 X1.old Sf rf ho).pay (hw _ (gm 255 rfl)) (hw _ (gm 23 rfl)) (by decide) (by decide)) all0 (g := (mkF m 6 #[.val (.int (Int32.ofNat o)), .val (.int (Int32.ofNat n)), .val (.ref t)] [(.int (16 : Int32)), (.int (Int32.ofNat n)), (.int (Int32.ofNat o))])) rfl rfl (argsL := [(.int (Int32.ofNat o)), (.int (Int32.ofNat n)), (.int (16 : Int32))]) (rest := []) (lenOf pd_12 rfl) rfl (by exact Nat.le_of_eq rfl) j52_94_6 rfl (by decide) (by decide)
  refine Go.tr st2 ?_
  have X2 := XX2 [] all0
  refine X2.pop j52_94_9 rfl rfl ?_
  exact X2.retV j52_94_10 (Keep.refl h0 []) ⟨rfl, rfl⟩ (by decide) (by decide)
theorem ef_RIRII6 (m : MethodId) (x0 : Addr) (x1 : Int32) (x2 : Addr) (x3 : Int32) (x4 : Int32) : entryFrame m #[(.ref x0), (.int x1), (.ref x2), (.int x3), (.int x4)] 6 = mkF m 0 #[.val (.ref x0), .val (.int x1), .val (.ref x2), .val (.int x3), .val (.int x4), .unset] [] := by first | (simp [entryFrame, mkF, argsToLocals, Value.category]; done) | rfl
def Q_rs_uin (Z : State) (sr : Addr) (ks : ClassId) (ds_ : Addr) (kd : ClassId) (NS : Int32) (as_ : List Int32) (cs : List Int32) (zc : Int32) (vf : Value) (h0 : Heap) (ov : Option Value) (hz : Heap) : Prop := ov = none ∧ Arv Z hz ds_ kd .byte (32 : Int32) (StrChars.Road.wideBytes (as_ ++ cs)) (.int (0 : Int32))
theorem j52_86_0 : decode jdk_52_method_86_code 0 = .ok (.iload_n 3, 1) := by decide +kernel
theorem j52_86_1 : decode jdk_52_method_86_code 1 = .ok (.iload 4, 2) := by decide +kernel
theorem j52_86_3 : decode jdk_52_method_86_code 3 = .ok (.aload_n 2, 1) := by decide +kernel
theorem pd_13 : parseMethodDescriptor "(II[B)V" = some ⟨[.int, .int, (.array .byte)], none⟩ := by decide +kernel
theorem j52_86_4 : decode jdk_52_method_86_code 4 = .ok (.invokestatic 173, 3) := by decide +kernel
theorem j52_86_7 : decode jdk_52_method_86_code 7 = .ok (.iconst 0, 1) := by decide +kernel
theorem j52_86_8 : decode jdk_52_method_86_code 8 = .ok (.istore 5, 2) := by decide +kernel
theorem j52_86_10 : decode jdk_52_method_86_code 10 = .ok (.iload 5, 2) := by decide +kernel
theorem j52_86_12 : decode jdk_52_method_86_code 12 = .ok (.iload 4, 2) := by decide +kernel
theorem j52_86_14 : decode jdk_52_method_86_code 14 = .ok (.if_icmp .ge 27, 3) := by decide +kernel
theorem j52_86_41 : decode jdk_52_method_86_code 41 = .ok (.return_, 1) := by decide +kernel
theorem j52_86_17 : decode jdk_52_method_86_code 17 = .ok (.aload_n 2, 1) := by decide +kernel
theorem j52_86_18 : decode jdk_52_method_86_code 18 = .ok (.iload_n 3, 1) := by decide +kernel
theorem j52_86_19 : decode jdk_52_method_86_code 19 = .ok (.iinc 3 1, 3) := by decide +kernel
theorem j52_86_22 : decode jdk_52_method_86_code 22 = .ok (.aload_n 0, 1) := by decide +kernel
theorem j52_86_23 : decode jdk_52_method_86_code 23 = .ok (.iload_n 1, 1) := by decide +kernel
theorem j52_86_24 : decode jdk_52_method_86_code 24 = .ok (.iinc 1 1, 3) := by decide +kernel
theorem j52_86_27 : decode jdk_52_method_86_code 27 = .ok (.baload, 1) := by decide +kernel
theorem j52_86_28 : decode jdk_52_method_86_code 28 = .ok (.sipush 255, 3) := by decide +kernel
theorem j52_86_31 : decode jdk_52_method_86_code 31 = .ok (.iand, 1) := by decide +kernel
theorem j52_86_32 : decode jdk_52_method_86_code 32 = .ok (.invokestatic 111, 3) := by decide +kernel
theorem j52_86_35 : decode jdk_52_method_86_code 35 = .ok (.iinc 5 1, 3) := by decide +kernel
theorem j52_86_38 : decode jdk_52_method_86_code 38 = .ok (.goto (-28), 3) := by decide +kernel
abbrev RM_rs_uin : Room := { frames := 3, cells := 0, slots := 0, locals := 43 }
theorem rs_uin (l : Launch) (Z : State) (a0 : Array Value) (hw : ∀ d ∈ tables_1, d.before a0 Z = true) (n0 : Nat) (sr : Addr) (ks : ClassId) (ds_ : Addr) (kd : ClassId) (NS : Int32) (as_ : List Int32) (cs : List Int32) (zc : Int32) (vf : Value) (h0 : Heap) (hO : Old Z n0 h0) (pr0 : Arv Z h0 sr ks .byte NS (cs.map fun c => Value.int (StrChars.lo8 c)) (.int (0 : Int32))) (pr1 : Arv Z h0 ds_ kd .byte (32 : Int32) (StrChars.Road.wideBytes as_) (.int (0 : Int32))) (Sc : SC Z zc) (nc : ¬ (zc = (0 : Int32))) (Sa : SA1 Z) (Su : SU1 Z) (Sv : SV1 Z) (Sf : SF1 Z vf) (rf : vf.isRef = true) (hcs : ∀ c ∈ cs, ¬ c < 0 ∧ ¬ (255 : Int32) < c) (hlen : as_.length + cs.length ≤ 16) (hNS : ∀ k, k < cs.length → Int32.ofNat k < NS) (hsd : sr ≠ ds_) (g_ds_ : n0 ≤ ds_) (l_ds_ : ds_ < h0.size) :
    Ct l (⟨"java/lang/StringUTF16", "inflate", "([BI[BII)V"⟩ : MethodName) jdk_52_method_86_code 6 none [] RM_rs_uin Z n0 #[(.ref sr), (.int (0 : Int32)), (.ref ds_), (.int (Int32.ofNat as_.length)), (.int (Int32.ofNat cs.length))] h0 [ds_] (Q_rs_uin Z sr ks ds_ kd NS as_ cs zc vf h0) := by
  refine Ct.of_walk (plainFor_of_name pn_0) hO (allS ⟨g_ds_, l_ds_⟩ all0) ?_
  intro p e s m below meth c T0 X0
  rw [ef_RIRII6 m sr (0 : Int32) ds_ (Int32.ofNat as_.length) (Int32.ofNat cs.length)]
  show Go _ _ _ _ (T0.setTop (mkF m 0 #[.val (.ref sr), .val (.int (0 : Int32)), .val (.ref ds_), .val (.int (Int32.ofNat as_.length)), .val (.int (Int32.ofNat cs.length)), .unset] []))
  refine X0.iloadN j52_86_0 rfl ?_
  refine X0.iload j52_86_1 rfl ?_
  refine X0.aloadN j52_86_3 rfl rfl ?_
  obtain ⟨_, T1, h1, XX1, K1, ⟨rfl, rfl⟩, st1⟩ := X0.stX (W := 0) (hw _ (gm 247 rfl)) (hw _ (gm 248 rfl)) (hw _ (gm 199 rfl)) (hw _ (gm 249 rfl)) (by decide) ((rs_ubo l Z a0 hw n0 as_.length cs.length ds_ kd (StrChars.Road.wideBytes as_) vf h0 X0.old pr1 Sf rf hlen).pay (hw _ (gm 249 rfl)) (hw _ (gm 199 rfl)) (by decide) (by decide)) all0 (g := (mkF m 4 #[.val (.ref sr), .val (.int (0 : Int32)), .val (.ref ds_), .val (.int (Int32.ofNat as_.length)), .val (.int (Int32.ofNat cs.length)), .unset] [(.ref ds_), (.int (Int32.ofNat cs.length)), (.int (Int32.ofNat as_.length))])) rfl rfl (argsL := [(.int (Int32.ofNat as_.length)), (.int (Int32.ofNat cs.length)), (.ref ds_)]) (rest := []) (lenOf pd_13 rfl) rfl (by exact Nat.le_of_eq rfl) j52_86_4 rfl (by decide) (by decide)
  refine Go.tr st1 ?_
  have X1 := XX1 [] all0
  refine X1.iconst j52_86_7 ?_
  refine X1.istore j52_86_8 rfl (l' := #[.val (.ref sr), .val (.int (0 : Int32)), .val (.ref ds_), .val (.int (Int32.ofNat as_.length)), .val (.int (Int32.ofNat cs.length)), .val (.int (0 : Int32))]) rfl ?_
  have loop : ∀ (mm : Nat) (kk : Nat) (TL : State) (hL : Heap), (Wk false p l e RM_rs_uin s m #[(.ref sr), (.int (0 : Int32)), (.ref ds_), (.int (Int32.ofNat as_.length)), (.int (Int32.ofNat cs.length))] below meth c Z [] (⟨"java/lang/StringUTF16", "inflate", "([BI[BII)V"⟩ : MethodName) jdk_52_method_86_code 6 none n0 h0 TL hL [ds_] 0 0) → (Keep h0 hL [ds_]) → (Arv Z hL sr ks .byte NS (cs.map fun c => Value.int (StrChars.lo8 c)) (.int (0 : Int32))) → (Arv Z hL ds_ kd .byte (32 : Int32) (StrChars.Road.wideBytes (as_ ++ cs.take kk)) (.int (0 : Int32))) → (kk + mm = cs.length) → Go p e below (Fi false RM_rs_uin s Z [] n0 h0 [ds_] (Q_rs_uin Z sr ks ds_ kd NS as_ cs zc vf h0)) (TL.setTop (mkF m 10 #[.val (.ref sr), .val (.int (Int32.ofNat kk)), .val (.ref ds_), .val (.int (Int32.ofNat (as_.length + kk))), .val (.int (Int32.ofNat cs.length)), .val (.int (Int32.ofNat kk))] [])) := by
    intro mm
    induction mm with
    | zero =>
      intro kk TL hL XL KL lf0 lf1 hk
      show Go _ _ _ _ (TL.setTop (mkF m 10 #[.val (.ref sr), .val (.int (Int32.ofNat kk)), .val (.ref ds_), .val (.int (Int32.ofNat (as_.length + kk))), .val (.int (Int32.ofNat cs.length)), .val (.int (Int32.ofNat kk))] []))
      refine XL.iload j52_86_10 rfl ?_
      refine XL.iload j52_86_12 rfl ?_
      refine XL.icmpYes (pc0 := 14) (pc' := 41) rfl j52_86_14 rfl (XT.ii_ge_t (fun q => by have := (on_lt (by omega) (by omega)).mp q; omega)) (by decide) (by decide) ?_
      have f2 : Arv Z hL ds_ kd .byte (32 : Int32) (StrChars.Road.wideBytes (as_ ++ cs)) (.int (0 : Int32)) := (by have q := lf1; rw [show cs.take kk = cs from List.take_of_length_le (by omega)] at q; exact q)
      exact XL.retV j52_86_41 KL ⟨rfl, f2⟩ (by decide) (by decide)
    | succ mm ih =>
      intro kk TL hL XL KL lf0 lf1 hk
      show Go _ _ _ _ (TL.setTop (mkF m 10 #[.val (.ref sr), .val (.int (Int32.ofNat kk)), .val (.ref ds_), .val (.int (Int32.ofNat (as_.length + kk))), .val (.int (Int32.ofNat cs.length)), .val (.int (Int32.ofNat kk))] []))
      have hkl : kk < cs.length := by omega
      refine XL.iload j52_86_10 rfl ?_
      refine XL.iload j52_86_12 rfl ?_
      refine XL.icmpNo j52_86_14 rfl (XT.ii_ge_f ((on_lt (by omega) (by omega)).mpr hkl)) ?_
      refine XL.aloadN j52_86_17 rfl rfl ?_
      refine XL.iloadN j52_86_18 rfl ?_
      refine XL.iinc j52_86_19 rfl (l' := #[.val (.ref sr), .val (.int (Int32.ofNat kk)), .val (.ref ds_), .val (.int ((Int32.ofNat (as_.length + kk)) + (1 : Int32))), .val (.int (Int32.ofNat cs.length)), .val (.int (Int32.ofNat kk))]) rfl ?_
      refine XL.aloadN j52_86_22 rfl rfl ?_
      refine XL.iloadN j52_86_23 rfl ?_
      refine XL.iinc j52_86_24 rfl (l' := #[.val (.ref sr), .val (.int ((Int32.ofNat kk) + (1 : Int32))), .val (.ref ds_), .val (.int ((Int32.ofNat (as_.length + kk)) + (1 : Int32))), .val (.int (Int32.ofNat cs.length)), .val (.int (Int32.ofNat kk))]) rfl ?_
      refine Go.by (fun _ k => XL.ldA lf0 ⟨on_nn (by omega), hNS kk hkl⟩ (v := (.int (StrChars.lo8 (cs.getD kk 0)))) (by rw [on_clamp (by omega)]; exact own_glo hkl) (Or.inr (Or.inr (Or.inl ⟨rfl, rfl⟩))) (g := (mkF m 27 #[.val (.ref sr), .val (.int ((Int32.ofNat kk) + (1 : Int32))), .val (.ref ds_), .val (.int ((Int32.ofNat (as_.length + kk)) + (1 : Int32))), .val (.int (Int32.ofNat cs.length)), .val (.int (Int32.ofNat kk))] [(.int (Int32.ofNat kk)), (.ref sr), (.int (Int32.ofNat (as_.length + kk))), (.ref ds_)])) rfl rfl j52_86_27 _ k) ?_
      show Go _ _ _ _ (TL.setTop (mkF m 28 #[.val (.ref sr), .val (.int ((Int32.ofNat kk) + (1 : Int32))), .val (.ref ds_), .val (.int ((Int32.ofNat (as_.length + kk)) + (1 : Int32))), .val (.int (Int32.ofNat cs.length)), .val (.int (Int32.ofNat kk))] [(.int (StrChars.lo8 (cs.getD kk 0))), (.int (Int32.ofNat (as_.length + kk))), (.ref ds_)]))
      refine XL.sipush j52_86_28 ?_
      refine XL.iand j52_86_31 rfl ?_
      show Go _ _ _ _ (TL.setTop (mkF m 32 #[.val (.ref sr), .val (.int ((Int32.ofNat kk) + (1 : Int32))), .val (.ref ds_), .val (.int ((Int32.ofNat (as_.length + kk)) + (1 : Int32))), .val (.int (Int32.ofNat cs.length)), .val (.int (Int32.ofNat kk))] [(.int ((StrChars.lo8 (cs.getD kk 0)) &&& (255 : Int32))), (.int (Int32.ofNat (as_.length + kk))), (.ref ds_)]))
      rw [own_back hcs hkl]
      show Go _ _ _ _ (TL.setTop (mkF m 32 #[.val (.ref sr), .val (.int ((Int32.ofNat kk) + (1 : Int32))), .val (.ref ds_), .val (.int ((Int32.ofNat (as_.length + kk)) + (1 : Int32))), .val (.int (Int32.ofNat cs.length)), .val (.int (Int32.ofNat kk))] [(.int (cs.getD kk 0)), (.int (Int32.ofNat (as_.length + kk))), (.ref ds_)]))
      obtain ⟨_, T3, h3, XX3, K3, ⟨rfl, P3_0⟩, st3⟩ := XL.stX (W := 0) (hw _ (gm 226 rfl)) (hw _ (gm 227 rfl)) (hw _ (gm 199 rfl)) (hw _ (gm 228 rfl)) (by decide) ((ru_putc l Z a0 hw n0 ds_ kd (as_.length + kk) (cs.getD kk 0) 32 (StrChars.Road.wideBytes (as_ ++ cs.take kk)) hL XL.old lf1 Sa Su Sv (by rw [own_wbl, List.length_append, List.length_take]; omega) (by omega) (by omega) (XL.ge (.head _)) (XL.lt (.head _))).pay (hw _ (gm 228 rfl)) (hw _ (gm 199 rfl)) (by decide) (by decide)) (allS (.head _) all0) (g := (mkF m 32 #[.val (.ref sr), .val (.int ((Int32.ofNat kk) + (1 : Int32))), .val (.ref ds_), .val (.int ((Int32.ofNat (as_.length + kk)) + (1 : Int32))), .val (.int (Int32.ofNat cs.length)), .val (.int (Int32.ofNat kk))] [(.int (cs.getD kk 0)), (.int (Int32.ofNat (as_.length + kk))), (.ref ds_)])) rfl rfl (argsL := [(.ref ds_), (.int (Int32.ofNat (as_.length + kk))), (.int (cs.getD kk 0))]) (rest := []) (lenOf pd_2 rfl) rfl (by exact Nat.le_of_eq rfl) j52_86_32 rfl (by decide) (by decide)
      refine Go.tr st3 ?_
      have X3 := XX3 [] all0
      have K0_h3 : Keep h0 h3 [ds_] := KL.trans K3 (allS (Or.inl (.head _)) all0)
      have f4 : Arv Z h3 ds_ kd .byte (32 : Int32) (StrChars.Road.wideBytes (as_ ++ cs.take (kk + 1))) (.int (0 : Int32)) := (by rw [own_tkc hkl, ← List.append_assoc, own_wba]; exact P3_0)
      refine X3.iinc j52_86_35 rfl (l' := #[.val (.ref sr), .val (.int ((Int32.ofNat kk) + (1 : Int32))), .val (.ref ds_), .val (.int ((Int32.ofNat (as_.length + kk)) + (1 : Int32))), .val (.int (Int32.ofNat cs.length)), .val (.int ((Int32.ofNat kk) + (1 : Int32)))]) rfl ?_
      refine X3.goto (pc0 := 38) (pc' := 10) rfl j52_86_38 (by decide) (by decide) ?_
      show Go _ _ _ _ (T3.setTop (mkF m 10 #[.val (.ref sr), .val (.int ((Int32.ofNat kk) + (1 : Int32))), .val (.ref ds_), .val (.int ((Int32.ofNat (as_.length + kk)) + (1 : Int32))), .val (.int (Int32.ofNat cs.length)), .val (.int ((Int32.ofNat kk) + (1 : Int32)))] []))
      rw [on_succ, on_succ]
      have f5 := (lf0).keep K3 (ninS hsd nin0)
      exact ih (kk + 1) _ _ X3 K0_h3 f5 f4 (by omega)
  have f6 : Arv Z h0 ds_ kd .byte (32 : Int32) (StrChars.Road.wideBytes (as_ ++ cs.take 0)) (.int (0 : Int32)) := (by rw [List.take_zero, List.append_nil]; exact pr1)
  exact loop cs.length 0 _ _ X1 (Keep.refl h0 [ds_]) pr0 f6 (by omega)
theorem ef_RIRII5 (m : MethodId) (x0 : Addr) (x1 : Int32) (x2 : Addr) (x3 : Int32) (x4 : Int32) : entryFrame m #[(.ref x0), (.int x1), (.ref x2), (.int x3), (.int x4)] 5 = mkF m 0 #[.val (.ref x0), .val (.int x1), .val (.ref x2), .val (.int x3), .val (.int x4)] [] := by first | (simp [entryFrame, mkF, argsToLocals, Value.category]; done) | rfl
def Q_rs_lin (Z : State) (sr : Addr) (ks : ClassId) (ds_ : Addr) (kd : ClassId) (NS : Int32) (as_ : List Int32) (cs : List Int32) (zc : Int32) (vf : Value) (h0 : Heap) (ov : Option Value) (hz : Heap) : Prop := ov = none ∧ Arv Z hz ds_ kd .byte (32 : Int32) (StrChars.Road.wideBytes (as_ ++ cs)) (.int (0 : Int32))
theorem pn_5 : plainName "java/lang/StringLatin1" = true := by first | (simp [plainName, overriddenIn]; done) | decide +kernel
theorem j43_50_0 : decode jdk_43_method_50_code 0 = .ok (.aload_n 0, 1) := by decide +kernel
theorem j43_50_1 : decode jdk_43_method_50_code 1 = .ok (.iload_n 1, 1) := by decide +kernel
theorem j43_50_2 : decode jdk_43_method_50_code 2 = .ok (.aload_n 2, 1) := by decide +kernel
theorem j43_50_3 : decode jdk_43_method_50_code 3 = .ok (.iload_n 3, 1) := by decide +kernel
theorem j43_50_4 : decode jdk_43_method_50_code 4 = .ok (.iload 4, 2) := by decide +kernel
theorem pd_14 : parseMethodDescriptor "([BI[BII)V" = some ⟨[(.array .byte), .int, (.array .byte), .int, .int], none⟩ := by decide +kernel
theorem j43_50_6 : decode jdk_43_method_50_code 6 = .ok (.invokestatic 240, 3) := by decide +kernel
theorem j43_50_9 : decode jdk_43_method_50_code 9 = .ok (.return_, 1) := by decide +kernel
abbrev RM_rs_lin : Room := { frames := 4, cells := 0, slots := 0, locals := 60 }
theorem rs_lin (l : Launch) (Z : State) (a0 : Array Value) (hw : ∀ d ∈ tables_1, d.before a0 Z = true) (n0 : Nat) (sr : Addr) (ks : ClassId) (ds_ : Addr) (kd : ClassId) (NS : Int32) (as_ : List Int32) (cs : List Int32) (zc : Int32) (vf : Value) (h0 : Heap) (hO : Old Z n0 h0) (pr0 : Arv Z h0 sr ks .byte NS (cs.map fun c => Value.int (StrChars.lo8 c)) (.int (0 : Int32))) (pr1 : Arv Z h0 ds_ kd .byte (32 : Int32) (StrChars.Road.wideBytes as_) (.int (0 : Int32))) (Sc : SC Z zc) (nc : ¬ (zc = (0 : Int32))) (Sa : SA1 Z) (Su : SU1 Z) (Sv : SV1 Z) (Sf : SF1 Z vf) (rf : vf.isRef = true) (hcs : ∀ c ∈ cs, ¬ c < 0 ∧ ¬ (255 : Int32) < c) (hlen : as_.length + cs.length ≤ 16) (hNS : ∀ k, k < cs.length → Int32.ofNat k < NS) (hsd : sr ≠ ds_) (g_ds_ : n0 ≤ ds_) (l_ds_ : ds_ < h0.size) :
    Ct l (⟨"java/lang/StringLatin1", "inflate", "([BI[BII)V"⟩ : MethodName) jdk_43_method_50_code 5 none [] RM_rs_lin Z n0 #[(.ref sr), (.int (0 : Int32)), (.ref ds_), (.int (Int32.ofNat as_.length)), (.int (Int32.ofNat cs.length))] h0 [ds_] (Q_rs_lin Z sr ks ds_ kd NS as_ cs zc vf h0) := by
  refine Ct.of_walk (plainFor_of_name pn_5) hO (allS ⟨g_ds_, l_ds_⟩ all0) ?_
  intro p e s m below meth c T0 X0
  rw [ef_RIRII5 m sr (0 : Int32) ds_ (Int32.ofNat as_.length) (Int32.ofNat cs.length)]
  show Go _ _ _ _ (T0.setTop (mkF m 0 #[.val (.ref sr), .val (.int (0 : Int32)), .val (.ref ds_), .val (.int (Int32.ofNat as_.length)), .val (.int (Int32.ofNat cs.length))] []))
  refine X0.aloadN j43_50_0 rfl rfl ?_
  refine X0.iloadN j43_50_1 rfl ?_
  refine X0.aloadN j43_50_2 rfl rfl ?_
  refine X0.iloadN j43_50_3 rfl ?_
  refine X0.iload j43_50_4 rfl ?_
  obtain ⟨_, T1, h1, XX1, K1, ⟨rfl, P1_0⟩, st1⟩ := X0.stX (W := 0) (hw _ (gm 244 rfl)) (hw _ (gm 245 rfl)) (hw _ (gm 199 rfl)) (hw _ (gm 246 rfl)) (by decide) ((rs_uin l Z a0 hw n0 sr ks ds_ kd NS as_ cs zc vf h0 X0.old pr0 pr1 Sc nc Sa Su Sv Sf rf hcs hlen hNS hsd (X0.ge (.head _)) (X0.lt (.head _))).pay (hw _ (gm 246 rfl)) (hw _ (gm 199 rfl)) (by decide) (by decide)) (allS (.head _) all0) (g := (mkF m 6 #[.val (.ref sr), .val (.int (0 : Int32)), .val (.ref ds_), .val (.int (Int32.ofNat as_.length)), .val (.int (Int32.ofNat cs.length))] [(.int (Int32.ofNat cs.length)), (.int (Int32.ofNat as_.length)), (.ref ds_), (.int (0 : Int32)), (.ref sr)])) rfl rfl (argsL := [(.ref sr), (.int (0 : Int32)), (.ref ds_), (.int (Int32.ofNat as_.length)), (.int (Int32.ofNat cs.length))]) (rest := []) (lenOf pd_14 rfl) rfl (by exact Nat.le_of_eq rfl) j43_50_6 rfl (by decide) (by decide)
  refine Go.tr st1 ?_
  have X1 := XX1 [] all0
  have K0_h1 := (Keep.refl h0 [ds_]).trans K1 (allS (Or.inl (.head _)) all0)
  exact X1.retV j43_50_9 K0_h1 ⟨rfl, P1_0⟩ (by decide) (by decide)
theorem ef_R2 (m : MethodId) (x0 : Addr) : entryFrame m #[(.ref x0)] 2 = mkF m 0 #[.val (.ref x0), .unset] [] := by first | (simp [entryFrame, mkF, argsToLocals, Value.category]; done) | rfl
def Q_rs_inf0 (Z : State) (a1 : Addr) (vb : Addr) (kb : ClassId) (cs : List Int32) (zc : Int32) (vf : Value) (h0 : Heap) (ov : Option Value) (hz : Heap) : Prop := ∃ (vb2 : Addr), ∃ (kb2 : ClassId), ov = none ∧ h0.size ≤ vb2 ∧ vb2 < hz.size ∧ Fld Z hz a1 "java/lang/AbstractStringBuilder" "value" "[B" (.ref vb2) ∧ Fld Z hz a1 "java/lang/AbstractStringBuilder" "coder" "B" (.int (1 : Int32)) ∧ Fld Z hz a1 "java/lang/AbstractStringBuilder" "count" "I" (.int (Int32.ofNat cs.length)) ∧ Fld Z hz a1 "java/lang/AbstractStringBuilder" "maybeLatin1" "Z" (.int (0 : Int32)) ∧ Arv Z hz vb2 kb2 .byte (32 : Int32) (StrChars.Road.wideBytes cs) (.int (0 : Int32))
theorem j68_11_0 : decode jdk_68_method_11_code 0 = .ok (.aload_n 0, 1) := by decide +kernel
theorem pd_15 : parseMethodDescriptor "()Z" = some ⟨[], some .boolean⟩ := by decide +kernel
theorem j68_11_1 : decode jdk_68_method_11_code 1 = .ok (.invokevirtual 83, 3) := by decide +kernel
theorem j68_11_4 : decode jdk_68_method_11_code 4 = .ok (.ifCond .ne 4, 3) := by decide +kernel
theorem j68_11_8 : decode jdk_68_method_11_code 8 = .ok (.aload_n 0, 1) := by decide +kernel
theorem j68_11_9 : decode jdk_68_method_11_code 9 = .ok (.getfield 15, 3) := by decide +kernel
theorem j68_11_12 : decode jdk_68_method_11_code 12 = .ok (.arraylength, 1) := by decide +kernel
theorem j68_11_13 : decode jdk_68_method_11_code 13 = .ok (.invokestatic 26, 3) := by decide +kernel
theorem j68_11_16 : decode jdk_68_method_11_code 16 = .ok (.astore_n 1, 1) := by decide +kernel
theorem j68_11_17 : decode jdk_68_method_11_code 17 = .ok (.aload_n 0, 1) := by decide +kernel
theorem j68_11_18 : decode jdk_68_method_11_code 18 = .ok (.getfield 15, 3) := by decide +kernel
theorem j68_11_21 : decode jdk_68_method_11_code 21 = .ok (.iconst 0, 1) := by decide +kernel
theorem j68_11_22 : decode jdk_68_method_11_code 22 = .ok (.aload_n 1, 1) := by decide +kernel
theorem j68_11_23 : decode jdk_68_method_11_code 23 = .ok (.iconst 0, 1) := by decide +kernel
theorem j68_11_24 : decode jdk_68_method_11_code 24 = .ok (.aload_n 0, 1) := by decide +kernel
theorem j68_11_25 : decode jdk_68_method_11_code 25 = .ok (.getfield 79, 3) := by decide +kernel
theorem j68_11_28 : decode jdk_68_method_11_code 28 = .ok (.invokestatic 125, 3) := by decide +kernel
theorem j68_11_31 : decode jdk_68_method_11_code 31 = .ok (.aload_n 0, 1) := by decide +kernel
theorem j68_11_32 : decode jdk_68_method_11_code 32 = .ok (.aload_n 1, 1) := by decide +kernel
theorem j68_11_33 : decode jdk_68_method_11_code 33 = .ok (.putfield 15, 3) := by decide +kernel
theorem j68_11_36 : decode jdk_68_method_11_code 36 = .ok (.aload_n 0, 1) := by decide +kernel
theorem j68_11_37 : decode jdk_68_method_11_code 37 = .ok (.iconst 1, 1) := by decide +kernel
theorem j68_11_38 : decode jdk_68_method_11_code 38 = .ok (.putfield 22, 3) := by decide +kernel
theorem j68_11_41 : decode jdk_68_method_11_code 41 = .ok (.return_, 1) := by decide +kernel
abbrev RM_rs_inf0 : Room := { frames := 5, cells := 1, slots := 32, locals := 76 }
theorem rs_inf0 (l : Launch) (Z : State) (a0 : Array Value) (hw : ∀ d ∈ tables_1, d.before a0 Z = true) (n0 : Nat) (a1 : Addr) (vb : Addr) (kb : ClassId) (cs : List Int32) (zc : Int32) (vf : Value) (h0 : Heap) (hO : Old Z n0 h0) (pr0 : Exa Z h0 a1 "java/lang/StringBuilder") (pr1 : Fld Z h0 a1 "java/lang/AbstractStringBuilder" "value" "[B" (.ref vb)) (pr2 : Fld Z h0 a1 "java/lang/AbstractStringBuilder" "coder" "B" (.int (0 : Int32))) (pr3 : Fld Z h0 a1 "java/lang/AbstractStringBuilder" "count" "I" (.int (Int32.ofNat cs.length))) (pr4 : Fld Z h0 a1 "java/lang/AbstractStringBuilder" "maybeLatin1" "Z" (.int (0 : Int32))) (pr5 : Arv Z h0 vb kb .byte (16 : Int32) (cs.map fun c => Value.int (StrChars.lo8 c)) (.int (0 : Int32))) (Sc : SC Z zc) (nc : ¬ (zc = (0 : Int32))) (Sa : SA1 Z) (Su : SU1 Z) (Sv : SV1 Z) (Sf : SF1 Z vf) (rf : vf.isRef = true) (hcs : ∀ c ∈ cs, ¬ c < 0 ∧ ¬ (255 : Int32) < c) (hl : cs.length ≤ 10) (hav : vb ≠ a1) (g_a1 : n0 ≤ a1) (l_a1 : a1 < h0.size) :
    Ct l (⟨"java/lang/AbstractStringBuilder", "inflate", "()V"⟩ : MethodName) jdk_68_method_11_code 2 none [] RM_rs_inf0 Z n0 #[(.ref a1)] h0 [a1] (Q_rs_inf0 Z a1 vb kb cs zc vf h0) := by
  refine Ct.of_walk (plainFor_of_name pn_2) hO (allS ⟨g_a1, l_a1⟩ all0) ?_
  intro p e s m below meth c T0 X0
  rw [ef_R2 m a1]
  show Go _ _ _ _ (T0.setTop (mkF m 0 #[.val (.ref a1), .unset] []))
  refine X0.aloadN j68_11_0 rfl rfl ?_
  obtain ⟨_, T1, h1, XX1, K1, ⟨rfl, rfl⟩, st1⟩ := X0.viX (W := 0) (hw _ (gm 148 rfl)) (hw _ (gm 149 rfl)) (hw _ (gm 151 rfl)) (hw _ (gm 150 rfl)) (by decide) ((rs_isl0 l Z a0 hw n0 a1 zc h0 X0.old pr2 Sc nc).pay (hw _ (gm 152 rfl)) (hw _ (gm 19 rfl)) (by decide) (by decide)) all0 pr0 (g := (mkF m 1 #[.val (.ref a1), .unset] [(.ref a1)])) rfl rfl (argsL := []) (rest := []) (lenOf pd_15 rfl) rfl (by exact Nat.le_of_eq rfl) j68_11_1 rfl (by decide) (by decide)
  refine Go.tr st1 ?_
  have X1 := XX1 [] all0
  refine X1.ifYes (pc0 := 4) (pc' := 8) rfl j68_11_4 rfl (XT.i0_ne_t (by decide)) (by decide) (by decide) ?_
  refine X1.aloadN j68_11_8 rfl rfl ?_
  obtain ⟨T2, X2, st2⟩ := X1.getF (host := "") (Or.inl (hw _ (gm 25 rfl))) Via.refl pr1 (g := (mkF m 9 #[.val (.ref a1), .unset] [(.ref a1)])) rfl rfl j68_11_9
  refine Go.by st2 ?_
  refine Go.by (fun _ k => X2.len pr5 (g := (mkF m 12 #[.val (.ref a1), .unset] [(.ref vb)])) rfl rfl j68_11_12 _ k) ?_
  show Go _ _ _ _ (T2.setTop (mkF m 13 #[.val (.ref a1), .unset] [(.int (16 : Int32))]))
  have lt_a1_3 := (X2.lt (.head _))
  have lt_vb_3 := pr5.lt
  obtain ⟨_, T3, h3, XX3, K3, ⟨t_3, kb_3, rfl, fr_t_3, fl_t_3, P3_0⟩, st3⟩ := X2.stX (W := 0) (hw _ (gm 240 rfl)) (hw _ (gm 220 rfl)) (hw _ (gm 199 rfl)) (hw _ (gm 221 rfl)) (by decide) ((ru_nbf32 l Z a0 hw n0 16 h0 X2.old (by decide)).pay (hw _ (gm 221 rfl)) (hw _ (gm 199 rfl)) (by decide) (by decide)) all0 (g := (mkF m 13 #[.val (.ref a1), .unset] [(.int (16 : Int32))])) rfl rfl (argsL := [(.int (16 : Int32))]) (rest := []) (lenOf pd_1 rfl) rfl (by exact Nat.le_of_eq rfl) j68_11_13 rfl (by decide) (by decide)
  refine Go.tr st3 ?_
  have X3 := XX3 [t_3] (allS (Or.inr ⟨fr_t_3, fl_t_3⟩) all0)
  have K0_h3 := (Keep.refl h0 [a1]).trans K3 all0
  have ne_a1_t_3 := ne_ge lt_a1_3 fr_t_3
  have ne_vb_t_3 := ne_ge lt_vb_3 fr_t_3
  have sz_t_3 := Nat.le_trans X2.sz fr_t_3
  have f4 : Arv Z h3 t_3 kb_3 .byte (32 : Int32) (StrChars.Road.wideBytes []) (.int (0 : Int32)) := P3_0
  refine X3.astoreN j68_11_16 rfl rfl (l' := #[.val (.ref a1), .val (.ref t_3)]) rfl ?_
  refine X3.aloadN j68_11_17 rfl rfl ?_
  have f5 := (pr1).keep K3 nin0
  obtain ⟨T6, X6, st6⟩ := X3.getF (host := "") (Or.inl (hw _ (gm 25 rfl))) Via.refl f5 (g := (mkF m 18 #[.val (.ref a1), .val (.ref t_3)] [(.ref a1)])) rfl rfl j68_11_18
  refine Go.by st6 ?_
  refine X6.iconst j68_11_21 ?_
  refine X6.aloadN j68_11_22 rfl rfl ?_
  refine X6.iconst j68_11_23 ?_
  refine X6.aloadN j68_11_24 rfl rfl ?_
  have f7 := (pr3).keep K3 nin0
  obtain ⟨T8, X8, st8⟩ := X6.getF (host := "") (Or.inl (hw _ (gm 93 rfl))) Via.refl f7 (g := (mkF m 25 #[.val (.ref a1), .val (.ref t_3)] [(.ref a1), (.int (0 : Int32)), (.ref t_3), (.int (0 : Int32)), (.ref vb)])) rfl rfl j68_11_25
  refine Go.by st8 ?_
  have f9 := (pr5).keep K3 nin0
  obtain ⟨_, T10, h10, XX10, K10, ⟨rfl, P10_0⟩, st10⟩ := X8.stX (W := 0) (hw _ (gm 241 rfl)) (hw _ (gm 242 rfl)) (hw _ (gm 155 rfl)) (hw _ (gm 243 rfl)) (by decide) ((rs_lin l Z a0 hw n0 vb kb t_3 kb_3 (16 : Int32) ([] : List Int32) cs zc vf h3 X8.old f9 f4 Sc nc Sa Su Sv Sf rf hcs (by simp; omega) (fun k hk => (on_lt (b := 16) (by omega) (by omega)).mpr (by omega)) ne_vb_t_3 (X8.ge (.head _)) (X8.lt (.head _))).pay (hw _ (gm 243 rfl)) (hw _ (gm 155 rfl)) (by decide) (by decide)) (allS (.head _) all0) (g := (mkF m 28 #[.val (.ref a1), .val (.ref t_3)] [(.int (Int32.ofNat cs.length)), (.int (0 : Int32)), (.ref t_3), (.int (0 : Int32)), (.ref vb)])) rfl rfl (argsL := [(.ref vb), (.int (0 : Int32)), (.ref t_3), (.int (0 : Int32)), (.int (Int32.ofNat cs.length))]) (rest := []) (lenOf pd_14 rfl) rfl (by exact Nat.le_of_eq rfl) j68_11_28 rfl (by decide) (by decide)
  refine Go.tr st10 ?_
  have X10 := XX10 [] all0
  have K0_h10 := K0_h3.trans K10 (allS (Or.inr sz_t_3) all0)
  refine X10.aloadN j68_11_31 rfl rfl ?_
  refine X10.aloadN j68_11_32 rfl rfl ?_
  show Go _ _ _ _ (T10.setTop (mkF m 33 #[.val (.ref a1), .val (.ref t_3)] [(.ref t_3), (.ref a1)]))
  have f12 := (f5).keep K10 (ninS ne_a1_t_3 nin0)
  have f13 := ((pr0).keep K3).keep K10
  obtain ⟨T11, h11, X11, W11, st11⟩ := X10.putF (host := "") (Or.inl (hw _ (gm 25 rfl))) Via.refl f12 f13 (Or.inl (hw _ (gm 26 rfl))) (hw _ (gm 10 rfl)) (.tail _ (.head _)) (ty := (.array .byte)) (by decide) rfl rfl (g := (mkF m 33 #[.val (.ref a1), .val (.ref t_3)] [(.ref t_3), (.ref a1)])) rfl rfl j68_11_33
  refine Go.by st11 ?_
  have K0_h11 := K0_h10.wr W11 (Or.inl (.head _))
  have F11 : Fld Z h11 a1 "java/lang/AbstractStringBuilder" "value" "[B" (.ref t_3) := f12.same W11
  refine X11.aloadN j68_11_36 rfl rfl ?_
  refine X11.iconst j68_11_37 ?_
  have f15 := (((pr2).keep K3 nin0).keep K10 (ninS ne_a1_t_3 nin0)).other W11 (Or.inr (slot_ne (Or.inl (hw _ (gm 28 rfl))) (Or.inl (hw _ (gm 26 rfl))) (by decide) (t := .byte) (t' := (.array .byte)) (by decide) (by decide)))
  have f16 := (f13).wr W11
  obtain ⟨T14, h14, X14, W14, st14⟩ := X11.putFN (hw _ (gm 27 rfl)) Via.refl f15 f16 (Or.inl (hw _ (gm 28 rfl))) (hw _ (gm 10 rfl)) (.tail _ (.head _)) (ty := .byte) (v' := .int (1 : Int32)) (by decide) rfl rfl (g := (mkF m 38 #[.val (.ref a1), .val (.ref t_3)] [(.int (1 : Int32)), (.ref a1)])) rfl rfl j68_11_38
  refine Go.by st14 ?_
  have K0_h14 := K0_h11.wr W14 (Or.inl (.head _))
  have F14 : Fld Z h14 a1 "java/lang/AbstractStringBuilder" "coder" "B" (.int (1 : Int32)) := f15.same W14
  have f17 := ((P10_0).other W11 ne_a1_t_3.symm).other W14 ne_a1_t_3.symm
  have f18 : Arv Z h14 t_3 kb_3 .byte (32 : Int32) (StrChars.Road.wideBytes cs) (.int (0 : Int32)) := f17
  have f19 := (F11).other W14 (Or.inr (slot_ne (Or.inl (hw _ (gm 26 rfl))) (Or.inl (hw _ (gm 28 rfl))) (by decide) (t := (.array .byte)) (t' := .byte) (by decide) (by decide)))
  have f20 := (((f7).keep K10 (ninS ne_a1_t_3 nin0)).other W11 (Or.inr (slot_ne (Or.inl (hw _ (gm 94 rfl))) (Or.inl (hw _ (gm 26 rfl))) (by decide) (t := .int) (t' := (.array .byte)) (by decide) (by decide)))).other W14 (Or.inr (slot_ne (Or.inl (hw _ (gm 94 rfl))) (Or.inl (hw _ (gm 28 rfl))) (by decide) (t := .int) (t' := .byte) (by decide) (by decide)))
  have f21 := ((((pr4).keep K3 nin0).keep K10 (ninS ne_a1_t_3 nin0)).other W11 (Or.inr (slot_ne (Or.inl (hw _ (gm 274 rfl))) (Or.inl (hw _ (gm 26 rfl))) (by decide) (t := .boolean) (t' := (.array .byte)) (by decide) (by decide)))).other W14 (Or.inr (slot_ne (Or.inl (hw _ (gm 274 rfl))) (Or.inl (hw _ (gm 28 rfl))) (by decide) (t := .boolean) (t' := .byte) (by decide) (by decide)))
  exact X14.retV j68_11_41 K0_h14 ⟨t_3, kb_3, rfl, sz_t_3, (X14.lt (.head _)), f19, F14, f20, f21, f18⟩ (by decide) (by decide)
theorem own_rng0 (d : Value) (vs : List Value) {n : Nat} (h : vs.length = n) : vs = (List.range n).map fun i => vs.getD ((0 : Int32).toNatClampNeg + i) d := by
  have e : (0 : Int32).toNatClampNeg = 0 := rfl
  simp only [e, Nat.zero_add]
  exact own_rng d vs h
theorem own_snl (cs : List Int32) (c : Int32) : cs.length + 1 = (cs ++ [c]).length := by simp
theorem ef_RRII4 (m : MethodId) (x0 : Addr) (x1 : Addr) (x2 : Int32) (x3 : Int32) : entryFrame m #[(.ref x0), (.ref x1), (.int x2), (.int x3)] 4 = mkF m 0 #[.val (.ref x0), .val (.ref x1), .val (.int x2), .val (.int x3)] [] := by first | (simp [entryFrame, mkF, argsToLocals, Value.category]; done) | rfl
def Q_rs_gtb0 (Z : State) (x : Addr) (t : Addr) (ds : List Int32) (kt : ClassId) (vb : Addr) (kb : ClassId) (cs : List Int32) (zc : Int32) (vf : Value) (h0 : Heap) (ov : Option Value) (hz : Heap) : Prop := ov = none ∧ Arv Z hz vb kb .byte (16 : Int32) ((cs ++ ds).map fun c => Value.int (StrChars.lo8 c)) (.int (0 : Int32))
theorem j42_147_0 : decode jdk_42_method_147_code 0 = .ok (.aload_n 0, 1) := by decide +kernel
theorem pd_16 : parseMethodDescriptor "()B" = some ⟨[], some .byte⟩ := by decide +kernel
theorem j42_147_1 : decode jdk_42_method_147_code 1 = .ok (.invokevirtual 335, 3) := by decide +kernel
theorem j42_147_4 : decode jdk_42_method_147_code 4 = .ok (.iload_n 3, 1) := by decide +kernel
theorem j42_147_5 : decode jdk_42_method_147_code 5 = .ok (.if_icmp .ne 23, 3) := by decide +kernel
theorem j42_147_8 : decode jdk_42_method_147_code 8 = .ok (.aload_n 0, 1) := by decide +kernel
theorem j42_147_9 : decode jdk_42_method_147_code 9 = .ok (.getfield 9, 3) := by decide +kernel
theorem j42_147_12 : decode jdk_42_method_147_code 12 = .ok (.iconst 0, 1) := by decide +kernel
theorem j42_147_13 : decode jdk_42_method_147_code 13 = .ok (.aload_n 1, 1) := by decide +kernel
theorem j42_147_14 : decode jdk_42_method_147_code 14 = .ok (.iload_n 2, 1) := by decide +kernel
theorem j42_147_15 : decode jdk_42_method_147_code 15 = .ok (.iload_n 3, 1) := by decide +kernel
theorem j42_147_16 : decode jdk_42_method_147_code 16 = .ok (.ishl, 1) := by decide +kernel
theorem j42_147_17 : decode jdk_42_method_147_code 17 = .ok (.aload_n 0, 1) := by decide +kernel
theorem j42_147_18 : decode jdk_42_method_147_code 18 = .ok (.getfield 9, 3) := by decide +kernel
theorem j42_147_21 : decode jdk_42_method_147_code 21 = .ok (.arraylength, 1) := by decide +kernel
theorem j42_147_22 : decode jdk_42_method_147_code 22 = .ok (.invokestatic 212, 3) := by decide +kernel
theorem j42_147_25 : decode jdk_42_method_147_code 25 = .ok (.goto 18, 3) := by decide +kernel
theorem j42_147_43 : decode jdk_42_method_147_code 43 = .ok (.return_, 1) := by decide +kernel
abbrev RM_rs_gtb0 : Room := { frames := 1, cells := 0, slots := 0, locals := 18 }
theorem rs_gtb0 (l : Launch) (Z : State) (a0 : Array Value) (hw : ∀ d ∈ tables_1, d.before a0 Z = true) (n0 : Nat) (x : Addr) (t : Addr) (ds : List Int32) (kt : ClassId) (vb : Addr) (kb : ClassId) (cs : List Int32) (zc : Int32) (vf : Value) (h0 : Heap) (hO : Old Z n0 h0) (pr0 : Exa Z h0 x "java/lang/String") (pr1 : Fld Z h0 x "java/lang/String" "value" "[B" (.ref t)) (pr2 : Fld Z h0 x "java/lang/String" "coder" "B" (.int (0 : Int32))) (pr3 : Arv Z h0 t kt .byte (Int32.ofNat ds.length) (ds.map fun c => Value.int (StrChars.lo8 c)) (.int (0 : Int32))) (pr4 : Arv Z h0 vb kb .byte (16 : Int32) (cs.map fun c => Value.int (StrChars.lo8 c)) (.int (0 : Int32))) (Sc : SC Z zc) (nc : ¬ (zc = (0 : Int32))) (Sa : SA1 Z) (Su : SU1 Z) (Sv : SV1 Z) (Sf : SF1 Z vf) (rf : vf.isRef = true) (hl : cs.length + ds.length ≤ 10) (htv : t ≠ vb) (g_vb : n0 ≤ vb) (l_vb : vb < h0.size) :
    Ct l (⟨"java/lang/String", "getBytes", "([BIB)V"⟩ : MethodName) jdk_42_method_147_code 4 none [] RM_rs_gtb0 Z n0 #[(.ref x), (.ref vb), (.int (Int32.ofNat cs.length)), (.int (0 : Int32))] h0 [vb] (Q_rs_gtb0 Z x t ds kt vb kb cs zc vf h0) := by
  refine Ct.of_walk (plainFor_of_name pn_1) hO (allS ⟨g_vb, l_vb⟩ all0) ?_
  intro p e s m below meth c T0 X0
  rw [ef_RRII4 m x vb (Int32.ofNat cs.length) (0 : Int32)]
  show Go _ _ _ _ (T0.setTop (mkF m 0 #[.val (.ref x), .val (.ref vb), .val (.int (Int32.ofNat cs.length)), .val (.int (0 : Int32))] []))
  refine X0.aloadN j42_147_0 rfl rfl ?_
  obtain ⟨_, T1, h1, XX1, K1, ⟨rfl, rfl⟩, st1⟩ := X0.viX (W := 0) (hw _ (gm 87 rfl)) (hw _ (gm 88 rfl)) (hw _ (gm 90 rfl)) (hw _ (gm 89 rfl)) (by decide) ((rs_cdr0 l Z a0 hw n0 x zc h0 X0.old pr2 Sc nc).pay (hw _ (gm 91 rfl)) (hw _ (gm 23 rfl)) (by decide) (by decide)) all0 pr0 (g := (mkF m 1 #[.val (.ref x), .val (.ref vb), .val (.int (Int32.ofNat cs.length)), .val (.int (0 : Int32))] [(.ref x)])) rfl rfl (argsL := []) (rest := []) (lenOf pd_16 rfl) rfl (by exact Nat.le_of_eq rfl) j42_147_1 rfl (by decide) (by decide)
  refine Go.tr st1 ?_
  have X1 := XX1 [] all0
  refine X1.iloadN j42_147_4 rfl ?_
  refine X1.icmpNo j42_147_5 rfl (XT.ii_ne_f (by decide)) ?_
  refine X1.aloadN j42_147_8 rfl rfl ?_
  obtain ⟨T2, X2, st2⟩ := X1.getF (host := "") (Or.inl (hw _ (gm 51 rfl))) Via.refl pr1 (g := (mkF m 9 #[.val (.ref x), .val (.ref vb), .val (.int (Int32.ofNat cs.length)), .val (.int (0 : Int32))] [(.ref x)])) rfl rfl j42_147_9
  refine Go.by st2 ?_
  refine X2.iconst j42_147_12 ?_
  refine X2.aloadN j42_147_13 rfl rfl ?_
  refine X2.iloadN j42_147_14 rfl ?_
  refine X2.iloadN j42_147_15 rfl ?_
  refine X2.ishl j42_147_16 rfl ?_
  show Go _ _ _ _ (T2.setTop (mkF m 17 #[.val (.ref x), .val (.ref vb), .val (.int (Int32.ofNat cs.length)), .val (.int (0 : Int32))] [(.int ((Int32.ofNat cs.length) <<< ((0 : Int32) &&& 31))), (.ref vb), (.int (0 : Int32)), (.ref t)]))
  rw [own_shl0 (show cs.length < 64 by omega)]
  show Go _ _ _ _ (T2.setTop (mkF m 17 #[.val (.ref x), .val (.ref vb), .val (.int (Int32.ofNat cs.length)), .val (.int (0 : Int32))] [(.int (Int32.ofNat cs.length)), (.ref vb), (.int (0 : Int32)), (.ref t)]))
  refine X2.aloadN j42_147_17 rfl rfl ?_
  obtain ⟨T3, X3, st3⟩ := X2.getF (host := "") (Or.inl (hw _ (gm 51 rfl))) Via.refl pr1 (g := (mkF m 18 #[.val (.ref x), .val (.ref vb), .val (.int (Int32.ofNat cs.length)), .val (.int (0 : Int32))] [(.ref x), (.int (Int32.ofNat cs.length)), (.ref vb), (.int (0 : Int32)), (.ref t)])) rfl rfl j42_147_18
  refine Go.by st3 ?_
  refine Go.by (fun _ k => X3.len pr3 (g := (mkF m 21 #[.val (.ref x), .val (.ref vb), .val (.int (Int32.ofNat cs.length)), .val (.int (0 : Int32))] [(.ref t), (.int (Int32.ofNat cs.length)), (.ref vb), (.int (0 : Int32)), (.ref t)])) rfl rfl j42_147_21 _ k) ?_
  show Go _ _ _ _ (T3.setTop (mkF m 22 #[.val (.ref x), .val (.ref vb), .val (.int (Int32.ofNat cs.length)), .val (.int (0 : Int32))] [(.int (Int32.ofNat ds.length)), (.int (Int32.ofNat cs.length)), (.ref vb), (.int (0 : Int32)), (.ref t)]))
  have f4 : Arv Z h0 vb kb .byte (16 : Int32) ((cs.map fun c => Value.int (StrChars.lo8 c)) ++ List.replicate ds.length (.int (0 : Int32))) (.int (0 : Int32)) := (pr4).pad (own_padR _ _ _)
  obtain ⟨T5, h5, X5, K5, A5, st5⟩ := X3.cpA (hw _ (gm 116 rfl)) (hw _ (gm 119 rfl)) (hw _ (gm 117 rfl)) (hw _ (gm 118 rfl)) pr3 f4 rfl (.head _) (by decide) (on_nn (by omega)) (on_nn (by omega)) (Nat.le_of_eq (Nat.zero_add _)) (by rw [on_clamp (a := cs.length) (by omega), on_clamp (a := ds.length) (by omega)]; show _ ≤ 16; omega) (us := (ds.map fun c => Value.int (StrChars.lo8 c))) (by rw [on_clamp (a := ds.length) (by omega)]; exact own_rng0 _ _ (own_lolen _)) (by rw [on_clamp (a := cs.length) (by omega), on_clamp (a := ds.length) (by omega), List.length_append, own_lolen, List.length_replicate]; omega) (vr := ((cs ++ ds).map fun c => Value.int (StrChars.lo8 c))) (by rw [on_clamp (a := cs.length) (by omega), on_clamp (a := ds.length) (by omega), own_loa]; exact own_cp _ _ _ (own_lolen _) (own_lolen _)) (g := (mkF m 22 #[.val (.ref x), .val (.ref vb), .val (.int (Int32.ofNat cs.length)), .val (.int (0 : Int32))] [(.int (Int32.ofNat ds.length)), (.int (Int32.ofNat cs.length)), (.ref vb), (.int (0 : Int32)), (.ref t)])) rfl rfl rfl j42_147_22 (by decide) (W := 0) (by exact Nat.le_of_eq rfl) (by decide)
  refine Go.by st5 ?_
  have K0_h5 := (Keep.refl h0 [vb]).trans K5 (allS (Or.inl (.head _)) all0)
  show Go _ _ _ _ (T5.setTop (mkF m 25 #[.val (.ref x), .val (.ref vb), .val (.int (Int32.ofNat cs.length)), .val (.int (0 : Int32))] []))
  refine X5.goto (pc0 := 25) (pc' := 43) rfl j42_147_25 (by decide) (by decide) ?_
  exact X5.retV j42_147_43 K0_h5 ⟨rfl, A5⟩ (by decide) (by decide)
def Q_rs_gtb1 (Z : State) (x : Addr) (t : Addr) (ds : List Int32) (kt : ClassId) (vb : Addr) (kb : ClassId) (cs : List Int32) (zc : Int32) (vf : Value) (h0 : Heap) (ov : Option Value) (hz : Heap) : Prop := ov = none ∧ Arv Z hz vb kb .byte (32 : Int32) (StrChars.Road.wideBytes (cs ++ ds)) (.int (0 : Int32))
abbrev RM_rs_gtb1 : Room := { frames := 1, cells := 0, slots := 0, locals := 18 }
theorem rs_gtb1 (l : Launch) (Z : State) (a0 : Array Value) (hw : ∀ d ∈ tables_1, d.before a0 Z = true) (n0 : Nat) (x : Addr) (t : Addr) (ds : List Int32) (kt : ClassId) (vb : Addr) (kb : ClassId) (cs : List Int32) (zc : Int32) (vf : Value) (h0 : Heap) (hO : Old Z n0 h0) (pr0 : Exa Z h0 x "java/lang/String") (pr1 : Fld Z h0 x "java/lang/String" "value" "[B" (.ref t)) (pr2 : Fld Z h0 x "java/lang/String" "coder" "B" (.int (1 : Int32))) (pr3 : Arv Z h0 t kt .byte (Int32.ofNat (2 * ds.length)) (StrChars.Road.wideBytes ds) (.int (0 : Int32))) (pr4 : Arv Z h0 vb kb .byte (32 : Int32) (StrChars.Road.wideBytes cs) (.int (0 : Int32))) (Sc : SC Z zc) (nc : ¬ (zc = (0 : Int32))) (Sa : SA1 Z) (Su : SU1 Z) (Sv : SV1 Z) (Sf : SF1 Z vf) (rf : vf.isRef = true) (hl : cs.length + ds.length ≤ 10) (htv : t ≠ vb) (g_vb : n0 ≤ vb) (l_vb : vb < h0.size) :
    Ct l (⟨"java/lang/String", "getBytes", "([BIB)V"⟩ : MethodName) jdk_42_method_147_code 4 none [] RM_rs_gtb1 Z n0 #[(.ref x), (.ref vb), (.int (Int32.ofNat cs.length)), (.int (1 : Int32))] h0 [vb] (Q_rs_gtb1 Z x t ds kt vb kb cs zc vf h0) := by
  refine Ct.of_walk (plainFor_of_name pn_1) hO (allS ⟨g_vb, l_vb⟩ all0) ?_
  intro p e s m below meth c T0 X0
  rw [ef_RRII4 m x vb (Int32.ofNat cs.length) (1 : Int32)]
  show Go _ _ _ _ (T0.setTop (mkF m 0 #[.val (.ref x), .val (.ref vb), .val (.int (Int32.ofNat cs.length)), .val (.int (1 : Int32))] []))
  refine X0.aloadN j42_147_0 rfl rfl ?_
  obtain ⟨_, T1, h1, XX1, K1, ⟨rfl, rfl⟩, st1⟩ := X0.viX (W := 0) (hw _ (gm 87 rfl)) (hw _ (gm 88 rfl)) (hw _ (gm 90 rfl)) (hw _ (gm 89 rfl)) (by decide) ((rs_cdr1 l Z a0 hw n0 x zc h0 X0.old pr2 Sc nc).pay (hw _ (gm 91 rfl)) (hw _ (gm 23 rfl)) (by decide) (by decide)) all0 pr0 (g := (mkF m 1 #[.val (.ref x), .val (.ref vb), .val (.int (Int32.ofNat cs.length)), .val (.int (1 : Int32))] [(.ref x)])) rfl rfl (argsL := []) (rest := []) (lenOf pd_16 rfl) rfl (by exact Nat.le_of_eq rfl) j42_147_1 rfl (by decide) (by decide)
  refine Go.tr st1 ?_
  have X1 := XX1 [] all0
  refine X1.iloadN j42_147_4 rfl ?_
  refine X1.icmpNo j42_147_5 rfl (XT.ii_ne_f (by decide)) ?_
  refine X1.aloadN j42_147_8 rfl rfl ?_
  obtain ⟨T2, X2, st2⟩ := X1.getF (host := "") (Or.inl (hw _ (gm 51 rfl))) Via.refl pr1 (g := (mkF m 9 #[.val (.ref x), .val (.ref vb), .val (.int (Int32.ofNat cs.length)), .val (.int (1 : Int32))] [(.ref x)])) rfl rfl j42_147_9
  refine Go.by st2 ?_
  refine X2.iconst j42_147_12 ?_
  refine X2.aloadN j42_147_13 rfl rfl ?_
  refine X2.iloadN j42_147_14 rfl ?_
  refine X2.iloadN j42_147_15 rfl ?_
  refine X2.ishl j42_147_16 rfl ?_
  show Go _ _ _ _ (T2.setTop (mkF m 17 #[.val (.ref x), .val (.ref vb), .val (.int (Int32.ofNat cs.length)), .val (.int (1 : Int32))] [(.int ((Int32.ofNat cs.length) <<< ((1 : Int32) &&& 31))), (.ref vb), (.int (0 : Int32)), (.ref t)]))
  rw [own_shl (show cs.length < 64 by omega)]
  show Go _ _ _ _ (T2.setTop (mkF m 17 #[.val (.ref x), .val (.ref vb), .val (.int (Int32.ofNat cs.length)), .val (.int (1 : Int32))] [(.int (Int32.ofNat (2 * cs.length))), (.ref vb), (.int (0 : Int32)), (.ref t)]))
  refine X2.aloadN j42_147_17 rfl rfl ?_
  obtain ⟨T3, X3, st3⟩ := X2.getF (host := "") (Or.inl (hw _ (gm 51 rfl))) Via.refl pr1 (g := (mkF m 18 #[.val (.ref x), .val (.ref vb), .val (.int (Int32.ofNat cs.length)), .val (.int (1 : Int32))] [(.ref x), (.int (Int32.ofNat (2 * cs.length))), (.ref vb), (.int (0 : Int32)), (.ref t)])) rfl rfl j42_147_18
  refine Go.by st3 ?_
  refine Go.by (fun _ k => X3.len pr3 (g := (mkF m 21 #[.val (.ref x), .val (.ref vb), .val (.int (Int32.ofNat cs.length)), .val (.int (1 : Int32))] [(.ref t), (.int (Int32.ofNat (2 * cs.length))), (.ref vb), (.int (0 : Int32)), (.ref t)])) rfl rfl j42_147_21 _ k) ?_
  show Go _ _ _ _ (T3.setTop (mkF m 22 #[.val (.ref x), .val (.ref vb), .val (.int (Int32.ofNat cs.length)), .val (.int (1 : Int32))] [(.int (Int32.ofNat (2 * ds.length))), (.int (Int32.ofNat (2 * cs.length))), (.ref vb), (.int (0 : Int32)), (.ref t)]))
  have f4 : Arv Z h0 vb kb .byte (32 : Int32) ((StrChars.Road.wideBytes cs) ++ List.replicate (2 * ds.length) (.int (0 : Int32))) (.int (0 : Int32)) := (pr4).pad (own_padR _ _ _)
  obtain ⟨T5, h5, X5, K5, A5, st5⟩ := X3.cpA (hw _ (gm 116 rfl)) (hw _ (gm 119 rfl)) (hw _ (gm 117 rfl)) (hw _ (gm 118 rfl)) pr3 f4 rfl (.head _) (by decide) (on_nn (by omega)) (on_nn (by omega)) (Nat.le_of_eq (Nat.zero_add _)) (by rw [on_clamp (a := (2 * cs.length)) (by omega), on_clamp (a := (2 * ds.length)) (by omega)]; show _ ≤ 32; omega) (us := (StrChars.Road.wideBytes ds)) (by rw [on_clamp (a := (2 * ds.length)) (by omega)]; exact own_rng0 _ _ (own_wbl _)) (by rw [on_clamp (a := (2 * cs.length)) (by omega), on_clamp (a := (2 * ds.length)) (by omega), List.length_append, own_wbl, List.length_replicate]; omega) (vr := (StrChars.Road.wideBytes (cs ++ ds))) (by rw [on_clamp (a := (2 * cs.length)) (by omega), on_clamp (a := (2 * ds.length)) (by omega), own_wba]; exact own_cp _ _ _ (own_wbl _) (own_wbl _)) (g := (mkF m 22 #[.val (.ref x), .val (.ref vb), .val (.int (Int32.ofNat cs.length)), .val (.int (1 : Int32))] [(.int (Int32.ofNat (2 * ds.length))), (.int (Int32.ofNat (2 * cs.length))), (.ref vb), (.int (0 : Int32)), (.ref t)])) rfl rfl rfl j42_147_22 (by decide) (W := 0) (by exact Nat.le_of_eq rfl) (by decide)
  refine Go.by st5 ?_
  have K0_h5 := (Keep.refl h0 [vb]).trans K5 (allS (Or.inl (.head _)) all0)
  show Go _ _ _ _ (T5.setTop (mkF m 25 #[.val (.ref x), .val (.ref vb), .val (.int (Int32.ofNat cs.length)), .val (.int (1 : Int32))] []))
  refine X5.goto (pc0 := 25) (pc' := 43) rfl j42_147_25 (by decide) (by decide) ?_
  exact X5.retV j42_147_43 K0_h5 ⟨rfl, A5⟩ (by decide) (by decide)
def Q_rs_ifn00 (Z : State) (a1 : Addr) (vb : Addr) (kb : ClassId) (cs : List Int32) (x : Addr) (zc : Int32) (vf : Value) (h0 : Heap) (ov : Option Value) (hz : Heap) : Prop := ov = none ∧ h0 = hz
theorem j68_71_0 : decode jdk_68_method_71_code 0 = .ok (.getstatic 18, 3) := by decide +kernel
theorem j68_71_3 : decode jdk_68_method_71_code 3 = .ok (.ifCond .eq 18, 3) := by decide +kernel
theorem j68_71_6 : decode jdk_68_method_71_code 6 = .ok (.aload_n 0, 1) := by decide +kernel
theorem j68_71_7 : decode jdk_68_method_71_code 7 = .ok (.getfield 22, 3) := by decide +kernel
theorem j68_71_10 : decode jdk_68_method_71_code 10 = .ok (.aload_n 1, 1) := by decide +kernel
theorem j68_71_11 : decode jdk_68_method_71_code 11 = .ok (.invokevirtual 40, 3) := by decide +kernel
theorem j68_71_14 : decode jdk_68_method_71_code 14 = .ok (.if_icmp .eq 7, 3) := by decide +kernel
theorem j68_71_21 : decode jdk_68_method_71_code 21 = .ok (.return_, 1) := by decide +kernel
abbrev RM_rs_ifn00 : Room := { frames := 1, cells := 0, slots := 0, locals := 13 }
theorem rs_ifn00 (l : Launch) (Z : State) (a0 : Array Value) (hw : ∀ d ∈ tables_1, d.before a0 Z = true) (n0 : Nat) (a1 : Addr) (vb : Addr) (kb : ClassId) (cs : List Int32) (x : Addr) (zc : Int32) (vf : Value) (h0 : Heap) (hO : Old Z n0 h0) (pr0 : Exa Z h0 a1 "java/lang/StringBuilder") (pr1 : Fld Z h0 a1 "java/lang/AbstractStringBuilder" "value" "[B" (.ref vb)) (pr2 : Fld Z h0 a1 "java/lang/AbstractStringBuilder" "coder" "B" (.int (0 : Int32))) (pr3 : Fld Z h0 a1 "java/lang/AbstractStringBuilder" "count" "I" (.int (Int32.ofNat cs.length))) (pr4 : Fld Z h0 a1 "java/lang/AbstractStringBuilder" "maybeLatin1" "Z" (.int (0 : Int32))) (pr5 : Arv Z h0 vb kb .byte (16 : Int32) (cs.map fun c => Value.int (StrChars.lo8 c)) (.int (0 : Int32))) (pr6 : Exa Z h0 x "java/lang/String") (pr7 : Fld Z h0 x "java/lang/String" "coder" "B" (.int (0 : Int32))) (Sc : SC Z zc) (nc : ¬ (zc = (0 : Int32))) (Sa : SA1 Z) (Su : SU1 Z) (Sv : SV1 Z) (Sf : SF1 Z vf) (rf : vf.isRef = true) :
    Ct l (⟨"java/lang/AbstractStringBuilder", "inflateIfNeededFor", "(Ljava/lang/String;)V"⟩ : MethodName) jdk_68_method_71_code 2 none [] RM_rs_ifn00 Z n0 #[(.ref a1), (.ref x)] h0 [] (Q_rs_ifn00 Z a1 vb kb cs x zc vf h0) := by
  refine Ct.of_walk (plainFor_of_name pn_2) hO all0 ?_
  intro p e s m below meth c T0 X0
  rw [ef_RR2 m a1 x]
  show Go _ _ _ _ (T0.setTop (mkF m 0 #[.val (.ref a1), .val (.ref x)] []))
  obtain ⟨T1, X1, st1⟩ := X0.getS (hw _ (gm 22 rfl)) Via.refl Sc (g := (mkF m 0 #[.val (.ref a1), .val (.ref x)] [])) rfl j68_71_0
  refine Go.by st1 ?_
  refine X1.ifNo j68_71_3 rfl (XT.i0_eq_f nc) ?_
  refine X1.aloadN j68_71_6 rfl rfl ?_
  obtain ⟨T2, X2, st2⟩ := X1.getF (host := "") (Or.inl (hw _ (gm 27 rfl))) Via.refl pr2 (g := (mkF m 7 #[.val (.ref a1), .val (.ref x)] [(.ref a1)])) rfl rfl j68_71_7
  refine Go.by st2 ?_
  refine X2.aloadN j68_71_10 rfl rfl ?_
  obtain ⟨_, T3, h3, XX3, K3, ⟨rfl, rfl⟩, st3⟩ := X2.viX (W := 1) (hw _ (gm 110 rfl)) (hw _ (gm 88 rfl)) (hw _ (gm 90 rfl)) (hw _ (gm 89 rfl)) (by decide) ((rs_cdr0 l Z a0 hw n0 x zc h0 X2.old pr7 Sc nc).pay (hw _ (gm 91 rfl)) (hw _ (gm 23 rfl)) (by decide) (by decide)) all0 pr6 (g := (mkF m 11 #[.val (.ref a1), .val (.ref x)] [(.ref x), (.int (0 : Int32))])) rfl rfl (argsL := []) (rest := [(.int (0 : Int32))]) (lenOf pd_16 rfl) rfl (by exact Nat.le_of_eq rfl) j68_71_11 rfl (by decide) (by decide)
  refine Go.tr st3 ?_
  have X3 := XX3 [] all0
  refine X3.icmpYes (pc0 := 14) (pc' := 21) rfl j68_71_14 rfl (XT.ii_eq_t (by decide)) (by decide) (by decide) ?_
  exact X3.retV j68_71_21 (Keep.refl h0 []) ⟨rfl, rfl⟩ (by decide) (by decide)
theorem ef_RIR3 (m : MethodId) (x0 : Addr) (x1 : Int32) (x2 : Addr) : entryFrame m #[(.ref x0), (.int x1), (.ref x2)] 3 = mkF m 0 #[.val (.ref x0), .val (.int x1), .val (.ref x2)] [] := by first | (simp [entryFrame, mkF, argsToLocals, Value.category]; done) | rfl
def Q_rs_psa00 (Z : State) (a1 : Addr) (vb : Addr) (kb : ClassId) (cs : List Int32) (x : Addr) (t : Addr) (ds : List Int32) (kt : ClassId) (zc : Int32) (vf : Value) (h0 : Heap) (ov : Option Value) (hz : Heap) : Prop := ov = none ∧ Fld Z hz a1 "java/lang/AbstractStringBuilder" "value" "[B" (.ref vb) ∧ Fld Z hz a1 "java/lang/AbstractStringBuilder" "coder" "B" (.int (0 : Int32)) ∧ Fld Z hz a1 "java/lang/AbstractStringBuilder" "count" "I" (.int (Int32.ofNat cs.length)) ∧ Fld Z hz a1 "java/lang/AbstractStringBuilder" "maybeLatin1" "Z" (.int (0 : Int32)) ∧ Arv Z hz vb kb .byte (16 : Int32) ((cs ++ ds).map fun c => Value.int (StrChars.lo8 c)) (.int (0 : Int32))
theorem j68_73_0 : decode jdk_68_method_73_code 0 = .ok (.aload_n 0, 1) := by decide +kernel
theorem j68_73_1 : decode jdk_68_method_73_code 1 = .ok (.aload_n 2, 1) := by decide +kernel
theorem pd_17 : parseMethodDescriptor "(Ljava/lang/String;)V" = some ⟨[(.object "java/lang/String")], none⟩ := by decide +kernel
theorem j68_73_2 : decode jdk_68_method_73_code 2 = .ok (.invokevirtual 397, 3) := by decide +kernel
theorem j68_73_5 : decode jdk_68_method_73_code 5 = .ok (.aload_n 2, 1) := by decide +kernel
theorem j68_73_6 : decode jdk_68_method_73_code 6 = .ok (.aload_n 0, 1) := by decide +kernel
theorem j68_73_7 : decode jdk_68_method_73_code 7 = .ok (.getfield 15, 3) := by decide +kernel
theorem j68_73_10 : decode jdk_68_method_73_code 10 = .ok (.iload_n 1, 1) := by decide +kernel
theorem j68_73_11 : decode jdk_68_method_73_code 11 = .ok (.aload_n 0, 1) := by decide +kernel
theorem j68_73_12 : decode jdk_68_method_73_code 12 = .ok (.getfield 22, 3) := by decide +kernel
theorem pd_18 : parseMethodDescriptor "([BIB)V" = some ⟨[(.array .byte), .int, .byte], none⟩ := by decide +kernel
theorem j68_73_15 : decode jdk_68_method_73_code 15 = .ok (.invokevirtual 399, 3) := by decide +kernel
theorem j68_73_18 : decode jdk_68_method_73_code 18 = .ok (.return_, 1) := by decide +kernel
abbrev RM_rs_psa00 : Room := { frames := 2, cells := 0, slots := 0, locals := 33 }
theorem rs_psa00 (l : Launch) (Z : State) (a0 : Array Value) (hw : ∀ d ∈ tables_1, d.before a0 Z = true) (n0 : Nat) (a1 : Addr) (vb : Addr) (kb : ClassId) (cs : List Int32) (x : Addr) (t : Addr) (ds : List Int32) (kt : ClassId) (zc : Int32) (vf : Value) (h0 : Heap) (hO : Old Z n0 h0) (pr0 : Exa Z h0 a1 "java/lang/StringBuilder") (pr1 : Fld Z h0 a1 "java/lang/AbstractStringBuilder" "value" "[B" (.ref vb)) (pr2 : Fld Z h0 a1 "java/lang/AbstractStringBuilder" "coder" "B" (.int (0 : Int32))) (pr3 : Fld Z h0 a1 "java/lang/AbstractStringBuilder" "count" "I" (.int (Int32.ofNat cs.length))) (pr4 : Fld Z h0 a1 "java/lang/AbstractStringBuilder" "maybeLatin1" "Z" (.int (0 : Int32))) (pr5 : Arv Z h0 vb kb .byte (16 : Int32) (cs.map fun c => Value.int (StrChars.lo8 c)) (.int (0 : Int32))) (pr6 : Exa Z h0 x "java/lang/String") (pr7 : Fld Z h0 x "java/lang/String" "value" "[B" (.ref t)) (pr8 : Fld Z h0 x "java/lang/String" "coder" "B" (.int (0 : Int32))) (pr9 : Arv Z h0 t kt .byte (Int32.ofNat ds.length) (ds.map fun c => Value.int (StrChars.lo8 c)) (.int (0 : Int32))) (Sc : SC Z zc) (nc : ¬ (zc = (0 : Int32))) (Sa : SA1 Z) (Su : SU1 Z) (Sv : SV1 Z) (Sf : SF1 Z vf) (rf : vf.isRef = true) (hcs : ∀ c ∈ cs, ¬ c < 0 ∧ ¬ (255 : Int32) < c) (hl : cs.length + ds.length ≤ 10) (hxa : x ≠ a1) (hta : t ≠ a1) (hxv : x ≠ vb) (htv : t ≠ vb) (hav : vb ≠ a1) (g_a1 : n0 ≤ a1) (l_a1 : a1 < h0.size) (g_vb : n0 ≤ vb) (l_vb : vb < h0.size) :
    Ct l (⟨"java/lang/AbstractStringBuilder", "putStringAt", "(ILjava/lang/String;)V"⟩ : MethodName) jdk_68_method_73_code 3 none [] RM_rs_psa00 Z n0 #[(.ref a1), (.int (Int32.ofNat cs.length)), (.ref x)] h0 [a1, vb] (Q_rs_psa00 Z a1 vb kb cs x t ds kt zc vf h0) := by
  refine Ct.of_walk (plainFor_of_name pn_2) hO (allS ⟨g_a1, l_a1⟩ (allS ⟨g_vb, l_vb⟩ all0)) ?_
  intro p e s m below meth c T0 X0
  rw [ef_RIR3 m a1 (Int32.ofNat cs.length) x]
  show Go _ _ _ _ (T0.setTop (mkF m 0 #[.val (.ref a1), .val (.int (Int32.ofNat cs.length)), .val (.ref x)] []))
  refine X0.aloadN j68_73_0 rfl rfl ?_
  refine X0.aloadN j68_73_1 rfl rfl ?_
  obtain ⟨_, T1, h1, XX1, K1, ⟨rfl, rfl⟩, st1⟩ := X0.pvX (W := 0) (hw _ (gm 105 rfl)) (hw _ (gm 106 rfl)) (own_selfsel (hw _ (gm 106 rfl)) (hw _ (gm 108 rfl)) (hw _ (gm 107 rfl)) (by decide)) (hw _ (gm 107 rfl)) (hw _ (gm 109 rfl)) (by decide) ((rs_ifn00 l Z a0 hw n0 a1 vb kb cs x zc vf h0 X0.old pr0 pr1 pr2 pr3 pr4 pr5 pr6 pr8 Sc nc Sa Su Sv Sf rf).pay (hw _ (gm 109 rfl)) (hw _ (gm 19 rfl)) (by decide) (by decide)) all0 pr0 (g := (mkF m 2 #[.val (.ref a1), .val (.int (Int32.ofNat cs.length)), .val (.ref x)] [(.ref x), (.ref a1)])) rfl rfl (argsL := [(.ref x)]) (rest := []) (lenOf pd_17 rfl) rfl (by exact Nat.le_of_eq rfl) j68_73_2 rfl (by decide) (by decide)
  refine Go.tr st1 ?_
  have X1 := XX1 [] all0
  refine X1.aloadN j68_73_5 rfl rfl ?_
  refine X1.aloadN j68_73_6 rfl rfl ?_
  obtain ⟨T2, X2, st2⟩ := X1.getF (host := "") (Or.inl (hw _ (gm 25 rfl))) Via.refl pr1 (g := (mkF m 7 #[.val (.ref a1), .val (.int (Int32.ofNat cs.length)), .val (.ref x)] [(.ref a1), (.ref x)])) rfl rfl j68_73_7
  refine Go.by st2 ?_
  refine X2.iloadN j68_73_10 rfl ?_
  refine X2.aloadN j68_73_11 rfl rfl ?_
  obtain ⟨T3, X3, st3⟩ := X2.getF (host := "") (Or.inl (hw _ (gm 27 rfl))) Via.refl pr2 (g := (mkF m 12 #[.val (.ref a1), .val (.int (Int32.ofNat cs.length)), .val (.ref x)] [(.ref a1), (.int (Int32.ofNat cs.length)), (.ref vb), (.ref x)])) rfl rfl j68_73_12
  refine Go.by st3 ?_
  obtain ⟨_, T4, h4, XX4, K4, ⟨rfl, P4_0⟩, st4⟩ := X3.viX (W := 0) (hw _ (gm 111 rfl)) (hw _ (gm 112 rfl)) (hw _ (gm 114 rfl)) (hw _ (gm 113 rfl)) (by decide) ((rs_gtb0 l Z a0 hw n0 x t ds kt vb kb cs zc vf h0 X3.old pr6 pr7 pr8 pr9 pr5 Sc nc Sa Su Sv Sf rf hl htv (X3.ge (.tail _ (.head _))) (X3.lt (.tail _ (.head _)))).pay (hw _ (gm 115 rfl)) (hw _ (gm 23 rfl)) (by decide) (by decide)) (allS (.tail _ (.head _)) all0) pr6 (g := (mkF m 15 #[.val (.ref a1), .val (.int (Int32.ofNat cs.length)), .val (.ref x)] [(.int (0 : Int32)), (.int (Int32.ofNat cs.length)), (.ref vb), (.ref x)])) rfl rfl (argsL := [(.ref vb), (.int (Int32.ofNat cs.length)), (.int (0 : Int32))]) (rest := []) (lenOf pd_18 rfl) rfl (by exact Nat.le_of_eq rfl) j68_73_15 rfl (by decide) (by decide)
  refine Go.tr st4 ?_
  have X4 := XX4 [] all0
  have K0_h4 := (Keep.refl h0 [a1, vb]).trans K4 (allS (Or.inl (.tail _ (.head _))) all0)
  have f5 := (pr1).keep K4 (ninS hav.symm nin0)
  have f6 := (pr2).keep K4 (ninS hav.symm nin0)
  have f7 := (pr3).keep K4 (ninS hav.symm nin0)
  have f8 := (pr4).keep K4 (ninS hav.symm nin0)
  exact X4.retV j68_73_18 K0_h4 ⟨rfl, f5, f6, f7, f8, P4_0⟩ (by decide) (by decide)
theorem ef_RR3 (m : MethodId) (x0 : Addr) (x1 : Addr) : entryFrame m #[(.ref x0), (.ref x1)] 3 = mkF m 0 #[.val (.ref x0), .val (.ref x1), .unset] [] := by first | (simp [entryFrame, mkF, argsToLocals, Value.category]; done) | rfl
def Q_rs_aps00 (Z : State) (a1 : Addr) (vb : Addr) (kb : ClassId) (cs : List Int32) (x : Addr) (t : Addr) (ds : List Int32) (zc : Int32) (vf : Value) (h0 : Heap) (ov : Option Value) (hz : Heap) : Prop := ov = some (.ref a1) ∧ Fld Z hz a1 "java/lang/AbstractStringBuilder" "value" "[B" (.ref vb) ∧ Fld Z hz a1 "java/lang/AbstractStringBuilder" "coder" "B" (.int (0 : Int32)) ∧ Fld Z hz a1 "java/lang/AbstractStringBuilder" "count" "I" (.int (Int32.ofNat (cs ++ ds).length)) ∧ Fld Z hz a1 "java/lang/AbstractStringBuilder" "maybeLatin1" "Z" (.int (0 : Int32)) ∧ Arv Z hz vb kb .byte (16 : Int32) ((cs ++ ds).map fun c => Value.int (StrChars.lo8 c)) (.int (0 : Int32))
theorem j68_22_0 : decode jdk_68_method_22_code 0 = .ok (.aload_n 1, 1) := by decide +kernel
theorem j68_22_1 : decode jdk_68_method_22_code 1 = .ok (.ifnonnull 8, 3) := by decide +kernel
theorem j68_22_9 : decode jdk_68_method_22_code 9 = .ok (.aload_n 1, 1) := by decide +kernel
theorem j68_22_10 : decode jdk_68_method_22_code 10 = .ok (.invokevirtual 32, 3) := by decide +kernel
theorem j68_22_13 : decode jdk_68_method_22_code 13 = .ok (.istore_n 2, 1) := by decide +kernel
theorem j68_22_14 : decode jdk_68_method_22_code 14 = .ok (.aload_n 0, 1) := by decide +kernel
theorem j68_22_15 : decode jdk_68_method_22_code 15 = .ok (.aload_n 0, 1) := by decide +kernel
theorem j68_22_16 : decode jdk_68_method_22_code 16 = .ok (.getfield 79, 3) := by decide +kernel
theorem j68_22_19 : decode jdk_68_method_22_code 19 = .ok (.iload_n 2, 1) := by decide +kernel
theorem j68_22_20 : decode jdk_68_method_22_code 20 = .ok (.iadd, 1) := by decide +kernel
theorem j68_22_21 : decode jdk_68_method_22_code 21 = .ok (.invokevirtual 100, 3) := by decide +kernel
theorem j68_22_24 : decode jdk_68_method_22_code 24 = .ok (.aload_n 0, 1) := by decide +kernel
theorem j68_22_25 : decode jdk_68_method_22_code 25 = .ok (.aload_n 0, 1) := by decide +kernel
theorem j68_22_26 : decode jdk_68_method_22_code 26 = .ok (.getfield 79, 3) := by decide +kernel
theorem j68_22_29 : decode jdk_68_method_22_code 29 = .ok (.aload_n 1, 1) := by decide +kernel
theorem pd_19 : parseMethodDescriptor "(ILjava/lang/String;)V" = some ⟨[.int, (.object "java/lang/String")], none⟩ := by decide +kernel
theorem j68_22_30 : decode jdk_68_method_22_code 30 = .ok (.invokevirtual 208, 3) := by decide +kernel
theorem j68_22_33 : decode jdk_68_method_22_code 33 = .ok (.aload_n 0, 1) := by decide +kernel
theorem j68_22_34 : decode jdk_68_method_22_code 34 = .ok (.dup, 1) := by decide +kernel
theorem j68_22_35 : decode jdk_68_method_22_code 35 = .ok (.getfield 79, 3) := by decide +kernel
theorem j68_22_38 : decode jdk_68_method_22_code 38 = .ok (.iload_n 2, 1) := by decide +kernel
theorem j68_22_39 : decode jdk_68_method_22_code 39 = .ok (.iadd, 1) := by decide +kernel
theorem j68_22_40 : decode jdk_68_method_22_code 40 = .ok (.putfield 79, 3) := by decide +kernel
theorem j68_22_43 : decode jdk_68_method_22_code 43 = .ok (.aload_n 0, 1) := by decide +kernel
theorem j68_22_44 : decode jdk_68_method_22_code 44 = .ok (.areturn, 1) := by decide +kernel
abbrev RM_rs_aps00 : Room := { frames := 3, cells := 0, slots := 0, locals := 47 }
theorem rs_aps00 (l : Launch) (Z : State) (a0 : Array Value) (hw : ∀ d ∈ tables_1, d.before a0 Z = true) (n0 : Nat) (a1 : Addr) (vb : Addr) (kb : ClassId) (cs : List Int32) (x : Addr) (t : Addr) (ds : List Int32) (zc : Int32) (vf : Value) (h0 : Heap) (hO : Old Z n0 h0) (pr0 : Exa Z h0 a1 "java/lang/StringBuilder") (pr1 : Fld Z h0 a1 "java/lang/AbstractStringBuilder" "value" "[B" (.ref vb)) (pr2 : Fld Z h0 a1 "java/lang/AbstractStringBuilder" "coder" "B" (.int (0 : Int32))) (pr3 : Fld Z h0 a1 "java/lang/AbstractStringBuilder" "count" "I" (.int (Int32.ofNat cs.length))) (pr4 : Fld Z h0 a1 "java/lang/AbstractStringBuilder" "maybeLatin1" "Z" (.int (0 : Int32))) (pr5 : Arv Z h0 vb kb .byte (16 : Int32) (cs.map fun c => Value.int (StrChars.lo8 c)) (.int (0 : Int32))) (pr6 : Str Z h0 x t ds) (Sc : SC Z zc) (nc : ¬ (zc = (0 : Int32))) (Sa : SA1 Z) (Su : SU1 Z) (Sv : SV1 Z) (Sf : SF1 Z vf) (rf : vf.isRef = true) (hcs : ∀ c ∈ cs, ¬ c < 0 ∧ ¬ (255 : Int32) < c) (hl : cs.length + ds.length ≤ 10) (hxa : x ≠ a1) (hta : t ≠ a1) (hxv : x ≠ vb) (htv : t ≠ vb) (hav : vb ≠ a1) (hk : ∀ c ∈ ds, ¬ (255 : Int32) < c) (g_a1 : n0 ≤ a1) (l_a1 : a1 < h0.size) (g_vb : n0 ≤ vb) (l_vb : vb < h0.size) :
    Ct l (⟨"java/lang/AbstractStringBuilder", "append", "(Ljava/lang/String;)Ljava/lang/AbstractStringBuilder;"⟩ : MethodName) jdk_68_method_22_code 3 (some (.object "java/lang/AbstractStringBuilder")) [] RM_rs_aps00 Z n0 #[(.ref a1), (.ref x)] h0 [a1, vb] (Q_rs_aps00 Z a1 vb kb cs x t ds zc vf h0) := by
  refine Ct.of_walk (plainFor_of_name pn_2) hO (allS ⟨g_a1, l_a1⟩ (allS ⟨g_vb, l_vb⟩ all0)) ?_
  intro p e s m below meth c T0 X0
  rw [ef_RR3 m a1 x]
  show Go _ _ _ _ (T0.setTop (mkF m 0 #[.val (.ref a1), .val (.ref x), .unset] []))
  have f1 : Exa Z h0 x "java/lang/String" := pr6.exa
  obtain ⟨kt2, V2, C2, A2, L2⟩ := pr6.lat hk
  refine X0.aloadN j68_22_0 rfl rfl ?_
  refine X0.ifnonnullYes (pc0 := 1) (pc' := 9) rfl j68_22_1 rfl (by decide) (by decide) ?_
  refine X0.aloadN j68_22_9 rfl rfl ?_
  obtain ⟨_, T3, h3, XX3, K3, ⟨rfl, rfl⟩, st3⟩ := X0.viX (W := 0) (hw _ (gm 82 rfl)) (hw _ (gm 83 rfl)) (hw _ (gm 85 rfl)) (hw _ (gm 84 rfl)) (by decide) (payLen (fun d hd => hw d ((by decide +kernel : ∀ d ∈ StrChars.Road.wordsLen, d ∈ tables_1) d hd)) (hw _ (gm 36 rfl)) X0.old pr6 Sc nc (by decide) (by decide)) all0 f1 (g := (mkF m 10 #[.val (.ref a1), .val (.ref x), .unset] [(.ref x)])) rfl rfl (argsL := []) (rest := []) (lenOf pd_9 rfl) rfl (by exact Nat.le_of_eq rfl) j68_22_10 rfl (by decide) (by decide)
  refine Go.tr st3 ?_
  have X3 := XX3 [] all0
  refine X3.istoreN j68_22_13 rfl (l' := #[.val (.ref a1), .val (.ref x), .val (.int (Int32.ofNat (ds).length))]) rfl ?_
  refine X3.aloadN j68_22_14 rfl rfl ?_
  refine X3.aloadN j68_22_15 rfl rfl ?_
  obtain ⟨T4, X4, st4⟩ := X3.getF (host := "") (Or.inl (hw _ (gm 93 rfl))) Via.refl pr3 (g := (mkF m 16 #[.val (.ref a1), .val (.ref x), .val (.int (Int32.ofNat (ds).length))] [(.ref a1), (.ref a1)])) rfl rfl j68_22_16
  refine Go.by st4 ?_
  refine X4.iloadN j68_22_19 rfl ?_
  refine X4.iadd j68_22_20 rfl ?_
  show Go _ _ _ _ (T4.setTop (mkF m 21 #[.val (.ref a1), .val (.ref x), .val (.int (Int32.ofNat (ds).length))] [(.int ((Int32.ofNat cs.length) + (Int32.ofNat (ds).length))), (.ref a1)]))
  rw [own_onn]
  show Go _ _ _ _ (T4.setTop (mkF m 21 #[.val (.ref a1), .val (.ref x), .val (.int (Int32.ofNat (ds).length))] [(.int (Int32.ofNat (cs.length + ds.length))), (.ref a1)]))
  obtain ⟨_, T5, h5, XX5, K5, ⟨rfl, rfl⟩, st5⟩ := X4.pvX (W := 0) (hw _ (gm 95 rfl)) (hw _ (gm 96 rfl)) (own_selfsel (hw _ (gm 96 rfl)) (hw _ (gm 98 rfl)) (hw _ (gm 97 rfl)) (by decide)) (hw _ (gm 97 rfl)) (hw _ (gm 99 rfl)) (by decide) ((rs_en0 l Z a0 hw n0 a1 (cs.length + ds.length) vb kb (cs.map fun c => Value.int (StrChars.lo8 c)) h0 X4.old pr1 pr2 pr5 (by omega)).pay (hw _ (gm 99 rfl)) (hw _ (gm 19 rfl)) (by decide) (by decide)) all0 pr0 (g := (mkF m 21 #[.val (.ref a1), .val (.ref x), .val (.int (Int32.ofNat (ds).length))] [(.int (Int32.ofNat (cs.length + ds.length))), (.ref a1)])) rfl rfl (argsL := [(.int (Int32.ofNat (cs.length + ds.length)))]) (rest := []) (lenOf pd_8 rfl) rfl (by exact Nat.le_of_eq rfl) j68_22_21 rfl (by decide) (by decide)
  refine Go.tr st5 ?_
  have X5 := XX5 [] all0
  refine X5.aloadN j68_22_24 rfl rfl ?_
  refine X5.aloadN j68_22_25 rfl rfl ?_
  obtain ⟨T6, X6, st6⟩ := X5.getF (host := "") (Or.inl (hw _ (gm 93 rfl))) Via.refl pr3 (g := (mkF m 26 #[.val (.ref a1), .val (.ref x), .val (.int (Int32.ofNat (ds).length))] [(.ref a1), (.ref a1)])) rfl rfl j68_22_26
  refine Go.by st6 ?_
  refine X6.aloadN j68_22_29 rfl rfl ?_
  obtain ⟨_, T7, h7, XX7, K7, ⟨rfl, P7_0, P7_1, P7_2, P7_3, P7_4⟩, st7⟩ := X6.pvX (W := 0) (hw _ (gm 100 rfl)) (hw _ (gm 101 rfl)) (own_selfsel (hw _ (gm 101 rfl)) (hw _ (gm 103 rfl)) (hw _ (gm 102 rfl)) (by decide)) (hw _ (gm 102 rfl)) (hw _ (gm 104 rfl)) (by decide) ((rs_psa00 l Z a0 hw n0 a1 vb kb cs x t ds kt2 zc vf h0 X6.old pr0 pr1 pr2 pr3 pr4 pr5 f1 V2 C2 A2 Sc nc Sa Su Sv Sf rf hcs hl hxa hta hxv htv hav (X6.ge (.head _)) (X6.lt (.head _)) (X6.ge (.tail _ (.head _))) (X6.lt (.tail _ (.head _)))).pay (hw _ (gm 104 rfl)) (hw _ (gm 19 rfl)) (by decide) (by decide)) (allS (.head _) (allS (.tail _ (.head _)) all0)) pr0 (g := (mkF m 30 #[.val (.ref a1), .val (.ref x), .val (.int (Int32.ofNat (ds).length))] [(.ref x), (.int (Int32.ofNat cs.length)), (.ref a1)])) rfl rfl (argsL := [(.int (Int32.ofNat cs.length)), (.ref x)]) (rest := []) (lenOf pd_19 rfl) rfl (by exact Nat.le_of_eq rfl) j68_22_30 rfl (by decide) (by decide)
  refine Go.tr st7 ?_
  have X7 := XX7 [] all0
  have K0_h7 := (Keep.refl h0 [a1, vb]).trans K7 (allS (Or.inl (.head _)) (allS (Or.inl (.tail _ (.head _))) all0))
  refine X7.aloadN j68_22_33 rfl rfl ?_
  refine X7.dup j68_22_34 rfl rfl ?_
  obtain ⟨T8, X8, st8⟩ := X7.getF (host := "") (Or.inl (hw _ (gm 93 rfl))) Via.refl P7_2 (g := (mkF m 35 #[.val (.ref a1), .val (.ref x), .val (.int (Int32.ofNat (ds).length))] [(.ref a1), (.ref a1)])) rfl rfl j68_22_35
  refine Go.by st8 ?_
  refine X8.iloadN j68_22_38 rfl ?_
  refine X8.iadd j68_22_39 rfl ?_
  show Go _ _ _ _ (T8.setTop (mkF m 40 #[.val (.ref a1), .val (.ref x), .val (.int (Int32.ofNat (ds).length))] [(.int ((Int32.ofNat cs.length) + (Int32.ofNat (ds).length))), (.ref a1)]))
  rw [own_onn, ← List.length_append]
  show Go _ _ _ _ (T8.setTop (mkF m 40 #[.val (.ref a1), .val (.ref x), .val (.int (Int32.ofNat (ds).length))] [(.int (Int32.ofNat (cs ++ ds).length)), (.ref a1)]))
  have f10 := (pr0).keep K7
  obtain ⟨T9, h9, X9, W9, st9⟩ := X8.putF (host := "") (Or.inl (hw _ (gm 93 rfl))) Via.refl P7_2 f10 (Or.inl (hw _ (gm 94 rfl))) (hw _ (gm 10 rfl)) (.head _) (ty := .int) (by decide) rfl rfl (g := (mkF m 40 #[.val (.ref a1), .val (.ref x), .val (.int (Int32.ofNat (ds).length))] [(.int (Int32.ofNat (cs ++ ds).length)), (.ref a1)])) rfl rfl j68_22_40
  refine Go.by st9 ?_
  have K0_h9 := K0_h7.wr W9 (Or.inl (.head _))
  have F9 : Fld Z h9 a1 "java/lang/AbstractStringBuilder" "count" "I" (.int (Int32.ofNat (cs ++ ds).length)) := P7_2.same W9
  refine X9.aloadN j68_22_43 rfl rfl ?_
  have f11 := (P7_0).other W9 (Or.inr (slot_ne (Or.inl (hw _ (gm 26 rfl))) (Or.inl (hw _ (gm 94 rfl))) (by decide) (t := (.array .byte)) (t' := .int) (by decide) (by decide)))
  have f12 := (P7_1).other W9 (Or.inr (slot_ne (Or.inl (hw _ (gm 28 rfl))) (Or.inl (hw _ (gm 94 rfl))) (by decide) (t := .byte) (t' := .int) (by decide) (by decide)))
  have f13 := (P7_3).other W9 (Or.inr (slot_ne (Or.inl (hw _ (gm 274 rfl))) (Or.inl (hw _ (gm 94 rfl))) (by decide) (t := .boolean) (t' := .int) (by decide) (by decide)))
  have f14 := (P7_4).other W9 hav
  exact X9.retR rfl rfl j68_22_44 K0_h9 ⟨rfl, f11, f12, F9, f13, f14⟩ (by decide) (by decide)
def Q_rs_sap00 (Z : State) (a1 : Addr) (vb : Addr) (kb : ClassId) (cs : List Int32) (x : Addr) (t : Addr) (ds : List Int32) (zc : Int32) (vf : Value) (h0 : Heap) (ov : Option Value) (hz : Heap) : Prop := ov = some (.ref a1) ∧ Fld Z hz a1 "java/lang/AbstractStringBuilder" "value" "[B" (.ref vb) ∧ Fld Z hz a1 "java/lang/AbstractStringBuilder" "coder" "B" (.int (0 : Int32)) ∧ Fld Z hz a1 "java/lang/AbstractStringBuilder" "count" "I" (.int (Int32.ofNat (cs ++ ds).length)) ∧ Fld Z hz a1 "java/lang/AbstractStringBuilder" "maybeLatin1" "Z" (.int (0 : Int32)) ∧ Arv Z hz vb kb .byte (16 : Int32) ((cs ++ ds).map fun c => Value.int (StrChars.lo8 c)) (.int (0 : Int32))
theorem j67_7_0 : decode jdk_67_method_7_code 0 = .ok (.aload_n 0, 1) := by decide +kernel
theorem j67_7_1 : decode jdk_67_method_7_code 1 = .ok (.aload_n 1, 1) := by decide +kernel
theorem pd_20 : parseMethodDescriptor "(Ljava/lang/String;)Ljava/lang/AbstractStringBuilder;" = some ⟨[(.object "java/lang/String")], some (.object "java/lang/AbstractStringBuilder")⟩ := by decide +kernel
theorem j67_7_2 : decode jdk_67_method_7_code 2 = .ok (.invokespecial 29, 3) := by decide +kernel
theorem j67_7_5 : decode jdk_67_method_7_code 5 = .ok (.pop, 1) := by decide +kernel
theorem j67_7_6 : decode jdk_67_method_7_code 6 = .ok (.aload_n 0, 1) := by decide +kernel
theorem j67_7_7 : decode jdk_67_method_7_code 7 = .ok (.areturn, 1) := by decide +kernel
abbrev RM_rs_sap00 : Room := { frames := 4, cells := 0, slots := 0, locals := 61 }
theorem rs_sap00 (l : Launch) (Z : State) (a0 : Array Value) (hw : ∀ d ∈ tables_1, d.before a0 Z = true) (n0 : Nat) (a1 : Addr) (vb : Addr) (kb : ClassId) (cs : List Int32) (x : Addr) (t : Addr) (ds : List Int32) (zc : Int32) (vf : Value) (h0 : Heap) (hO : Old Z n0 h0) (pr0 : Exa Z h0 a1 "java/lang/StringBuilder") (pr1 : Fld Z h0 a1 "java/lang/AbstractStringBuilder" "value" "[B" (.ref vb)) (pr2 : Fld Z h0 a1 "java/lang/AbstractStringBuilder" "coder" "B" (.int (0 : Int32))) (pr3 : Fld Z h0 a1 "java/lang/AbstractStringBuilder" "count" "I" (.int (Int32.ofNat cs.length))) (pr4 : Fld Z h0 a1 "java/lang/AbstractStringBuilder" "maybeLatin1" "Z" (.int (0 : Int32))) (pr5 : Arv Z h0 vb kb .byte (16 : Int32) (cs.map fun c => Value.int (StrChars.lo8 c)) (.int (0 : Int32))) (pr6 : Str Z h0 x t ds) (Sc : SC Z zc) (nc : ¬ (zc = (0 : Int32))) (Sa : SA1 Z) (Su : SU1 Z) (Sv : SV1 Z) (Sf : SF1 Z vf) (rf : vf.isRef = true) (hcs : ∀ c ∈ cs, ¬ c < 0 ∧ ¬ (255 : Int32) < c) (hl : cs.length + ds.length ≤ 10) (hxa : x ≠ a1) (hta : t ≠ a1) (hxv : x ≠ vb) (htv : t ≠ vb) (hav : vb ≠ a1) (hk : ∀ c ∈ ds, ¬ (255 : Int32) < c) (g_a1 : n0 ≤ a1) (l_a1 : a1 < h0.size) (g_vb : n0 ≤ vb) (l_vb : vb < h0.size) :
    Ct l (⟨"java/lang/StringBuilder", "append", "(Ljava/lang/String;)Ljava/lang/StringBuilder;"⟩ : MethodName) jdk_67_method_7_code 2 (some (.object "java/lang/StringBuilder")) [] RM_rs_sap00 Z n0 #[(.ref a1), (.ref x)] h0 [a1, vb] (Q_rs_sap00 Z a1 vb kb cs x t ds zc vf h0) := by
  refine Ct.of_walk (plainFor_of_name pn_3) hO (allS ⟨g_a1, l_a1⟩ (allS ⟨g_vb, l_vb⟩ all0)) ?_
  intro p e s m below meth c T0 X0
  rw [ef_RR2 m a1 x]
  show Go _ _ _ _ (T0.setTop (mkF m 0 #[.val (.ref a1), .val (.ref x)] []))
  refine X0.aloadN j67_7_0 rfl rfl ?_
  refine X0.aloadN j67_7_1 rfl rfl ?_
  obtain ⟨_, T2, h2, XX2, K2, ⟨rfl, P2_0, P2_1, P2_2, P2_3, P2_4⟩, st2⟩ := X0.suX (W := 0) (hw _ (gm 80 rfl)) (own_same (hw _ (gm 71 rfl)) (hw _ (gm 65 rfl)) (by decide) (own_notface (y := (⟨"java/lang/AbstractStringBuilder", "ensureCapacityInternal", "(I)V"⟩ : MethodName)) (hw _ (gm 96 rfl)) (hw _ (gm 98 rfl)))) (hw _ (gm 71 rfl)) (hw _ (gm 65 rfl)) (by decide) (hw _ (gm 81 rfl)) ((rs_aps00 l Z a0 hw n0 a1 vb kb cs x t ds zc vf h0 X0.old pr0 pr1 pr2 pr3 pr4 pr5 pr6 Sc nc Sa Su Sv Sf rf hcs hl hxa hta hxv htv hav hk (X0.ge (.head _)) (X0.lt (.head _)) (X0.ge (.tail _ (.head _))) (X0.lt (.tail _ (.head _)))).pay (hw _ (gm 81 rfl)) (hw _ (gm 19 rfl)) (by decide) (by decide)) (allS (.head _) (allS (.tail _ (.head _)) all0)) (Ins.self pr0) (g := (mkF m 2 #[.val (.ref a1), .val (.ref x)] [(.ref x), (.ref a1)])) rfl rfl (argsL := [(.ref x)]) (rest := []) (lenOf pd_20 rfl) rfl (by exact Nat.le_of_eq rfl) j67_7_2 rfl (by decide) (by decide)
  refine Go.tr st2 ?_
  have X2 := XX2 [] all0
  have K0_h2 := (Keep.refl h0 [a1, vb]).trans K2 (allS (Or.inl (.head _)) (allS (Or.inl (.tail _ (.head _))) all0))
  refine X2.pop j67_7_5 rfl rfl ?_
  refine X2.aloadN j67_7_6 rfl rfl ?_
  exact X2.retR rfl rfl j67_7_7 K0_h2 ⟨rfl, P2_0, P2_1, P2_2, P2_3, P2_4⟩ (by decide) (by decide)
def Q_rs_brd00 (Z : State) (a1 : Addr) (vb : Addr) (kb : ClassId) (cs : List Int32) (x : Addr) (t : Addr) (ds : List Int32) (zc : Int32) (vf : Value) (h0 : Heap) (ov : Option Value) (hz : Heap) : Prop := ov = some (.ref a1) ∧ Fld Z hz a1 "java/lang/AbstractStringBuilder" "value" "[B" (.ref vb) ∧ Fld Z hz a1 "java/lang/AbstractStringBuilder" "coder" "B" (.int (0 : Int32)) ∧ Fld Z hz a1 "java/lang/AbstractStringBuilder" "count" "I" (.int (Int32.ofNat (cs ++ ds).length)) ∧ Fld Z hz a1 "java/lang/AbstractStringBuilder" "maybeLatin1" "Z" (.int (0 : Int32)) ∧ Arv Z hz vb kb .byte (16 : Int32) ((cs ++ ds).map fun c => Value.int (StrChars.lo8 c)) (.int (0 : Int32))
theorem j67_80_0 : decode jdk_67_method_80_code 0 = .ok (.aload_n 0, 1) := by decide +kernel
theorem j67_80_1 : decode jdk_67_method_80_code 1 = .ok (.aload_n 1, 1) := by decide +kernel
theorem pd_21 : parseMethodDescriptor "(Ljava/lang/String;)Ljava/lang/StringBuilder;" = some ⟨[(.object "java/lang/String")], some (.object "java/lang/StringBuilder")⟩ := by decide +kernel
theorem j67_80_2 : decode jdk_67_method_80_code 2 = .ok (.invokevirtual 23, 3) := by decide +kernel
theorem j67_80_5 : decode jdk_67_method_80_code 5 = .ok (.areturn, 1) := by decide +kernel
abbrev RM_rs_brd00 : Room := { frames := 5, cells := 0, slots := 0, locals := 74 }
theorem rs_brd00 (l : Launch) (Z : State) (a0 : Array Value) (hw : ∀ d ∈ tables_1, d.before a0 Z = true) (n0 : Nat) (a1 : Addr) (vb : Addr) (kb : ClassId) (cs : List Int32) (x : Addr) (t : Addr) (ds : List Int32) (zc : Int32) (vf : Value) (h0 : Heap) (hO : Old Z n0 h0) (pr0 : Exa Z h0 a1 "java/lang/StringBuilder") (pr1 : Fld Z h0 a1 "java/lang/AbstractStringBuilder" "value" "[B" (.ref vb)) (pr2 : Fld Z h0 a1 "java/lang/AbstractStringBuilder" "coder" "B" (.int (0 : Int32))) (pr3 : Fld Z h0 a1 "java/lang/AbstractStringBuilder" "count" "I" (.int (Int32.ofNat cs.length))) (pr4 : Fld Z h0 a1 "java/lang/AbstractStringBuilder" "maybeLatin1" "Z" (.int (0 : Int32))) (pr5 : Arv Z h0 vb kb .byte (16 : Int32) (cs.map fun c => Value.int (StrChars.lo8 c)) (.int (0 : Int32))) (pr6 : Str Z h0 x t ds) (Sc : SC Z zc) (nc : ¬ (zc = (0 : Int32))) (Sa : SA1 Z) (Su : SU1 Z) (Sv : SV1 Z) (Sf : SF1 Z vf) (rf : vf.isRef = true) (hcs : ∀ c ∈ cs, ¬ c < 0 ∧ ¬ (255 : Int32) < c) (hl : cs.length + ds.length ≤ 10) (hxa : x ≠ a1) (hta : t ≠ a1) (hxv : x ≠ vb) (htv : t ≠ vb) (hav : vb ≠ a1) (hk : ∀ c ∈ ds, ¬ (255 : Int32) < c) (g_a1 : n0 ≤ a1) (l_a1 : a1 < h0.size) (g_vb : n0 ≤ vb) (l_vb : vb < h0.size) :
    Ct l (⟨"java/lang/StringBuilder", "append", "(Ljava/lang/String;)Ljava/lang/AbstractStringBuilder;"⟩ : MethodName) jdk_67_method_80_code 2 (some (.object "java/lang/AbstractStringBuilder")) [] RM_rs_brd00 Z n0 #[(.ref a1), (.ref x)] h0 [a1, vb] (Q_rs_brd00 Z a1 vb kb cs x t ds zc vf h0) := by
  refine Ct.of_walk (plainFor_of_name pn_3) hO (allS ⟨g_a1, l_a1⟩ (allS ⟨g_vb, l_vb⟩ all0)) ?_
  intro p e s m below meth c T0 X0
  rw [ef_RR2 m a1 x]
  show Go _ _ _ _ (T0.setTop (mkF m 0 #[.val (.ref a1), .val (.ref x)] []))
  refine X0.aloadN j67_80_0 rfl rfl ?_
  refine X0.aloadN j67_80_1 rfl rfl ?_
  obtain ⟨_, T2, h2, XX2, K2, ⟨rfl, P2_0, P2_1, P2_2, P2_3, P2_4⟩, st2⟩ := X0.viX (W := 0) (hw _ (gm 75 rfl)) (hw _ (gm 76 rfl)) (hw _ (gm 78 rfl)) (hw _ (gm 77 rfl)) (by decide) ((rs_sap00 l Z a0 hw n0 a1 vb kb cs x t ds zc vf h0 X0.old pr0 pr1 pr2 pr3 pr4 pr5 pr6 Sc nc Sa Su Sv Sf rf hcs hl hxa hta hxv htv hav hk (X0.ge (.head _)) (X0.lt (.head _)) (X0.ge (.tail _ (.head _))) (X0.lt (.tail _ (.head _)))).pay (hw _ (gm 79 rfl)) (hw _ (gm 11 rfl)) (by decide) (by decide)) (allS (.head _) (allS (.tail _ (.head _)) all0)) pr0 (g := (mkF m 2 #[.val (.ref a1), .val (.ref x)] [(.ref x), (.ref a1)])) rfl rfl (argsL := [(.ref x)]) (rest := []) (lenOf pd_21 rfl) rfl (by exact Nat.le_of_eq rfl) j67_80_2 rfl (by decide) (by decide)
  refine Go.tr st2 ?_
  have X2 := XX2 [] all0
  have K0_h2 := (Keep.refl h0 [a1, vb]).trans K2 (allS (Or.inl (.head _)) (allS (Or.inl (.tail _ (.head _))) all0))
  exact X2.retR rfl rfl j67_80_5 K0_h2 ⟨rfl, P2_0, P2_1, P2_2, P2_3, P2_4⟩ (by decide) (by decide)
def Q_rs_acs00 (Z : State) (a1 : Addr) (vb : Addr) (kb : ClassId) (cs : List Int32) (x : Addr) (t : Addr) (ds : List Int32) (zc : Int32) (vf : Value) (h0 : Heap) (ov : Option Value) (hz : Heap) : Prop := ov = some (.ref a1) ∧ Fld Z hz a1 "java/lang/AbstractStringBuilder" "value" "[B" (.ref vb) ∧ Fld Z hz a1 "java/lang/AbstractStringBuilder" "coder" "B" (.int (0 : Int32)) ∧ Fld Z hz a1 "java/lang/AbstractStringBuilder" "count" "I" (.int (Int32.ofNat (cs ++ ds).length)) ∧ Fld Z hz a1 "java/lang/AbstractStringBuilder" "maybeLatin1" "Z" (.int (0 : Int32)) ∧ Arv Z hz vb kb .byte (16 : Int32) ((cs ++ ds).map fun c => Value.int (StrChars.lo8 c)) (.int (0 : Int32))
theorem j68_25_0 : decode jdk_68_method_25_code 0 = .ok (.aload_n 1, 1) := by decide +kernel
theorem j68_25_1 : decode jdk_68_method_25_code 1 = .ok (.ifnonnull 8, 3) := by decide +kernel
theorem j68_25_9 : decode jdk_68_method_25_code 9 = .ok (.aload_n 1, 1) := by decide +kernel
theorem j68_25_10 : decode jdk_68_method_25_code 10 = .ok (.instanceof 1, 3) := by decide +kernel
theorem j68_25_13 : decode jdk_68_method_25_code 13 = .ok (.ifCond .eq 12, 3) := by decide +kernel
theorem j68_25_16 : decode jdk_68_method_25_code 16 = .ok (.aload_n 0, 1) := by decide +kernel
theorem j68_25_17 : decode jdk_68_method_25_code 17 = .ok (.aload_n 1, 1) := by decide +kernel
theorem j68_25_18 : decode jdk_68_method_25_code 18 = .ok (.checkcast 1, 3) := by decide +kernel
theorem j68_25_21 : decode jdk_68_method_25_code 21 = .ok (.invokevirtual 43, 3) := by decide +kernel
theorem j68_25_24 : decode jdk_68_method_25_code 24 = .ok (.areturn, 1) := by decide +kernel
abbrev RM_rs_acs00 : Room := { frames := 6, cells := 0, slots := 0, locals := 87 }
theorem rs_acs00 (l : Launch) (Z : State) (a0 : Array Value) (hw : ∀ d ∈ tables_1, d.before a0 Z = true) (n0 : Nat) (a1 : Addr) (vb : Addr) (kb : ClassId) (cs : List Int32) (x : Addr) (t : Addr) (ds : List Int32) (zc : Int32) (vf : Value) (h0 : Heap) (hO : Old Z n0 h0) (pr0 : Exa Z h0 a1 "java/lang/StringBuilder") (pr1 : Fld Z h0 a1 "java/lang/AbstractStringBuilder" "value" "[B" (.ref vb)) (pr2 : Fld Z h0 a1 "java/lang/AbstractStringBuilder" "coder" "B" (.int (0 : Int32))) (pr3 : Fld Z h0 a1 "java/lang/AbstractStringBuilder" "count" "I" (.int (Int32.ofNat cs.length))) (pr4 : Fld Z h0 a1 "java/lang/AbstractStringBuilder" "maybeLatin1" "Z" (.int (0 : Int32))) (pr5 : Arv Z h0 vb kb .byte (16 : Int32) (cs.map fun c => Value.int (StrChars.lo8 c)) (.int (0 : Int32))) (pr6 : Str Z h0 x t ds) (Sc : SC Z zc) (nc : ¬ (zc = (0 : Int32))) (Sa : SA1 Z) (Su : SU1 Z) (Sv : SV1 Z) (Sf : SF1 Z vf) (rf : vf.isRef = true) (hcs : ∀ c ∈ cs, ¬ c < 0 ∧ ¬ (255 : Int32) < c) (hl : cs.length + ds.length ≤ 10) (hxa : x ≠ a1) (hta : t ≠ a1) (hxv : x ≠ vb) (htv : t ≠ vb) (hav : vb ≠ a1) (hk : ∀ c ∈ ds, ¬ (255 : Int32) < c) (g_a1 : n0 ≤ a1) (l_a1 : a1 < h0.size) (g_vb : n0 ≤ vb) (l_vb : vb < h0.size) :
    Ct l (⟨"java/lang/AbstractStringBuilder", "append", "(Ljava/lang/CharSequence;)Ljava/lang/AbstractStringBuilder;"⟩ : MethodName) jdk_68_method_25_code 2 (some (.object "java/lang/AbstractStringBuilder")) [] RM_rs_acs00 Z n0 #[(.ref a1), (.ref x)] h0 [a1, vb] (Q_rs_acs00 Z a1 vb kb cs x t ds zc vf h0) := by
  refine Ct.of_walk (plainFor_of_name pn_2) hO (allS ⟨g_a1, l_a1⟩ (allS ⟨g_vb, l_vb⟩ all0)) ?_
  intro p e s m below meth c T0 X0
  rw [ef_RR2 m a1 x]
  show Go _ _ _ _ (T0.setTop (mkF m 0 #[.val (.ref a1), .val (.ref x)] []))
  have f1 : Exa Z h0 x "java/lang/String" := pr6.exa
  refine X0.aloadN j68_25_0 rfl rfl ?_
  refine X0.ifnonnullYes (pc0 := 1) (pc' := 9) rfl j68_25_1 rfl (by decide) (by decide) ?_
  refine X0.aloadN j68_25_9 rfl rfl ?_
  obtain ⟨T2, X2, st2⟩ := X0.instY (hw _ (gm 68 rfl)) (Ins.self f1) (g := (mkF m 10 #[.val (.ref a1), .val (.ref x)] [(.ref x)])) rfl rfl j68_25_10
  refine Go.by st2 ?_
  refine X2.ifNo j68_25_13 rfl (XT.i0_eq_f (by decide)) ?_
  refine X2.aloadN j68_25_16 rfl rfl ?_
  refine X2.aloadN j68_25_17 rfl rfl ?_
  obtain ⟨T3, X3, st3⟩ := X2.castY (hw _ (gm 68 rfl)) (Ins.self f1) (g := (mkF m 18 #[.val (.ref a1), .val (.ref x)] [(.ref x), (.ref a1)])) rfl rfl j68_25_18
  refine Go.by st3 ?_
  obtain ⟨_, T4, h4, XX4, K4, ⟨rfl, P4_0, P4_1, P4_2, P4_3, P4_4⟩, st4⟩ := X3.voX (y' := (⟨"java/lang/AbstractStringBuilder", "append", "(Ljava/lang/String;)Ljava/lang/AbstractStringBuilder;"⟩ : MethodName)) (z' := (⟨"java/lang/StringBuilder", "append", "(Ljava/lang/String;)Ljava/lang/AbstractStringBuilder;"⟩ : MethodName)) (W := 0) (hw _ (gm 69 rfl)) (hw _ (gm 70 rfl)) (own_nf (y2 := (⟨"java/lang/AbstractStringBuilder", "ensureCapacityInternal", "(I)V"⟩ : MethodName)) rfl (hw _ (gm 98 rfl))) (hw _ (gm 72 rfl)) (hw _ (gm 73 rfl)) (by decide) ((rs_brd00 l Z a0 hw n0 a1 vb kb cs x t ds zc vf h0 X3.old pr0 pr1 pr2 pr3 pr4 pr5 pr6 Sc nc Sa Su Sv Sf rf hcs hl hxa hta hxv htv hav hk (X3.ge (.head _)) (X3.lt (.head _)) (X3.ge (.tail _ (.head _))) (X3.lt (.tail _ (.head _)))).pay (hw _ (gm 74 rfl)) (hw _ (gm 11 rfl)) (by decide) (by decide)) (allS (.head _) (allS (.tail _ (.head _)) all0)) pr0 (g := (mkF m 21 #[.val (.ref a1), .val (.ref x)] [(.ref x), (.ref a1)])) rfl rfl (argsL := [(.ref x)]) (rest := []) (lenOf pd_20 rfl) rfl (by exact Nat.le_of_eq rfl) j68_25_21 rfl (by decide) (by decide)
  refine Go.tr st4 ?_
  have X4 := XX4 [] all0
  have K0_h4 := (Keep.refl h0 [a1, vb]).trans K4 (allS (Or.inl (.head _)) (allS (Or.inl (.tail _ (.head _))) all0))
  exact X4.retR rfl rfl j68_25_24 K0_h4 ⟨rfl, P4_0, P4_1, P4_2, P4_3, P4_4⟩ (by decide) (by decide)
def Q_rs_scs00 (Z : State) (a1 : Addr) (vb : Addr) (kb : ClassId) (cs : List Int32) (x : Addr) (t : Addr) (ds : List Int32) (zc : Int32) (vf : Value) (h0 : Heap) (ov : Option Value) (hz : Heap) : Prop := ov = some (.ref a1) ∧ Fld Z hz a1 "java/lang/AbstractStringBuilder" "value" "[B" (.ref vb) ∧ Fld Z hz a1 "java/lang/AbstractStringBuilder" "coder" "B" (.int (0 : Int32)) ∧ Fld Z hz a1 "java/lang/AbstractStringBuilder" "count" "I" (.int (Int32.ofNat (cs ++ ds).length)) ∧ Fld Z hz a1 "java/lang/AbstractStringBuilder" "maybeLatin1" "Z" (.int (0 : Int32)) ∧ Arv Z hz vb kb .byte (16 : Int32) ((cs ++ ds).map fun c => Value.int (StrChars.lo8 c)) (.int (0 : Int32))
theorem j67_9_0 : decode jdk_67_method_9_code 0 = .ok (.aload_n 0, 1) := by decide +kernel
theorem j67_9_1 : decode jdk_67_method_9_code 1 = .ok (.aload_n 1, 1) := by decide +kernel
theorem pd_22 : parseMethodDescriptor "(Ljava/lang/CharSequence;)Ljava/lang/AbstractStringBuilder;" = some ⟨[(.object "java/lang/CharSequence")], some (.object "java/lang/AbstractStringBuilder")⟩ := by decide +kernel
theorem j67_9_2 : decode jdk_67_method_9_code 2 = .ok (.invokespecial 35, 3) := by decide +kernel
theorem j67_9_5 : decode jdk_67_method_9_code 5 = .ok (.pop, 1) := by decide +kernel
theorem j67_9_6 : decode jdk_67_method_9_code 6 = .ok (.aload_n 0, 1) := by decide +kernel
theorem j67_9_7 : decode jdk_67_method_9_code 7 = .ok (.areturn, 1) := by decide +kernel
abbrev RM_rs_scs00 : Room := { frames := 7, cells := 0, slots := 0, locals := 100 }
theorem rs_scs00 (l : Launch) (Z : State) (a0 : Array Value) (hw : ∀ d ∈ tables_1, d.before a0 Z = true) (n0 : Nat) (a1 : Addr) (vb : Addr) (kb : ClassId) (cs : List Int32) (x : Addr) (t : Addr) (ds : List Int32) (zc : Int32) (vf : Value) (h0 : Heap) (hO : Old Z n0 h0) (pr0 : Exa Z h0 a1 "java/lang/StringBuilder") (pr1 : Fld Z h0 a1 "java/lang/AbstractStringBuilder" "value" "[B" (.ref vb)) (pr2 : Fld Z h0 a1 "java/lang/AbstractStringBuilder" "coder" "B" (.int (0 : Int32))) (pr3 : Fld Z h0 a1 "java/lang/AbstractStringBuilder" "count" "I" (.int (Int32.ofNat cs.length))) (pr4 : Fld Z h0 a1 "java/lang/AbstractStringBuilder" "maybeLatin1" "Z" (.int (0 : Int32))) (pr5 : Arv Z h0 vb kb .byte (16 : Int32) (cs.map fun c => Value.int (StrChars.lo8 c)) (.int (0 : Int32))) (pr6 : Str Z h0 x t ds) (Sc : SC Z zc) (nc : ¬ (zc = (0 : Int32))) (Sa : SA1 Z) (Su : SU1 Z) (Sv : SV1 Z) (Sf : SF1 Z vf) (rf : vf.isRef = true) (hcs : ∀ c ∈ cs, ¬ c < 0 ∧ ¬ (255 : Int32) < c) (hl : cs.length + ds.length ≤ 10) (hxa : x ≠ a1) (hta : t ≠ a1) (hxv : x ≠ vb) (htv : t ≠ vb) (hav : vb ≠ a1) (hk : ∀ c ∈ ds, ¬ (255 : Int32) < c) (g_a1 : n0 ≤ a1) (l_a1 : a1 < h0.size) (g_vb : n0 ≤ vb) (l_vb : vb < h0.size) :
    Ct l (⟨"java/lang/StringBuilder", "append", "(Ljava/lang/CharSequence;)Ljava/lang/StringBuilder;"⟩ : MethodName) jdk_67_method_9_code 2 (some (.object "java/lang/StringBuilder")) [] RM_rs_scs00 Z n0 #[(.ref a1), (.ref x)] h0 [a1, vb] (Q_rs_scs00 Z a1 vb kb cs x t ds zc vf h0) := by
  refine Ct.of_walk (plainFor_of_name pn_3) hO (allS ⟨g_a1, l_a1⟩ (allS ⟨g_vb, l_vb⟩ all0)) ?_
  intro p e s m below meth c T0 X0
  rw [ef_RR2 m a1 x]
  show Go _ _ _ _ (T0.setTop (mkF m 0 #[.val (.ref a1), .val (.ref x)] []))
  refine X0.aloadN j67_9_0 rfl rfl ?_
  refine X0.aloadN j67_9_1 rfl rfl ?_
  obtain ⟨_, T2, h2, XX2, K2, ⟨rfl, P2_0, P2_1, P2_2, P2_3, P2_4⟩, st2⟩ := X0.suX (W := 0) (hw _ (gm 63 rfl)) (own_same (hw _ (gm 64 rfl)) (hw _ (gm 65 rfl)) (by decide) (own_notface (y := (⟨"java/lang/AbstractStringBuilder", "ensureCapacityInternal", "(I)V"⟩ : MethodName)) (hw _ (gm 96 rfl)) (hw _ (gm 98 rfl)))) (hw _ (gm 64 rfl)) (hw _ (gm 65 rfl)) (by decide) (hw _ (gm 67 rfl)) ((rs_acs00 l Z a0 hw n0 a1 vb kb cs x t ds zc vf h0 X0.old pr0 pr1 pr2 pr3 pr4 pr5 pr6 Sc nc Sa Su Sv Sf rf hcs hl hxa hta hxv htv hav hk (X0.ge (.head _)) (X0.lt (.head _)) (X0.ge (.tail _ (.head _))) (X0.lt (.tail _ (.head _)))).pay (hw _ (gm 67 rfl)) (hw _ (gm 19 rfl)) (by decide) (by decide)) (allS (.head _) (allS (.tail _ (.head _)) all0)) (Ins.self pr0) (g := (mkF m 2 #[.val (.ref a1), .val (.ref x)] [(.ref x), (.ref a1)])) rfl rfl (argsL := [(.ref x)]) (rest := []) (lenOf pd_22 rfl) rfl (by exact Nat.le_of_eq rfl) j67_9_2 rfl (by decide) (by decide)
  refine Go.tr st2 ?_
  have X2 := XX2 [] all0
  have K0_h2 := (Keep.refl h0 [a1, vb]).trans K2 (allS (Or.inl (.head _)) (allS (Or.inl (.tail _ (.head _))) all0))
  refine X2.pop j67_9_5 rfl rfl ?_
  refine X2.aloadN j67_9_6 rfl rfl ?_
  exact X2.retR rfl rfl j67_9_7 K0_h2 ⟨rfl, P2_0, P2_1, P2_2, P2_3, P2_4⟩ (by decide) (by decide)
def Q_rs_ifn01 (Z : State) (a1 : Addr) (vb : Addr) (kb : ClassId) (cs : List Int32) (x : Addr) (zc : Int32) (vf : Value) (h0 : Heap) (ov : Option Value) (hz : Heap) : Prop := ∃ (vb2 : Addr), ∃ (kb2 : ClassId), ov = none ∧ h0.size ≤ vb2 ∧ vb2 < hz.size ∧ Fld Z hz a1 "java/lang/AbstractStringBuilder" "value" "[B" (.ref vb2) ∧ Fld Z hz a1 "java/lang/AbstractStringBuilder" "coder" "B" (.int (1 : Int32)) ∧ Fld Z hz a1 "java/lang/AbstractStringBuilder" "count" "I" (.int (Int32.ofNat cs.length)) ∧ Fld Z hz a1 "java/lang/AbstractStringBuilder" "maybeLatin1" "Z" (.int (0 : Int32)) ∧ Arv Z hz vb2 kb2 .byte (32 : Int32) (StrChars.Road.wideBytes cs) (.int (0 : Int32))
theorem j68_71_17 : decode jdk_68_method_71_code 17 = .ok (.aload_n 0, 1) := by decide +kernel
theorem pd_23 : parseMethodDescriptor "()V" = some ⟨[], none⟩ := by decide +kernel
theorem j68_71_18 : decode jdk_68_method_71_code 18 = .ok (.invokevirtual 195, 3) := by decide +kernel
abbrev RM_rs_ifn01 : Room := { frames := 6, cells := 1, slots := 32, locals := 89 }
theorem rs_ifn01 (l : Launch) (Z : State) (a0 : Array Value) (hw : ∀ d ∈ tables_1, d.before a0 Z = true) (n0 : Nat) (a1 : Addr) (vb : Addr) (kb : ClassId) (cs : List Int32) (x : Addr) (zc : Int32) (vf : Value) (h0 : Heap) (hO : Old Z n0 h0) (pr0 : Exa Z h0 a1 "java/lang/StringBuilder") (pr1 : Fld Z h0 a1 "java/lang/AbstractStringBuilder" "value" "[B" (.ref vb)) (pr2 : Fld Z h0 a1 "java/lang/AbstractStringBuilder" "coder" "B" (.int (0 : Int32))) (pr3 : Fld Z h0 a1 "java/lang/AbstractStringBuilder" "count" "I" (.int (Int32.ofNat cs.length))) (pr4 : Fld Z h0 a1 "java/lang/AbstractStringBuilder" "maybeLatin1" "Z" (.int (0 : Int32))) (pr5 : Arv Z h0 vb kb .byte (16 : Int32) (cs.map fun c => Value.int (StrChars.lo8 c)) (.int (0 : Int32))) (pr6 : Exa Z h0 x "java/lang/String") (pr7 : Fld Z h0 x "java/lang/String" "coder" "B" (.int (1 : Int32))) (Sc : SC Z zc) (nc : ¬ (zc = (0 : Int32))) (Sa : SA1 Z) (Su : SU1 Z) (Sv : SV1 Z) (Sf : SF1 Z vf) (rf : vf.isRef = true) (hcs : ∀ c ∈ cs, ¬ c < 0 ∧ ¬ (255 : Int32) < c) (hl : cs.length ≤ 10) (hav : vb ≠ a1) (g_a1 : n0 ≤ a1) (l_a1 : a1 < h0.size) :
    Ct l (⟨"java/lang/AbstractStringBuilder", "inflateIfNeededFor", "(Ljava/lang/String;)V"⟩ : MethodName) jdk_68_method_71_code 2 none [] RM_rs_ifn01 Z n0 #[(.ref a1), (.ref x)] h0 [a1] (Q_rs_ifn01 Z a1 vb kb cs x zc vf h0) := by
  refine Ct.of_walk (plainFor_of_name pn_2) hO (allS ⟨g_a1, l_a1⟩ all0) ?_
  intro p e s m below meth c T0 X0
  rw [ef_RR2 m a1 x]
  show Go _ _ _ _ (T0.setTop (mkF m 0 #[.val (.ref a1), .val (.ref x)] []))
  obtain ⟨T1, X1, st1⟩ := X0.getS (hw _ (gm 22 rfl)) Via.refl Sc (g := (mkF m 0 #[.val (.ref a1), .val (.ref x)] [])) rfl j68_71_0
  refine Go.by st1 ?_
  refine X1.ifNo j68_71_3 rfl (XT.i0_eq_f nc) ?_
  refine X1.aloadN j68_71_6 rfl rfl ?_
  obtain ⟨T2, X2, st2⟩ := X1.getF (host := "") (Or.inl (hw _ (gm 27 rfl))) Via.refl pr2 (g := (mkF m 7 #[.val (.ref a1), .val (.ref x)] [(.ref a1)])) rfl rfl j68_71_7
  refine Go.by st2 ?_
  refine X2.aloadN j68_71_10 rfl rfl ?_
  obtain ⟨_, T3, h3, XX3, K3, ⟨rfl, rfl⟩, st3⟩ := X2.viX (W := 1) (hw _ (gm 110 rfl)) (hw _ (gm 88 rfl)) (hw _ (gm 90 rfl)) (hw _ (gm 89 rfl)) (by decide) ((rs_cdr1 l Z a0 hw n0 x zc h0 X2.old pr7 Sc nc).pay (hw _ (gm 91 rfl)) (hw _ (gm 23 rfl)) (by decide) (by decide)) all0 pr6 (g := (mkF m 11 #[.val (.ref a1), .val (.ref x)] [(.ref x), (.int (0 : Int32))])) rfl rfl (argsL := []) (rest := [(.int (0 : Int32))]) (lenOf pd_16 rfl) rfl (by exact Nat.le_of_eq rfl) j68_71_11 rfl (by decide) (by decide)
  refine Go.tr st3 ?_
  have X3 := XX3 [] all0
  refine X3.icmpNo j68_71_14 rfl (XT.ii_eq_f (by decide)) ?_
  refine X3.aloadN j68_71_17 rfl rfl ?_
  obtain ⟨_, T4, h4, XX4, K4, ⟨vb2_4, kb2_4, rfl, fr_vb2_4, fl_vb2_4, P4_0, P4_1, P4_2, P4_3, P4_4⟩, st4⟩ := X3.pvX (W := 0) (hw _ (gm 235 rfl)) (hw _ (gm 236 rfl)) (own_selfsel (hw _ (gm 236 rfl)) (hw _ (gm 238 rfl)) (hw _ (gm 237 rfl)) (by decide)) (hw _ (gm 237 rfl)) (hw _ (gm 239 rfl)) (by decide) ((rs_inf0 l Z a0 hw n0 a1 vb kb cs zc vf h0 X3.old pr0 pr1 pr2 pr3 pr4 pr5 Sc nc Sa Su Sv Sf rf hcs hl hav (X3.ge (.head _)) (X3.lt (.head _))).pay (hw _ (gm 239 rfl)) (hw _ (gm 19 rfl)) (by decide) (by decide)) (allS (.head _) all0) pr0 (g := (mkF m 18 #[.val (.ref a1), .val (.ref x)] [(.ref a1)])) rfl rfl (argsL := []) (rest := []) (lenOf pd_23 rfl) rfl (by exact Nat.le_of_eq rfl) j68_71_18 rfl (by decide) (by decide)
  refine Go.tr st4 ?_
  have X4 := XX4 [vb2_4] (allS (Or.inr ⟨fr_vb2_4, fl_vb2_4⟩) all0)
  have K0_h4 := (Keep.refl h0 [a1]).trans K4 (allS (Or.inl (.head _)) all0)
  have sz_vb2_4 := Nat.le_trans X3.sz fr_vb2_4
  exact X4.retV j68_71_21 K0_h4 ⟨vb2_4, kb2_4, rfl, sz_vb2_4, (X4.lt (.head _)), P4_0, P4_1, P4_2, P4_3, P4_4⟩ (by decide) (by decide)
def Q_rs_psa01 (Z : State) (a1 : Addr) (vb : Addr) (kb : ClassId) (cs : List Int32) (x : Addr) (t : Addr) (ds : List Int32) (kt : ClassId) (zc : Int32) (vf : Value) (h0 : Heap) (ov : Option Value) (hz : Heap) : Prop := ∃ (vb2 : Addr), ∃ (kb2 : ClassId), ov = none ∧ h0.size ≤ vb2 ∧ vb2 < hz.size ∧ Fld Z hz a1 "java/lang/AbstractStringBuilder" "value" "[B" (.ref vb2) ∧ Fld Z hz a1 "java/lang/AbstractStringBuilder" "coder" "B" (.int (1 : Int32)) ∧ Fld Z hz a1 "java/lang/AbstractStringBuilder" "count" "I" (.int (Int32.ofNat cs.length)) ∧ Fld Z hz a1 "java/lang/AbstractStringBuilder" "maybeLatin1" "Z" (.int (0 : Int32)) ∧ Arv Z hz vb2 kb2 .byte (32 : Int32) (StrChars.Road.wideBytes (cs ++ ds)) (.int (0 : Int32))
abbrev RM_rs_psa01 : Room := { frames := 7, cells := 1, slots := 32, locals := 102 }
theorem rs_psa01 (l : Launch) (Z : State) (a0 : Array Value) (hw : ∀ d ∈ tables_1, d.before a0 Z = true) (n0 : Nat) (a1 : Addr) (vb : Addr) (kb : ClassId) (cs : List Int32) (x : Addr) (t : Addr) (ds : List Int32) (kt : ClassId) (zc : Int32) (vf : Value) (h0 : Heap) (hO : Old Z n0 h0) (pr0 : Exa Z h0 a1 "java/lang/StringBuilder") (pr1 : Fld Z h0 a1 "java/lang/AbstractStringBuilder" "value" "[B" (.ref vb)) (pr2 : Fld Z h0 a1 "java/lang/AbstractStringBuilder" "coder" "B" (.int (0 : Int32))) (pr3 : Fld Z h0 a1 "java/lang/AbstractStringBuilder" "count" "I" (.int (Int32.ofNat cs.length))) (pr4 : Fld Z h0 a1 "java/lang/AbstractStringBuilder" "maybeLatin1" "Z" (.int (0 : Int32))) (pr5 : Arv Z h0 vb kb .byte (16 : Int32) (cs.map fun c => Value.int (StrChars.lo8 c)) (.int (0 : Int32))) (pr6 : Exa Z h0 x "java/lang/String") (pr7 : Fld Z h0 x "java/lang/String" "value" "[B" (.ref t)) (pr8 : Fld Z h0 x "java/lang/String" "coder" "B" (.int (1 : Int32))) (pr9 : Arv Z h0 t kt .byte (Int32.ofNat (2 * ds.length)) (StrChars.Road.wideBytes ds) (.int (0 : Int32))) (Sc : SC Z zc) (nc : ¬ (zc = (0 : Int32))) (Sa : SA1 Z) (Su : SU1 Z) (Sv : SV1 Z) (Sf : SF1 Z vf) (rf : vf.isRef = true) (hcs : ∀ c ∈ cs, ¬ c < 0 ∧ ¬ (255 : Int32) < c) (hl : cs.length + ds.length ≤ 10) (hxa : x ≠ a1) (hta : t ≠ a1) (hxv : x ≠ vb) (htv : t ≠ vb) (hav : vb ≠ a1) (g_a1 : n0 ≤ a1) (l_a1 : a1 < h0.size) (g_vb : n0 ≤ vb) (l_vb : vb < h0.size) :
    Ct l (⟨"java/lang/AbstractStringBuilder", "putStringAt", "(ILjava/lang/String;)V"⟩ : MethodName) jdk_68_method_73_code 3 none [] RM_rs_psa01 Z n0 #[(.ref a1), (.int (Int32.ofNat cs.length)), (.ref x)] h0 [a1, vb] (Q_rs_psa01 Z a1 vb kb cs x t ds kt zc vf h0) := by
  refine Ct.of_walk (plainFor_of_name pn_2) hO (allS ⟨g_a1, l_a1⟩ (allS ⟨g_vb, l_vb⟩ all0)) ?_
  intro p e s m below meth c T0 X0
  rw [ef_RIR3 m a1 (Int32.ofNat cs.length) x]
  show Go _ _ _ _ (T0.setTop (mkF m 0 #[.val (.ref a1), .val (.int (Int32.ofNat cs.length)), .val (.ref x)] []))
  refine X0.aloadN j68_73_0 rfl rfl ?_
  refine X0.aloadN j68_73_1 rfl rfl ?_
  have lt_a1_1 := (X0.lt (.head _))
  have lt_t_1 := pr9.lt
  obtain ⟨_, T1, h1, XX1, K1, ⟨vb2_1, kb2_1, rfl, fr_vb2_1, fl_vb2_1, P1_0, P1_1, P1_2, P1_3, P1_4⟩, st1⟩ := X0.pvX (W := 0) (hw _ (gm 105 rfl)) (hw _ (gm 106 rfl)) (own_selfsel (hw _ (gm 106 rfl)) (hw _ (gm 108 rfl)) (hw _ (gm 107 rfl)) (by decide)) (hw _ (gm 107 rfl)) (hw _ (gm 109 rfl)) (by decide) ((rs_ifn01 l Z a0 hw n0 a1 vb kb cs x zc vf h0 X0.old pr0 pr1 pr2 pr3 pr4 pr5 pr6 pr8 Sc nc Sa Su Sv Sf rf hcs (by omega) hav (X0.ge (.head _)) (X0.lt (.head _))).pay (hw _ (gm 109 rfl)) (hw _ (gm 19 rfl)) (by decide) (by decide)) (allS (.head _) all0) pr0 (g := (mkF m 2 #[.val (.ref a1), .val (.int (Int32.ofNat cs.length)), .val (.ref x)] [(.ref x), (.ref a1)])) rfl rfl (argsL := [(.ref x)]) (rest := []) (lenOf pd_17 rfl) rfl (by exact Nat.le_of_eq rfl) j68_73_2 rfl (by decide) (by decide)
  refine Go.tr st1 ?_
  have X1 := XX1 [vb2_1] (allS (Or.inr ⟨fr_vb2_1, fl_vb2_1⟩) all0)
  have K0_h1 := (Keep.refl h0 [a1, vb]).trans K1 (allS (Or.inl (.head _)) all0)
  have ne_a1_vb2_1 := ne_ge lt_a1_1 fr_vb2_1
  have ne_t_vb2_1 := ne_ge lt_t_1 fr_vb2_1
  have sz_vb2_1 := Nat.le_trans X0.sz fr_vb2_1
  refine X1.aloadN j68_73_5 rfl rfl ?_
  refine X1.aloadN j68_73_6 rfl rfl ?_
  obtain ⟨T2, X2, st2⟩ := X1.getF (host := "") (Or.inl (hw _ (gm 25 rfl))) Via.refl P1_0 (g := (mkF m 7 #[.val (.ref a1), .val (.int (Int32.ofNat cs.length)), .val (.ref x)] [(.ref a1), (.ref x)])) rfl rfl j68_73_7
  refine Go.by st2 ?_
  refine X2.iloadN j68_73_10 rfl ?_
  refine X2.aloadN j68_73_11 rfl rfl ?_
  obtain ⟨T3, X3, st3⟩ := X2.getF (host := "") (Or.inl (hw _ (gm 27 rfl))) Via.refl P1_1 (g := (mkF m 12 #[.val (.ref a1), .val (.int (Int32.ofNat cs.length)), .val (.ref x)] [(.ref a1), (.int (Int32.ofNat cs.length)), (.ref vb2_1), (.ref x)])) rfl rfl j68_73_12
  refine Go.by st3 ?_
  have f4 := (pr6).keep K1
  have f5 := (pr7).keep K1 (ninS hxa nin0)
  have f6 := (pr8).keep K1 (ninS hxa nin0)
  have f7 := (pr9).keep K1 (ninS hta nin0)
  obtain ⟨_, T8, h8, XX8, K8, ⟨rfl, P8_0⟩, st8⟩ := X3.viX (W := 0) (hw _ (gm 111 rfl)) (hw _ (gm 112 rfl)) (hw _ (gm 114 rfl)) (hw _ (gm 113 rfl)) (by decide) ((rs_gtb1 l Z a0 hw n0 x t ds kt vb2_1 kb2_1 cs zc vf h1 X3.old f4 f5 f6 f7 P1_4 Sc nc Sa Su Sv Sf rf hl ne_t_vb2_1 (X3.ge (.head _)) (X3.lt (.head _))).pay (hw _ (gm 115 rfl)) (hw _ (gm 23 rfl)) (by decide) (by decide)) (allS (.head _) all0) f4 (g := (mkF m 15 #[.val (.ref a1), .val (.int (Int32.ofNat cs.length)), .val (.ref x)] [(.int (1 : Int32)), (.int (Int32.ofNat cs.length)), (.ref vb2_1), (.ref x)])) rfl rfl (argsL := [(.ref vb2_1), (.int (Int32.ofNat cs.length)), (.int (1 : Int32))]) (rest := []) (lenOf pd_18 rfl) rfl (by exact Nat.le_of_eq rfl) j68_73_15 rfl (by decide) (by decide)
  refine Go.tr st8 ?_
  have X8 := XX8 [] all0
  have K0_h8 := K0_h1.trans K8 (allS (Or.inr sz_vb2_1) all0)
  have f9 := (P1_0).keep K8 (ninS ne_a1_vb2_1 nin0)
  have f10 := (P1_1).keep K8 (ninS ne_a1_vb2_1 nin0)
  have f11 := (P1_2).keep K8 (ninS ne_a1_vb2_1 nin0)
  have f12 := (P1_3).keep K8 (ninS ne_a1_vb2_1 nin0)
  exact X8.retV j68_73_18 K0_h8 ⟨vb2_1, kb2_1, rfl, sz_vb2_1, (X8.lt (.head _)), f9, f10, f11, f12, P8_0⟩ (by decide) (by decide)
def Q_rs_aps01 (Z : State) (a1 : Addr) (vb : Addr) (kb : ClassId) (cs : List Int32) (x : Addr) (t : Addr) (ds : List Int32) (zc : Int32) (vf : Value) (h0 : Heap) (ov : Option Value) (hz : Heap) : Prop := ∃ (vb2 : Addr), ∃ (kb2 : ClassId), ov = some (.ref a1) ∧ h0.size ≤ vb2 ∧ vb2 < hz.size ∧ Fld Z hz a1 "java/lang/AbstractStringBuilder" "value" "[B" (.ref vb2) ∧ Fld Z hz a1 "java/lang/AbstractStringBuilder" "coder" "B" (.int (1 : Int32)) ∧ Fld Z hz a1 "java/lang/AbstractStringBuilder" "count" "I" (.int (Int32.ofNat (cs ++ ds).length)) ∧ Fld Z hz a1 "java/lang/AbstractStringBuilder" "maybeLatin1" "Z" (.int (0 : Int32)) ∧ Arv Z hz vb2 kb2 .byte (32 : Int32) (StrChars.Road.wideBytes (cs ++ ds)) (.int (0 : Int32))
abbrev RM_rs_aps01 : Room := { frames := 8, cells := 1, slots := 32, locals := 116 }
theorem rs_aps01 (l : Launch) (Z : State) (a0 : Array Value) (hw : ∀ d ∈ tables_1, d.before a0 Z = true) (n0 : Nat) (a1 : Addr) (vb : Addr) (kb : ClassId) (cs : List Int32) (x : Addr) (t : Addr) (ds : List Int32) (zc : Int32) (vf : Value) (h0 : Heap) (hO : Old Z n0 h0) (pr0 : Exa Z h0 a1 "java/lang/StringBuilder") (pr1 : Fld Z h0 a1 "java/lang/AbstractStringBuilder" "value" "[B" (.ref vb)) (pr2 : Fld Z h0 a1 "java/lang/AbstractStringBuilder" "coder" "B" (.int (0 : Int32))) (pr3 : Fld Z h0 a1 "java/lang/AbstractStringBuilder" "count" "I" (.int (Int32.ofNat cs.length))) (pr4 : Fld Z h0 a1 "java/lang/AbstractStringBuilder" "maybeLatin1" "Z" (.int (0 : Int32))) (pr5 : Arv Z h0 vb kb .byte (16 : Int32) (cs.map fun c => Value.int (StrChars.lo8 c)) (.int (0 : Int32))) (pr6 : Str Z h0 x t ds) (Sc : SC Z zc) (nc : ¬ (zc = (0 : Int32))) (Sa : SA1 Z) (Su : SU1 Z) (Sv : SV1 Z) (Sf : SF1 Z vf) (rf : vf.isRef = true) (hcs : ∀ c ∈ cs, ¬ c < 0 ∧ ¬ (255 : Int32) < c) (hl : cs.length + ds.length ≤ 10) (hxa : x ≠ a1) (hta : t ≠ a1) (hxv : x ≠ vb) (htv : t ≠ vb) (hav : vb ≠ a1) (hk : ∃ c ∈ ds, (255 : Int32) < c) (g_a1 : n0 ≤ a1) (l_a1 : a1 < h0.size) (g_vb : n0 ≤ vb) (l_vb : vb < h0.size) :
    Ct l (⟨"java/lang/AbstractStringBuilder", "append", "(Ljava/lang/String;)Ljava/lang/AbstractStringBuilder;"⟩ : MethodName) jdk_68_method_22_code 3 (some (.object "java/lang/AbstractStringBuilder")) [] RM_rs_aps01 Z n0 #[(.ref a1), (.ref x)] h0 [a1, vb] (Q_rs_aps01 Z a1 vb kb cs x t ds zc vf h0) := by
  refine Ct.of_walk (plainFor_of_name pn_2) hO (allS ⟨g_a1, l_a1⟩ (allS ⟨g_vb, l_vb⟩ all0)) ?_
  intro p e s m below meth c T0 X0
  rw [ef_RR3 m a1 x]
  show Go _ _ _ _ (T0.setTop (mkF m 0 #[.val (.ref a1), .val (.ref x), .unset] []))
  have f1 : Exa Z h0 x "java/lang/String" := pr6.exa
  obtain ⟨kt2, V2, C2, A2, L2⟩ := own_wid pr6 hk
  refine X0.aloadN j68_22_0 rfl rfl ?_
  refine X0.ifnonnullYes (pc0 := 1) (pc' := 9) rfl j68_22_1 rfl (by decide) (by decide) ?_
  refine X0.aloadN j68_22_9 rfl rfl ?_
  obtain ⟨_, T3, h3, XX3, K3, ⟨rfl, rfl⟩, st3⟩ := X0.viX (W := 0) (hw _ (gm 82 rfl)) (hw _ (gm 83 rfl)) (hw _ (gm 85 rfl)) (hw _ (gm 84 rfl)) (by decide) (payLen (fun d hd => hw d ((by decide +kernel : ∀ d ∈ StrChars.Road.wordsLen, d ∈ tables_1) d hd)) (hw _ (gm 36 rfl)) X0.old pr6 Sc nc (by decide) (by decide)) all0 f1 (g := (mkF m 10 #[.val (.ref a1), .val (.ref x), .unset] [(.ref x)])) rfl rfl (argsL := []) (rest := []) (lenOf pd_9 rfl) rfl (by exact Nat.le_of_eq rfl) j68_22_10 rfl (by decide) (by decide)
  refine Go.tr st3 ?_
  have X3 := XX3 [] all0
  refine X3.istoreN j68_22_13 rfl (l' := #[.val (.ref a1), .val (.ref x), .val (.int (Int32.ofNat (ds).length))]) rfl ?_
  refine X3.aloadN j68_22_14 rfl rfl ?_
  refine X3.aloadN j68_22_15 rfl rfl ?_
  obtain ⟨T4, X4, st4⟩ := X3.getF (host := "") (Or.inl (hw _ (gm 93 rfl))) Via.refl pr3 (g := (mkF m 16 #[.val (.ref a1), .val (.ref x), .val (.int (Int32.ofNat (ds).length))] [(.ref a1), (.ref a1)])) rfl rfl j68_22_16
  refine Go.by st4 ?_
  refine X4.iloadN j68_22_19 rfl ?_
  refine X4.iadd j68_22_20 rfl ?_
  show Go _ _ _ _ (T4.setTop (mkF m 21 #[.val (.ref a1), .val (.ref x), .val (.int (Int32.ofNat (ds).length))] [(.int ((Int32.ofNat cs.length) + (Int32.ofNat (ds).length))), (.ref a1)]))
  rw [own_onn]
  show Go _ _ _ _ (T4.setTop (mkF m 21 #[.val (.ref a1), .val (.ref x), .val (.int (Int32.ofNat (ds).length))] [(.int (Int32.ofNat (cs.length + ds.length))), (.ref a1)]))
  obtain ⟨_, T5, h5, XX5, K5, ⟨rfl, rfl⟩, st5⟩ := X4.pvX (W := 0) (hw _ (gm 95 rfl)) (hw _ (gm 96 rfl)) (own_selfsel (hw _ (gm 96 rfl)) (hw _ (gm 98 rfl)) (hw _ (gm 97 rfl)) (by decide)) (hw _ (gm 97 rfl)) (hw _ (gm 99 rfl)) (by decide) ((rs_en0 l Z a0 hw n0 a1 (cs.length + ds.length) vb kb (cs.map fun c => Value.int (StrChars.lo8 c)) h0 X4.old pr1 pr2 pr5 (by omega)).pay (hw _ (gm 99 rfl)) (hw _ (gm 19 rfl)) (by decide) (by decide)) all0 pr0 (g := (mkF m 21 #[.val (.ref a1), .val (.ref x), .val (.int (Int32.ofNat (ds).length))] [(.int (Int32.ofNat (cs.length + ds.length))), (.ref a1)])) rfl rfl (argsL := [(.int (Int32.ofNat (cs.length + ds.length)))]) (rest := []) (lenOf pd_8 rfl) rfl (by exact Nat.le_of_eq rfl) j68_22_21 rfl (by decide) (by decide)
  refine Go.tr st5 ?_
  have X5 := XX5 [] all0
  refine X5.aloadN j68_22_24 rfl rfl ?_
  refine X5.aloadN j68_22_25 rfl rfl ?_
  obtain ⟨T6, X6, st6⟩ := X5.getF (host := "") (Or.inl (hw _ (gm 93 rfl))) Via.refl pr3 (g := (mkF m 26 #[.val (.ref a1), .val (.ref x), .val (.int (Int32.ofNat (ds).length))] [(.ref a1), (.ref a1)])) rfl rfl j68_22_26
  refine Go.by st6 ?_
  refine X6.aloadN j68_22_29 rfl rfl ?_
  have lt_a1_7 := (X6.lt (.head _))
  obtain ⟨_, T7, h7, XX7, K7, ⟨vb2_7, kb2_7, rfl, fr_vb2_7, fl_vb2_7, P7_0, P7_1, P7_2, P7_3, P7_4⟩, st7⟩ := X6.pvX (W := 0) (hw _ (gm 100 rfl)) (hw _ (gm 101 rfl)) (own_selfsel (hw _ (gm 101 rfl)) (hw _ (gm 103 rfl)) (hw _ (gm 102 rfl)) (by decide)) (hw _ (gm 102 rfl)) (hw _ (gm 104 rfl)) (by decide) ((rs_psa01 l Z a0 hw n0 a1 vb kb cs x t ds kt2 zc vf h0 X6.old pr0 pr1 pr2 pr3 pr4 pr5 f1 V2 C2 A2 Sc nc Sa Su Sv Sf rf hcs hl hxa hta hxv htv hav (X6.ge (.head _)) (X6.lt (.head _)) (X6.ge (.tail _ (.head _))) (X6.lt (.tail _ (.head _)))).pay (hw _ (gm 104 rfl)) (hw _ (gm 19 rfl)) (by decide) (by decide)) (allS (.head _) (allS (.tail _ (.head _)) all0)) pr0 (g := (mkF m 30 #[.val (.ref a1), .val (.ref x), .val (.int (Int32.ofNat (ds).length))] [(.ref x), (.int (Int32.ofNat cs.length)), (.ref a1)])) rfl rfl (argsL := [(.int (Int32.ofNat cs.length)), (.ref x)]) (rest := []) (lenOf pd_19 rfl) rfl (by exact Nat.le_of_eq rfl) j68_22_30 rfl (by decide) (by decide)
  refine Go.tr st7 ?_
  have X7 := XX7 [vb2_7] (allS (Or.inr ⟨fr_vb2_7, fl_vb2_7⟩) all0)
  have K0_h7 := (Keep.refl h0 [a1, vb]).trans K7 (allS (Or.inl (.head _)) (allS (Or.inl (.tail _ (.head _))) all0))
  have ne_a1_vb2_7 := ne_ge lt_a1_7 fr_vb2_7
  have sz_vb2_7 := Nat.le_trans X6.sz fr_vb2_7
  refine X7.aloadN j68_22_33 rfl rfl ?_
  refine X7.dup j68_22_34 rfl rfl ?_
  obtain ⟨T8, X8, st8⟩ := X7.getF (host := "") (Or.inl (hw _ (gm 93 rfl))) Via.refl P7_2 (g := (mkF m 35 #[.val (.ref a1), .val (.ref x), .val (.int (Int32.ofNat (ds).length))] [(.ref a1), (.ref a1)])) rfl rfl j68_22_35
  refine Go.by st8 ?_
  refine X8.iloadN j68_22_38 rfl ?_
  refine X8.iadd j68_22_39 rfl ?_
  show Go _ _ _ _ (T8.setTop (mkF m 40 #[.val (.ref a1), .val (.ref x), .val (.int (Int32.ofNat (ds).length))] [(.int ((Int32.ofNat cs.length) + (Int32.ofNat (ds).length))), (.ref a1)]))
  rw [own_onn, ← List.length_append]
  show Go _ _ _ _ (T8.setTop (mkF m 40 #[.val (.ref a1), .val (.ref x), .val (.int (Int32.ofNat (ds).length))] [(.int (Int32.ofNat (cs ++ ds).length)), (.ref a1)]))
  have f10 := (pr0).keep K7
  obtain ⟨T9, h9, X9, W9, st9⟩ := X8.putF (host := "") (Or.inl (hw _ (gm 93 rfl))) Via.refl P7_2 f10 (Or.inl (hw _ (gm 94 rfl))) (hw _ (gm 10 rfl)) (.tail _ (.head _)) (ty := .int) (by decide) rfl rfl (g := (mkF m 40 #[.val (.ref a1), .val (.ref x), .val (.int (Int32.ofNat (ds).length))] [(.int (Int32.ofNat (cs ++ ds).length)), (.ref a1)])) rfl rfl j68_22_40
  refine Go.by st9 ?_
  have K0_h9 := K0_h7.wr W9 (Or.inl (.head _))
  have F9 : Fld Z h9 a1 "java/lang/AbstractStringBuilder" "count" "I" (.int (Int32.ofNat (cs ++ ds).length)) := P7_2.same W9
  refine X9.aloadN j68_22_43 rfl rfl ?_
  have f11 := (P7_0).other W9 (Or.inr (slot_ne (Or.inl (hw _ (gm 26 rfl))) (Or.inl (hw _ (gm 94 rfl))) (by decide) (t := (.array .byte)) (t' := .int) (by decide) (by decide)))
  have f12 := (P7_1).other W9 (Or.inr (slot_ne (Or.inl (hw _ (gm 28 rfl))) (Or.inl (hw _ (gm 94 rfl))) (by decide) (t := .byte) (t' := .int) (by decide) (by decide)))
  have f13 := (P7_3).other W9 (Or.inr (slot_ne (Or.inl (hw _ (gm 274 rfl))) (Or.inl (hw _ (gm 94 rfl))) (by decide) (t := .boolean) (t' := .int) (by decide) (by decide)))
  have f14 := (P7_4).other W9 ne_a1_vb2_7.symm
  exact X9.retR rfl rfl j68_22_44 K0_h9 ⟨vb2_7, kb2_7, rfl, sz_vb2_7, (X9.lt (.head _)), f11, f12, F9, f13, f14⟩ (by decide) (by decide)
def Q_rs_sap01 (Z : State) (a1 : Addr) (vb : Addr) (kb : ClassId) (cs : List Int32) (x : Addr) (t : Addr) (ds : List Int32) (zc : Int32) (vf : Value) (h0 : Heap) (ov : Option Value) (hz : Heap) : Prop := ∃ (vb2 : Addr), ∃ (kb2 : ClassId), ov = some (.ref a1) ∧ h0.size ≤ vb2 ∧ vb2 < hz.size ∧ Fld Z hz a1 "java/lang/AbstractStringBuilder" "value" "[B" (.ref vb2) ∧ Fld Z hz a1 "java/lang/AbstractStringBuilder" "coder" "B" (.int (1 : Int32)) ∧ Fld Z hz a1 "java/lang/AbstractStringBuilder" "count" "I" (.int (Int32.ofNat (cs ++ ds).length)) ∧ Fld Z hz a1 "java/lang/AbstractStringBuilder" "maybeLatin1" "Z" (.int (0 : Int32)) ∧ Arv Z hz vb2 kb2 .byte (32 : Int32) (StrChars.Road.wideBytes (cs ++ ds)) (.int (0 : Int32))
abbrev RM_rs_sap01 : Room := { frames := 9, cells := 1, slots := 32, locals := 130 }
theorem rs_sap01 (l : Launch) (Z : State) (a0 : Array Value) (hw : ∀ d ∈ tables_1, d.before a0 Z = true) (n0 : Nat) (a1 : Addr) (vb : Addr) (kb : ClassId) (cs : List Int32) (x : Addr) (t : Addr) (ds : List Int32) (zc : Int32) (vf : Value) (h0 : Heap) (hO : Old Z n0 h0) (pr0 : Exa Z h0 a1 "java/lang/StringBuilder") (pr1 : Fld Z h0 a1 "java/lang/AbstractStringBuilder" "value" "[B" (.ref vb)) (pr2 : Fld Z h0 a1 "java/lang/AbstractStringBuilder" "coder" "B" (.int (0 : Int32))) (pr3 : Fld Z h0 a1 "java/lang/AbstractStringBuilder" "count" "I" (.int (Int32.ofNat cs.length))) (pr4 : Fld Z h0 a1 "java/lang/AbstractStringBuilder" "maybeLatin1" "Z" (.int (0 : Int32))) (pr5 : Arv Z h0 vb kb .byte (16 : Int32) (cs.map fun c => Value.int (StrChars.lo8 c)) (.int (0 : Int32))) (pr6 : Str Z h0 x t ds) (Sc : SC Z zc) (nc : ¬ (zc = (0 : Int32))) (Sa : SA1 Z) (Su : SU1 Z) (Sv : SV1 Z) (Sf : SF1 Z vf) (rf : vf.isRef = true) (hcs : ∀ c ∈ cs, ¬ c < 0 ∧ ¬ (255 : Int32) < c) (hl : cs.length + ds.length ≤ 10) (hxa : x ≠ a1) (hta : t ≠ a1) (hxv : x ≠ vb) (htv : t ≠ vb) (hav : vb ≠ a1) (hk : ∃ c ∈ ds, (255 : Int32) < c) (g_a1 : n0 ≤ a1) (l_a1 : a1 < h0.size) (g_vb : n0 ≤ vb) (l_vb : vb < h0.size) :
    Ct l (⟨"java/lang/StringBuilder", "append", "(Ljava/lang/String;)Ljava/lang/StringBuilder;"⟩ : MethodName) jdk_67_method_7_code 2 (some (.object "java/lang/StringBuilder")) [] RM_rs_sap01 Z n0 #[(.ref a1), (.ref x)] h0 [a1, vb] (Q_rs_sap01 Z a1 vb kb cs x t ds zc vf h0) := by
  refine Ct.of_walk (plainFor_of_name pn_3) hO (allS ⟨g_a1, l_a1⟩ (allS ⟨g_vb, l_vb⟩ all0)) ?_
  intro p e s m below meth c T0 X0
  rw [ef_RR2 m a1 x]
  show Go _ _ _ _ (T0.setTop (mkF m 0 #[.val (.ref a1), .val (.ref x)] []))
  refine X0.aloadN j67_7_0 rfl rfl ?_
  refine X0.aloadN j67_7_1 rfl rfl ?_
  obtain ⟨_, T2, h2, XX2, K2, ⟨vb2_2, kb2_2, rfl, fr_vb2_2, fl_vb2_2, P2_0, P2_1, P2_2, P2_3, P2_4⟩, st2⟩ := X0.suX (W := 0) (hw _ (gm 80 rfl)) (own_same (hw _ (gm 71 rfl)) (hw _ (gm 65 rfl)) (by decide) (own_notface (y := (⟨"java/lang/AbstractStringBuilder", "ensureCapacityInternal", "(I)V"⟩ : MethodName)) (hw _ (gm 96 rfl)) (hw _ (gm 98 rfl)))) (hw _ (gm 71 rfl)) (hw _ (gm 65 rfl)) (by decide) (hw _ (gm 81 rfl)) ((rs_aps01 l Z a0 hw n0 a1 vb kb cs x t ds zc vf h0 X0.old pr0 pr1 pr2 pr3 pr4 pr5 pr6 Sc nc Sa Su Sv Sf rf hcs hl hxa hta hxv htv hav hk (X0.ge (.head _)) (X0.lt (.head _)) (X0.ge (.tail _ (.head _))) (X0.lt (.tail _ (.head _)))).pay (hw _ (gm 81 rfl)) (hw _ (gm 19 rfl)) (by decide) (by decide)) (allS (.head _) (allS (.tail _ (.head _)) all0)) (Ins.self pr0) (g := (mkF m 2 #[.val (.ref a1), .val (.ref x)] [(.ref x), (.ref a1)])) rfl rfl (argsL := [(.ref x)]) (rest := []) (lenOf pd_20 rfl) rfl (by exact Nat.le_of_eq rfl) j67_7_2 rfl (by decide) (by decide)
  refine Go.tr st2 ?_
  have X2 := XX2 [vb2_2] (allS (Or.inr ⟨fr_vb2_2, fl_vb2_2⟩) all0)
  have K0_h2 := (Keep.refl h0 [a1, vb]).trans K2 (allS (Or.inl (.head _)) (allS (Or.inl (.tail _ (.head _))) all0))
  have sz_vb2_2 := Nat.le_trans X0.sz fr_vb2_2
  refine X2.pop j67_7_5 rfl rfl ?_
  refine X2.aloadN j67_7_6 rfl rfl ?_
  exact X2.retR rfl rfl j67_7_7 K0_h2 ⟨vb2_2, kb2_2, rfl, sz_vb2_2, (X2.lt (.head _)), P2_0, P2_1, P2_2, P2_3, P2_4⟩ (by decide) (by decide)
def Q_rs_brd01 (Z : State) (a1 : Addr) (vb : Addr) (kb : ClassId) (cs : List Int32) (x : Addr) (t : Addr) (ds : List Int32) (zc : Int32) (vf : Value) (h0 : Heap) (ov : Option Value) (hz : Heap) : Prop := ∃ (vb2 : Addr), ∃ (kb2 : ClassId), ov = some (.ref a1) ∧ h0.size ≤ vb2 ∧ vb2 < hz.size ∧ Fld Z hz a1 "java/lang/AbstractStringBuilder" "value" "[B" (.ref vb2) ∧ Fld Z hz a1 "java/lang/AbstractStringBuilder" "coder" "B" (.int (1 : Int32)) ∧ Fld Z hz a1 "java/lang/AbstractStringBuilder" "count" "I" (.int (Int32.ofNat (cs ++ ds).length)) ∧ Fld Z hz a1 "java/lang/AbstractStringBuilder" "maybeLatin1" "Z" (.int (0 : Int32)) ∧ Arv Z hz vb2 kb2 .byte (32 : Int32) (StrChars.Road.wideBytes (cs ++ ds)) (.int (0 : Int32))
abbrev RM_rs_brd01 : Room := { frames := 10, cells := 1, slots := 32, locals := 143 }
theorem rs_brd01 (l : Launch) (Z : State) (a0 : Array Value) (hw : ∀ d ∈ tables_1, d.before a0 Z = true) (n0 : Nat) (a1 : Addr) (vb : Addr) (kb : ClassId) (cs : List Int32) (x : Addr) (t : Addr) (ds : List Int32) (zc : Int32) (vf : Value) (h0 : Heap) (hO : Old Z n0 h0) (pr0 : Exa Z h0 a1 "java/lang/StringBuilder") (pr1 : Fld Z h0 a1 "java/lang/AbstractStringBuilder" "value" "[B" (.ref vb)) (pr2 : Fld Z h0 a1 "java/lang/AbstractStringBuilder" "coder" "B" (.int (0 : Int32))) (pr3 : Fld Z h0 a1 "java/lang/AbstractStringBuilder" "count" "I" (.int (Int32.ofNat cs.length))) (pr4 : Fld Z h0 a1 "java/lang/AbstractStringBuilder" "maybeLatin1" "Z" (.int (0 : Int32))) (pr5 : Arv Z h0 vb kb .byte (16 : Int32) (cs.map fun c => Value.int (StrChars.lo8 c)) (.int (0 : Int32))) (pr6 : Str Z h0 x t ds) (Sc : SC Z zc) (nc : ¬ (zc = (0 : Int32))) (Sa : SA1 Z) (Su : SU1 Z) (Sv : SV1 Z) (Sf : SF1 Z vf) (rf : vf.isRef = true) (hcs : ∀ c ∈ cs, ¬ c < 0 ∧ ¬ (255 : Int32) < c) (hl : cs.length + ds.length ≤ 10) (hxa : x ≠ a1) (hta : t ≠ a1) (hxv : x ≠ vb) (htv : t ≠ vb) (hav : vb ≠ a1) (hk : ∃ c ∈ ds, (255 : Int32) < c) (g_a1 : n0 ≤ a1) (l_a1 : a1 < h0.size) (g_vb : n0 ≤ vb) (l_vb : vb < h0.size) :
    Ct l (⟨"java/lang/StringBuilder", "append", "(Ljava/lang/String;)Ljava/lang/AbstractStringBuilder;"⟩ : MethodName) jdk_67_method_80_code 2 (some (.object "java/lang/AbstractStringBuilder")) [] RM_rs_brd01 Z n0 #[(.ref a1), (.ref x)] h0 [a1, vb] (Q_rs_brd01 Z a1 vb kb cs x t ds zc vf h0) := by
  refine Ct.of_walk (plainFor_of_name pn_3) hO (allS ⟨g_a1, l_a1⟩ (allS ⟨g_vb, l_vb⟩ all0)) ?_
  intro p e s m below meth c T0 X0
  rw [ef_RR2 m a1 x]
  show Go _ _ _ _ (T0.setTop (mkF m 0 #[.val (.ref a1), .val (.ref x)] []))
  refine X0.aloadN j67_80_0 rfl rfl ?_
  refine X0.aloadN j67_80_1 rfl rfl ?_
  obtain ⟨_, T2, h2, XX2, K2, ⟨vb2_2, kb2_2, rfl, fr_vb2_2, fl_vb2_2, P2_0, P2_1, P2_2, P2_3, P2_4⟩, st2⟩ := X0.viX (W := 0) (hw _ (gm 75 rfl)) (hw _ (gm 76 rfl)) (hw _ (gm 78 rfl)) (hw _ (gm 77 rfl)) (by decide) ((rs_sap01 l Z a0 hw n0 a1 vb kb cs x t ds zc vf h0 X0.old pr0 pr1 pr2 pr3 pr4 pr5 pr6 Sc nc Sa Su Sv Sf rf hcs hl hxa hta hxv htv hav hk (X0.ge (.head _)) (X0.lt (.head _)) (X0.ge (.tail _ (.head _))) (X0.lt (.tail _ (.head _)))).pay (hw _ (gm 79 rfl)) (hw _ (gm 11 rfl)) (by decide) (by decide)) (allS (.head _) (allS (.tail _ (.head _)) all0)) pr0 (g := (mkF m 2 #[.val (.ref a1), .val (.ref x)] [(.ref x), (.ref a1)])) rfl rfl (argsL := [(.ref x)]) (rest := []) (lenOf pd_21 rfl) rfl (by exact Nat.le_of_eq rfl) j67_80_2 rfl (by decide) (by decide)
  refine Go.tr st2 ?_
  have X2 := XX2 [vb2_2] (allS (Or.inr ⟨fr_vb2_2, fl_vb2_2⟩) all0)
  have K0_h2 := (Keep.refl h0 [a1, vb]).trans K2 (allS (Or.inl (.head _)) (allS (Or.inl (.tail _ (.head _))) all0))
  have sz_vb2_2 := Nat.le_trans X0.sz fr_vb2_2
  exact X2.retR rfl rfl j67_80_5 K0_h2 ⟨vb2_2, kb2_2, rfl, sz_vb2_2, (X2.lt (.head _)), P2_0, P2_1, P2_2, P2_3, P2_4⟩ (by decide) (by decide)
def Q_rs_acs01 (Z : State) (a1 : Addr) (vb : Addr) (kb : ClassId) (cs : List Int32) (x : Addr) (t : Addr) (ds : List Int32) (zc : Int32) (vf : Value) (h0 : Heap) (ov : Option Value) (hz : Heap) : Prop := ∃ (vb2 : Addr), ∃ (kb2 : ClassId), ov = some (.ref a1) ∧ h0.size ≤ vb2 ∧ vb2 < hz.size ∧ Fld Z hz a1 "java/lang/AbstractStringBuilder" "value" "[B" (.ref vb2) ∧ Fld Z hz a1 "java/lang/AbstractStringBuilder" "coder" "B" (.int (1 : Int32)) ∧ Fld Z hz a1 "java/lang/AbstractStringBuilder" "count" "I" (.int (Int32.ofNat (cs ++ ds).length)) ∧ Fld Z hz a1 "java/lang/AbstractStringBuilder" "maybeLatin1" "Z" (.int (0 : Int32)) ∧ Arv Z hz vb2 kb2 .byte (32 : Int32) (StrChars.Road.wideBytes (cs ++ ds)) (.int (0 : Int32))
abbrev RM_rs_acs01 : Room := { frames := 11, cells := 1, slots := 32, locals := 156 }
theorem rs_acs01 (l : Launch) (Z : State) (a0 : Array Value) (hw : ∀ d ∈ tables_1, d.before a0 Z = true) (n0 : Nat) (a1 : Addr) (vb : Addr) (kb : ClassId) (cs : List Int32) (x : Addr) (t : Addr) (ds : List Int32) (zc : Int32) (vf : Value) (h0 : Heap) (hO : Old Z n0 h0) (pr0 : Exa Z h0 a1 "java/lang/StringBuilder") (pr1 : Fld Z h0 a1 "java/lang/AbstractStringBuilder" "value" "[B" (.ref vb)) (pr2 : Fld Z h0 a1 "java/lang/AbstractStringBuilder" "coder" "B" (.int (0 : Int32))) (pr3 : Fld Z h0 a1 "java/lang/AbstractStringBuilder" "count" "I" (.int (Int32.ofNat cs.length))) (pr4 : Fld Z h0 a1 "java/lang/AbstractStringBuilder" "maybeLatin1" "Z" (.int (0 : Int32))) (pr5 : Arv Z h0 vb kb .byte (16 : Int32) (cs.map fun c => Value.int (StrChars.lo8 c)) (.int (0 : Int32))) (pr6 : Str Z h0 x t ds) (Sc : SC Z zc) (nc : ¬ (zc = (0 : Int32))) (Sa : SA1 Z) (Su : SU1 Z) (Sv : SV1 Z) (Sf : SF1 Z vf) (rf : vf.isRef = true) (hcs : ∀ c ∈ cs, ¬ c < 0 ∧ ¬ (255 : Int32) < c) (hl : cs.length + ds.length ≤ 10) (hxa : x ≠ a1) (hta : t ≠ a1) (hxv : x ≠ vb) (htv : t ≠ vb) (hav : vb ≠ a1) (hk : ∃ c ∈ ds, (255 : Int32) < c) (g_a1 : n0 ≤ a1) (l_a1 : a1 < h0.size) (g_vb : n0 ≤ vb) (l_vb : vb < h0.size) :
    Ct l (⟨"java/lang/AbstractStringBuilder", "append", "(Ljava/lang/CharSequence;)Ljava/lang/AbstractStringBuilder;"⟩ : MethodName) jdk_68_method_25_code 2 (some (.object "java/lang/AbstractStringBuilder")) [] RM_rs_acs01 Z n0 #[(.ref a1), (.ref x)] h0 [a1, vb] (Q_rs_acs01 Z a1 vb kb cs x t ds zc vf h0) := by
  refine Ct.of_walk (plainFor_of_name pn_2) hO (allS ⟨g_a1, l_a1⟩ (allS ⟨g_vb, l_vb⟩ all0)) ?_
  intro p e s m below meth c T0 X0
  rw [ef_RR2 m a1 x]
  show Go _ _ _ _ (T0.setTop (mkF m 0 #[.val (.ref a1), .val (.ref x)] []))
  have f1 : Exa Z h0 x "java/lang/String" := pr6.exa
  refine X0.aloadN j68_25_0 rfl rfl ?_
  refine X0.ifnonnullYes (pc0 := 1) (pc' := 9) rfl j68_25_1 rfl (by decide) (by decide) ?_
  refine X0.aloadN j68_25_9 rfl rfl ?_
  obtain ⟨T2, X2, st2⟩ := X0.instY (hw _ (gm 68 rfl)) (Ins.self f1) (g := (mkF m 10 #[.val (.ref a1), .val (.ref x)] [(.ref x)])) rfl rfl j68_25_10
  refine Go.by st2 ?_
  refine X2.ifNo j68_25_13 rfl (XT.i0_eq_f (by decide)) ?_
  refine X2.aloadN j68_25_16 rfl rfl ?_
  refine X2.aloadN j68_25_17 rfl rfl ?_
  obtain ⟨T3, X3, st3⟩ := X2.castY (hw _ (gm 68 rfl)) (Ins.self f1) (g := (mkF m 18 #[.val (.ref a1), .val (.ref x)] [(.ref x), (.ref a1)])) rfl rfl j68_25_18
  refine Go.by st3 ?_
  obtain ⟨_, T4, h4, XX4, K4, ⟨vb2_4, kb2_4, rfl, fr_vb2_4, fl_vb2_4, P4_0, P4_1, P4_2, P4_3, P4_4⟩, st4⟩ := X3.voX (y' := (⟨"java/lang/AbstractStringBuilder", "append", "(Ljava/lang/String;)Ljava/lang/AbstractStringBuilder;"⟩ : MethodName)) (z' := (⟨"java/lang/StringBuilder", "append", "(Ljava/lang/String;)Ljava/lang/AbstractStringBuilder;"⟩ : MethodName)) (W := 0) (hw _ (gm 69 rfl)) (hw _ (gm 70 rfl)) (own_nf (y2 := (⟨"java/lang/AbstractStringBuilder", "ensureCapacityInternal", "(I)V"⟩ : MethodName)) rfl (hw _ (gm 98 rfl))) (hw _ (gm 72 rfl)) (hw _ (gm 73 rfl)) (by decide) ((rs_brd01 l Z a0 hw n0 a1 vb kb cs x t ds zc vf h0 X3.old pr0 pr1 pr2 pr3 pr4 pr5 pr6 Sc nc Sa Su Sv Sf rf hcs hl hxa hta hxv htv hav hk (X3.ge (.head _)) (X3.lt (.head _)) (X3.ge (.tail _ (.head _))) (X3.lt (.tail _ (.head _)))).pay (hw _ (gm 74 rfl)) (hw _ (gm 11 rfl)) (by decide) (by decide)) (allS (.head _) (allS (.tail _ (.head _)) all0)) pr0 (g := (mkF m 21 #[.val (.ref a1), .val (.ref x)] [(.ref x), (.ref a1)])) rfl rfl (argsL := [(.ref x)]) (rest := []) (lenOf pd_20 rfl) rfl (by exact Nat.le_of_eq rfl) j68_25_21 rfl (by decide) (by decide)
  refine Go.tr st4 ?_
  have X4 := XX4 [vb2_4] (allS (Or.inr ⟨fr_vb2_4, fl_vb2_4⟩) all0)
  have K0_h4 := (Keep.refl h0 [a1, vb]).trans K4 (allS (Or.inl (.head _)) (allS (Or.inl (.tail _ (.head _))) all0))
  have sz_vb2_4 := Nat.le_trans X3.sz fr_vb2_4
  exact X4.retR rfl rfl j68_25_24 K0_h4 ⟨vb2_4, kb2_4, rfl, sz_vb2_4, (X4.lt (.head _)), P4_0, P4_1, P4_2, P4_3, P4_4⟩ (by decide) (by decide)
def Q_rs_scs01 (Z : State) (a1 : Addr) (vb : Addr) (kb : ClassId) (cs : List Int32) (x : Addr) (t : Addr) (ds : List Int32) (zc : Int32) (vf : Value) (h0 : Heap) (ov : Option Value) (hz : Heap) : Prop := ∃ (vb2 : Addr), ∃ (kb2 : ClassId), ov = some (.ref a1) ∧ h0.size ≤ vb2 ∧ vb2 < hz.size ∧ Fld Z hz a1 "java/lang/AbstractStringBuilder" "value" "[B" (.ref vb2) ∧ Fld Z hz a1 "java/lang/AbstractStringBuilder" "coder" "B" (.int (1 : Int32)) ∧ Fld Z hz a1 "java/lang/AbstractStringBuilder" "count" "I" (.int (Int32.ofNat (cs ++ ds).length)) ∧ Fld Z hz a1 "java/lang/AbstractStringBuilder" "maybeLatin1" "Z" (.int (0 : Int32)) ∧ Arv Z hz vb2 kb2 .byte (32 : Int32) (StrChars.Road.wideBytes (cs ++ ds)) (.int (0 : Int32))
abbrev RM_rs_scs01 : Room := { frames := 12, cells := 1, slots := 32, locals := 169 }
theorem rs_scs01 (l : Launch) (Z : State) (a0 : Array Value) (hw : ∀ d ∈ tables_1, d.before a0 Z = true) (n0 : Nat) (a1 : Addr) (vb : Addr) (kb : ClassId) (cs : List Int32) (x : Addr) (t : Addr) (ds : List Int32) (zc : Int32) (vf : Value) (h0 : Heap) (hO : Old Z n0 h0) (pr0 : Exa Z h0 a1 "java/lang/StringBuilder") (pr1 : Fld Z h0 a1 "java/lang/AbstractStringBuilder" "value" "[B" (.ref vb)) (pr2 : Fld Z h0 a1 "java/lang/AbstractStringBuilder" "coder" "B" (.int (0 : Int32))) (pr3 : Fld Z h0 a1 "java/lang/AbstractStringBuilder" "count" "I" (.int (Int32.ofNat cs.length))) (pr4 : Fld Z h0 a1 "java/lang/AbstractStringBuilder" "maybeLatin1" "Z" (.int (0 : Int32))) (pr5 : Arv Z h0 vb kb .byte (16 : Int32) (cs.map fun c => Value.int (StrChars.lo8 c)) (.int (0 : Int32))) (pr6 : Str Z h0 x t ds) (Sc : SC Z zc) (nc : ¬ (zc = (0 : Int32))) (Sa : SA1 Z) (Su : SU1 Z) (Sv : SV1 Z) (Sf : SF1 Z vf) (rf : vf.isRef = true) (hcs : ∀ c ∈ cs, ¬ c < 0 ∧ ¬ (255 : Int32) < c) (hl : cs.length + ds.length ≤ 10) (hxa : x ≠ a1) (hta : t ≠ a1) (hxv : x ≠ vb) (htv : t ≠ vb) (hav : vb ≠ a1) (hk : ∃ c ∈ ds, (255 : Int32) < c) (g_a1 : n0 ≤ a1) (l_a1 : a1 < h0.size) (g_vb : n0 ≤ vb) (l_vb : vb < h0.size) :
    Ct l (⟨"java/lang/StringBuilder", "append", "(Ljava/lang/CharSequence;)Ljava/lang/StringBuilder;"⟩ : MethodName) jdk_67_method_9_code 2 (some (.object "java/lang/StringBuilder")) [] RM_rs_scs01 Z n0 #[(.ref a1), (.ref x)] h0 [a1, vb] (Q_rs_scs01 Z a1 vb kb cs x t ds zc vf h0) := by
  refine Ct.of_walk (plainFor_of_name pn_3) hO (allS ⟨g_a1, l_a1⟩ (allS ⟨g_vb, l_vb⟩ all0)) ?_
  intro p e s m below meth c T0 X0
  rw [ef_RR2 m a1 x]
  show Go _ _ _ _ (T0.setTop (mkF m 0 #[.val (.ref a1), .val (.ref x)] []))
  refine X0.aloadN j67_9_0 rfl rfl ?_
  refine X0.aloadN j67_9_1 rfl rfl ?_
  obtain ⟨_, T2, h2, XX2, K2, ⟨vb2_2, kb2_2, rfl, fr_vb2_2, fl_vb2_2, P2_0, P2_1, P2_2, P2_3, P2_4⟩, st2⟩ := X0.suX (W := 0) (hw _ (gm 63 rfl)) (own_same (hw _ (gm 64 rfl)) (hw _ (gm 65 rfl)) (by decide) (own_notface (y := (⟨"java/lang/AbstractStringBuilder", "ensureCapacityInternal", "(I)V"⟩ : MethodName)) (hw _ (gm 96 rfl)) (hw _ (gm 98 rfl)))) (hw _ (gm 64 rfl)) (hw _ (gm 65 rfl)) (by decide) (hw _ (gm 67 rfl)) ((rs_acs01 l Z a0 hw n0 a1 vb kb cs x t ds zc vf h0 X0.old pr0 pr1 pr2 pr3 pr4 pr5 pr6 Sc nc Sa Su Sv Sf rf hcs hl hxa hta hxv htv hav hk (X0.ge (.head _)) (X0.lt (.head _)) (X0.ge (.tail _ (.head _))) (X0.lt (.tail _ (.head _)))).pay (hw _ (gm 67 rfl)) (hw _ (gm 19 rfl)) (by decide) (by decide)) (allS (.head _) (allS (.tail _ (.head _)) all0)) (Ins.self pr0) (g := (mkF m 2 #[.val (.ref a1), .val (.ref x)] [(.ref x), (.ref a1)])) rfl rfl (argsL := [(.ref x)]) (rest := []) (lenOf pd_22 rfl) rfl (by exact Nat.le_of_eq rfl) j67_9_2 rfl (by decide) (by decide)
  refine Go.tr st2 ?_
  have X2 := XX2 [vb2_2] (allS (Or.inr ⟨fr_vb2_2, fl_vb2_2⟩) all0)
  have K0_h2 := (Keep.refl h0 [a1, vb]).trans K2 (allS (Or.inl (.head _)) (allS (Or.inl (.tail _ (.head _))) all0))
  have sz_vb2_2 := Nat.le_trans X0.sz fr_vb2_2
  refine X2.pop j67_9_5 rfl rfl ?_
  refine X2.aloadN j67_9_6 rfl rfl ?_
  exact X2.retR rfl rfl j67_9_7 K0_h2 ⟨vb2_2, kb2_2, rfl, sz_vb2_2, (X2.lt (.head _)), P2_0, P2_1, P2_2, P2_3, P2_4⟩ (by decide) (by decide)
theorem own_mn16F : ∀ m : Fin 17, own_min ((16 : Int32)) (Int32.ofNat m.val) = Int32.ofNat m.val := by decide +kernel
theorem own_mn32F : ∀ m : Fin 33, own_min ((32 : Int32)) (Int32.ofNat m.val) = Int32.ofNat m.val := by decide +kernel
theorem own_mn0 {m : Nat} (h : m ≤ 16) : own_min ((16 : Int32)) (Int32.ofNat m) = Int32.ofNat m := own_mn16F ⟨m, by omega⟩
theorem own_mn1 {m : Nat} (h : m ≤ 32) : own_min ((32 : Int32)) (Int32.ofNat m) = Int32.ofNat m := own_mn32F ⟨m, by omega⟩
theorem own_ne16 {m : Nat} (h : m ≤ 10) : ¬ Int32.ofNat m = (16 : Int32) := fun q => by have := on_inj (b := 16) (by omega) (by omega) q; omega
theorem own_ne32 {m : Nat} (h : m ≤ 20) : ¬ Int32.ofNat m = (32 : Int32) := fun q => by have := on_inj (b := 32) (by omega) (by omega) q; omega
theorem own_sub0 (x : Int32) : x - (0 : Int32) = x := by simp
def Q_rs_ce (Z : State)  (h0 : Heap) (ov : Option Value) (hz : Heap) : Prop := ov = some (.int (1 : Int32)) ∧ h0 = hz
theorem j43_3_0 : decode jdk_43_method_3_code 0 = .ok (.iload_n 0, 1) := by decide +kernel
theorem j43_3_1 : decode jdk_43_method_3_code 1 = .ok (.sipush 255, 3) := by decide +kernel
theorem j43_3_4 : decode jdk_43_method_3_code 4 = .ok (.if_icmp .gt 7, 3) := by decide +kernel
theorem j43_3_7 : decode jdk_43_method_3_code 7 = .ok (.iconst 1, 1) := by decide +kernel
theorem j43_3_8 : decode jdk_43_method_3_code 8 = .ok (.goto 4, 3) := by decide +kernel
theorem j43_3_12 : decode jdk_43_method_3_code 12 = .ok (.ireturn, 1) := by decide +kernel
abbrev RM_rs_ce : Room := { frames := 0, cells := 0, slots := 0, locals := 0 }
theorem rs_ce (l : Launch) (Z : State) (a0 : Array Value) (hw : ∀ d ∈ tables_1, d.before a0 Z = true) (n0 : Nat)  (h0 : Heap) (hO : Old Z n0 h0)  :
    Ct l (⟨"java/lang/StringLatin1", "canEncode", "(C)Z"⟩ : MethodName) jdk_43_method_3_code 1 (some .boolean) [] RM_rs_ce Z n0 #[(.int (62 : Int32))] h0 [] (Q_rs_ce Z  h0) := by
  refine Ct.of_walk (plainFor_of_name pn_5) hO all0 ?_
  intro p e s m below meth c T0 X0
  rw [ef_I1 m (62 : Int32)]
  show Go _ _ _ _ (T0.setTop (mkF m 0 #[.val (.int (62 : Int32))] []))
  refine X0.iloadN j43_3_0 rfl ?_
  refine X0.sipush j43_3_1 ?_
  refine X0.icmpNo j43_3_4 rfl (XT.ii_gt_f (by decide)) ?_
  refine X0.iconst j43_3_7 ?_
  refine X0.goto (pc0 := 8) (pc' := 12) rfl j43_3_8 (by decide) (by decide) ?_
  exact X0.retN (by simp) rfl j43_3_12 (Keep.refl h0 []) ⟨rfl, rfl⟩ (by decide) (by decide)
theorem ef_IIV3 (m : MethodId) (x0 : Int32) (x1 : Int32) (x2 : Value) (q2 : x2.isRef = true) : entryFrame m #[(.int x0), (.int x1), x2] 3 = mkF m 0 #[.val (.int x0), .val (.int x1), .val x2] [] := by rcases ref_cases q2 with rfl | ⟨_, rfl⟩ <;> first | (simp [entryFrame, mkF, argsToLocals, Value.category]; done) | rfl
def Q_rs_pcx (Z : State) (ii : Int32) (vf : Value) (h0 : Heap) (ov : Option Value) (hz : Heap) : Prop := ov = some (.int ii) ∧ h0 = hz
theorem j41_11_0 : decode jdk_41_method_11_code 0 = .ok (.iload_n 0, 1) := by decide +kernel
theorem j41_11_1 : decode jdk_41_method_11_code 1 = .ok (.ifCond .lt 8, 3) := by decide +kernel
theorem j41_11_4 : decode jdk_41_method_11_code 4 = .ok (.iload_n 0, 1) := by decide +kernel
theorem j41_11_5 : decode jdk_41_method_11_code 5 = .ok (.iload_n 1, 1) := by decide +kernel
theorem j41_11_6 : decode jdk_41_method_11_code 6 = .ok (.if_icmp .lt 10, 3) := by decide +kernel
theorem j41_11_16 : decode jdk_41_method_11_code 16 = .ok (.iload_n 0, 1) := by decide +kernel
theorem j41_11_17 : decode jdk_41_method_11_code 17 = .ok (.ireturn, 1) := by decide +kernel
abbrev RM_rs_pcx : Room := { frames := 0, cells := 0, slots := 0, locals := 0 }
theorem rs_pcx (l : Launch) (Z : State) (a0 : Array Value) (hw : ∀ d ∈ tables_1, d.before a0 Z = true) (n0 : Nat) (ii : Int32) (vf : Value) (h0 : Heap) (hO : Old Z n0 h0) (rf : vf.isRef = true) (h1_ : ¬ ii < 0) (h2_ : ii < (16 : Int32)) :
    Ct l (⟨"jdk/internal/util/Preconditions", "checkIndex", "(IILjava/util/function/BiFunction;)I"⟩ : MethodName) jdk_41_method_11_code 3 (some .int) [] RM_rs_pcx Z n0 #[(.int ii), (.int (16 : Int32)), vf] h0 [] (Q_rs_pcx Z ii vf h0) := by
  refine Ct.of_walk (plainFor_of_name pn_4) hO all0 ?_
  intro p e s m below meth c T0 X0
  rw [ef_IIV3 m ii (16 : Int32) vf rf]
  show Go _ _ _ _ (T0.setTop (mkF m 0 #[.val (.int ii), .val (.int (16 : Int32)), .val vf] []))
  refine X0.iloadN j41_11_0 rfl ?_
  refine X0.ifNo j41_11_1 rfl (XT.i0_lt_f h1_) ?_
  refine X0.iloadN j41_11_4 rfl ?_
  refine X0.iloadN j41_11_5 rfl ?_
  refine X0.icmpYes (pc0 := 6) (pc' := 16) rfl j41_11_6 rfl (XT.ii_lt_t h2_) (by decide) (by decide) ?_
  refine X0.iloadN j41_11_16 rfl ?_
  exact X0.retI j41_11_17 (Keep.refl h0 []) ⟨rfl, rfl⟩ (by decide) (by decide)
def Q_rs_scx (Z : State) (ii : Int32) (vf : Value) (h0 : Heap) (ov : Option Value) (hz : Heap) : Prop := ov = none ∧ h0 = hz
theorem j42_155_0 : decode jdk_42_method_155_code 0 = .ok (.iload_n 0, 1) := by decide +kernel
theorem j42_155_1 : decode jdk_42_method_155_code 1 = .ok (.iload_n 1, 1) := by decide +kernel
theorem j42_155_2 : decode jdk_42_method_155_code 2 = .ok (.getstatic 1053, 3) := by decide +kernel
theorem pd_24 : parseMethodDescriptor "(IILjava/util/function/BiFunction;)I" = some ⟨[.int, .int, (.object "java/util/function/BiFunction")], some .int⟩ := by decide +kernel
theorem j42_155_5 : decode jdk_42_method_155_code 5 = .ok (.invokestatic 1059, 3) := by decide +kernel
theorem j42_155_8 : decode jdk_42_method_155_code 8 = .ok (.pop, 1) := by decide +kernel
theorem j42_155_9 : decode jdk_42_method_155_code 9 = .ok (.return_, 1) := by decide +kernel
abbrev RM_rs_scx : Room := { frames := 1, cells := 0, slots := 0, locals := 14 }
theorem rs_scx (l : Launch) (Z : State) (a0 : Array Value) (hw : ∀ d ∈ tables_1, d.before a0 Z = true) (n0 : Nat) (ii : Int32) (vf : Value) (h0 : Heap) (hO : Old Z n0 h0) (Sf : SF1 Z vf) (rf : vf.isRef = true) (h1_ : ¬ ii < 0) (h2_ : ii < (16 : Int32)) :
    Ct l (⟨"java/lang/String", "checkIndex", "(II)V"⟩ : MethodName) jdk_42_method_155_code 2 none [] RM_rs_scx Z n0 #[(.int ii), (.int (16 : Int32))] h0 [] (Q_rs_scx Z ii vf h0) := by
  refine Ct.of_walk (plainFor_of_name pn_1) hO all0 ?_
  intro p e s m below meth c T0 X0
  rw [ef_II2 m ii (16 : Int32)]
  show Go _ _ _ _ (T0.setTop (mkF m 0 #[.val (.int ii), .val (.int (16 : Int32))] []))
  refine X0.iloadN j42_155_0 rfl ?_
  refine X0.iloadN j42_155_1 rfl ?_
  obtain ⟨T1, X1, st1⟩ := X0.getS (hw _ (gm 256 rfl)) Via.refl Sf (g := (mkF m 2 #[.val (.int ii), .val (.int (16 : Int32))] [(.int (16 : Int32)), (.int ii)])) rfl j42_155_2
  refine Go.by st1 ?_
  obtain ⟨_, T2, h2, XX2, K2, ⟨rfl, rfl⟩, st2⟩ := X1.stX (W := 0) (hw _ (gm 270 rfl)) (hw _ (gm 271 rfl)) (hw _ (gm 257 rfl)) (hw _ (gm 272 rfl)) (by decide) ((rs_pcx l Z a0 hw n0 ii vf h0 X1.old rf h1_ h2_).pay (hw _ (gm 272 rfl)) (hw _ (gm 257 rfl)) (by decide) (by decide)) all0 (g := (mkF m 5 #[.val (.int ii), .val (.int (16 : Int32))] [vf, (.int (16 : Int32)), (.int ii)])) rfl rfl (argsL := [(.int ii), (.int (16 : Int32)), vf]) (rest := []) (lenOf pd_24 rfl) rfl (by exact Nat.le_of_eq rfl) j42_155_5 rfl (by decide) (by decide)
  refine Go.tr st2 ?_
  have X2 := XX2 [] all0
  refine X2.pop j42_155_8 rfl rfl ?_
  exact X2.retV j42_155_9 (Keep.refl h0 []) ⟨rfl, rfl⟩ (by decide) (by decide)
theorem ef_IR2 (m : MethodId) (x0 : Int32) (x1 : Addr) : entryFrame m #[(.int x0), (.ref x1)] 2 = mkF m 0 #[.val (.int x0), .val (.ref x1)] [] := by first | (simp [entryFrame, mkF, argsToLocals, Value.category]; done) | rfl
def Q_rs_ucx (Z : State) (t : Addr) (kb : ClassId) (us : List Value) (ii : Int32) (vf : Value) (h0 : Heap) (ov : Option Value) (hz : Heap) : Prop := ov = none ∧ h0 = hz
theorem j52_91_0 : decode jdk_52_method_91_code 0 = .ok (.iload_n 0, 1) := by decide +kernel
theorem j52_91_1 : decode jdk_52_method_91_code 1 = .ok (.aload_n 1, 1) := by decide +kernel
theorem j52_91_2 : decode jdk_52_method_91_code 2 = .ok (.invokestatic 48, 3) := by decide +kernel
theorem pd_25 : parseMethodDescriptor "(II)V" = some ⟨[.int, .int], none⟩ := by decide +kernel
theorem j52_91_5 : decode jdk_52_method_91_code 5 = .ok (.invokestatic 414, 3) := by decide +kernel
theorem j52_91_8 : decode jdk_52_method_91_code 8 = .ok (.return_, 1) := by decide +kernel
abbrev RM_rs_ucx : Room := { frames := 2, cells := 0, slots := 0, locals := 27 }
theorem rs_ucx (l : Launch) (Z : State) (a0 : Array Value) (hw : ∀ d ∈ tables_1, d.before a0 Z = true) (n0 : Nat) (t : Addr) (kb : ClassId) (us : List Value) (ii : Int32) (vf : Value) (h0 : Heap) (hO : Old Z n0 h0) (pr0 : Arv Z h0 t kb .byte (32 : Int32) us (.int (0 : Int32))) (Sf : SF1 Z vf) (rf : vf.isRef = true) (h1_ : ¬ ii < 0) (h2_ : ii < (16 : Int32)) :
    Ct l (⟨"java/lang/StringUTF16", "checkIndex", "(I[B)V"⟩ : MethodName) jdk_52_method_91_code 2 none [] RM_rs_ucx Z n0 #[(.int ii), (.ref t)] h0 [] (Q_rs_ucx Z t kb us ii vf h0) := by
  refine Ct.of_walk (plainFor_of_name pn_0) hO all0 ?_
  intro p e s m below meth c T0 X0
  rw [ef_IR2 m ii t]
  show Go _ _ _ _ (T0.setTop (mkF m 0 #[.val (.int ii), .val (.ref t)] []))
  refine X0.iloadN j52_91_0 rfl ?_
  refine X0.aloadN j52_91_1 rfl rfl ?_
  obtain ⟨_, T1, h1, XX1, K1, ⟨rfl, rfl⟩, st1⟩ := X0.stX (W := 1) (hw _ (gm 250 rfl)) (hw _ (gm 251 rfl)) (hw _ (gm 199 rfl)) (hw _ (gm 252 rfl)) (by decide) ((rs_uln l Z a0 hw n0 t kb us h0 X0.old pr0).pay (hw _ (gm 252 rfl)) (hw _ (gm 199 rfl)) (by decide) (by decide)) all0 (g := (mkF m 2 #[.val (.int ii), .val (.ref t)] [(.ref t), (.int ii)])) rfl rfl (argsL := [(.ref t)]) (rest := [(.int ii)]) (lenOf pd_11 rfl) rfl (by exact Nat.le_of_eq rfl) j52_91_2 rfl (by decide) (by decide)
  refine Go.tr st1 ?_
  have X1 := XX1 [] all0
  obtain ⟨_, T2, h2, XX2, K2, ⟨rfl, rfl⟩, st2⟩ := X1.stX (W := 0) (hw _ (gm 267 rfl)) (hw _ (gm 268 rfl)) (hw _ (gm 23 rfl)) (hw _ (gm 269 rfl)) (by decide) ((rs_scx l Z a0 hw n0 ii vf h0 X1.old Sf rf h1_ h2_).pay (hw _ (gm 269 rfl)) (hw _ (gm 23 rfl)) (by decide) (by decide)) all0 (g := (mkF m 5 #[.val (.int ii), .val (.ref t)] [(.int (16 : Int32)), (.int ii)])) rfl rfl (argsL := [(.int ii), (.int (16 : Int32))]) (rest := []) (lenOf pd_25 rfl) rfl (by exact Nat.le_of_eq rfl) j52_91_5 rfl (by decide) (by decide)
  refine Go.tr st2 ?_
  have X2 := XX2 [] all0
  exact X2.retV j52_91_8 (Keep.refl h0 []) ⟨rfl, rfl⟩ (by decide) (by decide)
def Q_rs_psb (Z : State) (vb : Addr) (kb : ClassId) (i : Nat) (ch : Int32) (us : List Value) (zc : Int32) (vf : Value) (h0 : Heap) (ov : Option Value) (hz : Heap) : Prop := ov = none ∧ Arv Z hz vb kb .byte (32 : Int32) (us ++ [Value.int (StrChars.lo8 ch), Value.int (StrChars.hi8 ch)]) (.int (0 : Int32))
theorem j52_71_0 : decode jdk_52_method_71_code 0 = .ok (.iload_n 1, 1) := by decide +kernel
theorem j52_71_1 : decode jdk_52_method_71_code 1 = .ok (.aload_n 0, 1) := by decide +kernel
theorem pd_26 : parseMethodDescriptor "(I[B)V" = some ⟨[.int, (.array .byte)], none⟩ := by decide +kernel
theorem j52_71_2 : decode jdk_52_method_71_code 2 = .ok (.invokestatic 67, 3) := by decide +kernel
theorem j52_71_5 : decode jdk_52_method_71_code 5 = .ok (.aload_n 0, 1) := by decide +kernel
theorem j52_71_6 : decode jdk_52_method_71_code 6 = .ok (.iload_n 1, 1) := by decide +kernel
theorem j52_71_7 : decode jdk_52_method_71_code 7 = .ok (.iload_n 2, 1) := by decide +kernel
theorem j52_71_8 : decode jdk_52_method_71_code 8 = .ok (.invokestatic 111, 3) := by decide +kernel
theorem j52_71_11 : decode jdk_52_method_71_code 11 = .ok (.return_, 1) := by decide +kernel
abbrev RM_rs_psb : Room := { frames := 3, cells := 0, slots := 0, locals := 40 }
theorem rs_psb (l : Launch) (Z : State) (a0 : Array Value) (hw : ∀ d ∈ tables_1, d.before a0 Z = true) (n0 : Nat) (vb : Addr) (kb : ClassId) (i : Nat) (ch : Int32) (us : List Value) (zc : Int32) (vf : Value) (h0 : Heap) (hO : Old Z n0 h0) (pr0 : Arv Z h0 vb kb .byte (32 : Int32) us (.int (0 : Int32))) (Sc : SC Z zc) (nc : ¬ (zc = (0 : Int32))) (Sa : SA1 Z) (Su : SU1 Z) (Sv : SV1 Z) (Sf : SF1 Z vf) (rf : vf.isRef = true) (hu : us.length = 2 * i) (hi : i < 16) (g_vb : n0 ≤ vb) (l_vb : vb < h0.size) :
    Ct l (⟨"java/lang/StringUTF16", "putCharSB", "([BII)V"⟩ : MethodName) jdk_52_method_71_code 3 none [] RM_rs_psb Z n0 #[(.ref vb), (.int (Int32.ofNat i)), (.int ch)] h0 [vb] (Q_rs_psb Z vb kb i ch us zc vf h0) := by
  refine Ct.of_walk (plainFor_of_name pn_0) hO (allS ⟨g_vb, l_vb⟩ all0) ?_
  intro p e s m below meth c T0 X0
  rw [ef_RII3 m vb (Int32.ofNat i) ch]
  show Go _ _ _ _ (T0.setTop (mkF m 0 #[.val (.ref vb), .val (.int (Int32.ofNat i)), .val (.int ch)] []))
  refine X0.iloadN j52_71_0 rfl ?_
  refine X0.aloadN j52_71_1 rfl rfl ?_
  obtain ⟨_, T1, h1, XX1, K1, ⟨rfl, rfl⟩, st1⟩ := X0.stX (W := 0) (hw _ (gm 264 rfl)) (hw _ (gm 265 rfl)) (hw _ (gm 199 rfl)) (hw _ (gm 266 rfl)) (by decide) ((rs_ucx l Z a0 hw n0 vb kb us (Int32.ofNat i) vf h0 X0.old pr0 Sf rf (on_nn (by omega)) ((on_lt (b := 16) (by omega) (by omega)).mpr hi)).pay (hw _ (gm 266 rfl)) (hw _ (gm 199 rfl)) (by decide) (by decide)) all0 (g := (mkF m 2 #[.val (.ref vb), .val (.int (Int32.ofNat i)), .val (.int ch)] [(.ref vb), (.int (Int32.ofNat i))])) rfl rfl (argsL := [(.int (Int32.ofNat i)), (.ref vb)]) (rest := []) (lenOf pd_26 rfl) rfl (by exact Nat.le_of_eq rfl) j52_71_2 rfl (by decide) (by decide)
  refine Go.tr st1 ?_
  have X1 := XX1 [] all0
  refine X1.aloadN j52_71_5 rfl rfl ?_
  refine X1.iloadN j52_71_6 rfl ?_
  refine X1.iloadN j52_71_7 rfl ?_
  obtain ⟨_, T2, h2, XX2, K2, ⟨rfl, P2_0⟩, st2⟩ := X1.stX (W := 0) (hw _ (gm 226 rfl)) (hw _ (gm 227 rfl)) (hw _ (gm 199 rfl)) (hw _ (gm 228 rfl)) (by decide) ((ru_putc l Z a0 hw n0 vb kb i ch 32 us h0 X1.old pr0 Sa Su Sv hu (by omega) (by omega) (X1.ge (.head _)) (X1.lt (.head _))).pay (hw _ (gm 228 rfl)) (hw _ (gm 199 rfl)) (by decide) (by decide)) (allS (.head _) all0) (g := (mkF m 8 #[.val (.ref vb), .val (.int (Int32.ofNat i)), .val (.int ch)] [(.int ch), (.int (Int32.ofNat i)), (.ref vb)])) rfl rfl (argsL := [(.ref vb), (.int (Int32.ofNat i)), (.int ch)]) (rest := []) (lenOf pd_2 rfl) rfl (by exact Nat.le_of_eq rfl) j52_71_8 rfl (by decide) (by decide)
  refine Go.tr st2 ?_
  have X2 := XX2 [] all0
  have K0_h2 := (Keep.refl h0 [vb]).trans K2 (allS (Or.inl (.head _)) all0)
  exact X2.retV j52_71_11 K0_h2 ⟨rfl, P2_0⟩ (by decide) (by decide)
def Q_rs_apc0 (Z : State) (a1 : Addr) (vb : Addr) (kb : ClassId) (cs : List Int32) (zc : Int32) (vf : Value) (h0 : Heap) (ov : Option Value) (hz : Heap) : Prop := ov = some (.ref a1) ∧ Fld Z hz a1 "java/lang/AbstractStringBuilder" "value" "[B" (.ref vb) ∧ Fld Z hz a1 "java/lang/AbstractStringBuilder" "coder" "B" (.int (0 : Int32)) ∧ Fld Z hz a1 "java/lang/AbstractStringBuilder" "count" "I" (.int (Int32.ofNat (cs ++ [(62 : Int32)]).length)) ∧ Fld Z hz a1 "java/lang/AbstractStringBuilder" "maybeLatin1" "Z" (.int (0 : Int32)) ∧ Arv Z hz vb kb .byte (16 : Int32) ((cs ++ [(62 : Int32)]).map fun c => Value.int (StrChars.lo8 c)) (.int (0 : Int32))
theorem j68_31_0 : decode jdk_68_method_31_code 0 = .ok (.aload_n 0, 1) := by decide +kernel
theorem j68_31_1 : decode jdk_68_method_31_code 1 = .ok (.aload_n 0, 1) := by decide +kernel
theorem j68_31_2 : decode jdk_68_method_31_code 2 = .ok (.getfield 79, 3) := by decide +kernel
theorem j68_31_5 : decode jdk_68_method_31_code 5 = .ok (.iconst 1, 1) := by decide +kernel
theorem j68_31_6 : decode jdk_68_method_31_code 6 = .ok (.iadd, 1) := by decide +kernel
theorem j68_31_7 : decode jdk_68_method_31_code 7 = .ok (.invokevirtual 100, 3) := by decide +kernel
theorem j68_31_10 : decode jdk_68_method_31_code 10 = .ok (.aload_n 0, 1) := by decide +kernel
theorem j68_31_11 : decode jdk_68_method_31_code 11 = .ok (.invokevirtual 83, 3) := by decide +kernel
theorem j68_31_14 : decode jdk_68_method_31_code 14 = .ok (.ifCond .eq 31, 3) := by decide +kernel
theorem j68_31_17 : decode jdk_68_method_31_code 17 = .ok (.iload_n 1, 1) := by decide +kernel
theorem pd_27 : parseMethodDescriptor "(C)Z" = some ⟨[.char], some .boolean⟩ := by decide +kernel
theorem j68_31_18 : decode jdk_68_method_31_code 18 = .ok (.invokestatic 191, 3) := by decide +kernel
theorem j68_31_21 : decode jdk_68_method_31_code 21 = .ok (.ifCond .eq 24, 3) := by decide +kernel
theorem j68_31_24 : decode jdk_68_method_31_code 24 = .ok (.aload_n 0, 1) := by decide +kernel
theorem j68_31_25 : decode jdk_68_method_31_code 25 = .ok (.getfield 15, 3) := by decide +kernel
theorem j68_31_28 : decode jdk_68_method_31_code 28 = .ok (.aload_n 0, 1) := by decide +kernel
theorem j68_31_29 : decode jdk_68_method_31_code 29 = .ok (.dup, 1) := by decide +kernel
theorem j68_31_30 : decode jdk_68_method_31_code 30 = .ok (.getfield 79, 3) := by decide +kernel
theorem j68_31_33 : decode jdk_68_method_31_code 33 = .ok (.dup_x1, 1) := by decide +kernel
theorem j68_31_34 : decode jdk_68_method_31_code 34 = .ok (.iconst 1, 1) := by decide +kernel
theorem j68_31_35 : decode jdk_68_method_31_code 35 = .ok (.iadd, 1) := by decide +kernel
theorem j68_31_36 : decode jdk_68_method_31_code 36 = .ok (.putfield 79, 3) := by decide +kernel
theorem j68_31_39 : decode jdk_68_method_31_code 39 = .ok (.iload_n 1, 1) := by decide +kernel
theorem j68_31_40 : decode jdk_68_method_31_code 40 = .ok (.i2b, 1) := by decide +kernel
theorem j68_31_41 : decode jdk_68_method_31_code 41 = .ok (.bastore, 1) := by decide +kernel
theorem j68_31_42 : decode jdk_68_method_31_code 42 = .ok (.goto 33, 3) := by decide +kernel
theorem j68_31_75 : decode jdk_68_method_31_code 75 = .ok (.aload_n 0, 1) := by decide +kernel
theorem j68_31_76 : decode jdk_68_method_31_code 76 = .ok (.areturn, 1) := by decide +kernel
abbrev RM_rs_apc0 : Room := { frames := 1, cells := 0, slots := 0, locals := 14 }
theorem rs_apc0 (l : Launch) (Z : State) (a0 : Array Value) (hw : ∀ d ∈ tables_1, d.before a0 Z = true) (n0 : Nat) (a1 : Addr) (vb : Addr) (kb : ClassId) (cs : List Int32) (zc : Int32) (vf : Value) (h0 : Heap) (hO : Old Z n0 h0) (pr0 : Exa Z h0 a1 "java/lang/StringBuilder") (pr1 : Fld Z h0 a1 "java/lang/AbstractStringBuilder" "value" "[B" (.ref vb)) (pr2 : Fld Z h0 a1 "java/lang/AbstractStringBuilder" "coder" "B" (.int (0 : Int32))) (pr3 : Fld Z h0 a1 "java/lang/AbstractStringBuilder" "count" "I" (.int (Int32.ofNat cs.length))) (pr4 : Fld Z h0 a1 "java/lang/AbstractStringBuilder" "maybeLatin1" "Z" (.int (0 : Int32))) (pr5 : Arv Z h0 vb kb .byte (16 : Int32) (cs.map fun c => Value.int (StrChars.lo8 c)) (.int (0 : Int32))) (Sc : SC Z zc) (nc : ¬ (zc = (0 : Int32))) (Sa : SA1 Z) (Su : SU1 Z) (Sv : SV1 Z) (Sf : SF1 Z vf) (rf : vf.isRef = true) (hl : cs.length ≤ 9) (hav : vb ≠ a1) (g_a1 : n0 ≤ a1) (l_a1 : a1 < h0.size) (g_vb : n0 ≤ vb) (l_vb : vb < h0.size) :
    Ct l (⟨"java/lang/AbstractStringBuilder", "append", "(C)Ljava/lang/AbstractStringBuilder;"⟩ : MethodName) jdk_68_method_31_code 2 (some (.object "java/lang/AbstractStringBuilder")) [] RM_rs_apc0 Z n0 #[(.ref a1), (.int (62 : Int32))] h0 [a1, vb] (Q_rs_apc0 Z a1 vb kb cs zc vf h0) := by
  refine Ct.of_walk (plainFor_of_name pn_2) hO (allS ⟨g_a1, l_a1⟩ (allS ⟨g_vb, l_vb⟩ all0)) ?_
  intro p e s m below meth c T0 X0
  rw [ef_RI2 m a1 (62 : Int32)]
  show Go _ _ _ _ (T0.setTop (mkF m 0 #[.val (.ref a1), .val (.int (62 : Int32))] []))
  refine X0.aloadN j68_31_0 rfl rfl ?_
  refine X0.aloadN j68_31_1 rfl rfl ?_
  obtain ⟨T1, X1, st1⟩ := X0.getF (host := "") (Or.inl (hw _ (gm 93 rfl))) Via.refl pr3 (g := (mkF m 2 #[.val (.ref a1), .val (.int (62 : Int32))] [(.ref a1), (.ref a1)])) rfl rfl j68_31_2
  refine Go.by st1 ?_
  refine X1.iconst j68_31_5 ?_
  refine X1.iadd j68_31_6 rfl ?_
  show Go _ _ _ _ (T1.setTop (mkF m 7 #[.val (.ref a1), .val (.int (62 : Int32))] [(.int ((Int32.ofNat cs.length) + (1 : Int32))), (.ref a1)]))
  rw [on_succ]
  show Go _ _ _ _ (T1.setTop (mkF m 7 #[.val (.ref a1), .val (.int (62 : Int32))] [(.int (Int32.ofNat (cs.length + 1))), (.ref a1)]))
  obtain ⟨_, T2, h2, XX2, K2, ⟨rfl, rfl⟩, st2⟩ := X1.pvX (W := 0) (hw _ (gm 95 rfl)) (hw _ (gm 96 rfl)) (own_selfsel (hw _ (gm 96 rfl)) (hw _ (gm 98 rfl)) (hw _ (gm 97 rfl)) (by decide)) (hw _ (gm 97 rfl)) (hw _ (gm 99 rfl)) (by decide) ((rs_en0 l Z a0 hw n0 a1 (cs.length + 1) vb kb (cs.map fun c => Value.int (StrChars.lo8 c)) h0 X1.old pr1 pr2 pr5 (by omega)).pay (hw _ (gm 99 rfl)) (hw _ (gm 19 rfl)) (by decide) (by decide)) all0 pr0 (g := (mkF m 7 #[.val (.ref a1), .val (.int (62 : Int32))] [(.int (Int32.ofNat (cs.length + 1))), (.ref a1)])) rfl rfl (argsL := [(.int (Int32.ofNat (cs.length + 1)))]) (rest := []) (lenOf pd_8 rfl) rfl (by exact Nat.le_of_eq rfl) j68_31_7 rfl (by decide) (by decide)
  refine Go.tr st2 ?_
  have X2 := XX2 [] all0
  refine X2.aloadN j68_31_10 rfl rfl ?_
  obtain ⟨_, T3, h3, XX3, K3, ⟨rfl, rfl⟩, st3⟩ := X2.viX (W := 0) (hw _ (gm 148 rfl)) (hw _ (gm 149 rfl)) (hw _ (gm 151 rfl)) (hw _ (gm 150 rfl)) (by decide) ((rs_isl0 l Z a0 hw n0 a1 zc h0 X2.old pr2 Sc nc).pay (hw _ (gm 152 rfl)) (hw _ (gm 19 rfl)) (by decide) (by decide)) all0 pr0 (g := (mkF m 11 #[.val (.ref a1), .val (.int (62 : Int32))] [(.ref a1)])) rfl rfl (argsL := []) (rest := []) (lenOf pd_15 rfl) rfl (by exact Nat.le_of_eq rfl) j68_31_11 rfl (by decide) (by decide)
  refine Go.tr st3 ?_
  have X3 := XX3 [] all0
  refine X3.ifNo j68_31_14 rfl (XT.i0_eq_f (by decide)) ?_
  refine X3.iloadN j68_31_17 rfl ?_
  obtain ⟨_, T4, h4, XX4, K4, ⟨rfl, rfl⟩, st4⟩ := X3.stX (W := 0) (hw _ (gm 153 rfl)) (hw _ (gm 154 rfl)) (hw _ (gm 155 rfl)) (hw _ (gm 156 rfl)) (by decide) ((rs_ce l Z a0 hw n0  h0 X3.old ).pay (hw _ (gm 156 rfl)) (hw _ (gm 155 rfl)) (by decide) (by decide)) all0 (g := (mkF m 18 #[.val (.ref a1), .val (.int (62 : Int32))] [(.int (62 : Int32))])) rfl rfl (argsL := [(.int (62 : Int32))]) (rest := []) (lenOf pd_27 rfl) rfl (by exact Nat.le_of_eq rfl) j68_31_18 rfl (by decide) (by decide)
  refine Go.tr st4 ?_
  have X4 := XX4 [] all0
  refine X4.ifNo j68_31_21 rfl (XT.i0_eq_f (by decide)) ?_
  refine X4.aloadN j68_31_24 rfl rfl ?_
  obtain ⟨T5, X5, st5⟩ := X4.getF (host := "") (Or.inl (hw _ (gm 25 rfl))) Via.refl pr1 (g := (mkF m 25 #[.val (.ref a1), .val (.int (62 : Int32))] [(.ref a1)])) rfl rfl j68_31_25
  refine Go.by st5 ?_
  refine X5.aloadN j68_31_28 rfl rfl ?_
  refine X5.dup j68_31_29 rfl rfl ?_
  obtain ⟨T6, X6, st6⟩ := X5.getF (host := "") (Or.inl (hw _ (gm 93 rfl))) Via.refl pr3 (g := (mkF m 30 #[.val (.ref a1), .val (.int (62 : Int32))] [(.ref a1), (.ref a1), (.ref vb)])) rfl rfl j68_31_30
  refine Go.by st6 ?_
  show Go _ _ _ _ (T6.setTop (mkF m 33 #[.val (.ref a1), .val (.int (62 : Int32))] [(.int (Int32.ofNat cs.length)), (.ref a1), (.ref vb)]))
  refine X6.dupX1 j68_31_33 rfl rfl rfl ?_
  refine X6.iconst j68_31_34 ?_
  refine X6.iadd j68_31_35 rfl ?_
  show Go _ _ _ _ (T6.setTop (mkF m 36 #[.val (.ref a1), .val (.int (62 : Int32))] [(.int ((Int32.ofNat cs.length) + (1 : Int32))), (.ref a1), (.int (Int32.ofNat cs.length)), (.ref vb)]))
  rw [on_succ, own_snl cs (62 : Int32)]
  show Go _ _ _ _ (T6.setTop (mkF m 36 #[.val (.ref a1), .val (.int (62 : Int32))] [(.int (Int32.ofNat (cs ++ [(62 : Int32)]).length)), (.ref a1), (.int (Int32.ofNat cs.length)), (.ref vb)]))
  obtain ⟨T7, h7, X7, W7, st7⟩ := X6.putF (host := "") (Or.inl (hw _ (gm 93 rfl))) Via.refl pr3 pr0 (Or.inl (hw _ (gm 94 rfl))) (hw _ (gm 10 rfl)) (.head _) (ty := .int) (by decide) rfl rfl (g := (mkF m 36 #[.val (.ref a1), .val (.int (62 : Int32))] [(.int (Int32.ofNat (cs ++ [(62 : Int32)]).length)), (.ref a1), (.int (Int32.ofNat cs.length)), (.ref vb)])) rfl rfl j68_31_36
  refine Go.by st7 ?_
  have K0_h7 := (Keep.refl h0 [a1, vb]).wr W7 (Or.inl (.head _))
  have F7 : Fld Z h7 a1 "java/lang/AbstractStringBuilder" "count" "I" (.int (Int32.ofNat (cs ++ [(62 : Int32)]).length)) := pr3.same W7
  refine X7.iloadN j68_31_39 rfl ?_
  refine X7.i2b j68_31_40 rfl ?_
  have f8 := (pr5).other W7 hav
  have f9 : Arv Z h7 vb kb .byte (16 : Int32) ((cs.map fun c => Value.int (StrChars.lo8 c)) ++ [Value.int (0 : Int32)]) (.int (0 : Int32)) := (f8).pad (own_pad _ _)
  obtain ⟨T10, h10, X10, W10, A10, st10⟩ := X7.stB (x' := (StrChars.lo8 (62 : Int32))) f9 (.tail _ (.head _)) ⟨on_nn (by omega), (on_lt (b := 16) (by omega) (by omega)).mpr (by omega)⟩ (i := cs.length) (on_clamp (by omega)) (by simp) (i2b_idem _) (vs' := ((cs.map fun c => Value.int (StrChars.lo8 c)) ++ [Value.int (StrChars.lo8 (62 : Int32))])) (own_set _ _ _ (own_lolen _)) (g := (mkF m 41 #[.val (.ref a1), .val (.int (62 : Int32))] [(.int (((62 : Int32)).toInt8.toInt32)), (.int (Int32.ofNat cs.length)), (.ref vb)])) rfl rfl j68_31_41
  refine Go.by st10 ?_
  have K0_h10 := K0_h7.trans W10 (allS (Or.inl (.tail _ (.head _))) all0)
  show Go _ _ _ _ (T10.setTop (mkF m 42 #[.val (.ref a1), .val (.int (62 : Int32))] []))
  have f11 : Arv Z h10 vb kb .byte (16 : Int32) ((cs ++ [(62 : Int32)]).map fun c => Value.int (StrChars.lo8 c)) (.int (0 : Int32)) := (by rw [own_loa]; exact A10)
  refine X10.goto (pc0 := 42) (pc' := 75) rfl j68_31_42 (by decide) (by decide) ?_
  refine X10.aloadN j68_31_75 rfl rfl ?_
  have f12 := ((pr1).other W7 (Or.inr (slot_ne (Or.inl (hw _ (gm 26 rfl))) (Or.inl (hw _ (gm 94 rfl))) (by decide) (t := (.array .byte)) (t' := .int) (by decide) (by decide)))).keep W10 (ninS hav.symm nin0)
  have f13 := ((pr2).other W7 (Or.inr (slot_ne (Or.inl (hw _ (gm 28 rfl))) (Or.inl (hw _ (gm 94 rfl))) (by decide) (t := .byte) (t' := .int) (by decide) (by decide)))).keep W10 (ninS hav.symm nin0)
  have f14 := (F7).keep W10 (ninS hav.symm nin0)
  have f15 := ((pr4).other W7 (Or.inr (slot_ne (Or.inl (hw _ (gm 274 rfl))) (Or.inl (hw _ (gm 94 rfl))) (by decide) (t := .boolean) (t' := .int) (by decide) (by decide)))).keep W10 (ninS hav.symm nin0)
  exact X10.retR rfl rfl j68_31_76 K0_h10 ⟨rfl, f12, f13, f14, f15, f11⟩ (by decide) (by decide)
def Q_rs_spc0 (Z : State) (a1 : Addr) (vb : Addr) (kb : ClassId) (cs : List Int32) (zc : Int32) (vf : Value) (h0 : Heap) (ov : Option Value) (hz : Heap) : Prop := ov = some (.ref a1) ∧ Fld Z hz a1 "java/lang/AbstractStringBuilder" "value" "[B" (.ref vb) ∧ Fld Z hz a1 "java/lang/AbstractStringBuilder" "coder" "B" (.int (0 : Int32)) ∧ Fld Z hz a1 "java/lang/AbstractStringBuilder" "count" "I" (.int (Int32.ofNat (cs ++ [(62 : Int32)]).length)) ∧ Fld Z hz a1 "java/lang/AbstractStringBuilder" "maybeLatin1" "Z" (.int (0 : Int32)) ∧ Arv Z hz vb kb .byte (16 : Int32) ((cs ++ [(62 : Int32)]).map fun c => Value.int (StrChars.lo8 c)) (.int (0 : Int32))
theorem j67_14_0 : decode jdk_67_method_14_code 0 = .ok (.aload_n 0, 1) := by decide +kernel
theorem j67_14_1 : decode jdk_67_method_14_code 1 = .ok (.iload_n 1, 1) := by decide +kernel
theorem pd_28 : parseMethodDescriptor "(C)Ljava/lang/AbstractStringBuilder;" = some ⟨[.char], some (.object "java/lang/AbstractStringBuilder")⟩ := by decide +kernel
theorem j67_14_2 : decode jdk_67_method_14_code 2 = .ok (.invokespecial 50, 3) := by decide +kernel
theorem j67_14_5 : decode jdk_67_method_14_code 5 = .ok (.pop, 1) := by decide +kernel
theorem j67_14_6 : decode jdk_67_method_14_code 6 = .ok (.aload_n 0, 1) := by decide +kernel
theorem j67_14_7 : decode jdk_67_method_14_code 7 = .ok (.areturn, 1) := by decide +kernel
abbrev RM_rs_spc0 : Room := { frames := 2, cells := 0, slots := 0, locals := 27 }
theorem rs_spc0 (l : Launch) (Z : State) (a0 : Array Value) (hw : ∀ d ∈ tables_1, d.before a0 Z = true) (n0 : Nat) (a1 : Addr) (vb : Addr) (kb : ClassId) (cs : List Int32) (zc : Int32) (vf : Value) (h0 : Heap) (hO : Old Z n0 h0) (pr0 : Exa Z h0 a1 "java/lang/StringBuilder") (pr1 : Fld Z h0 a1 "java/lang/AbstractStringBuilder" "value" "[B" (.ref vb)) (pr2 : Fld Z h0 a1 "java/lang/AbstractStringBuilder" "coder" "B" (.int (0 : Int32))) (pr3 : Fld Z h0 a1 "java/lang/AbstractStringBuilder" "count" "I" (.int (Int32.ofNat cs.length))) (pr4 : Fld Z h0 a1 "java/lang/AbstractStringBuilder" "maybeLatin1" "Z" (.int (0 : Int32))) (pr5 : Arv Z h0 vb kb .byte (16 : Int32) (cs.map fun c => Value.int (StrChars.lo8 c)) (.int (0 : Int32))) (Sc : SC Z zc) (nc : ¬ (zc = (0 : Int32))) (Sa : SA1 Z) (Su : SU1 Z) (Sv : SV1 Z) (Sf : SF1 Z vf) (rf : vf.isRef = true) (hl : cs.length ≤ 9) (hav : vb ≠ a1) (g_a1 : n0 ≤ a1) (l_a1 : a1 < h0.size) (g_vb : n0 ≤ vb) (l_vb : vb < h0.size) :
    Ct l (⟨"java/lang/StringBuilder", "append", "(C)Ljava/lang/StringBuilder;"⟩ : MethodName) jdk_67_method_14_code 2 (some (.object "java/lang/StringBuilder")) [] RM_rs_spc0 Z n0 #[(.ref a1), (.int (62 : Int32))] h0 [a1, vb] (Q_rs_spc0 Z a1 vb kb cs zc vf h0) := by
  refine Ct.of_walk (plainFor_of_name pn_3) hO (allS ⟨g_a1, l_a1⟩ (allS ⟨g_vb, l_vb⟩ all0)) ?_
  intro p e s m below meth c T0 X0
  rw [ef_RI2 m a1 (62 : Int32)]
  show Go _ _ _ _ (T0.setTop (mkF m 0 #[.val (.ref a1), .val (.int (62 : Int32))] []))
  refine X0.aloadN j67_14_0 rfl rfl ?_
  refine X0.iloadN j67_14_1 rfl ?_
  obtain ⟨_, T1, h1, XX1, K1, ⟨rfl, P1_0, P1_1, P1_2, P1_3, P1_4⟩, st1⟩ := X0.suX (W := 0) (hw _ (gm 144 rfl)) (own_same (hw _ (gm 145 rfl)) (hw _ (gm 65 rfl)) (by decide) (own_notface (y := (⟨"java/lang/AbstractStringBuilder", "ensureCapacityInternal", "(I)V"⟩ : MethodName)) (hw _ (gm 96 rfl)) (hw _ (gm 98 rfl)))) (hw _ (gm 145 rfl)) (hw _ (gm 65 rfl)) (by decide) (hw _ (gm 147 rfl)) ((rs_apc0 l Z a0 hw n0 a1 vb kb cs zc vf h0 X0.old pr0 pr1 pr2 pr3 pr4 pr5 Sc nc Sa Su Sv Sf rf hl hav (X0.ge (.head _)) (X0.lt (.head _)) (X0.ge (.tail _ (.head _))) (X0.lt (.tail _ (.head _)))).pay (hw _ (gm 147 rfl)) (hw _ (gm 19 rfl)) (by decide) (by decide)) (allS (.head _) (allS (.tail _ (.head _)) all0)) (Ins.self pr0) (g := (mkF m 2 #[.val (.ref a1), .val (.int (62 : Int32))] [(.int (62 : Int32)), (.ref a1)])) rfl rfl (argsL := [(.int (62 : Int32))]) (rest := []) (lenOf pd_28 rfl) rfl (by exact Nat.le_of_eq rfl) j67_14_2 rfl (by decide) (by decide)
  refine Go.tr st1 ?_
  have X1 := XX1 [] all0
  have K0_h1 := (Keep.refl h0 [a1, vb]).trans K1 (allS (Or.inl (.head _)) (allS (Or.inl (.tail _ (.head _))) all0))
  refine X1.pop j67_14_5 rfl rfl ?_
  refine X1.aloadN j67_14_6 rfl rfl ?_
  exact X1.retR rfl rfl j67_14_7 K0_h1 ⟨rfl, P1_0, P1_1, P1_2, P1_3, P1_4⟩ (by decide) (by decide)
def Q_rs_apc1 (Z : State) (a1 : Addr) (vb : Addr) (kb : ClassId) (cs : List Int32) (zc : Int32) (vf : Value) (h0 : Heap) (ov : Option Value) (hz : Heap) : Prop := ov = some (.ref a1) ∧ Fld Z hz a1 "java/lang/AbstractStringBuilder" "value" "[B" (.ref vb) ∧ Fld Z hz a1 "java/lang/AbstractStringBuilder" "coder" "B" (.int (1 : Int32)) ∧ Fld Z hz a1 "java/lang/AbstractStringBuilder" "count" "I" (.int (Int32.ofNat (cs ++ [(62 : Int32)]).length)) ∧ Fld Z hz a1 "java/lang/AbstractStringBuilder" "maybeLatin1" "Z" (.int (0 : Int32)) ∧ Arv Z hz vb kb .byte (32 : Int32) (StrChars.Road.wideBytes (cs ++ [(62 : Int32)])) (.int (0 : Int32))
theorem j68_31_45 : decode jdk_68_method_31_code 45 = .ok (.aload_n 0, 1) := by decide +kernel
theorem j68_31_46 : decode jdk_68_method_31_code 46 = .ok (.invokevirtual 83, 3) := by decide +kernel
theorem j68_31_49 : decode jdk_68_method_31_code 49 = .ok (.ifCond .eq 7, 3) := by decide +kernel
theorem j68_31_56 : decode jdk_68_method_31_code 56 = .ok (.aload_n 0, 1) := by decide +kernel
theorem j68_31_57 : decode jdk_68_method_31_code 57 = .ok (.getfield 15, 3) := by decide +kernel
theorem j68_31_60 : decode jdk_68_method_31_code 60 = .ok (.aload_n 0, 1) := by decide +kernel
theorem j68_31_61 : decode jdk_68_method_31_code 61 = .ok (.dup, 1) := by decide +kernel
theorem j68_31_62 : decode jdk_68_method_31_code 62 = .ok (.getfield 79, 3) := by decide +kernel
theorem j68_31_65 : decode jdk_68_method_31_code 65 = .ok (.dup_x1, 1) := by decide +kernel
theorem j68_31_66 : decode jdk_68_method_31_code 66 = .ok (.iconst 1, 1) := by decide +kernel
theorem j68_31_67 : decode jdk_68_method_31_code 67 = .ok (.iadd, 1) := by decide +kernel
theorem j68_31_68 : decode jdk_68_method_31_code 68 = .ok (.putfield 79, 3) := by decide +kernel
theorem j68_31_71 : decode jdk_68_method_31_code 71 = .ok (.iload_n 1, 1) := by decide +kernel
theorem j68_31_72 : decode jdk_68_method_31_code 72 = .ok (.invokestatic 197, 3) := by decide +kernel
abbrev RM_rs_apc1 : Room := { frames := 4, cells := 0, slots := 0, locals := 54 }
theorem rs_apc1 (l : Launch) (Z : State) (a0 : Array Value) (hw : ∀ d ∈ tables_1, d.before a0 Z = true) (n0 : Nat) (a1 : Addr) (vb : Addr) (kb : ClassId) (cs : List Int32) (zc : Int32) (vf : Value) (h0 : Heap) (hO : Old Z n0 h0) (pr0 : Exa Z h0 a1 "java/lang/StringBuilder") (pr1 : Fld Z h0 a1 "java/lang/AbstractStringBuilder" "value" "[B" (.ref vb)) (pr2 : Fld Z h0 a1 "java/lang/AbstractStringBuilder" "coder" "B" (.int (1 : Int32))) (pr3 : Fld Z h0 a1 "java/lang/AbstractStringBuilder" "count" "I" (.int (Int32.ofNat cs.length))) (pr4 : Fld Z h0 a1 "java/lang/AbstractStringBuilder" "maybeLatin1" "Z" (.int (0 : Int32))) (pr5 : Arv Z h0 vb kb .byte (32 : Int32) (StrChars.Road.wideBytes cs) (.int (0 : Int32))) (Sc : SC Z zc) (nc : ¬ (zc = (0 : Int32))) (Sa : SA1 Z) (Su : SU1 Z) (Sv : SV1 Z) (Sf : SF1 Z vf) (rf : vf.isRef = true) (hl : cs.length ≤ 9) (hav : vb ≠ a1) (g_a1 : n0 ≤ a1) (l_a1 : a1 < h0.size) (g_vb : n0 ≤ vb) (l_vb : vb < h0.size) :
    Ct l (⟨"java/lang/AbstractStringBuilder", "append", "(C)Ljava/lang/AbstractStringBuilder;"⟩ : MethodName) jdk_68_method_31_code 2 (some (.object "java/lang/AbstractStringBuilder")) [] RM_rs_apc1 Z n0 #[(.ref a1), (.int (62 : Int32))] h0 [a1, vb] (Q_rs_apc1 Z a1 vb kb cs zc vf h0) := by
  refine Ct.of_walk (plainFor_of_name pn_2) hO (allS ⟨g_a1, l_a1⟩ (allS ⟨g_vb, l_vb⟩ all0)) ?_
  intro p e s m below meth c T0 X0
  rw [ef_RI2 m a1 (62 : Int32)]
  show Go _ _ _ _ (T0.setTop (mkF m 0 #[.val (.ref a1), .val (.int (62 : Int32))] []))
  refine X0.aloadN j68_31_0 rfl rfl ?_
  refine X0.aloadN j68_31_1 rfl rfl ?_
  obtain ⟨T1, X1, st1⟩ := X0.getF (host := "") (Or.inl (hw _ (gm 93 rfl))) Via.refl pr3 (g := (mkF m 2 #[.val (.ref a1), .val (.int (62 : Int32))] [(.ref a1), (.ref a1)])) rfl rfl j68_31_2
  refine Go.by st1 ?_
  refine X1.iconst j68_31_5 ?_
  refine X1.iadd j68_31_6 rfl ?_
  show Go _ _ _ _ (T1.setTop (mkF m 7 #[.val (.ref a1), .val (.int (62 : Int32))] [(.int ((Int32.ofNat cs.length) + (1 : Int32))), (.ref a1)]))
  rw [on_succ]
  show Go _ _ _ _ (T1.setTop (mkF m 7 #[.val (.ref a1), .val (.int (62 : Int32))] [(.int (Int32.ofNat (cs.length + 1))), (.ref a1)]))
  obtain ⟨_, T2, h2, XX2, K2, ⟨rfl, rfl⟩, st2⟩ := X1.pvX (W := 0) (hw _ (gm 95 rfl)) (hw _ (gm 96 rfl)) (own_selfsel (hw _ (gm 96 rfl)) (hw _ (gm 98 rfl)) (hw _ (gm 97 rfl)) (by decide)) (hw _ (gm 97 rfl)) (hw _ (gm 99 rfl)) (by decide) ((rs_en1 l Z a0 hw n0 a1 (cs.length + 1) vb kb (StrChars.Road.wideBytes cs) h0 X1.old pr1 pr2 pr5 (by omega)).pay (hw _ (gm 99 rfl)) (hw _ (gm 19 rfl)) (by decide) (by decide)) all0 pr0 (g := (mkF m 7 #[.val (.ref a1), .val (.int (62 : Int32))] [(.int (Int32.ofNat (cs.length + 1))), (.ref a1)])) rfl rfl (argsL := [(.int (Int32.ofNat (cs.length + 1)))]) (rest := []) (lenOf pd_8 rfl) rfl (by exact Nat.le_of_eq rfl) j68_31_7 rfl (by decide) (by decide)
  refine Go.tr st2 ?_
  have X2 := XX2 [] all0
  refine X2.aloadN j68_31_10 rfl rfl ?_
  obtain ⟨_, T3, h3, XX3, K3, ⟨rfl, rfl⟩, st3⟩ := X2.viX (W := 0) (hw _ (gm 148 rfl)) (hw _ (gm 149 rfl)) (hw _ (gm 151 rfl)) (hw _ (gm 150 rfl)) (by decide) ((rs_isl1 l Z a0 hw n0 a1 zc h0 X2.old pr2 Sc nc).pay (hw _ (gm 152 rfl)) (hw _ (gm 19 rfl)) (by decide) (by decide)) all0 pr0 (g := (mkF m 11 #[.val (.ref a1), .val (.int (62 : Int32))] [(.ref a1)])) rfl rfl (argsL := []) (rest := []) (lenOf pd_15 rfl) rfl (by exact Nat.le_of_eq rfl) j68_31_11 rfl (by decide) (by decide)
  refine Go.tr st3 ?_
  have X3 := XX3 [] all0
  refine X3.ifYes (pc0 := 14) (pc' := 45) rfl j68_31_14 rfl (XT.i0_eq_t (by decide)) (by decide) (by decide) ?_
  refine X3.aloadN j68_31_45 rfl rfl ?_
  obtain ⟨_, T4, h4, XX4, K4, ⟨rfl, rfl⟩, st4⟩ := X3.viX (W := 0) (hw _ (gm 148 rfl)) (hw _ (gm 149 rfl)) (hw _ (gm 151 rfl)) (hw _ (gm 150 rfl)) (by decide) ((rs_isl1 l Z a0 hw n0 a1 zc h0 X3.old pr2 Sc nc).pay (hw _ (gm 152 rfl)) (hw _ (gm 19 rfl)) (by decide) (by decide)) all0 pr0 (g := (mkF m 46 #[.val (.ref a1), .val (.int (62 : Int32))] [(.ref a1)])) rfl rfl (argsL := []) (rest := []) (lenOf pd_15 rfl) rfl (by exact Nat.le_of_eq rfl) j68_31_46 rfl (by decide) (by decide)
  refine Go.tr st4 ?_
  have X4 := XX4 [] all0
  refine X4.ifYes (pc0 := 49) (pc' := 56) rfl j68_31_49 rfl (XT.i0_eq_t (by decide)) (by decide) (by decide) ?_
  refine X4.aloadN j68_31_56 rfl rfl ?_
  obtain ⟨T5, X5, st5⟩ := X4.getF (host := "") (Or.inl (hw _ (gm 25 rfl))) Via.refl pr1 (g := (mkF m 57 #[.val (.ref a1), .val (.int (62 : Int32))] [(.ref a1)])) rfl rfl j68_31_57
  refine Go.by st5 ?_
  refine X5.aloadN j68_31_60 rfl rfl ?_
  refine X5.dup j68_31_61 rfl rfl ?_
  obtain ⟨T6, X6, st6⟩ := X5.getF (host := "") (Or.inl (hw _ (gm 93 rfl))) Via.refl pr3 (g := (mkF m 62 #[.val (.ref a1), .val (.int (62 : Int32))] [(.ref a1), (.ref a1), (.ref vb)])) rfl rfl j68_31_62
  refine Go.by st6 ?_
  show Go _ _ _ _ (T6.setTop (mkF m 65 #[.val (.ref a1), .val (.int (62 : Int32))] [(.int (Int32.ofNat cs.length)), (.ref a1), (.ref vb)]))
  refine X6.dupX1 j68_31_65 rfl rfl rfl ?_
  refine X6.iconst j68_31_66 ?_
  refine X6.iadd j68_31_67 rfl ?_
  show Go _ _ _ _ (T6.setTop (mkF m 68 #[.val (.ref a1), .val (.int (62 : Int32))] [(.int ((Int32.ofNat cs.length) + (1 : Int32))), (.ref a1), (.int (Int32.ofNat cs.length)), (.ref vb)]))
  rw [on_succ, own_snl cs (62 : Int32)]
  show Go _ _ _ _ (T6.setTop (mkF m 68 #[.val (.ref a1), .val (.int (62 : Int32))] [(.int (Int32.ofNat (cs ++ [(62 : Int32)]).length)), (.ref a1), (.int (Int32.ofNat cs.length)), (.ref vb)]))
  obtain ⟨T7, h7, X7, W7, st7⟩ := X6.putF (host := "") (Or.inl (hw _ (gm 93 rfl))) Via.refl pr3 pr0 (Or.inl (hw _ (gm 94 rfl))) (hw _ (gm 10 rfl)) (.head _) (ty := .int) (by decide) rfl rfl (g := (mkF m 68 #[.val (.ref a1), .val (.int (62 : Int32))] [(.int (Int32.ofNat (cs ++ [(62 : Int32)]).length)), (.ref a1), (.int (Int32.ofNat cs.length)), (.ref vb)])) rfl rfl j68_31_68
  refine Go.by st7 ?_
  have K0_h7 := (Keep.refl h0 [a1, vb]).wr W7 (Or.inl (.head _))
  have F7 : Fld Z h7 a1 "java/lang/AbstractStringBuilder" "count" "I" (.int (Int32.ofNat (cs ++ [(62 : Int32)]).length)) := pr3.same W7
  refine X7.iloadN j68_31_71 rfl ?_
  have f8 := (pr5).other W7 hav
  obtain ⟨_, T9, h9, XX9, K9, ⟨rfl, P9_0⟩, st9⟩ := X7.stX (W := 0) (hw _ (gm 261 rfl)) (hw _ (gm 262 rfl)) (hw _ (gm 199 rfl)) (hw _ (gm 263 rfl)) (by decide) ((rs_psb l Z a0 hw n0 vb kb cs.length (62 : Int32) (StrChars.Road.wideBytes cs) zc vf h7 X7.old f8 Sc nc Sa Su Sv Sf rf (own_wbl _) (by omega) (X7.ge (.tail _ (.head _))) (X7.lt (.tail _ (.head _)))).pay (hw _ (gm 263 rfl)) (hw _ (gm 199 rfl)) (by decide) (by decide)) (allS (.tail _ (.head _)) all0) (g := (mkF m 72 #[.val (.ref a1), .val (.int (62 : Int32))] [(.int (62 : Int32)), (.int (Int32.ofNat cs.length)), (.ref vb)])) rfl rfl (argsL := [(.ref vb), (.int (Int32.ofNat cs.length)), (.int (62 : Int32))]) (rest := []) (lenOf pd_2 rfl) rfl (by exact Nat.le_of_eq rfl) j68_31_72 rfl (by decide) (by decide)
  refine Go.tr st9 ?_
  have X9 := XX9 [] all0
  have K0_h9 := K0_h7.trans K9 (allS (Or.inl (.tail _ (.head _))) all0)
  have f10 : Arv Z h9 vb kb .byte (32 : Int32) (StrChars.Road.wideBytes (cs ++ [(62 : Int32)])) (.int (0 : Int32)) := (by rw [own_wba]; exact P9_0)
  refine X9.aloadN j68_31_75 rfl rfl ?_
  have f11 := ((pr1).other W7 (Or.inr (slot_ne (Or.inl (hw _ (gm 26 rfl))) (Or.inl (hw _ (gm 94 rfl))) (by decide) (t := (.array .byte)) (t' := .int) (by decide) (by decide)))).keep K9 (ninS hav.symm nin0)
  have f12 := ((pr2).other W7 (Or.inr (slot_ne (Or.inl (hw _ (gm 28 rfl))) (Or.inl (hw _ (gm 94 rfl))) (by decide) (t := .byte) (t' := .int) (by decide) (by decide)))).keep K9 (ninS hav.symm nin0)
  have f13 := (F7).keep K9 (ninS hav.symm nin0)
  have f14 := ((pr4).other W7 (Or.inr (slot_ne (Or.inl (hw _ (gm 274 rfl))) (Or.inl (hw _ (gm 94 rfl))) (by decide) (t := .boolean) (t' := .int) (by decide) (by decide)))).keep K9 (ninS hav.symm nin0)
  exact X9.retR rfl rfl j68_31_76 K0_h9 ⟨rfl, f11, f12, f13, f14, f10⟩ (by decide) (by decide)
def Q_rs_spc1 (Z : State) (a1 : Addr) (vb : Addr) (kb : ClassId) (cs : List Int32) (zc : Int32) (vf : Value) (h0 : Heap) (ov : Option Value) (hz : Heap) : Prop := ov = some (.ref a1) ∧ Fld Z hz a1 "java/lang/AbstractStringBuilder" "value" "[B" (.ref vb) ∧ Fld Z hz a1 "java/lang/AbstractStringBuilder" "coder" "B" (.int (1 : Int32)) ∧ Fld Z hz a1 "java/lang/AbstractStringBuilder" "count" "I" (.int (Int32.ofNat (cs ++ [(62 : Int32)]).length)) ∧ Fld Z hz a1 "java/lang/AbstractStringBuilder" "maybeLatin1" "Z" (.int (0 : Int32)) ∧ Arv Z hz vb kb .byte (32 : Int32) (StrChars.Road.wideBytes (cs ++ [(62 : Int32)])) (.int (0 : Int32))
abbrev RM_rs_spc1 : Room := { frames := 5, cells := 0, slots := 0, locals := 67 }
theorem rs_spc1 (l : Launch) (Z : State) (a0 : Array Value) (hw : ∀ d ∈ tables_1, d.before a0 Z = true) (n0 : Nat) (a1 : Addr) (vb : Addr) (kb : ClassId) (cs : List Int32) (zc : Int32) (vf : Value) (h0 : Heap) (hO : Old Z n0 h0) (pr0 : Exa Z h0 a1 "java/lang/StringBuilder") (pr1 : Fld Z h0 a1 "java/lang/AbstractStringBuilder" "value" "[B" (.ref vb)) (pr2 : Fld Z h0 a1 "java/lang/AbstractStringBuilder" "coder" "B" (.int (1 : Int32))) (pr3 : Fld Z h0 a1 "java/lang/AbstractStringBuilder" "count" "I" (.int (Int32.ofNat cs.length))) (pr4 : Fld Z h0 a1 "java/lang/AbstractStringBuilder" "maybeLatin1" "Z" (.int (0 : Int32))) (pr5 : Arv Z h0 vb kb .byte (32 : Int32) (StrChars.Road.wideBytes cs) (.int (0 : Int32))) (Sc : SC Z zc) (nc : ¬ (zc = (0 : Int32))) (Sa : SA1 Z) (Su : SU1 Z) (Sv : SV1 Z) (Sf : SF1 Z vf) (rf : vf.isRef = true) (hl : cs.length ≤ 9) (hav : vb ≠ a1) (g_a1 : n0 ≤ a1) (l_a1 : a1 < h0.size) (g_vb : n0 ≤ vb) (l_vb : vb < h0.size) :
    Ct l (⟨"java/lang/StringBuilder", "append", "(C)Ljava/lang/StringBuilder;"⟩ : MethodName) jdk_67_method_14_code 2 (some (.object "java/lang/StringBuilder")) [] RM_rs_spc1 Z n0 #[(.ref a1), (.int (62 : Int32))] h0 [a1, vb] (Q_rs_spc1 Z a1 vb kb cs zc vf h0) := by
  refine Ct.of_walk (plainFor_of_name pn_3) hO (allS ⟨g_a1, l_a1⟩ (allS ⟨g_vb, l_vb⟩ all0)) ?_
  intro p e s m below meth c T0 X0
  rw [ef_RI2 m a1 (62 : Int32)]
  show Go _ _ _ _ (T0.setTop (mkF m 0 #[.val (.ref a1), .val (.int (62 : Int32))] []))
  refine X0.aloadN j67_14_0 rfl rfl ?_
  refine X0.iloadN j67_14_1 rfl ?_
  obtain ⟨_, T1, h1, XX1, K1, ⟨rfl, P1_0, P1_1, P1_2, P1_3, P1_4⟩, st1⟩ := X0.suX (W := 0) (hw _ (gm 144 rfl)) (own_same (hw _ (gm 145 rfl)) (hw _ (gm 65 rfl)) (by decide) (own_notface (y := (⟨"java/lang/AbstractStringBuilder", "ensureCapacityInternal", "(I)V"⟩ : MethodName)) (hw _ (gm 96 rfl)) (hw _ (gm 98 rfl)))) (hw _ (gm 145 rfl)) (hw _ (gm 65 rfl)) (by decide) (hw _ (gm 147 rfl)) ((rs_apc1 l Z a0 hw n0 a1 vb kb cs zc vf h0 X0.old pr0 pr1 pr2 pr3 pr4 pr5 Sc nc Sa Su Sv Sf rf hl hav (X0.ge (.head _)) (X0.lt (.head _)) (X0.ge (.tail _ (.head _))) (X0.lt (.tail _ (.head _)))).pay (hw _ (gm 147 rfl)) (hw _ (gm 19 rfl)) (by decide) (by decide)) (allS (.head _) (allS (.tail _ (.head _)) all0)) (Ins.self pr0) (g := (mkF m 2 #[.val (.ref a1), .val (.int (62 : Int32))] [(.int (62 : Int32)), (.ref a1)])) rfl rfl (argsL := [(.int (62 : Int32))]) (rest := []) (lenOf pd_28 rfl) rfl (by exact Nat.le_of_eq rfl) j67_14_2 rfl (by decide) (by decide)
  refine Go.tr st1 ?_
  have X1 := XX1 [] all0
  have K0_h1 := (Keep.refl h0 [a1, vb]).trans K1 (allS (Or.inl (.head _)) (allS (Or.inl (.tail _ (.head _))) all0))
  refine X1.pop j67_14_5 rfl rfl ?_
  refine X1.aloadN j67_14_6 rfl rfl ?_
  exact X1.retR rfl rfl j67_14_7 K0_h1 ⟨rfl, P1_0, P1_1, P1_2, P1_3, P1_4⟩ (by decide) (by decide)
def Q_rs_gv (Z : State) (a1 : Addr) (vb : Addr) (h0 : Heap) (ov : Option Value) (hz : Heap) : Prop := ov = some (.ref vb) ∧ h0 = hz
theorem j68_64_0 : decode jdk_68_method_64_code 0 = .ok (.aload_n 0, 1) := by decide +kernel
theorem j68_64_1 : decode jdk_68_method_64_code 1 = .ok (.getfield 15, 3) := by decide +kernel
theorem j68_64_4 : decode jdk_68_method_64_code 4 = .ok (.areturn, 1) := by decide +kernel
abbrev RM_rs_gv : Room := { frames := 0, cells := 0, slots := 0, locals := 0 }
theorem rs_gv (l : Launch) (Z : State) (a0 : Array Value) (hw : ∀ d ∈ tables_1, d.before a0 Z = true) (n0 : Nat) (a1 : Addr) (vb : Addr) (h0 : Heap) (hO : Old Z n0 h0) (pr0 : Fld Z h0 a1 "java/lang/AbstractStringBuilder" "value" "[B" (.ref vb)) :
    Ct l (⟨"java/lang/AbstractStringBuilder", "getValue", "()[B"⟩ : MethodName) jdk_68_method_64_code 1 (some (.array .byte)) [] RM_rs_gv Z n0 #[(.ref a1)] h0 [] (Q_rs_gv Z a1 vb h0) := by
  refine Ct.of_walk (plainFor_of_name pn_2) hO all0 ?_
  intro p e s m below meth c T0 X0
  rw [ef_R1 m a1]
  show Go _ _ _ _ (T0.setTop (mkF m 0 #[.val (.ref a1)] []))
  refine X0.aloadN j68_64_0 rfl rfl ?_
  obtain ⟨T1, X1, st1⟩ := X0.getF (host := "") (Or.inl (hw _ (gm 25 rfl))) Via.refl pr0 (g := (mkF m 1 #[.val (.ref a1)] [(.ref a1)])) rfl rfl j68_64_1
  refine Go.by st1 ?_
  exact X1.retR rfl rfl j68_64_4 (Keep.refl h0 []) ⟨rfl, rfl⟩ (by decide) (by decide)
def Q_rs_crl (Z : State) (n : Nat) (h0 : Heap) (ov : Option Value) (hz : Heap) : Prop := ov = none ∧ h0 = hz
theorem pn_6 : plainName "java/util/Arrays" = true := by first | (simp [plainName, overriddenIn]; done) | decide +kernel
theorem j65_131_0 : decode jdk_65_method_131_code 0 = .ok (.iload_n 1, 1) := by decide +kernel
theorem j65_131_1 : decode jdk_65_method_131_code 1 = .ok (.iload_n 0, 1) := by decide +kernel
theorem j65_131_2 : decode jdk_65_method_131_code 2 = .ok (.if_icmp .ge 35, 3) := by decide +kernel
theorem j65_131_37 : decode jdk_65_method_131_code 37 = .ok (.return_, 1) := by decide +kernel
abbrev RM_rs_crl : Room := { frames := 0, cells := 0, slots := 0, locals := 0 }
theorem rs_crl (l : Launch) (Z : State) (a0 : Array Value) (hw : ∀ d ∈ tables_1, d.before a0 Z = true) (n0 : Nat) (n : Nat) (h0 : Heap) (hO : Old Z n0 h0) (hn : n ≤ 100) :
    Ct l (⟨"java/util/Arrays", "checkLength", "(II)V"⟩ : MethodName) jdk_65_method_131_code 2 none [] RM_rs_crl Z n0 #[(.int (0 : Int32)), (.int (Int32.ofNat n))] h0 [] (Q_rs_crl Z n h0) := by
  refine Ct.of_walk (plainFor_of_name pn_6) hO all0 ?_
  intro p e s m below meth c T0 X0
  rw [ef_II2 m (0 : Int32) (Int32.ofNat n)]
  show Go _ _ _ _ (T0.setTop (mkF m 0 #[.val (.int (0 : Int32)), .val (.int (Int32.ofNat n))] []))
  refine X0.iloadN j65_131_0 rfl ?_
  refine X0.iloadN j65_131_1 rfl ?_
  refine X0.icmpYes (pc0 := 2) (pc' := 37) rfl j65_131_2 rfl (XT.ii_ge_t (on_nn (by omega))) (by decide) (by decide) ?_
  exact X0.retV j65_131_37 (Keep.refl h0 []) ⟨rfl, rfl⟩ (by decide) (by decide)
def Q_rs_crb0 (Z : State) (vb : Addr) (kb : ClassId) (cs : List Int32) (h0 : Heap) (ov : Option Value) (hz : Heap) : Prop := ∃ (t : Addr), ∃ (kt : ClassId), ov = some (.ref t) ∧ h0.size ≤ t ∧ t < hz.size ∧ Arv Z hz t kt .byte (Int32.ofNat cs.length) (cs.map fun c => Value.int (StrChars.lo8 c)) (.int (0 : Int32))
theorem j65_133_0 : decode jdk_65_method_133_code 0 = .ok (.iload_n 1, 1) := by decide +kernel
theorem j65_133_1 : decode jdk_65_method_133_code 1 = .ok (.iload_n 2, 1) := by decide +kernel
theorem j65_133_2 : decode jdk_65_method_133_code 2 = .ok (.invokestatic 343, 3) := by decide +kernel
theorem j65_133_5 : decode jdk_65_method_133_code 5 = .ok (.iload_n 2, 1) := by decide +kernel
theorem j65_133_6 : decode jdk_65_method_133_code 6 = .ok (.iload_n 1, 1) := by decide +kernel
theorem j65_133_7 : decode jdk_65_method_133_code 7 = .ok (.isub, 1) := by decide +kernel
theorem j65_133_8 : decode jdk_65_method_133_code 8 = .ok (.istore_n 3, 1) := by decide +kernel
theorem j65_133_9 : decode jdk_65_method_133_code 9 = .ok (.iload_n 3, 1) := by decide +kernel
theorem j65_133_10 : decode jdk_65_method_133_code 10 = .ok (.newarray .byte, 2) := by decide +kernel
theorem j65_133_12 : decode jdk_65_method_133_code 12 = .ok (.astore 4, 2) := by decide +kernel
theorem j65_133_14 : decode jdk_65_method_133_code 14 = .ok (.aload_n 0, 1) := by decide +kernel
theorem j65_133_15 : decode jdk_65_method_133_code 15 = .ok (.iload_n 1, 1) := by decide +kernel
theorem j65_133_16 : decode jdk_65_method_133_code 16 = .ok (.aload 4, 2) := by decide +kernel
theorem j65_133_18 : decode jdk_65_method_133_code 18 = .ok (.iconst 0, 1) := by decide +kernel
theorem j65_133_19 : decode jdk_65_method_133_code 19 = .ok (.aload_n 0, 1) := by decide +kernel
theorem j65_133_20 : decode jdk_65_method_133_code 20 = .ok (.arraylength, 1) := by decide +kernel
theorem j65_133_21 : decode jdk_65_method_133_code 21 = .ok (.iload_n 1, 1) := by decide +kernel
theorem j65_133_22 : decode jdk_65_method_133_code 22 = .ok (.isub, 1) := by decide +kernel
theorem j65_133_23 : decode jdk_65_method_133_code 23 = .ok (.iload_n 3, 1) := by decide +kernel
theorem pd_29 : parseMethodDescriptor "(II)I" = some ⟨[.int, .int], some .int⟩ := by decide +kernel
theorem j65_133_24 : decode jdk_65_method_133_code 24 = .ok (.invokestatic 304, 3) := by decide +kernel
theorem j65_133_27 : decode jdk_65_method_133_code 27 = .ok (.invokestatic 150, 3) := by decide +kernel
theorem j65_133_30 : decode jdk_65_method_133_code 30 = .ok (.aload 4, 2) := by decide +kernel
theorem j65_133_32 : decode jdk_65_method_133_code 32 = .ok (.areturn, 1) := by decide +kernel
abbrev RM_rs_crb0 : Room := { frames := 1, cells := 1, slots := 10, locals := 18 }
theorem rs_crb0 (l : Launch) (Z : State) (a0 : Array Value) (hw : ∀ d ∈ tables_1, d.before a0 Z = true) (n0 : Nat) (vb : Addr) (kb : ClassId) (cs : List Int32) (h0 : Heap) (hO : Old Z n0 h0) (pr0 : Arv Z h0 vb kb .byte (16 : Int32) (cs.map fun c => Value.int (StrChars.lo8 c)) (.int (0 : Int32))) (hl : cs.length ≤ 10) :
    Ct l (⟨"java/util/Arrays", "copyOfRangeByte", "([BII)[B"⟩ : MethodName) jdk_65_method_133_code 5 (some (.array .byte)) [] RM_rs_crb0 Z n0 #[(.ref vb), (.int (0 : Int32)), (.int (Int32.ofNat cs.length))] h0 [] (Q_rs_crb0 Z vb kb cs h0) := by
  refine Ct.of_walk (plainFor_of_name pn_6) hO all0 ?_
  intro p e s m below meth c T0 X0
  rw [ef_RII5 m vb (0 : Int32) (Int32.ofNat cs.length)]
  show Go _ _ _ _ (T0.setTop (mkF m 0 #[.val (.ref vb), .val (.int (0 : Int32)), .val (.int (Int32.ofNat cs.length)), .unset, .unset] []))
  refine X0.iloadN j65_133_0 rfl ?_
  refine X0.iloadN j65_133_1 rfl ?_
  obtain ⟨_, T1, h1, XX1, K1, ⟨rfl, rfl⟩, st1⟩ := X0.stX (W := 0) (hw _ (gm 189 rfl)) (hw _ (gm 190 rfl)) (hw _ (gm 184 rfl)) (hw _ (gm 191 rfl)) (by decide) ((rs_crl l Z a0 hw n0 cs.length h0 X0.old (by omega)).pay (hw _ (gm 191 rfl)) (hw _ (gm 184 rfl)) (by decide) (by decide)) all0 (g := (mkF m 2 #[.val (.ref vb), .val (.int (0 : Int32)), .val (.int (Int32.ofNat cs.length)), .unset, .unset] [(.int (Int32.ofNat cs.length)), (.int (0 : Int32))])) rfl rfl (argsL := [(.int (0 : Int32)), (.int (Int32.ofNat cs.length))]) (rest := []) (lenOf pd_25 rfl) rfl (by exact Nat.le_of_eq rfl) j65_133_2 rfl (by decide) (by decide)
  refine Go.tr st1 ?_
  have X1 := XX1 [] all0
  refine X1.iloadN j65_133_5 rfl ?_
  refine X1.iloadN j65_133_6 rfl ?_
  refine X1.isub j65_133_7 rfl ?_
  show Go _ _ _ _ (T1.setTop (mkF m 8 #[.val (.ref vb), .val (.int (0 : Int32)), .val (.int (Int32.ofNat cs.length)), .unset, .unset] [(.int ((Int32.ofNat cs.length) - (0 : Int32)))]))
  rw [own_sub0]
  show Go _ _ _ _ (T1.setTop (mkF m 8 #[.val (.ref vb), .val (.int (0 : Int32)), .val (.int (Int32.ofNat cs.length)), .unset, .unset] [(.int (Int32.ofNat cs.length))]))
  refine X1.istoreN j65_133_8 rfl (l' := #[.val (.ref vb), .val (.int (0 : Int32)), .val (.int (Int32.ofNat cs.length)), .val (.int (Int32.ofNat cs.length)), .unset]) rfl ?_
  refine X1.iloadN j65_133_9 rfl ?_
  obtain ⟨T2, h2, b2, k2, g_b2, X2, E2, A2, st2⟩ := X1.newP (hw _ (gm 24 rfl)) (g := (mkF m 10 #[.val (.ref vb), .val (.int (0 : Int32)), .val (.int (Int32.ofNat cs.length)), .val (.int (Int32.ofNat cs.length)), .unset] [(.int (Int32.ofNat cs.length))])) rfl j65_133_10 rfl (on_nn (by omega)) (cap := 10) (by rw [on_clamp (a := cs.length) (by omega)]; omega) (by decide) (by decide) (by decide) (vs := (List.replicate (Int32.ofNat cs.length).toNatClampNeg (.int (0 : Int32)))) rfl
  refine Go.by st2 ?_
  have sz_b2 := Nat.le_trans X1.sz (Nat.le_of_eq g_b2.symm)
  have K0_h2 := (Keep.refl h0 []).ext E2
  have F2 : Arv Z h2 b2 k2 .byte (Int32.ofNat cs.length) (List.replicate (Int32.ofNat cs.length).toNatClampNeg (.int (0 : Int32))) (.int (0 : Int32)) := A2
  show Go _ _ _ _ (T2.setTop (mkF m 12 #[.val (.ref vb), .val (.int (0 : Int32)), .val (.int (Int32.ofNat cs.length)), .val (.int (Int32.ofNat cs.length)), .unset] [(.ref b2)]))
  have f3 : Arv Z h2 b2 k2 .byte (Int32.ofNat cs.length) ([] ++ List.replicate cs.length (.int (0 : Int32))) (.int (0 : Int32)) := (by have q := F2; rw [on_clamp (a := cs.length) (by omega)] at q; exact q)
  refine X2.astore j65_133_12 rfl rfl (l' := #[.val (.ref vb), .val (.int (0 : Int32)), .val (.int (Int32.ofNat cs.length)), .val (.int (Int32.ofNat cs.length)), .val (.ref b2)]) rfl ?_
  refine X2.aloadN j65_133_14 rfl rfl ?_
  refine X2.iloadN j65_133_15 rfl ?_
  refine X2.aload j65_133_16 rfl rfl ?_
  refine X2.iconst j65_133_18 ?_
  refine X2.aloadN j65_133_19 rfl rfl ?_
  have f4 := pr0.ext E2
  refine Go.by (fun _ k => X2.len f4 (g := (mkF m 20 #[.val (.ref vb), .val (.int (0 : Int32)), .val (.int (Int32.ofNat cs.length)), .val (.int (Int32.ofNat cs.length)), .val (.ref b2)] [(.ref vb), (.int (0 : Int32)), (.ref b2), (.int (0 : Int32)), (.ref vb)])) rfl rfl j65_133_20 _ k) ?_
  show Go _ _ _ _ (T2.setTop (mkF m 21 #[.val (.ref vb), .val (.int (0 : Int32)), .val (.int (Int32.ofNat cs.length)), .val (.int (Int32.ofNat cs.length)), .val (.ref b2)] [(.int (16 : Int32)), (.int (0 : Int32)), (.ref b2), (.int (0 : Int32)), (.ref vb)]))
  refine X2.iloadN j65_133_21 rfl ?_
  refine X2.isub j65_133_22 rfl ?_
  show Go _ _ _ _ (T2.setTop (mkF m 23 #[.val (.ref vb), .val (.int (0 : Int32)), .val (.int (Int32.ofNat cs.length)), .val (.int (Int32.ofNat cs.length)), .val (.ref b2)] [(.int (16 : Int32)), (.int (0 : Int32)), (.ref b2), (.int (0 : Int32)), (.ref vb)]))
  refine X2.iloadN j65_133_23 rfl ?_
  obtain ⟨_, T5, h5, XX5, K5, ⟨rfl, rfl⟩, st5⟩ := X2.stX (W := 4) (hw _ (gm 192 rfl)) (hw _ (gm 193 rfl)) (hw _ (gm 194 rfl)) (hw _ (gm 195 rfl)) (by decide) ((rm_min l Z a0 hw n0 (16 : Int32) (Int32.ofNat cs.length) h2 X2.old ).pay (hw _ (gm 195 rfl)) (hw _ (gm 194 rfl)) (by decide) (by decide)) all0 (g := (mkF m 24 #[.val (.ref vb), .val (.int (0 : Int32)), .val (.int (Int32.ofNat cs.length)), .val (.int (Int32.ofNat cs.length)), .val (.ref b2)] [(.int (Int32.ofNat cs.length)), (.int (16 : Int32)), (.int (0 : Int32)), (.ref b2), (.int (0 : Int32)), (.ref vb)])) rfl rfl (argsL := [(.int (16 : Int32)), (.int (Int32.ofNat cs.length))]) (rest := [(.int (0 : Int32)), (.ref b2), (.int (0 : Int32)), (.ref vb)]) (lenOf pd_29 rfl) rfl (by exact Nat.le_of_eq rfl) j65_133_24 rfl (by decide) (by decide)
  refine Go.tr st5 ?_
  have X5 := XX5 [] all0
  show Go _ _ _ _ (T5.setTop (mkF m 27 #[.val (.ref vb), .val (.int (0 : Int32)), .val (.int (Int32.ofNat cs.length)), .val (.int (Int32.ofNat cs.length)), .val (.ref b2)] [(.int (own_min (16 : Int32) (Int32.ofNat cs.length))), (.int (0 : Int32)), (.ref b2), (.int (0 : Int32)), (.ref vb)]))
  rw [own_mn0 (by omega)]
  show Go _ _ _ _ (T5.setTop (mkF m 27 #[.val (.ref vb), .val (.int (0 : Int32)), .val (.int (Int32.ofNat cs.length)), .val (.int (Int32.ofNat cs.length)), .val (.ref b2)] [(.int (Int32.ofNat cs.length)), (.int (0 : Int32)), (.ref b2), (.int (0 : Int32)), (.ref vb)]))
  obtain ⟨T6, h6, X6, K6, A6, st6⟩ := X5.cpA (hw _ (gm 196 rfl)) (hw _ (gm 119 rfl)) (hw _ (gm 117 rfl)) (hw _ (gm 118 rfl)) f4 f3 rfl (.head _) (by decide) (by decide) (on_nn (by omega)) (by rw [on_clamp (a := cs.length) (by omega)]; show 0 + _ ≤ 16; omega) (Nat.le_of_eq (Nat.zero_add _)) (us := (cs.map fun c => Value.int (StrChars.lo8 c))) (by rw [on_clamp (a := cs.length) (by omega)]; exact own_rng0 _ _ (own_lolen _)) (by rw [on_clamp (a := cs.length) (by omega)]; show 0 + _ ≤ _; simp) (vr := (cs.map fun c => Value.int (StrChars.lo8 c))) (by rw [on_clamp (a := cs.length) (by omega)]; exact own_cp [] _ _ rfl (own_lolen _)) (g := (mkF m 27 #[.val (.ref vb), .val (.int (0 : Int32)), .val (.int (Int32.ofNat cs.length)), .val (.int (Int32.ofNat cs.length)), .val (.ref b2)] [(.int (Int32.ofNat cs.length)), (.int (0 : Int32)), (.ref b2), (.int (0 : Int32)), (.ref vb)])) rfl rfl rfl j65_133_27 (by decide) (W := 0) (by exact Nat.le_of_eq rfl) (by decide)
  refine Go.by st6 ?_
  have K0_h6 := K0_h2.trans K6 (allS (Or.inr sz_b2) all0)
  show Go _ _ _ _ (T6.setTop (mkF m 30 #[.val (.ref vb), .val (.int (0 : Int32)), .val (.int (Int32.ofNat cs.length)), .val (.int (Int32.ofNat cs.length)), .val (.ref b2)] []))
  refine X6.aload j65_133_30 rfl rfl ?_
  exact X6.retR rfl rfl j65_133_32 K0_h6 ⟨b2, k2, rfl, sz_b2, (X6.lt (.head _)), A6⟩ (by decide) (by decide)
def Q_rs_cor0 (Z : State) (vb : Addr) (kb : ClassId) (cs : List Int32) (h0 : Heap) (ov : Option Value) (hz : Heap) : Prop := ∃ (t : Addr), ∃ (kt : ClassId), ov = some (.ref t) ∧ h0.size ≤ t ∧ t < hz.size ∧ Arv Z hz t kt .byte (Int32.ofNat cs.length) (cs.map fun c => Value.int (StrChars.lo8 c)) (.int (0 : Int32))
theorem j65_132_0 : decode jdk_65_method_132_code 0 = .ok (.iload_n 1, 1) := by decide +kernel
theorem j65_132_1 : decode jdk_65_method_132_code 1 = .ok (.ifCond .ne 9, 3) := by decide +kernel
theorem j65_132_4 : decode jdk_65_method_132_code 4 = .ok (.iload_n 2, 1) := by decide +kernel
theorem j65_132_5 : decode jdk_65_method_132_code 5 = .ok (.aload_n 0, 1) := by decide +kernel
theorem j65_132_6 : decode jdk_65_method_132_code 6 = .ok (.arraylength, 1) := by decide +kernel
theorem j65_132_7 : decode jdk_65_method_132_code 7 = .ok (.if_icmp .eq 10, 3) := by decide +kernel
theorem j65_132_10 : decode jdk_65_method_132_code 10 = .ok (.aload_n 0, 1) := by decide +kernel
theorem j65_132_11 : decode jdk_65_method_132_code 11 = .ok (.iload_n 1, 1) := by decide +kernel
theorem j65_132_12 : decode jdk_65_method_132_code 12 = .ok (.iload_n 2, 1) := by decide +kernel
theorem pd_30 : parseMethodDescriptor "([BII)[B" = some ⟨[(.array .byte), .int, .int], some (.array .byte)⟩ := by decide +kernel
theorem j65_132_13 : decode jdk_65_method_132_code 13 = .ok (.invokestatic 339, 3) := by decide +kernel
theorem j65_132_16 : decode jdk_65_method_132_code 16 = .ok (.areturn, 1) := by decide +kernel
abbrev RM_rs_cor0 : Room := { frames := 2, cells := 1, slots := 10, locals := 34 }
theorem rs_cor0 (l : Launch) (Z : State) (a0 : Array Value) (hw : ∀ d ∈ tables_1, d.before a0 Z = true) (n0 : Nat) (vb : Addr) (kb : ClassId) (cs : List Int32) (h0 : Heap) (hO : Old Z n0 h0) (pr0 : Arv Z h0 vb kb .byte (16 : Int32) (cs.map fun c => Value.int (StrChars.lo8 c)) (.int (0 : Int32))) (hl : cs.length ≤ 10) :
    Ct l (⟨"java/util/Arrays", "copyOfRange", "([BII)[B"⟩ : MethodName) jdk_65_method_132_code 3 (some (.array .byte)) [] RM_rs_cor0 Z n0 #[(.ref vb), (.int (0 : Int32)), (.int (Int32.ofNat cs.length))] h0 [] (Q_rs_cor0 Z vb kb cs h0) := by
  refine Ct.of_walk (plainFor_of_name pn_6) hO all0 ?_
  intro p e s m below meth c T0 X0
  rw [ef_RII3 m vb (0 : Int32) (Int32.ofNat cs.length)]
  show Go _ _ _ _ (T0.setTop (mkF m 0 #[.val (.ref vb), .val (.int (0 : Int32)), .val (.int (Int32.ofNat cs.length))] []))
  refine X0.iloadN j65_132_0 rfl ?_
  refine X0.ifNo j65_132_1 rfl (XT.i0_ne_f (by decide)) ?_
  refine X0.iloadN j65_132_4 rfl ?_
  refine X0.aloadN j65_132_5 rfl rfl ?_
  refine Go.by (fun _ k => X0.len pr0 (g := (mkF m 6 #[.val (.ref vb), .val (.int (0 : Int32)), .val (.int (Int32.ofNat cs.length))] [(.ref vb), (.int (Int32.ofNat cs.length))])) rfl rfl j65_132_6 _ k) ?_
  show Go _ _ _ _ (T0.setTop (mkF m 7 #[.val (.ref vb), .val (.int (0 : Int32)), .val (.int (Int32.ofNat cs.length))] [(.int (16 : Int32)), (.int (Int32.ofNat cs.length))]))
  refine X0.icmpNo j65_132_7 rfl (XT.ii_eq_f (own_ne16 (by omega))) ?_
  refine X0.aloadN j65_132_10 rfl rfl ?_
  refine X0.iloadN j65_132_11 rfl ?_
  refine X0.iloadN j65_132_12 rfl ?_
  obtain ⟨_, T1, h1, XX1, K1, ⟨t_1, kt_1, rfl, fr_t_1, fl_t_1, P1_0⟩, st1⟩ := X0.stX (W := 0) (hw _ (gm 186 rfl)) (hw _ (gm 187 rfl)) (hw _ (gm 184 rfl)) (hw _ (gm 188 rfl)) (by decide) ((rs_crb0 l Z a0 hw n0 vb kb cs h0 X0.old pr0 hl).pay (hw _ (gm 188 rfl)) (hw _ (gm 184 rfl)) (by decide) (by decide)) all0 (g := (mkF m 13 #[.val (.ref vb), .val (.int (0 : Int32)), .val (.int (Int32.ofNat cs.length))] [(.int (Int32.ofNat cs.length)), (.int (0 : Int32)), (.ref vb)])) rfl rfl (argsL := [(.ref vb), (.int (0 : Int32)), (.int (Int32.ofNat cs.length))]) (rest := []) (lenOf pd_30 rfl) rfl (by exact Nat.le_of_eq rfl) j65_132_13 rfl (by decide) (by decide)
  refine Go.tr st1 ?_
  have X1 := XX1 [t_1] (allS (Or.inr ⟨fr_t_1, fl_t_1⟩) all0)
  have K0_h1 := (Keep.refl h0 []).trans K1 all0
  have sz_t_1 := Nat.le_trans X0.sz fr_t_1
  exact X1.retR rfl rfl j65_132_16 K0_h1 ⟨t_1, kt_1, rfl, sz_t_1, (X1.lt (.head _)), P1_0⟩ (by decide) (by decide)
theorem ef_RRN5 (m : MethodId) (x0 : Addr) (x1 : Addr) : entryFrame m #[(.ref x0), (.ref x1), .null] 5 = mkF m 0 #[.val (.ref x0), .val (.ref x1), .val .null, .unset, .unset] [] := by first | (simp [entryFrame, mkF, argsToLocals, Value.category]; done) | rfl
def Q_rs_sia0 (Z : State) (x : Addr) (v0 : Value) (c0 : Value) (a1 : Addr) (vb : Addr) (kb : ClassId) (cs : List Int32) (zc : Int32) (vf : Value) (h0 : Heap) (ov : Option Value) (hz : Heap) : Prop := ∃ (t : Addr), ov = none ∧ h0.size ≤ t ∧ t < hz.size ∧ Str Z hz x t cs
theorem j42_150_0 : decode jdk_42_method_150_code 0 = .ok (.aload_n 0, 1) := by decide +kernel
theorem j42_150_1 : decode jdk_42_method_150_code 1 = .ok (.invokespecial 1, 3) := by decide +kernel
theorem j42_150_4 : decode jdk_42_method_150_code 4 = .ok (.aload_n 1, 1) := by decide +kernel
theorem pd_31 : parseMethodDescriptor "()[B" = some ⟨[], some (.array .byte)⟩ := by decide +kernel
theorem j42_150_5 : decode jdk_42_method_150_code 5 = .ok (.invokevirtual 552, 3) := by decide +kernel
theorem j42_150_8 : decode jdk_42_method_150_code 8 = .ok (.astore_n 3, 1) := by decide +kernel
theorem j42_150_9 : decode jdk_42_method_150_code 9 = .ok (.aload_n 1, 1) := by decide +kernel
theorem j42_150_10 : decode jdk_42_method_150_code 10 = .ok (.invokevirtual 549, 3) := by decide +kernel
theorem j42_150_13 : decode jdk_42_method_150_code 13 = .ok (.istore 4, 2) := by decide +kernel
theorem j42_150_15 : decode jdk_42_method_150_code 15 = .ok (.aload_n 1, 1) := by decide +kernel
theorem j42_150_16 : decode jdk_42_method_150_code 16 = .ok (.invokevirtual 1047, 3) := by decide +kernel
theorem j42_150_19 : decode jdk_42_method_150_code 19 = .ok (.ifCond .eq 22, 3) := by decide +kernel
theorem j42_150_22 : decode jdk_42_method_150_code 22 = .ok (.aload_n 0, 1) := by decide +kernel
theorem j42_150_23 : decode jdk_42_method_150_code 23 = .ok (.iconst 0, 1) := by decide +kernel
theorem j42_150_24 : decode jdk_42_method_150_code 24 = .ok (.putfield 15, 3) := by decide +kernel
theorem j42_150_27 : decode jdk_42_method_150_code 27 = .ok (.aload_n 0, 1) := by decide +kernel
theorem j42_150_28 : decode jdk_42_method_150_code 28 = .ok (.aload_n 3, 1) := by decide +kernel
theorem j42_150_29 : decode jdk_42_method_150_code 29 = .ok (.iconst 0, 1) := by decide +kernel
theorem j42_150_30 : decode jdk_42_method_150_code 30 = .ok (.iload 4, 2) := by decide +kernel
theorem j42_150_32 : decode jdk_42_method_150_code 32 = .ok (.invokestatic 54, 3) := by decide +kernel
theorem j42_150_35 : decode jdk_42_method_150_code 35 = .ok (.putfield 9, 3) := by decide +kernel
theorem j42_150_38 : decode jdk_42_method_150_code 38 = .ok (.goto 59, 3) := by decide +kernel
theorem j42_150_97 : decode jdk_42_method_150_code 97 = .ok (.return_, 1) := by decide +kernel
abbrev RM_rs_sia0 : Room := { frames := 3, cells := 1, slots := 10, locals := 49 }
theorem rs_sia0 (l : Launch) (Z : State) (a0 : Array Value) (hw : ∀ d ∈ tables_1, d.before a0 Z = true) (n0 : Nat) (x : Addr) (v0 : Value) (c0 : Value) (a1 : Addr) (vb : Addr) (kb : ClassId) (cs : List Int32) (zc : Int32) (vf : Value) (h0 : Heap) (hO : Old Z n0 h0) (pr0 : Exa Z h0 x "java/lang/String") (pr1 : Fld Z h0 x "java/lang/String" "value" "[B" v0) (pr2 : Fld Z h0 x "java/lang/String" "coder" "B" c0) (pr3 : Exa Z h0 a1 "java/lang/StringBuilder") (pr4 : Fld Z h0 a1 "java/lang/AbstractStringBuilder" "value" "[B" (.ref vb)) (pr5 : Fld Z h0 a1 "java/lang/AbstractStringBuilder" "coder" "B" (.int (0 : Int32))) (pr6 : Fld Z h0 a1 "java/lang/AbstractStringBuilder" "count" "I" (.int (Int32.ofNat cs.length))) (pr7 : Fld Z h0 a1 "java/lang/AbstractStringBuilder" "maybeLatin1" "Z" (.int (0 : Int32))) (pr8 : Arv Z h0 vb kb .byte (16 : Int32) (cs.map fun c => Value.int (StrChars.lo8 c)) (.int (0 : Int32))) (Sc : SC Z zc) (nc : ¬ (zc = (0 : Int32))) (Sa : SA1 Z) (Su : SU1 Z) (Sv : SV1 Z) (Sf : SF1 Z vf) (rf : vf.isRef = true) (hcs : ∀ c ∈ cs, ¬ c < 0 ∧ ¬ (255 : Int32) < c) (hl : cs.length ≤ 10) (hxa : a1 ≠ x) (hxv : vb ≠ x) (g_x : n0 ≤ x) (l_x : x < h0.size) :
    Ct l (⟨"java/lang/String", "<init>", "(Ljava/lang/AbstractStringBuilder;Ljava/lang/Void;)V"⟩ : MethodName) jdk_42_method_150_code 5 none [] RM_rs_sia0 Z n0 #[(.ref x), (.ref a1), .null] h0 [x] (Q_rs_sia0 Z x v0 c0 a1 vb kb cs zc vf h0) := by
  refine Ct.of_walk (plainFor_of_name pn_1) hO (allS ⟨g_x, l_x⟩ all0) ?_
  intro p e s m below meth c T0 X0
  rw [ef_RRN5 m x a1]
  show Go _ _ _ _ (T0.setTop (mkF m 0 #[.val (.ref x), .val (.ref a1), .val .null, .unset, .unset] []))
  refine X0.aloadN j42_150_0 rfl rfl ?_
  obtain ⟨T1, X1, st1⟩ := X0.initO (hw _ (gm 45 rfl)) (hw _ (gm 7 rfl)) (hw _ (gm 8 rfl)) (g := (mkF m 1 #[.val (.ref x), .val (.ref a1), .val .null, .unset, .unset] [(.ref x)])) rfl rfl rfl j42_150_1 (by decide) (W := 0) (by exact Nat.le_of_eq rfl) (by decide)
  refine Go.by st1 ?_
  refine X1.aloadN j42_150_4 rfl rfl ?_
  obtain ⟨_, T2, h2, XX2, K2, ⟨rfl, rfl⟩, st2⟩ := X1.viX (W := 0) (hw _ (gm 174 rfl)) (hw _ (gm 175 rfl)) (hw _ (gm 177 rfl)) (hw _ (gm 176 rfl)) (by decide) ((rs_gv l Z a0 hw n0 a1 vb h0 X1.old pr4).pay (hw _ (gm 178 rfl)) (hw _ (gm 19 rfl)) (by decide) (by decide)) all0 pr3 (g := (mkF m 5 #[.val (.ref x), .val (.ref a1), .val .null, .unset, .unset] [(.ref a1)])) rfl rfl (argsL := []) (rest := []) (lenOf pd_31 rfl) rfl (by exact Nat.le_of_eq rfl) j42_150_5 rfl (by decide) (by decide)
  refine Go.tr st2 ?_
  have X2 := XX2 [] all0
  refine X2.astoreN j42_150_8 rfl rfl (l' := #[.val (.ref x), .val (.ref a1), .val .null, .val (.ref vb), .unset]) rfl ?_
  refine X2.aloadN j42_150_9 rfl rfl ?_
  obtain ⟨_, T3, h3, XX3, K3, ⟨rfl, rfl⟩, st3⟩ := X2.voX (y' := (⟨"java/lang/AbstractStringBuilder", "length", "()I"⟩ : MethodName)) (z' := (⟨"java/lang/StringBuilder", "length", "()I"⟩ : MethodName)) (W := 0) (hw _ (gm 179 rfl)) (hw _ (gm 132 rfl)) (own_nf (y2 := (⟨"java/lang/AbstractStringBuilder", "ensureCapacityInternal", "(I)V"⟩ : MethodName)) rfl (hw _ (gm 98 rfl))) (hw _ (gm 180 rfl)) (hw _ (gm 127 rfl)) (by decide) ((rs_sln l Z a0 hw n0 a1 (Int32.ofNat cs.length) h0 X2.old pr3 pr6).pay (hw _ (gm 129 rfl)) (hw _ (gm 11 rfl)) (by decide) (by decide)) all0 pr3 (g := (mkF m 10 #[.val (.ref x), .val (.ref a1), .val .null, .val (.ref vb), .unset] [(.ref a1)])) rfl rfl (argsL := []) (rest := []) (lenOf pd_9 rfl) rfl (by exact Nat.le_of_eq rfl) j42_150_10 rfl (by decide) (by decide)
  refine Go.tr st3 ?_
  have X3 := XX3 [] all0
  refine X3.istore j42_150_13 rfl (l' := #[.val (.ref x), .val (.ref a1), .val .null, .val (.ref vb), .val (.int (Int32.ofNat cs.length))]) rfl ?_
  refine X3.aloadN j42_150_15 rfl rfl ?_
  obtain ⟨_, T4, h4, XX4, K4, ⟨rfl, rfl⟩, st4⟩ := X3.viX (W := 0) (hw _ (gm 181 rfl)) (hw _ (gm 149 rfl)) (hw _ (gm 151 rfl)) (hw _ (gm 150 rfl)) (by decide) ((rs_isl0 l Z a0 hw n0 a1 zc h0 X3.old pr5 Sc nc).pay (hw _ (gm 152 rfl)) (hw _ (gm 19 rfl)) (by decide) (by decide)) all0 pr3 (g := (mkF m 16 #[.val (.ref x), .val (.ref a1), .val .null, .val (.ref vb), .val (.int (Int32.ofNat cs.length))] [(.ref a1)])) rfl rfl (argsL := []) (rest := []) (lenOf pd_15 rfl) rfl (by exact Nat.le_of_eq rfl) j42_150_16 rfl (by decide) (by decide)
  refine Go.tr st4 ?_
  have X4 := XX4 [] all0
  refine X4.ifNo j42_150_19 rfl (XT.i0_eq_f (by decide)) ?_
  refine X4.aloadN j42_150_22 rfl rfl ?_
  show Go _ _ _ _ (T4.setTop (mkF m 23 #[.val (.ref x), .val (.ref a1), .val .null, .val (.ref vb), .val (.int (Int32.ofNat cs.length))] [(.ref x)]))
  refine X4.iconst j42_150_23 ?_
  obtain ⟨T5, h5, X5, W5, st5⟩ := X4.putFN (hw _ (gm 52 rfl)) Via.refl pr2 pr0 (Or.inr ⟨(hw _ (gm 48 rfl)), rfl, rfl⟩) (hw _ (gm 36 rfl)) (.head _) (ty := .byte) (v' := .int (0 : Int32)) (by decide) rfl rfl (g := (mkF m 24 #[.val (.ref x), .val (.ref a1), .val .null, .val (.ref vb), .val (.int (Int32.ofNat cs.length))] [(.int (0 : Int32)), (.ref x)])) rfl rfl j42_150_24
  refine Go.by st5 ?_
  have K0_h5 := (Keep.refl h0 [x]).wr W5 (Or.inl (.head _))
  have F5 : Fld Z h5 x "java/lang/String" "coder" "B" (.int (0 : Int32)) := pr2.same W5
  refine X5.aloadN j42_150_27 rfl rfl ?_
  refine X5.aloadN j42_150_28 rfl rfl ?_
  refine X5.iconst j42_150_29 ?_
  refine X5.iload j42_150_30 rfl ?_
  have f6 := (pr8).other W5 hxv
  have lt_x_7 := (X5.lt (.head _))
  obtain ⟨_, T7, h7, XX7, K7, ⟨t_7, kt_7, rfl, fr_t_7, fl_t_7, P7_0⟩, st7⟩ := X5.stX (W := 1) (hw _ (gm 182 rfl)) (hw _ (gm 183 rfl)) (hw _ (gm 184 rfl)) (hw _ (gm 185 rfl)) (by decide) ((rs_cor0 l Z a0 hw n0 vb kb cs h5 X5.old f6 hl).pay (hw _ (gm 185 rfl)) (hw _ (gm 184 rfl)) (by decide) (by decide)) all0 (g := (mkF m 32 #[.val (.ref x), .val (.ref a1), .val .null, .val (.ref vb), .val (.int (Int32.ofNat cs.length))] [(.int (Int32.ofNat cs.length)), (.int (0 : Int32)), (.ref vb), (.ref x)])) rfl rfl (argsL := [(.ref vb), (.int (0 : Int32)), (.int (Int32.ofNat cs.length))]) (rest := [(.ref x)]) (lenOf pd_30 rfl) rfl (by exact Nat.le_of_eq rfl) j42_150_32 rfl (by decide) (by decide)
  refine Go.tr st7 ?_
  have X7 := XX7 [t_7] (allS (Or.inr ⟨fr_t_7, fl_t_7⟩) all0)
  have K0_h7 := K0_h5.trans K7 all0
  have ne_x_t_7 := ne_ge lt_x_7 fr_t_7
  have sz_t_7 := Nat.le_trans X5.sz fr_t_7
  have f10 := ((pr1).other W5 (Or.inr (slot_ne (Or.inr (hw _ (gm 47 rfl))) (Or.inr (hw _ (gm 48 rfl))) (by decide) (t := (.array .byte)) (t' := .byte) (by decide) (by decide)))).keep K7 nin0
  have f11 := ((pr0).wr W5).keep K7
  obtain ⟨T9, h9, X9, W9, st9⟩ := X7.putF (host := "") (Or.inl (hw _ (gm 51 rfl))) Via.refl f10 f11 (Or.inr ⟨(hw _ (gm 47 rfl)), rfl, rfl⟩) (hw _ (gm 36 rfl)) (.tail _ (.head _)) (ty := (.array .byte)) (by decide) rfl rfl (g := (mkF m 35 #[.val (.ref x), .val (.ref a1), .val .null, .val (.ref vb), .val (.int (Int32.ofNat cs.length))] [(.ref t_7), (.ref x)])) rfl rfl j42_150_35
  refine Go.by st9 ?_
  have K0_h9 := K0_h7.wr W9 (Or.inl (.head _))
  have F9 : Fld Z h9 x "java/lang/String" "value" "[B" (.ref t_7) := f10.same W9
  refine X9.goto (pc0 := 38) (pc' := 97) rfl j42_150_38 (by decide) (by decide) ?_
  have f13 := (f11).wr W9
  have f14 := ((F5).keep K7 nin0).other W9 (Or.inr (slot_ne (Or.inr (hw _ (gm 48 rfl))) (Or.inr (hw _ (gm 47 rfl))) (by decide) (t := .byte) (t' := (.array .byte)) (by decide) (by decide)))
  have f15 := (P7_0).other W9 ne_x_t_7.symm
  have S12 : Str Z h9 x t_7 cs := own_strW f13 F9 f14 f15 (Or.inl ⟨rfl, rfl, rfl, fun c hc => (hcs c hc).2⟩) (up255 cs hcs) (by omega)
  exact X9.retV j42_150_97 K0_h9 ⟨t_7, rfl, sz_t_7, (X9.lt (.head _)), S12⟩ (by decide) (by decide)
def Q_rs_sis0 (Z : State) (x : Addr) (v0 : Value) (c0 : Value) (a1 : Addr) (vb : Addr) (kb : ClassId) (cs : List Int32) (zc : Int32) (vf : Value) (h0 : Heap) (ov : Option Value) (hz : Heap) : Prop := ∃ (t : Addr), ov = none ∧ h0.size ≤ t ∧ t < hz.size ∧ Str Z hz x t cs
theorem j42_53_0 : decode jdk_42_method_53_code 0 = .ok (.aload_n 0, 1) := by decide +kernel
theorem j42_53_1 : decode jdk_42_method_53_code 1 = .ok (.aload_n 1, 1) := by decide +kernel
theorem j42_53_2 : decode jdk_42_method_53_code 2 = .ok (.aconst_null, 1) := by decide +kernel
theorem pd_32 : parseMethodDescriptor "(Ljava/lang/AbstractStringBuilder;Ljava/lang/Void;)V" = some ⟨[(.object "java/lang/AbstractStringBuilder"), (.object "java/lang/Void")], none⟩ := by decide +kernel
theorem j42_53_3 : decode jdk_42_method_53_code 3 = .ok (.invokespecial 489, 3) := by decide +kernel
theorem j42_53_6 : decode jdk_42_method_53_code 6 = .ok (.return_, 1) := by decide +kernel
abbrev RM_rs_sis0 : Room := { frames := 4, cells := 1, slots := 10, locals := 65 }
theorem rs_sis0 (l : Launch) (Z : State) (a0 : Array Value) (hw : ∀ d ∈ tables_1, d.before a0 Z = true) (n0 : Nat) (x : Addr) (v0 : Value) (c0 : Value) (a1 : Addr) (vb : Addr) (kb : ClassId) (cs : List Int32) (zc : Int32) (vf : Value) (h0 : Heap) (hO : Old Z n0 h0) (pr0 : Exa Z h0 x "java/lang/String") (pr1 : Fld Z h0 x "java/lang/String" "value" "[B" v0) (pr2 : Fld Z h0 x "java/lang/String" "coder" "B" c0) (pr3 : Exa Z h0 a1 "java/lang/StringBuilder") (pr4 : Fld Z h0 a1 "java/lang/AbstractStringBuilder" "value" "[B" (.ref vb)) (pr5 : Fld Z h0 a1 "java/lang/AbstractStringBuilder" "coder" "B" (.int (0 : Int32))) (pr6 : Fld Z h0 a1 "java/lang/AbstractStringBuilder" "count" "I" (.int (Int32.ofNat cs.length))) (pr7 : Fld Z h0 a1 "java/lang/AbstractStringBuilder" "maybeLatin1" "Z" (.int (0 : Int32))) (pr8 : Arv Z h0 vb kb .byte (16 : Int32) (cs.map fun c => Value.int (StrChars.lo8 c)) (.int (0 : Int32))) (Sc : SC Z zc) (nc : ¬ (zc = (0 : Int32))) (Sa : SA1 Z) (Su : SU1 Z) (Sv : SV1 Z) (Sf : SF1 Z vf) (rf : vf.isRef = true) (hcs : ∀ c ∈ cs, ¬ c < 0 ∧ ¬ (255 : Int32) < c) (hl : cs.length ≤ 10) (hxa : a1 ≠ x) (hxv : vb ≠ x) (g_x : n0 ≤ x) (l_x : x < h0.size) :
    Ct l (⟨"java/lang/String", "<init>", "(Ljava/lang/StringBuilder;)V"⟩ : MethodName) jdk_42_method_53_code 2 none [] RM_rs_sis0 Z n0 #[(.ref x), (.ref a1)] h0 [x] (Q_rs_sis0 Z x v0 c0 a1 vb kb cs zc vf h0) := by
  refine Ct.of_walk (plainFor_of_name pn_1) hO (allS ⟨g_x, l_x⟩ all0) ?_
  intro p e s m below meth c T0 X0
  rw [ef_RR2 m x a1]
  show Go _ _ _ _ (T0.setTop (mkF m 0 #[.val (.ref x), .val (.ref a1)] []))
  refine X0.aloadN j42_53_0 rfl rfl ?_
  refine X0.aloadN j42_53_1 rfl rfl ?_
  refine X0.aconstNull j42_53_2 ?_
  obtain ⟨_, T1, h1, XX1, K1, ⟨t_1, rfl, fr_t_1, fl_t_1, P1_0⟩, st1⟩ := X0.spX (W := 0) rfl (hw _ (gm 171 rfl)) (hw _ (gm 172 rfl)) (hw _ (gm 173 rfl)) (by decide) ((rs_sia0 l Z a0 hw n0 x v0 c0 a1 vb kb cs zc vf h0 X0.old pr0 pr1 pr2 pr3 pr4 pr5 pr6 pr7 pr8 Sc nc Sa Su Sv Sf rf hcs hl hxa hxv (X0.ge (.head _)) (X0.lt (.head _))).pay (hw _ (gm 173 rfl)) (hw _ (gm 23 rfl)) (by decide) (by decide)) (allS (.head _) all0) (g := (mkF m 3 #[.val (.ref x), .val (.ref a1)] [.null, (.ref a1), (.ref x)])) rfl rfl (a := x) (argsL := [(.ref a1), .null]) (rest := []) (lenOf pd_32 rfl) rfl (by exact Nat.le_of_eq rfl) j42_53_3 rfl (by decide) (by decide)
  refine Go.tr st1 ?_
  have X1 := XX1 [t_1] (allS (Or.inr ⟨fr_t_1, fl_t_1⟩) all0)
  have K0_h1 := (Keep.refl h0 [x]).trans K1 (allS (Or.inl (.head _)) all0)
  have sz_t_1 := Nat.le_trans X0.sz fr_t_1
  exact X1.retV j42_53_6 K0_h1 ⟨t_1, rfl, sz_t_1, (X1.lt (.head _)), P1_0⟩ (by decide) (by decide)
def Q_rs_tos0 (Z : State) (a1 : Addr) (vb : Addr) (kb : ClassId) (cs : List Int32) (zc : Int32) (vf : Value) (h0 : Heap) (ov : Option Value) (hz : Heap) : Prop := ∃ (x : Addr), ∃ (t : Addr), ov = some (.ref x) ∧ h0.size ≤ x ∧ x < hz.size ∧ h0.size ≤ t ∧ t < hz.size ∧ Str Z hz x t cs
theorem j67_42_0 : decode jdk_67_method_42_code 0 = .ok (.new 18, 3) := by decide +kernel
theorem j67_42_3 : decode jdk_67_method_42_code 3 = .ok (.dup, 1) := by decide +kernel
theorem j67_42_4 : decode jdk_67_method_42_code 4 = .ok (.aload_n 0, 1) := by decide +kernel
theorem pd_33 : parseMethodDescriptor "(Ljava/lang/StringBuilder;)V" = some ⟨[(.object "java/lang/StringBuilder")], none⟩ := by decide +kernel
theorem j67_42_5 : decode jdk_67_method_42_code 5 = .ok (.invokespecial 137, 3) := by decide +kernel
theorem j67_42_8 : decode jdk_67_method_42_code 8 = .ok (.areturn, 1) := by decide +kernel
abbrev RM_rs_tos0 : Room := { frames := 5, cells := 2, slots := 14, locals := 79 }
theorem rs_tos0 (l : Launch) (Z : State) (a0 : Array Value) (hw : ∀ d ∈ tables_1, d.before a0 Z = true) (n0 : Nat) (a1 : Addr) (vb : Addr) (kb : ClassId) (cs : List Int32) (zc : Int32) (vf : Value) (h0 : Heap) (hO : Old Z n0 h0) (pr0 : Exa Z h0 a1 "java/lang/StringBuilder") (pr1 : Fld Z h0 a1 "java/lang/AbstractStringBuilder" "value" "[B" (.ref vb)) (pr2 : Fld Z h0 a1 "java/lang/AbstractStringBuilder" "coder" "B" (.int (0 : Int32))) (pr3 : Fld Z h0 a1 "java/lang/AbstractStringBuilder" "count" "I" (.int (Int32.ofNat cs.length))) (pr4 : Fld Z h0 a1 "java/lang/AbstractStringBuilder" "maybeLatin1" "Z" (.int (0 : Int32))) (pr5 : Arv Z h0 vb kb .byte (16 : Int32) (cs.map fun c => Value.int (StrChars.lo8 c)) (.int (0 : Int32))) (Sc : SC Z zc) (nc : ¬ (zc = (0 : Int32))) (Sa : SA1 Z) (Su : SU1 Z) (Sv : SV1 Z) (Sf : SF1 Z vf) (rf : vf.isRef = true) (hcs : ∀ c ∈ cs, ¬ c < 0 ∧ ¬ (255 : Int32) < c) (hl : cs.length ≤ 10) :
    Ct l (⟨"java/lang/StringBuilder", "toString", "()Ljava/lang/String;"⟩ : MethodName) jdk_67_method_42_code 1 (some (.object "java/lang/String")) [] RM_rs_tos0 Z n0 #[(.ref a1)] h0 [] (Q_rs_tos0 Z a1 vb kb cs zc vf h0) := by
  refine Ct.of_walk (plainFor_of_name pn_3) hO all0 ?_
  intro p e s m below meth c T0 X0
  rw [ef_R1 m a1]
  show Go _ _ _ _ (T0.setTop (mkF m 0 #[.val (.ref a1)] []))
  have lt_a1_1 := pr0.lt
  have lt_vb_1 := pr5.lt
  obtain ⟨T1, h1, b1, g_b1, X1, E1, A1, D1, st1⟩ := X0.new (hw _ (gm 167 rfl)) (hw _ (gm 36 rfl)) (hw _ (gm 23 rfl)) (g := (mkF m 0 #[.val (.ref a1)] [])) rfl j67_42_0 (by decide) (by decide)
  refine Go.by st1 ?_
  have ne_a1_b1 := ne_new lt_a1_1 g_b1
  have ne_vb_b1 := ne_new lt_vb_1 g_b1
  have sz_b1 := Nat.le_trans X0.sz (Nat.le_of_eq g_b1.symm)
  have K0_h1 := (Keep.refl h0 []).ext E1
  have F1_value : Fld Z h1 b1 "java/lang/String" "value" "[B" .null := D1 (Or.inr (hw _ (gm 47 rfl))) (ty := (.array .byte)) (by decide)
  have F1_coder : Fld Z h1 b1 "java/lang/String" "coder" "B" (.int (0 : Int32)) := D1 (Or.inr (hw _ (gm 48 rfl))) (ty := .byte) (by decide)
  refine X1.dup j67_42_3 rfl rfl ?_
  refine X1.aloadN j67_42_4 rfl rfl ?_
  have f2 := pr0.ext E1
  have f3 := pr1.ext E1
  have f4 := pr2.ext E1
  have f5 := pr3.ext E1
  have f6 := pr4.ext E1
  have f7 := pr5.ext E1
  obtain ⟨_, T8, h8, XX8, K8, ⟨t_8, rfl, fr_t_8, fl_t_8, P8_0⟩, st8⟩ := X1.spX (W := 1) rfl (hw _ (gm 168 rfl)) (hw _ (gm 169 rfl)) (hw _ (gm 170 rfl)) (by decide) ((rs_sis0 l Z a0 hw n0 b1 .null (.int (0 : Int32)) a1 vb kb cs zc vf h1 X1.old A1 F1_value F1_coder f2 f3 f4 f5 f6 f7 Sc nc Sa Su Sv Sf rf hcs hl ne_a1_b1 ne_vb_b1 (X1.ge (.head _)) (X1.lt (.head _))).pay (hw _ (gm 170 rfl)) (hw _ (gm 23 rfl)) (by decide) (by decide)) (allS (.head _) all0) (g := (mkF m 5 #[.val (.ref a1)] [(.ref a1), (.ref b1), (.ref b1)])) rfl rfl (a := b1) (argsL := [(.ref a1)]) (rest := [(.ref b1)]) (lenOf pd_33 rfl) rfl (by exact Nat.le_of_eq rfl) j67_42_5 rfl (by decide) (by decide)
  refine Go.tr st8 ?_
  have X8 := XX8 [t_8] (allS (Or.inr ⟨fr_t_8, fl_t_8⟩) all0)
  have K0_h8 := K0_h1.trans K8 (allS (Or.inr sz_b1) all0)
  have sz_t_8 := Nat.le_trans X1.sz fr_t_8
  exact X8.retR rfl rfl j67_42_8 K0_h8 ⟨b1, t_8, rfl, sz_b1, (X8.lt (.tail _ (.head _))), sz_t_8, (X8.lt (.head _)), P8_0⟩ (by decide) (by decide)
def Q_rs_crb1 (Z : State) (vb : Addr) (kb : ClassId) (cs : List Int32) (h0 : Heap) (ov : Option Value) (hz : Heap) : Prop := ∃ (t : Addr), ∃ (kt : ClassId), ov = some (.ref t) ∧ h0.size ≤ t ∧ t < hz.size ∧ Arv Z hz t kt .byte (Int32.ofNat (2 * cs.length)) (StrChars.Road.wideBytes cs) (.int (0 : Int32))
abbrev RM_rs_crb1 : Room := { frames := 1, cells := 1, slots := 20, locals := 18 }
theorem rs_crb1 (l : Launch) (Z : State) (a0 : Array Value) (hw : ∀ d ∈ tables_1, d.before a0 Z = true) (n0 : Nat) (vb : Addr) (kb : ClassId) (cs : List Int32) (h0 : Heap) (hO : Old Z n0 h0) (pr0 : Arv Z h0 vb kb .byte (32 : Int32) (StrChars.Road.wideBytes cs) (.int (0 : Int32))) (hl : cs.length ≤ 10) :
    Ct l (⟨"java/util/Arrays", "copyOfRangeByte", "([BII)[B"⟩ : MethodName) jdk_65_method_133_code 5 (some (.array .byte)) [] RM_rs_crb1 Z n0 #[(.ref vb), (.int (0 : Int32)), (.int (Int32.ofNat (2 * cs.length)))] h0 [] (Q_rs_crb1 Z vb kb cs h0) := by
  refine Ct.of_walk (plainFor_of_name pn_6) hO all0 ?_
  intro p e s m below meth c T0 X0
  rw [ef_RII5 m vb (0 : Int32) (Int32.ofNat (2 * cs.length))]
  show Go _ _ _ _ (T0.setTop (mkF m 0 #[.val (.ref vb), .val (.int (0 : Int32)), .val (.int (Int32.ofNat (2 * cs.length))), .unset, .unset] []))
  refine X0.iloadN j65_133_0 rfl ?_
  refine X0.iloadN j65_133_1 rfl ?_
  obtain ⟨_, T1, h1, XX1, K1, ⟨rfl, rfl⟩, st1⟩ := X0.stX (W := 0) (hw _ (gm 189 rfl)) (hw _ (gm 190 rfl)) (hw _ (gm 184 rfl)) (hw _ (gm 191 rfl)) (by decide) ((rs_crl l Z a0 hw n0 (2 * cs.length) h0 X0.old (by omega)).pay (hw _ (gm 191 rfl)) (hw _ (gm 184 rfl)) (by decide) (by decide)) all0 (g := (mkF m 2 #[.val (.ref vb), .val (.int (0 : Int32)), .val (.int (Int32.ofNat (2 * cs.length))), .unset, .unset] [(.int (Int32.ofNat (2 * cs.length))), (.int (0 : Int32))])) rfl rfl (argsL := [(.int (0 : Int32)), (.int (Int32.ofNat (2 * cs.length)))]) (rest := []) (lenOf pd_25 rfl) rfl (by exact Nat.le_of_eq rfl) j65_133_2 rfl (by decide) (by decide)
  refine Go.tr st1 ?_
  have X1 := XX1 [] all0
  refine X1.iloadN j65_133_5 rfl ?_
  refine X1.iloadN j65_133_6 rfl ?_
  refine X1.isub j65_133_7 rfl ?_
  show Go _ _ _ _ (T1.setTop (mkF m 8 #[.val (.ref vb), .val (.int (0 : Int32)), .val (.int (Int32.ofNat (2 * cs.length))), .unset, .unset] [(.int ((Int32.ofNat (2 * cs.length)) - (0 : Int32)))]))
  rw [own_sub0]
  show Go _ _ _ _ (T1.setTop (mkF m 8 #[.val (.ref vb), .val (.int (0 : Int32)), .val (.int (Int32.ofNat (2 * cs.length))), .unset, .unset] [(.int (Int32.ofNat (2 * cs.length)))]))
  refine X1.istoreN j65_133_8 rfl (l' := #[.val (.ref vb), .val (.int (0 : Int32)), .val (.int (Int32.ofNat (2 * cs.length))), .val (.int (Int32.ofNat (2 * cs.length))), .unset]) rfl ?_
  refine X1.iloadN j65_133_9 rfl ?_
  obtain ⟨T2, h2, b2, k2, g_b2, X2, E2, A2, st2⟩ := X1.newP (hw _ (gm 24 rfl)) (g := (mkF m 10 #[.val (.ref vb), .val (.int (0 : Int32)), .val (.int (Int32.ofNat (2 * cs.length))), .val (.int (Int32.ofNat (2 * cs.length))), .unset] [(.int (Int32.ofNat (2 * cs.length)))])) rfl j65_133_10 rfl (on_nn (by omega)) (cap := 20) (by rw [on_clamp (a := (2 * cs.length)) (by omega)]; omega) (by decide) (by decide) (by decide) (vs := (List.replicate (Int32.ofNat (2 * cs.length)).toNatClampNeg (.int (0 : Int32)))) rfl
  refine Go.by st2 ?_
  have sz_b2 := Nat.le_trans X1.sz (Nat.le_of_eq g_b2.symm)
  have K0_h2 := (Keep.refl h0 []).ext E2
  have F2 : Arv Z h2 b2 k2 .byte (Int32.ofNat (2 * cs.length)) (List.replicate (Int32.ofNat (2 * cs.length)).toNatClampNeg (.int (0 : Int32))) (.int (0 : Int32)) := A2
  show Go _ _ _ _ (T2.setTop (mkF m 12 #[.val (.ref vb), .val (.int (0 : Int32)), .val (.int (Int32.ofNat (2 * cs.length))), .val (.int (Int32.ofNat (2 * cs.length))), .unset] [(.ref b2)]))
  have f3 : Arv Z h2 b2 k2 .byte (Int32.ofNat (2 * cs.length)) ([] ++ List.replicate (2 * cs.length) (.int (0 : Int32))) (.int (0 : Int32)) := (by have q := F2; rw [on_clamp (a := (2 * cs.length)) (by omega)] at q; exact q)
  refine X2.astore j65_133_12 rfl rfl (l' := #[.val (.ref vb), .val (.int (0 : Int32)), .val (.int (Int32.ofNat (2 * cs.length))), .val (.int (Int32.ofNat (2 * cs.length))), .val (.ref b2)]) rfl ?_
  refine X2.aloadN j65_133_14 rfl rfl ?_
  refine X2.iloadN j65_133_15 rfl ?_
  refine X2.aload j65_133_16 rfl rfl ?_
  refine X2.iconst j65_133_18 ?_
  refine X2.aloadN j65_133_19 rfl rfl ?_
  have f4 := pr0.ext E2
  refine Go.by (fun _ k => X2.len f4 (g := (mkF m 20 #[.val (.ref vb), .val (.int (0 : Int32)), .val (.int (Int32.ofNat (2 * cs.length))), .val (.int (Int32.ofNat (2 * cs.length))), .val (.ref b2)] [(.ref vb), (.int (0 : Int32)), (.ref b2), (.int (0 : Int32)), (.ref vb)])) rfl rfl j65_133_20 _ k) ?_
  show Go _ _ _ _ (T2.setTop (mkF m 21 #[.val (.ref vb), .val (.int (0 : Int32)), .val (.int (Int32.ofNat (2 * cs.length))), .val (.int (Int32.ofNat (2 * cs.length))), .val (.ref b2)] [(.int (32 : Int32)), (.int (0 : Int32)), (.ref b2), (.int (0 : Int32)), (.ref vb)]))
  refine X2.iloadN j65_133_21 rfl ?_
  refine X2.isub j65_133_22 rfl ?_
  show Go _ _ _ _ (T2.setTop (mkF m 23 #[.val (.ref vb), .val (.int (0 : Int32)), .val (.int (Int32.ofNat (2 * cs.length))), .val (.int (Int32.ofNat (2 * cs.length))), .val (.ref b2)] [(.int (32 : Int32)), (.int (0 : Int32)), (.ref b2), (.int (0 : Int32)), (.ref vb)]))
  refine X2.iloadN j65_133_23 rfl ?_
  obtain ⟨_, T5, h5, XX5, K5, ⟨rfl, rfl⟩, st5⟩ := X2.stX (W := 4) (hw _ (gm 192 rfl)) (hw _ (gm 193 rfl)) (hw _ (gm 194 rfl)) (hw _ (gm 195 rfl)) (by decide) ((rm_min l Z a0 hw n0 (32 : Int32) (Int32.ofNat (2 * cs.length)) h2 X2.old ).pay (hw _ (gm 195 rfl)) (hw _ (gm 194 rfl)) (by decide) (by decide)) all0 (g := (mkF m 24 #[.val (.ref vb), .val (.int (0 : Int32)), .val (.int (Int32.ofNat (2 * cs.length))), .val (.int (Int32.ofNat (2 * cs.length))), .val (.ref b2)] [(.int (Int32.ofNat (2 * cs.length))), (.int (32 : Int32)), (.int (0 : Int32)), (.ref b2), (.int (0 : Int32)), (.ref vb)])) rfl rfl (argsL := [(.int (32 : Int32)), (.int (Int32.ofNat (2 * cs.length)))]) (rest := [(.int (0 : Int32)), (.ref b2), (.int (0 : Int32)), (.ref vb)]) (lenOf pd_29 rfl) rfl (by exact Nat.le_of_eq rfl) j65_133_24 rfl (by decide) (by decide)
  refine Go.tr st5 ?_
  have X5 := XX5 [] all0
  show Go _ _ _ _ (T5.setTop (mkF m 27 #[.val (.ref vb), .val (.int (0 : Int32)), .val (.int (Int32.ofNat (2 * cs.length))), .val (.int (Int32.ofNat (2 * cs.length))), .val (.ref b2)] [(.int (own_min (32 : Int32) (Int32.ofNat (2 * cs.length)))), (.int (0 : Int32)), (.ref b2), (.int (0 : Int32)), (.ref vb)]))
  rw [own_mn1 (by omega)]
  show Go _ _ _ _ (T5.setTop (mkF m 27 #[.val (.ref vb), .val (.int (0 : Int32)), .val (.int (Int32.ofNat (2 * cs.length))), .val (.int (Int32.ofNat (2 * cs.length))), .val (.ref b2)] [(.int (Int32.ofNat (2 * cs.length))), (.int (0 : Int32)), (.ref b2), (.int (0 : Int32)), (.ref vb)]))
  obtain ⟨T6, h6, X6, K6, A6, st6⟩ := X5.cpA (hw _ (gm 196 rfl)) (hw _ (gm 119 rfl)) (hw _ (gm 117 rfl)) (hw _ (gm 118 rfl)) f4 f3 rfl (.head _) (by decide) (by decide) (on_nn (by omega)) (by rw [on_clamp (a := (2 * cs.length)) (by omega)]; show 0 + _ ≤ 32; omega) (Nat.le_of_eq (Nat.zero_add _)) (us := (StrChars.Road.wideBytes cs)) (by rw [on_clamp (a := (2 * cs.length)) (by omega)]; exact own_rng0 _ _ (own_wbl _)) (by rw [on_clamp (a := (2 * cs.length)) (by omega)]; show 0 + _ ≤ _; simp) (vr := (StrChars.Road.wideBytes cs)) (by rw [on_clamp (a := (2 * cs.length)) (by omega)]; exact own_cp [] _ _ rfl (own_wbl _)) (g := (mkF m 27 #[.val (.ref vb), .val (.int (0 : Int32)), .val (.int (Int32.ofNat (2 * cs.length))), .val (.int (Int32.ofNat (2 * cs.length))), .val (.ref b2)] [(.int (Int32.ofNat (2 * cs.length))), (.int (0 : Int32)), (.ref b2), (.int (0 : Int32)), (.ref vb)])) rfl rfl rfl j65_133_27 (by decide) (W := 0) (by exact Nat.le_of_eq rfl) (by decide)
  refine Go.by st6 ?_
  have K0_h6 := K0_h2.trans K6 (allS (Or.inr sz_b2) all0)
  show Go _ _ _ _ (T6.setTop (mkF m 30 #[.val (.ref vb), .val (.int (0 : Int32)), .val (.int (Int32.ofNat (2 * cs.length))), .val (.int (Int32.ofNat (2 * cs.length))), .val (.ref b2)] []))
  refine X6.aload j65_133_30 rfl rfl ?_
  exact X6.retR rfl rfl j65_133_32 K0_h6 ⟨b2, k2, rfl, sz_b2, (X6.lt (.head _)), A6⟩ (by decide) (by decide)
def Q_rs_cor1 (Z : State) (vb : Addr) (kb : ClassId) (cs : List Int32) (h0 : Heap) (ov : Option Value) (hz : Heap) : Prop := ∃ (t : Addr), ∃ (kt : ClassId), ov = some (.ref t) ∧ h0.size ≤ t ∧ t < hz.size ∧ Arv Z hz t kt .byte (Int32.ofNat (2 * cs.length)) (StrChars.Road.wideBytes cs) (.int (0 : Int32))
abbrev RM_rs_cor1 : Room := { frames := 2, cells := 1, slots := 20, locals := 34 }
theorem rs_cor1 (l : Launch) (Z : State) (a0 : Array Value) (hw : ∀ d ∈ tables_1, d.before a0 Z = true) (n0 : Nat) (vb : Addr) (kb : ClassId) (cs : List Int32) (h0 : Heap) (hO : Old Z n0 h0) (pr0 : Arv Z h0 vb kb .byte (32 : Int32) (StrChars.Road.wideBytes cs) (.int (0 : Int32))) (hl : cs.length ≤ 10) :
    Ct l (⟨"java/util/Arrays", "copyOfRange", "([BII)[B"⟩ : MethodName) jdk_65_method_132_code 3 (some (.array .byte)) [] RM_rs_cor1 Z n0 #[(.ref vb), (.int (0 : Int32)), (.int (Int32.ofNat (2 * cs.length)))] h0 [] (Q_rs_cor1 Z vb kb cs h0) := by
  refine Ct.of_walk (plainFor_of_name pn_6) hO all0 ?_
  intro p e s m below meth c T0 X0
  rw [ef_RII3 m vb (0 : Int32) (Int32.ofNat (2 * cs.length))]
  show Go _ _ _ _ (T0.setTop (mkF m 0 #[.val (.ref vb), .val (.int (0 : Int32)), .val (.int (Int32.ofNat (2 * cs.length)))] []))
  refine X0.iloadN j65_132_0 rfl ?_
  refine X0.ifNo j65_132_1 rfl (XT.i0_ne_f (by decide)) ?_
  refine X0.iloadN j65_132_4 rfl ?_
  refine X0.aloadN j65_132_5 rfl rfl ?_
  refine Go.by (fun _ k => X0.len pr0 (g := (mkF m 6 #[.val (.ref vb), .val (.int (0 : Int32)), .val (.int (Int32.ofNat (2 * cs.length)))] [(.ref vb), (.int (Int32.ofNat (2 * cs.length)))])) rfl rfl j65_132_6 _ k) ?_
  show Go _ _ _ _ (T0.setTop (mkF m 7 #[.val (.ref vb), .val (.int (0 : Int32)), .val (.int (Int32.ofNat (2 * cs.length)))] [(.int (32 : Int32)), (.int (Int32.ofNat (2 * cs.length)))]))
  refine X0.icmpNo j65_132_7 rfl (XT.ii_eq_f (own_ne32 (by omega))) ?_
  refine X0.aloadN j65_132_10 rfl rfl ?_
  refine X0.iloadN j65_132_11 rfl ?_
  refine X0.iloadN j65_132_12 rfl ?_
  obtain ⟨_, T1, h1, XX1, K1, ⟨t_1, kt_1, rfl, fr_t_1, fl_t_1, P1_0⟩, st1⟩ := X0.stX (W := 0) (hw _ (gm 186 rfl)) (hw _ (gm 187 rfl)) (hw _ (gm 184 rfl)) (hw _ (gm 188 rfl)) (by decide) ((rs_crb1 l Z a0 hw n0 vb kb cs h0 X0.old pr0 hl).pay (hw _ (gm 188 rfl)) (hw _ (gm 184 rfl)) (by decide) (by decide)) all0 (g := (mkF m 13 #[.val (.ref vb), .val (.int (0 : Int32)), .val (.int (Int32.ofNat (2 * cs.length)))] [(.int (Int32.ofNat (2 * cs.length))), (.int (0 : Int32)), (.ref vb)])) rfl rfl (argsL := [(.ref vb), (.int (0 : Int32)), (.int (Int32.ofNat (2 * cs.length)))]) (rest := []) (lenOf pd_30 rfl) rfl (by exact Nat.le_of_eq rfl) j65_132_13 rfl (by decide) (by decide)
  refine Go.tr st1 ?_
  have X1 := XX1 [t_1] (allS (Or.inr ⟨fr_t_1, fl_t_1⟩) all0)
  have K0_h1 := (Keep.refl h0 []).trans K1 all0
  have sz_t_1 := Nat.le_trans X0.sz fr_t_1
  exact X1.retR rfl rfl j65_132_16 K0_h1 ⟨t_1, kt_1, rfl, sz_t_1, (X1.lt (.head _)), P1_0⟩ (by decide) (by decide)
def Q_rs_sia1 (Z : State) (x : Addr) (v0 : Value) (c0 : Value) (a1 : Addr) (vb : Addr) (kb : ClassId) (cs : List Int32) (zc : Int32) (vf : Value) (h0 : Heap) (ov : Option Value) (hz : Heap) : Prop := ∃ (t : Addr), ov = none ∧ h0.size ≤ t ∧ t < hz.size ∧ Str Z hz x t cs
theorem j42_150_41 : decode jdk_42_method_150_code 41 = .ok (.getstatic 38, 3) := by decide +kernel
theorem j42_150_44 : decode jdk_42_method_150_code 44 = .ok (.ifCond .eq 35, 3) := by decide +kernel
theorem j42_150_47 : decode jdk_42_method_150_code 47 = .ok (.aload_n 1, 1) := by decide +kernel
theorem j42_150_48 : decode jdk_42_method_150_code 48 = .ok (.getfield 1048, 3) := by decide +kernel
theorem j42_150_51 : decode jdk_42_method_150_code 51 = .ok (.ifCond .eq 28, 3) := by decide +kernel
theorem j42_150_79 : decode jdk_42_method_150_code 79 = .ok (.aload_n 0, 1) := by decide +kernel
theorem j42_150_80 : decode jdk_42_method_150_code 80 = .ok (.iconst 1, 1) := by decide +kernel
theorem j42_150_81 : decode jdk_42_method_150_code 81 = .ok (.putfield 15, 3) := by decide +kernel
theorem j42_150_84 : decode jdk_42_method_150_code 84 = .ok (.aload_n 0, 1) := by decide +kernel
theorem j42_150_85 : decode jdk_42_method_150_code 85 = .ok (.aload_n 3, 1) := by decide +kernel
theorem j42_150_86 : decode jdk_42_method_150_code 86 = .ok (.iconst 0, 1) := by decide +kernel
theorem j42_150_87 : decode jdk_42_method_150_code 87 = .ok (.iload 4, 2) := by decide +kernel
theorem j42_150_89 : decode jdk_42_method_150_code 89 = .ok (.iconst 1, 1) := by decide +kernel
theorem j42_150_90 : decode jdk_42_method_150_code 90 = .ok (.ishl, 1) := by decide +kernel
theorem j42_150_91 : decode jdk_42_method_150_code 91 = .ok (.invokestatic 54, 3) := by decide +kernel
theorem j42_150_94 : decode jdk_42_method_150_code 94 = .ok (.putfield 9, 3) := by decide +kernel
abbrev RM_rs_sia1 : Room := { frames := 3, cells := 1, slots := 20, locals := 49 }
theorem rs_sia1 (l : Launch) (Z : State) (a0 : Array Value) (hw : ∀ d ∈ tables_1, d.before a0 Z = true) (n0 : Nat) (x : Addr) (v0 : Value) (c0 : Value) (a1 : Addr) (vb : Addr) (kb : ClassId) (cs : List Int32) (zc : Int32) (vf : Value) (h0 : Heap) (hO : Old Z n0 h0) (pr0 : Exa Z h0 x "java/lang/String") (pr1 : Fld Z h0 x "java/lang/String" "value" "[B" v0) (pr2 : Fld Z h0 x "java/lang/String" "coder" "B" c0) (pr3 : Exa Z h0 a1 "java/lang/StringBuilder") (pr4 : Fld Z h0 a1 "java/lang/AbstractStringBuilder" "value" "[B" (.ref vb)) (pr5 : Fld Z h0 a1 "java/lang/AbstractStringBuilder" "coder" "B" (.int (1 : Int32))) (pr6 : Fld Z h0 a1 "java/lang/AbstractStringBuilder" "count" "I" (.int (Int32.ofNat cs.length))) (pr7 : Fld Z h0 a1 "java/lang/AbstractStringBuilder" "maybeLatin1" "Z" (.int (0 : Int32))) (pr8 : Arv Z h0 vb kb .byte (32 : Int32) (StrChars.Road.wideBytes cs) (.int (0 : Int32))) (Sc : SC Z zc) (nc : ¬ (zc = (0 : Int32))) (Sa : SA1 Z) (Su : SU1 Z) (Sv : SV1 Z) (Sf : SF1 Z vf) (rf : vf.isRef = true) (hp : ∀ c ∈ cs, ¬ c < 0 ∧ ¬ (65535 : Int32) < c) (hk : ∃ c ∈ cs, (255 : Int32) < c) (hl : cs.length ≤ 10) (hxa : a1 ≠ x) (hxv : vb ≠ x) (g_x : n0 ≤ x) (l_x : x < h0.size) :
    Ct l (⟨"java/lang/String", "<init>", "(Ljava/lang/AbstractStringBuilder;Ljava/lang/Void;)V"⟩ : MethodName) jdk_42_method_150_code 5 none [] RM_rs_sia1 Z n0 #[(.ref x), (.ref a1), .null] h0 [x] (Q_rs_sia1 Z x v0 c0 a1 vb kb cs zc vf h0) := by
  refine Ct.of_walk (plainFor_of_name pn_1) hO (allS ⟨g_x, l_x⟩ all0) ?_
  intro p e s m below meth c T0 X0
  rw [ef_RRN5 m x a1]
  show Go _ _ _ _ (T0.setTop (mkF m 0 #[.val (.ref x), .val (.ref a1), .val .null, .unset, .unset] []))
  refine X0.aloadN j42_150_0 rfl rfl ?_
  obtain ⟨T1, X1, st1⟩ := X0.initO (hw _ (gm 45 rfl)) (hw _ (gm 7 rfl)) (hw _ (gm 8 rfl)) (g := (mkF m 1 #[.val (.ref x), .val (.ref a1), .val .null, .unset, .unset] [(.ref x)])) rfl rfl rfl j42_150_1 (by decide) (W := 0) (by exact Nat.le_of_eq rfl) (by decide)
  refine Go.by st1 ?_
  refine X1.aloadN j42_150_4 rfl rfl ?_
  obtain ⟨_, T2, h2, XX2, K2, ⟨rfl, rfl⟩, st2⟩ := X1.viX (W := 0) (hw _ (gm 174 rfl)) (hw _ (gm 175 rfl)) (hw _ (gm 177 rfl)) (hw _ (gm 176 rfl)) (by decide) ((rs_gv l Z a0 hw n0 a1 vb h0 X1.old pr4).pay (hw _ (gm 178 rfl)) (hw _ (gm 19 rfl)) (by decide) (by decide)) all0 pr3 (g := (mkF m 5 #[.val (.ref x), .val (.ref a1), .val .null, .unset, .unset] [(.ref a1)])) rfl rfl (argsL := []) (rest := []) (lenOf pd_31 rfl) rfl (by exact Nat.le_of_eq rfl) j42_150_5 rfl (by decide) (by decide)
  refine Go.tr st2 ?_
  have X2 := XX2 [] all0
  refine X2.astoreN j42_150_8 rfl rfl (l' := #[.val (.ref x), .val (.ref a1), .val .null, .val (.ref vb), .unset]) rfl ?_
  refine X2.aloadN j42_150_9 rfl rfl ?_
  obtain ⟨_, T3, h3, XX3, K3, ⟨rfl, rfl⟩, st3⟩ := X2.voX (y' := (⟨"java/lang/AbstractStringBuilder", "length", "()I"⟩ : MethodName)) (z' := (⟨"java/lang/StringBuilder", "length", "()I"⟩ : MethodName)) (W := 0) (hw _ (gm 179 rfl)) (hw _ (gm 132 rfl)) (own_nf (y2 := (⟨"java/lang/AbstractStringBuilder", "ensureCapacityInternal", "(I)V"⟩ : MethodName)) rfl (hw _ (gm 98 rfl))) (hw _ (gm 180 rfl)) (hw _ (gm 127 rfl)) (by decide) ((rs_sln l Z a0 hw n0 a1 (Int32.ofNat cs.length) h0 X2.old pr3 pr6).pay (hw _ (gm 129 rfl)) (hw _ (gm 11 rfl)) (by decide) (by decide)) all0 pr3 (g := (mkF m 10 #[.val (.ref x), .val (.ref a1), .val .null, .val (.ref vb), .unset] [(.ref a1)])) rfl rfl (argsL := []) (rest := []) (lenOf pd_9 rfl) rfl (by exact Nat.le_of_eq rfl) j42_150_10 rfl (by decide) (by decide)
  refine Go.tr st3 ?_
  have X3 := XX3 [] all0
  refine X3.istore j42_150_13 rfl (l' := #[.val (.ref x), .val (.ref a1), .val .null, .val (.ref vb), .val (.int (Int32.ofNat cs.length))]) rfl ?_
  refine X3.aloadN j42_150_15 rfl rfl ?_
  obtain ⟨_, T4, h4, XX4, K4, ⟨rfl, rfl⟩, st4⟩ := X3.viX (W := 0) (hw _ (gm 181 rfl)) (hw _ (gm 149 rfl)) (hw _ (gm 151 rfl)) (hw _ (gm 150 rfl)) (by decide) ((rs_isl1 l Z a0 hw n0 a1 zc h0 X3.old pr5 Sc nc).pay (hw _ (gm 152 rfl)) (hw _ (gm 19 rfl)) (by decide) (by decide)) all0 pr3 (g := (mkF m 16 #[.val (.ref x), .val (.ref a1), .val .null, .val (.ref vb), .val (.int (Int32.ofNat cs.length))] [(.ref a1)])) rfl rfl (argsL := []) (rest := []) (lenOf pd_15 rfl) rfl (by exact Nat.le_of_eq rfl) j42_150_16 rfl (by decide) (by decide)
  refine Go.tr st4 ?_
  have X4 := XX4 [] all0
  refine X4.ifYes (pc0 := 19) (pc' := 41) rfl j42_150_19 rfl (XT.i0_eq_t (by decide)) (by decide) (by decide) ?_
  obtain ⟨T5, X5, st5⟩ := X4.getS (hw _ (gm 92 rfl)) Via.refl Sc (g := (mkF m 41 #[.val (.ref x), .val (.ref a1), .val .null, .val (.ref vb), .val (.int (Int32.ofNat cs.length))] [])) rfl j42_150_41
  refine Go.by st5 ?_
  show Go _ _ _ _ (T5.setTop (mkF m 44 #[.val (.ref x), .val (.ref a1), .val .null, .val (.ref vb), .val (.int (Int32.ofNat cs.length))] [(.int zc)]))
  refine X5.ifNo j42_150_44 rfl (XT.i0_eq_f nc) ?_
  refine X5.aloadN j42_150_47 rfl rfl ?_
  obtain ⟨T6, X6, st6⟩ := X5.getF (host := "") (Or.inl (hw _ (gm 273 rfl))) Via.refl pr7 (g := (mkF m 48 #[.val (.ref x), .val (.ref a1), .val .null, .val (.ref vb), .val (.int (Int32.ofNat cs.length))] [(.ref a1)])) rfl rfl j42_150_48
  refine Go.by st6 ?_
  refine X6.ifYes (pc0 := 51) (pc' := 79) rfl j42_150_51 rfl (XT.i0_eq_t (by decide)) (by decide) (by decide) ?_
  refine X6.aloadN j42_150_79 rfl rfl ?_
  refine X6.iconst j42_150_80 ?_
  obtain ⟨T7, h7, X7, W7, st7⟩ := X6.putFN (hw _ (gm 52 rfl)) Via.refl pr2 pr0 (Or.inr ⟨(hw _ (gm 48 rfl)), rfl, rfl⟩) (hw _ (gm 36 rfl)) (.head _) (ty := .byte) (v' := .int (1 : Int32)) (by decide) rfl rfl (g := (mkF m 81 #[.val (.ref x), .val (.ref a1), .val .null, .val (.ref vb), .val (.int (Int32.ofNat cs.length))] [(.int (1 : Int32)), (.ref x)])) rfl rfl j42_150_81
  refine Go.by st7 ?_
  have K0_h7 := (Keep.refl h0 [x]).wr W7 (Or.inl (.head _))
  have F7 : Fld Z h7 x "java/lang/String" "coder" "B" (.int (1 : Int32)) := pr2.same W7
  refine X7.aloadN j42_150_84 rfl rfl ?_
  refine X7.aloadN j42_150_85 rfl rfl ?_
  refine X7.iconst j42_150_86 ?_
  refine X7.iload j42_150_87 rfl ?_
  refine X7.iconst j42_150_89 ?_
  show Go _ _ _ _ (T7.setTop (mkF m 90 #[.val (.ref x), .val (.ref a1), .val .null, .val (.ref vb), .val (.int (Int32.ofNat cs.length))] [(.int (1 : Int32)), (.int (Int32.ofNat cs.length)), (.int (0 : Int32)), (.ref vb), (.ref x)]))
  refine X7.ishl j42_150_90 rfl ?_
  show Go _ _ _ _ (T7.setTop (mkF m 91 #[.val (.ref x), .val (.ref a1), .val .null, .val (.ref vb), .val (.int (Int32.ofNat cs.length))] [(.int ((Int32.ofNat cs.length) <<< ((1 : Int32) &&& 31))), (.int (0 : Int32)), (.ref vb), (.ref x)]))
  rw [own_shl (show cs.length < 64 by omega)]
  show Go _ _ _ _ (T7.setTop (mkF m 91 #[.val (.ref x), .val (.ref a1), .val .null, .val (.ref vb), .val (.int (Int32.ofNat cs.length))] [(.int (Int32.ofNat (2 * cs.length))), (.int (0 : Int32)), (.ref vb), (.ref x)]))
  have f8 := (pr8).other W7 hxv
  have lt_x_9 := (X7.lt (.head _))
  obtain ⟨_, T9, h9, XX9, K9, ⟨t_9, kt_9, rfl, fr_t_9, fl_t_9, P9_0⟩, st9⟩ := X7.stX (W := 1) (hw _ (gm 182 rfl)) (hw _ (gm 183 rfl)) (hw _ (gm 184 rfl)) (hw _ (gm 185 rfl)) (by decide) ((rs_cor1 l Z a0 hw n0 vb kb cs h7 X7.old f8 hl).pay (hw _ (gm 185 rfl)) (hw _ (gm 184 rfl)) (by decide) (by decide)) all0 (g := (mkF m 91 #[.val (.ref x), .val (.ref a1), .val .null, .val (.ref vb), .val (.int (Int32.ofNat cs.length))] [(.int (Int32.ofNat (2 * cs.length))), (.int (0 : Int32)), (.ref vb), (.ref x)])) rfl rfl (argsL := [(.ref vb), (.int (0 : Int32)), (.int (Int32.ofNat (2 * cs.length)))]) (rest := [(.ref x)]) (lenOf pd_30 rfl) rfl (by exact Nat.le_of_eq rfl) j42_150_91 rfl (by decide) (by decide)
  refine Go.tr st9 ?_
  have X9 := XX9 [t_9] (allS (Or.inr ⟨fr_t_9, fl_t_9⟩) all0)
  have K0_h9 := K0_h7.trans K9 all0
  have ne_x_t_9 := ne_ge lt_x_9 fr_t_9
  have sz_t_9 := Nat.le_trans X7.sz fr_t_9
  have f12 := ((pr1).other W7 (Or.inr (slot_ne (Or.inr (hw _ (gm 47 rfl))) (Or.inr (hw _ (gm 48 rfl))) (by decide) (t := (.array .byte)) (t' := .byte) (by decide) (by decide)))).keep K9 nin0
  have f13 := ((pr0).wr W7).keep K9
  obtain ⟨T11, h11, X11, W11, st11⟩ := X9.putF (host := "") (Or.inl (hw _ (gm 51 rfl))) Via.refl f12 f13 (Or.inr ⟨(hw _ (gm 47 rfl)), rfl, rfl⟩) (hw _ (gm 36 rfl)) (.tail _ (.head _)) (ty := (.array .byte)) (by decide) rfl rfl (g := (mkF m 94 #[.val (.ref x), .val (.ref a1), .val .null, .val (.ref vb), .val (.int (Int32.ofNat cs.length))] [(.ref t_9), (.ref x)])) rfl rfl j42_150_94
  refine Go.by st11 ?_
  have K0_h11 := K0_h9.wr W11 (Or.inl (.head _))
  have F11 : Fld Z h11 x "java/lang/String" "value" "[B" (.ref t_9) := f12.same W11
  have f15 := (f13).wr W11
  have f16 := ((F7).keep K9 nin0).other W11 (Or.inr (slot_ne (Or.inr (hw _ (gm 48 rfl))) (Or.inr (hw _ (gm 47 rfl))) (by decide) (t := .byte) (t' := (.array .byte)) (by decide) (by decide)))
  have f17 := (P9_0).other W11 ne_x_t_9.symm
  have S14 : Str Z h11 x t_9 cs := own_strW f15 F11 f16 f17 (Or.inr ⟨rfl, rfl, rfl, hk⟩) hp (by omega)
  exact X11.retV j42_150_97 K0_h11 ⟨t_9, rfl, sz_t_9, (X11.lt (.head _)), S14⟩ (by decide) (by decide)
def Q_rs_sis1 (Z : State) (x : Addr) (v0 : Value) (c0 : Value) (a1 : Addr) (vb : Addr) (kb : ClassId) (cs : List Int32) (zc : Int32) (vf : Value) (h0 : Heap) (ov : Option Value) (hz : Heap) : Prop := ∃ (t : Addr), ov = none ∧ h0.size ≤ t ∧ t < hz.size ∧ Str Z hz x t cs
abbrev RM_rs_sis1 : Room := { frames := 4, cells := 1, slots := 20, locals := 65 }
theorem rs_sis1 (l : Launch) (Z : State) (a0 : Array Value) (hw : ∀ d ∈ tables_1, d.before a0 Z = true) (n0 : Nat) (x : Addr) (v0 : Value) (c0 : Value) (a1 : Addr) (vb : Addr) (kb : ClassId) (cs : List Int32) (zc : Int32) (vf : Value) (h0 : Heap) (hO : Old Z n0 h0) (pr0 : Exa Z h0 x "java/lang/String") (pr1 : Fld Z h0 x "java/lang/String" "value" "[B" v0) (pr2 : Fld Z h0 x "java/lang/String" "coder" "B" c0) (pr3 : Exa Z h0 a1 "java/lang/StringBuilder") (pr4 : Fld Z h0 a1 "java/lang/AbstractStringBuilder" "value" "[B" (.ref vb)) (pr5 : Fld Z h0 a1 "java/lang/AbstractStringBuilder" "coder" "B" (.int (1 : Int32))) (pr6 : Fld Z h0 a1 "java/lang/AbstractStringBuilder" "count" "I" (.int (Int32.ofNat cs.length))) (pr7 : Fld Z h0 a1 "java/lang/AbstractStringBuilder" "maybeLatin1" "Z" (.int (0 : Int32))) (pr8 : Arv Z h0 vb kb .byte (32 : Int32) (StrChars.Road.wideBytes cs) (.int (0 : Int32))) (Sc : SC Z zc) (nc : ¬ (zc = (0 : Int32))) (Sa : SA1 Z) (Su : SU1 Z) (Sv : SV1 Z) (Sf : SF1 Z vf) (rf : vf.isRef = true) (hp : ∀ c ∈ cs, ¬ c < 0 ∧ ¬ (65535 : Int32) < c) (hk : ∃ c ∈ cs, (255 : Int32) < c) (hl : cs.length ≤ 10) (hxa : a1 ≠ x) (hxv : vb ≠ x) (g_x : n0 ≤ x) (l_x : x < h0.size) :
    Ct l (⟨"java/lang/String", "<init>", "(Ljava/lang/StringBuilder;)V"⟩ : MethodName) jdk_42_method_53_code 2 none [] RM_rs_sis1 Z n0 #[(.ref x), (.ref a1)] h0 [x] (Q_rs_sis1 Z x v0 c0 a1 vb kb cs zc vf h0) := by
  refine Ct.of_walk (plainFor_of_name pn_1) hO (allS ⟨g_x, l_x⟩ all0) ?_
  intro p e s m below meth c T0 X0
  rw [ef_RR2 m x a1]
  show Go _ _ _ _ (T0.setTop (mkF m 0 #[.val (.ref x), .val (.ref a1)] []))
  refine X0.aloadN j42_53_0 rfl rfl ?_
  refine X0.aloadN j42_53_1 rfl rfl ?_
  refine X0.aconstNull j42_53_2 ?_
  obtain ⟨_, T1, h1, XX1, K1, ⟨t_1, rfl, fr_t_1, fl_t_1, P1_0⟩, st1⟩ := X0.spX (W := 0) rfl (hw _ (gm 171 rfl)) (hw _ (gm 172 rfl)) (hw _ (gm 173 rfl)) (by decide) ((rs_sia1 l Z a0 hw n0 x v0 c0 a1 vb kb cs zc vf h0 X0.old pr0 pr1 pr2 pr3 pr4 pr5 pr6 pr7 pr8 Sc nc Sa Su Sv Sf rf hp hk hl hxa hxv (X0.ge (.head _)) (X0.lt (.head _))).pay (hw _ (gm 173 rfl)) (hw _ (gm 23 rfl)) (by decide) (by decide)) (allS (.head _) all0) (g := (mkF m 3 #[.val (.ref x), .val (.ref a1)] [.null, (.ref a1), (.ref x)])) rfl rfl (a := x) (argsL := [(.ref a1), .null]) (rest := []) (lenOf pd_32 rfl) rfl (by exact Nat.le_of_eq rfl) j42_53_3 rfl (by decide) (by decide)
  refine Go.tr st1 ?_
  have X1 := XX1 [t_1] (allS (Or.inr ⟨fr_t_1, fl_t_1⟩) all0)
  have K0_h1 := (Keep.refl h0 [x]).trans K1 (allS (Or.inl (.head _)) all0)
  have sz_t_1 := Nat.le_trans X0.sz fr_t_1
  exact X1.retV j42_53_6 K0_h1 ⟨t_1, rfl, sz_t_1, (X1.lt (.head _)), P1_0⟩ (by decide) (by decide)
def Q_rs_tos1 (Z : State) (a1 : Addr) (vb : Addr) (kb : ClassId) (cs : List Int32) (zc : Int32) (vf : Value) (h0 : Heap) (ov : Option Value) (hz : Heap) : Prop := ∃ (x : Addr), ∃ (t : Addr), ov = some (.ref x) ∧ h0.size ≤ x ∧ x < hz.size ∧ h0.size ≤ t ∧ t < hz.size ∧ Str Z hz x t cs
abbrev RM_rs_tos1 : Room := { frames := 5, cells := 2, slots := 24, locals := 79 }
theorem rs_tos1 (l : Launch) (Z : State) (a0 : Array Value) (hw : ∀ d ∈ tables_1, d.before a0 Z = true) (n0 : Nat) (a1 : Addr) (vb : Addr) (kb : ClassId) (cs : List Int32) (zc : Int32) (vf : Value) (h0 : Heap) (hO : Old Z n0 h0) (pr0 : Exa Z h0 a1 "java/lang/StringBuilder") (pr1 : Fld Z h0 a1 "java/lang/AbstractStringBuilder" "value" "[B" (.ref vb)) (pr2 : Fld Z h0 a1 "java/lang/AbstractStringBuilder" "coder" "B" (.int (1 : Int32))) (pr3 : Fld Z h0 a1 "java/lang/AbstractStringBuilder" "count" "I" (.int (Int32.ofNat cs.length))) (pr4 : Fld Z h0 a1 "java/lang/AbstractStringBuilder" "maybeLatin1" "Z" (.int (0 : Int32))) (pr5 : Arv Z h0 vb kb .byte (32 : Int32) (StrChars.Road.wideBytes cs) (.int (0 : Int32))) (Sc : SC Z zc) (nc : ¬ (zc = (0 : Int32))) (Sa : SA1 Z) (Su : SU1 Z) (Sv : SV1 Z) (Sf : SF1 Z vf) (rf : vf.isRef = true) (hp : ∀ c ∈ cs, ¬ c < 0 ∧ ¬ (65535 : Int32) < c) (hk : ∃ c ∈ cs, (255 : Int32) < c) (hl : cs.length ≤ 10) :
    Ct l (⟨"java/lang/StringBuilder", "toString", "()Ljava/lang/String;"⟩ : MethodName) jdk_67_method_42_code 1 (some (.object "java/lang/String")) [] RM_rs_tos1 Z n0 #[(.ref a1)] h0 [] (Q_rs_tos1 Z a1 vb kb cs zc vf h0) := by
  refine Ct.of_walk (plainFor_of_name pn_3) hO all0 ?_
  intro p e s m below meth c T0 X0
  rw [ef_R1 m a1]
  show Go _ _ _ _ (T0.setTop (mkF m 0 #[.val (.ref a1)] []))
  have lt_a1_1 := pr0.lt
  have lt_vb_1 := pr5.lt
  obtain ⟨T1, h1, b1, g_b1, X1, E1, A1, D1, st1⟩ := X0.new (hw _ (gm 167 rfl)) (hw _ (gm 36 rfl)) (hw _ (gm 23 rfl)) (g := (mkF m 0 #[.val (.ref a1)] [])) rfl j67_42_0 (by decide) (by decide)
  refine Go.by st1 ?_
  have ne_a1_b1 := ne_new lt_a1_1 g_b1
  have ne_vb_b1 := ne_new lt_vb_1 g_b1
  have sz_b1 := Nat.le_trans X0.sz (Nat.le_of_eq g_b1.symm)
  have K0_h1 := (Keep.refl h0 []).ext E1
  have F1_value : Fld Z h1 b1 "java/lang/String" "value" "[B" .null := D1 (Or.inr (hw _ (gm 47 rfl))) (ty := (.array .byte)) (by decide)
  have F1_coder : Fld Z h1 b1 "java/lang/String" "coder" "B" (.int (0 : Int32)) := D1 (Or.inr (hw _ (gm 48 rfl))) (ty := .byte) (by decide)
  refine X1.dup j67_42_3 rfl rfl ?_
  refine X1.aloadN j67_42_4 rfl rfl ?_
  have f2 := pr0.ext E1
  have f3 := pr1.ext E1
  have f4 := pr2.ext E1
  have f5 := pr3.ext E1
  have f6 := pr4.ext E1
  have f7 := pr5.ext E1
  obtain ⟨_, T8, h8, XX8, K8, ⟨t_8, rfl, fr_t_8, fl_t_8, P8_0⟩, st8⟩ := X1.spX (W := 1) rfl (hw _ (gm 168 rfl)) (hw _ (gm 169 rfl)) (hw _ (gm 170 rfl)) (by decide) ((rs_sis1 l Z a0 hw n0 b1 .null (.int (0 : Int32)) a1 vb kb cs zc vf h1 X1.old A1 F1_value F1_coder f2 f3 f4 f5 f6 f7 Sc nc Sa Su Sv Sf rf hp hk hl ne_a1_b1 ne_vb_b1 (X1.ge (.head _)) (X1.lt (.head _))).pay (hw _ (gm 170 rfl)) (hw _ (gm 23 rfl)) (by decide) (by decide)) (allS (.head _) all0) (g := (mkF m 5 #[.val (.ref a1)] [(.ref a1), (.ref b1), (.ref b1)])) rfl rfl (a := b1) (argsL := [(.ref a1)]) (rest := [(.ref b1)]) (lenOf pd_33 rfl) rfl (by exact Nat.le_of_eq rfl) j67_42_5 rfl (by decide) (by decide)
  refine Go.tr st8 ?_
  have X8 := XX8 [t_8] (allS (Or.inr ⟨fr_t_8, fl_t_8⟩) all0)
  have K0_h8 := K0_h1.trans K8 (allS (Or.inr sz_b1) all0)
  have sz_t_8 := Nat.le_trans X1.sz fr_t_8
  exact X8.retR rfl rfl j67_42_8 K0_h8 ⟨b1, t_8, rfl, sz_b1, (X8.lt (.tail _ (.head _))), sz_t_8, (X8.lt (.head _)), P8_0⟩ (by decide) (by decide)
def Q_rh_hwi (Z : State) (w1 : Addr) (u0 : Value) (zc : Int32) (h0 : Heap) (ov : Option Value) (hz : Heap) : Prop := ∃ (sb : Addr), ∃ (vb : Addr), ∃ (kb : ClassId), ov = none ∧ h0.size ≤ sb ∧ sb < hz.size ∧ h0.size ≤ vb ∧ vb < hz.size ∧ Fld Z hz w1 "com/example/suricate/suricate/component/HtmlWriter" "html" "Ljava/lang/StringBuilder;" (.ref sb) ∧ Exa Z hz sb "java/lang/StringBuilder" ∧ Fld Z hz sb "java/lang/AbstractStringBuilder" "value" "[B" (.ref vb) ∧ Fld Z hz sb "java/lang/AbstractStringBuilder" "coder" "B" (.int (0 : Int32)) ∧ Fld Z hz sb "java/lang/AbstractStringBuilder" "count" "I" (.int (0 : Int32)) ∧ Fld Z hz sb "java/lang/AbstractStringBuilder" "maybeLatin1" "Z" (.int (0 : Int32)) ∧ Arv Z hz vb kb .byte (16 : Int32) [] (.int (0 : Int32)) ∧ (vb ≠ sb)
theorem pn_7 : plainName "com/example/suricate/suricate/component/HtmlWriter" = true := by first | (simp [plainName, overriddenIn]; done) | decide +kernel
theorem g5_1_0 : decode prog_5_method_1_code 0 = .ok (.aload_n 0, 1) := by decide +kernel
theorem g5_1_1 : decode prog_5_method_1_code 1 = .ok (.invokespecial 1, 3) := by decide +kernel
theorem g5_1_4 : decode prog_5_method_1_code 4 = .ok (.aload_n 0, 1) := by decide +kernel
theorem g5_1_5 : decode prog_5_method_1_code 5 = .ok (.new 7, 3) := by decide +kernel
theorem g5_1_8 : decode prog_5_method_1_code 8 = .ok (.dup, 1) := by decide +kernel
theorem g5_1_9 : decode prog_5_method_1_code 9 = .ok (.invokespecial 9, 3) := by decide +kernel
theorem g5_1_12 : decode prog_5_method_1_code 12 = .ok (.putfield 10, 3) := by decide +kernel
theorem g5_1_15 : decode prog_5_method_1_code 15 = .ok (.return_, 1) := by decide +kernel
abbrev RM_rh_hwi : Room := { frames := 3, cells := 2, slots := 20, locals := 39 }
theorem rh_hwi (l : Launch) (Z : State) (a0 : Array Value) (hw : ∀ d ∈ tables_1, d.before a0 Z = true) (n0 : Nat) (w1 : Addr) (u0 : Value) (zc : Int32) (h0 : Heap) (hO : Old Z n0 h0) (pr0 : Exa Z h0 w1 "com/example/suricate/suricate/component/HtmlWriter") (pr1 : Fld Z h0 w1 "com/example/suricate/suricate/component/HtmlWriter" "html" "Ljava/lang/StringBuilder;" u0) (Sc : SC Z zc) (nc : ¬ (zc = (0 : Int32))) (g_w1 : n0 ≤ w1) (l_w1 : w1 < h0.size) :
    Ct l (⟨"com/example/suricate/suricate/component/HtmlWriter", "<init>", "()V"⟩ : MethodName) prog_5_method_1_code 1 none [] RM_rh_hwi Z n0 #[(.ref w1)] h0 [w1] (Q_rh_hwi Z w1 u0 zc h0) := by
  refine Ct.of_walk (plainFor_of_name pn_7) hO (allS ⟨g_w1, l_w1⟩ all0) ?_
  intro p e s m below meth c T0 X0
  rw [ef_R1 m w1]
  show Go _ _ _ _ (T0.setTop (mkF m 0 #[.val (.ref w1)] []))
  refine X0.aloadN g5_1_0 rfl rfl ?_
  obtain ⟨T1, X1, st1⟩ := X0.initO (hw _ (gm 6 rfl)) (hw _ (gm 7 rfl)) (hw _ (gm 8 rfl)) (g := (mkF m 1 #[.val (.ref w1)] [(.ref w1)])) rfl rfl rfl g5_1_1 (by decide) (W := 0) (by exact Nat.le_of_eq rfl) (by decide)
  refine Go.by st1 ?_
  refine X1.aloadN g5_1_4 rfl rfl ?_
  have lt_w1_2 := (X1.lt (.head _))
  obtain ⟨T2, h2, b2, g_b2, X2, E2, A2, D2, st2⟩ := X1.new (hw _ (gm 9 rfl)) (hw _ (gm 10 rfl)) (hw _ (gm 11 rfl)) (g := (mkF m 5 #[.val (.ref w1)] [(.ref w1)])) rfl g5_1_5 (by decide) (by decide)
  refine Go.by st2 ?_
  have ne_w1_b2 := ne_new lt_w1_2 g_b2
  have sz_b2 := Nat.le_trans X1.sz (Nat.le_of_eq g_b2.symm)
  have K0_h2 := (Keep.refl h0 [w1]).ext E2
  have F2_value : Fld Z h2 b2 "java/lang/AbstractStringBuilder" "value" "[B" .null := D2 (Or.inl (hw _ (gm 26 rfl))) (ty := (.array .byte)) (by decide)
  have F2_coder : Fld Z h2 b2 "java/lang/AbstractStringBuilder" "coder" "B" (.int (0 : Int32)) := D2 (Or.inl (hw _ (gm 28 rfl))) (ty := .byte) (by decide)
  have F2_count : Fld Z h2 b2 "java/lang/AbstractStringBuilder" "count" "I" (.int (0 : Int32)) := D2 (Or.inl (hw _ (gm 94 rfl))) (ty := .int) (by decide)
  have F2_maybeLatin1 : Fld Z h2 b2 "java/lang/AbstractStringBuilder" "maybeLatin1" "Z" (.int (0 : Int32)) := D2 (Or.inl (hw _ (gm 274 rfl))) (ty := .boolean) (by decide)
  refine X2.dup g5_1_8 rfl rfl ?_
  have lt_w1_3 := (X2.lt (.tail _ (.head _)))
  have lt_b2_3 := (X2.lt (.head _))
  obtain ⟨_, T3, h3, XX3, K3, ⟨vb_3, kb_3, rfl, fr_vb_3, fl_vb_3, P3_0, P3_1, P3_2, P3_3, P3_4⟩, st3⟩ := X2.spX (W := 2) rfl (hw _ (gm 12 rfl)) (hw _ (gm 13 rfl)) (hw _ (gm 14 rfl)) (by decide) ((rs_sbi l Z a0 hw n0 b2 .null (.int (0 : Int32)) zc h2 X2.old A2 F2_value F2_coder F2_count F2_maybeLatin1 Sc nc (X2.ge (.head _)) (X2.lt (.head _))).pay (hw _ (gm 14 rfl)) (hw _ (gm 11 rfl)) (by decide) (by decide)) (allS (.head _) all0) (g := (mkF m 9 #[.val (.ref w1)] [(.ref b2), (.ref b2), (.ref w1)])) rfl rfl (a := b2) (argsL := []) (rest := [(.ref b2), (.ref w1)]) (lenOf pd_23 rfl) rfl (by exact Nat.le_of_eq rfl) g5_1_9 rfl (by decide) (by decide)
  refine Go.tr st3 ?_
  have X3 := XX3 [vb_3] (allS (Or.inr ⟨fr_vb_3, fl_vb_3⟩) all0)
  have K0_h3 := K0_h2.trans K3 (allS (Or.inr sz_b2) all0)
  have ne_w1_vb_3 := ne_ge lt_w1_3 fr_vb_3
  have ne_b2_vb_3 := ne_ge lt_b2_3 fr_vb_3
  have sz_vb_3 := Nat.le_trans X2.sz fr_vb_3
  have f5 := (pr1.ext E2).keep K3 (ninS ne_w1_b2 nin0)
  have f6 := (pr0.ext E2).keep K3
  obtain ⟨T4, h4, X4, W4, st4⟩ := X3.putF (host := "") (Or.inl (hw _ (gm 29 rfl))) Via.refl f5 f6 (Or.inr ⟨(hw _ (gm 30 rfl)), rfl, rfl⟩) (hw _ (gm 1 rfl)) (.tail _ (.tail _ (.head _))) (ty := (.object "java/lang/StringBuilder")) (by decide) rfl rfl (g := (mkF m 12 #[.val (.ref w1)] [(.ref b2), (.ref w1)])) rfl rfl g5_1_12
  refine Go.by st4 ?_
  have K0_h4 := K0_h3.wr W4 (Or.inl (.head _))
  have F4 : Fld Z h4 w1 "com/example/suricate/suricate/component/HtmlWriter" "html" "Ljava/lang/StringBuilder;" (.ref b2) := f5.same W4
  have f7 := ((A2).keep K3).wr W4
  have f8 := (P3_0).other W4 (Or.inl ne_w1_b2.symm)
  have f9 := (P3_1).other W4 (Or.inl ne_w1_b2.symm)
  have f10 := (P3_2).other W4 (Or.inl ne_w1_b2.symm)
  have f11 := (P3_3).other W4 (Or.inl ne_w1_b2.symm)
  have f12 := (P3_4).other W4 ne_w1_vb_3.symm
  exact X4.retV g5_1_15 K0_h4 ⟨b2, vb_3, kb_3, rfl, sz_b2, (X4.lt (.tail _ (.head _))), sz_vb_3, (X4.lt (.head _)), F4, f7, f8, f9, f10, f11, f12, ne_b2_vb_3.symm⟩ (by decide) (by decide)
def Q_rm_ne4 (Z : State) (x : Addr) (bb : Addr) (av : Addr) (aw : Addr) (v0 : Value) (c0 : Value) (h0 : Heap) (ov : Option Value) (hz : Heap) : Prop := ∃ (t : Addr), ov = none ∧ Str Z hz x t [] ∧ (av ≠ t) ∧ (aw ≠ t)
theorem j42_149_8 : decode jdk_42_method_149_code 8 = .ok (.aload_n 0, 1) := by decide +kernel
theorem j42_149_9 : decode jdk_42_method_149_code 9 = .ok (.ldc 7, 2) := by decide +kernel
theorem j42_149_11 : decode jdk_42_method_149_code 11 = .ok (.getfield 9, 3) := by decide +kernel
theorem j42_149_14 : decode jdk_42_method_149_code 14 = .ok (.putfield 9, 3) := by decide +kernel
theorem j42_149_17 : decode jdk_42_method_149_code 17 = .ok (.aload_n 0, 1) := by decide +kernel
theorem j42_149_18 : decode jdk_42_method_149_code 18 = .ok (.ldc 7, 2) := by decide +kernel
theorem j42_149_20 : decode jdk_42_method_149_code 20 = .ok (.getfield 15, 3) := by decide +kernel
theorem j42_149_23 : decode jdk_42_method_149_code 23 = .ok (.putfield 15, 3) := by decide +kernel
theorem j42_149_26 : decode jdk_42_method_149_code 26 = .ok (.return_, 1) := by decide +kernel
abbrev RM_rm_ne4 : Room := { frames := 1, cells := 4, slots := 8, locals := 12 }
theorem rm_ne4 (l : Launch) (Z : State) (a0 : Array Value) (hw : ∀ d ∈ tables_1, d.before a0 Z = true) (n0 : Nat) (x : Addr) (bb : Addr) (av : Addr) (aw : Addr) (v0 : Value) (c0 : Value) (h0 : Heap) (hO : Old Z n0 h0) (pr0 : Exa Z h0 x "java/lang/String") (pr1 : Fld Z h0 x "java/lang/String" "value" "[B" v0) (pr2 : Fld Z h0 x "java/lang/String" "coder" "B" c0) (g_x : n0 ≤ x) (l_x : x < h0.size) (g_av : n0 ≤ av) (l_av : av < h0.size) (g_aw : n0 ≤ aw) (l_aw : aw < h0.size) :
    Cw l (⟨"java/lang/String", "<init>", "([CIILjava/lang/Void;)V"⟩ : MethodName) jdk_42_method_149_code 6 none [] RM_rm_ne4 Z EL n0 #[(.ref x), (.ref bb), (.int (0 : Int32)), (.int (0 : Int32)), .null] h0 [x] [x, av, aw] (Q_rm_ne4 Z x bb av aw v0 c0 h0) := by
  refine Cw.of_walk (plainFor_of_name pn_1) hO (own_EW hw) (allS ⟨g_x, l_x⟩ (allS ⟨g_av, l_av⟩ (allS ⟨g_aw, l_aw⟩ all0))) ?_
  intro p e s m below meth c T0 X0
  rw [ef_RRIIN6 m x bb (0 : Int32) (0 : Int32)]
  show Go _ _ _ _ (T0.setTop (mkF m 0 #[.val (.ref x), .val (.ref bb), .val (.int (0 : Int32)), .val (.int (0 : Int32)), .val .null, .unset] []))
  refine X0.aloadN j42_149_0 rfl rfl ?_
  obtain ⟨T1, X1, st1⟩ := X0.initO (hw _ (gm 45 rfl)) (hw _ (gm 7 rfl)) (hw _ (gm 8 rfl)) (g := (mkF m 1 #[.val (.ref x), .val (.ref bb), .val (.int (0 : Int32)), .val (.int (0 : Int32)), .val .null, .unset] [(.ref x)])) rfl rfl rfl j42_149_1 (by decide) (W := 0) (by exact Nat.le_of_eq rfl) (by decide)
  refine Go.by st1 ?_
  refine X1.iloadN j42_149_4 rfl ?_
  refine X1.ifNo j42_149_5 rfl (XT.i0_ne_f (by decide)) ?_
  refine X1.aloadN j42_149_8 rfl rfl ?_
  obtain ⟨b2, t2, k2, T2, h2, X2, E2, L2, C2, V2, A2, ne2, st2⟩ := X1.ldcR (hw _ (gm 46 rfl)) (own_SA hw) (.head _) (vs := []) (z := (0 : Int32)) ⟨by decide, by decide⟩ (by decide) (by decide) (g := (mkF m 9 #[.val (.ref x), .val (.ref bb), .val (.int (0 : Int32)), .val (.int (0 : Int32)), .val .null, .unset] [(.ref x)])) rfl j42_149_9 (n := 0) (by decide) (by decide) (by decide) (by decide)
  refine Go.by st2 ?_
  have K0_h2 := (Keep.refl h0 [x]).ext E2
  show Go _ _ _ _ (T2.setTop (mkF m 11 #[.val (.ref x), .val (.ref bb), .val (.int (0 : Int32)), .val (.int (0 : Int32)), .val .null, .unset] [(.ref b2), (.ref x)]))
  obtain ⟨T3, X3, st3⟩ := X2.getF (host := "") (Or.inl (hw _ (gm 51 rfl))) Via.refl V2 (g := (mkF m 11 #[.val (.ref x), .val (.ref bb), .val (.int (0 : Int32)), .val (.int (0 : Int32)), .val .null, .unset] [(.ref b2), (.ref x)])) rfl rfl j42_149_11
  refine Go.by st3 ?_
  have f5 := pr1.ext E2
  have f6 := pr0.ext E2
  obtain ⟨T4, h4, X4, W4, st4⟩ := X3.putF (host := "") (Or.inl (hw _ (gm 51 rfl))) Via.refl f5 f6 (Or.inr ⟨(hw _ (gm 47 rfl)), rfl, rfl⟩) (hw _ (gm 36 rfl)) (.head _) (ty := (.array .byte)) (by decide) rfl rfl (g := (mkF m 14 #[.val (.ref x), .val (.ref bb), .val (.int (0 : Int32)), .val (.int (0 : Int32)), .val .null, .unset] [(.ref t2), (.ref x)])) rfl rfl j42_149_14
  refine Go.by st4 ?_
  have K0_h4 := K0_h2.wr W4 (Or.inl (.head _))
  have F4 : Fld Z h4 x "java/lang/String" "value" "[B" (.ref t2) := f5.same W4
  refine X4.aloadN j42_149_17 rfl rfl ?_
  obtain ⟨b7, t7, k7, T7, h7, X7, E7, L7, C7, V7, A7, ne7, st7⟩ := X4.ldcR (hw _ (gm 46 rfl)) (own_SA hw) (.head _) (vs := []) (z := (0 : Int32)) ⟨by decide, by decide⟩ (by decide) (by decide) (g := (mkF m 18 #[.val (.ref x), .val (.ref bb), .val (.int (0 : Int32)), .val (.int (0 : Int32)), .val .null, .unset] [(.ref x)])) rfl j42_149_18 (n := 0) (by decide) (by decide) (by decide) (by decide)
  refine Go.by st7 ?_
  have K0_h7 := K0_h4.ext E7
  show Go _ _ _ _ (T7.setTop (mkF m 20 #[.val (.ref x), .val (.ref bb), .val (.int (0 : Int32)), .val (.int (0 : Int32)), .val .null, .unset] [(.ref b7), (.ref x)]))
  obtain ⟨T8, X8, st8⟩ := X7.getF (host := "") (Or.inl (hw _ (gm 52 rfl))) Via.refl C7 (g := (mkF m 20 #[.val (.ref x), .val (.ref bb), .val (.int (0 : Int32)), .val (.int (0 : Int32)), .val .null, .unset] [(.ref b7), (.ref x)])) rfl rfl j42_149_20
  refine Go.by st8 ?_
  have f10 := ((pr2.ext E2).other W4 (Or.inr (slot_ne (Or.inr (hw _ (gm 48 rfl))) (Or.inr (hw _ (gm 47 rfl))) (by decide) (t := .byte) (t' := (.array .byte)) (by decide) (by decide)))).ext E7
  have f11 := ((f6).wr W4).ext E7
  obtain ⟨T9, h9, X9, W9, st9⟩ := X8.putFN (hw _ (gm 52 rfl)) Via.refl f10 f11 (Or.inr ⟨(hw _ (gm 48 rfl)), rfl, rfl⟩) (hw _ (gm 36 rfl)) (.head _) (ty := .byte) (v' := .int (0 : Int32)) (by decide) rfl rfl (g := (mkF m 23 #[.val (.ref x), .val (.ref bb), .val (.int (0 : Int32)), .val (.int (0 : Int32)), .val .null, .unset] [(.int (0 : Int32)), (.ref x)])) rfl rfl j42_149_23
  refine Go.by st9 ?_
  have K0_h9 := K0_h7.wr W9 (Or.inl (.head _))
  have F9 : Fld Z h9 x "java/lang/String" "coder" "B" (.int (0 : Int32)) := f10.same W9
  have f13 := (f11).wr W9
  have f14 := (F4.ext E7).other W9 (Or.inr (slot_ne (Or.inr (hw _ (gm 47 rfl))) (Or.inr (hw _ (gm 48 rfl))) (by decide) (t := (.array .byte)) (t' := .byte) (by decide) (by decide)))
  have f15 := (((A2).other W4 ((ne2 x (.head _)).2).symm).ext E7).other W9 ((ne2 x (.head _)).2).symm
  have S12 : Str Z h9 x t2 [] := Str.lit f13 F9 f14 f15 (by decide) rfl (by decide) (by decide)
  exact X9.retV j42_149_26 K0_h9 ⟨t2, rfl, S12, (ne2 av (.tail _ (.head _))).2, (ne2 aw (.tail _ (.tail _ (.head _)))).2⟩ (by decide) (by decide)
def Q_rm_ne1 (Z : State) (x : Addr) (bb : Addr) (av : Addr) (aw : Addr) (kC : ClassId) (vs : List Value) (v0 : Value) (c0 : Value) (h0 : Heap) (ov : Option Value) (hz : Heap) : Prop := ∃ (t : Addr), ov = none ∧ Str Z hz x t [] ∧ (av ≠ t) ∧ (aw ≠ t)
abbrev RM_rm_ne1 : Room := { frames := 2, cells := 4, slots := 8, locals := 29 }
theorem rm_ne1 (l : Launch) (Z : State) (a0 : Array Value) (hw : ∀ d ∈ tables_1, d.before a0 Z = true) (n0 : Nat) (x : Addr) (bb : Addr) (av : Addr) (aw : Addr) (kC : ClassId) (vs : List Value) (v0 : Value) (c0 : Value) (h0 : Heap) (hO : Old Z n0 h0) (pr0 : Exa Z h0 x "java/lang/String") (pr1 : Fld Z h0 x "java/lang/String" "value" "[B" v0) (pr2 : Fld Z h0 x "java/lang/String" "coder" "B" c0) (pr3 : Arv Z h0 bb kC .char (0 : Int32) vs (.int (0 : Int32))) (g_x : n0 ≤ x) (l_x : x < h0.size) (g_av : n0 ≤ av) (l_av : av < h0.size) (g_aw : n0 ≤ aw) (l_aw : aw < h0.size) :
    Cw l (⟨"java/lang/String", "<init>", "([C)V"⟩ : MethodName) jdk_42_method_3_code 2 none [] RM_rm_ne1 Z EL n0 #[(.ref x), (.ref bb)] h0 [x] [x, av, aw] (Q_rm_ne1 Z x bb av aw kC vs v0 c0 h0) := by
  refine Cw.of_walk (plainFor_of_name pn_1) hO (own_EW hw) (allS ⟨g_x, l_x⟩ (allS ⟨g_av, l_av⟩ (allS ⟨g_aw, l_aw⟩ all0))) ?_
  intro p e s m below meth c T0 X0
  rw [ef_RR2 m x bb]
  show Go _ _ _ _ (T0.setTop (mkF m 0 #[.val (.ref x), .val (.ref bb)] []))
  refine X0.aloadN j42_3_0 rfl rfl ?_
  refine X0.aloadN j42_3_1 rfl rfl ?_
  refine X0.iconst j42_3_2 ?_
  refine X0.aloadN j42_3_3 rfl rfl ?_
  refine Go.by (fun _ k => X0.len pr3 (g := (mkF m 4 #[.val (.ref x), .val (.ref bb)] [(.ref bb), (.int (0 : Int32)), (.ref bb), (.ref x)])) rfl rfl j42_3_4 _ k) ?_
  show Go _ _ _ _ (T0.setTop (mkF m 5 #[.val (.ref x), .val (.ref bb)] [(.int (0 : Int32)), (.int (0 : Int32)), (.ref bb), (.ref x)]))
  refine X0.aconstNull j42_3_5 ?_
  obtain ⟨_, T1, h1, X1, K1, ⟨t_1, rfl, P1_0, p1_0, p1_1⟩, st1⟩ := X0.spW (W := 0) rfl (hw _ (gm 41 rfl)) (hw _ (gm 42 rfl)) (hw _ (gm 44 rfl)) (by decide) ((rm_ne4 l Z a0 hw n0 x bb av aw v0 c0 h0 X0.old pr0 pr1 pr2 (X0.ge (.head _)) (X0.lt (.head _)) (X0.ge (.tail _ (.head _))) (X0.lt (.tail _ (.head _))) (X0.ge (.tail _ (.tail _ (.head _)))) (X0.lt (.tail _ (.tail _ (.head _))))).pay (hw _ (gm 44 rfl)) (hw _ (gm 23 rfl)) (own_EW hw) (by decide) (by decide)) (allS (.head _) all0) (allS (.head _) (allS (.tail _ (.head _)) (allS (.tail _ (.tail _ (.head _))) all0))) (g := (mkF m 6 #[.val (.ref x), .val (.ref bb)] [.null, (.int (0 : Int32)), (.int (0 : Int32)), (.ref bb), (.ref x)])) rfl rfl (a := x) (argsL := [(.ref bb), (.int (0 : Int32)), (.int (0 : Int32)), .null]) (rest := []) (lenOf pd_7 rfl) rfl (by exact Nat.le_of_eq rfl) j42_3_6 rfl (by decide) (by decide)
  refine Go.tr st1 ?_
  have K0_h1 := (Keep.refl h0 [x]).trans K1 (allS (Or.inl (.head _)) all0)
  exact X1.retV j42_3_9 K0_h1 ⟨t_1, rfl, P1_0, p1_0, p1_1⟩ (by decide) (by decide)
theorem ef_IIIII5 (m : MethodId) (x0 : Int32) (x1 : Int32) (x2 : Int32) (x3 : Int32) (x4 : Int32) : entryFrame m #[(.int x0), (.int x1), (.int x2), (.int x3), (.int x4)] 5 = mkF m 0 #[.val (.int x0), .val (.int x1), .val (.int x2), .val (.int x3), .val (.int x4)] [] := by first | (simp [entryFrame, mkF, argsToLocals, Value.category]; done) | rfl
def Q_rh_str00 (Z : State) (ca : Int32) (cb : Int32) (cc : Int32) (av : Addr) (aw : Addr) (zc : Int32) (h0 : Heap) (ov : Option Value) (hz : Heap) : Prop := ∃ (x : Addr), ∃ (t : Addr), ov = some (.ref x) ∧ h0.size ≤ x ∧ x < hz.size ∧ Str Z hz x t [] ∧ (av ≠ t) ∧ (aw ≠ t)
theorem pn_8 : plainName "com/example/suricate/suricate/component/HtmlWriterCloseStartTagPinLaw" = true := by first | (simp [plainName, overriddenIn]; done) | decide +kernel
theorem d_2_0 : decode method_2_code 0 = .ok (.iload_n 0, 1) := by decide +kernel
theorem d_2_1 : decode method_2_code 1 = .ok (.ifCond .ne 37, 3) := by decide +kernel
theorem d_2_4 : decode method_2_code 4 = .ok (.iload 4, 2) := by decide +kernel
theorem d_2_6 : decode method_2_code 6 = .ok (.ifCond .eq 21, 3) := by decide +kernel
theorem d_2_27 : decode method_2_code 27 = .ok (.new 7, 3) := by decide +kernel
theorem d_2_30 : decode method_2_code 30 = .ok (.dup, 1) := by decide +kernel
theorem d_2_31 : decode method_2_code 31 = .ok (.iconst 0, 1) := by decide +kernel
theorem d_2_32 : decode method_2_code 32 = .ok (.newarray .char, 2) := by decide +kernel
theorem pd_34 : parseMethodDescriptor "([C)V" = some ⟨[(.array .char)], none⟩ := by decide +kernel
theorem d_2_34 : decode method_2_code 34 = .ok (.invokespecial 9, 3) := by decide +kernel
theorem d_2_37 : decode method_2_code 37 = .ok (.areturn, 1) := by decide +kernel
abbrev RM_rh_str00 : Room := { frames := 3, cells := 6, slots := 12, locals := 43 }
theorem rh_str00 (l : Launch) (Z : State) (a0 : Array Value) (hw : ∀ d ∈ tables_1, d.before a0 Z = true) (n0 : Nat) (ca : Int32) (cb : Int32) (cc : Int32) (av : Addr) (aw : Addr) (zc : Int32) (h0 : Heap) (hO : Old Z n0 h0) (Sc : SC Z zc) (nc : ¬ (zc = (0 : Int32))) (Sa : SA1 Z) (Su : SU1 Z) (Sv : SV1 Z) (hca : ¬ ca < 0 ∧ ¬ (65535 : Int32) < ca) (hcb : ¬ cb < 0 ∧ ¬ (65535 : Int32) < cb) (hcc : ¬ cc < 0 ∧ ¬ (65535 : Int32) < cc) (g_av : n0 ≤ av) (l_av : av < h0.size) (g_aw : n0 ≤ aw) (l_aw : aw < h0.size) :
    Cw l (⟨"com/example/suricate/suricate/component/HtmlWriterCloseStartTagPinLaw", "str", "(ICCCZ)Ljava/lang/String;"⟩ : MethodName) method_2_code 5 (some (.object "java/lang/String")) [] RM_rh_str00 Z EL n0 #[(.int (0 : Int32)), (.int ca), (.int cb), (.int cc), (.int (0 : Int32))] h0 [] [av, aw] (Q_rh_str00 Z ca cb cc av aw zc h0) := by
  refine Cw.of_walk (plainFor_of_name pn_8) hO (own_EW hw) (allS ⟨g_av, l_av⟩ (allS ⟨g_aw, l_aw⟩ all0)) ?_
  intro p e s m below meth c T0 X0
  rw [ef_IIIII5 m (0 : Int32) ca cb cc (0 : Int32)]
  show Go _ _ _ _ (T0.setTop (mkF m 0 #[.val (.int (0 : Int32)), .val (.int ca), .val (.int cb), .val (.int cc), .val (.int (0 : Int32))] []))
  refine X0.iloadN d_2_0 rfl ?_
  refine X0.ifNo d_2_1 rfl (XT.i0_ne_f (by decide)) ?_
  refine X0.iload d_2_4 rfl ?_
  refine X0.ifYes (pc0 := 6) (pc' := 27) rfl d_2_6 rfl (XT.i0_eq_t (by decide)) (by decide) (by decide) ?_
  obtain ⟨T1, h1, b1, g_b1, X1, E1, A1, D1, st1⟩ := X0.new (hw _ (gm 35 rfl)) (hw _ (gm 36 rfl)) (hw _ (gm 23 rfl)) (g := (mkF m 27 #[.val (.int (0 : Int32)), .val (.int ca), .val (.int cb), .val (.int cc), .val (.int (0 : Int32))] [])) rfl d_2_27 (by decide) (by decide)
  refine Go.by st1 ?_
  have sz_b1 := Nat.le_trans X0.sz (Nat.le_of_eq g_b1.symm)
  have K0_h1 := (Keep.refl h0 []).ext E1
  have F1_value : Fld Z h1 b1 "java/lang/String" "value" "[B" .null := D1 (Or.inr (hw _ (gm 47 rfl))) (ty := (.array .byte)) (by decide)
  have F1_coder : Fld Z h1 b1 "java/lang/String" "coder" "B" (.int (0 : Int32)) := D1 (Or.inr (hw _ (gm 48 rfl))) (ty := .byte) (by decide)
  refine X1.dup d_2_30 rfl rfl ?_
  refine X1.iconst d_2_31 ?_
  obtain ⟨T2, h2, b2, k2, g_b2, X2, E2, A2, st2⟩ := X1.newP (hw _ (gm 37 rfl)) (g := (mkF m 32 #[.val (.int (0 : Int32)), .val (.int ca), .val (.int cb), .val (.int cc), .val (.int (0 : Int32))] [(.int (0 : Int32)), (.ref b1), (.ref b1)])) rfl d_2_32 rfl (by decide) (cap := 0) (by decide) (by decide) (by decide) (by decide) (vs := []) rfl
  refine Go.by st2 ?_
  have K0_h2 := K0_h1.ext E2
  have F2 : Arv Z h2 b2 k2 .char (0 : Int32) [] (.int (0 : Int32)) := A2
  have f3 := A1.ext E2
  have f4 := F1_value.ext E2
  have f5 := F1_coder.ext E2
  obtain ⟨_, T6, h6, X6, K6, ⟨t_6, rfl, P6_0, p6_0, p6_1⟩, st6⟩ := X2.spW (W := 1) rfl (hw _ (gm 38 rfl)) (hw _ (gm 39 rfl)) (hw _ (gm 40 rfl)) (by decide) ((rm_ne1 l Z a0 hw n0 b1 b2 av aw k2 [] .null (.int (0 : Int32)) h2 X2.old f3 f4 f5 F2 (X2.ge (.tail _ (.head _))) (X2.lt (.tail _ (.head _))) (X2.ge (.tail _ (.tail _ (.head _)))) (X2.lt (.tail _ (.tail _ (.head _)))) (X2.ge (.tail _ (.tail _ (.tail _ (.head _))))) (X2.lt (.tail _ (.tail _ (.tail _ (.head _)))))).pay (hw _ (gm 40 rfl)) (hw _ (gm 23 rfl)) (own_EW hw) (by decide) (by decide)) (allS (.tail _ (.head _)) all0) (allS (.tail _ (.head _)) (allS (.tail _ (.tail _ (.head _))) (allS (.tail _ (.tail _ (.tail _ (.head _)))) all0))) (g := (mkF m 34 #[.val (.int (0 : Int32)), .val (.int ca), .val (.int cb), .val (.int cc), .val (.int (0 : Int32))] [(.ref b2), (.ref b1), (.ref b1)])) rfl rfl (a := b1) (argsL := [(.ref b2)]) (rest := [(.ref b1)]) (lenOf pd_34 rfl) rfl (by exact Nat.le_of_eq rfl) d_2_34 rfl (by decide) (by decide)
  refine Go.tr st6 ?_
  have K0_h6 := K0_h2.trans K6 (allS (Or.inr sz_b1) all0)
  exact X6.retR rfl rfl d_2_37 K0_h6 ⟨b1, t_6, rfl, sz_b1, (X6.lt (.tail _ (.head _))), P6_0, p6_0, p6_1⟩ (by decide) (by decide)
def Q_rh_str01 (Z : State) (ca : Int32) (cb : Int32) (cc : Int32) (zc : Int32) (h0 : Heap) (ov : Option Value) (hz : Heap) : Prop := ∃ (x : Addr), ∃ (t : Addr), ov = some (.ref x) ∧ h0.size ≤ x ∧ x < hz.size ∧ h0.size ≤ t ∧ t < hz.size ∧ Str Z hz x t [(62 : Int32)]
theorem d_2_9 : decode method_2_code 9 = .ok (.new 7, 3) := by decide +kernel
theorem d_2_12 : decode method_2_code 12 = .ok (.dup, 1) := by decide +kernel
theorem d_2_13 : decode method_2_code 13 = .ok (.iconst 1, 1) := by decide +kernel
theorem d_2_14 : decode method_2_code 14 = .ok (.newarray .char, 2) := by decide +kernel
theorem d_2_16 : decode method_2_code 16 = .ok (.dup, 1) := by decide +kernel
theorem d_2_17 : decode method_2_code 17 = .ok (.iconst 0, 1) := by decide +kernel
theorem d_2_18 : decode method_2_code 18 = .ok (.bipush 62, 2) := by decide +kernel
theorem d_2_20 : decode method_2_code 20 = .ok (.castore, 1) := by decide +kernel
theorem d_2_21 : decode method_2_code 21 = .ok (.invokespecial 9, 3) := by decide +kernel
theorem d_2_24 : decode method_2_code 24 = .ok (.goto 13, 3) := by decide +kernel
abbrev RM_rh_str01 : Room := { frames := 6, cells := 4, slots := 17, locals := 88 }
theorem rh_str01 (l : Launch) (Z : State) (a0 : Array Value) (hw : ∀ d ∈ tables_1, d.before a0 Z = true) (n0 : Nat) (ca : Int32) (cb : Int32) (cc : Int32) (zc : Int32) (h0 : Heap) (hO : Old Z n0 h0) (Sc : SC Z zc) (nc : ¬ (zc = (0 : Int32))) (Sa : SA1 Z) (Su : SU1 Z) (Sv : SV1 Z) (hca : ¬ ca < 0 ∧ ¬ (65535 : Int32) < ca) (hcb : ¬ cb < 0 ∧ ¬ (65535 : Int32) < cb) (hcc : ¬ cc < 0 ∧ ¬ (65535 : Int32) < cc) :
    Ct l (⟨"com/example/suricate/suricate/component/HtmlWriterCloseStartTagPinLaw", "str", "(ICCCZ)Ljava/lang/String;"⟩ : MethodName) method_2_code 5 (some (.object "java/lang/String")) [] RM_rh_str01 Z n0 #[(.int (0 : Int32)), (.int ca), (.int cb), (.int cc), (.int (1 : Int32))] h0 [] (Q_rh_str01 Z ca cb cc zc h0) := by
  refine Ct.of_walk (plainFor_of_name pn_8) hO all0 ?_
  intro p e s m below meth c T0 X0
  rw [ef_IIIII5 m (0 : Int32) ca cb cc (1 : Int32)]
  show Go _ _ _ _ (T0.setTop (mkF m 0 #[.val (.int (0 : Int32)), .val (.int ca), .val (.int cb), .val (.int cc), .val (.int (1 : Int32))] []))
  refine X0.iloadN d_2_0 rfl ?_
  refine X0.ifNo d_2_1 rfl (XT.i0_ne_f (by decide)) ?_
  refine X0.iload d_2_4 rfl ?_
  refine X0.ifNo d_2_6 rfl (XT.i0_eq_f (by decide)) ?_
  obtain ⟨T1, h1, b1, g_b1, X1, E1, A1, D1, st1⟩ := X0.new (hw _ (gm 35 rfl)) (hw _ (gm 36 rfl)) (hw _ (gm 23 rfl)) (g := (mkF m 9 #[.val (.int (0 : Int32)), .val (.int ca), .val (.int cb), .val (.int cc), .val (.int (1 : Int32))] [])) rfl d_2_9 (by decide) (by decide)
  refine Go.by st1 ?_
  have sz_b1 := Nat.le_trans X0.sz (Nat.le_of_eq g_b1.symm)
  have K0_h1 := (Keep.refl h0 []).ext E1
  have F1_value : Fld Z h1 b1 "java/lang/String" "value" "[B" .null := D1 (Or.inr (hw _ (gm 47 rfl))) (ty := (.array .byte)) (by decide)
  have F1_coder : Fld Z h1 b1 "java/lang/String" "coder" "B" (.int (0 : Int32)) := D1 (Or.inr (hw _ (gm 48 rfl))) (ty := .byte) (by decide)
  refine X1.dup d_2_12 rfl rfl ?_
  refine X1.iconst d_2_13 ?_
  have lt_b1_2 := (X1.lt (.head _))
  obtain ⟨T2, h2, b2, k2, g_b2, X2, E2, A2, st2⟩ := X1.newP (hw _ (gm 37 rfl)) (g := (mkF m 14 #[.val (.int (0 : Int32)), .val (.int ca), .val (.int cb), .val (.int cc), .val (.int (1 : Int32))] [(.int (1 : Int32)), (.ref b1), (.ref b1)])) rfl d_2_14 rfl (by decide) (cap := 1) (by decide) (by decide) (by decide) (by decide) (vs := [(.int (0 : Int32))]) rfl
  refine Go.by st2 ?_
  have ne_b1_b2 := ne_new lt_b1_2 g_b2
  have sz_b2 := Nat.le_trans X1.sz (Nat.le_of_eq g_b2.symm)
  have K0_h2 := K0_h1.ext E2
  have F2 : Arv Z h2 b2 k2 .char (1 : Int32) [(.int (0 : Int32))] (.int (0 : Int32)) := A2
  refine X2.dup d_2_16 rfl rfl ?_
  refine X2.iconst d_2_17 ?_
  refine X2.bipush d_2_18 ?_
  obtain ⟨T3, h3, X3, W3, A3, st3⟩ := X2.stC (x' := (62 : Int32)) F2 (.head _) ⟨by decide, by decide⟩ (i := 0) rfl (Nat.le_of_ble_eq_true rfl) rfl (vs' := [(.int (62 : Int32))]) rfl (g := (mkF m 20 #[.val (.int (0 : Int32)), .val (.int ca), .val (.int cb), .val (.int cc), .val (.int (1 : Int32))] [(.int (62 : Int32)), (.int (0 : Int32)), (.ref b2), (.ref b2), (.ref b1), (.ref b1)])) rfl rfl d_2_20
  refine Go.by st3 ?_
  have K0_h3 := K0_h2.trans W3 (allS (Or.inr sz_b2) all0)
  show Go _ _ _ _ (T3.setTop (mkF m 21 #[.val (.int (0 : Int32)), .val (.int ca), .val (.int cb), .val (.int cc), .val (.int (1 : Int32))] [(.ref b2), (.ref b1), (.ref b1)]))
  have f4 := (A1.ext E2).keep W3
  have f5 := (F1_value.ext E2).keep W3 (ninS ne_b1_b2 nin0)
  have f6 := (F1_coder.ext E2).keep W3 (ninS ne_b1_b2 nin0)
  obtain ⟨_, T7, h7, XX7, K7, ⟨t_7, rfl, fr_t_7, fl_t_7, P7_0⟩, st7⟩ := X3.spX (W := 1) rfl (hw _ (gm 38 rfl)) (hw _ (gm 39 rfl)) (hw _ (gm 40 rfl)) (by decide) ((ru_ni1 l Z a0 hw n0 b1 b2 k2 [(62 : Int32)] .null (.int (0 : Int32)) zc h3 X3.old f4 f5 f6 A3 Sc nc Sa Su Sv (all1 ⟨by decide, by decide⟩ alln) (Nat.le_of_ble_eq_true rfl) (Nat.le_of_ble_eq_true rfl) ne_b1_b2.symm (X3.ge (.tail _ (.head _))) (X3.lt (.tail _ (.head _)))).pay (hw _ (gm 40 rfl)) (hw _ (gm 23 rfl)) (by decide) (by decide)) (allS (.tail _ (.head _)) all0) (g := (mkF m 21 #[.val (.int (0 : Int32)), .val (.int ca), .val (.int cb), .val (.int cc), .val (.int (1 : Int32))] [(.ref b2), (.ref b1), (.ref b1)])) rfl rfl (a := b1) (argsL := [(.ref b2)]) (rest := [(.ref b1)]) (lenOf pd_34 rfl) rfl (by exact Nat.le_of_eq rfl) d_2_21 rfl (by decide) (by decide)
  refine Go.tr st7 ?_
  have X7 := XX7 [t_7] (allS (Or.inr ⟨fr_t_7, fl_t_7⟩) all0)
  have K0_h7 := K0_h3.trans K7 (allS (Or.inr sz_b1) all0)
  have sz_t_7 := Nat.le_trans X3.sz fr_t_7
  refine X7.goto (pc0 := 24) (pc' := 37) rfl d_2_24 (by decide) (by decide) ?_
  exact X7.retR rfl rfl d_2_37 K0_h7 ⟨b1, t_7, rfl, sz_b1, (X7.lt (.tail _ (.tail _ (.head _)))), sz_t_7, (X7.lt (.head _)), P7_0⟩ (by decide) (by decide)
def Q_rh_str10 (Z : State) (ca : Int32) (cb : Int32) (cc : Int32) (zc : Int32) (h0 : Heap) (ov : Option Value) (hz : Heap) : Prop := ∃ (x : Addr), ∃ (t : Addr), ov = some (.ref x) ∧ h0.size ≤ x ∧ x < hz.size ∧ h0.size ≤ t ∧ t < hz.size ∧ Str Z hz x t [ca]
theorem d_2_38 : decode method_2_code 38 = .ok (.iload_n 0, 1) := by decide +kernel
theorem d_2_39 : decode method_2_code 39 = .ok (.iconst 1, 1) := by decide +kernel
theorem d_2_40 : decode method_2_code 40 = .ok (.if_icmp .ne 45, 3) := by decide +kernel
theorem d_2_43 : decode method_2_code 43 = .ok (.iload 4, 2) := by decide +kernel
theorem d_2_45 : decode method_2_code 45 = .ok (.ifCond .eq 25, 3) := by decide +kernel
theorem d_2_70 : decode method_2_code 70 = .ok (.new 7, 3) := by decide +kernel
theorem d_2_73 : decode method_2_code 73 = .ok (.dup, 1) := by decide +kernel
theorem d_2_74 : decode method_2_code 74 = .ok (.iconst 1, 1) := by decide +kernel
theorem d_2_75 : decode method_2_code 75 = .ok (.newarray .char, 2) := by decide +kernel
theorem d_2_77 : decode method_2_code 77 = .ok (.dup, 1) := by decide +kernel
theorem d_2_78 : decode method_2_code 78 = .ok (.iconst 0, 1) := by decide +kernel
theorem d_2_79 : decode method_2_code 79 = .ok (.iload_n 1, 1) := by decide +kernel
theorem d_2_80 : decode method_2_code 80 = .ok (.castore, 1) := by decide +kernel
theorem d_2_81 : decode method_2_code 81 = .ok (.invokespecial 9, 3) := by decide +kernel
theorem d_2_84 : decode method_2_code 84 = .ok (.areturn, 1) := by decide +kernel
abbrev RM_rh_str10 : Room := { frames := 6, cells := 4, slots := 17, locals := 88 }
theorem rh_str10 (l : Launch) (Z : State) (a0 : Array Value) (hw : ∀ d ∈ tables_1, d.before a0 Z = true) (n0 : Nat) (ca : Int32) (cb : Int32) (cc : Int32) (zc : Int32) (h0 : Heap) (hO : Old Z n0 h0) (Sc : SC Z zc) (nc : ¬ (zc = (0 : Int32))) (Sa : SA1 Z) (Su : SU1 Z) (Sv : SV1 Z) (hca : ¬ ca < 0 ∧ ¬ (65535 : Int32) < ca) (hcb : ¬ cb < 0 ∧ ¬ (65535 : Int32) < cb) (hcc : ¬ cc < 0 ∧ ¬ (65535 : Int32) < cc) :
    Ct l (⟨"com/example/suricate/suricate/component/HtmlWriterCloseStartTagPinLaw", "str", "(ICCCZ)Ljava/lang/String;"⟩ : MethodName) method_2_code 5 (some (.object "java/lang/String")) [] RM_rh_str10 Z n0 #[(.int (1 : Int32)), (.int ca), (.int cb), (.int cc), (.int (0 : Int32))] h0 [] (Q_rh_str10 Z ca cb cc zc h0) := by
  refine Ct.of_walk (plainFor_of_name pn_8) hO all0 ?_
  intro p e s m below meth c T0 X0
  rw [ef_IIIII5 m (1 : Int32) ca cb cc (0 : Int32)]
  show Go _ _ _ _ (T0.setTop (mkF m 0 #[.val (.int (1 : Int32)), .val (.int ca), .val (.int cb), .val (.int cc), .val (.int (0 : Int32))] []))
  refine X0.iloadN d_2_0 rfl ?_
  refine X0.ifYes (pc0 := 1) (pc' := 38) rfl d_2_1 rfl (XT.i0_ne_t (by decide)) (by decide) (by decide) ?_
  refine X0.iloadN d_2_38 rfl ?_
  refine X0.iconst d_2_39 ?_
  refine X0.icmpNo d_2_40 rfl (XT.ii_ne_f (by decide)) ?_
  refine X0.iload d_2_43 rfl ?_
  refine X0.ifYes (pc0 := 45) (pc' := 70) rfl d_2_45 rfl (XT.i0_eq_t (by decide)) (by decide) (by decide) ?_
  obtain ⟨T1, h1, b1, g_b1, X1, E1, A1, D1, st1⟩ := X0.new (hw _ (gm 35 rfl)) (hw _ (gm 36 rfl)) (hw _ (gm 23 rfl)) (g := (mkF m 70 #[.val (.int (1 : Int32)), .val (.int ca), .val (.int cb), .val (.int cc), .val (.int (0 : Int32))] [])) rfl d_2_70 (by decide) (by decide)
  refine Go.by st1 ?_
  have sz_b1 := Nat.le_trans X0.sz (Nat.le_of_eq g_b1.symm)
  have K0_h1 := (Keep.refl h0 []).ext E1
  have F1_value : Fld Z h1 b1 "java/lang/String" "value" "[B" .null := D1 (Or.inr (hw _ (gm 47 rfl))) (ty := (.array .byte)) (by decide)
  have F1_coder : Fld Z h1 b1 "java/lang/String" "coder" "B" (.int (0 : Int32)) := D1 (Or.inr (hw _ (gm 48 rfl))) (ty := .byte) (by decide)
  refine X1.dup d_2_73 rfl rfl ?_
  refine X1.iconst d_2_74 ?_
  have lt_b1_2 := (X1.lt (.head _))
  obtain ⟨T2, h2, b2, k2, g_b2, X2, E2, A2, st2⟩ := X1.newP (hw _ (gm 37 rfl)) (g := (mkF m 75 #[.val (.int (1 : Int32)), .val (.int ca), .val (.int cb), .val (.int cc), .val (.int (0 : Int32))] [(.int (1 : Int32)), (.ref b1), (.ref b1)])) rfl d_2_75 rfl (by decide) (cap := 1) (by decide) (by decide) (by decide) (by decide) (vs := [(.int (0 : Int32))]) rfl
  refine Go.by st2 ?_
  have ne_b1_b2 := ne_new lt_b1_2 g_b2
  have sz_b2 := Nat.le_trans X1.sz (Nat.le_of_eq g_b2.symm)
  have K0_h2 := K0_h1.ext E2
  have F2 : Arv Z h2 b2 k2 .char (1 : Int32) [(.int (0 : Int32))] (.int (0 : Int32)) := A2
  refine X2.dup d_2_77 rfl rfl ?_
  show Go _ _ _ _ (T2.setTop (mkF m 78 #[.val (.int (1 : Int32)), .val (.int ca), .val (.int cb), .val (.int cc), .val (.int (0 : Int32))] [(.ref b2), (.ref b2), (.ref b1), (.ref b1)]))
  refine X2.iconst d_2_78 ?_
  refine X2.iloadN d_2_79 rfl ?_
  obtain ⟨T3, h3, X3, W3, A3, st3⟩ := X2.stC (x' := ca) F2 (.head _) ⟨by decide, by decide⟩ (i := 0) rfl (Nat.le_of_ble_eq_true rfl) (own_nar16 hca) (vs' := [(.int ca)]) rfl (g := (mkF m 80 #[.val (.int (1 : Int32)), .val (.int ca), .val (.int cb), .val (.int cc), .val (.int (0 : Int32))] [(.int ca), (.int (0 : Int32)), (.ref b2), (.ref b2), (.ref b1), (.ref b1)])) rfl rfl d_2_80
  refine Go.by st3 ?_
  have K0_h3 := K0_h2.trans W3 (allS (Or.inr sz_b2) all0)
  have f4 := (A1.ext E2).keep W3
  have f5 := (F1_value.ext E2).keep W3 (ninS ne_b1_b2 nin0)
  have f6 := (F1_coder.ext E2).keep W3 (ninS ne_b1_b2 nin0)
  obtain ⟨_, T7, h7, XX7, K7, ⟨t_7, rfl, fr_t_7, fl_t_7, P7_0⟩, st7⟩ := X3.spX (W := 1) rfl (hw _ (gm 38 rfl)) (hw _ (gm 39 rfl)) (hw _ (gm 40 rfl)) (by decide) ((ru_ni1 l Z a0 hw n0 b1 b2 k2 [ca] .null (.int (0 : Int32)) zc h3 X3.old f4 f5 f6 A3 Sc nc Sa Su Sv (all1 hca alln) (Nat.le_of_ble_eq_true rfl) (Nat.le_of_ble_eq_true rfl) ne_b1_b2.symm (X3.ge (.tail _ (.head _))) (X3.lt (.tail _ (.head _)))).pay (hw _ (gm 40 rfl)) (hw _ (gm 23 rfl)) (by decide) (by decide)) (allS (.tail _ (.head _)) all0) (g := (mkF m 81 #[.val (.int (1 : Int32)), .val (.int ca), .val (.int cb), .val (.int cc), .val (.int (0 : Int32))] [(.ref b2), (.ref b1), (.ref b1)])) rfl rfl (a := b1) (argsL := [(.ref b2)]) (rest := [(.ref b1)]) (lenOf pd_34 rfl) rfl (by exact Nat.le_of_eq rfl) d_2_81 rfl (by decide) (by decide)
  refine Go.tr st7 ?_
  have X7 := XX7 [t_7] (allS (Or.inr ⟨fr_t_7, fl_t_7⟩) all0)
  have K0_h7 := K0_h3.trans K7 (allS (Or.inr sz_b1) all0)
  have sz_t_7 := Nat.le_trans X3.sz fr_t_7
  exact X7.retR rfl rfl d_2_84 K0_h7 ⟨b1, t_7, rfl, sz_b1, (X7.lt (.tail _ (.tail _ (.head _)))), sz_t_7, (X7.lt (.head _)), P7_0⟩ (by decide) (by decide)
def Q_rh_str11 (Z : State) (ca : Int32) (cb : Int32) (cc : Int32) (zc : Int32) (h0 : Heap) (ov : Option Value) (hz : Heap) : Prop := ∃ (x : Addr), ∃ (t : Addr), ov = some (.ref x) ∧ h0.size ≤ x ∧ x < hz.size ∧ h0.size ≤ t ∧ t < hz.size ∧ Str Z hz x t [ca, (62 : Int32)]
theorem d_2_48 : decode method_2_code 48 = .ok (.new 7, 3) := by decide +kernel
theorem d_2_51 : decode method_2_code 51 = .ok (.dup, 1) := by decide +kernel
theorem d_2_52 : decode method_2_code 52 = .ok (.iconst 2, 1) := by decide +kernel
theorem d_2_53 : decode method_2_code 53 = .ok (.newarray .char, 2) := by decide +kernel
theorem d_2_55 : decode method_2_code 55 = .ok (.dup, 1) := by decide +kernel
theorem d_2_56 : decode method_2_code 56 = .ok (.iconst 0, 1) := by decide +kernel
theorem d_2_57 : decode method_2_code 57 = .ok (.iload_n 1, 1) := by decide +kernel
theorem d_2_58 : decode method_2_code 58 = .ok (.castore, 1) := by decide +kernel
theorem d_2_59 : decode method_2_code 59 = .ok (.dup, 1) := by decide +kernel
theorem d_2_60 : decode method_2_code 60 = .ok (.iconst 1, 1) := by decide +kernel
theorem d_2_61 : decode method_2_code 61 = .ok (.bipush 62, 2) := by decide +kernel
theorem d_2_63 : decode method_2_code 63 = .ok (.castore, 1) := by decide +kernel
theorem d_2_64 : decode method_2_code 64 = .ok (.invokespecial 9, 3) := by decide +kernel
theorem d_2_67 : decode method_2_code 67 = .ok (.goto 17, 3) := by decide +kernel
abbrev RM_rh_str11 : Room := { frames := 6, cells := 4, slots := 18, locals := 88 }
theorem rh_str11 (l : Launch) (Z : State) (a0 : Array Value) (hw : ∀ d ∈ tables_1, d.before a0 Z = true) (n0 : Nat) (ca : Int32) (cb : Int32) (cc : Int32) (zc : Int32) (h0 : Heap) (hO : Old Z n0 h0) (Sc : SC Z zc) (nc : ¬ (zc = (0 : Int32))) (Sa : SA1 Z) (Su : SU1 Z) (Sv : SV1 Z) (hca : ¬ ca < 0 ∧ ¬ (65535 : Int32) < ca) (hcb : ¬ cb < 0 ∧ ¬ (65535 : Int32) < cb) (hcc : ¬ cc < 0 ∧ ¬ (65535 : Int32) < cc) :
    Ct l (⟨"com/example/suricate/suricate/component/HtmlWriterCloseStartTagPinLaw", "str", "(ICCCZ)Ljava/lang/String;"⟩ : MethodName) method_2_code 5 (some (.object "java/lang/String")) [] RM_rh_str11 Z n0 #[(.int (1 : Int32)), (.int ca), (.int cb), (.int cc), (.int (1 : Int32))] h0 [] (Q_rh_str11 Z ca cb cc zc h0) := by
  refine Ct.of_walk (plainFor_of_name pn_8) hO all0 ?_
  intro p e s m below meth c T0 X0
  rw [ef_IIIII5 m (1 : Int32) ca cb cc (1 : Int32)]
  show Go _ _ _ _ (T0.setTop (mkF m 0 #[.val (.int (1 : Int32)), .val (.int ca), .val (.int cb), .val (.int cc), .val (.int (1 : Int32))] []))
  refine X0.iloadN d_2_0 rfl ?_
  refine X0.ifYes (pc0 := 1) (pc' := 38) rfl d_2_1 rfl (XT.i0_ne_t (by decide)) (by decide) (by decide) ?_
  refine X0.iloadN d_2_38 rfl ?_
  refine X0.iconst d_2_39 ?_
  refine X0.icmpNo d_2_40 rfl (XT.ii_ne_f (by decide)) ?_
  refine X0.iload d_2_43 rfl ?_
  refine X0.ifNo d_2_45 rfl (XT.i0_eq_f (by decide)) ?_
  obtain ⟨T1, h1, b1, g_b1, X1, E1, A1, D1, st1⟩ := X0.new (hw _ (gm 35 rfl)) (hw _ (gm 36 rfl)) (hw _ (gm 23 rfl)) (g := (mkF m 48 #[.val (.int (1 : Int32)), .val (.int ca), .val (.int cb), .val (.int cc), .val (.int (1 : Int32))] [])) rfl d_2_48 (by decide) (by decide)
  refine Go.by st1 ?_
  have sz_b1 := Nat.le_trans X0.sz (Nat.le_of_eq g_b1.symm)
  have K0_h1 := (Keep.refl h0 []).ext E1
  have F1_value : Fld Z h1 b1 "java/lang/String" "value" "[B" .null := D1 (Or.inr (hw _ (gm 47 rfl))) (ty := (.array .byte)) (by decide)
  have F1_coder : Fld Z h1 b1 "java/lang/String" "coder" "B" (.int (0 : Int32)) := D1 (Or.inr (hw _ (gm 48 rfl))) (ty := .byte) (by decide)
  refine X1.dup d_2_51 rfl rfl ?_
  refine X1.iconst d_2_52 ?_
  have lt_b1_2 := (X1.lt (.head _))
  obtain ⟨T2, h2, b2, k2, g_b2, X2, E2, A2, st2⟩ := X1.newP (hw _ (gm 37 rfl)) (g := (mkF m 53 #[.val (.int (1 : Int32)), .val (.int ca), .val (.int cb), .val (.int cc), .val (.int (1 : Int32))] [(.int (2 : Int32)), (.ref b1), (.ref b1)])) rfl d_2_53 rfl (by decide) (cap := 2) (by decide) (by decide) (by decide) (by decide) (vs := [(.int (0 : Int32)), (.int (0 : Int32))]) rfl
  refine Go.by st2 ?_
  have ne_b1_b2 := ne_new lt_b1_2 g_b2
  have sz_b2 := Nat.le_trans X1.sz (Nat.le_of_eq g_b2.symm)
  have K0_h2 := K0_h1.ext E2
  have F2 : Arv Z h2 b2 k2 .char (2 : Int32) [(.int (0 : Int32)), (.int (0 : Int32))] (.int (0 : Int32)) := A2
  refine X2.dup d_2_55 rfl rfl ?_
  show Go _ _ _ _ (T2.setTop (mkF m 56 #[.val (.int (1 : Int32)), .val (.int ca), .val (.int cb), .val (.int cc), .val (.int (1 : Int32))] [(.ref b2), (.ref b2), (.ref b1), (.ref b1)]))
  refine X2.iconst d_2_56 ?_
  refine X2.iloadN d_2_57 rfl ?_
  obtain ⟨T3, h3, X3, W3, A3, st3⟩ := X2.stC (x' := ca) F2 (.head _) ⟨by decide, by decide⟩ (i := 0) rfl (Nat.le_of_ble_eq_true rfl) (own_nar16 hca) (vs' := [(.int ca), (.int (0 : Int32))]) rfl (g := (mkF m 58 #[.val (.int (1 : Int32)), .val (.int ca), .val (.int cb), .val (.int cc), .val (.int (1 : Int32))] [(.int ca), (.int (0 : Int32)), (.ref b2), (.ref b2), (.ref b1), (.ref b1)])) rfl rfl d_2_58
  refine Go.by st3 ?_
  have K0_h3 := K0_h2.trans W3 (allS (Or.inr sz_b2) all0)
  refine X3.dup d_2_59 rfl rfl ?_
  refine X3.iconst d_2_60 ?_
  refine X3.bipush d_2_61 ?_
  obtain ⟨T4, h4, X4, W4, A4, st4⟩ := X3.stC (x' := (62 : Int32)) A3 (.head _) ⟨by decide, by decide⟩ (i := 1) rfl (Nat.le_of_ble_eq_true rfl) rfl (vs' := [(.int ca), (.int (62 : Int32))]) rfl (g := (mkF m 63 #[.val (.int (1 : Int32)), .val (.int ca), .val (.int cb), .val (.int cc), .val (.int (1 : Int32))] [(.int (62 : Int32)), (.int (1 : Int32)), (.ref b2), (.ref b2), (.ref b1), (.ref b1)])) rfl rfl d_2_63
  refine Go.by st4 ?_
  have K0_h4 := K0_h3.trans W4 (allS (Or.inr sz_b2) all0)
  have f5 := ((A1.ext E2).keep W3).keep W4
  have f6 := ((F1_value.ext E2).keep W3 (ninS ne_b1_b2 nin0)).keep W4 (ninS ne_b1_b2 nin0)
  have f7 := ((F1_coder.ext E2).keep W3 (ninS ne_b1_b2 nin0)).keep W4 (ninS ne_b1_b2 nin0)
  obtain ⟨_, T8, h8, XX8, K8, ⟨t_8, rfl, fr_t_8, fl_t_8, P8_0⟩, st8⟩ := X4.spX (W := 1) rfl (hw _ (gm 38 rfl)) (hw _ (gm 39 rfl)) (hw _ (gm 40 rfl)) (by decide) ((ru_ni1 l Z a0 hw n0 b1 b2 k2 [ca, (62 : Int32)] .null (.int (0 : Int32)) zc h4 X4.old f5 f6 f7 A4 Sc nc Sa Su Sv (all1 hca (all1 ⟨by decide, by decide⟩ alln)) (Nat.le_of_ble_eq_true rfl) (Nat.le_of_ble_eq_true rfl) ne_b1_b2.symm (X4.ge (.tail _ (.head _))) (X4.lt (.tail _ (.head _)))).pay (hw _ (gm 40 rfl)) (hw _ (gm 23 rfl)) (by decide) (by decide)) (allS (.tail _ (.head _)) all0) (g := (mkF m 64 #[.val (.int (1 : Int32)), .val (.int ca), .val (.int cb), .val (.int cc), .val (.int (1 : Int32))] [(.ref b2), (.ref b1), (.ref b1)])) rfl rfl (a := b1) (argsL := [(.ref b2)]) (rest := [(.ref b1)]) (lenOf pd_34 rfl) rfl (by exact Nat.le_of_eq rfl) d_2_64 rfl (by decide) (by decide)
  refine Go.tr st8 ?_
  have X8 := XX8 [t_8] (allS (Or.inr ⟨fr_t_8, fl_t_8⟩) all0)
  have K0_h8 := K0_h4.trans K8 (allS (Or.inr sz_b1) all0)
  have sz_t_8 := Nat.le_trans X4.sz fr_t_8
  refine X8.goto (pc0 := 67) (pc' := 84) rfl d_2_67 (by decide) (by decide) ?_
  exact X8.retR rfl rfl d_2_84 K0_h8 ⟨b1, t_8, rfl, sz_b1, (X8.lt (.tail _ (.tail _ (.head _)))), sz_t_8, (X8.lt (.head _)), P8_0⟩ (by decide) (by decide)
def Q_rh_str20 (Z : State) (ca : Int32) (cb : Int32) (cc : Int32) (zc : Int32) (h0 : Heap) (ov : Option Value) (hz : Heap) : Prop := ∃ (x : Addr), ∃ (t : Addr), ov = some (.ref x) ∧ h0.size ≤ x ∧ x < hz.size ∧ h0.size ≤ t ∧ t < hz.size ∧ Str Z hz x t [ca, cb]
theorem d_2_85 : decode method_2_code 85 = .ok (.iload_n 0, 1) := by decide +kernel
theorem d_2_86 : decode method_2_code 86 = .ok (.iconst 2, 1) := by decide +kernel
theorem d_2_87 : decode method_2_code 87 = .ok (.if_icmp .ne 53, 3) := by decide +kernel
theorem d_2_90 : decode method_2_code 90 = .ok (.iload 4, 2) := by decide +kernel
theorem d_2_92 : decode method_2_code 92 = .ok (.ifCond .eq 29, 3) := by decide +kernel
theorem d_2_121 : decode method_2_code 121 = .ok (.new 7, 3) := by decide +kernel
theorem d_2_124 : decode method_2_code 124 = .ok (.dup, 1) := by decide +kernel
theorem d_2_125 : decode method_2_code 125 = .ok (.iconst 2, 1) := by decide +kernel
theorem d_2_126 : decode method_2_code 126 = .ok (.newarray .char, 2) := by decide +kernel
theorem d_2_128 : decode method_2_code 128 = .ok (.dup, 1) := by decide +kernel
theorem d_2_129 : decode method_2_code 129 = .ok (.iconst 0, 1) := by decide +kernel
theorem d_2_130 : decode method_2_code 130 = .ok (.iload_n 1, 1) := by decide +kernel
theorem d_2_131 : decode method_2_code 131 = .ok (.castore, 1) := by decide +kernel
theorem d_2_132 : decode method_2_code 132 = .ok (.dup, 1) := by decide +kernel
theorem d_2_133 : decode method_2_code 133 = .ok (.iconst 1, 1) := by decide +kernel
theorem d_2_134 : decode method_2_code 134 = .ok (.iload_n 2, 1) := by decide +kernel
theorem d_2_135 : decode method_2_code 135 = .ok (.castore, 1) := by decide +kernel
theorem d_2_136 : decode method_2_code 136 = .ok (.invokespecial 9, 3) := by decide +kernel
theorem d_2_139 : decode method_2_code 139 = .ok (.areturn, 1) := by decide +kernel
abbrev RM_rh_str20 : Room := { frames := 6, cells := 4, slots := 18, locals := 88 }
theorem rh_str20 (l : Launch) (Z : State) (a0 : Array Value) (hw : ∀ d ∈ tables_1, d.before a0 Z = true) (n0 : Nat) (ca : Int32) (cb : Int32) (cc : Int32) (zc : Int32) (h0 : Heap) (hO : Old Z n0 h0) (Sc : SC Z zc) (nc : ¬ (zc = (0 : Int32))) (Sa : SA1 Z) (Su : SU1 Z) (Sv : SV1 Z) (hca : ¬ ca < 0 ∧ ¬ (65535 : Int32) < ca) (hcb : ¬ cb < 0 ∧ ¬ (65535 : Int32) < cb) (hcc : ¬ cc < 0 ∧ ¬ (65535 : Int32) < cc) :
    Ct l (⟨"com/example/suricate/suricate/component/HtmlWriterCloseStartTagPinLaw", "str", "(ICCCZ)Ljava/lang/String;"⟩ : MethodName) method_2_code 5 (some (.object "java/lang/String")) [] RM_rh_str20 Z n0 #[(.int (2 : Int32)), (.int ca), (.int cb), (.int cc), (.int (0 : Int32))] h0 [] (Q_rh_str20 Z ca cb cc zc h0) := by
  refine Ct.of_walk (plainFor_of_name pn_8) hO all0 ?_
  intro p e s m below meth c T0 X0
  rw [ef_IIIII5 m (2 : Int32) ca cb cc (0 : Int32)]
  show Go _ _ _ _ (T0.setTop (mkF m 0 #[.val (.int (2 : Int32)), .val (.int ca), .val (.int cb), .val (.int cc), .val (.int (0 : Int32))] []))
  refine X0.iloadN d_2_0 rfl ?_
  refine X0.ifYes (pc0 := 1) (pc' := 38) rfl d_2_1 rfl (XT.i0_ne_t (by decide)) (by decide) (by decide) ?_
  refine X0.iloadN d_2_38 rfl ?_
  refine X0.iconst d_2_39 ?_
  refine X0.icmpYes (pc0 := 40) (pc' := 85) rfl d_2_40 rfl (XT.ii_ne_t (by decide)) (by decide) (by decide) ?_
  refine X0.iloadN d_2_85 rfl ?_
  refine X0.iconst d_2_86 ?_
  refine X0.icmpNo d_2_87 rfl (XT.ii_ne_f (by decide)) ?_
  refine X0.iload d_2_90 rfl ?_
  refine X0.ifYes (pc0 := 92) (pc' := 121) rfl d_2_92 rfl (XT.i0_eq_t (by decide)) (by decide) (by decide) ?_
  obtain ⟨T1, h1, b1, g_b1, X1, E1, A1, D1, st1⟩ := X0.new (hw _ (gm 35 rfl)) (hw _ (gm 36 rfl)) (hw _ (gm 23 rfl)) (g := (mkF m 121 #[.val (.int (2 : Int32)), .val (.int ca), .val (.int cb), .val (.int cc), .val (.int (0 : Int32))] [])) rfl d_2_121 (by decide) (by decide)
  refine Go.by st1 ?_
  have sz_b1 := Nat.le_trans X0.sz (Nat.le_of_eq g_b1.symm)
  have K0_h1 := (Keep.refl h0 []).ext E1
  have F1_value : Fld Z h1 b1 "java/lang/String" "value" "[B" .null := D1 (Or.inr (hw _ (gm 47 rfl))) (ty := (.array .byte)) (by decide)
  have F1_coder : Fld Z h1 b1 "java/lang/String" "coder" "B" (.int (0 : Int32)) := D1 (Or.inr (hw _ (gm 48 rfl))) (ty := .byte) (by decide)
  refine X1.dup d_2_124 rfl rfl ?_
  show Go _ _ _ _ (T1.setTop (mkF m 125 #[.val (.int (2 : Int32)), .val (.int ca), .val (.int cb), .val (.int cc), .val (.int (0 : Int32))] [(.ref b1), (.ref b1)]))
  refine X1.iconst d_2_125 ?_
  have lt_b1_2 := (X1.lt (.head _))
  obtain ⟨T2, h2, b2, k2, g_b2, X2, E2, A2, st2⟩ := X1.newP (hw _ (gm 37 rfl)) (g := (mkF m 126 #[.val (.int (2 : Int32)), .val (.int ca), .val (.int cb), .val (.int cc), .val (.int (0 : Int32))] [(.int (2 : Int32)), (.ref b1), (.ref b1)])) rfl d_2_126 rfl (by decide) (cap := 2) (by decide) (by decide) (by decide) (by decide) (vs := [(.int (0 : Int32)), (.int (0 : Int32))]) rfl
  refine Go.by st2 ?_
  have ne_b1_b2 := ne_new lt_b1_2 g_b2
  have sz_b2 := Nat.le_trans X1.sz (Nat.le_of_eq g_b2.symm)
  have K0_h2 := K0_h1.ext E2
  have F2 : Arv Z h2 b2 k2 .char (2 : Int32) [(.int (0 : Int32)), (.int (0 : Int32))] (.int (0 : Int32)) := A2
  refine X2.dup d_2_128 rfl rfl ?_
  refine X2.iconst d_2_129 ?_
  refine X2.iloadN d_2_130 rfl ?_
  obtain ⟨T3, h3, X3, W3, A3, st3⟩ := X2.stC (x' := ca) F2 (.head _) ⟨by decide, by decide⟩ (i := 0) rfl (Nat.le_of_ble_eq_true rfl) (own_nar16 hca) (vs' := [(.int ca), (.int (0 : Int32))]) rfl (g := (mkF m 131 #[.val (.int (2 : Int32)), .val (.int ca), .val (.int cb), .val (.int cc), .val (.int (0 : Int32))] [(.int ca), (.int (0 : Int32)), (.ref b2), (.ref b2), (.ref b1), (.ref b1)])) rfl rfl d_2_131
  refine Go.by st3 ?_
  have K0_h3 := K0_h2.trans W3 (allS (Or.inr sz_b2) all0)
  refine X3.dup d_2_132 rfl rfl ?_
  refine X3.iconst d_2_133 ?_
  refine X3.iloadN d_2_134 rfl ?_
  obtain ⟨T4, h4, X4, W4, A4, st4⟩ := X3.stC (x' := cb) A3 (.head _) ⟨by decide, by decide⟩ (i := 1) rfl (Nat.le_of_ble_eq_true rfl) (own_nar16 hcb) (vs' := [(.int ca), (.int cb)]) rfl (g := (mkF m 135 #[.val (.int (2 : Int32)), .val (.int ca), .val (.int cb), .val (.int cc), .val (.int (0 : Int32))] [(.int cb), (.int (1 : Int32)), (.ref b2), (.ref b2), (.ref b1), (.ref b1)])) rfl rfl d_2_135
  refine Go.by st4 ?_
  have K0_h4 := K0_h3.trans W4 (allS (Or.inr sz_b2) all0)
  have f5 := ((A1.ext E2).keep W3).keep W4
  have f6 := ((F1_value.ext E2).keep W3 (ninS ne_b1_b2 nin0)).keep W4 (ninS ne_b1_b2 nin0)
  have f7 := ((F1_coder.ext E2).keep W3 (ninS ne_b1_b2 nin0)).keep W4 (ninS ne_b1_b2 nin0)
  obtain ⟨_, T8, h8, XX8, K8, ⟨t_8, rfl, fr_t_8, fl_t_8, P8_0⟩, st8⟩ := X4.spX (W := 1) rfl (hw _ (gm 38 rfl)) (hw _ (gm 39 rfl)) (hw _ (gm 40 rfl)) (by decide) ((ru_ni1 l Z a0 hw n0 b1 b2 k2 [ca, cb] .null (.int (0 : Int32)) zc h4 X4.old f5 f6 f7 A4 Sc nc Sa Su Sv (all1 hca (all1 hcb alln)) (Nat.le_of_ble_eq_true rfl) (Nat.le_of_ble_eq_true rfl) ne_b1_b2.symm (X4.ge (.tail _ (.head _))) (X4.lt (.tail _ (.head _)))).pay (hw _ (gm 40 rfl)) (hw _ (gm 23 rfl)) (by decide) (by decide)) (allS (.tail _ (.head _)) all0) (g := (mkF m 136 #[.val (.int (2 : Int32)), .val (.int ca), .val (.int cb), .val (.int cc), .val (.int (0 : Int32))] [(.ref b2), (.ref b1), (.ref b1)])) rfl rfl (a := b1) (argsL := [(.ref b2)]) (rest := [(.ref b1)]) (lenOf pd_34 rfl) rfl (by exact Nat.le_of_eq rfl) d_2_136 rfl (by decide) (by decide)
  refine Go.tr st8 ?_
  have X8 := XX8 [t_8] (allS (Or.inr ⟨fr_t_8, fl_t_8⟩) all0)
  have K0_h8 := K0_h4.trans K8 (allS (Or.inr sz_b1) all0)
  have sz_t_8 := Nat.le_trans X4.sz fr_t_8
  exact X8.retR rfl rfl d_2_139 K0_h8 ⟨b1, t_8, rfl, sz_b1, (X8.lt (.tail _ (.tail _ (.head _)))), sz_t_8, (X8.lt (.head _)), P8_0⟩ (by decide) (by decide)
def Q_rh_str21 (Z : State) (ca : Int32) (cb : Int32) (cc : Int32) (zc : Int32) (h0 : Heap) (ov : Option Value) (hz : Heap) : Prop := ∃ (x : Addr), ∃ (t : Addr), ov = some (.ref x) ∧ h0.size ≤ x ∧ x < hz.size ∧ h0.size ≤ t ∧ t < hz.size ∧ Str Z hz x t [ca, cb, (62 : Int32)]
theorem d_2_95 : decode method_2_code 95 = .ok (.new 7, 3) := by decide +kernel
theorem d_2_98 : decode method_2_code 98 = .ok (.dup, 1) := by decide +kernel
theorem d_2_99 : decode method_2_code 99 = .ok (.iconst 3, 1) := by decide +kernel
theorem d_2_100 : decode method_2_code 100 = .ok (.newarray .char, 2) := by decide +kernel
theorem d_2_102 : decode method_2_code 102 = .ok (.dup, 1) := by decide +kernel
theorem d_2_103 : decode method_2_code 103 = .ok (.iconst 0, 1) := by decide +kernel
theorem d_2_104 : decode method_2_code 104 = .ok (.iload_n 1, 1) := by decide +kernel
theorem d_2_105 : decode method_2_code 105 = .ok (.castore, 1) := by decide +kernel
theorem d_2_106 : decode method_2_code 106 = .ok (.dup, 1) := by decide +kernel
theorem d_2_107 : decode method_2_code 107 = .ok (.iconst 1, 1) := by decide +kernel
theorem d_2_108 : decode method_2_code 108 = .ok (.iload_n 2, 1) := by decide +kernel
theorem d_2_109 : decode method_2_code 109 = .ok (.castore, 1) := by decide +kernel
theorem d_2_110 : decode method_2_code 110 = .ok (.dup, 1) := by decide +kernel
theorem d_2_111 : decode method_2_code 111 = .ok (.iconst 2, 1) := by decide +kernel
theorem d_2_112 : decode method_2_code 112 = .ok (.bipush 62, 2) := by decide +kernel
theorem d_2_114 : decode method_2_code 114 = .ok (.castore, 1) := by decide +kernel
theorem d_2_115 : decode method_2_code 115 = .ok (.invokespecial 9, 3) := by decide +kernel
theorem d_2_118 : decode method_2_code 118 = .ok (.goto 21, 3) := by decide +kernel
abbrev RM_rh_str21 : Room := { frames := 6, cells := 4, slots := 19, locals := 88 }
theorem rh_str21 (l : Launch) (Z : State) (a0 : Array Value) (hw : ∀ d ∈ tables_1, d.before a0 Z = true) (n0 : Nat) (ca : Int32) (cb : Int32) (cc : Int32) (zc : Int32) (h0 : Heap) (hO : Old Z n0 h0) (Sc : SC Z zc) (nc : ¬ (zc = (0 : Int32))) (Sa : SA1 Z) (Su : SU1 Z) (Sv : SV1 Z) (hca : ¬ ca < 0 ∧ ¬ (65535 : Int32) < ca) (hcb : ¬ cb < 0 ∧ ¬ (65535 : Int32) < cb) (hcc : ¬ cc < 0 ∧ ¬ (65535 : Int32) < cc) :
    Ct l (⟨"com/example/suricate/suricate/component/HtmlWriterCloseStartTagPinLaw", "str", "(ICCCZ)Ljava/lang/String;"⟩ : MethodName) method_2_code 5 (some (.object "java/lang/String")) [] RM_rh_str21 Z n0 #[(.int (2 : Int32)), (.int ca), (.int cb), (.int cc), (.int (1 : Int32))] h0 [] (Q_rh_str21 Z ca cb cc zc h0) := by
  refine Ct.of_walk (plainFor_of_name pn_8) hO all0 ?_
  intro p e s m below meth c T0 X0
  rw [ef_IIIII5 m (2 : Int32) ca cb cc (1 : Int32)]
  show Go _ _ _ _ (T0.setTop (mkF m 0 #[.val (.int (2 : Int32)), .val (.int ca), .val (.int cb), .val (.int cc), .val (.int (1 : Int32))] []))
  refine X0.iloadN d_2_0 rfl ?_
  refine X0.ifYes (pc0 := 1) (pc' := 38) rfl d_2_1 rfl (XT.i0_ne_t (by decide)) (by decide) (by decide) ?_
  refine X0.iloadN d_2_38 rfl ?_
  refine X0.iconst d_2_39 ?_
  refine X0.icmpYes (pc0 := 40) (pc' := 85) rfl d_2_40 rfl (XT.ii_ne_t (by decide)) (by decide) (by decide) ?_
  refine X0.iloadN d_2_85 rfl ?_
  refine X0.iconst d_2_86 ?_
  refine X0.icmpNo d_2_87 rfl (XT.ii_ne_f (by decide)) ?_
  refine X0.iload d_2_90 rfl ?_
  refine X0.ifNo d_2_92 rfl (XT.i0_eq_f (by decide)) ?_
  obtain ⟨T1, h1, b1, g_b1, X1, E1, A1, D1, st1⟩ := X0.new (hw _ (gm 35 rfl)) (hw _ (gm 36 rfl)) (hw _ (gm 23 rfl)) (g := (mkF m 95 #[.val (.int (2 : Int32)), .val (.int ca), .val (.int cb), .val (.int cc), .val (.int (1 : Int32))] [])) rfl d_2_95 (by decide) (by decide)
  refine Go.by st1 ?_
  have sz_b1 := Nat.le_trans X0.sz (Nat.le_of_eq g_b1.symm)
  have K0_h1 := (Keep.refl h0 []).ext E1
  have F1_value : Fld Z h1 b1 "java/lang/String" "value" "[B" .null := D1 (Or.inr (hw _ (gm 47 rfl))) (ty := (.array .byte)) (by decide)
  have F1_coder : Fld Z h1 b1 "java/lang/String" "coder" "B" (.int (0 : Int32)) := D1 (Or.inr (hw _ (gm 48 rfl))) (ty := .byte) (by decide)
  refine X1.dup d_2_98 rfl rfl ?_
  show Go _ _ _ _ (T1.setTop (mkF m 99 #[.val (.int (2 : Int32)), .val (.int ca), .val (.int cb), .val (.int cc), .val (.int (1 : Int32))] [(.ref b1), (.ref b1)]))
  refine X1.iconst d_2_99 ?_
  have lt_b1_2 := (X1.lt (.head _))
  obtain ⟨T2, h2, b2, k2, g_b2, X2, E2, A2, st2⟩ := X1.newP (hw _ (gm 37 rfl)) (g := (mkF m 100 #[.val (.int (2 : Int32)), .val (.int ca), .val (.int cb), .val (.int cc), .val (.int (1 : Int32))] [(.int (3 : Int32)), (.ref b1), (.ref b1)])) rfl d_2_100 rfl (by decide) (cap := 3) (by decide) (by decide) (by decide) (by decide) (vs := [(.int (0 : Int32)), (.int (0 : Int32)), (.int (0 : Int32))]) rfl
  refine Go.by st2 ?_
  have ne_b1_b2 := ne_new lt_b1_2 g_b2
  have sz_b2 := Nat.le_trans X1.sz (Nat.le_of_eq g_b2.symm)
  have K0_h2 := K0_h1.ext E2
  have F2 : Arv Z h2 b2 k2 .char (3 : Int32) [(.int (0 : Int32)), (.int (0 : Int32)), (.int (0 : Int32))] (.int (0 : Int32)) := A2
  refine X2.dup d_2_102 rfl rfl ?_
  refine X2.iconst d_2_103 ?_
  refine X2.iloadN d_2_104 rfl ?_
  obtain ⟨T3, h3, X3, W3, A3, st3⟩ := X2.stC (x' := ca) F2 (.head _) ⟨by decide, by decide⟩ (i := 0) rfl (Nat.le_of_ble_eq_true rfl) (own_nar16 hca) (vs' := [(.int ca), (.int (0 : Int32)), (.int (0 : Int32))]) rfl (g := (mkF m 105 #[.val (.int (2 : Int32)), .val (.int ca), .val (.int cb), .val (.int cc), .val (.int (1 : Int32))] [(.int ca), (.int (0 : Int32)), (.ref b2), (.ref b2), (.ref b1), (.ref b1)])) rfl rfl d_2_105
  refine Go.by st3 ?_
  have K0_h3 := K0_h2.trans W3 (allS (Or.inr sz_b2) all0)
  refine X3.dup d_2_106 rfl rfl ?_
  refine X3.iconst d_2_107 ?_
  refine X3.iloadN d_2_108 rfl ?_
  obtain ⟨T4, h4, X4, W4, A4, st4⟩ := X3.stC (x' := cb) A3 (.head _) ⟨by decide, by decide⟩ (i := 1) rfl (Nat.le_of_ble_eq_true rfl) (own_nar16 hcb) (vs' := [(.int ca), (.int cb), (.int (0 : Int32))]) rfl (g := (mkF m 109 #[.val (.int (2 : Int32)), .val (.int ca), .val (.int cb), .val (.int cc), .val (.int (1 : Int32))] [(.int cb), (.int (1 : Int32)), (.ref b2), (.ref b2), (.ref b1), (.ref b1)])) rfl rfl d_2_109
  refine Go.by st4 ?_
  have K0_h4 := K0_h3.trans W4 (allS (Or.inr sz_b2) all0)
  refine X4.dup d_2_110 rfl rfl ?_
  refine X4.iconst d_2_111 ?_
  show Go _ _ _ _ (T4.setTop (mkF m 112 #[.val (.int (2 : Int32)), .val (.int ca), .val (.int cb), .val (.int cc), .val (.int (1 : Int32))] [(.int (2 : Int32)), (.ref b2), (.ref b2), (.ref b1), (.ref b1)]))
  refine X4.bipush d_2_112 ?_
  obtain ⟨T5, h5, X5, W5, A5, st5⟩ := X4.stC (x' := (62 : Int32)) A4 (.head _) ⟨by decide, by decide⟩ (i := 2) rfl (Nat.le_of_ble_eq_true rfl) rfl (vs' := [(.int ca), (.int cb), (.int (62 : Int32))]) rfl (g := (mkF m 114 #[.val (.int (2 : Int32)), .val (.int ca), .val (.int cb), .val (.int cc), .val (.int (1 : Int32))] [(.int (62 : Int32)), (.int (2 : Int32)), (.ref b2), (.ref b2), (.ref b1), (.ref b1)])) rfl rfl d_2_114
  refine Go.by st5 ?_
  have K0_h5 := K0_h4.trans W5 (allS (Or.inr sz_b2) all0)
  have f6 := (((A1.ext E2).keep W3).keep W4).keep W5
  have f7 := (((F1_value.ext E2).keep W3 (ninS ne_b1_b2 nin0)).keep W4 (ninS ne_b1_b2 nin0)).keep W5 (ninS ne_b1_b2 nin0)
  have f8 := (((F1_coder.ext E2).keep W3 (ninS ne_b1_b2 nin0)).keep W4 (ninS ne_b1_b2 nin0)).keep W5 (ninS ne_b1_b2 nin0)
  obtain ⟨_, T9, h9, XX9, K9, ⟨t_9, rfl, fr_t_9, fl_t_9, P9_0⟩, st9⟩ := X5.spX (W := 1) rfl (hw _ (gm 38 rfl)) (hw _ (gm 39 rfl)) (hw _ (gm 40 rfl)) (by decide) ((ru_ni1 l Z a0 hw n0 b1 b2 k2 [ca, cb, (62 : Int32)] .null (.int (0 : Int32)) zc h5 X5.old f6 f7 f8 A5 Sc nc Sa Su Sv (all1 hca (all1 hcb (all1 ⟨by decide, by decide⟩ alln))) (Nat.le_of_ble_eq_true rfl) (Nat.le_of_ble_eq_true rfl) ne_b1_b2.symm (X5.ge (.tail _ (.head _))) (X5.lt (.tail _ (.head _)))).pay (hw _ (gm 40 rfl)) (hw _ (gm 23 rfl)) (by decide) (by decide)) (allS (.tail _ (.head _)) all0) (g := (mkF m 115 #[.val (.int (2 : Int32)), .val (.int ca), .val (.int cb), .val (.int cc), .val (.int (1 : Int32))] [(.ref b2), (.ref b1), (.ref b1)])) rfl rfl (a := b1) (argsL := [(.ref b2)]) (rest := [(.ref b1)]) (lenOf pd_34 rfl) rfl (by exact Nat.le_of_eq rfl) d_2_115 rfl (by decide) (by decide)
  refine Go.tr st9 ?_
  have X9 := XX9 [t_9] (allS (Or.inr ⟨fr_t_9, fl_t_9⟩) all0)
  have K0_h9 := K0_h5.trans K9 (allS (Or.inr sz_b1) all0)
  have sz_t_9 := Nat.le_trans X5.sz fr_t_9
  refine X9.goto (pc0 := 118) (pc' := 139) rfl d_2_118 (by decide) (by decide) ?_
  exact X9.retR rfl rfl d_2_139 K0_h9 ⟨b1, t_9, rfl, sz_b1, (X9.lt (.tail _ (.tail _ (.head _)))), sz_t_9, (X9.lt (.head _)), P9_0⟩ (by decide) (by decide)
def Q_rh_str30 (Z : State) (ca : Int32) (cb : Int32) (cc : Int32) (zc : Int32) (h0 : Heap) (ov : Option Value) (hz : Heap) : Prop := ∃ (x : Addr), ∃ (t : Addr), ov = some (.ref x) ∧ h0.size ≤ x ∧ x < hz.size ∧ h0.size ≤ t ∧ t < hz.size ∧ Str Z hz x t [ca, cb, cc]
theorem d_2_140 : decode method_2_code 140 = .ok (.iload 4, 2) := by decide +kernel
theorem d_2_142 : decode method_2_code 142 = .ok (.ifCond .eq 33, 3) := by decide +kernel
theorem d_2_175 : decode method_2_code 175 = .ok (.new 7, 3) := by decide +kernel
theorem d_2_178 : decode method_2_code 178 = .ok (.dup, 1) := by decide +kernel
theorem d_2_179 : decode method_2_code 179 = .ok (.iconst 3, 1) := by decide +kernel
theorem d_2_180 : decode method_2_code 180 = .ok (.newarray .char, 2) := by decide +kernel
theorem d_2_182 : decode method_2_code 182 = .ok (.dup, 1) := by decide +kernel
theorem d_2_183 : decode method_2_code 183 = .ok (.iconst 0, 1) := by decide +kernel
theorem d_2_184 : decode method_2_code 184 = .ok (.iload_n 1, 1) := by decide +kernel
theorem d_2_185 : decode method_2_code 185 = .ok (.castore, 1) := by decide +kernel
theorem d_2_186 : decode method_2_code 186 = .ok (.dup, 1) := by decide +kernel
theorem d_2_187 : decode method_2_code 187 = .ok (.iconst 1, 1) := by decide +kernel
theorem d_2_188 : decode method_2_code 188 = .ok (.iload_n 2, 1) := by decide +kernel
theorem d_2_189 : decode method_2_code 189 = .ok (.castore, 1) := by decide +kernel
theorem d_2_190 : decode method_2_code 190 = .ok (.dup, 1) := by decide +kernel
theorem d_2_191 : decode method_2_code 191 = .ok (.iconst 2, 1) := by decide +kernel
theorem d_2_192 : decode method_2_code 192 = .ok (.iload_n 3, 1) := by decide +kernel
theorem d_2_193 : decode method_2_code 193 = .ok (.castore, 1) := by decide +kernel
theorem d_2_194 : decode method_2_code 194 = .ok (.invokespecial 9, 3) := by decide +kernel
theorem d_2_197 : decode method_2_code 197 = .ok (.areturn, 1) := by decide +kernel
abbrev RM_rh_str30 : Room := { frames := 6, cells := 4, slots := 19, locals := 88 }
theorem rh_str30 (l : Launch) (Z : State) (a0 : Array Value) (hw : ∀ d ∈ tables_1, d.before a0 Z = true) (n0 : Nat) (ca : Int32) (cb : Int32) (cc : Int32) (zc : Int32) (h0 : Heap) (hO : Old Z n0 h0) (Sc : SC Z zc) (nc : ¬ (zc = (0 : Int32))) (Sa : SA1 Z) (Su : SU1 Z) (Sv : SV1 Z) (hca : ¬ ca < 0 ∧ ¬ (65535 : Int32) < ca) (hcb : ¬ cb < 0 ∧ ¬ (65535 : Int32) < cb) (hcc : ¬ cc < 0 ∧ ¬ (65535 : Int32) < cc) :
    Ct l (⟨"com/example/suricate/suricate/component/HtmlWriterCloseStartTagPinLaw", "str", "(ICCCZ)Ljava/lang/String;"⟩ : MethodName) method_2_code 5 (some (.object "java/lang/String")) [] RM_rh_str30 Z n0 #[(.int (3 : Int32)), (.int ca), (.int cb), (.int cc), (.int (0 : Int32))] h0 [] (Q_rh_str30 Z ca cb cc zc h0) := by
  refine Ct.of_walk (plainFor_of_name pn_8) hO all0 ?_
  intro p e s m below meth c T0 X0
  rw [ef_IIIII5 m (3 : Int32) ca cb cc (0 : Int32)]
  show Go _ _ _ _ (T0.setTop (mkF m 0 #[.val (.int (3 : Int32)), .val (.int ca), .val (.int cb), .val (.int cc), .val (.int (0 : Int32))] []))
  refine X0.iloadN d_2_0 rfl ?_
  refine X0.ifYes (pc0 := 1) (pc' := 38) rfl d_2_1 rfl (XT.i0_ne_t (by decide)) (by decide) (by decide) ?_
  refine X0.iloadN d_2_38 rfl ?_
  refine X0.iconst d_2_39 ?_
  refine X0.icmpYes (pc0 := 40) (pc' := 85) rfl d_2_40 rfl (XT.ii_ne_t (by decide)) (by decide) (by decide) ?_
  refine X0.iloadN d_2_85 rfl ?_
  refine X0.iconst d_2_86 ?_
  refine X0.icmpYes (pc0 := 87) (pc' := 140) rfl d_2_87 rfl (XT.ii_ne_t (by decide)) (by decide) (by decide) ?_
  refine X0.iload d_2_140 rfl ?_
  refine X0.ifYes (pc0 := 142) (pc' := 175) rfl d_2_142 rfl (XT.i0_eq_t (by decide)) (by decide) (by decide) ?_
  obtain ⟨T1, h1, b1, g_b1, X1, E1, A1, D1, st1⟩ := X0.new (hw _ (gm 35 rfl)) (hw _ (gm 36 rfl)) (hw _ (gm 23 rfl)) (g := (mkF m 175 #[.val (.int (3 : Int32)), .val (.int ca), .val (.int cb), .val (.int cc), .val (.int (0 : Int32))] [])) rfl d_2_175 (by decide) (by decide)
  refine Go.by st1 ?_
  have sz_b1 := Nat.le_trans X0.sz (Nat.le_of_eq g_b1.symm)
  have K0_h1 := (Keep.refl h0 []).ext E1
  have F1_value : Fld Z h1 b1 "java/lang/String" "value" "[B" .null := D1 (Or.inr (hw _ (gm 47 rfl))) (ty := (.array .byte)) (by decide)
  have F1_coder : Fld Z h1 b1 "java/lang/String" "coder" "B" (.int (0 : Int32)) := D1 (Or.inr (hw _ (gm 48 rfl))) (ty := .byte) (by decide)
  refine X1.dup d_2_178 rfl rfl ?_
  show Go _ _ _ _ (T1.setTop (mkF m 179 #[.val (.int (3 : Int32)), .val (.int ca), .val (.int cb), .val (.int cc), .val (.int (0 : Int32))] [(.ref b1), (.ref b1)]))
  refine X1.iconst d_2_179 ?_
  have lt_b1_2 := (X1.lt (.head _))
  obtain ⟨T2, h2, b2, k2, g_b2, X2, E2, A2, st2⟩ := X1.newP (hw _ (gm 37 rfl)) (g := (mkF m 180 #[.val (.int (3 : Int32)), .val (.int ca), .val (.int cb), .val (.int cc), .val (.int (0 : Int32))] [(.int (3 : Int32)), (.ref b1), (.ref b1)])) rfl d_2_180 rfl (by decide) (cap := 3) (by decide) (by decide) (by decide) (by decide) (vs := [(.int (0 : Int32)), (.int (0 : Int32)), (.int (0 : Int32))]) rfl
  refine Go.by st2 ?_
  have ne_b1_b2 := ne_new lt_b1_2 g_b2
  have sz_b2 := Nat.le_trans X1.sz (Nat.le_of_eq g_b2.symm)
  have K0_h2 := K0_h1.ext E2
  have F2 : Arv Z h2 b2 k2 .char (3 : Int32) [(.int (0 : Int32)), (.int (0 : Int32)), (.int (0 : Int32))] (.int (0 : Int32)) := A2
  refine X2.dup d_2_182 rfl rfl ?_
  refine X2.iconst d_2_183 ?_
  refine X2.iloadN d_2_184 rfl ?_
  obtain ⟨T3, h3, X3, W3, A3, st3⟩ := X2.stC (x' := ca) F2 (.head _) ⟨by decide, by decide⟩ (i := 0) rfl (Nat.le_of_ble_eq_true rfl) (own_nar16 hca) (vs' := [(.int ca), (.int (0 : Int32)), (.int (0 : Int32))]) rfl (g := (mkF m 185 #[.val (.int (3 : Int32)), .val (.int ca), .val (.int cb), .val (.int cc), .val (.int (0 : Int32))] [(.int ca), (.int (0 : Int32)), (.ref b2), (.ref b2), (.ref b1), (.ref b1)])) rfl rfl d_2_185
  refine Go.by st3 ?_
  have K0_h3 := K0_h2.trans W3 (allS (Or.inr sz_b2) all0)
  refine X3.dup d_2_186 rfl rfl ?_
  refine X3.iconst d_2_187 ?_
  refine X3.iloadN d_2_188 rfl ?_
  obtain ⟨T4, h4, X4, W4, A4, st4⟩ := X3.stC (x' := cb) A3 (.head _) ⟨by decide, by decide⟩ (i := 1) rfl (Nat.le_of_ble_eq_true rfl) (own_nar16 hcb) (vs' := [(.int ca), (.int cb), (.int (0 : Int32))]) rfl (g := (mkF m 189 #[.val (.int (3 : Int32)), .val (.int ca), .val (.int cb), .val (.int cc), .val (.int (0 : Int32))] [(.int cb), (.int (1 : Int32)), (.ref b2), (.ref b2), (.ref b1), (.ref b1)])) rfl rfl d_2_189
  refine Go.by st4 ?_
  have K0_h4 := K0_h3.trans W4 (allS (Or.inr sz_b2) all0)
  refine X4.dup d_2_190 rfl rfl ?_
  refine X4.iconst d_2_191 ?_
  show Go _ _ _ _ (T4.setTop (mkF m 192 #[.val (.int (3 : Int32)), .val (.int ca), .val (.int cb), .val (.int cc), .val (.int (0 : Int32))] [(.int (2 : Int32)), (.ref b2), (.ref b2), (.ref b1), (.ref b1)]))
  refine X4.iloadN d_2_192 rfl ?_
  obtain ⟨T5, h5, X5, W5, A5, st5⟩ := X4.stC (x' := cc) A4 (.head _) ⟨by decide, by decide⟩ (i := 2) rfl (Nat.le_of_ble_eq_true rfl) (own_nar16 hcc) (vs' := [(.int ca), (.int cb), (.int cc)]) rfl (g := (mkF m 193 #[.val (.int (3 : Int32)), .val (.int ca), .val (.int cb), .val (.int cc), .val (.int (0 : Int32))] [(.int cc), (.int (2 : Int32)), (.ref b2), (.ref b2), (.ref b1), (.ref b1)])) rfl rfl d_2_193
  refine Go.by st5 ?_
  have K0_h5 := K0_h4.trans W5 (allS (Or.inr sz_b2) all0)
  have f6 := (((A1.ext E2).keep W3).keep W4).keep W5
  have f7 := (((F1_value.ext E2).keep W3 (ninS ne_b1_b2 nin0)).keep W4 (ninS ne_b1_b2 nin0)).keep W5 (ninS ne_b1_b2 nin0)
  have f8 := (((F1_coder.ext E2).keep W3 (ninS ne_b1_b2 nin0)).keep W4 (ninS ne_b1_b2 nin0)).keep W5 (ninS ne_b1_b2 nin0)
  obtain ⟨_, T9, h9, XX9, K9, ⟨t_9, rfl, fr_t_9, fl_t_9, P9_0⟩, st9⟩ := X5.spX (W := 1) rfl (hw _ (gm 38 rfl)) (hw _ (gm 39 rfl)) (hw _ (gm 40 rfl)) (by decide) ((ru_ni1 l Z a0 hw n0 b1 b2 k2 [ca, cb, cc] .null (.int (0 : Int32)) zc h5 X5.old f6 f7 f8 A5 Sc nc Sa Su Sv (all1 hca (all1 hcb (all1 hcc alln))) (Nat.le_of_ble_eq_true rfl) (Nat.le_of_ble_eq_true rfl) ne_b1_b2.symm (X5.ge (.tail _ (.head _))) (X5.lt (.tail _ (.head _)))).pay (hw _ (gm 40 rfl)) (hw _ (gm 23 rfl)) (by decide) (by decide)) (allS (.tail _ (.head _)) all0) (g := (mkF m 194 #[.val (.int (3 : Int32)), .val (.int ca), .val (.int cb), .val (.int cc), .val (.int (0 : Int32))] [(.ref b2), (.ref b1), (.ref b1)])) rfl rfl (a := b1) (argsL := [(.ref b2)]) (rest := [(.ref b1)]) (lenOf pd_34 rfl) rfl (by exact Nat.le_of_eq rfl) d_2_194 rfl (by decide) (by decide)
  refine Go.tr st9 ?_
  have X9 := XX9 [t_9] (allS (Or.inr ⟨fr_t_9, fl_t_9⟩) all0)
  have K0_h9 := K0_h5.trans K9 (allS (Or.inr sz_b1) all0)
  have sz_t_9 := Nat.le_trans X5.sz fr_t_9
  exact X9.retR rfl rfl d_2_197 K0_h9 ⟨b1, t_9, rfl, sz_b1, (X9.lt (.tail _ (.tail _ (.head _)))), sz_t_9, (X9.lt (.head _)), P9_0⟩ (by decide) (by decide)
def Q_rh_str31 (Z : State) (ca : Int32) (cb : Int32) (cc : Int32) (zc : Int32) (h0 : Heap) (ov : Option Value) (hz : Heap) : Prop := ∃ (x : Addr), ∃ (t : Addr), ov = some (.ref x) ∧ h0.size ≤ x ∧ x < hz.size ∧ h0.size ≤ t ∧ t < hz.size ∧ Str Z hz x t [ca, cb, cc, (62 : Int32)]
theorem d_2_145 : decode method_2_code 145 = .ok (.new 7, 3) := by decide +kernel
theorem d_2_148 : decode method_2_code 148 = .ok (.dup, 1) := by decide +kernel
theorem d_2_149 : decode method_2_code 149 = .ok (.iconst 4, 1) := by decide +kernel
theorem d_2_150 : decode method_2_code 150 = .ok (.newarray .char, 2) := by decide +kernel
theorem d_2_152 : decode method_2_code 152 = .ok (.dup, 1) := by decide +kernel
theorem d_2_153 : decode method_2_code 153 = .ok (.iconst 0, 1) := by decide +kernel
theorem d_2_154 : decode method_2_code 154 = .ok (.iload_n 1, 1) := by decide +kernel
theorem d_2_155 : decode method_2_code 155 = .ok (.castore, 1) := by decide +kernel
theorem d_2_156 : decode method_2_code 156 = .ok (.dup, 1) := by decide +kernel
theorem d_2_157 : decode method_2_code 157 = .ok (.iconst 1, 1) := by decide +kernel
theorem d_2_158 : decode method_2_code 158 = .ok (.iload_n 2, 1) := by decide +kernel
theorem d_2_159 : decode method_2_code 159 = .ok (.castore, 1) := by decide +kernel
theorem d_2_160 : decode method_2_code 160 = .ok (.dup, 1) := by decide +kernel
theorem d_2_161 : decode method_2_code 161 = .ok (.iconst 2, 1) := by decide +kernel
theorem d_2_162 : decode method_2_code 162 = .ok (.iload_n 3, 1) := by decide +kernel
theorem d_2_163 : decode method_2_code 163 = .ok (.castore, 1) := by decide +kernel
theorem d_2_164 : decode method_2_code 164 = .ok (.dup, 1) := by decide +kernel
theorem d_2_165 : decode method_2_code 165 = .ok (.iconst 3, 1) := by decide +kernel
theorem d_2_166 : decode method_2_code 166 = .ok (.bipush 62, 2) := by decide +kernel
theorem d_2_168 : decode method_2_code 168 = .ok (.castore, 1) := by decide +kernel
theorem d_2_169 : decode method_2_code 169 = .ok (.invokespecial 9, 3) := by decide +kernel
theorem d_2_172 : decode method_2_code 172 = .ok (.goto 25, 3) := by decide +kernel
abbrev RM_rh_str31 : Room := { frames := 6, cells := 4, slots := 20, locals := 88 }
theorem rh_str31 (l : Launch) (Z : State) (a0 : Array Value) (hw : ∀ d ∈ tables_1, d.before a0 Z = true) (n0 : Nat) (ca : Int32) (cb : Int32) (cc : Int32) (zc : Int32) (h0 : Heap) (hO : Old Z n0 h0) (Sc : SC Z zc) (nc : ¬ (zc = (0 : Int32))) (Sa : SA1 Z) (Su : SU1 Z) (Sv : SV1 Z) (hca : ¬ ca < 0 ∧ ¬ (65535 : Int32) < ca) (hcb : ¬ cb < 0 ∧ ¬ (65535 : Int32) < cb) (hcc : ¬ cc < 0 ∧ ¬ (65535 : Int32) < cc) :
    Ct l (⟨"com/example/suricate/suricate/component/HtmlWriterCloseStartTagPinLaw", "str", "(ICCCZ)Ljava/lang/String;"⟩ : MethodName) method_2_code 5 (some (.object "java/lang/String")) [] RM_rh_str31 Z n0 #[(.int (3 : Int32)), (.int ca), (.int cb), (.int cc), (.int (1 : Int32))] h0 [] (Q_rh_str31 Z ca cb cc zc h0) := by
  refine Ct.of_walk (plainFor_of_name pn_8) hO all0 ?_
  intro p e s m below meth c T0 X0
  rw [ef_IIIII5 m (3 : Int32) ca cb cc (1 : Int32)]
  show Go _ _ _ _ (T0.setTop (mkF m 0 #[.val (.int (3 : Int32)), .val (.int ca), .val (.int cb), .val (.int cc), .val (.int (1 : Int32))] []))
  refine X0.iloadN d_2_0 rfl ?_
  refine X0.ifYes (pc0 := 1) (pc' := 38) rfl d_2_1 rfl (XT.i0_ne_t (by decide)) (by decide) (by decide) ?_
  refine X0.iloadN d_2_38 rfl ?_
  refine X0.iconst d_2_39 ?_
  refine X0.icmpYes (pc0 := 40) (pc' := 85) rfl d_2_40 rfl (XT.ii_ne_t (by decide)) (by decide) (by decide) ?_
  refine X0.iloadN d_2_85 rfl ?_
  refine X0.iconst d_2_86 ?_
  refine X0.icmpYes (pc0 := 87) (pc' := 140) rfl d_2_87 rfl (XT.ii_ne_t (by decide)) (by decide) (by decide) ?_
  refine X0.iload d_2_140 rfl ?_
  refine X0.ifNo d_2_142 rfl (XT.i0_eq_f (by decide)) ?_
  obtain ⟨T1, h1, b1, g_b1, X1, E1, A1, D1, st1⟩ := X0.new (hw _ (gm 35 rfl)) (hw _ (gm 36 rfl)) (hw _ (gm 23 rfl)) (g := (mkF m 145 #[.val (.int (3 : Int32)), .val (.int ca), .val (.int cb), .val (.int cc), .val (.int (1 : Int32))] [])) rfl d_2_145 (by decide) (by decide)
  refine Go.by st1 ?_
  have sz_b1 := Nat.le_trans X0.sz (Nat.le_of_eq g_b1.symm)
  have K0_h1 := (Keep.refl h0 []).ext E1
  have F1_value : Fld Z h1 b1 "java/lang/String" "value" "[B" .null := D1 (Or.inr (hw _ (gm 47 rfl))) (ty := (.array .byte)) (by decide)
  have F1_coder : Fld Z h1 b1 "java/lang/String" "coder" "B" (.int (0 : Int32)) := D1 (Or.inr (hw _ (gm 48 rfl))) (ty := .byte) (by decide)
  refine X1.dup d_2_148 rfl rfl ?_
  show Go _ _ _ _ (T1.setTop (mkF m 149 #[.val (.int (3 : Int32)), .val (.int ca), .val (.int cb), .val (.int cc), .val (.int (1 : Int32))] [(.ref b1), (.ref b1)]))
  refine X1.iconst d_2_149 ?_
  have lt_b1_2 := (X1.lt (.head _))
  obtain ⟨T2, h2, b2, k2, g_b2, X2, E2, A2, st2⟩ := X1.newP (hw _ (gm 37 rfl)) (g := (mkF m 150 #[.val (.int (3 : Int32)), .val (.int ca), .val (.int cb), .val (.int cc), .val (.int (1 : Int32))] [(.int (4 : Int32)), (.ref b1), (.ref b1)])) rfl d_2_150 rfl (by decide) (cap := 4) (by decide) (by decide) (by decide) (by decide) (vs := [(.int (0 : Int32)), (.int (0 : Int32)), (.int (0 : Int32)), (.int (0 : Int32))]) rfl
  refine Go.by st2 ?_
  have ne_b1_b2 := ne_new lt_b1_2 g_b2
  have sz_b2 := Nat.le_trans X1.sz (Nat.le_of_eq g_b2.symm)
  have K0_h2 := K0_h1.ext E2
  have F2 : Arv Z h2 b2 k2 .char (4 : Int32) [(.int (0 : Int32)), (.int (0 : Int32)), (.int (0 : Int32)), (.int (0 : Int32))] (.int (0 : Int32)) := A2
  refine X2.dup d_2_152 rfl rfl ?_
  refine X2.iconst d_2_153 ?_
  refine X2.iloadN d_2_154 rfl ?_
  obtain ⟨T3, h3, X3, W3, A3, st3⟩ := X2.stC (x' := ca) F2 (.head _) ⟨by decide, by decide⟩ (i := 0) rfl (Nat.le_of_ble_eq_true rfl) (own_nar16 hca) (vs' := [(.int ca), (.int (0 : Int32)), (.int (0 : Int32)), (.int (0 : Int32))]) rfl (g := (mkF m 155 #[.val (.int (3 : Int32)), .val (.int ca), .val (.int cb), .val (.int cc), .val (.int (1 : Int32))] [(.int ca), (.int (0 : Int32)), (.ref b2), (.ref b2), (.ref b1), (.ref b1)])) rfl rfl d_2_155
  refine Go.by st3 ?_
  have K0_h3 := K0_h2.trans W3 (allS (Or.inr sz_b2) all0)
  refine X3.dup d_2_156 rfl rfl ?_
  refine X3.iconst d_2_157 ?_
  refine X3.iloadN d_2_158 rfl ?_
  obtain ⟨T4, h4, X4, W4, A4, st4⟩ := X3.stC (x' := cb) A3 (.head _) ⟨by decide, by decide⟩ (i := 1) rfl (Nat.le_of_ble_eq_true rfl) (own_nar16 hcb) (vs' := [(.int ca), (.int cb), (.int (0 : Int32)), (.int (0 : Int32))]) rfl (g := (mkF m 159 #[.val (.int (3 : Int32)), .val (.int ca), .val (.int cb), .val (.int cc), .val (.int (1 : Int32))] [(.int cb), (.int (1 : Int32)), (.ref b2), (.ref b2), (.ref b1), (.ref b1)])) rfl rfl d_2_159
  refine Go.by st4 ?_
  have K0_h4 := K0_h3.trans W4 (allS (Or.inr sz_b2) all0)
  refine X4.dup d_2_160 rfl rfl ?_
  refine X4.iconst d_2_161 ?_
  show Go _ _ _ _ (T4.setTop (mkF m 162 #[.val (.int (3 : Int32)), .val (.int ca), .val (.int cb), .val (.int cc), .val (.int (1 : Int32))] [(.int (2 : Int32)), (.ref b2), (.ref b2), (.ref b1), (.ref b1)]))
  refine X4.iloadN d_2_162 rfl ?_
  obtain ⟨T5, h5, X5, W5, A5, st5⟩ := X4.stC (x' := cc) A4 (.head _) ⟨by decide, by decide⟩ (i := 2) rfl (Nat.le_of_ble_eq_true rfl) (own_nar16 hcc) (vs' := [(.int ca), (.int cb), (.int cc), (.int (0 : Int32))]) rfl (g := (mkF m 163 #[.val (.int (3 : Int32)), .val (.int ca), .val (.int cb), .val (.int cc), .val (.int (1 : Int32))] [(.int cc), (.int (2 : Int32)), (.ref b2), (.ref b2), (.ref b1), (.ref b1)])) rfl rfl d_2_163
  refine Go.by st5 ?_
  have K0_h5 := K0_h4.trans W5 (allS (Or.inr sz_b2) all0)
  refine X5.dup d_2_164 rfl rfl ?_
  refine X5.iconst d_2_165 ?_
  refine X5.bipush d_2_166 ?_
  obtain ⟨T6, h6, X6, W6, A6, st6⟩ := X5.stC (x' := (62 : Int32)) A5 (.head _) ⟨by decide, by decide⟩ (i := 3) rfl (Nat.le_of_ble_eq_true rfl) rfl (vs' := [(.int ca), (.int cb), (.int cc), (.int (62 : Int32))]) rfl (g := (mkF m 168 #[.val (.int (3 : Int32)), .val (.int ca), .val (.int cb), .val (.int cc), .val (.int (1 : Int32))] [(.int (62 : Int32)), (.int (3 : Int32)), (.ref b2), (.ref b2), (.ref b1), (.ref b1)])) rfl rfl d_2_168
  refine Go.by st6 ?_
  have K0_h6 := K0_h5.trans W6 (allS (Or.inr sz_b2) all0)
  have f7 := ((((A1.ext E2).keep W3).keep W4).keep W5).keep W6
  have f8 := ((((F1_value.ext E2).keep W3 (ninS ne_b1_b2 nin0)).keep W4 (ninS ne_b1_b2 nin0)).keep W5 (ninS ne_b1_b2 nin0)).keep W6 (ninS ne_b1_b2 nin0)
  have f9 := ((((F1_coder.ext E2).keep W3 (ninS ne_b1_b2 nin0)).keep W4 (ninS ne_b1_b2 nin0)).keep W5 (ninS ne_b1_b2 nin0)).keep W6 (ninS ne_b1_b2 nin0)
  obtain ⟨_, T10, h10, XX10, K10, ⟨t_10, rfl, fr_t_10, fl_t_10, P10_0⟩, st10⟩ := X6.spX (W := 1) rfl (hw _ (gm 38 rfl)) (hw _ (gm 39 rfl)) (hw _ (gm 40 rfl)) (by decide) ((ru_ni1 l Z a0 hw n0 b1 b2 k2 [ca, cb, cc, (62 : Int32)] .null (.int (0 : Int32)) zc h6 X6.old f7 f8 f9 A6 Sc nc Sa Su Sv (all1 hca (all1 hcb (all1 hcc (all1 ⟨by decide, by decide⟩ alln)))) (Nat.le_of_ble_eq_true rfl) (Nat.le_of_ble_eq_true rfl) ne_b1_b2.symm (X6.ge (.tail _ (.head _))) (X6.lt (.tail _ (.head _)))).pay (hw _ (gm 40 rfl)) (hw _ (gm 23 rfl)) (by decide) (by decide)) (allS (.tail _ (.head _)) all0) (g := (mkF m 169 #[.val (.int (3 : Int32)), .val (.int ca), .val (.int cb), .val (.int cc), .val (.int (1 : Int32))] [(.ref b2), (.ref b1), (.ref b1)])) rfl rfl (a := b1) (argsL := [(.ref b2)]) (rest := [(.ref b1)]) (lenOf pd_34 rfl) rfl (by exact Nat.le_of_eq rfl) d_2_169 rfl (by decide) (by decide)
  refine Go.tr st10 ?_
  have X10 := XX10 [t_10] (allS (Or.inr ⟨fr_t_10, fl_t_10⟩) all0)
  have K0_h10 := K0_h6.trans K10 (allS (Or.inr sz_b1) all0)
  have sz_t_10 := Nat.le_trans X6.sz fr_t_10
  refine X10.goto (pc0 := 172) (pc' := 197) rfl d_2_172 (by decide) (by decide) ?_
  exact X10.retR rfl rfl d_2_197 K0_h10 ⟨b1, t_10, rfl, sz_b1, (X10.lt (.tail _ (.tail _ (.head _)))), sz_t_10, (X10.lt (.head _)), P10_0⟩ (by decide) (by decide)
def Q_rh_mk0 (Z : State) (w1 : Addr) (a1 : Addr) (vb : Addr) (kb : ClassId) (cs : List Int32) (x : Addr) (t : Addr) (ds : List Int32) (zc : Int32) (vf : Value) (h0 : Heap) (ov : Option Value) (hz : Heap) : Prop := ov = some (.ref w1) ∧ Fld Z hz a1 "java/lang/AbstractStringBuilder" "value" "[B" (.ref vb) ∧ Fld Z hz a1 "java/lang/AbstractStringBuilder" "coder" "B" (.int (0 : Int32)) ∧ Fld Z hz a1 "java/lang/AbstractStringBuilder" "count" "I" (.int (Int32.ofNat (cs ++ ds).length)) ∧ Fld Z hz a1 "java/lang/AbstractStringBuilder" "maybeLatin1" "Z" (.int (0 : Int32)) ∧ Arv Z hz vb kb .byte (16 : Int32) ((cs ++ ds).map fun c => Value.int (StrChars.lo8 c)) (.int (0 : Int32))
theorem g5_2_0 : decode prog_5_method_2_code 0 = .ok (.aload_n 0, 1) := by decide +kernel
theorem g5_2_1 : decode prog_5_method_2_code 1 = .ok (.getfield 10, 3) := by decide +kernel
theorem g5_2_4 : decode prog_5_method_2_code 4 = .ok (.aload_n 1, 1) := by decide +kernel
theorem pd_35 : parseMethodDescriptor "(Ljava/lang/CharSequence;)Ljava/lang/StringBuilder;" = some ⟨[(.object "java/lang/CharSequence")], some (.object "java/lang/StringBuilder")⟩ := by decide +kernel
theorem g5_2_5 : decode prog_5_method_2_code 5 = .ok (.invokevirtual 16, 3) := by decide +kernel
theorem g5_2_8 : decode prog_5_method_2_code 8 = .ok (.pop, 1) := by decide +kernel
theorem g5_2_9 : decode prog_5_method_2_code 9 = .ok (.aload_n 0, 1) := by decide +kernel
theorem g5_2_10 : decode prog_5_method_2_code 10 = .ok (.areturn, 1) := by decide +kernel
abbrev RM_rh_mk0 : Room := { frames := 8, cells := 0, slots := 0, locals := 113 }
theorem rh_mk0 (l : Launch) (Z : State) (a0 : Array Value) (hw : ∀ d ∈ tables_1, d.before a0 Z = true) (n0 : Nat) (w1 : Addr) (a1 : Addr) (vb : Addr) (kb : ClassId) (cs : List Int32) (x : Addr) (t : Addr) (ds : List Int32) (zc : Int32) (vf : Value) (h0 : Heap) (hO : Old Z n0 h0) (pr0 : Fld Z h0 w1 "com/example/suricate/suricate/component/HtmlWriter" "html" "Ljava/lang/StringBuilder;" (.ref a1)) (pr1 : Exa Z h0 a1 "java/lang/StringBuilder") (pr2 : Fld Z h0 a1 "java/lang/AbstractStringBuilder" "value" "[B" (.ref vb)) (pr3 : Fld Z h0 a1 "java/lang/AbstractStringBuilder" "coder" "B" (.int (0 : Int32))) (pr4 : Fld Z h0 a1 "java/lang/AbstractStringBuilder" "count" "I" (.int (Int32.ofNat cs.length))) (pr5 : Fld Z h0 a1 "java/lang/AbstractStringBuilder" "maybeLatin1" "Z" (.int (0 : Int32))) (pr6 : Arv Z h0 vb kb .byte (16 : Int32) (cs.map fun c => Value.int (StrChars.lo8 c)) (.int (0 : Int32))) (pr7 : Str Z h0 x t ds) (Sc : SC Z zc) (nc : ¬ (zc = (0 : Int32))) (Sa : SA1 Z) (Su : SU1 Z) (Sv : SV1 Z) (Sf : SF1 Z vf) (rf : vf.isRef = true) (hcs : ∀ c ∈ cs, ¬ c < 0 ∧ ¬ (255 : Int32) < c) (hl : cs.length + ds.length ≤ 10) (hxa : x ≠ a1) (hta : t ≠ a1) (hxv : x ≠ vb) (htv : t ≠ vb) (hav : vb ≠ a1) (hk : ∀ c ∈ ds, ¬ (255 : Int32) < c) (g_a1 : n0 ≤ a1) (l_a1 : a1 < h0.size) (g_vb : n0 ≤ vb) (l_vb : vb < h0.size) :
    Ct l (⟨"com/example/suricate/suricate/component/HtmlWriter", "markup", "(Ljava/lang/CharSequence;)Lcom/example/suricate/suricate/component/HtmlWriter;"⟩ : MethodName) prog_5_method_2_code 2 (some (.object "com/example/suricate/suricate/component/HtmlWriter")) [] RM_rh_mk0 Z n0 #[(.ref w1), (.ref x)] h0 [a1, vb] (Q_rh_mk0 Z w1 a1 vb kb cs x t ds zc vf h0) := by
  refine Ct.of_walk (plainFor_of_name pn_7) hO (allS ⟨g_a1, l_a1⟩ (allS ⟨g_vb, l_vb⟩ all0)) ?_
  intro p e s m below meth c T0 X0
  rw [ef_RR2 m w1 x]
  show Go _ _ _ _ (T0.setTop (mkF m 0 #[.val (.ref w1), .val (.ref x)] []))
  refine X0.aloadN g5_2_0 rfl rfl ?_
  obtain ⟨T1, X1, st1⟩ := X0.getF (host := "") (Or.inl (hw _ (gm 29 rfl))) Via.refl pr0 (g := (mkF m 1 #[.val (.ref w1), .val (.ref x)] [(.ref w1)])) rfl rfl g5_2_1
  refine Go.by st1 ?_
  refine X1.aloadN g5_2_4 rfl rfl ?_
  obtain ⟨_, T2, h2, XX2, K2, ⟨rfl, P2_0, P2_1, P2_2, P2_3, P2_4⟩, st2⟩ := X1.viX (W := 0) (hw _ (gm 58 rfl)) (hw _ (gm 59 rfl)) (hw _ (gm 61 rfl)) (hw _ (gm 60 rfl)) (by decide) ((rs_scs00 l Z a0 hw n0 a1 vb kb cs x t ds zc vf h0 X1.old pr1 pr2 pr3 pr4 pr5 pr6 pr7 Sc nc Sa Su Sv Sf rf hcs hl hxa hta hxv htv hav hk (X1.ge (.head _)) (X1.lt (.head _)) (X1.ge (.tail _ (.head _))) (X1.lt (.tail _ (.head _)))).pay (hw _ (gm 62 rfl)) (hw _ (gm 11 rfl)) (by decide) (by decide)) (allS (.head _) (allS (.tail _ (.head _)) all0)) pr1 (g := (mkF m 5 #[.val (.ref w1), .val (.ref x)] [(.ref x), (.ref a1)])) rfl rfl (argsL := [(.ref x)]) (rest := []) (lenOf pd_35 rfl) rfl (by exact Nat.le_of_eq rfl) g5_2_5 rfl (by decide) (by decide)
  refine Go.tr st2 ?_
  have X2 := XX2 [] all0
  have K0_h2 := (Keep.refl h0 [a1, vb]).trans K2 (allS (Or.inl (.head _)) (allS (Or.inl (.tail _ (.head _))) all0))
  refine X2.pop g5_2_8 rfl rfl ?_
  refine X2.aloadN g5_2_9 rfl rfl ?_
  exact X2.retR rfl rfl g5_2_10 K0_h2 ⟨rfl, P2_0, P2_1, P2_2, P2_3, P2_4⟩ (by decide) (by decide)
def Q_rh_mk1 (Z : State) (w1 : Addr) (a1 : Addr) (vb : Addr) (kb : ClassId) (cs : List Int32) (x : Addr) (t : Addr) (ds : List Int32) (zc : Int32) (vf : Value) (h0 : Heap) (ov : Option Value) (hz : Heap) : Prop := ∃ (vb2 : Addr), ∃ (kb2 : ClassId), ov = some (.ref w1) ∧ h0.size ≤ vb2 ∧ vb2 < hz.size ∧ Fld Z hz a1 "java/lang/AbstractStringBuilder" "value" "[B" (.ref vb2) ∧ Fld Z hz a1 "java/lang/AbstractStringBuilder" "coder" "B" (.int (1 : Int32)) ∧ Fld Z hz a1 "java/lang/AbstractStringBuilder" "count" "I" (.int (Int32.ofNat (cs ++ ds).length)) ∧ Fld Z hz a1 "java/lang/AbstractStringBuilder" "maybeLatin1" "Z" (.int (0 : Int32)) ∧ Arv Z hz vb2 kb2 .byte (32 : Int32) (StrChars.Road.wideBytes (cs ++ ds)) (.int (0 : Int32))
abbrev RM_rh_mk1 : Room := { frames := 13, cells := 1, slots := 32, locals := 182 }
theorem rh_mk1 (l : Launch) (Z : State) (a0 : Array Value) (hw : ∀ d ∈ tables_1, d.before a0 Z = true) (n0 : Nat) (w1 : Addr) (a1 : Addr) (vb : Addr) (kb : ClassId) (cs : List Int32) (x : Addr) (t : Addr) (ds : List Int32) (zc : Int32) (vf : Value) (h0 : Heap) (hO : Old Z n0 h0) (pr0 : Fld Z h0 w1 "com/example/suricate/suricate/component/HtmlWriter" "html" "Ljava/lang/StringBuilder;" (.ref a1)) (pr1 : Exa Z h0 a1 "java/lang/StringBuilder") (pr2 : Fld Z h0 a1 "java/lang/AbstractStringBuilder" "value" "[B" (.ref vb)) (pr3 : Fld Z h0 a1 "java/lang/AbstractStringBuilder" "coder" "B" (.int (0 : Int32))) (pr4 : Fld Z h0 a1 "java/lang/AbstractStringBuilder" "count" "I" (.int (Int32.ofNat cs.length))) (pr5 : Fld Z h0 a1 "java/lang/AbstractStringBuilder" "maybeLatin1" "Z" (.int (0 : Int32))) (pr6 : Arv Z h0 vb kb .byte (16 : Int32) (cs.map fun c => Value.int (StrChars.lo8 c)) (.int (0 : Int32))) (pr7 : Str Z h0 x t ds) (Sc : SC Z zc) (nc : ¬ (zc = (0 : Int32))) (Sa : SA1 Z) (Su : SU1 Z) (Sv : SV1 Z) (Sf : SF1 Z vf) (rf : vf.isRef = true) (hcs : ∀ c ∈ cs, ¬ c < 0 ∧ ¬ (255 : Int32) < c) (hl : cs.length + ds.length ≤ 10) (hxa : x ≠ a1) (hta : t ≠ a1) (hxv : x ≠ vb) (htv : t ≠ vb) (hav : vb ≠ a1) (hk : ∃ c ∈ ds, (255 : Int32) < c) (g_a1 : n0 ≤ a1) (l_a1 : a1 < h0.size) (g_vb : n0 ≤ vb) (l_vb : vb < h0.size) :
    Ct l (⟨"com/example/suricate/suricate/component/HtmlWriter", "markup", "(Ljava/lang/CharSequence;)Lcom/example/suricate/suricate/component/HtmlWriter;"⟩ : MethodName) prog_5_method_2_code 2 (some (.object "com/example/suricate/suricate/component/HtmlWriter")) [] RM_rh_mk1 Z n0 #[(.ref w1), (.ref x)] h0 [a1, vb] (Q_rh_mk1 Z w1 a1 vb kb cs x t ds zc vf h0) := by
  refine Ct.of_walk (plainFor_of_name pn_7) hO (allS ⟨g_a1, l_a1⟩ (allS ⟨g_vb, l_vb⟩ all0)) ?_
  intro p e s m below meth c T0 X0
  rw [ef_RR2 m w1 x]
  show Go _ _ _ _ (T0.setTop (mkF m 0 #[.val (.ref w1), .val (.ref x)] []))
  refine X0.aloadN g5_2_0 rfl rfl ?_
  obtain ⟨T1, X1, st1⟩ := X0.getF (host := "") (Or.inl (hw _ (gm 29 rfl))) Via.refl pr0 (g := (mkF m 1 #[.val (.ref w1), .val (.ref x)] [(.ref w1)])) rfl rfl g5_2_1
  refine Go.by st1 ?_
  refine X1.aloadN g5_2_4 rfl rfl ?_
  obtain ⟨_, T2, h2, XX2, K2, ⟨vb2_2, kb2_2, rfl, fr_vb2_2, fl_vb2_2, P2_0, P2_1, P2_2, P2_3, P2_4⟩, st2⟩ := X1.viX (W := 0) (hw _ (gm 58 rfl)) (hw _ (gm 59 rfl)) (hw _ (gm 61 rfl)) (hw _ (gm 60 rfl)) (by decide) ((rs_scs01 l Z a0 hw n0 a1 vb kb cs x t ds zc vf h0 X1.old pr1 pr2 pr3 pr4 pr5 pr6 pr7 Sc nc Sa Su Sv Sf rf hcs hl hxa hta hxv htv hav hk (X1.ge (.head _)) (X1.lt (.head _)) (X1.ge (.tail _ (.head _))) (X1.lt (.tail _ (.head _)))).pay (hw _ (gm 62 rfl)) (hw _ (gm 11 rfl)) (by decide) (by decide)) (allS (.head _) (allS (.tail _ (.head _)) all0)) pr1 (g := (mkF m 5 #[.val (.ref w1), .val (.ref x)] [(.ref x), (.ref a1)])) rfl rfl (argsL := [(.ref x)]) (rest := []) (lenOf pd_35 rfl) rfl (by exact Nat.le_of_eq rfl) g5_2_5 rfl (by decide) (by decide)
  refine Go.tr st2 ?_
  have X2 := XX2 [vb2_2] (allS (Or.inr ⟨fr_vb2_2, fl_vb2_2⟩) all0)
  have K0_h2 := (Keep.refl h0 [a1, vb]).trans K2 (allS (Or.inl (.head _)) (allS (Or.inl (.tail _ (.head _))) all0))
  have sz_vb2_2 := Nat.le_trans X1.sz fr_vb2_2
  refine X2.pop g5_2_8 rfl rfl ?_
  refine X2.aloadN g5_2_9 rfl rfl ?_
  exact X2.retR rfl rfl g5_2_10 K0_h2 ⟨vb2_2, kb2_2, rfl, sz_vb2_2, (X2.lt (.head _)), P2_0, P2_1, P2_2, P2_3, P2_4⟩ (by decide) (by decide)
def Q_rh_cst0 (Z : State) (w1 : Addr) (a1 : Addr) (vb : Addr) (kb : ClassId) (cs : List Int32) (zc : Int32) (vf : Value) (h0 : Heap) (ov : Option Value) (hz : Heap) : Prop := ov = some (.ref w1) ∧ Fld Z hz a1 "java/lang/AbstractStringBuilder" "value" "[B" (.ref vb) ∧ Fld Z hz a1 "java/lang/AbstractStringBuilder" "coder" "B" (.int (0 : Int32)) ∧ Fld Z hz a1 "java/lang/AbstractStringBuilder" "count" "I" (.int (Int32.ofNat (cs ++ [(62 : Int32)]).length)) ∧ Fld Z hz a1 "java/lang/AbstractStringBuilder" "maybeLatin1" "Z" (.int (0 : Int32)) ∧ Arv Z hz vb kb .byte (16 : Int32) ((cs ++ [(62 : Int32)]).map fun c => Value.int (StrChars.lo8 c)) (.int (0 : Int32))
theorem g5_7_0 : decode prog_5_method_7_code 0 = .ok (.aload_n 0, 1) := by decide +kernel
theorem g5_7_1 : decode prog_5_method_7_code 1 = .ok (.getfield 10, 3) := by decide +kernel
theorem g5_7_4 : decode prog_5_method_7_code 4 = .ok (.bipush 62, 2) := by decide +kernel
theorem pd_36 : parseMethodDescriptor "(C)Ljava/lang/StringBuilder;" = some ⟨[.char], some (.object "java/lang/StringBuilder")⟩ := by decide +kernel
theorem g5_7_6 : decode prog_5_method_7_code 6 = .ok (.invokevirtual 24, 3) := by decide +kernel
theorem g5_7_9 : decode prog_5_method_7_code 9 = .ok (.pop, 1) := by decide +kernel
theorem g5_7_10 : decode prog_5_method_7_code 10 = .ok (.aload_n 0, 1) := by decide +kernel
theorem g5_7_11 : decode prog_5_method_7_code 11 = .ok (.areturn, 1) := by decide +kernel
abbrev RM_rh_cst0 : Room := { frames := 3, cells := 0, slots := 0, locals := 40 }
theorem rh_cst0 (l : Launch) (Z : State) (a0 : Array Value) (hw : ∀ d ∈ tables_1, d.before a0 Z = true) (n0 : Nat) (w1 : Addr) (a1 : Addr) (vb : Addr) (kb : ClassId) (cs : List Int32) (zc : Int32) (vf : Value) (h0 : Heap) (hO : Old Z n0 h0) (pr0 : Fld Z h0 w1 "com/example/suricate/suricate/component/HtmlWriter" "html" "Ljava/lang/StringBuilder;" (.ref a1)) (pr1 : Exa Z h0 a1 "java/lang/StringBuilder") (pr2 : Fld Z h0 a1 "java/lang/AbstractStringBuilder" "value" "[B" (.ref vb)) (pr3 : Fld Z h0 a1 "java/lang/AbstractStringBuilder" "coder" "B" (.int (0 : Int32))) (pr4 : Fld Z h0 a1 "java/lang/AbstractStringBuilder" "count" "I" (.int (Int32.ofNat cs.length))) (pr5 : Fld Z h0 a1 "java/lang/AbstractStringBuilder" "maybeLatin1" "Z" (.int (0 : Int32))) (pr6 : Arv Z h0 vb kb .byte (16 : Int32) (cs.map fun c => Value.int (StrChars.lo8 c)) (.int (0 : Int32))) (Sc : SC Z zc) (nc : ¬ (zc = (0 : Int32))) (Sa : SA1 Z) (Su : SU1 Z) (Sv : SV1 Z) (Sf : SF1 Z vf) (rf : vf.isRef = true) (hl : cs.length ≤ 9) (hav : vb ≠ a1) (g_a1 : n0 ≤ a1) (l_a1 : a1 < h0.size) (g_vb : n0 ≤ vb) (l_vb : vb < h0.size) :
    Ct l (⟨"com/example/suricate/suricate/component/HtmlWriter", "closeStartTag", "()Lcom/example/suricate/suricate/component/HtmlWriter;"⟩ : MethodName) prog_5_method_7_code 1 (some (.object "com/example/suricate/suricate/component/HtmlWriter")) [] RM_rh_cst0 Z n0 #[(.ref w1)] h0 [a1, vb] (Q_rh_cst0 Z w1 a1 vb kb cs zc vf h0) := by
  refine Ct.of_walk (plainFor_of_name pn_7) hO (allS ⟨g_a1, l_a1⟩ (allS ⟨g_vb, l_vb⟩ all0)) ?_
  intro p e s m below meth c T0 X0
  rw [ef_R1 m w1]
  show Go _ _ _ _ (T0.setTop (mkF m 0 #[.val (.ref w1)] []))
  refine X0.aloadN g5_7_0 rfl rfl ?_
  obtain ⟨T1, X1, st1⟩ := X0.getF (host := "") (Or.inl (hw _ (gm 29 rfl))) Via.refl pr0 (g := (mkF m 1 #[.val (.ref w1)] [(.ref w1)])) rfl rfl g5_7_1
  refine Go.by st1 ?_
  refine X1.bipush g5_7_4 ?_
  obtain ⟨_, T2, h2, XX2, K2, ⟨rfl, P2_0, P2_1, P2_2, P2_3, P2_4⟩, st2⟩ := X1.viX (W := 0) (hw _ (gm 139 rfl)) (hw _ (gm 140 rfl)) (hw _ (gm 142 rfl)) (hw _ (gm 141 rfl)) (by decide) ((rs_spc0 l Z a0 hw n0 a1 vb kb cs zc vf h0 X1.old pr1 pr2 pr3 pr4 pr5 pr6 Sc nc Sa Su Sv Sf rf hl hav (X1.ge (.head _)) (X1.lt (.head _)) (X1.ge (.tail _ (.head _))) (X1.lt (.tail _ (.head _)))).pay (hw _ (gm 143 rfl)) (hw _ (gm 11 rfl)) (by decide) (by decide)) (allS (.head _) (allS (.tail _ (.head _)) all0)) pr1 (g := (mkF m 6 #[.val (.ref w1)] [(.int (62 : Int32)), (.ref a1)])) rfl rfl (argsL := [(.int (62 : Int32))]) (rest := []) (lenOf pd_36 rfl) rfl (by exact Nat.le_of_eq rfl) g5_7_6 rfl (by decide) (by decide)
  refine Go.tr st2 ?_
  have X2 := XX2 [] all0
  have K0_h2 := (Keep.refl h0 [a1, vb]).trans K2 (allS (Or.inl (.head _)) (allS (Or.inl (.tail _ (.head _))) all0))
  refine X2.pop g5_7_9 rfl rfl ?_
  refine X2.aloadN g5_7_10 rfl rfl ?_
  exact X2.retR rfl rfl g5_7_11 K0_h2 ⟨rfl, P2_0, P2_1, P2_2, P2_3, P2_4⟩ (by decide) (by decide)
def Q_rh_tst0 (Z : State) (w1 : Addr) (a1 : Addr) (vb : Addr) (kb : ClassId) (cs : List Int32) (zc : Int32) (vf : Value) (h0 : Heap) (ov : Option Value) (hz : Heap) : Prop := ∃ (x : Addr), ∃ (t : Addr), ov = some (.ref x) ∧ h0.size ≤ x ∧ x < hz.size ∧ h0.size ≤ t ∧ t < hz.size ∧ Str Z hz x t cs
theorem g5_10_0 : decode prog_5_method_10_code 0 = .ok (.aload_n 0, 1) := by decide +kernel
theorem g5_10_1 : decode prog_5_method_10_code 1 = .ok (.getfield 10, 3) := by decide +kernel
theorem pd_37 : parseMethodDescriptor "()Ljava/lang/String;" = some ⟨[], some (.object "java/lang/String")⟩ := by decide +kernel
theorem g5_10_4 : decode prog_5_method_10_code 4 = .ok (.invokevirtual 38, 3) := by decide +kernel
theorem g5_10_7 : decode prog_5_method_10_code 7 = .ok (.areturn, 1) := by decide +kernel
abbrev RM_rh_tst0 : Room := { frames := 6, cells := 2, slots := 14, locals := 91 }
theorem rh_tst0 (l : Launch) (Z : State) (a0 : Array Value) (hw : ∀ d ∈ tables_1, d.before a0 Z = true) (n0 : Nat) (w1 : Addr) (a1 : Addr) (vb : Addr) (kb : ClassId) (cs : List Int32) (zc : Int32) (vf : Value) (h0 : Heap) (hO : Old Z n0 h0) (pr0 : Fld Z h0 w1 "com/example/suricate/suricate/component/HtmlWriter" "html" "Ljava/lang/StringBuilder;" (.ref a1)) (pr1 : Exa Z h0 a1 "java/lang/StringBuilder") (pr2 : Fld Z h0 a1 "java/lang/AbstractStringBuilder" "value" "[B" (.ref vb)) (pr3 : Fld Z h0 a1 "java/lang/AbstractStringBuilder" "coder" "B" (.int (0 : Int32))) (pr4 : Fld Z h0 a1 "java/lang/AbstractStringBuilder" "count" "I" (.int (Int32.ofNat cs.length))) (pr5 : Fld Z h0 a1 "java/lang/AbstractStringBuilder" "maybeLatin1" "Z" (.int (0 : Int32))) (pr6 : Arv Z h0 vb kb .byte (16 : Int32) (cs.map fun c => Value.int (StrChars.lo8 c)) (.int (0 : Int32))) (Sc : SC Z zc) (nc : ¬ (zc = (0 : Int32))) (Sa : SA1 Z) (Su : SU1 Z) (Sv : SV1 Z) (Sf : SF1 Z vf) (rf : vf.isRef = true) (hcs : ∀ c ∈ cs, ¬ c < 0 ∧ ¬ (255 : Int32) < c) (hl : cs.length ≤ 10) :
    Ct l (⟨"com/example/suricate/suricate/component/HtmlWriter", "toString", "()Ljava/lang/String;"⟩ : MethodName) prog_5_method_10_code 1 (some (.object "java/lang/String")) [] RM_rh_tst0 Z n0 #[(.ref w1)] h0 [] (Q_rh_tst0 Z w1 a1 vb kb cs zc vf h0) := by
  refine Ct.of_walk (plainFor_of_name pn_7) hO all0 ?_
  intro p e s m below meth c T0 X0
  rw [ef_R1 m w1]
  show Go _ _ _ _ (T0.setTop (mkF m 0 #[.val (.ref w1)] []))
  refine X0.aloadN g5_10_0 rfl rfl ?_
  obtain ⟨T1, X1, st1⟩ := X0.getF (host := "") (Or.inl (hw _ (gm 29 rfl))) Via.refl pr0 (g := (mkF m 1 #[.val (.ref w1)] [(.ref w1)])) rfl rfl g5_10_1
  refine Go.by st1 ?_
  obtain ⟨_, T2, h2, XX2, K2, ⟨x_2, t_2, rfl, fr_x_2, fl_x_2, fr_t_2, fl_t_2, P2_0⟩, st2⟩ := X1.viX (W := 0) (hw _ (gm 162 rfl)) (hw _ (gm 163 rfl)) (hw _ (gm 165 rfl)) (hw _ (gm 164 rfl)) (by decide) ((rs_tos0 l Z a0 hw n0 a1 vb kb cs zc vf h0 X1.old pr1 pr2 pr3 pr4 pr5 pr6 Sc nc Sa Su Sv Sf rf hcs hl).pay (hw _ (gm 166 rfl)) (hw _ (gm 11 rfl)) (by decide) (by decide)) all0 pr1 (g := (mkF m 4 #[.val (.ref w1)] [(.ref a1)])) rfl rfl (argsL := []) (rest := []) (lenOf pd_37 rfl) rfl (by exact Nat.le_of_eq rfl) g5_10_4 rfl (by decide) (by decide)
  refine Go.tr st2 ?_
  have X2 := XX2 [x_2, t_2] (allS (Or.inr ⟨fr_x_2, fl_x_2⟩) (allS (Or.inr ⟨fr_t_2, fl_t_2⟩) all0))
  have K0_h2 := (Keep.refl h0 []).trans K2 all0
  have sz_x_2 := Nat.le_trans X1.sz fr_x_2
  have sz_t_2 := Nat.le_trans X1.sz fr_t_2
  exact X2.retR rfl rfl g5_10_7 K0_h2 ⟨x_2, t_2, rfl, sz_x_2, (X2.lt (.head _)), sz_t_2, (X2.lt (.tail _ (.head _))), P2_0⟩ (by decide) (by decide)
def Q_rh_cst1 (Z : State) (w1 : Addr) (a1 : Addr) (vb : Addr) (kb : ClassId) (cs : List Int32) (zc : Int32) (vf : Value) (h0 : Heap) (ov : Option Value) (hz : Heap) : Prop := ov = some (.ref w1) ∧ Fld Z hz a1 "java/lang/AbstractStringBuilder" "value" "[B" (.ref vb) ∧ Fld Z hz a1 "java/lang/AbstractStringBuilder" "coder" "B" (.int (1 : Int32)) ∧ Fld Z hz a1 "java/lang/AbstractStringBuilder" "count" "I" (.int (Int32.ofNat (cs ++ [(62 : Int32)]).length)) ∧ Fld Z hz a1 "java/lang/AbstractStringBuilder" "maybeLatin1" "Z" (.int (0 : Int32)) ∧ Arv Z hz vb kb .byte (32 : Int32) (StrChars.Road.wideBytes (cs ++ [(62 : Int32)])) (.int (0 : Int32))
abbrev RM_rh_cst1 : Room := { frames := 6, cells := 0, slots := 0, locals := 80 }
theorem rh_cst1 (l : Launch) (Z : State) (a0 : Array Value) (hw : ∀ d ∈ tables_1, d.before a0 Z = true) (n0 : Nat) (w1 : Addr) (a1 : Addr) (vb : Addr) (kb : ClassId) (cs : List Int32) (zc : Int32) (vf : Value) (h0 : Heap) (hO : Old Z n0 h0) (pr0 : Fld Z h0 w1 "com/example/suricate/suricate/component/HtmlWriter" "html" "Ljava/lang/StringBuilder;" (.ref a1)) (pr1 : Exa Z h0 a1 "java/lang/StringBuilder") (pr2 : Fld Z h0 a1 "java/lang/AbstractStringBuilder" "value" "[B" (.ref vb)) (pr3 : Fld Z h0 a1 "java/lang/AbstractStringBuilder" "coder" "B" (.int (1 : Int32))) (pr4 : Fld Z h0 a1 "java/lang/AbstractStringBuilder" "count" "I" (.int (Int32.ofNat cs.length))) (pr5 : Fld Z h0 a1 "java/lang/AbstractStringBuilder" "maybeLatin1" "Z" (.int (0 : Int32))) (pr6 : Arv Z h0 vb kb .byte (32 : Int32) (StrChars.Road.wideBytes cs) (.int (0 : Int32))) (Sc : SC Z zc) (nc : ¬ (zc = (0 : Int32))) (Sa : SA1 Z) (Su : SU1 Z) (Sv : SV1 Z) (Sf : SF1 Z vf) (rf : vf.isRef = true) (hl : cs.length ≤ 9) (hav : vb ≠ a1) (g_a1 : n0 ≤ a1) (l_a1 : a1 < h0.size) (g_vb : n0 ≤ vb) (l_vb : vb < h0.size) :
    Ct l (⟨"com/example/suricate/suricate/component/HtmlWriter", "closeStartTag", "()Lcom/example/suricate/suricate/component/HtmlWriter;"⟩ : MethodName) prog_5_method_7_code 1 (some (.object "com/example/suricate/suricate/component/HtmlWriter")) [] RM_rh_cst1 Z n0 #[(.ref w1)] h0 [a1, vb] (Q_rh_cst1 Z w1 a1 vb kb cs zc vf h0) := by
  refine Ct.of_walk (plainFor_of_name pn_7) hO (allS ⟨g_a1, l_a1⟩ (allS ⟨g_vb, l_vb⟩ all0)) ?_
  intro p e s m below meth c T0 X0
  rw [ef_R1 m w1]
  show Go _ _ _ _ (T0.setTop (mkF m 0 #[.val (.ref w1)] []))
  refine X0.aloadN g5_7_0 rfl rfl ?_
  obtain ⟨T1, X1, st1⟩ := X0.getF (host := "") (Or.inl (hw _ (gm 29 rfl))) Via.refl pr0 (g := (mkF m 1 #[.val (.ref w1)] [(.ref w1)])) rfl rfl g5_7_1
  refine Go.by st1 ?_
  refine X1.bipush g5_7_4 ?_
  obtain ⟨_, T2, h2, XX2, K2, ⟨rfl, P2_0, P2_1, P2_2, P2_3, P2_4⟩, st2⟩ := X1.viX (W := 0) (hw _ (gm 139 rfl)) (hw _ (gm 140 rfl)) (hw _ (gm 142 rfl)) (hw _ (gm 141 rfl)) (by decide) ((rs_spc1 l Z a0 hw n0 a1 vb kb cs zc vf h0 X1.old pr1 pr2 pr3 pr4 pr5 pr6 Sc nc Sa Su Sv Sf rf hl hav (X1.ge (.head _)) (X1.lt (.head _)) (X1.ge (.tail _ (.head _))) (X1.lt (.tail _ (.head _)))).pay (hw _ (gm 143 rfl)) (hw _ (gm 11 rfl)) (by decide) (by decide)) (allS (.head _) (allS (.tail _ (.head _)) all0)) pr1 (g := (mkF m 6 #[.val (.ref w1)] [(.int (62 : Int32)), (.ref a1)])) rfl rfl (argsL := [(.int (62 : Int32))]) (rest := []) (lenOf pd_36 rfl) rfl (by exact Nat.le_of_eq rfl) g5_7_6 rfl (by decide) (by decide)
  refine Go.tr st2 ?_
  have X2 := XX2 [] all0
  have K0_h2 := (Keep.refl h0 [a1, vb]).trans K2 (allS (Or.inl (.head _)) (allS (Or.inl (.tail _ (.head _))) all0))
  refine X2.pop g5_7_9 rfl rfl ?_
  refine X2.aloadN g5_7_10 rfl rfl ?_
  exact X2.retR rfl rfl g5_7_11 K0_h2 ⟨rfl, P2_0, P2_1, P2_2, P2_3, P2_4⟩ (by decide) (by decide)
def Q_rh_tst1 (Z : State) (w1 : Addr) (a1 : Addr) (vb : Addr) (kb : ClassId) (cs : List Int32) (zc : Int32) (vf : Value) (h0 : Heap) (ov : Option Value) (hz : Heap) : Prop := ∃ (x : Addr), ∃ (t : Addr), ov = some (.ref x) ∧ h0.size ≤ x ∧ x < hz.size ∧ h0.size ≤ t ∧ t < hz.size ∧ Str Z hz x t cs
abbrev RM_rh_tst1 : Room := { frames := 6, cells := 2, slots := 24, locals := 91 }
theorem rh_tst1 (l : Launch) (Z : State) (a0 : Array Value) (hw : ∀ d ∈ tables_1, d.before a0 Z = true) (n0 : Nat) (w1 : Addr) (a1 : Addr) (vb : Addr) (kb : ClassId) (cs : List Int32) (zc : Int32) (vf : Value) (h0 : Heap) (hO : Old Z n0 h0) (pr0 : Fld Z h0 w1 "com/example/suricate/suricate/component/HtmlWriter" "html" "Ljava/lang/StringBuilder;" (.ref a1)) (pr1 : Exa Z h0 a1 "java/lang/StringBuilder") (pr2 : Fld Z h0 a1 "java/lang/AbstractStringBuilder" "value" "[B" (.ref vb)) (pr3 : Fld Z h0 a1 "java/lang/AbstractStringBuilder" "coder" "B" (.int (1 : Int32))) (pr4 : Fld Z h0 a1 "java/lang/AbstractStringBuilder" "count" "I" (.int (Int32.ofNat cs.length))) (pr5 : Fld Z h0 a1 "java/lang/AbstractStringBuilder" "maybeLatin1" "Z" (.int (0 : Int32))) (pr6 : Arv Z h0 vb kb .byte (32 : Int32) (StrChars.Road.wideBytes cs) (.int (0 : Int32))) (Sc : SC Z zc) (nc : ¬ (zc = (0 : Int32))) (Sa : SA1 Z) (Su : SU1 Z) (Sv : SV1 Z) (Sf : SF1 Z vf) (rf : vf.isRef = true) (hp : ∀ c ∈ cs, ¬ c < 0 ∧ ¬ (65535 : Int32) < c) (hk : ∃ c ∈ cs, (255 : Int32) < c) (hl : cs.length ≤ 10) :
    Ct l (⟨"com/example/suricate/suricate/component/HtmlWriter", "toString", "()Ljava/lang/String;"⟩ : MethodName) prog_5_method_10_code 1 (some (.object "java/lang/String")) [] RM_rh_tst1 Z n0 #[(.ref w1)] h0 [] (Q_rh_tst1 Z w1 a1 vb kb cs zc vf h0) := by
  refine Ct.of_walk (plainFor_of_name pn_7) hO all0 ?_
  intro p e s m below meth c T0 X0
  rw [ef_R1 m w1]
  show Go _ _ _ _ (T0.setTop (mkF m 0 #[.val (.ref w1)] []))
  refine X0.aloadN g5_10_0 rfl rfl ?_
  obtain ⟨T1, X1, st1⟩ := X0.getF (host := "") (Or.inl (hw _ (gm 29 rfl))) Via.refl pr0 (g := (mkF m 1 #[.val (.ref w1)] [(.ref w1)])) rfl rfl g5_10_1
  refine Go.by st1 ?_
  obtain ⟨_, T2, h2, XX2, K2, ⟨x_2, t_2, rfl, fr_x_2, fl_x_2, fr_t_2, fl_t_2, P2_0⟩, st2⟩ := X1.viX (W := 0) (hw _ (gm 162 rfl)) (hw _ (gm 163 rfl)) (hw _ (gm 165 rfl)) (hw _ (gm 164 rfl)) (by decide) ((rs_tos1 l Z a0 hw n0 a1 vb kb cs zc vf h0 X1.old pr1 pr2 pr3 pr4 pr5 pr6 Sc nc Sa Su Sv Sf rf hp hk hl).pay (hw _ (gm 166 rfl)) (hw _ (gm 11 rfl)) (by decide) (by decide)) all0 pr1 (g := (mkF m 4 #[.val (.ref w1)] [(.ref a1)])) rfl rfl (argsL := []) (rest := []) (lenOf pd_37 rfl) rfl (by exact Nat.le_of_eq rfl) g5_10_4 rfl (by decide) (by decide)
  refine Go.tr st2 ?_
  have X2 := XX2 [x_2, t_2] (allS (Or.inr ⟨fr_x_2, fl_x_2⟩) (allS (Or.inr ⟨fr_t_2, fl_t_2⟩) all0))
  have K0_h2 := (Keep.refl h0 []).trans K2 all0
  have sz_x_2 := Nat.le_trans X1.sz fr_x_2
  have sz_t_2 := Nat.le_trans X1.sz fr_t_2
  exact X2.retR rfl rfl g5_10_7 K0_h2 ⟨x_2, t_2, rfl, sz_x_2, (X2.lt (.head _)), sz_t_2, (X2.lt (.tail _ (.head _))), P2_0⟩ (by decide) (by decide)
def Q_rh_ise0 (Z : State) (w1 : Addr) (a1 : Addr) (h0 : Heap) (ov : Option Value) (hz : Heap) : Prop := ov = some (.int (1 : Int32)) ∧ h0 = hz
theorem g5_9_0 : decode prog_5_method_9_code 0 = .ok (.aload_n 0, 1) := by decide +kernel
theorem g5_9_1 : decode prog_5_method_9_code 1 = .ok (.getfield 10, 3) := by decide +kernel
theorem g5_9_4 : decode prog_5_method_9_code 4 = .ok (.invokevirtual 34, 3) := by decide +kernel
theorem g5_9_7 : decode prog_5_method_9_code 7 = .ok (.ifCond .ne 7, 3) := by decide +kernel
theorem g5_9_10 : decode prog_5_method_9_code 10 = .ok (.iconst 1, 1) := by decide +kernel
theorem g5_9_11 : decode prog_5_method_9_code 11 = .ok (.goto 4, 3) := by decide +kernel
theorem g5_9_15 : decode prog_5_method_9_code 15 = .ok (.ireturn, 1) := by decide +kernel
abbrev RM_rh_ise0 : Room := { frames := 2, cells := 0, slots := 0, locals := 24 }
theorem rh_ise0 (l : Launch) (Z : State) (a0 : Array Value) (hw : ∀ d ∈ tables_1, d.before a0 Z = true) (n0 : Nat) (w1 : Addr) (a1 : Addr) (h0 : Heap) (hO : Old Z n0 h0) (pr0 : Fld Z h0 w1 "com/example/suricate/suricate/component/HtmlWriter" "html" "Ljava/lang/StringBuilder;" (.ref a1)) (pr1 : Exa Z h0 a1 "java/lang/StringBuilder") (pr2 : Fld Z h0 a1 "java/lang/AbstractStringBuilder" "count" "I" (.int (0 : Int32))) :
    Ct l (⟨"com/example/suricate/suricate/component/HtmlWriter", "isEmpty", "()Z"⟩ : MethodName) prog_5_method_9_code 1 (some .boolean) [] RM_rh_ise0 Z n0 #[(.ref w1)] h0 [] (Q_rh_ise0 Z w1 a1 h0) := by
  refine Ct.of_walk (plainFor_of_name pn_7) hO all0 ?_
  intro p e s m below meth c T0 X0
  rw [ef_R1 m w1]
  show Go _ _ _ _ (T0.setTop (mkF m 0 #[.val (.ref w1)] []))
  refine X0.aloadN g5_9_0 rfl rfl ?_
  obtain ⟨T1, X1, st1⟩ := X0.getF (host := "") (Or.inl (hw _ (gm 29 rfl))) Via.refl pr0 (g := (mkF m 1 #[.val (.ref w1)] [(.ref w1)])) rfl rfl g5_9_1
  refine Go.by st1 ?_
  obtain ⟨_, T2, h2, XX2, K2, ⟨rfl, rfl⟩, st2⟩ := X1.viX (W := 0) (hw _ (gm 125 rfl)) (hw _ (gm 126 rfl)) (hw _ (gm 128 rfl)) (hw _ (gm 127 rfl)) (by decide) ((rs_sln l Z a0 hw n0 a1 (0 : Int32) h0 X1.old pr1 pr2).pay (hw _ (gm 129 rfl)) (hw _ (gm 11 rfl)) (by decide) (by decide)) all0 pr1 (g := (mkF m 4 #[.val (.ref w1)] [(.ref a1)])) rfl rfl (argsL := []) (rest := []) (lenOf pd_9 rfl) rfl (by exact Nat.le_of_eq rfl) g5_9_4 rfl (by decide) (by decide)
  refine Go.tr st2 ?_
  have X2 := XX2 [] all0
  refine X2.ifNo g5_9_7 rfl (XT.i0_ne_f (by decide)) ?_
  refine X2.iconst g5_9_10 ?_
  refine X2.goto (pc0 := 11) (pc' := 15) rfl g5_9_11 (by decide) (by decide) ?_
  exact X2.retN (by simp) rfl g5_9_15 (Keep.refl h0 []) ⟨rfl, rfl⟩ (by decide) (by decide)
def Q_rh_ise1 (Z : State) (w1 : Addr) (a1 : Addr) (h0 : Heap) (ov : Option Value) (hz : Heap) : Prop := ov = some (.int (0 : Int32)) ∧ h0 = hz
theorem g5_9_14 : decode prog_5_method_9_code 14 = .ok (.iconst 0, 1) := by decide +kernel
abbrev RM_rh_ise1 : Room := { frames := 2, cells := 0, slots := 0, locals := 24 }
theorem rh_ise1 (l : Launch) (Z : State) (a0 : Array Value) (hw : ∀ d ∈ tables_1, d.before a0 Z = true) (n0 : Nat) (w1 : Addr) (a1 : Addr) (h0 : Heap) (hO : Old Z n0 h0) (pr0 : Fld Z h0 w1 "com/example/suricate/suricate/component/HtmlWriter" "html" "Ljava/lang/StringBuilder;" (.ref a1)) (pr1 : Exa Z h0 a1 "java/lang/StringBuilder") (pr2 : Fld Z h0 a1 "java/lang/AbstractStringBuilder" "count" "I" (.int (1 : Int32))) :
    Ct l (⟨"com/example/suricate/suricate/component/HtmlWriter", "isEmpty", "()Z"⟩ : MethodName) prog_5_method_9_code 1 (some .boolean) [] RM_rh_ise1 Z n0 #[(.ref w1)] h0 [] (Q_rh_ise1 Z w1 a1 h0) := by
  refine Ct.of_walk (plainFor_of_name pn_7) hO all0 ?_
  intro p e s m below meth c T0 X0
  rw [ef_R1 m w1]
  show Go _ _ _ _ (T0.setTop (mkF m 0 #[.val (.ref w1)] []))
  refine X0.aloadN g5_9_0 rfl rfl ?_
  obtain ⟨T1, X1, st1⟩ := X0.getF (host := "") (Or.inl (hw _ (gm 29 rfl))) Via.refl pr0 (g := (mkF m 1 #[.val (.ref w1)] [(.ref w1)])) rfl rfl g5_9_1
  refine Go.by st1 ?_
  obtain ⟨_, T2, h2, XX2, K2, ⟨rfl, rfl⟩, st2⟩ := X1.viX (W := 0) (hw _ (gm 125 rfl)) (hw _ (gm 126 rfl)) (hw _ (gm 128 rfl)) (hw _ (gm 127 rfl)) (by decide) ((rs_sln l Z a0 hw n0 a1 (1 : Int32) h0 X1.old pr1 pr2).pay (hw _ (gm 129 rfl)) (hw _ (gm 11 rfl)) (by decide) (by decide)) all0 pr1 (g := (mkF m 4 #[.val (.ref w1)] [(.ref a1)])) rfl rfl (argsL := []) (rest := []) (lenOf pd_9 rfl) rfl (by exact Nat.le_of_eq rfl) g5_9_4 rfl (by decide) (by decide)
  refine Go.tr st2 ?_
  have X2 := XX2 [] all0
  refine X2.ifYes (pc0 := 7) (pc' := 14) rfl g5_9_7 rfl (XT.i0_ne_t (by decide)) (by decide) (by decide) ?_
  refine X2.iconst g5_9_14 ?_
  exact X2.retN (by simp) rfl g5_9_15 (Keep.refl h0 []) ⟨rfl, rfl⟩ (by decide) (by decide)
def Q_rh_ise2 (Z : State) (w1 : Addr) (a1 : Addr) (h0 : Heap) (ov : Option Value) (hz : Heap) : Prop := ov = some (.int (0 : Int32)) ∧ h0 = hz
abbrev RM_rh_ise2 : Room := { frames := 2, cells := 0, slots := 0, locals := 24 }
theorem rh_ise2 (l : Launch) (Z : State) (a0 : Array Value) (hw : ∀ d ∈ tables_1, d.before a0 Z = true) (n0 : Nat) (w1 : Addr) (a1 : Addr) (h0 : Heap) (hO : Old Z n0 h0) (pr0 : Fld Z h0 w1 "com/example/suricate/suricate/component/HtmlWriter" "html" "Ljava/lang/StringBuilder;" (.ref a1)) (pr1 : Exa Z h0 a1 "java/lang/StringBuilder") (pr2 : Fld Z h0 a1 "java/lang/AbstractStringBuilder" "count" "I" (.int (2 : Int32))) :
    Ct l (⟨"com/example/suricate/suricate/component/HtmlWriter", "isEmpty", "()Z"⟩ : MethodName) prog_5_method_9_code 1 (some .boolean) [] RM_rh_ise2 Z n0 #[(.ref w1)] h0 [] (Q_rh_ise2 Z w1 a1 h0) := by
  refine Ct.of_walk (plainFor_of_name pn_7) hO all0 ?_
  intro p e s m below meth c T0 X0
  rw [ef_R1 m w1]
  show Go _ _ _ _ (T0.setTop (mkF m 0 #[.val (.ref w1)] []))
  refine X0.aloadN g5_9_0 rfl rfl ?_
  obtain ⟨T1, X1, st1⟩ := X0.getF (host := "") (Or.inl (hw _ (gm 29 rfl))) Via.refl pr0 (g := (mkF m 1 #[.val (.ref w1)] [(.ref w1)])) rfl rfl g5_9_1
  refine Go.by st1 ?_
  obtain ⟨_, T2, h2, XX2, K2, ⟨rfl, rfl⟩, st2⟩ := X1.viX (W := 0) (hw _ (gm 125 rfl)) (hw _ (gm 126 rfl)) (hw _ (gm 128 rfl)) (hw _ (gm 127 rfl)) (by decide) ((rs_sln l Z a0 hw n0 a1 (2 : Int32) h0 X1.old pr1 pr2).pay (hw _ (gm 129 rfl)) (hw _ (gm 11 rfl)) (by decide) (by decide)) all0 pr1 (g := (mkF m 4 #[.val (.ref w1)] [(.ref a1)])) rfl rfl (argsL := []) (rest := []) (lenOf pd_9 rfl) rfl (by exact Nat.le_of_eq rfl) g5_9_4 rfl (by decide) (by decide)
  refine Go.tr st2 ?_
  have X2 := XX2 [] all0
  refine X2.ifYes (pc0 := 7) (pc' := 14) rfl g5_9_7 rfl (XT.i0_ne_t (by decide)) (by decide) (by decide) ?_
  refine X2.iconst g5_9_14 ?_
  exact X2.retN (by simp) rfl g5_9_15 (Keep.refl h0 []) ⟨rfl, rfl⟩ (by decide) (by decide)
def Q_rh_ise3 (Z : State) (w1 : Addr) (a1 : Addr) (h0 : Heap) (ov : Option Value) (hz : Heap) : Prop := ov = some (.int (0 : Int32)) ∧ h0 = hz
abbrev RM_rh_ise3 : Room := { frames := 2, cells := 0, slots := 0, locals := 24 }
theorem rh_ise3 (l : Launch) (Z : State) (a0 : Array Value) (hw : ∀ d ∈ tables_1, d.before a0 Z = true) (n0 : Nat) (w1 : Addr) (a1 : Addr) (h0 : Heap) (hO : Old Z n0 h0) (pr0 : Fld Z h0 w1 "com/example/suricate/suricate/component/HtmlWriter" "html" "Ljava/lang/StringBuilder;" (.ref a1)) (pr1 : Exa Z h0 a1 "java/lang/StringBuilder") (pr2 : Fld Z h0 a1 "java/lang/AbstractStringBuilder" "count" "I" (.int (3 : Int32))) :
    Ct l (⟨"com/example/suricate/suricate/component/HtmlWriter", "isEmpty", "()Z"⟩ : MethodName) prog_5_method_9_code 1 (some .boolean) [] RM_rh_ise3 Z n0 #[(.ref w1)] h0 [] (Q_rh_ise3 Z w1 a1 h0) := by
  refine Ct.of_walk (plainFor_of_name pn_7) hO all0 ?_
  intro p e s m below meth c T0 X0
  rw [ef_R1 m w1]
  show Go _ _ _ _ (T0.setTop (mkF m 0 #[.val (.ref w1)] []))
  refine X0.aloadN g5_9_0 rfl rfl ?_
  obtain ⟨T1, X1, st1⟩ := X0.getF (host := "") (Or.inl (hw _ (gm 29 rfl))) Via.refl pr0 (g := (mkF m 1 #[.val (.ref w1)] [(.ref w1)])) rfl rfl g5_9_1
  refine Go.by st1 ?_
  obtain ⟨_, T2, h2, XX2, K2, ⟨rfl, rfl⟩, st2⟩ := X1.viX (W := 0) (hw _ (gm 125 rfl)) (hw _ (gm 126 rfl)) (hw _ (gm 128 rfl)) (hw _ (gm 127 rfl)) (by decide) ((rs_sln l Z a0 hw n0 a1 (3 : Int32) h0 X1.old pr1 pr2).pay (hw _ (gm 129 rfl)) (hw _ (gm 11 rfl)) (by decide) (by decide)) all0 pr1 (g := (mkF m 4 #[.val (.ref w1)] [(.ref a1)])) rfl rfl (argsL := []) (rest := []) (lenOf pd_9 rfl) rfl (by exact Nat.le_of_eq rfl) g5_9_4 rfl (by decide) (by decide)
  refine Go.tr st2 ?_
  have X2 := XX2 [] all0
  refine X2.ifYes (pc0 := 7) (pc' := 14) rfl g5_9_7 rfl (XT.i0_ne_t (by decide)) (by decide) (by decide) ?_
  refine X2.iconst g5_9_14 ?_
  exact X2.retN (by simp) rfl g5_9_15 (Keep.refl h0 []) ⟨rfl, rfl⟩ (by decide) (by decide)
def Q_rh_ise4 (Z : State) (w1 : Addr) (a1 : Addr) (h0 : Heap) (ov : Option Value) (hz : Heap) : Prop := ov = some (.int (0 : Int32)) ∧ h0 = hz
abbrev RM_rh_ise4 : Room := { frames := 2, cells := 0, slots := 0, locals := 24 }
theorem rh_ise4 (l : Launch) (Z : State) (a0 : Array Value) (hw : ∀ d ∈ tables_1, d.before a0 Z = true) (n0 : Nat) (w1 : Addr) (a1 : Addr) (h0 : Heap) (hO : Old Z n0 h0) (pr0 : Fld Z h0 w1 "com/example/suricate/suricate/component/HtmlWriter" "html" "Ljava/lang/StringBuilder;" (.ref a1)) (pr1 : Exa Z h0 a1 "java/lang/StringBuilder") (pr2 : Fld Z h0 a1 "java/lang/AbstractStringBuilder" "count" "I" (.int (4 : Int32))) :
    Ct l (⟨"com/example/suricate/suricate/component/HtmlWriter", "isEmpty", "()Z"⟩ : MethodName) prog_5_method_9_code 1 (some .boolean) [] RM_rh_ise4 Z n0 #[(.ref w1)] h0 [] (Q_rh_ise4 Z w1 a1 h0) := by
  refine Ct.of_walk (plainFor_of_name pn_7) hO all0 ?_
  intro p e s m below meth c T0 X0
  rw [ef_R1 m w1]
  show Go _ _ _ _ (T0.setTop (mkF m 0 #[.val (.ref w1)] []))
  refine X0.aloadN g5_9_0 rfl rfl ?_
  obtain ⟨T1, X1, st1⟩ := X0.getF (host := "") (Or.inl (hw _ (gm 29 rfl))) Via.refl pr0 (g := (mkF m 1 #[.val (.ref w1)] [(.ref w1)])) rfl rfl g5_9_1
  refine Go.by st1 ?_
  obtain ⟨_, T2, h2, XX2, K2, ⟨rfl, rfl⟩, st2⟩ := X1.viX (W := 0) (hw _ (gm 125 rfl)) (hw _ (gm 126 rfl)) (hw _ (gm 128 rfl)) (hw _ (gm 127 rfl)) (by decide) ((rs_sln l Z a0 hw n0 a1 (4 : Int32) h0 X1.old pr1 pr2).pay (hw _ (gm 129 rfl)) (hw _ (gm 11 rfl)) (by decide) (by decide)) all0 pr1 (g := (mkF m 4 #[.val (.ref w1)] [(.ref a1)])) rfl rfl (argsL := []) (rest := []) (lenOf pd_9 rfl) rfl (by exact Nat.le_of_eq rfl) g5_9_4 rfl (by decide) (by decide)
  refine Go.tr st2 ?_
  have X2 := XX2 [] all0
  refine X2.ifYes (pc0 := 7) (pc' := 14) rfl g5_9_7 rfl (XT.i0_ne_t (by decide)) (by decide) (by decide) ?_
  refine X2.iconst g5_9_14 ?_
  exact X2.retN (by simp) rfl g5_9_15 (Keep.refl h0 []) ⟨rfl, rfl⟩ (by decide) (by decide)
theorem own_and3 (v : Int32) : v &&& 3 = 0 ∨ v &&& 3 = 1 ∨ v &&& 3 = 2 ∨ v &&& 3 = 3 := by
  have t : ∀ k : Fin 4, Int32.ofNat k.val = 0 ∨ Int32.ofNat k.val = 1 ∨ Int32.ofNat k.val = 2 ∨ Int32.ofNat k.val = 3 := by decide
  have h : (v &&& 3).toBitVec.toNat < 4 := by
    simp only [Int32.toBitVec_and, BitVec.toNat_and]
    exact Nat.lt_succ_of_le Nat.and_le_right
  have e : (v &&& 3) = Int32.ofNat (v &&& 3).toBitVec.toNat := by
    apply Int32.toBitVec_inj.mp
    show _ = BitVec.ofNat 32 _
    rw [BitVec.ofNat_toNat]; simp
  rw [e]; exact t ⟨_, h⟩
theorem own_nw {ds : List Int32} (h : ¬ ∃ c ∈ ds, (255 : Int32) < c) : ∀ c ∈ ds, ¬ (255 : Int32) < c := fun c hc q => h ⟨c, hc, q⟩
theorem own_r1 {A B : Prop} {r : Int32} (h : (r = 1 ∧ A) ∨ (r = 0 ∧ ¬ B)) (b : B) : ¬ r = 0 := fun q => by rcases h with ⟨e, _⟩ | ⟨_, e⟩; rw [q] at e; exact absurd e (by decide); exact e b
theorem ef_IIII13 (m : MethodId) (x0 : Int32) (x1 : Int32) (x2 : Int32) (x3 : Int32) : entryFrame m #[(.int x0), (.int x1), (.int x2), (.int x3)] 13 = mkF m 0 #[.val (.int x0), .val (.int x1), .val (.int x2), .val (.int x3), .unset, .unset, .unset, .unset, .unset, .unset, .unset, .unset, .unset] [] := by first | (simp [entryFrame, mkF, argsToLocals, Value.category]; done) | rfl
def Q_rm_law (Z : State) (i0 : Int32) (i1 : Int32) (i2 : Int32) (i3 : Int32) (zc : Int32) (vf : Value) (h0 : Heap) (ov : Option Value) (hz : Heap) : Prop := ov = some (.int (1 : Int32))
theorem pd_38 : parseMethodDescriptor "(ICCCZ)Ljava/lang/String;" = some ⟨[.int, .char, .char, .char, .boolean], some (.object "java/lang/String")⟩ := by decide +kernel
theorem pd_39 : parseMethodDescriptor "(Ljava/lang/CharSequence;)Lcom/example/suricate/suricate/component/HtmlWriter;" = some ⟨[(.object "java/lang/CharSequence")], some (.object "com/example/suricate/suricate/component/HtmlWriter")⟩ := by decide +kernel
theorem pd_40 : parseMethodDescriptor "()Lcom/example/suricate/suricate/component/HtmlWriter;" = some ⟨[], some (.object "com/example/suricate/suricate/component/HtmlWriter")⟩ := by decide +kernel
theorem pd_41 : parseMethodDescriptor "(Ljava/lang/Object;)Z" = some ⟨[(.object "java/lang/Object")], some .boolean⟩ := by decide +kernel
theorem rm_law (l : Launch) (Z : State) (a0 : Array Value) (hw : ∀ d ∈ tables_1, d.before a0 Z = true) (n0 : Nat) (i0 : Int32) (i1 : Int32) (i2 : Int32) (i3 : Int32) (zc : Int32) (vf : Value) (h0 : Heap) (hO : Old Z n0 h0) (Sc : SC Z zc) (nc : ¬ (zc = (0 : Int32))) (Sa : SA1 Z) (Su : SU1 Z) (Sv : SV1 Z) (Sf : SF1 Z vf) (rf : vf.isRef = true) :
    Cw l x code maxLocals ret tables_1 room_1 Z EL n0 #[(.int i0), (.int i1), (.int i2), (.int i3)] h0 [] [] (Q_rm_law Z i0 i1 i2 i3 zc vf h0) := by
  refine Cw.of_walk (plainFor_of_name pn_8) hO (own_EW hw) all0 ?_
  intro p e s m below meth c T0 X0
  show Go _ _ _ _ (T0.setTop (entryFrame m #[(.int i0), (.int i1), (.int i2), (.int i3)] 13))
  rw [ef_IIII13 m i0 i1 i2 i3]
  show Go _ _ _ _ (T0.setTop (mkF m 0 #[.val (.int i0), .val (.int i1), .val (.int i2), .val (.int i3), .unset, .unset, .unset, .unset, .unset, .unset, .unset, .unset, .unset] []))
  refine X0.iloadN at_0 rfl ?_
  refine X0.iconst at_1 ?_
  refine X0.iand at_2 rfl ?_
  obtain ⟨nl, hnl⟩ : ∃ nl, nl = i0 &&& 3 := ⟨_, rfl⟩
  have hn4 := own_and3 i0
  show Go _ _ _ _ (T0.setTop (mkF m 3 #[.val (.int i0), .val (.int i1), .val (.int i2), .val (.int i3), .unset, .unset, .unset, .unset, .unset, .unset, .unset, .unset, .unset] [(.int (i0 &&& (3 : Int32)))]))
  rw [← hnl] at hn4
  rw [← hnl]
  show Go _ _ _ _ (T0.setTop (mkF m 3 #[.val (.int i0), .val (.int i1), .val (.int i2), .val (.int i3), .unset, .unset, .unset, .unset, .unset, .unset, .unset, .unset, .unset] [(.int nl)]))
  refine X0.istore at_3 rfl (l' := #[.val (.int i0), .val (.int i1), .val (.int i2), .val (.int i3), .val (.int nl), .unset, .unset, .unset, .unset, .unset, .unset, .unset, .unset]) rfl ?_
  refine X0.iloadN at_5 rfl ?_
  refine X0.i2c at_6 rfl ?_
  refine X0.istore at_7 rfl (l' := #[.val (.int i0), .val (.int i1), .val (.int i2), .val (.int i3), .val (.int nl), .val (.int ((i1).toUInt32.toUInt16.toUInt32.toInt32)), .unset, .unset, .unset, .unset, .unset, .unset, .unset]) rfl ?_
  refine X0.iloadN at_9 rfl ?_
  refine X0.i2c at_10 rfl ?_
  refine X0.istore at_11 rfl (l' := #[.val (.int i0), .val (.int i1), .val (.int i2), .val (.int i3), .val (.int nl), .val (.int ((i1).toUInt32.toUInt16.toUInt32.toInt32)), .val (.int ((i2).toUInt32.toUInt16.toUInt32.toInt32)), .unset, .unset, .unset, .unset, .unset, .unset]) rfl ?_
  refine X0.iloadN at_13 rfl ?_
  refine X0.i2c at_14 rfl ?_
  refine X0.istore at_15 rfl (l' := #[.val (.int i0), .val (.int i1), .val (.int i2), .val (.int i3), .val (.int nl), .val (.int ((i1).toUInt32.toUInt16.toUInt32.toInt32)), .val (.int ((i2).toUInt32.toUInt16.toUInt32.toInt32)), .val (.int ((i3).toUInt32.toUInt16.toUInt32.toInt32)), .unset, .unset, .unset, .unset, .unset]) rfl ?_
  obtain ⟨ca, eca⟩ : ∃ z, z = (i1).toUInt32.toUInt16.toUInt32.toInt32 := ⟨_, rfl⟩
  have hca : ¬ ca < 0 ∧ ¬ (65535 : Int32) < ca := by rw [eca]; exact own_c16 _
  show Go _ _ _ _ (T0.setTop (mkF m 17 #[.val (.int i0), .val (.int i1), .val (.int i2), .val (.int i3), .val (.int nl), .val (.int ((i1).toUInt32.toUInt16.toUInt32.toInt32)), .val (.int ((i2).toUInt32.toUInt16.toUInt32.toInt32)), .val (.int ((i3).toUInt32.toUInt16.toUInt32.toInt32)), .unset, .unset, .unset, .unset, .unset] []))
  rw [← eca]
  obtain ⟨cb, ecb⟩ : ∃ z, z = (i2).toUInt32.toUInt16.toUInt32.toInt32 := ⟨_, rfl⟩
  have hcb : ¬ cb < 0 ∧ ¬ (65535 : Int32) < cb := by rw [ecb]; exact own_c16 _
  rw [← ecb]
  obtain ⟨cc, ecc⟩ : ∃ z, z = (i3).toUInt32.toUInt16.toUInt32.toInt32 := ⟨_, rfl⟩
  have hcc : ¬ cc < 0 ∧ ¬ (65535 : Int32) < cc := by rw [ecc]; exact own_c16 _
  rw [← ecc]
  show Go _ _ _ _ (T0.setTop (mkF m 17 #[.val (.int i0), .val (.int i1), .val (.int i2), .val (.int i3), .val (.int nl), .val (.int ca), .val (.int cb), .val (.int cc), .unset, .unset, .unset, .unset, .unset] []))
  rcases hn4 with hn | hn | hn | hn <;> subst hn
  · show Go _ _ _ _ (T0.setTop (mkF m 17 #[.val (.int i0), .val (.int i1), .val (.int i2), .val (.int i3), .val (.int (0 : Int32)), .val (.int ca), .val (.int cb), .val (.int cc), .unset, .unset, .unset, .unset, .unset] []))
    obtain ⟨T1, h1, b1, g_b1, X1, E1, A1, D1, st1⟩ := X0.new (hw _ (gm 0 rfl)) (hw _ (gm 1 rfl)) (hw _ (gm 2 rfl)) (g := (mkF m 17 #[.val (.int i0), .val (.int i1), .val (.int i2), .val (.int i3), .val (.int (0 : Int32)), .val (.int ca), .val (.int cb), .val (.int cc), .unset, .unset, .unset, .unset, .unset] [])) rfl at_17 (by decide) (by decide)
    refine Go.by st1 ?_
    have sz_b1 := Nat.le_trans X0.sz (Nat.le_of_eq g_b1.symm)
    have K0_h1 := (Keep.refl h0 []).ext E1
    have F1_html : Fld Z h1 b1 "com/example/suricate/suricate/component/HtmlWriter" "html" "Ljava/lang/StringBuilder;" .null := D1 (Or.inr (hw _ (gm 30 rfl))) (ty := (.object "java/lang/StringBuilder")) (by decide)
    refine X1.dup at_20 rfl rfl ?_
    have lt_b1_2 := (X1.lt (.head _))
    obtain ⟨_, T2, h2, XX2, K2, ⟨sb_2, vb_2, kb_2, rfl, fr_sb_2, fl_sb_2, fr_vb_2, fl_vb_2, P2_0, P2_1, P2_2, P2_3, P2_4, P2_5, P2_6, p2_0⟩, st2⟩ := X1.spX (W := 1) rfl (hw _ (gm 3 rfl)) (hw _ (gm 4 rfl)) (hw _ (gm 5 rfl)) (by decide) ((rh_hwi l Z a0 hw n0 b1 .null zc h1 X1.old A1 F1_html Sc nc (X1.ge (.head _)) (X1.lt (.head _))).pay (hw _ (gm 5 rfl)) (hw _ (gm 2 rfl)) (by decide) (by decide)) (allS (.head _) all0) (g := (mkF m 21 #[.val (.int i0), .val (.int i1), .val (.int i2), .val (.int i3), .val (.int (0 : Int32)), .val (.int ca), .val (.int cb), .val (.int cc), .unset, .unset, .unset, .unset, .unset] [(.ref b1), (.ref b1)])) rfl rfl (a := b1) (argsL := []) (rest := [(.ref b1)]) (lenOf pd_23 rfl) rfl (by exact Nat.le_of_eq rfl) at_21 rfl (by decide) (by decide)
    refine Go.tr st2 ?_
    have X2 := XX2 [sb_2, vb_2] (allS (Or.inr ⟨fr_sb_2, fl_sb_2⟩) (allS (Or.inr ⟨fr_vb_2, fl_vb_2⟩) all0))
    have K0_h2 := K0_h1.trans K2 (allS (Or.inr sz_b1) all0)
    have ne_b1_sb_2 := ne_ge lt_b1_2 fr_sb_2
    have sz_sb_2 := Nat.le_trans X1.sz fr_sb_2
    have ne_b1_vb_2 := ne_ge lt_b1_2 fr_vb_2
    have sz_vb_2 := Nat.le_trans X1.sz fr_vb_2
    have f3 : Fld Z h2 sb_2 "java/lang/AbstractStringBuilder" "count" "I" (.int (Int32.ofNat ([] : List Int32).length)) := P2_4
    have f4 : Arv Z h2 vb_2 kb_2 .byte (16 : Int32) (([] : List Int32).map fun c => Value.int (StrChars.lo8 c)) (.int (0 : Int32)) := P2_6
    refine X2.astore at_24 rfl rfl (l' := #[.val (.int i0), .val (.int i1), .val (.int i2), .val (.int i3), .val (.int (0 : Int32)), .val (.int ca), .val (.int cb), .val (.int cc), .val (.ref b1), .unset, .unset, .unset, .unset]) rfl ?_
    refine X2.aload at_26 rfl rfl ?_
    refine X2.iload at_28 rfl ?_
    refine X2.iload at_30 rfl ?_
    refine X2.iload at_32 rfl ?_
    refine X2.iload at_34 rfl ?_
    refine X2.iconst at_36 ?_
    have lt_sb_2_5 := (X2.lt (.head _))
    have lt_vb_2_5 := (X2.lt (.tail _ (.head _)))
    obtain ⟨_, T5, h5, X5, K5, ⟨x_5, t_5, rfl, fr_x_5, fl_x_5, P5_0, p5_0, p5_1⟩, st5⟩ := X2.stW (W := 1) (hw _ (gm 31 rfl)) (hw _ (gm 32 rfl)) (hw _ (gm 33 rfl)) (hw _ (gm 34 rfl)) (by decide) ((rh_str00 l Z a0 hw n0 ca cb cc vb_2 sb_2 zc h2 X2.old Sc nc Sa Su Sv hca hcb hcc (X2.ge (.tail _ (.head _))) (X2.lt (.tail _ (.head _))) (X2.ge (.head _)) (X2.lt (.head _))).pay (hw _ (gm 34 rfl)) (hw _ (gm 33 rfl)) (own_EW hw) (by decide) (by decide)) all0 (allS (.tail _ (.head _)) (allS (.head _) all0)) (g := (mkF m 37 #[.val (.int i0), .val (.int i1), .val (.int i2), .val (.int i3), .val (.int (0 : Int32)), .val (.int ca), .val (.int cb), .val (.int cc), .val (.ref b1), .unset, .unset, .unset, .unset] [(.int (0 : Int32)), (.int cc), (.int cb), (.int ca), (.int (0 : Int32)), (.ref b1)])) rfl rfl (argsL := [(.int (0 : Int32)), (.int ca), (.int cb), (.int cc), (.int (0 : Int32))]) (rest := [(.ref b1)]) (lenOf pd_38 rfl) rfl (by exact Nat.le_of_eq rfl) at_37 rfl (by decide) (by decide)
    refine Go.tr st5 ?_
    have K0_h5 := K0_h2.trans K5 all0
    have ne_sb_2_x_5 := ne_ge lt_sb_2_5 fr_x_5
    have ne_vb_2_x_5 := ne_ge lt_vb_2_5 fr_x_5
    have f6 := (P2_0).keep K5 nin0
    have f7 := (P2_1).keep K5
    have f8 := (P2_2).keep K5 nin0
    have f9 := (P2_3).keep K5 nin0
    have f10 := (f3).keep K5 nin0
    have f11 := (P2_5).keep K5 nin0
    have f12 := (f4).keep K5 nin0
    have f14 := ((A1).keep K2).keep K5
    obtain ⟨_, T13, h13, XX13, K13, ⟨rfl, P13_0, P13_1, P13_2, P13_3, P13_4⟩, st13⟩ := X5.viX (W := 0) (hw _ (gm 53 rfl)) (hw _ (gm 54 rfl)) (hw _ (gm 56 rfl)) (hw _ (gm 55 rfl)) (by decide) ((rh_mk0 l Z a0 hw n0 b1 sb_2 vb_2 kb_2 ([] : List Int32) x_5 t_5 [] zc vf h5 X5.old f6 f7 f8 f9 f10 f11 f12 P5_0 Sc nc Sa Su Sv Sf rf (fun c hc => nomatch hc) (Nat.le_of_ble_eq_true rfl) ne_sb_2_x_5.symm p5_1.symm ne_vb_2_x_5.symm p5_0.symm p2_0 (fun c hc => nomatch hc) (X5.ge (.head _)) (X5.lt (.head _)) (X5.ge (.tail _ (.head _))) (X5.lt (.tail _ (.head _)))).pay (hw _ (gm 57 rfl)) (hw _ (gm 2 rfl)) (by decide) (by decide)) (allS (.head _) (allS (.tail _ (.head _)) all0)) f14 (g := (mkF m 40 #[.val (.int i0), .val (.int i1), .val (.int i2), .val (.int i3), .val (.int (0 : Int32)), .val (.int ca), .val (.int cb), .val (.int cc), .val (.ref b1), .unset, .unset, .unset, .unset] [(.ref x_5), (.ref b1)])) rfl rfl (argsL := [(.ref x_5)]) (rest := []) (lenOf pd_39 rfl) rfl (by exact Nat.le_of_eq rfl) at_40 rfl (by decide) (by decide)
    refine Go.tr st13 ?_
    have X13 := XX13 [] all0
    have K0_h13 := K0_h5.trans K13 (allS (Or.inr sz_sb_2) (allS (Or.inr sz_vb_2) all0))
    show Go _ _ _ _ (T13.setTop (mkF m 43 #[.val (.int i0), .val (.int i1), .val (.int i2), .val (.int i3), .val (.int (0 : Int32)), .val (.int ca), .val (.int cb), .val (.int cc), .val (.ref b1), .unset, .unset, .unset, .unset] [(.ref b1)]))
    have f15 : Fld Z h13 sb_2 "java/lang/AbstractStringBuilder" "count" "I" (.int (0 : Int32)) := P13_2
    refine X13.pop at_43 rfl rfl ?_
    refine X13.aload at_44 rfl rfl ?_
    have f16 := (f6).keep K13 (ninS ne_b1_sb_2 (ninS ne_b1_vb_2 nin0))
    have f17 := (f7).keep K13
    have f19 := (f14).keep K13
    obtain ⟨_, T18, h18, XX18, K18, ⟨rfl, rfl⟩, st18⟩ := X13.viX (W := 0) (hw _ (gm 120 rfl)) (hw _ (gm 121 rfl)) (hw _ (gm 123 rfl)) (hw _ (gm 122 rfl)) (by decide) ((rh_ise0 l Z a0 hw n0 b1 sb_2 h13 X13.old f16 f17 f15).pay (hw _ (gm 124 rfl)) (hw _ (gm 2 rfl)) (by decide) (by decide)) all0 f19 (g := (mkF m 46 #[.val (.int i0), .val (.int i1), .val (.int i2), .val (.int i3), .val (.int (0 : Int32)), .val (.int ca), .val (.int cb), .val (.int cc), .val (.ref b1), .unset, .unset, .unset, .unset] [(.ref b1)])) rfl rfl (argsL := []) (rest := []) (lenOf pd_15 rfl) rfl (by exact Nat.le_of_eq rfl) at_46 rfl (by decide) (by decide)
    refine Go.tr st18 ?_
    have X18 := XX18 [] all0
    have f20 : Fld Z h13 sb_2 "java/lang/AbstractStringBuilder" "count" "I" (.int (Int32.ofNat (([] : List Int32) ++ []).length)) := f15
    refine X18.istore at_49 rfl (l' := #[.val (.int i0), .val (.int i1), .val (.int i2), .val (.int i3), .val (.int (0 : Int32)), .val (.int ca), .val (.int cb), .val (.int cc), .val (.ref b1), .val (.int (1 : Int32)), .unset, .unset, .unset]) rfl ?_
    refine X18.aload at_51 rfl rfl ?_
    obtain ⟨_, T21, h21, XX21, K21, ⟨rfl, P21_0, P21_1, P21_2, P21_3, P21_4⟩, st21⟩ := X18.viX (W := 0) (hw _ (gm 134 rfl)) (hw _ (gm 135 rfl)) (hw _ (gm 137 rfl)) (hw _ (gm 136 rfl)) (by decide) ((rh_cst0 l Z a0 hw n0 b1 sb_2 vb_2 kb_2 (([] : List Int32) ++ []) zc vf h13 X18.old f16 f17 P13_0 P13_1 f20 P13_3 P13_4 Sc nc Sa Su Sv Sf rf (Nat.le_of_ble_eq_true rfl) p2_0 (X18.ge (.head _)) (X18.lt (.head _)) (X18.ge (.tail _ (.head _))) (X18.lt (.tail _ (.head _)))).pay (hw _ (gm 138 rfl)) (hw _ (gm 2 rfl)) (by decide) (by decide)) (allS (.head _) (allS (.tail _ (.head _)) all0)) f19 (g := (mkF m 53 #[.val (.int i0), .val (.int i1), .val (.int i2), .val (.int i3), .val (.int (0 : Int32)), .val (.int ca), .val (.int cb), .val (.int cc), .val (.ref b1), .val (.int (1 : Int32)), .unset, .unset, .unset] [(.ref b1)])) rfl rfl (argsL := []) (rest := []) (lenOf pd_40 rfl) rfl (by exact Nat.le_of_eq rfl) at_53 rfl (by decide) (by decide)
    refine Go.tr st21 ?_
    have X21 := XX21 [] all0
    have K0_h21 := K0_h13.trans K21 (allS (Or.inr sz_sb_2) (allS (Or.inr sz_vb_2) all0))
    have f22 : Fld Z h21 sb_2 "java/lang/AbstractStringBuilder" "count" "I" (.int (1 : Int32)) := P21_2
    refine X21.astore at_56 rfl rfl (l' := #[.val (.int i0), .val (.int i1), .val (.int i2), .val (.int i3), .val (.int (0 : Int32)), .val (.int ca), .val (.int cb), .val (.int cc), .val (.ref b1), .val (.int (1 : Int32)), .val (.ref b1), .unset, .unset]) rfl ?_
    refine X21.aload at_58 rfl rfl ?_
    have f23 := (f16).keep K21 (ninS ne_b1_sb_2 (ninS ne_b1_vb_2 nin0))
    have f24 := (f17).keep K21
    have f26 := (f19).keep K21
    obtain ⟨_, T25, h25, XX25, K25, ⟨rfl, rfl⟩, st25⟩ := X21.viX (W := 0) (hw _ (gm 120 rfl)) (hw _ (gm 121 rfl)) (hw _ (gm 123 rfl)) (hw _ (gm 122 rfl)) (by decide) ((rh_ise1 l Z a0 hw n0 b1 sb_2 h21 X21.old f23 f24 f22).pay (hw _ (gm 124 rfl)) (hw _ (gm 2 rfl)) (by decide) (by decide)) all0 f26 (g := (mkF m 60 #[.val (.int i0), .val (.int i1), .val (.int i2), .val (.int i3), .val (.int (0 : Int32)), .val (.int ca), .val (.int cb), .val (.int cc), .val (.ref b1), .val (.int (1 : Int32)), .val (.ref b1), .unset, .unset] [(.ref b1)])) rfl rfl (argsL := []) (rest := []) (lenOf pd_15 rfl) rfl (by exact Nat.le_of_eq rfl) at_60 rfl (by decide) (by decide)
    refine Go.tr st25 ?_
    have X25 := XX25 [] all0
    have f27 : Fld Z h21 sb_2 "java/lang/AbstractStringBuilder" "count" "I" (.int (Int32.ofNat ((([] : List Int32) ++ []) ++ [(62 : Int32)]).length)) := f22
    refine X25.istore at_63 rfl (l' := #[.val (.int i0), .val (.int i1), .val (.int i2), .val (.int i3), .val (.int (0 : Int32)), .val (.int ca), .val (.int cb), .val (.int cc), .val (.ref b1), .val (.int (1 : Int32)), .val (.ref b1), .val (.int (0 : Int32)), .unset]) rfl ?_
    refine X25.aload at_65 rfl rfl ?_
    obtain ⟨_, T28, h28, XX28, K28, ⟨x_28, t_28, rfl, fr_x_28, fl_x_28, fr_t_28, fl_t_28, P28_0⟩, st28⟩ := X25.viX (W := 0) (hw _ (gm 157 rfl)) (hw _ (gm 158 rfl)) (hw _ (gm 160 rfl)) (hw _ (gm 159 rfl)) (by decide) ((rh_tst0 l Z a0 hw n0 b1 sb_2 vb_2 kb_2 ((([] : List Int32) ++ []) ++ [(62 : Int32)]) zc vf h21 X25.old f23 f24 P21_0 P21_1 f27 P21_3 P21_4 Sc nc Sa Su Sv Sf rf (all1 ⟨by decide, by decide⟩ alln) (Nat.le_of_ble_eq_true rfl)).pay (hw _ (gm 161 rfl)) (hw _ (gm 2 rfl)) (by decide) (by decide)) all0 f26 (g := (mkF m 67 #[.val (.int i0), .val (.int i1), .val (.int i2), .val (.int i3), .val (.int (0 : Int32)), .val (.int ca), .val (.int cb), .val (.int cc), .val (.ref b1), .val (.int (1 : Int32)), .val (.ref b1), .val (.int (0 : Int32)), .unset] [(.ref b1)])) rfl rfl (argsL := []) (rest := []) (lenOf pd_37 rfl) rfl (by exact Nat.le_of_eq rfl) at_67 rfl (by decide) (by decide)
    refine Go.tr st28 ?_
    have X28 := XX28 [x_28, t_28] (allS (Or.inr ⟨fr_x_28, fl_x_28⟩) (allS (Or.inr ⟨fr_t_28, fl_t_28⟩) all0))
    have K0_h28 := K0_h21.trans K28 all0
    show Go _ _ _ _ (T28.setTop (mkF m 70 #[.val (.int i0), .val (.int i1), .val (.int i2), .val (.int i3), .val (.int (0 : Int32)), .val (.int ca), .val (.int cb), .val (.int cc), .val (.ref b1), .val (.int (1 : Int32)), .val (.ref b1), .val (.int (0 : Int32)), .unset] [(.ref x_28)]))
    refine X28.astore at_70 rfl rfl (l' := #[.val (.int i0), .val (.int i1), .val (.int i2), .val (.int i3), .val (.int (0 : Int32)), .val (.int ca), .val (.int cb), .val (.int cc), .val (.ref b1), .val (.int (1 : Int32)), .val (.ref b1), .val (.int (0 : Int32)), .val (.ref x_28)]) rfl ?_
    refine X28.aload at_72 rfl rfl ?_
    refine X28.aload at_74 rfl rfl ?_
    refine Go.by (fun _ k => X28.acmp (cd := .ne) (x := (.ref b1)) (y' := (.ref b1)) rfl rfl (g := (mkF m 76 #[.val (.int i0), .val (.int i1), .val (.int i2), .val (.int i3), .val (.int (0 : Int32)), .val (.int ca), .val (.int cb), .val (.int cc), .val (.ref b1), .val (.int (1 : Int32)), .val (.ref b1), .val (.int (0 : Int32)), .val (.ref x_28)] [(.ref b1), (.ref b1)])) rfl (pc0 := 76) (pc' := 79) (same := true) rfl at_76 rfl (decide_eq_true rfl) (by decide) (by decide) _ k) ?_
    show Go _ _ _ _ (T28.setTop (mkF m 79 #[.val (.int i0), .val (.int i1), .val (.int i2), .val (.int i3), .val (.int (0 : Int32)), .val (.int ca), .val (.int cb), .val (.int cc), .val (.ref b1), .val (.int (1 : Int32)), .val (.ref b1), .val (.int (0 : Int32)), .val (.ref x_28)] []))
    refine X28.iload at_79 rfl ?_
    refine X28.iload at_81 rfl ?_
    refine X28.ifNo at_83 rfl (XT.i0_ne_f (by decide)) ?_
    refine X28.iconst at_86 ?_
    refine X28.goto (pc0 := 87) (pc' := 91) rfl at_87 (by decide) (by decide) ?_
    refine X28.icmpNo at_91 rfl (XT.ii_ne_f (by decide)) ?_
    refine X28.iload at_94 rfl ?_
    refine X28.ifNo at_96 rfl (XT.i0_ne_f (by decide)) ?_
    refine X28.aload at_99 rfl rfl ?_
    refine X28.iload at_101 rfl ?_
    refine X28.iload at_103 rfl ?_
    refine X28.iload at_105 rfl ?_
    show Go _ _ _ _ (T28.setTop (mkF m 107 #[.val (.int i0), .val (.int i1), .val (.int i2), .val (.int i3), .val (.int (0 : Int32)), .val (.int ca), .val (.int cb), .val (.int cc), .val (.ref b1), .val (.int (1 : Int32)), .val (.ref b1), .val (.int (0 : Int32)), .val (.ref x_28)] [(.int cb), (.int ca), (.int (0 : Int32)), (.ref x_28)]))
    refine X28.iload at_107 rfl ?_
    refine X28.iconst at_109 ?_
    obtain ⟨_, T30, h30, XX30, K30, ⟨x_30, t_30, rfl, fr_x_30, fl_x_30, fr_t_30, fl_t_30, P30_0⟩, st30⟩ := X28.stX (W := 1) (hw _ (gm 31 rfl)) (hw _ (gm 32 rfl)) (hw _ (gm 33 rfl)) (hw _ (gm 34 rfl)) (by decide) ((rh_str01 l Z a0 hw n0 ca cb cc zc h28 X28.old Sc nc Sa Su Sv hca hcb hcc).pay (hw _ (gm 34 rfl)) (hw _ (gm 33 rfl)) (by decide) (by decide)) all0 (g := (mkF m 110 #[.val (.int i0), .val (.int i1), .val (.int i2), .val (.int i3), .val (.int (0 : Int32)), .val (.int ca), .val (.int cb), .val (.int cc), .val (.ref b1), .val (.int (1 : Int32)), .val (.ref b1), .val (.int (0 : Int32)), .val (.ref x_28)] [(.int (1 : Int32)), (.int cc), (.int cb), (.int ca), (.int (0 : Int32)), (.ref x_28)])) rfl rfl (argsL := [(.int (0 : Int32)), (.int ca), (.int cb), (.int cc), (.int (1 : Int32))]) (rest := [(.ref x_28)]) (lenOf pd_38 rfl) rfl (by exact Nat.le_of_eq rfl) at_110 rfl (by decide) (by decide)
    refine Go.tr st30 ?_
    have X30 := XX30 [x_30, t_30] (allS (Or.inr ⟨fr_x_30, fl_x_30⟩) (allS (Or.inr ⟨fr_t_30, fl_t_30⟩) all0))
    have K0_h30 := K0_h28.trans K30 all0
    have f32 := (P28_0).keep K30 nin0 nin0
    obtain ⟨_, T33, h33, XX33, K33, ⟨r_33, rfl, rfl, p33_0⟩, st33⟩ := X30.viX (W := 0) (hw _ (gm 207 rfl)) (hw _ (gm 208 rfl)) (hw _ (gm 210 rfl)) (hw _ (gm 209 rfl)) (by decide) (payEq (fun d hd => hw d ((by decide +kernel : ∀ d ∈ StrChars.Road.wordsEq, d ∈ tables_1) d hd)) (hw _ (gm 36 rfl)) X30.old f32 P30_0 Sc nc (by decide) (by decide)) all0 f32.exa (g := (mkF m 113 #[.val (.int i0), .val (.int i1), .val (.int i2), .val (.int i3), .val (.int (0 : Int32)), .val (.int ca), .val (.int cb), .val (.int cc), .val (.ref b1), .val (.int (1 : Int32)), .val (.ref b1), .val (.int (0 : Int32)), .val (.ref x_28)] [(.ref x_30), (.ref x_28)])) rfl rfl (argsL := [(.ref x_30)]) (rest := []) (lenOf pd_41 rfl) rfl (by exact Nat.le_of_eq rfl) at_113 rfl (by decide) (by decide)
    refine Go.tr st33 ?_
    have X33 := XX33 [] all0
    refine X33.ifNo at_116 rfl (XT.i0_eq_f (own_r1 p33_0 rfl)) ?_
    refine X33.iconst at_119 ?_
    refine X33.goto (pc0 := 120) (pc' := 124) rfl at_120 (by decide) (by decide) ?_
    exact X33.retN (by simp) rfl at_124 K0_h30 rfl (by decide) (by decide)
  · show Go _ _ _ _ (T0.setTop (mkF m 17 #[.val (.int i0), .val (.int i1), .val (.int i2), .val (.int i3), .val (.int (1 : Int32)), .val (.int ca), .val (.int cb), .val (.int cc), .unset, .unset, .unset, .unset, .unset] []))
    obtain ⟨T34, h34, b34, g_b34, X34, E34, A34, D34, st34⟩ := X0.new (hw _ (gm 0 rfl)) (hw _ (gm 1 rfl)) (hw _ (gm 2 rfl)) (g := (mkF m 17 #[.val (.int i0), .val (.int i1), .val (.int i2), .val (.int i3), .val (.int (1 : Int32)), .val (.int ca), .val (.int cb), .val (.int cc), .unset, .unset, .unset, .unset, .unset] [])) rfl at_17 (by decide) (by decide)
    refine Go.by st34 ?_
    have sz_b34 := Nat.le_trans X0.sz (Nat.le_of_eq g_b34.symm)
    have K0_h34 := (Keep.refl h0 []).ext E34
    have F34_html : Fld Z h34 b34 "com/example/suricate/suricate/component/HtmlWriter" "html" "Ljava/lang/StringBuilder;" .null := D34 (Or.inr (hw _ (gm 30 rfl))) (ty := (.object "java/lang/StringBuilder")) (by decide)
    refine X34.dup at_20 rfl rfl ?_
    have lt_b34_35 := (X34.lt (.head _))
    obtain ⟨_, T35, h35, XX35, K35, ⟨sb_35, vb_35, kb_35, rfl, fr_sb_35, fl_sb_35, fr_vb_35, fl_vb_35, P35_0, P35_1, P35_2, P35_3, P35_4, P35_5, P35_6, p35_0⟩, st35⟩ := X34.spX (W := 1) rfl (hw _ (gm 3 rfl)) (hw _ (gm 4 rfl)) (hw _ (gm 5 rfl)) (by decide) ((rh_hwi l Z a0 hw n0 b34 .null zc h34 X34.old A34 F34_html Sc nc (X34.ge (.head _)) (X34.lt (.head _))).pay (hw _ (gm 5 rfl)) (hw _ (gm 2 rfl)) (by decide) (by decide)) (allS (.head _) all0) (g := (mkF m 21 #[.val (.int i0), .val (.int i1), .val (.int i2), .val (.int i3), .val (.int (1 : Int32)), .val (.int ca), .val (.int cb), .val (.int cc), .unset, .unset, .unset, .unset, .unset] [(.ref b34), (.ref b34)])) rfl rfl (a := b34) (argsL := []) (rest := [(.ref b34)]) (lenOf pd_23 rfl) rfl (by exact Nat.le_of_eq rfl) at_21 rfl (by decide) (by decide)
    refine Go.tr st35 ?_
    have X35 := XX35 [sb_35, vb_35] (allS (Or.inr ⟨fr_sb_35, fl_sb_35⟩) (allS (Or.inr ⟨fr_vb_35, fl_vb_35⟩) all0))
    have K0_h35 := K0_h34.trans K35 (allS (Or.inr sz_b34) all0)
    have ne_b34_sb_35 := ne_ge lt_b34_35 fr_sb_35
    have sz_sb_35 := Nat.le_trans X34.sz fr_sb_35
    have ne_b34_vb_35 := ne_ge lt_b34_35 fr_vb_35
    have sz_vb_35 := Nat.le_trans X34.sz fr_vb_35
    have f36 : Fld Z h35 sb_35 "java/lang/AbstractStringBuilder" "count" "I" (.int (Int32.ofNat ([] : List Int32).length)) := P35_4
    have f37 : Arv Z h35 vb_35 kb_35 .byte (16 : Int32) (([] : List Int32).map fun c => Value.int (StrChars.lo8 c)) (.int (0 : Int32)) := P35_6
    refine X35.astore at_24 rfl rfl (l' := #[.val (.int i0), .val (.int i1), .val (.int i2), .val (.int i3), .val (.int (1 : Int32)), .val (.int ca), .val (.int cb), .val (.int cc), .val (.ref b34), .unset, .unset, .unset, .unset]) rfl ?_
    refine X35.aload at_26 rfl rfl ?_
    refine X35.iload at_28 rfl ?_
    refine X35.iload at_30 rfl ?_
    refine X35.iload at_32 rfl ?_
    refine X35.iload at_34 rfl ?_
    refine X35.iconst at_36 ?_
    have lt_sb_35_38 := (X35.lt (.head _))
    have lt_vb_35_38 := (X35.lt (.tail _ (.head _)))
    obtain ⟨_, T38, h38, XX38, K38, ⟨x_38, t_38, rfl, fr_x_38, fl_x_38, fr_t_38, fl_t_38, P38_0⟩, st38⟩ := X35.stX (W := 1) (hw _ (gm 31 rfl)) (hw _ (gm 32 rfl)) (hw _ (gm 33 rfl)) (hw _ (gm 34 rfl)) (by decide) ((rh_str10 l Z a0 hw n0 ca cb cc zc h35 X35.old Sc nc Sa Su Sv hca hcb hcc).pay (hw _ (gm 34 rfl)) (hw _ (gm 33 rfl)) (by decide) (by decide)) all0 (g := (mkF m 37 #[.val (.int i0), .val (.int i1), .val (.int i2), .val (.int i3), .val (.int (1 : Int32)), .val (.int ca), .val (.int cb), .val (.int cc), .val (.ref b34), .unset, .unset, .unset, .unset] [(.int (0 : Int32)), (.int cc), (.int cb), (.int ca), (.int (1 : Int32)), (.ref b34)])) rfl rfl (argsL := [(.int (1 : Int32)), (.int ca), (.int cb), (.int cc), (.int (0 : Int32))]) (rest := [(.ref b34)]) (lenOf pd_38 rfl) rfl (by exact Nat.le_of_eq rfl) at_37 rfl (by decide) (by decide)
    refine Go.tr st38 ?_
    have X38 := XX38 [x_38, t_38] (allS (Or.inr ⟨fr_x_38, fl_x_38⟩) (allS (Or.inr ⟨fr_t_38, fl_t_38⟩) all0))
    have K0_h38 := K0_h35.trans K38 all0
    have ne_sb_35_x_38 := ne_ge lt_sb_35_38 fr_x_38
    have ne_vb_35_x_38 := ne_ge lt_vb_35_38 fr_x_38
    have ne_sb_35_t_38 := ne_ge lt_sb_35_38 fr_t_38
    have ne_vb_35_t_38 := ne_ge lt_vb_35_38 fr_t_38
    by_cases hk : ∃ c ∈ ([ca] : List Int32), (255 : Int32) < c
    · show Go _ _ _ _ (T38.setTop (mkF m 40 #[.val (.int i0), .val (.int i1), .val (.int i2), .val (.int i3), .val (.int (1 : Int32)), .val (.int ca), .val (.int cb), .val (.int cc), .val (.ref b34), .unset, .unset, .unset, .unset] [(.ref x_38), (.ref b34)]))
      have f39 := (P35_0).keep K38 nin0
      have f40 := (P35_1).keep K38
      have f41 := (P35_2).keep K38 nin0
      have f42 := (P35_3).keep K38 nin0
      have f43 := (f36).keep K38 nin0
      have f44 := (P35_5).keep K38 nin0
      have f45 := (f37).keep K38 nin0
      have lt_b34_46 := (X38.lt (.tail _ (.tail _ (.tail _ (.tail _ (.head _))))))
      have lt_sb_35_46 := (X38.lt (.tail _ (.tail _ (.head _))))
      have f47 := ((A34).keep K35).keep K38
      obtain ⟨_, T46, h46, XX46, K46, ⟨vb2_46, kb2_46, rfl, fr_vb2_46, fl_vb2_46, P46_0, P46_1, P46_2, P46_3, P46_4⟩, st46⟩ := X38.viX (W := 0) (hw _ (gm 53 rfl)) (hw _ (gm 54 rfl)) (hw _ (gm 56 rfl)) (hw _ (gm 55 rfl)) (by decide) ((rh_mk1 l Z a0 hw n0 b34 sb_35 vb_35 kb_35 ([] : List Int32) x_38 t_38 [ca] zc vf h38 X38.old f39 f40 f41 f42 f43 f44 f45 P38_0 Sc nc Sa Su Sv Sf rf (fun c hc => nomatch hc) (Nat.le_of_ble_eq_true rfl) ne_sb_35_x_38.symm ne_sb_35_t_38.symm ne_vb_35_x_38.symm ne_vb_35_t_38.symm p35_0 hk (X38.ge (.tail _ (.tail _ (.head _)))) (X38.lt (.tail _ (.tail _ (.head _)))) (X38.ge (.tail _ (.tail _ (.tail _ (.head _))))) (X38.lt (.tail _ (.tail _ (.tail _ (.head _)))))).pay (hw _ (gm 57 rfl)) (hw _ (gm 2 rfl)) (by decide) (by decide)) (allS (.tail _ (.tail _ (.head _))) (allS (.tail _ (.tail _ (.tail _ (.head _)))) all0)) f47 (g := (mkF m 40 #[.val (.int i0), .val (.int i1), .val (.int i2), .val (.int i3), .val (.int (1 : Int32)), .val (.int ca), .val (.int cb), .val (.int cc), .val (.ref b34), .unset, .unset, .unset, .unset] [(.ref x_38), (.ref b34)])) rfl rfl (argsL := [(.ref x_38)]) (rest := []) (lenOf pd_39 rfl) rfl (by exact Nat.le_of_eq rfl) at_40 rfl (by decide) (by decide)
      refine Go.tr st46 ?_
      have X46 := XX46 [vb2_46] (allS (Or.inr ⟨fr_vb2_46, fl_vb2_46⟩) all0)
      have K0_h46 := K0_h38.trans K46 (allS (Or.inr sz_sb_35) (allS (Or.inr sz_vb_35) all0))
      have ne_b34_vb2_46 := ne_ge lt_b34_46 fr_vb2_46
      have ne_sb_35_vb2_46 := ne_ge lt_sb_35_46 fr_vb2_46
      have sz_vb2_46 := Nat.le_trans X38.sz fr_vb2_46
      have f48 : Fld Z h46 sb_35 "java/lang/AbstractStringBuilder" "count" "I" (.int (1 : Int32)) := P46_2
      refine X46.pop at_43 rfl rfl ?_
      refine X46.aload at_44 rfl rfl ?_
      have f49 := (f39).keep K46 (ninS ne_b34_sb_35 (ninS ne_b34_vb_35 nin0))
      have f50 := (f40).keep K46
      have f52 := (f47).keep K46
      obtain ⟨_, T51, h51, XX51, K51, ⟨rfl, rfl⟩, st51⟩ := X46.viX (W := 0) (hw _ (gm 120 rfl)) (hw _ (gm 121 rfl)) (hw _ (gm 123 rfl)) (hw _ (gm 122 rfl)) (by decide) ((rh_ise1 l Z a0 hw n0 b34 sb_35 h46 X46.old f49 f50 f48).pay (hw _ (gm 124 rfl)) (hw _ (gm 2 rfl)) (by decide) (by decide)) all0 f52 (g := (mkF m 46 #[.val (.int i0), .val (.int i1), .val (.int i2), .val (.int i3), .val (.int (1 : Int32)), .val (.int ca), .val (.int cb), .val (.int cc), .val (.ref b34), .unset, .unset, .unset, .unset] [(.ref b34)])) rfl rfl (argsL := []) (rest := []) (lenOf pd_15 rfl) rfl (by exact Nat.le_of_eq rfl) at_46 rfl (by decide) (by decide)
      refine Go.tr st51 ?_
      have X51 := XX51 [] all0
      have f53 : Fld Z h46 sb_35 "java/lang/AbstractStringBuilder" "count" "I" (.int (Int32.ofNat (([] : List Int32) ++ [ca]).length)) := f48
      refine X51.istore at_49 rfl (l' := #[.val (.int i0), .val (.int i1), .val (.int i2), .val (.int i3), .val (.int (1 : Int32)), .val (.int ca), .val (.int cb), .val (.int cc), .val (.ref b34), .val (.int (0 : Int32)), .unset, .unset, .unset]) rfl ?_
      refine X51.aload at_51 rfl rfl ?_
      obtain ⟨_, T54, h54, XX54, K54, ⟨rfl, P54_0, P54_1, P54_2, P54_3, P54_4⟩, st54⟩ := X51.viX (W := 0) (hw _ (gm 134 rfl)) (hw _ (gm 135 rfl)) (hw _ (gm 137 rfl)) (hw _ (gm 136 rfl)) (by decide) ((rh_cst1 l Z a0 hw n0 b34 sb_35 vb2_46 kb2_46 (([] : List Int32) ++ [ca]) zc vf h46 X51.old f49 f50 P46_0 P46_1 f53 P46_3 P46_4 Sc nc Sa Su Sv Sf rf (Nat.le_of_ble_eq_true rfl) ne_sb_35_vb2_46.symm (X51.ge (.tail _ (.tail _ (.tail _ (.head _))))) (X51.lt (.tail _ (.tail _ (.tail _ (.head _))))) (X51.ge (.head _)) (X51.lt (.head _))).pay (hw _ (gm 138 rfl)) (hw _ (gm 2 rfl)) (by decide) (by decide)) (allS (.tail _ (.tail _ (.tail _ (.head _)))) (allS (.head _) all0)) f52 (g := (mkF m 53 #[.val (.int i0), .val (.int i1), .val (.int i2), .val (.int i3), .val (.int (1 : Int32)), .val (.int ca), .val (.int cb), .val (.int cc), .val (.ref b34), .val (.int (0 : Int32)), .unset, .unset, .unset] [(.ref b34)])) rfl rfl (argsL := []) (rest := []) (lenOf pd_40 rfl) rfl (by exact Nat.le_of_eq rfl) at_53 rfl (by decide) (by decide)
      refine Go.tr st54 ?_
      have X54 := XX54 [] all0
      have K0_h54 := K0_h46.trans K54 (allS (Or.inr sz_sb_35) (allS (Or.inr sz_vb2_46) all0))
      have f55 : Fld Z h54 sb_35 "java/lang/AbstractStringBuilder" "count" "I" (.int (2 : Int32)) := P54_2
      refine X54.astore at_56 rfl rfl (l' := #[.val (.int i0), .val (.int i1), .val (.int i2), .val (.int i3), .val (.int (1 : Int32)), .val (.int ca), .val (.int cb), .val (.int cc), .val (.ref b34), .val (.int (0 : Int32)), .val (.ref b34), .unset, .unset]) rfl ?_
      refine X54.aload at_58 rfl rfl ?_
      have f56 := (f49).keep K54 (ninS ne_b34_sb_35 (ninS ne_b34_vb2_46 nin0))
      have f57 := (f50).keep K54
      have f59 := (f52).keep K54
      obtain ⟨_, T58, h58, XX58, K58, ⟨rfl, rfl⟩, st58⟩ := X54.viX (W := 0) (hw _ (gm 120 rfl)) (hw _ (gm 121 rfl)) (hw _ (gm 123 rfl)) (hw _ (gm 122 rfl)) (by decide) ((rh_ise2 l Z a0 hw n0 b34 sb_35 h54 X54.old f56 f57 f55).pay (hw _ (gm 124 rfl)) (hw _ (gm 2 rfl)) (by decide) (by decide)) all0 f59 (g := (mkF m 60 #[.val (.int i0), .val (.int i1), .val (.int i2), .val (.int i3), .val (.int (1 : Int32)), .val (.int ca), .val (.int cb), .val (.int cc), .val (.ref b34), .val (.int (0 : Int32)), .val (.ref b34), .unset, .unset] [(.ref b34)])) rfl rfl (argsL := []) (rest := []) (lenOf pd_15 rfl) rfl (by exact Nat.le_of_eq rfl) at_60 rfl (by decide) (by decide)
      refine Go.tr st58 ?_
      have X58 := XX58 [] all0
      have f60 : Fld Z h54 sb_35 "java/lang/AbstractStringBuilder" "count" "I" (.int (Int32.ofNat ((([] : List Int32) ++ [ca]) ++ [(62 : Int32)]).length)) := f55
      refine X58.istore at_63 rfl (l' := #[.val (.int i0), .val (.int i1), .val (.int i2), .val (.int i3), .val (.int (1 : Int32)), .val (.int ca), .val (.int cb), .val (.int cc), .val (.ref b34), .val (.int (0 : Int32)), .val (.ref b34), .val (.int (0 : Int32)), .unset]) rfl ?_
      refine X58.aload at_65 rfl rfl ?_
      show Go _ _ _ _ (T58.setTop (mkF m 67 #[.val (.int i0), .val (.int i1), .val (.int i2), .val (.int i3), .val (.int (1 : Int32)), .val (.int ca), .val (.int cb), .val (.int cc), .val (.ref b34), .val (.int (0 : Int32)), .val (.ref b34), .val (.int (0 : Int32)), .unset] [(.ref b34)]))
      obtain ⟨_, T61, h61, XX61, K61, ⟨x_61, t_61, rfl, fr_x_61, fl_x_61, fr_t_61, fl_t_61, P61_0⟩, st61⟩ := X58.viX (W := 0) (hw _ (gm 157 rfl)) (hw _ (gm 158 rfl)) (hw _ (gm 160 rfl)) (hw _ (gm 159 rfl)) (by decide) ((rh_tst1 l Z a0 hw n0 b34 sb_35 vb2_46 kb2_46 ((([] : List Int32) ++ [ca]) ++ [(62 : Int32)]) zc vf h54 X58.old f56 f57 P54_0 P54_1 f60 P54_3 P54_4 Sc nc Sa Su Sv Sf rf (all1 hca (all1 ⟨by decide, by decide⟩ alln)) (by obtain ⟨c, h1, h2⟩ := hk; exact ⟨c, List.mem_append_left _ (List.mem_append_right _ h1), h2⟩) (Nat.le_of_ble_eq_true rfl)).pay (hw _ (gm 161 rfl)) (hw _ (gm 2 rfl)) (by decide) (by decide)) all0 f59 (g := (mkF m 67 #[.val (.int i0), .val (.int i1), .val (.int i2), .val (.int i3), .val (.int (1 : Int32)), .val (.int ca), .val (.int cb), .val (.int cc), .val (.ref b34), .val (.int (0 : Int32)), .val (.ref b34), .val (.int (0 : Int32)), .unset] [(.ref b34)])) rfl rfl (argsL := []) (rest := []) (lenOf pd_37 rfl) rfl (by exact Nat.le_of_eq rfl) at_67 rfl (by decide) (by decide)
      refine Go.tr st61 ?_
      have X61 := XX61 [x_61, t_61] (allS (Or.inr ⟨fr_x_61, fl_x_61⟩) (allS (Or.inr ⟨fr_t_61, fl_t_61⟩) all0))
      have K0_h61 := K0_h54.trans K61 all0
      refine X61.astore at_70 rfl rfl (l' := #[.val (.int i0), .val (.int i1), .val (.int i2), .val (.int i3), .val (.int (1 : Int32)), .val (.int ca), .val (.int cb), .val (.int cc), .val (.ref b34), .val (.int (0 : Int32)), .val (.ref b34), .val (.int (0 : Int32)), .val (.ref x_61)]) rfl ?_
      refine X61.aload at_72 rfl rfl ?_
      refine X61.aload at_74 rfl rfl ?_
      refine Go.by (fun _ k => X61.acmp (cd := .ne) (x := (.ref b34)) (y' := (.ref b34)) rfl rfl (g := (mkF m 76 #[.val (.int i0), .val (.int i1), .val (.int i2), .val (.int i3), .val (.int (1 : Int32)), .val (.int ca), .val (.int cb), .val (.int cc), .val (.ref b34), .val (.int (0 : Int32)), .val (.ref b34), .val (.int (0 : Int32)), .val (.ref x_61)] [(.ref b34), (.ref b34)])) rfl (pc0 := 76) (pc' := 79) (same := true) rfl at_76 rfl (decide_eq_true rfl) (by decide) (by decide) _ k) ?_
      show Go _ _ _ _ (T61.setTop (mkF m 79 #[.val (.int i0), .val (.int i1), .val (.int i2), .val (.int i3), .val (.int (1 : Int32)), .val (.int ca), .val (.int cb), .val (.int cc), .val (.ref b34), .val (.int (0 : Int32)), .val (.ref b34), .val (.int (0 : Int32)), .val (.ref x_61)] []))
      refine X61.iload at_79 rfl ?_
      refine X61.iload at_81 rfl ?_
      refine X61.ifYes (pc0 := 83) (pc' := 90) rfl at_83 rfl (XT.i0_ne_t (by decide)) (by decide) (by decide) ?_
      refine X61.iconst at_90 ?_
      refine X61.icmpNo at_91 rfl (XT.ii_ne_f (by decide)) ?_
      refine X61.iload at_94 rfl ?_
      refine X61.ifNo at_96 rfl (XT.i0_ne_f (by decide)) ?_
      refine X61.aload at_99 rfl rfl ?_
      refine X61.iload at_101 rfl ?_
      refine X61.iload at_103 rfl ?_
      refine X61.iload at_105 rfl ?_
      refine X61.iload at_107 rfl ?_
      show Go _ _ _ _ (T61.setTop (mkF m 109 #[.val (.int i0), .val (.int i1), .val (.int i2), .val (.int i3), .val (.int (1 : Int32)), .val (.int ca), .val (.int cb), .val (.int cc), .val (.ref b34), .val (.int (0 : Int32)), .val (.ref b34), .val (.int (0 : Int32)), .val (.ref x_61)] [(.int cc), (.int cb), (.int ca), (.int (1 : Int32)), (.ref x_61)]))
      refine X61.iconst at_109 ?_
      obtain ⟨_, T62, h62, XX62, K62, ⟨x_62, t_62, rfl, fr_x_62, fl_x_62, fr_t_62, fl_t_62, P62_0⟩, st62⟩ := X61.stX (W := 1) (hw _ (gm 31 rfl)) (hw _ (gm 32 rfl)) (hw _ (gm 33 rfl)) (hw _ (gm 34 rfl)) (by decide) ((rh_str11 l Z a0 hw n0 ca cb cc zc h61 X61.old Sc nc Sa Su Sv hca hcb hcc).pay (hw _ (gm 34 rfl)) (hw _ (gm 33 rfl)) (by decide) (by decide)) all0 (g := (mkF m 110 #[.val (.int i0), .val (.int i1), .val (.int i2), .val (.int i3), .val (.int (1 : Int32)), .val (.int ca), .val (.int cb), .val (.int cc), .val (.ref b34), .val (.int (0 : Int32)), .val (.ref b34), .val (.int (0 : Int32)), .val (.ref x_61)] [(.int (1 : Int32)), (.int cc), (.int cb), (.int ca), (.int (1 : Int32)), (.ref x_61)])) rfl rfl (argsL := [(.int (1 : Int32)), (.int ca), (.int cb), (.int cc), (.int (1 : Int32))]) (rest := [(.ref x_61)]) (lenOf pd_38 rfl) rfl (by exact Nat.le_of_eq rfl) at_110 rfl (by decide) (by decide)
      refine Go.tr st62 ?_
      have X62 := XX62 [x_62, t_62] (allS (Or.inr ⟨fr_x_62, fl_x_62⟩) (allS (Or.inr ⟨fr_t_62, fl_t_62⟩) all0))
      have K0_h62 := K0_h61.trans K62 all0
      have f63 := (P61_0).keep K62 nin0 nin0
      obtain ⟨_, T64, h64, XX64, K64, ⟨r_64, rfl, rfl, p64_0⟩, st64⟩ := X62.viX (W := 0) (hw _ (gm 207 rfl)) (hw _ (gm 208 rfl)) (hw _ (gm 210 rfl)) (hw _ (gm 209 rfl)) (by decide) (payEq (fun d hd => hw d ((by decide +kernel : ∀ d ∈ StrChars.Road.wordsEq, d ∈ tables_1) d hd)) (hw _ (gm 36 rfl)) X62.old f63 P62_0 Sc nc (by decide) (by decide)) all0 f63.exa (g := (mkF m 113 #[.val (.int i0), .val (.int i1), .val (.int i2), .val (.int i3), .val (.int (1 : Int32)), .val (.int ca), .val (.int cb), .val (.int cc), .val (.ref b34), .val (.int (0 : Int32)), .val (.ref b34), .val (.int (0 : Int32)), .val (.ref x_61)] [(.ref x_62), (.ref x_61)])) rfl rfl (argsL := [(.ref x_62)]) (rest := []) (lenOf pd_41 rfl) rfl (by exact Nat.le_of_eq rfl) at_113 rfl (by decide) (by decide)
      refine Go.tr st64 ?_
      have X64 := XX64 [] all0
      refine X64.ifNo at_116 rfl (XT.i0_eq_f (own_r1 p64_0 rfl)) ?_
      refine X64.iconst at_119 ?_
      refine X64.goto (pc0 := 120) (pc' := 124) rfl at_120 (by decide) (by decide) ?_
      exact X64.retN (by simp) rfl at_124 K0_h62 rfl (by decide) (by decide)
    · show Go _ _ _ _ (T38.setTop (mkF m 40 #[.val (.int i0), .val (.int i1), .val (.int i2), .val (.int i3), .val (.int (1 : Int32)), .val (.int ca), .val (.int cb), .val (.int cc), .val (.ref b34), .unset, .unset, .unset, .unset] [(.ref x_38), (.ref b34)]))
      have f65 := (P35_0).keep K38 nin0
      have f66 := (P35_1).keep K38
      have f67 := (P35_2).keep K38 nin0
      have f68 := (P35_3).keep K38 nin0
      have f69 := (f36).keep K38 nin0
      have f70 := (P35_5).keep K38 nin0
      have f71 := (f37).keep K38 nin0
      have f73 := ((A34).keep K35).keep K38
      obtain ⟨_, T72, h72, XX72, K72, ⟨rfl, P72_0, P72_1, P72_2, P72_3, P72_4⟩, st72⟩ := X38.viX (W := 0) (hw _ (gm 53 rfl)) (hw _ (gm 54 rfl)) (hw _ (gm 56 rfl)) (hw _ (gm 55 rfl)) (by decide) ((rh_mk0 l Z a0 hw n0 b34 sb_35 vb_35 kb_35 ([] : List Int32) x_38 t_38 [ca] zc vf h38 X38.old f65 f66 f67 f68 f69 f70 f71 P38_0 Sc nc Sa Su Sv Sf rf (fun c hc => nomatch hc) (Nat.le_of_ble_eq_true rfl) ne_sb_35_x_38.symm ne_sb_35_t_38.symm ne_vb_35_x_38.symm ne_vb_35_t_38.symm p35_0 (own_nw hk) (X38.ge (.tail _ (.tail _ (.head _)))) (X38.lt (.tail _ (.tail _ (.head _)))) (X38.ge (.tail _ (.tail _ (.tail _ (.head _))))) (X38.lt (.tail _ (.tail _ (.tail _ (.head _)))))).pay (hw _ (gm 57 rfl)) (hw _ (gm 2 rfl)) (by decide) (by decide)) (allS (.tail _ (.tail _ (.head _))) (allS (.tail _ (.tail _ (.tail _ (.head _)))) all0)) f73 (g := (mkF m 40 #[.val (.int i0), .val (.int i1), .val (.int i2), .val (.int i3), .val (.int (1 : Int32)), .val (.int ca), .val (.int cb), .val (.int cc), .val (.ref b34), .unset, .unset, .unset, .unset] [(.ref x_38), (.ref b34)])) rfl rfl (argsL := [(.ref x_38)]) (rest := []) (lenOf pd_39 rfl) rfl (by exact Nat.le_of_eq rfl) at_40 rfl (by decide) (by decide)
      refine Go.tr st72 ?_
      have X72 := XX72 [] all0
      have K0_h72 := K0_h38.trans K72 (allS (Or.inr sz_sb_35) (allS (Or.inr sz_vb_35) all0))
      have f74 : Fld Z h72 sb_35 "java/lang/AbstractStringBuilder" "count" "I" (.int (1 : Int32)) := P72_2
      refine X72.pop at_43 rfl rfl ?_
      refine X72.aload at_44 rfl rfl ?_
      have f75 := (f65).keep K72 (ninS ne_b34_sb_35 (ninS ne_b34_vb_35 nin0))
      have f76 := (f66).keep K72
      have f78 := (f73).keep K72
      obtain ⟨_, T77, h77, XX77, K77, ⟨rfl, rfl⟩, st77⟩ := X72.viX (W := 0) (hw _ (gm 120 rfl)) (hw _ (gm 121 rfl)) (hw _ (gm 123 rfl)) (hw _ (gm 122 rfl)) (by decide) ((rh_ise1 l Z a0 hw n0 b34 sb_35 h72 X72.old f75 f76 f74).pay (hw _ (gm 124 rfl)) (hw _ (gm 2 rfl)) (by decide) (by decide)) all0 f78 (g := (mkF m 46 #[.val (.int i0), .val (.int i1), .val (.int i2), .val (.int i3), .val (.int (1 : Int32)), .val (.int ca), .val (.int cb), .val (.int cc), .val (.ref b34), .unset, .unset, .unset, .unset] [(.ref b34)])) rfl rfl (argsL := []) (rest := []) (lenOf pd_15 rfl) rfl (by exact Nat.le_of_eq rfl) at_46 rfl (by decide) (by decide)
      refine Go.tr st77 ?_
      have X77 := XX77 [] all0
      have f79 : Fld Z h72 sb_35 "java/lang/AbstractStringBuilder" "count" "I" (.int (Int32.ofNat (([] : List Int32) ++ [ca]).length)) := f74
      refine X77.istore at_49 rfl (l' := #[.val (.int i0), .val (.int i1), .val (.int i2), .val (.int i3), .val (.int (1 : Int32)), .val (.int ca), .val (.int cb), .val (.int cc), .val (.ref b34), .val (.int (0 : Int32)), .unset, .unset, .unset]) rfl ?_
      refine X77.aload at_51 rfl rfl ?_
      obtain ⟨_, T80, h80, XX80, K80, ⟨rfl, P80_0, P80_1, P80_2, P80_3, P80_4⟩, st80⟩ := X77.viX (W := 0) (hw _ (gm 134 rfl)) (hw _ (gm 135 rfl)) (hw _ (gm 137 rfl)) (hw _ (gm 136 rfl)) (by decide) ((rh_cst0 l Z a0 hw n0 b34 sb_35 vb_35 kb_35 (([] : List Int32) ++ [ca]) zc vf h72 X77.old f75 f76 P72_0 P72_1 f79 P72_3 P72_4 Sc nc Sa Su Sv Sf rf (Nat.le_of_ble_eq_true rfl) p35_0 (X77.ge (.tail _ (.tail _ (.head _)))) (X77.lt (.tail _ (.tail _ (.head _)))) (X77.ge (.tail _ (.tail _ (.tail _ (.head _))))) (X77.lt (.tail _ (.tail _ (.tail _ (.head _)))))).pay (hw _ (gm 138 rfl)) (hw _ (gm 2 rfl)) (by decide) (by decide)) (allS (.tail _ (.tail _ (.head _))) (allS (.tail _ (.tail _ (.tail _ (.head _)))) all0)) f78 (g := (mkF m 53 #[.val (.int i0), .val (.int i1), .val (.int i2), .val (.int i3), .val (.int (1 : Int32)), .val (.int ca), .val (.int cb), .val (.int cc), .val (.ref b34), .val (.int (0 : Int32)), .unset, .unset, .unset] [(.ref b34)])) rfl rfl (argsL := []) (rest := []) (lenOf pd_40 rfl) rfl (by exact Nat.le_of_eq rfl) at_53 rfl (by decide) (by decide)
      refine Go.tr st80 ?_
      have X80 := XX80 [] all0
      have K0_h80 := K0_h72.trans K80 (allS (Or.inr sz_sb_35) (allS (Or.inr sz_vb_35) all0))
      have f81 : Fld Z h80 sb_35 "java/lang/AbstractStringBuilder" "count" "I" (.int (2 : Int32)) := P80_2
      refine X80.astore at_56 rfl rfl (l' := #[.val (.int i0), .val (.int i1), .val (.int i2), .val (.int i3), .val (.int (1 : Int32)), .val (.int ca), .val (.int cb), .val (.int cc), .val (.ref b34), .val (.int (0 : Int32)), .val (.ref b34), .unset, .unset]) rfl ?_
      refine X80.aload at_58 rfl rfl ?_
      have f82 := (f75).keep K80 (ninS ne_b34_sb_35 (ninS ne_b34_vb_35 nin0))
      have f83 := (f76).keep K80
      have f85 := (f78).keep K80
      obtain ⟨_, T84, h84, XX84, K84, ⟨rfl, rfl⟩, st84⟩ := X80.viX (W := 0) (hw _ (gm 120 rfl)) (hw _ (gm 121 rfl)) (hw _ (gm 123 rfl)) (hw _ (gm 122 rfl)) (by decide) ((rh_ise2 l Z a0 hw n0 b34 sb_35 h80 X80.old f82 f83 f81).pay (hw _ (gm 124 rfl)) (hw _ (gm 2 rfl)) (by decide) (by decide)) all0 f85 (g := (mkF m 60 #[.val (.int i0), .val (.int i1), .val (.int i2), .val (.int i3), .val (.int (1 : Int32)), .val (.int ca), .val (.int cb), .val (.int cc), .val (.ref b34), .val (.int (0 : Int32)), .val (.ref b34), .unset, .unset] [(.ref b34)])) rfl rfl (argsL := []) (rest := []) (lenOf pd_15 rfl) rfl (by exact Nat.le_of_eq rfl) at_60 rfl (by decide) (by decide)
      refine Go.tr st84 ?_
      have X84 := XX84 [] all0
      have f86 : Fld Z h80 sb_35 "java/lang/AbstractStringBuilder" "count" "I" (.int (Int32.ofNat ((([] : List Int32) ++ [ca]) ++ [(62 : Int32)]).length)) := f81
      refine X84.istore at_63 rfl (l' := #[.val (.int i0), .val (.int i1), .val (.int i2), .val (.int i3), .val (.int (1 : Int32)), .val (.int ca), .val (.int cb), .val (.int cc), .val (.ref b34), .val (.int (0 : Int32)), .val (.ref b34), .val (.int (0 : Int32)), .unset]) rfl ?_
      refine X84.aload at_65 rfl rfl ?_
      show Go _ _ _ _ (T84.setTop (mkF m 67 #[.val (.int i0), .val (.int i1), .val (.int i2), .val (.int i3), .val (.int (1 : Int32)), .val (.int ca), .val (.int cb), .val (.int cc), .val (.ref b34), .val (.int (0 : Int32)), .val (.ref b34), .val (.int (0 : Int32)), .unset] [(.ref b34)]))
      obtain ⟨_, T87, h87, XX87, K87, ⟨x_87, t_87, rfl, fr_x_87, fl_x_87, fr_t_87, fl_t_87, P87_0⟩, st87⟩ := X84.viX (W := 0) (hw _ (gm 157 rfl)) (hw _ (gm 158 rfl)) (hw _ (gm 160 rfl)) (hw _ (gm 159 rfl)) (by decide) ((rh_tst0 l Z a0 hw n0 b34 sb_35 vb_35 kb_35 ((([] : List Int32) ++ [ca]) ++ [(62 : Int32)]) zc vf h80 X84.old f82 f83 P80_0 P80_1 f86 P80_3 P80_4 Sc nc Sa Su Sv Sf rf (all1 ⟨hca.1, (own_nw hk) ca (by simp)⟩ (all1 ⟨by decide, by decide⟩ alln)) (Nat.le_of_ble_eq_true rfl)).pay (hw _ (gm 161 rfl)) (hw _ (gm 2 rfl)) (by decide) (by decide)) all0 f85 (g := (mkF m 67 #[.val (.int i0), .val (.int i1), .val (.int i2), .val (.int i3), .val (.int (1 : Int32)), .val (.int ca), .val (.int cb), .val (.int cc), .val (.ref b34), .val (.int (0 : Int32)), .val (.ref b34), .val (.int (0 : Int32)), .unset] [(.ref b34)])) rfl rfl (argsL := []) (rest := []) (lenOf pd_37 rfl) rfl (by exact Nat.le_of_eq rfl) at_67 rfl (by decide) (by decide)
      refine Go.tr st87 ?_
      have X87 := XX87 [x_87, t_87] (allS (Or.inr ⟨fr_x_87, fl_x_87⟩) (allS (Or.inr ⟨fr_t_87, fl_t_87⟩) all0))
      have K0_h87 := K0_h80.trans K87 all0
      refine X87.astore at_70 rfl rfl (l' := #[.val (.int i0), .val (.int i1), .val (.int i2), .val (.int i3), .val (.int (1 : Int32)), .val (.int ca), .val (.int cb), .val (.int cc), .val (.ref b34), .val (.int (0 : Int32)), .val (.ref b34), .val (.int (0 : Int32)), .val (.ref x_87)]) rfl ?_
      refine X87.aload at_72 rfl rfl ?_
      refine X87.aload at_74 rfl rfl ?_
      refine Go.by (fun _ k => X87.acmp (cd := .ne) (x := (.ref b34)) (y' := (.ref b34)) rfl rfl (g := (mkF m 76 #[.val (.int i0), .val (.int i1), .val (.int i2), .val (.int i3), .val (.int (1 : Int32)), .val (.int ca), .val (.int cb), .val (.int cc), .val (.ref b34), .val (.int (0 : Int32)), .val (.ref b34), .val (.int (0 : Int32)), .val (.ref x_87)] [(.ref b34), (.ref b34)])) rfl (pc0 := 76) (pc' := 79) (same := true) rfl at_76 rfl (decide_eq_true rfl) (by decide) (by decide) _ k) ?_
      show Go _ _ _ _ (T87.setTop (mkF m 79 #[.val (.int i0), .val (.int i1), .val (.int i2), .val (.int i3), .val (.int (1 : Int32)), .val (.int ca), .val (.int cb), .val (.int cc), .val (.ref b34), .val (.int (0 : Int32)), .val (.ref b34), .val (.int (0 : Int32)), .val (.ref x_87)] []))
      refine X87.iload at_79 rfl ?_
      refine X87.iload at_81 rfl ?_
      refine X87.ifYes (pc0 := 83) (pc' := 90) rfl at_83 rfl (XT.i0_ne_t (by decide)) (by decide) (by decide) ?_
      refine X87.iconst at_90 ?_
      refine X87.icmpNo at_91 rfl (XT.ii_ne_f (by decide)) ?_
      refine X87.iload at_94 rfl ?_
      refine X87.ifNo at_96 rfl (XT.i0_ne_f (by decide)) ?_
      refine X87.aload at_99 rfl rfl ?_
      refine X87.iload at_101 rfl ?_
      refine X87.iload at_103 rfl ?_
      refine X87.iload at_105 rfl ?_
      refine X87.iload at_107 rfl ?_
      show Go _ _ _ _ (T87.setTop (mkF m 109 #[.val (.int i0), .val (.int i1), .val (.int i2), .val (.int i3), .val (.int (1 : Int32)), .val (.int ca), .val (.int cb), .val (.int cc), .val (.ref b34), .val (.int (0 : Int32)), .val (.ref b34), .val (.int (0 : Int32)), .val (.ref x_87)] [(.int cc), (.int cb), (.int ca), (.int (1 : Int32)), (.ref x_87)]))
      refine X87.iconst at_109 ?_
      obtain ⟨_, T88, h88, XX88, K88, ⟨x_88, t_88, rfl, fr_x_88, fl_x_88, fr_t_88, fl_t_88, P88_0⟩, st88⟩ := X87.stX (W := 1) (hw _ (gm 31 rfl)) (hw _ (gm 32 rfl)) (hw _ (gm 33 rfl)) (hw _ (gm 34 rfl)) (by decide) ((rh_str11 l Z a0 hw n0 ca cb cc zc h87 X87.old Sc nc Sa Su Sv hca hcb hcc).pay (hw _ (gm 34 rfl)) (hw _ (gm 33 rfl)) (by decide) (by decide)) all0 (g := (mkF m 110 #[.val (.int i0), .val (.int i1), .val (.int i2), .val (.int i3), .val (.int (1 : Int32)), .val (.int ca), .val (.int cb), .val (.int cc), .val (.ref b34), .val (.int (0 : Int32)), .val (.ref b34), .val (.int (0 : Int32)), .val (.ref x_87)] [(.int (1 : Int32)), (.int cc), (.int cb), (.int ca), (.int (1 : Int32)), (.ref x_87)])) rfl rfl (argsL := [(.int (1 : Int32)), (.int ca), (.int cb), (.int cc), (.int (1 : Int32))]) (rest := [(.ref x_87)]) (lenOf pd_38 rfl) rfl (by exact Nat.le_of_eq rfl) at_110 rfl (by decide) (by decide)
      refine Go.tr st88 ?_
      have X88 := XX88 [x_88, t_88] (allS (Or.inr ⟨fr_x_88, fl_x_88⟩) (allS (Or.inr ⟨fr_t_88, fl_t_88⟩) all0))
      have K0_h88 := K0_h87.trans K88 all0
      have f89 := (P87_0).keep K88 nin0 nin0
      obtain ⟨_, T90, h90, XX90, K90, ⟨r_90, rfl, rfl, p90_0⟩, st90⟩ := X88.viX (W := 0) (hw _ (gm 207 rfl)) (hw _ (gm 208 rfl)) (hw _ (gm 210 rfl)) (hw _ (gm 209 rfl)) (by decide) (payEq (fun d hd => hw d ((by decide +kernel : ∀ d ∈ StrChars.Road.wordsEq, d ∈ tables_1) d hd)) (hw _ (gm 36 rfl)) X88.old f89 P88_0 Sc nc (by decide) (by decide)) all0 f89.exa (g := (mkF m 113 #[.val (.int i0), .val (.int i1), .val (.int i2), .val (.int i3), .val (.int (1 : Int32)), .val (.int ca), .val (.int cb), .val (.int cc), .val (.ref b34), .val (.int (0 : Int32)), .val (.ref b34), .val (.int (0 : Int32)), .val (.ref x_87)] [(.ref x_88), (.ref x_87)])) rfl rfl (argsL := [(.ref x_88)]) (rest := []) (lenOf pd_41 rfl) rfl (by exact Nat.le_of_eq rfl) at_113 rfl (by decide) (by decide)
      refine Go.tr st90 ?_
      have X90 := XX90 [] all0
      refine X90.ifNo at_116 rfl (XT.i0_eq_f (own_r1 p90_0 rfl)) ?_
      refine X90.iconst at_119 ?_
      refine X90.goto (pc0 := 120) (pc' := 124) rfl at_120 (by decide) (by decide) ?_
      exact X90.retN (by simp) rfl at_124 K0_h88 rfl (by decide) (by decide)
  · show Go _ _ _ _ (T0.setTop (mkF m 17 #[.val (.int i0), .val (.int i1), .val (.int i2), .val (.int i3), .val (.int (2 : Int32)), .val (.int ca), .val (.int cb), .val (.int cc), .unset, .unset, .unset, .unset, .unset] []))
    obtain ⟨T91, h91, b91, g_b91, X91, E91, A91, D91, st91⟩ := X0.new (hw _ (gm 0 rfl)) (hw _ (gm 1 rfl)) (hw _ (gm 2 rfl)) (g := (mkF m 17 #[.val (.int i0), .val (.int i1), .val (.int i2), .val (.int i3), .val (.int (2 : Int32)), .val (.int ca), .val (.int cb), .val (.int cc), .unset, .unset, .unset, .unset, .unset] [])) rfl at_17 (by decide) (by decide)
    refine Go.by st91 ?_
    have sz_b91 := Nat.le_trans X0.sz (Nat.le_of_eq g_b91.symm)
    have K0_h91 := (Keep.refl h0 []).ext E91
    have F91_html : Fld Z h91 b91 "com/example/suricate/suricate/component/HtmlWriter" "html" "Ljava/lang/StringBuilder;" .null := D91 (Or.inr (hw _ (gm 30 rfl))) (ty := (.object "java/lang/StringBuilder")) (by decide)
    refine X91.dup at_20 rfl rfl ?_
    have lt_b91_92 := (X91.lt (.head _))
    obtain ⟨_, T92, h92, XX92, K92, ⟨sb_92, vb_92, kb_92, rfl, fr_sb_92, fl_sb_92, fr_vb_92, fl_vb_92, P92_0, P92_1, P92_2, P92_3, P92_4, P92_5, P92_6, p92_0⟩, st92⟩ := X91.spX (W := 1) rfl (hw _ (gm 3 rfl)) (hw _ (gm 4 rfl)) (hw _ (gm 5 rfl)) (by decide) ((rh_hwi l Z a0 hw n0 b91 .null zc h91 X91.old A91 F91_html Sc nc (X91.ge (.head _)) (X91.lt (.head _))).pay (hw _ (gm 5 rfl)) (hw _ (gm 2 rfl)) (by decide) (by decide)) (allS (.head _) all0) (g := (mkF m 21 #[.val (.int i0), .val (.int i1), .val (.int i2), .val (.int i3), .val (.int (2 : Int32)), .val (.int ca), .val (.int cb), .val (.int cc), .unset, .unset, .unset, .unset, .unset] [(.ref b91), (.ref b91)])) rfl rfl (a := b91) (argsL := []) (rest := [(.ref b91)]) (lenOf pd_23 rfl) rfl (by exact Nat.le_of_eq rfl) at_21 rfl (by decide) (by decide)
    refine Go.tr st92 ?_
    have X92 := XX92 [sb_92, vb_92] (allS (Or.inr ⟨fr_sb_92, fl_sb_92⟩) (allS (Or.inr ⟨fr_vb_92, fl_vb_92⟩) all0))
    have K0_h92 := K0_h91.trans K92 (allS (Or.inr sz_b91) all0)
    have ne_b91_sb_92 := ne_ge lt_b91_92 fr_sb_92
    have sz_sb_92 := Nat.le_trans X91.sz fr_sb_92
    have ne_b91_vb_92 := ne_ge lt_b91_92 fr_vb_92
    have sz_vb_92 := Nat.le_trans X91.sz fr_vb_92
    have f93 : Fld Z h92 sb_92 "java/lang/AbstractStringBuilder" "count" "I" (.int (Int32.ofNat ([] : List Int32).length)) := P92_4
    have f94 : Arv Z h92 vb_92 kb_92 .byte (16 : Int32) (([] : List Int32).map fun c => Value.int (StrChars.lo8 c)) (.int (0 : Int32)) := P92_6
    refine X92.astore at_24 rfl rfl (l' := #[.val (.int i0), .val (.int i1), .val (.int i2), .val (.int i3), .val (.int (2 : Int32)), .val (.int ca), .val (.int cb), .val (.int cc), .val (.ref b91), .unset, .unset, .unset, .unset]) rfl ?_
    refine X92.aload at_26 rfl rfl ?_
    refine X92.iload at_28 rfl ?_
    refine X92.iload at_30 rfl ?_
    refine X92.iload at_32 rfl ?_
    refine X92.iload at_34 rfl ?_
    refine X92.iconst at_36 ?_
    have lt_sb_92_95 := (X92.lt (.head _))
    have lt_vb_92_95 := (X92.lt (.tail _ (.head _)))
    obtain ⟨_, T95, h95, XX95, K95, ⟨x_95, t_95, rfl, fr_x_95, fl_x_95, fr_t_95, fl_t_95, P95_0⟩, st95⟩ := X92.stX (W := 1) (hw _ (gm 31 rfl)) (hw _ (gm 32 rfl)) (hw _ (gm 33 rfl)) (hw _ (gm 34 rfl)) (by decide) ((rh_str20 l Z a0 hw n0 ca cb cc zc h92 X92.old Sc nc Sa Su Sv hca hcb hcc).pay (hw _ (gm 34 rfl)) (hw _ (gm 33 rfl)) (by decide) (by decide)) all0 (g := (mkF m 37 #[.val (.int i0), .val (.int i1), .val (.int i2), .val (.int i3), .val (.int (2 : Int32)), .val (.int ca), .val (.int cb), .val (.int cc), .val (.ref b91), .unset, .unset, .unset, .unset] [(.int (0 : Int32)), (.int cc), (.int cb), (.int ca), (.int (2 : Int32)), (.ref b91)])) rfl rfl (argsL := [(.int (2 : Int32)), (.int ca), (.int cb), (.int cc), (.int (0 : Int32))]) (rest := [(.ref b91)]) (lenOf pd_38 rfl) rfl (by exact Nat.le_of_eq rfl) at_37 rfl (by decide) (by decide)
    refine Go.tr st95 ?_
    have X95 := XX95 [x_95, t_95] (allS (Or.inr ⟨fr_x_95, fl_x_95⟩) (allS (Or.inr ⟨fr_t_95, fl_t_95⟩) all0))
    have K0_h95 := K0_h92.trans K95 all0
    have ne_sb_92_x_95 := ne_ge lt_sb_92_95 fr_x_95
    have ne_vb_92_x_95 := ne_ge lt_vb_92_95 fr_x_95
    have ne_sb_92_t_95 := ne_ge lt_sb_92_95 fr_t_95
    have ne_vb_92_t_95 := ne_ge lt_vb_92_95 fr_t_95
    by_cases hk : ∃ c ∈ ([ca, cb] : List Int32), (255 : Int32) < c
    · show Go _ _ _ _ (T95.setTop (mkF m 40 #[.val (.int i0), .val (.int i1), .val (.int i2), .val (.int i3), .val (.int (2 : Int32)), .val (.int ca), .val (.int cb), .val (.int cc), .val (.ref b91), .unset, .unset, .unset, .unset] [(.ref x_95), (.ref b91)]))
      have f96 := (P92_0).keep K95 nin0
      have f97 := (P92_1).keep K95
      have f98 := (P92_2).keep K95 nin0
      have f99 := (P92_3).keep K95 nin0
      have f100 := (f93).keep K95 nin0
      have f101 := (P92_5).keep K95 nin0
      have f102 := (f94).keep K95 nin0
      have lt_b91_103 := (X95.lt (.tail _ (.tail _ (.tail _ (.tail _ (.head _))))))
      have lt_sb_92_103 := (X95.lt (.tail _ (.tail _ (.head _))))
      have f104 := ((A91).keep K92).keep K95
      obtain ⟨_, T103, h103, XX103, K103, ⟨vb2_103, kb2_103, rfl, fr_vb2_103, fl_vb2_103, P103_0, P103_1, P103_2, P103_3, P103_4⟩, st103⟩ := X95.viX (W := 0) (hw _ (gm 53 rfl)) (hw _ (gm 54 rfl)) (hw _ (gm 56 rfl)) (hw _ (gm 55 rfl)) (by decide) ((rh_mk1 l Z a0 hw n0 b91 sb_92 vb_92 kb_92 ([] : List Int32) x_95 t_95 [ca, cb] zc vf h95 X95.old f96 f97 f98 f99 f100 f101 f102 P95_0 Sc nc Sa Su Sv Sf rf (fun c hc => nomatch hc) (Nat.le_of_ble_eq_true rfl) ne_sb_92_x_95.symm ne_sb_92_t_95.symm ne_vb_92_x_95.symm ne_vb_92_t_95.symm p92_0 hk (X95.ge (.tail _ (.tail _ (.head _)))) (X95.lt (.tail _ (.tail _ (.head _)))) (X95.ge (.tail _ (.tail _ (.tail _ (.head _))))) (X95.lt (.tail _ (.tail _ (.tail _ (.head _)))))).pay (hw _ (gm 57 rfl)) (hw _ (gm 2 rfl)) (by decide) (by decide)) (allS (.tail _ (.tail _ (.head _))) (allS (.tail _ (.tail _ (.tail _ (.head _)))) all0)) f104 (g := (mkF m 40 #[.val (.int i0), .val (.int i1), .val (.int i2), .val (.int i3), .val (.int (2 : Int32)), .val (.int ca), .val (.int cb), .val (.int cc), .val (.ref b91), .unset, .unset, .unset, .unset] [(.ref x_95), (.ref b91)])) rfl rfl (argsL := [(.ref x_95)]) (rest := []) (lenOf pd_39 rfl) rfl (by exact Nat.le_of_eq rfl) at_40 rfl (by decide) (by decide)
      refine Go.tr st103 ?_
      have X103 := XX103 [vb2_103] (allS (Or.inr ⟨fr_vb2_103, fl_vb2_103⟩) all0)
      have K0_h103 := K0_h95.trans K103 (allS (Or.inr sz_sb_92) (allS (Or.inr sz_vb_92) all0))
      have ne_b91_vb2_103 := ne_ge lt_b91_103 fr_vb2_103
      have ne_sb_92_vb2_103 := ne_ge lt_sb_92_103 fr_vb2_103
      have sz_vb2_103 := Nat.le_trans X95.sz fr_vb2_103
      have f105 : Fld Z h103 sb_92 "java/lang/AbstractStringBuilder" "count" "I" (.int (2 : Int32)) := P103_2
      refine X103.pop at_43 rfl rfl ?_
      refine X103.aload at_44 rfl rfl ?_
      have f106 := (f96).keep K103 (ninS ne_b91_sb_92 (ninS ne_b91_vb_92 nin0))
      have f107 := (f97).keep K103
      have f109 := (f104).keep K103
      obtain ⟨_, T108, h108, XX108, K108, ⟨rfl, rfl⟩, st108⟩ := X103.viX (W := 0) (hw _ (gm 120 rfl)) (hw _ (gm 121 rfl)) (hw _ (gm 123 rfl)) (hw _ (gm 122 rfl)) (by decide) ((rh_ise2 l Z a0 hw n0 b91 sb_92 h103 X103.old f106 f107 f105).pay (hw _ (gm 124 rfl)) (hw _ (gm 2 rfl)) (by decide) (by decide)) all0 f109 (g := (mkF m 46 #[.val (.int i0), .val (.int i1), .val (.int i2), .val (.int i3), .val (.int (2 : Int32)), .val (.int ca), .val (.int cb), .val (.int cc), .val (.ref b91), .unset, .unset, .unset, .unset] [(.ref b91)])) rfl rfl (argsL := []) (rest := []) (lenOf pd_15 rfl) rfl (by exact Nat.le_of_eq rfl) at_46 rfl (by decide) (by decide)
      refine Go.tr st108 ?_
      have X108 := XX108 [] all0
      have f110 : Fld Z h103 sb_92 "java/lang/AbstractStringBuilder" "count" "I" (.int (Int32.ofNat (([] : List Int32) ++ [ca, cb]).length)) := f105
      refine X108.istore at_49 rfl (l' := #[.val (.int i0), .val (.int i1), .val (.int i2), .val (.int i3), .val (.int (2 : Int32)), .val (.int ca), .val (.int cb), .val (.int cc), .val (.ref b91), .val (.int (0 : Int32)), .unset, .unset, .unset]) rfl ?_
      refine X108.aload at_51 rfl rfl ?_
      obtain ⟨_, T111, h111, XX111, K111, ⟨rfl, P111_0, P111_1, P111_2, P111_3, P111_4⟩, st111⟩ := X108.viX (W := 0) (hw _ (gm 134 rfl)) (hw _ (gm 135 rfl)) (hw _ (gm 137 rfl)) (hw _ (gm 136 rfl)) (by decide) ((rh_cst1 l Z a0 hw n0 b91 sb_92 vb2_103 kb2_103 (([] : List Int32) ++ [ca, cb]) zc vf h103 X108.old f106 f107 P103_0 P103_1 f110 P103_3 P103_4 Sc nc Sa Su Sv Sf rf (Nat.le_of_ble_eq_true rfl) ne_sb_92_vb2_103.symm (X108.ge (.tail _ (.tail _ (.tail _ (.head _))))) (X108.lt (.tail _ (.tail _ (.tail _ (.head _))))) (X108.ge (.head _)) (X108.lt (.head _))).pay (hw _ (gm 138 rfl)) (hw _ (gm 2 rfl)) (by decide) (by decide)) (allS (.tail _ (.tail _ (.tail _ (.head _)))) (allS (.head _) all0)) f109 (g := (mkF m 53 #[.val (.int i0), .val (.int i1), .val (.int i2), .val (.int i3), .val (.int (2 : Int32)), .val (.int ca), .val (.int cb), .val (.int cc), .val (.ref b91), .val (.int (0 : Int32)), .unset, .unset, .unset] [(.ref b91)])) rfl rfl (argsL := []) (rest := []) (lenOf pd_40 rfl) rfl (by exact Nat.le_of_eq rfl) at_53 rfl (by decide) (by decide)
      refine Go.tr st111 ?_
      have X111 := XX111 [] all0
      have K0_h111 := K0_h103.trans K111 (allS (Or.inr sz_sb_92) (allS (Or.inr sz_vb2_103) all0))
      have f112 : Fld Z h111 sb_92 "java/lang/AbstractStringBuilder" "count" "I" (.int (3 : Int32)) := P111_2
      refine X111.astore at_56 rfl rfl (l' := #[.val (.int i0), .val (.int i1), .val (.int i2), .val (.int i3), .val (.int (2 : Int32)), .val (.int ca), .val (.int cb), .val (.int cc), .val (.ref b91), .val (.int (0 : Int32)), .val (.ref b91), .unset, .unset]) rfl ?_
      refine X111.aload at_58 rfl rfl ?_
      have f113 := (f106).keep K111 (ninS ne_b91_sb_92 (ninS ne_b91_vb2_103 nin0))
      have f114 := (f107).keep K111
      have f116 := (f109).keep K111
      obtain ⟨_, T115, h115, XX115, K115, ⟨rfl, rfl⟩, st115⟩ := X111.viX (W := 0) (hw _ (gm 120 rfl)) (hw _ (gm 121 rfl)) (hw _ (gm 123 rfl)) (hw _ (gm 122 rfl)) (by decide) ((rh_ise3 l Z a0 hw n0 b91 sb_92 h111 X111.old f113 f114 f112).pay (hw _ (gm 124 rfl)) (hw _ (gm 2 rfl)) (by decide) (by decide)) all0 f116 (g := (mkF m 60 #[.val (.int i0), .val (.int i1), .val (.int i2), .val (.int i3), .val (.int (2 : Int32)), .val (.int ca), .val (.int cb), .val (.int cc), .val (.ref b91), .val (.int (0 : Int32)), .val (.ref b91), .unset, .unset] [(.ref b91)])) rfl rfl (argsL := []) (rest := []) (lenOf pd_15 rfl) rfl (by exact Nat.le_of_eq rfl) at_60 rfl (by decide) (by decide)
      refine Go.tr st115 ?_
      have X115 := XX115 [] all0
      have f117 : Fld Z h111 sb_92 "java/lang/AbstractStringBuilder" "count" "I" (.int (Int32.ofNat ((([] : List Int32) ++ [ca, cb]) ++ [(62 : Int32)]).length)) := f112
      refine X115.istore at_63 rfl (l' := #[.val (.int i0), .val (.int i1), .val (.int i2), .val (.int i3), .val (.int (2 : Int32)), .val (.int ca), .val (.int cb), .val (.int cc), .val (.ref b91), .val (.int (0 : Int32)), .val (.ref b91), .val (.int (0 : Int32)), .unset]) rfl ?_
      refine X115.aload at_65 rfl rfl ?_
      show Go _ _ _ _ (T115.setTop (mkF m 67 #[.val (.int i0), .val (.int i1), .val (.int i2), .val (.int i3), .val (.int (2 : Int32)), .val (.int ca), .val (.int cb), .val (.int cc), .val (.ref b91), .val (.int (0 : Int32)), .val (.ref b91), .val (.int (0 : Int32)), .unset] [(.ref b91)]))
      obtain ⟨_, T118, h118, XX118, K118, ⟨x_118, t_118, rfl, fr_x_118, fl_x_118, fr_t_118, fl_t_118, P118_0⟩, st118⟩ := X115.viX (W := 0) (hw _ (gm 157 rfl)) (hw _ (gm 158 rfl)) (hw _ (gm 160 rfl)) (hw _ (gm 159 rfl)) (by decide) ((rh_tst1 l Z a0 hw n0 b91 sb_92 vb2_103 kb2_103 ((([] : List Int32) ++ [ca, cb]) ++ [(62 : Int32)]) zc vf h111 X115.old f113 f114 P111_0 P111_1 f117 P111_3 P111_4 Sc nc Sa Su Sv Sf rf (all1 hca (all1 hcb (all1 ⟨by decide, by decide⟩ alln))) (by obtain ⟨c, h1, h2⟩ := hk; exact ⟨c, List.mem_append_left _ (List.mem_append_right _ h1), h2⟩) (Nat.le_of_ble_eq_true rfl)).pay (hw _ (gm 161 rfl)) (hw _ (gm 2 rfl)) (by decide) (by decide)) all0 f116 (g := (mkF m 67 #[.val (.int i0), .val (.int i1), .val (.int i2), .val (.int i3), .val (.int (2 : Int32)), .val (.int ca), .val (.int cb), .val (.int cc), .val (.ref b91), .val (.int (0 : Int32)), .val (.ref b91), .val (.int (0 : Int32)), .unset] [(.ref b91)])) rfl rfl (argsL := []) (rest := []) (lenOf pd_37 rfl) rfl (by exact Nat.le_of_eq rfl) at_67 rfl (by decide) (by decide)
      refine Go.tr st118 ?_
      have X118 := XX118 [x_118, t_118] (allS (Or.inr ⟨fr_x_118, fl_x_118⟩) (allS (Or.inr ⟨fr_t_118, fl_t_118⟩) all0))
      have K0_h118 := K0_h111.trans K118 all0
      refine X118.astore at_70 rfl rfl (l' := #[.val (.int i0), .val (.int i1), .val (.int i2), .val (.int i3), .val (.int (2 : Int32)), .val (.int ca), .val (.int cb), .val (.int cc), .val (.ref b91), .val (.int (0 : Int32)), .val (.ref b91), .val (.int (0 : Int32)), .val (.ref x_118)]) rfl ?_
      refine X118.aload at_72 rfl rfl ?_
      refine X118.aload at_74 rfl rfl ?_
      refine Go.by (fun _ k => X118.acmp (cd := .ne) (x := (.ref b91)) (y' := (.ref b91)) rfl rfl (g := (mkF m 76 #[.val (.int i0), .val (.int i1), .val (.int i2), .val (.int i3), .val (.int (2 : Int32)), .val (.int ca), .val (.int cb), .val (.int cc), .val (.ref b91), .val (.int (0 : Int32)), .val (.ref b91), .val (.int (0 : Int32)), .val (.ref x_118)] [(.ref b91), (.ref b91)])) rfl (pc0 := 76) (pc' := 79) (same := true) rfl at_76 rfl (decide_eq_true rfl) (by decide) (by decide) _ k) ?_
      show Go _ _ _ _ (T118.setTop (mkF m 79 #[.val (.int i0), .val (.int i1), .val (.int i2), .val (.int i3), .val (.int (2 : Int32)), .val (.int ca), .val (.int cb), .val (.int cc), .val (.ref b91), .val (.int (0 : Int32)), .val (.ref b91), .val (.int (0 : Int32)), .val (.ref x_118)] []))
      refine X118.iload at_79 rfl ?_
      refine X118.iload at_81 rfl ?_
      refine X118.ifYes (pc0 := 83) (pc' := 90) rfl at_83 rfl (XT.i0_ne_t (by decide)) (by decide) (by decide) ?_
      refine X118.iconst at_90 ?_
      refine X118.icmpNo at_91 rfl (XT.ii_ne_f (by decide)) ?_
      refine X118.iload at_94 rfl ?_
      refine X118.ifNo at_96 rfl (XT.i0_ne_f (by decide)) ?_
      refine X118.aload at_99 rfl rfl ?_
      refine X118.iload at_101 rfl ?_
      refine X118.iload at_103 rfl ?_
      refine X118.iload at_105 rfl ?_
      refine X118.iload at_107 rfl ?_
      show Go _ _ _ _ (T118.setTop (mkF m 109 #[.val (.int i0), .val (.int i1), .val (.int i2), .val (.int i3), .val (.int (2 : Int32)), .val (.int ca), .val (.int cb), .val (.int cc), .val (.ref b91), .val (.int (0 : Int32)), .val (.ref b91), .val (.int (0 : Int32)), .val (.ref x_118)] [(.int cc), (.int cb), (.int ca), (.int (2 : Int32)), (.ref x_118)]))
      refine X118.iconst at_109 ?_
      obtain ⟨_, T119, h119, XX119, K119, ⟨x_119, t_119, rfl, fr_x_119, fl_x_119, fr_t_119, fl_t_119, P119_0⟩, st119⟩ := X118.stX (W := 1) (hw _ (gm 31 rfl)) (hw _ (gm 32 rfl)) (hw _ (gm 33 rfl)) (hw _ (gm 34 rfl)) (by decide) ((rh_str21 l Z a0 hw n0 ca cb cc zc h118 X118.old Sc nc Sa Su Sv hca hcb hcc).pay (hw _ (gm 34 rfl)) (hw _ (gm 33 rfl)) (by decide) (by decide)) all0 (g := (mkF m 110 #[.val (.int i0), .val (.int i1), .val (.int i2), .val (.int i3), .val (.int (2 : Int32)), .val (.int ca), .val (.int cb), .val (.int cc), .val (.ref b91), .val (.int (0 : Int32)), .val (.ref b91), .val (.int (0 : Int32)), .val (.ref x_118)] [(.int (1 : Int32)), (.int cc), (.int cb), (.int ca), (.int (2 : Int32)), (.ref x_118)])) rfl rfl (argsL := [(.int (2 : Int32)), (.int ca), (.int cb), (.int cc), (.int (1 : Int32))]) (rest := [(.ref x_118)]) (lenOf pd_38 rfl) rfl (by exact Nat.le_of_eq rfl) at_110 rfl (by decide) (by decide)
      refine Go.tr st119 ?_
      have X119 := XX119 [x_119, t_119] (allS (Or.inr ⟨fr_x_119, fl_x_119⟩) (allS (Or.inr ⟨fr_t_119, fl_t_119⟩) all0))
      have K0_h119 := K0_h118.trans K119 all0
      have f120 := (P118_0).keep K119 nin0 nin0
      obtain ⟨_, T121, h121, XX121, K121, ⟨r_121, rfl, rfl, p121_0⟩, st121⟩ := X119.viX (W := 0) (hw _ (gm 207 rfl)) (hw _ (gm 208 rfl)) (hw _ (gm 210 rfl)) (hw _ (gm 209 rfl)) (by decide) (payEq (fun d hd => hw d ((by decide +kernel : ∀ d ∈ StrChars.Road.wordsEq, d ∈ tables_1) d hd)) (hw _ (gm 36 rfl)) X119.old f120 P119_0 Sc nc (by decide) (by decide)) all0 f120.exa (g := (mkF m 113 #[.val (.int i0), .val (.int i1), .val (.int i2), .val (.int i3), .val (.int (2 : Int32)), .val (.int ca), .val (.int cb), .val (.int cc), .val (.ref b91), .val (.int (0 : Int32)), .val (.ref b91), .val (.int (0 : Int32)), .val (.ref x_118)] [(.ref x_119), (.ref x_118)])) rfl rfl (argsL := [(.ref x_119)]) (rest := []) (lenOf pd_41 rfl) rfl (by exact Nat.le_of_eq rfl) at_113 rfl (by decide) (by decide)
      refine Go.tr st121 ?_
      have X121 := XX121 [] all0
      refine X121.ifNo at_116 rfl (XT.i0_eq_f (own_r1 p121_0 rfl)) ?_
      refine X121.iconst at_119 ?_
      refine X121.goto (pc0 := 120) (pc' := 124) rfl at_120 (by decide) (by decide) ?_
      exact X121.retN (by simp) rfl at_124 K0_h119 rfl (by decide) (by decide)
    · show Go _ _ _ _ (T95.setTop (mkF m 40 #[.val (.int i0), .val (.int i1), .val (.int i2), .val (.int i3), .val (.int (2 : Int32)), .val (.int ca), .val (.int cb), .val (.int cc), .val (.ref b91), .unset, .unset, .unset, .unset] [(.ref x_95), (.ref b91)]))
      have f122 := (P92_0).keep K95 nin0
      have f123 := (P92_1).keep K95
      have f124 := (P92_2).keep K95 nin0
      have f125 := (P92_3).keep K95 nin0
      have f126 := (f93).keep K95 nin0
      have f127 := (P92_5).keep K95 nin0
      have f128 := (f94).keep K95 nin0
      have f130 := ((A91).keep K92).keep K95
      obtain ⟨_, T129, h129, XX129, K129, ⟨rfl, P129_0, P129_1, P129_2, P129_3, P129_4⟩, st129⟩ := X95.viX (W := 0) (hw _ (gm 53 rfl)) (hw _ (gm 54 rfl)) (hw _ (gm 56 rfl)) (hw _ (gm 55 rfl)) (by decide) ((rh_mk0 l Z a0 hw n0 b91 sb_92 vb_92 kb_92 ([] : List Int32) x_95 t_95 [ca, cb] zc vf h95 X95.old f122 f123 f124 f125 f126 f127 f128 P95_0 Sc nc Sa Su Sv Sf rf (fun c hc => nomatch hc) (Nat.le_of_ble_eq_true rfl) ne_sb_92_x_95.symm ne_sb_92_t_95.symm ne_vb_92_x_95.symm ne_vb_92_t_95.symm p92_0 (own_nw hk) (X95.ge (.tail _ (.tail _ (.head _)))) (X95.lt (.tail _ (.tail _ (.head _)))) (X95.ge (.tail _ (.tail _ (.tail _ (.head _))))) (X95.lt (.tail _ (.tail _ (.tail _ (.head _)))))).pay (hw _ (gm 57 rfl)) (hw _ (gm 2 rfl)) (by decide) (by decide)) (allS (.tail _ (.tail _ (.head _))) (allS (.tail _ (.tail _ (.tail _ (.head _)))) all0)) f130 (g := (mkF m 40 #[.val (.int i0), .val (.int i1), .val (.int i2), .val (.int i3), .val (.int (2 : Int32)), .val (.int ca), .val (.int cb), .val (.int cc), .val (.ref b91), .unset, .unset, .unset, .unset] [(.ref x_95), (.ref b91)])) rfl rfl (argsL := [(.ref x_95)]) (rest := []) (lenOf pd_39 rfl) rfl (by exact Nat.le_of_eq rfl) at_40 rfl (by decide) (by decide)
      refine Go.tr st129 ?_
      have X129 := XX129 [] all0
      have K0_h129 := K0_h95.trans K129 (allS (Or.inr sz_sb_92) (allS (Or.inr sz_vb_92) all0))
      have f131 : Fld Z h129 sb_92 "java/lang/AbstractStringBuilder" "count" "I" (.int (2 : Int32)) := P129_2
      refine X129.pop at_43 rfl rfl ?_
      refine X129.aload at_44 rfl rfl ?_
      have f132 := (f122).keep K129 (ninS ne_b91_sb_92 (ninS ne_b91_vb_92 nin0))
      have f133 := (f123).keep K129
      have f135 := (f130).keep K129
      obtain ⟨_, T134, h134, XX134, K134, ⟨rfl, rfl⟩, st134⟩ := X129.viX (W := 0) (hw _ (gm 120 rfl)) (hw _ (gm 121 rfl)) (hw _ (gm 123 rfl)) (hw _ (gm 122 rfl)) (by decide) ((rh_ise2 l Z a0 hw n0 b91 sb_92 h129 X129.old f132 f133 f131).pay (hw _ (gm 124 rfl)) (hw _ (gm 2 rfl)) (by decide) (by decide)) all0 f135 (g := (mkF m 46 #[.val (.int i0), .val (.int i1), .val (.int i2), .val (.int i3), .val (.int (2 : Int32)), .val (.int ca), .val (.int cb), .val (.int cc), .val (.ref b91), .unset, .unset, .unset, .unset] [(.ref b91)])) rfl rfl (argsL := []) (rest := []) (lenOf pd_15 rfl) rfl (by exact Nat.le_of_eq rfl) at_46 rfl (by decide) (by decide)
      refine Go.tr st134 ?_
      have X134 := XX134 [] all0
      have f136 : Fld Z h129 sb_92 "java/lang/AbstractStringBuilder" "count" "I" (.int (Int32.ofNat (([] : List Int32) ++ [ca, cb]).length)) := f131
      refine X134.istore at_49 rfl (l' := #[.val (.int i0), .val (.int i1), .val (.int i2), .val (.int i3), .val (.int (2 : Int32)), .val (.int ca), .val (.int cb), .val (.int cc), .val (.ref b91), .val (.int (0 : Int32)), .unset, .unset, .unset]) rfl ?_
      refine X134.aload at_51 rfl rfl ?_
      obtain ⟨_, T137, h137, XX137, K137, ⟨rfl, P137_0, P137_1, P137_2, P137_3, P137_4⟩, st137⟩ := X134.viX (W := 0) (hw _ (gm 134 rfl)) (hw _ (gm 135 rfl)) (hw _ (gm 137 rfl)) (hw _ (gm 136 rfl)) (by decide) ((rh_cst0 l Z a0 hw n0 b91 sb_92 vb_92 kb_92 (([] : List Int32) ++ [ca, cb]) zc vf h129 X134.old f132 f133 P129_0 P129_1 f136 P129_3 P129_4 Sc nc Sa Su Sv Sf rf (Nat.le_of_ble_eq_true rfl) p92_0 (X134.ge (.tail _ (.tail _ (.head _)))) (X134.lt (.tail _ (.tail _ (.head _)))) (X134.ge (.tail _ (.tail _ (.tail _ (.head _))))) (X134.lt (.tail _ (.tail _ (.tail _ (.head _)))))).pay (hw _ (gm 138 rfl)) (hw _ (gm 2 rfl)) (by decide) (by decide)) (allS (.tail _ (.tail _ (.head _))) (allS (.tail _ (.tail _ (.tail _ (.head _)))) all0)) f135 (g := (mkF m 53 #[.val (.int i0), .val (.int i1), .val (.int i2), .val (.int i3), .val (.int (2 : Int32)), .val (.int ca), .val (.int cb), .val (.int cc), .val (.ref b91), .val (.int (0 : Int32)), .unset, .unset, .unset] [(.ref b91)])) rfl rfl (argsL := []) (rest := []) (lenOf pd_40 rfl) rfl (by exact Nat.le_of_eq rfl) at_53 rfl (by decide) (by decide)
      refine Go.tr st137 ?_
      have X137 := XX137 [] all0
      have K0_h137 := K0_h129.trans K137 (allS (Or.inr sz_sb_92) (allS (Or.inr sz_vb_92) all0))
      have f138 : Fld Z h137 sb_92 "java/lang/AbstractStringBuilder" "count" "I" (.int (3 : Int32)) := P137_2
      refine X137.astore at_56 rfl rfl (l' := #[.val (.int i0), .val (.int i1), .val (.int i2), .val (.int i3), .val (.int (2 : Int32)), .val (.int ca), .val (.int cb), .val (.int cc), .val (.ref b91), .val (.int (0 : Int32)), .val (.ref b91), .unset, .unset]) rfl ?_
      refine X137.aload at_58 rfl rfl ?_
      have f139 := (f132).keep K137 (ninS ne_b91_sb_92 (ninS ne_b91_vb_92 nin0))
      have f140 := (f133).keep K137
      have f142 := (f135).keep K137
      obtain ⟨_, T141, h141, XX141, K141, ⟨rfl, rfl⟩, st141⟩ := X137.viX (W := 0) (hw _ (gm 120 rfl)) (hw _ (gm 121 rfl)) (hw _ (gm 123 rfl)) (hw _ (gm 122 rfl)) (by decide) ((rh_ise3 l Z a0 hw n0 b91 sb_92 h137 X137.old f139 f140 f138).pay (hw _ (gm 124 rfl)) (hw _ (gm 2 rfl)) (by decide) (by decide)) all0 f142 (g := (mkF m 60 #[.val (.int i0), .val (.int i1), .val (.int i2), .val (.int i3), .val (.int (2 : Int32)), .val (.int ca), .val (.int cb), .val (.int cc), .val (.ref b91), .val (.int (0 : Int32)), .val (.ref b91), .unset, .unset] [(.ref b91)])) rfl rfl (argsL := []) (rest := []) (lenOf pd_15 rfl) rfl (by exact Nat.le_of_eq rfl) at_60 rfl (by decide) (by decide)
      refine Go.tr st141 ?_
      have X141 := XX141 [] all0
      have f143 : Fld Z h137 sb_92 "java/lang/AbstractStringBuilder" "count" "I" (.int (Int32.ofNat ((([] : List Int32) ++ [ca, cb]) ++ [(62 : Int32)]).length)) := f138
      refine X141.istore at_63 rfl (l' := #[.val (.int i0), .val (.int i1), .val (.int i2), .val (.int i3), .val (.int (2 : Int32)), .val (.int ca), .val (.int cb), .val (.int cc), .val (.ref b91), .val (.int (0 : Int32)), .val (.ref b91), .val (.int (0 : Int32)), .unset]) rfl ?_
      refine X141.aload at_65 rfl rfl ?_
      show Go _ _ _ _ (T141.setTop (mkF m 67 #[.val (.int i0), .val (.int i1), .val (.int i2), .val (.int i3), .val (.int (2 : Int32)), .val (.int ca), .val (.int cb), .val (.int cc), .val (.ref b91), .val (.int (0 : Int32)), .val (.ref b91), .val (.int (0 : Int32)), .unset] [(.ref b91)]))
      obtain ⟨_, T144, h144, XX144, K144, ⟨x_144, t_144, rfl, fr_x_144, fl_x_144, fr_t_144, fl_t_144, P144_0⟩, st144⟩ := X141.viX (W := 0) (hw _ (gm 157 rfl)) (hw _ (gm 158 rfl)) (hw _ (gm 160 rfl)) (hw _ (gm 159 rfl)) (by decide) ((rh_tst0 l Z a0 hw n0 b91 sb_92 vb_92 kb_92 ((([] : List Int32) ++ [ca, cb]) ++ [(62 : Int32)]) zc vf h137 X141.old f139 f140 P137_0 P137_1 f143 P137_3 P137_4 Sc nc Sa Su Sv Sf rf (all1 ⟨hca.1, (own_nw hk) ca (by simp)⟩ (all1 ⟨hcb.1, (own_nw hk) cb (by simp)⟩ (all1 ⟨by decide, by decide⟩ alln))) (Nat.le_of_ble_eq_true rfl)).pay (hw _ (gm 161 rfl)) (hw _ (gm 2 rfl)) (by decide) (by decide)) all0 f142 (g := (mkF m 67 #[.val (.int i0), .val (.int i1), .val (.int i2), .val (.int i3), .val (.int (2 : Int32)), .val (.int ca), .val (.int cb), .val (.int cc), .val (.ref b91), .val (.int (0 : Int32)), .val (.ref b91), .val (.int (0 : Int32)), .unset] [(.ref b91)])) rfl rfl (argsL := []) (rest := []) (lenOf pd_37 rfl) rfl (by exact Nat.le_of_eq rfl) at_67 rfl (by decide) (by decide)
      refine Go.tr st144 ?_
      have X144 := XX144 [x_144, t_144] (allS (Or.inr ⟨fr_x_144, fl_x_144⟩) (allS (Or.inr ⟨fr_t_144, fl_t_144⟩) all0))
      have K0_h144 := K0_h137.trans K144 all0
      refine X144.astore at_70 rfl rfl (l' := #[.val (.int i0), .val (.int i1), .val (.int i2), .val (.int i3), .val (.int (2 : Int32)), .val (.int ca), .val (.int cb), .val (.int cc), .val (.ref b91), .val (.int (0 : Int32)), .val (.ref b91), .val (.int (0 : Int32)), .val (.ref x_144)]) rfl ?_
      refine X144.aload at_72 rfl rfl ?_
      refine X144.aload at_74 rfl rfl ?_
      refine Go.by (fun _ k => X144.acmp (cd := .ne) (x := (.ref b91)) (y' := (.ref b91)) rfl rfl (g := (mkF m 76 #[.val (.int i0), .val (.int i1), .val (.int i2), .val (.int i3), .val (.int (2 : Int32)), .val (.int ca), .val (.int cb), .val (.int cc), .val (.ref b91), .val (.int (0 : Int32)), .val (.ref b91), .val (.int (0 : Int32)), .val (.ref x_144)] [(.ref b91), (.ref b91)])) rfl (pc0 := 76) (pc' := 79) (same := true) rfl at_76 rfl (decide_eq_true rfl) (by decide) (by decide) _ k) ?_
      show Go _ _ _ _ (T144.setTop (mkF m 79 #[.val (.int i0), .val (.int i1), .val (.int i2), .val (.int i3), .val (.int (2 : Int32)), .val (.int ca), .val (.int cb), .val (.int cc), .val (.ref b91), .val (.int (0 : Int32)), .val (.ref b91), .val (.int (0 : Int32)), .val (.ref x_144)] []))
      refine X144.iload at_79 rfl ?_
      refine X144.iload at_81 rfl ?_
      refine X144.ifYes (pc0 := 83) (pc' := 90) rfl at_83 rfl (XT.i0_ne_t (by decide)) (by decide) (by decide) ?_
      refine X144.iconst at_90 ?_
      refine X144.icmpNo at_91 rfl (XT.ii_ne_f (by decide)) ?_
      refine X144.iload at_94 rfl ?_
      refine X144.ifNo at_96 rfl (XT.i0_ne_f (by decide)) ?_
      refine X144.aload at_99 rfl rfl ?_
      refine X144.iload at_101 rfl ?_
      refine X144.iload at_103 rfl ?_
      refine X144.iload at_105 rfl ?_
      refine X144.iload at_107 rfl ?_
      show Go _ _ _ _ (T144.setTop (mkF m 109 #[.val (.int i0), .val (.int i1), .val (.int i2), .val (.int i3), .val (.int (2 : Int32)), .val (.int ca), .val (.int cb), .val (.int cc), .val (.ref b91), .val (.int (0 : Int32)), .val (.ref b91), .val (.int (0 : Int32)), .val (.ref x_144)] [(.int cc), (.int cb), (.int ca), (.int (2 : Int32)), (.ref x_144)]))
      refine X144.iconst at_109 ?_
      obtain ⟨_, T145, h145, XX145, K145, ⟨x_145, t_145, rfl, fr_x_145, fl_x_145, fr_t_145, fl_t_145, P145_0⟩, st145⟩ := X144.stX (W := 1) (hw _ (gm 31 rfl)) (hw _ (gm 32 rfl)) (hw _ (gm 33 rfl)) (hw _ (gm 34 rfl)) (by decide) ((rh_str21 l Z a0 hw n0 ca cb cc zc h144 X144.old Sc nc Sa Su Sv hca hcb hcc).pay (hw _ (gm 34 rfl)) (hw _ (gm 33 rfl)) (by decide) (by decide)) all0 (g := (mkF m 110 #[.val (.int i0), .val (.int i1), .val (.int i2), .val (.int i3), .val (.int (2 : Int32)), .val (.int ca), .val (.int cb), .val (.int cc), .val (.ref b91), .val (.int (0 : Int32)), .val (.ref b91), .val (.int (0 : Int32)), .val (.ref x_144)] [(.int (1 : Int32)), (.int cc), (.int cb), (.int ca), (.int (2 : Int32)), (.ref x_144)])) rfl rfl (argsL := [(.int (2 : Int32)), (.int ca), (.int cb), (.int cc), (.int (1 : Int32))]) (rest := [(.ref x_144)]) (lenOf pd_38 rfl) rfl (by exact Nat.le_of_eq rfl) at_110 rfl (by decide) (by decide)
      refine Go.tr st145 ?_
      have X145 := XX145 [x_145, t_145] (allS (Or.inr ⟨fr_x_145, fl_x_145⟩) (allS (Or.inr ⟨fr_t_145, fl_t_145⟩) all0))
      have K0_h145 := K0_h144.trans K145 all0
      have f146 := (P144_0).keep K145 nin0 nin0
      obtain ⟨_, T147, h147, XX147, K147, ⟨r_147, rfl, rfl, p147_0⟩, st147⟩ := X145.viX (W := 0) (hw _ (gm 207 rfl)) (hw _ (gm 208 rfl)) (hw _ (gm 210 rfl)) (hw _ (gm 209 rfl)) (by decide) (payEq (fun d hd => hw d ((by decide +kernel : ∀ d ∈ StrChars.Road.wordsEq, d ∈ tables_1) d hd)) (hw _ (gm 36 rfl)) X145.old f146 P145_0 Sc nc (by decide) (by decide)) all0 f146.exa (g := (mkF m 113 #[.val (.int i0), .val (.int i1), .val (.int i2), .val (.int i3), .val (.int (2 : Int32)), .val (.int ca), .val (.int cb), .val (.int cc), .val (.ref b91), .val (.int (0 : Int32)), .val (.ref b91), .val (.int (0 : Int32)), .val (.ref x_144)] [(.ref x_145), (.ref x_144)])) rfl rfl (argsL := [(.ref x_145)]) (rest := []) (lenOf pd_41 rfl) rfl (by exact Nat.le_of_eq rfl) at_113 rfl (by decide) (by decide)
      refine Go.tr st147 ?_
      have X147 := XX147 [] all0
      refine X147.ifNo at_116 rfl (XT.i0_eq_f (own_r1 p147_0 rfl)) ?_
      refine X147.iconst at_119 ?_
      refine X147.goto (pc0 := 120) (pc' := 124) rfl at_120 (by decide) (by decide) ?_
      exact X147.retN (by simp) rfl at_124 K0_h145 rfl (by decide) (by decide)
  · show Go _ _ _ _ (T0.setTop (mkF m 17 #[.val (.int i0), .val (.int i1), .val (.int i2), .val (.int i3), .val (.int (3 : Int32)), .val (.int ca), .val (.int cb), .val (.int cc), .unset, .unset, .unset, .unset, .unset] []))
    obtain ⟨T148, h148, b148, g_b148, X148, E148, A148, D148, st148⟩ := X0.new (hw _ (gm 0 rfl)) (hw _ (gm 1 rfl)) (hw _ (gm 2 rfl)) (g := (mkF m 17 #[.val (.int i0), .val (.int i1), .val (.int i2), .val (.int i3), .val (.int (3 : Int32)), .val (.int ca), .val (.int cb), .val (.int cc), .unset, .unset, .unset, .unset, .unset] [])) rfl at_17 (by decide) (by decide)
    refine Go.by st148 ?_
    have sz_b148 := Nat.le_trans X0.sz (Nat.le_of_eq g_b148.symm)
    have K0_h148 := (Keep.refl h0 []).ext E148
    have F148_html : Fld Z h148 b148 "com/example/suricate/suricate/component/HtmlWriter" "html" "Ljava/lang/StringBuilder;" .null := D148 (Or.inr (hw _ (gm 30 rfl))) (ty := (.object "java/lang/StringBuilder")) (by decide)
    refine X148.dup at_20 rfl rfl ?_
    have lt_b148_149 := (X148.lt (.head _))
    obtain ⟨_, T149, h149, XX149, K149, ⟨sb_149, vb_149, kb_149, rfl, fr_sb_149, fl_sb_149, fr_vb_149, fl_vb_149, P149_0, P149_1, P149_2, P149_3, P149_4, P149_5, P149_6, p149_0⟩, st149⟩ := X148.spX (W := 1) rfl (hw _ (gm 3 rfl)) (hw _ (gm 4 rfl)) (hw _ (gm 5 rfl)) (by decide) ((rh_hwi l Z a0 hw n0 b148 .null zc h148 X148.old A148 F148_html Sc nc (X148.ge (.head _)) (X148.lt (.head _))).pay (hw _ (gm 5 rfl)) (hw _ (gm 2 rfl)) (by decide) (by decide)) (allS (.head _) all0) (g := (mkF m 21 #[.val (.int i0), .val (.int i1), .val (.int i2), .val (.int i3), .val (.int (3 : Int32)), .val (.int ca), .val (.int cb), .val (.int cc), .unset, .unset, .unset, .unset, .unset] [(.ref b148), (.ref b148)])) rfl rfl (a := b148) (argsL := []) (rest := [(.ref b148)]) (lenOf pd_23 rfl) rfl (by exact Nat.le_of_eq rfl) at_21 rfl (by decide) (by decide)
    refine Go.tr st149 ?_
    have X149 := XX149 [sb_149, vb_149] (allS (Or.inr ⟨fr_sb_149, fl_sb_149⟩) (allS (Or.inr ⟨fr_vb_149, fl_vb_149⟩) all0))
    have K0_h149 := K0_h148.trans K149 (allS (Or.inr sz_b148) all0)
    have ne_b148_sb_149 := ne_ge lt_b148_149 fr_sb_149
    have sz_sb_149 := Nat.le_trans X148.sz fr_sb_149
    have ne_b148_vb_149 := ne_ge lt_b148_149 fr_vb_149
    have sz_vb_149 := Nat.le_trans X148.sz fr_vb_149
    have f150 : Fld Z h149 sb_149 "java/lang/AbstractStringBuilder" "count" "I" (.int (Int32.ofNat ([] : List Int32).length)) := P149_4
    have f151 : Arv Z h149 vb_149 kb_149 .byte (16 : Int32) (([] : List Int32).map fun c => Value.int (StrChars.lo8 c)) (.int (0 : Int32)) := P149_6
    refine X149.astore at_24 rfl rfl (l' := #[.val (.int i0), .val (.int i1), .val (.int i2), .val (.int i3), .val (.int (3 : Int32)), .val (.int ca), .val (.int cb), .val (.int cc), .val (.ref b148), .unset, .unset, .unset, .unset]) rfl ?_
    refine X149.aload at_26 rfl rfl ?_
    refine X149.iload at_28 rfl ?_
    refine X149.iload at_30 rfl ?_
    refine X149.iload at_32 rfl ?_
    refine X149.iload at_34 rfl ?_
    refine X149.iconst at_36 ?_
    have lt_sb_149_152 := (X149.lt (.head _))
    have lt_vb_149_152 := (X149.lt (.tail _ (.head _)))
    obtain ⟨_, T152, h152, XX152, K152, ⟨x_152, t_152, rfl, fr_x_152, fl_x_152, fr_t_152, fl_t_152, P152_0⟩, st152⟩ := X149.stX (W := 1) (hw _ (gm 31 rfl)) (hw _ (gm 32 rfl)) (hw _ (gm 33 rfl)) (hw _ (gm 34 rfl)) (by decide) ((rh_str30 l Z a0 hw n0 ca cb cc zc h149 X149.old Sc nc Sa Su Sv hca hcb hcc).pay (hw _ (gm 34 rfl)) (hw _ (gm 33 rfl)) (by decide) (by decide)) all0 (g := (mkF m 37 #[.val (.int i0), .val (.int i1), .val (.int i2), .val (.int i3), .val (.int (3 : Int32)), .val (.int ca), .val (.int cb), .val (.int cc), .val (.ref b148), .unset, .unset, .unset, .unset] [(.int (0 : Int32)), (.int cc), (.int cb), (.int ca), (.int (3 : Int32)), (.ref b148)])) rfl rfl (argsL := [(.int (3 : Int32)), (.int ca), (.int cb), (.int cc), (.int (0 : Int32))]) (rest := [(.ref b148)]) (lenOf pd_38 rfl) rfl (by exact Nat.le_of_eq rfl) at_37 rfl (by decide) (by decide)
    refine Go.tr st152 ?_
    have X152 := XX152 [x_152, t_152] (allS (Or.inr ⟨fr_x_152, fl_x_152⟩) (allS (Or.inr ⟨fr_t_152, fl_t_152⟩) all0))
    have K0_h152 := K0_h149.trans K152 all0
    have ne_sb_149_x_152 := ne_ge lt_sb_149_152 fr_x_152
    have ne_vb_149_x_152 := ne_ge lt_vb_149_152 fr_x_152
    have ne_sb_149_t_152 := ne_ge lt_sb_149_152 fr_t_152
    have ne_vb_149_t_152 := ne_ge lt_vb_149_152 fr_t_152
    by_cases hk : ∃ c ∈ ([ca, cb, cc] : List Int32), (255 : Int32) < c
    · show Go _ _ _ _ (T152.setTop (mkF m 40 #[.val (.int i0), .val (.int i1), .val (.int i2), .val (.int i3), .val (.int (3 : Int32)), .val (.int ca), .val (.int cb), .val (.int cc), .val (.ref b148), .unset, .unset, .unset, .unset] [(.ref x_152), (.ref b148)]))
      have f153 := (P149_0).keep K152 nin0
      have f154 := (P149_1).keep K152
      have f155 := (P149_2).keep K152 nin0
      have f156 := (P149_3).keep K152 nin0
      have f157 := (f150).keep K152 nin0
      have f158 := (P149_5).keep K152 nin0
      have f159 := (f151).keep K152 nin0
      have lt_b148_160 := (X152.lt (.tail _ (.tail _ (.tail _ (.tail _ (.head _))))))
      have lt_sb_149_160 := (X152.lt (.tail _ (.tail _ (.head _))))
      have f161 := ((A148).keep K149).keep K152
      obtain ⟨_, T160, h160, XX160, K160, ⟨vb2_160, kb2_160, rfl, fr_vb2_160, fl_vb2_160, P160_0, P160_1, P160_2, P160_3, P160_4⟩, st160⟩ := X152.viX (W := 0) (hw _ (gm 53 rfl)) (hw _ (gm 54 rfl)) (hw _ (gm 56 rfl)) (hw _ (gm 55 rfl)) (by decide) ((rh_mk1 l Z a0 hw n0 b148 sb_149 vb_149 kb_149 ([] : List Int32) x_152 t_152 [ca, cb, cc] zc vf h152 X152.old f153 f154 f155 f156 f157 f158 f159 P152_0 Sc nc Sa Su Sv Sf rf (fun c hc => nomatch hc) (Nat.le_of_ble_eq_true rfl) ne_sb_149_x_152.symm ne_sb_149_t_152.symm ne_vb_149_x_152.symm ne_vb_149_t_152.symm p149_0 hk (X152.ge (.tail _ (.tail _ (.head _)))) (X152.lt (.tail _ (.tail _ (.head _)))) (X152.ge (.tail _ (.tail _ (.tail _ (.head _))))) (X152.lt (.tail _ (.tail _ (.tail _ (.head _)))))).pay (hw _ (gm 57 rfl)) (hw _ (gm 2 rfl)) (by decide) (by decide)) (allS (.tail _ (.tail _ (.head _))) (allS (.tail _ (.tail _ (.tail _ (.head _)))) all0)) f161 (g := (mkF m 40 #[.val (.int i0), .val (.int i1), .val (.int i2), .val (.int i3), .val (.int (3 : Int32)), .val (.int ca), .val (.int cb), .val (.int cc), .val (.ref b148), .unset, .unset, .unset, .unset] [(.ref x_152), (.ref b148)])) rfl rfl (argsL := [(.ref x_152)]) (rest := []) (lenOf pd_39 rfl) rfl (by exact Nat.le_of_eq rfl) at_40 rfl (by decide) (by decide)
      refine Go.tr st160 ?_
      have X160 := XX160 [vb2_160] (allS (Or.inr ⟨fr_vb2_160, fl_vb2_160⟩) all0)
      have K0_h160 := K0_h152.trans K160 (allS (Or.inr sz_sb_149) (allS (Or.inr sz_vb_149) all0))
      have ne_b148_vb2_160 := ne_ge lt_b148_160 fr_vb2_160
      have ne_sb_149_vb2_160 := ne_ge lt_sb_149_160 fr_vb2_160
      have sz_vb2_160 := Nat.le_trans X152.sz fr_vb2_160
      have f162 : Fld Z h160 sb_149 "java/lang/AbstractStringBuilder" "count" "I" (.int (3 : Int32)) := P160_2
      refine X160.pop at_43 rfl rfl ?_
      refine X160.aload at_44 rfl rfl ?_
      have f163 := (f153).keep K160 (ninS ne_b148_sb_149 (ninS ne_b148_vb_149 nin0))
      have f164 := (f154).keep K160
      have f166 := (f161).keep K160
      obtain ⟨_, T165, h165, XX165, K165, ⟨rfl, rfl⟩, st165⟩ := X160.viX (W := 0) (hw _ (gm 120 rfl)) (hw _ (gm 121 rfl)) (hw _ (gm 123 rfl)) (hw _ (gm 122 rfl)) (by decide) ((rh_ise3 l Z a0 hw n0 b148 sb_149 h160 X160.old f163 f164 f162).pay (hw _ (gm 124 rfl)) (hw _ (gm 2 rfl)) (by decide) (by decide)) all0 f166 (g := (mkF m 46 #[.val (.int i0), .val (.int i1), .val (.int i2), .val (.int i3), .val (.int (3 : Int32)), .val (.int ca), .val (.int cb), .val (.int cc), .val (.ref b148), .unset, .unset, .unset, .unset] [(.ref b148)])) rfl rfl (argsL := []) (rest := []) (lenOf pd_15 rfl) rfl (by exact Nat.le_of_eq rfl) at_46 rfl (by decide) (by decide)
      refine Go.tr st165 ?_
      have X165 := XX165 [] all0
      have f167 : Fld Z h160 sb_149 "java/lang/AbstractStringBuilder" "count" "I" (.int (Int32.ofNat (([] : List Int32) ++ [ca, cb, cc]).length)) := f162
      refine X165.istore at_49 rfl (l' := #[.val (.int i0), .val (.int i1), .val (.int i2), .val (.int i3), .val (.int (3 : Int32)), .val (.int ca), .val (.int cb), .val (.int cc), .val (.ref b148), .val (.int (0 : Int32)), .unset, .unset, .unset]) rfl ?_
      refine X165.aload at_51 rfl rfl ?_
      obtain ⟨_, T168, h168, XX168, K168, ⟨rfl, P168_0, P168_1, P168_2, P168_3, P168_4⟩, st168⟩ := X165.viX (W := 0) (hw _ (gm 134 rfl)) (hw _ (gm 135 rfl)) (hw _ (gm 137 rfl)) (hw _ (gm 136 rfl)) (by decide) ((rh_cst1 l Z a0 hw n0 b148 sb_149 vb2_160 kb2_160 (([] : List Int32) ++ [ca, cb, cc]) zc vf h160 X165.old f163 f164 P160_0 P160_1 f167 P160_3 P160_4 Sc nc Sa Su Sv Sf rf (Nat.le_of_ble_eq_true rfl) ne_sb_149_vb2_160.symm (X165.ge (.tail _ (.tail _ (.tail _ (.head _))))) (X165.lt (.tail _ (.tail _ (.tail _ (.head _))))) (X165.ge (.head _)) (X165.lt (.head _))).pay (hw _ (gm 138 rfl)) (hw _ (gm 2 rfl)) (by decide) (by decide)) (allS (.tail _ (.tail _ (.tail _ (.head _)))) (allS (.head _) all0)) f166 (g := (mkF m 53 #[.val (.int i0), .val (.int i1), .val (.int i2), .val (.int i3), .val (.int (3 : Int32)), .val (.int ca), .val (.int cb), .val (.int cc), .val (.ref b148), .val (.int (0 : Int32)), .unset, .unset, .unset] [(.ref b148)])) rfl rfl (argsL := []) (rest := []) (lenOf pd_40 rfl) rfl (by exact Nat.le_of_eq rfl) at_53 rfl (by decide) (by decide)
      refine Go.tr st168 ?_
      have X168 := XX168 [] all0
      have K0_h168 := K0_h160.trans K168 (allS (Or.inr sz_sb_149) (allS (Or.inr sz_vb2_160) all0))
      have f169 : Fld Z h168 sb_149 "java/lang/AbstractStringBuilder" "count" "I" (.int (4 : Int32)) := P168_2
      refine X168.astore at_56 rfl rfl (l' := #[.val (.int i0), .val (.int i1), .val (.int i2), .val (.int i3), .val (.int (3 : Int32)), .val (.int ca), .val (.int cb), .val (.int cc), .val (.ref b148), .val (.int (0 : Int32)), .val (.ref b148), .unset, .unset]) rfl ?_
      refine X168.aload at_58 rfl rfl ?_
      have f170 := (f163).keep K168 (ninS ne_b148_sb_149 (ninS ne_b148_vb2_160 nin0))
      have f171 := (f164).keep K168
      have f173 := (f166).keep K168
      obtain ⟨_, T172, h172, XX172, K172, ⟨rfl, rfl⟩, st172⟩ := X168.viX (W := 0) (hw _ (gm 120 rfl)) (hw _ (gm 121 rfl)) (hw _ (gm 123 rfl)) (hw _ (gm 122 rfl)) (by decide) ((rh_ise4 l Z a0 hw n0 b148 sb_149 h168 X168.old f170 f171 f169).pay (hw _ (gm 124 rfl)) (hw _ (gm 2 rfl)) (by decide) (by decide)) all0 f173 (g := (mkF m 60 #[.val (.int i0), .val (.int i1), .val (.int i2), .val (.int i3), .val (.int (3 : Int32)), .val (.int ca), .val (.int cb), .val (.int cc), .val (.ref b148), .val (.int (0 : Int32)), .val (.ref b148), .unset, .unset] [(.ref b148)])) rfl rfl (argsL := []) (rest := []) (lenOf pd_15 rfl) rfl (by exact Nat.le_of_eq rfl) at_60 rfl (by decide) (by decide)
      refine Go.tr st172 ?_
      have X172 := XX172 [] all0
      have f174 : Fld Z h168 sb_149 "java/lang/AbstractStringBuilder" "count" "I" (.int (Int32.ofNat ((([] : List Int32) ++ [ca, cb, cc]) ++ [(62 : Int32)]).length)) := f169
      refine X172.istore at_63 rfl (l' := #[.val (.int i0), .val (.int i1), .val (.int i2), .val (.int i3), .val (.int (3 : Int32)), .val (.int ca), .val (.int cb), .val (.int cc), .val (.ref b148), .val (.int (0 : Int32)), .val (.ref b148), .val (.int (0 : Int32)), .unset]) rfl ?_
      refine X172.aload at_65 rfl rfl ?_
      show Go _ _ _ _ (T172.setTop (mkF m 67 #[.val (.int i0), .val (.int i1), .val (.int i2), .val (.int i3), .val (.int (3 : Int32)), .val (.int ca), .val (.int cb), .val (.int cc), .val (.ref b148), .val (.int (0 : Int32)), .val (.ref b148), .val (.int (0 : Int32)), .unset] [(.ref b148)]))
      obtain ⟨_, T175, h175, XX175, K175, ⟨x_175, t_175, rfl, fr_x_175, fl_x_175, fr_t_175, fl_t_175, P175_0⟩, st175⟩ := X172.viX (W := 0) (hw _ (gm 157 rfl)) (hw _ (gm 158 rfl)) (hw _ (gm 160 rfl)) (hw _ (gm 159 rfl)) (by decide) ((rh_tst1 l Z a0 hw n0 b148 sb_149 vb2_160 kb2_160 ((([] : List Int32) ++ [ca, cb, cc]) ++ [(62 : Int32)]) zc vf h168 X172.old f170 f171 P168_0 P168_1 f174 P168_3 P168_4 Sc nc Sa Su Sv Sf rf (all1 hca (all1 hcb (all1 hcc (all1 ⟨by decide, by decide⟩ alln)))) (by obtain ⟨c, h1, h2⟩ := hk; exact ⟨c, List.mem_append_left _ (List.mem_append_right _ h1), h2⟩) (Nat.le_of_ble_eq_true rfl)).pay (hw _ (gm 161 rfl)) (hw _ (gm 2 rfl)) (by decide) (by decide)) all0 f173 (g := (mkF m 67 #[.val (.int i0), .val (.int i1), .val (.int i2), .val (.int i3), .val (.int (3 : Int32)), .val (.int ca), .val (.int cb), .val (.int cc), .val (.ref b148), .val (.int (0 : Int32)), .val (.ref b148), .val (.int (0 : Int32)), .unset] [(.ref b148)])) rfl rfl (argsL := []) (rest := []) (lenOf pd_37 rfl) rfl (by exact Nat.le_of_eq rfl) at_67 rfl (by decide) (by decide)
      refine Go.tr st175 ?_
      have X175 := XX175 [x_175, t_175] (allS (Or.inr ⟨fr_x_175, fl_x_175⟩) (allS (Or.inr ⟨fr_t_175, fl_t_175⟩) all0))
      have K0_h175 := K0_h168.trans K175 all0
      refine X175.astore at_70 rfl rfl (l' := #[.val (.int i0), .val (.int i1), .val (.int i2), .val (.int i3), .val (.int (3 : Int32)), .val (.int ca), .val (.int cb), .val (.int cc), .val (.ref b148), .val (.int (0 : Int32)), .val (.ref b148), .val (.int (0 : Int32)), .val (.ref x_175)]) rfl ?_
      refine X175.aload at_72 rfl rfl ?_
      refine X175.aload at_74 rfl rfl ?_
      refine Go.by (fun _ k => X175.acmp (cd := .ne) (x := (.ref b148)) (y' := (.ref b148)) rfl rfl (g := (mkF m 76 #[.val (.int i0), .val (.int i1), .val (.int i2), .val (.int i3), .val (.int (3 : Int32)), .val (.int ca), .val (.int cb), .val (.int cc), .val (.ref b148), .val (.int (0 : Int32)), .val (.ref b148), .val (.int (0 : Int32)), .val (.ref x_175)] [(.ref b148), (.ref b148)])) rfl (pc0 := 76) (pc' := 79) (same := true) rfl at_76 rfl (decide_eq_true rfl) (by decide) (by decide) _ k) ?_
      show Go _ _ _ _ (T175.setTop (mkF m 79 #[.val (.int i0), .val (.int i1), .val (.int i2), .val (.int i3), .val (.int (3 : Int32)), .val (.int ca), .val (.int cb), .val (.int cc), .val (.ref b148), .val (.int (0 : Int32)), .val (.ref b148), .val (.int (0 : Int32)), .val (.ref x_175)] []))
      refine X175.iload at_79 rfl ?_
      refine X175.iload at_81 rfl ?_
      refine X175.ifYes (pc0 := 83) (pc' := 90) rfl at_83 rfl (XT.i0_ne_t (by decide)) (by decide) (by decide) ?_
      refine X175.iconst at_90 ?_
      refine X175.icmpNo at_91 rfl (XT.ii_ne_f (by decide)) ?_
      refine X175.iload at_94 rfl ?_
      refine X175.ifNo at_96 rfl (XT.i0_ne_f (by decide)) ?_
      refine X175.aload at_99 rfl rfl ?_
      refine X175.iload at_101 rfl ?_
      refine X175.iload at_103 rfl ?_
      refine X175.iload at_105 rfl ?_
      refine X175.iload at_107 rfl ?_
      show Go _ _ _ _ (T175.setTop (mkF m 109 #[.val (.int i0), .val (.int i1), .val (.int i2), .val (.int i3), .val (.int (3 : Int32)), .val (.int ca), .val (.int cb), .val (.int cc), .val (.ref b148), .val (.int (0 : Int32)), .val (.ref b148), .val (.int (0 : Int32)), .val (.ref x_175)] [(.int cc), (.int cb), (.int ca), (.int (3 : Int32)), (.ref x_175)]))
      refine X175.iconst at_109 ?_
      obtain ⟨_, T176, h176, XX176, K176, ⟨x_176, t_176, rfl, fr_x_176, fl_x_176, fr_t_176, fl_t_176, P176_0⟩, st176⟩ := X175.stX (W := 1) (hw _ (gm 31 rfl)) (hw _ (gm 32 rfl)) (hw _ (gm 33 rfl)) (hw _ (gm 34 rfl)) (by decide) ((rh_str31 l Z a0 hw n0 ca cb cc zc h175 X175.old Sc nc Sa Su Sv hca hcb hcc).pay (hw _ (gm 34 rfl)) (hw _ (gm 33 rfl)) (by decide) (by decide)) all0 (g := (mkF m 110 #[.val (.int i0), .val (.int i1), .val (.int i2), .val (.int i3), .val (.int (3 : Int32)), .val (.int ca), .val (.int cb), .val (.int cc), .val (.ref b148), .val (.int (0 : Int32)), .val (.ref b148), .val (.int (0 : Int32)), .val (.ref x_175)] [(.int (1 : Int32)), (.int cc), (.int cb), (.int ca), (.int (3 : Int32)), (.ref x_175)])) rfl rfl (argsL := [(.int (3 : Int32)), (.int ca), (.int cb), (.int cc), (.int (1 : Int32))]) (rest := [(.ref x_175)]) (lenOf pd_38 rfl) rfl (by exact Nat.le_of_eq rfl) at_110 rfl (by decide) (by decide)
      refine Go.tr st176 ?_
      have X176 := XX176 [x_176, t_176] (allS (Or.inr ⟨fr_x_176, fl_x_176⟩) (allS (Or.inr ⟨fr_t_176, fl_t_176⟩) all0))
      have K0_h176 := K0_h175.trans K176 all0
      have f177 := (P175_0).keep K176 nin0 nin0
      obtain ⟨_, T178, h178, XX178, K178, ⟨r_178, rfl, rfl, p178_0⟩, st178⟩ := X176.viX (W := 0) (hw _ (gm 207 rfl)) (hw _ (gm 208 rfl)) (hw _ (gm 210 rfl)) (hw _ (gm 209 rfl)) (by decide) (payEq (fun d hd => hw d ((by decide +kernel : ∀ d ∈ StrChars.Road.wordsEq, d ∈ tables_1) d hd)) (hw _ (gm 36 rfl)) X176.old f177 P176_0 Sc nc (by decide) (by decide)) all0 f177.exa (g := (mkF m 113 #[.val (.int i0), .val (.int i1), .val (.int i2), .val (.int i3), .val (.int (3 : Int32)), .val (.int ca), .val (.int cb), .val (.int cc), .val (.ref b148), .val (.int (0 : Int32)), .val (.ref b148), .val (.int (0 : Int32)), .val (.ref x_175)] [(.ref x_176), (.ref x_175)])) rfl rfl (argsL := [(.ref x_176)]) (rest := []) (lenOf pd_41 rfl) rfl (by exact Nat.le_of_eq rfl) at_113 rfl (by decide) (by decide)
      refine Go.tr st178 ?_
      have X178 := XX178 [] all0
      refine X178.ifNo at_116 rfl (XT.i0_eq_f (own_r1 p178_0 rfl)) ?_
      refine X178.iconst at_119 ?_
      refine X178.goto (pc0 := 120) (pc' := 124) rfl at_120 (by decide) (by decide) ?_
      exact X178.retN (by simp) rfl at_124 K0_h176 rfl (by decide) (by decide)
    · show Go _ _ _ _ (T152.setTop (mkF m 40 #[.val (.int i0), .val (.int i1), .val (.int i2), .val (.int i3), .val (.int (3 : Int32)), .val (.int ca), .val (.int cb), .val (.int cc), .val (.ref b148), .unset, .unset, .unset, .unset] [(.ref x_152), (.ref b148)]))
      have f179 := (P149_0).keep K152 nin0
      have f180 := (P149_1).keep K152
      have f181 := (P149_2).keep K152 nin0
      have f182 := (P149_3).keep K152 nin0
      have f183 := (f150).keep K152 nin0
      have f184 := (P149_5).keep K152 nin0
      have f185 := (f151).keep K152 nin0
      have f187 := ((A148).keep K149).keep K152
      obtain ⟨_, T186, h186, XX186, K186, ⟨rfl, P186_0, P186_1, P186_2, P186_3, P186_4⟩, st186⟩ := X152.viX (W := 0) (hw _ (gm 53 rfl)) (hw _ (gm 54 rfl)) (hw _ (gm 56 rfl)) (hw _ (gm 55 rfl)) (by decide) ((rh_mk0 l Z a0 hw n0 b148 sb_149 vb_149 kb_149 ([] : List Int32) x_152 t_152 [ca, cb, cc] zc vf h152 X152.old f179 f180 f181 f182 f183 f184 f185 P152_0 Sc nc Sa Su Sv Sf rf (fun c hc => nomatch hc) (Nat.le_of_ble_eq_true rfl) ne_sb_149_x_152.symm ne_sb_149_t_152.symm ne_vb_149_x_152.symm ne_vb_149_t_152.symm p149_0 (own_nw hk) (X152.ge (.tail _ (.tail _ (.head _)))) (X152.lt (.tail _ (.tail _ (.head _)))) (X152.ge (.tail _ (.tail _ (.tail _ (.head _))))) (X152.lt (.tail _ (.tail _ (.tail _ (.head _)))))).pay (hw _ (gm 57 rfl)) (hw _ (gm 2 rfl)) (by decide) (by decide)) (allS (.tail _ (.tail _ (.head _))) (allS (.tail _ (.tail _ (.tail _ (.head _)))) all0)) f187 (g := (mkF m 40 #[.val (.int i0), .val (.int i1), .val (.int i2), .val (.int i3), .val (.int (3 : Int32)), .val (.int ca), .val (.int cb), .val (.int cc), .val (.ref b148), .unset, .unset, .unset, .unset] [(.ref x_152), (.ref b148)])) rfl rfl (argsL := [(.ref x_152)]) (rest := []) (lenOf pd_39 rfl) rfl (by exact Nat.le_of_eq rfl) at_40 rfl (by decide) (by decide)
      refine Go.tr st186 ?_
      have X186 := XX186 [] all0
      have K0_h186 := K0_h152.trans K186 (allS (Or.inr sz_sb_149) (allS (Or.inr sz_vb_149) all0))
      have f188 : Fld Z h186 sb_149 "java/lang/AbstractStringBuilder" "count" "I" (.int (3 : Int32)) := P186_2
      refine X186.pop at_43 rfl rfl ?_
      refine X186.aload at_44 rfl rfl ?_
      have f189 := (f179).keep K186 (ninS ne_b148_sb_149 (ninS ne_b148_vb_149 nin0))
      have f190 := (f180).keep K186
      have f192 := (f187).keep K186
      obtain ⟨_, T191, h191, XX191, K191, ⟨rfl, rfl⟩, st191⟩ := X186.viX (W := 0) (hw _ (gm 120 rfl)) (hw _ (gm 121 rfl)) (hw _ (gm 123 rfl)) (hw _ (gm 122 rfl)) (by decide) ((rh_ise3 l Z a0 hw n0 b148 sb_149 h186 X186.old f189 f190 f188).pay (hw _ (gm 124 rfl)) (hw _ (gm 2 rfl)) (by decide) (by decide)) all0 f192 (g := (mkF m 46 #[.val (.int i0), .val (.int i1), .val (.int i2), .val (.int i3), .val (.int (3 : Int32)), .val (.int ca), .val (.int cb), .val (.int cc), .val (.ref b148), .unset, .unset, .unset, .unset] [(.ref b148)])) rfl rfl (argsL := []) (rest := []) (lenOf pd_15 rfl) rfl (by exact Nat.le_of_eq rfl) at_46 rfl (by decide) (by decide)
      refine Go.tr st191 ?_
      have X191 := XX191 [] all0
      have f193 : Fld Z h186 sb_149 "java/lang/AbstractStringBuilder" "count" "I" (.int (Int32.ofNat (([] : List Int32) ++ [ca, cb, cc]).length)) := f188
      refine X191.istore at_49 rfl (l' := #[.val (.int i0), .val (.int i1), .val (.int i2), .val (.int i3), .val (.int (3 : Int32)), .val (.int ca), .val (.int cb), .val (.int cc), .val (.ref b148), .val (.int (0 : Int32)), .unset, .unset, .unset]) rfl ?_
      refine X191.aload at_51 rfl rfl ?_
      obtain ⟨_, T194, h194, XX194, K194, ⟨rfl, P194_0, P194_1, P194_2, P194_3, P194_4⟩, st194⟩ := X191.viX (W := 0) (hw _ (gm 134 rfl)) (hw _ (gm 135 rfl)) (hw _ (gm 137 rfl)) (hw _ (gm 136 rfl)) (by decide) ((rh_cst0 l Z a0 hw n0 b148 sb_149 vb_149 kb_149 (([] : List Int32) ++ [ca, cb, cc]) zc vf h186 X191.old f189 f190 P186_0 P186_1 f193 P186_3 P186_4 Sc nc Sa Su Sv Sf rf (Nat.le_of_ble_eq_true rfl) p149_0 (X191.ge (.tail _ (.tail _ (.head _)))) (X191.lt (.tail _ (.tail _ (.head _)))) (X191.ge (.tail _ (.tail _ (.tail _ (.head _))))) (X191.lt (.tail _ (.tail _ (.tail _ (.head _)))))).pay (hw _ (gm 138 rfl)) (hw _ (gm 2 rfl)) (by decide) (by decide)) (allS (.tail _ (.tail _ (.head _))) (allS (.tail _ (.tail _ (.tail _ (.head _)))) all0)) f192 (g := (mkF m 53 #[.val (.int i0), .val (.int i1), .val (.int i2), .val (.int i3), .val (.int (3 : Int32)), .val (.int ca), .val (.int cb), .val (.int cc), .val (.ref b148), .val (.int (0 : Int32)), .unset, .unset, .unset] [(.ref b148)])) rfl rfl (argsL := []) (rest := []) (lenOf pd_40 rfl) rfl (by exact Nat.le_of_eq rfl) at_53 rfl (by decide) (by decide)
      refine Go.tr st194 ?_
      have X194 := XX194 [] all0
      have K0_h194 := K0_h186.trans K194 (allS (Or.inr sz_sb_149) (allS (Or.inr sz_vb_149) all0))
      have f195 : Fld Z h194 sb_149 "java/lang/AbstractStringBuilder" "count" "I" (.int (4 : Int32)) := P194_2
      refine X194.astore at_56 rfl rfl (l' := #[.val (.int i0), .val (.int i1), .val (.int i2), .val (.int i3), .val (.int (3 : Int32)), .val (.int ca), .val (.int cb), .val (.int cc), .val (.ref b148), .val (.int (0 : Int32)), .val (.ref b148), .unset, .unset]) rfl ?_
      refine X194.aload at_58 rfl rfl ?_
      have f196 := (f189).keep K194 (ninS ne_b148_sb_149 (ninS ne_b148_vb_149 nin0))
      have f197 := (f190).keep K194
      have f199 := (f192).keep K194
      obtain ⟨_, T198, h198, XX198, K198, ⟨rfl, rfl⟩, st198⟩ := X194.viX (W := 0) (hw _ (gm 120 rfl)) (hw _ (gm 121 rfl)) (hw _ (gm 123 rfl)) (hw _ (gm 122 rfl)) (by decide) ((rh_ise4 l Z a0 hw n0 b148 sb_149 h194 X194.old f196 f197 f195).pay (hw _ (gm 124 rfl)) (hw _ (gm 2 rfl)) (by decide) (by decide)) all0 f199 (g := (mkF m 60 #[.val (.int i0), .val (.int i1), .val (.int i2), .val (.int i3), .val (.int (3 : Int32)), .val (.int ca), .val (.int cb), .val (.int cc), .val (.ref b148), .val (.int (0 : Int32)), .val (.ref b148), .unset, .unset] [(.ref b148)])) rfl rfl (argsL := []) (rest := []) (lenOf pd_15 rfl) rfl (by exact Nat.le_of_eq rfl) at_60 rfl (by decide) (by decide)
      refine Go.tr st198 ?_
      have X198 := XX198 [] all0
      have f200 : Fld Z h194 sb_149 "java/lang/AbstractStringBuilder" "count" "I" (.int (Int32.ofNat ((([] : List Int32) ++ [ca, cb, cc]) ++ [(62 : Int32)]).length)) := f195
      refine X198.istore at_63 rfl (l' := #[.val (.int i0), .val (.int i1), .val (.int i2), .val (.int i3), .val (.int (3 : Int32)), .val (.int ca), .val (.int cb), .val (.int cc), .val (.ref b148), .val (.int (0 : Int32)), .val (.ref b148), .val (.int (0 : Int32)), .unset]) rfl ?_
      refine X198.aload at_65 rfl rfl ?_
      show Go _ _ _ _ (T198.setTop (mkF m 67 #[.val (.int i0), .val (.int i1), .val (.int i2), .val (.int i3), .val (.int (3 : Int32)), .val (.int ca), .val (.int cb), .val (.int cc), .val (.ref b148), .val (.int (0 : Int32)), .val (.ref b148), .val (.int (0 : Int32)), .unset] [(.ref b148)]))
      obtain ⟨_, T201, h201, XX201, K201, ⟨x_201, t_201, rfl, fr_x_201, fl_x_201, fr_t_201, fl_t_201, P201_0⟩, st201⟩ := X198.viX (W := 0) (hw _ (gm 157 rfl)) (hw _ (gm 158 rfl)) (hw _ (gm 160 rfl)) (hw _ (gm 159 rfl)) (by decide) ((rh_tst0 l Z a0 hw n0 b148 sb_149 vb_149 kb_149 ((([] : List Int32) ++ [ca, cb, cc]) ++ [(62 : Int32)]) zc vf h194 X198.old f196 f197 P194_0 P194_1 f200 P194_3 P194_4 Sc nc Sa Su Sv Sf rf (all1 ⟨hca.1, (own_nw hk) ca (by simp)⟩ (all1 ⟨hcb.1, (own_nw hk) cb (by simp)⟩ (all1 ⟨hcc.1, (own_nw hk) cc (by simp)⟩ (all1 ⟨by decide, by decide⟩ alln)))) (Nat.le_of_ble_eq_true rfl)).pay (hw _ (gm 161 rfl)) (hw _ (gm 2 rfl)) (by decide) (by decide)) all0 f199 (g := (mkF m 67 #[.val (.int i0), .val (.int i1), .val (.int i2), .val (.int i3), .val (.int (3 : Int32)), .val (.int ca), .val (.int cb), .val (.int cc), .val (.ref b148), .val (.int (0 : Int32)), .val (.ref b148), .val (.int (0 : Int32)), .unset] [(.ref b148)])) rfl rfl (argsL := []) (rest := []) (lenOf pd_37 rfl) rfl (by exact Nat.le_of_eq rfl) at_67 rfl (by decide) (by decide)
      refine Go.tr st201 ?_
      have X201 := XX201 [x_201, t_201] (allS (Or.inr ⟨fr_x_201, fl_x_201⟩) (allS (Or.inr ⟨fr_t_201, fl_t_201⟩) all0))
      have K0_h201 := K0_h194.trans K201 all0
      refine X201.astore at_70 rfl rfl (l' := #[.val (.int i0), .val (.int i1), .val (.int i2), .val (.int i3), .val (.int (3 : Int32)), .val (.int ca), .val (.int cb), .val (.int cc), .val (.ref b148), .val (.int (0 : Int32)), .val (.ref b148), .val (.int (0 : Int32)), .val (.ref x_201)]) rfl ?_
      refine X201.aload at_72 rfl rfl ?_
      refine X201.aload at_74 rfl rfl ?_
      refine Go.by (fun _ k => X201.acmp (cd := .ne) (x := (.ref b148)) (y' := (.ref b148)) rfl rfl (g := (mkF m 76 #[.val (.int i0), .val (.int i1), .val (.int i2), .val (.int i3), .val (.int (3 : Int32)), .val (.int ca), .val (.int cb), .val (.int cc), .val (.ref b148), .val (.int (0 : Int32)), .val (.ref b148), .val (.int (0 : Int32)), .val (.ref x_201)] [(.ref b148), (.ref b148)])) rfl (pc0 := 76) (pc' := 79) (same := true) rfl at_76 rfl (decide_eq_true rfl) (by decide) (by decide) _ k) ?_
      show Go _ _ _ _ (T201.setTop (mkF m 79 #[.val (.int i0), .val (.int i1), .val (.int i2), .val (.int i3), .val (.int (3 : Int32)), .val (.int ca), .val (.int cb), .val (.int cc), .val (.ref b148), .val (.int (0 : Int32)), .val (.ref b148), .val (.int (0 : Int32)), .val (.ref x_201)] []))
      refine X201.iload at_79 rfl ?_
      refine X201.iload at_81 rfl ?_
      refine X201.ifYes (pc0 := 83) (pc' := 90) rfl at_83 rfl (XT.i0_ne_t (by decide)) (by decide) (by decide) ?_
      refine X201.iconst at_90 ?_
      refine X201.icmpNo at_91 rfl (XT.ii_ne_f (by decide)) ?_
      refine X201.iload at_94 rfl ?_
      refine X201.ifNo at_96 rfl (XT.i0_ne_f (by decide)) ?_
      refine X201.aload at_99 rfl rfl ?_
      refine X201.iload at_101 rfl ?_
      refine X201.iload at_103 rfl ?_
      refine X201.iload at_105 rfl ?_
      refine X201.iload at_107 rfl ?_
      show Go _ _ _ _ (T201.setTop (mkF m 109 #[.val (.int i0), .val (.int i1), .val (.int i2), .val (.int i3), .val (.int (3 : Int32)), .val (.int ca), .val (.int cb), .val (.int cc), .val (.ref b148), .val (.int (0 : Int32)), .val (.ref b148), .val (.int (0 : Int32)), .val (.ref x_201)] [(.int cc), (.int cb), (.int ca), (.int (3 : Int32)), (.ref x_201)]))
      refine X201.iconst at_109 ?_
      obtain ⟨_, T202, h202, XX202, K202, ⟨x_202, t_202, rfl, fr_x_202, fl_x_202, fr_t_202, fl_t_202, P202_0⟩, st202⟩ := X201.stX (W := 1) (hw _ (gm 31 rfl)) (hw _ (gm 32 rfl)) (hw _ (gm 33 rfl)) (hw _ (gm 34 rfl)) (by decide) ((rh_str31 l Z a0 hw n0 ca cb cc zc h201 X201.old Sc nc Sa Su Sv hca hcb hcc).pay (hw _ (gm 34 rfl)) (hw _ (gm 33 rfl)) (by decide) (by decide)) all0 (g := (mkF m 110 #[.val (.int i0), .val (.int i1), .val (.int i2), .val (.int i3), .val (.int (3 : Int32)), .val (.int ca), .val (.int cb), .val (.int cc), .val (.ref b148), .val (.int (0 : Int32)), .val (.ref b148), .val (.int (0 : Int32)), .val (.ref x_201)] [(.int (1 : Int32)), (.int cc), (.int cb), (.int ca), (.int (3 : Int32)), (.ref x_201)])) rfl rfl (argsL := [(.int (3 : Int32)), (.int ca), (.int cb), (.int cc), (.int (1 : Int32))]) (rest := [(.ref x_201)]) (lenOf pd_38 rfl) rfl (by exact Nat.le_of_eq rfl) at_110 rfl (by decide) (by decide)
      refine Go.tr st202 ?_
      have X202 := XX202 [x_202, t_202] (allS (Or.inr ⟨fr_x_202, fl_x_202⟩) (allS (Or.inr ⟨fr_t_202, fl_t_202⟩) all0))
      have K0_h202 := K0_h201.trans K202 all0
      have f203 := (P201_0).keep K202 nin0 nin0
      obtain ⟨_, T204, h204, XX204, K204, ⟨r_204, rfl, rfl, p204_0⟩, st204⟩ := X202.viX (W := 0) (hw _ (gm 207 rfl)) (hw _ (gm 208 rfl)) (hw _ (gm 210 rfl)) (hw _ (gm 209 rfl)) (by decide) (payEq (fun d hd => hw d ((by decide +kernel : ∀ d ∈ StrChars.Road.wordsEq, d ∈ tables_1) d hd)) (hw _ (gm 36 rfl)) X202.old f203 P202_0 Sc nc (by decide) (by decide)) all0 f203.exa (g := (mkF m 113 #[.val (.int i0), .val (.int i1), .val (.int i2), .val (.int i3), .val (.int (3 : Int32)), .val (.int ca), .val (.int cb), .val (.int cc), .val (.ref b148), .val (.int (0 : Int32)), .val (.ref b148), .val (.int (0 : Int32)), .val (.ref x_201)] [(.ref x_202), (.ref x_201)])) rfl rfl (argsL := [(.ref x_202)]) (rest := []) (lenOf pd_41 rfl) rfl (by exact Nat.le_of_eq rfl) at_113 rfl (by decide) (by decide)
      refine Go.tr st204 ?_
      have X204 := XX204 [] all0
      refine X204.ifNo at_116 rfl (XT.i0_eq_f (own_r1 p204_0 rfl)) ?_
      refine X204.iconst at_119 ?_
      refine X204.goto (pc0 := 120) (pc' := 124) rfl at_120 (by decide) (by decide) ?_
      exact X204.retN (by simp) rfl at_124 K0_h202 rfl (by decide) (by decide)
set_option maxRecDepth 65536 in
set_option maxHeartbeats 40000000 in
theorem comes_1 {Post : Tables → Env → Array Value → State → Outcome → State → Prop} (hpost : ∀ tb e args s v u, (limb_1_1.after args s (.returned v) u = true ∧ limb_1_2.after args s (.returned v) u = true ∧ True) → ReturnedEndW s (.returned v) u (Jvm.fieldLocs frame_1_writes args s ++ Jvm.arrayLocs frame_1_arrays args s ++ Jvm.staticLocs frame_1_statics s) 40 1344 → Post tb e args s (.returned v) u) :
    ArmFor flags0 classFile x code maxLocals ret World_1 tables_1 room_1 Calls_1 rest_1 Pre_1 Post := by
  intro l hfl _ _ p e ha hc hk s m args below hf hA hF happ hP
  obtain ⟨hcalls, hrest, hpre⟩ := hP
  obtain ⟨-, -, -, hnamed, -, -, -, hat⟩ := (Spec.applies_iff hf).mp happ
  obtain ⟨hg, hn⟩ := and_e (Cond.before_iff.mp (show (Jvm.Cond.and given_1 narrow_1).before args s = true from hpre))
  obtain ⟨h1, gv0⟩ := and_e hg
  obtain ⟨gi0, gv1⟩ := and_e gv0
  obtain ⟨gi1, gv2⟩ := and_e gv1
  obtain ⟨gi2, gv3⟩ := and_e gv2
  obtain ⟨w0, w1, w2, w3, rfl⟩ : ∃ w0 w1 w2 w3 : Value, args = #[w0, w1, w2, w3] := by
    have hs : args.size = 4 := by simpa [Cond.value, given_1] using h1
    obtain ⟨L⟩ := args
    match L, hs with
    | [w0, w1, w2, w3], _ => exact ⟨w0, w1, w2, w3, rfl⟩
  have hw := fun d (hd : d ∈ tables_1) => atoms_spec (ws := Jvm.Cond.code x code maxLocals ret :: tables_1) hat d (List.mem_cons_of_mem _ hd)
  obtain ⟨hsets, hown0⟩ := atoms_of _ (rest_1_c_eq ▸ (show rest_1_c.before _ s = true from hrest))
  have hfit : Fit s := fun {y c} hc i hi => by
    obtain ⟨ha, rfl⟩ := Array.getElem?_eq_some_iff.mp hc
    have q := List.all_eq_true.mp ((Array.all_eq_true_iff_forall_mem.mp hF) _ (Array.getElem_mem ha)) i (List.mem_range.mpr hi)
    simpa [Array.getElem?_eq_getElem hi] using q
  obtain ⟨i0, e0⟩ := is_v gi0
  obtain rfl : w0 = (.int i0) := Option.some.inj e0
  obtain ⟨i1, e1⟩ := is_v gi1
  obtain rfl : w1 = (.int i1) := Option.some.inj e1
  obtain ⟨i2, e2⟩ := is_v gi2
  obtain rfl : w2 = (.int i2) := Option.some.inj e2
  obtain ⟨i3, e3⟩ := is_v gv3
  obtain rfl : w3 = (.int i3) := Option.some.inj e3
  obtain ⟨zc, ec⟩ := is_v (Cond.before_iff.mp (hsets _ (List.mem_of_getElem? (i := 1) rfl)))
  have Sc : Sta s s.heap "java/lang/String" "COMPACT_STRINGS" "Z" (.int zc) := Sta.start ec (Or.inl (hsets _ (List.mem_of_getElem? (i := 0) rfl)))
  have nc : ¬ (zc = (0 : Int32)) := gotF (Cond.eq_ints ec (Term.int_eval (0))) (not_v (Cond.before_iff.mp (hsets _ (List.mem_of_getElem? (i := 2) rfl))))
  obtain ⟨vf, ef, rf⟩ := isR_v (Cond.before_iff.mp (hsets _ (List.mem_of_getElem? (i := 8) rfl)))
  have Sf : Sta s s.heap "jdk/internal/util/Preconditions" "SIOOBE_FORMATTER" "Ljava/util/function/BiFunction;" vf := Sta.start ef (Or.inl (hsets _ (List.mem_of_getElem? (i := 7) rfl)))
  have hcw : Jvm.Lit.compactW.before #[.int i0, .int i1, .int i2, .int i3] s = true := (hsets _ (List.mem_of_getElem? (i := 2) rfl))
  have CH0 : CHv s EL s.vm s.heap := CHv.start (own_EW hw) (fun q hq => hcalls.1 q ((by decide +kernel : ∀ q ∈ EL, q ∈ consts_1) q hq)) hcw (hw _ (gm 24 rfl)) (hw _ (gm 36 rfl))
  have Sa : Sta s s.heap "java/lang/StringUTF16" "$assertionsDisabled" "Z" (.int (1 : Int32)) := Sta.start (Cond.eq_int (hsets _ (List.mem_of_getElem? (i := 12) rfl)) rfl) (Or.inl (hsets _ (List.mem_of_getElem? (i := 11) rfl)))
  have Su : Sta s s.heap "java/lang/StringUTF16" "HI_BYTE_SHIFT" "I" (.int (0 : Int32)) := Sta.start (Cond.eq_int (hsets _ (List.mem_of_getElem? (i := 15) rfl)) rfl) (Or.inl (hsets _ (List.mem_of_getElem? (i := 14) rfl)))
  have Sv : Sta s s.heap "java/lang/StringUTF16" "LO_BYTE_SHIFT" "I" (.int (8 : Int32)) := Sta.start (Cond.eq_int (hsets _ (List.mem_of_getElem? (i := 18) rfl)) rfl) (Or.inl (hsets _ (List.mem_of_getElem? (i := 17) rfl)))
  have M := rm_law l s _ hw s.heap.size i0 i1 i2 i3 zc vf s.heap (Old.start s) Sc nc Sa Su Sv Sf rf
  obtain ⟨n, o, h1, h2, h3, v, L, rfl, ⟨K, rfl, N⟩, -, hq⟩ := M p e ha hc hk s m _ below hf ((Spec.applies_iff_loose hf).mp happ).1 ⟨rfl, State.Warmed39.refl s, rfl, CH0, all0⟩ trivial
  exact ⟨n, _, h1, h2, h3, hpost _ _ _ _ _ _ ⟨Cond.after_iff.mpr rfl, Cond.after_iff.mpr (eq_i res_at (Term.int_eval (1)) rfl), trivial⟩ ⟨hq.1, hq.2.1, hq.2.2.1, (hq.2.2.2.sift fun y hy => Or.inr (N y hy)).mono (by decide) (by decide)⟩⟩
theorem main_1_1 : Claimed_1_1 := comes_1 fun _ _ _ _ _ _ h hF => ⟨h.1, hF⟩
theorem main_1_2 : Claimed_1_2 := comes_1 fun _ _ _ _ _ _ h hF => ⟨h.2.1, hF⟩
end Jvm.Pilot.@@N@@
namespace Jvm.Pilot.@@N@@
open Jvm Jvm.ClassFile Sem Op Lib Jvm.Free Jvm.Stand Jvm.Pilot.@@N@@.Jvm.D
/-! MADE BY PROGRAM (witnessworld.py) out of the Statement's table words and the real class files: 26 classes; the members and pool entries that the words name. The judged class is class 1, her method 2. -/
namespace start1
open Jvm.ClassFile
def u (s : String) : CpInfo := .utf8 (stringToUtf16 s)
/-- a pool by its gaps: so many unusable entries, then the entry; so many at the end -/
def gap : Nat → List CpInfo → List CpInfo
  | 0, r => r
  | n + 1, r => .unusable :: gap n r
def poolList (es : List (Nat × CpInfo)) (last : Nat) : List CpInfo := es.foldr (fun e r => gap e.1 (e.2 :: r)) (gap last [])
def pool (es : List (Nat × CpInfo)) (last : Nat) : Array CpInfo := ⟨poolList es last⟩
def fileOf (pool : Array CpInfo) (this : Nat) (attrs : Array Attribute := #[]) (ms : Array MethodInfo := #[]) (fl : Nat := 33) (sup : Nat := 0) (ifs : Array Nat := #[]) (fds : Array FieldInfo := #[]) : ClassFile where
  minorVersion := 0
  majorVersion := 65
  constantPool := pool
  accessFlags := fl
  thisClass := this
  superClass := sup
  interfaces := ifs
  fields := fds
  methods := ms
  attributes := attrs
def plain (name : String) (sup : Option ClassId) : Class where
  name := name
  kind := .ordinary
  loader := none
  accessFlags := 33
  super := sup
  interfaces := #[]
  cf := none
  fields := #[]
  methods := #[]
  instanceTypes := #[]
  staticTypes := #[]
  resolved := #[]
  callSites := []
  init := .initialized
  statics := none
  mirror := none

def pool0 : Array CpInfo := pool [(5, u "<init>"), (0, u "()V"), (1, .class_ 10), (1, u "java/lang/Object")] 113

def k0c0 : Code := { maxStack := 0, maxLocals := 1, code := object_method_1_code, exceptionTable := #[], attributes := #[] }
def k0m0 : Method := { name := "<init>", desc := "()V", sig := { parameters := [], returnType := none }, accessFlags := 1, code := some k0c0 }
/-- java/lang/Object -/
def k0 : Class := { plain "java/lang/Object" none with
  accessFlags := 33
  interfaces := #[]
  cf := some (fileOf pool0 8 #[] #[{ accessFlags := 1, nameIndex := 5, descriptorIndex := 6, attributes := #[] }] 33 0 #[] #[])
  fields := #[]
  methods := #[k0m0]
  instanceTypes := #[]
  staticTypes := #[]
  resolved := Array.replicate 124 none
  statics := none }

def pool1 : Array CpInfo := pool [(2, .class_ 4), (0, .nameAndType 5 6), (0, u "java/lang/Object"), (0, u "<init>"), (0, u "()V"), (0, .class_ 8), (0, u "java/lang/String"), (0, .methodref 7 10), (0, .nameAndType 5 11), (0, u "([C)V"), (0, .class_ 13), (0, u "com/example/suricate/suricate/component/HtmlWriter"), (0, .methodref 12 3), (0, .methodref 16 17), (0, .class_ 18), (0, .nameAndType 19 20), (0, u "com/example/suricate/suricate/component/HtmlWriterCloseStartTagPinLaw"), (0, u "str"), (0, u "(ICCCZ)Ljava/lang/String;"), (0, .methodref 12 22), (0, .nameAndType 23 24), (0, u "markup"), (0, u "(Ljava/lang/CharSequence;)Lcom/example/suricate/suricate/component/HtmlWriter;"), (0, .methodref 12 26), (0, .nameAndType 27 28), (0, u "isEmpty"), (0, u "()Z"), (0, .methodref 12 30), (0, .nameAndType 31 32), (0, u "closeStartTag"), (0, u "()Lcom/example/suricate/suricate/component/HtmlWriter;"), (0, .methodref 12 34), (0, .nameAndType 35 36), (0, u "toString"), (0, u "()Ljava/lang/String;"), (0, .methodref 7 38), (0, .nameAndType 39 40), (0, u "equals"), (0, u "(Ljava/lang/Object;)Z"), (3, u "law"), (0, u "(IIII)Z")] 2

def k1m0 : Method := { name := "<init>", desc := "()V", sig := { parameters := [], returnType := none }, accessFlags := 1, code := none }
def k1c1 : Code := { maxStack := 6, maxLocals := 5, code := method_2_code, exceptionTable := #[], attributes := #[] }
def k1m1 : Method := { name := "str", desc := "(ICCCZ)Ljava/lang/String;", sig := { parameters := [.int, .char, .char, .char, .boolean], returnType := some (.object "java/lang/String") }, accessFlags := 10, code := some k1c1 }
def k1c2 : Code := { maxStack := 6, maxLocals := 13, code := code, exceptionTable := #[], attributes := #[] }
def k1m2 : Method := { name := "law", desc := "(IIII)Z", sig := { parameters := [.int, .int, .int, .int], returnType := some .boolean }, accessFlags := 9, code := some k1c2 }
/-- com/example/suricate/suricate/component/HtmlWriterCloseStartTagPinLaw -/
def k1 : Class := { plain "com/example/suricate/suricate/component/HtmlWriterCloseStartTagPinLaw" (some 0) with
  accessFlags := 49
  interfaces := #[]
  cf := some (fileOf pool1 16 #[] #[{ accessFlags := 1, nameIndex := 5, descriptorIndex := 6, attributes := #[] }, { accessFlags := 10, nameIndex := 19, descriptorIndex := 20, attributes := #[] }, { accessFlags := 9, nameIndex := 44, descriptorIndex := 45, attributes := #[] }] 49 2 #[] #[])
  fields := #[]
  methods := #[k1m0, k1m1, k1m2]
  instanceTypes := #[]
  staticTypes := #[]
  resolved := Array.replicate 48 none
  statics := none }

def pool2 : Array CpInfo := pool [(1, .methodref 2 3), (0, .class_ 4), (0, .nameAndType 5 6), (0, u "java/lang/Object"), (0, u "<init>"), (0, u "()V"), (0, .class_ 8), (0, u "java/lang/StringBuilder"), (0, .methodref 7 3), (0, .fieldref 11 12), (0, .class_ 13), (0, .nameAndType 14 15), (0, u "com/example/suricate/suricate/component/HtmlWriter"), (0, u "html"), (0, u "Ljava/lang/StringBuilder;"), (0, .methodref 7 17), (0, .nameAndType 18 19), (0, u "append"), (0, u "(Ljava/lang/CharSequence;)Ljava/lang/StringBuilder;"), (4, .methodref 7 25), (0, .nameAndType 18 26), (0, u "(C)Ljava/lang/StringBuilder;"), (7, .methodref 7 35), (0, .nameAndType 36 37), (0, u "length"), (0, u "()I"), (0, .methodref 7 39), (0, .nameAndType 40 41), (0, u "toString"), (0, u "()Ljava/lang/String;"), (52, u "REPLACEMENT"), (0, u "C"), (3, u "markup"), (0, u "(Ljava/lang/CharSequence;)Lcom/example/suricate/suricate/component/HtmlWriter;"), (6, u "closeStartTag"), (0, u "()Lcom/example/suricate/suricate/component/HtmlWriter;"), (1, u "isEmpty"), (0, u "()Z")] 5

def k2c0 : Code := { maxStack := 3, maxLocals := 1, code := prog_5_method_1_code, exceptionTable := #[], attributes := #[] }
def k2m0 : Method := { name := "<init>", desc := "()V", sig := { parameters := [], returnType := none }, accessFlags := 1, code := some k2c0 }
def k2c1 : Code := { maxStack := 2, maxLocals := 2, code := prog_5_method_2_code, exceptionTable := #[], attributes := #[] }
def k2m1 : Method := { name := "markup", desc := "(Ljava/lang/CharSequence;)Lcom/example/suricate/suricate/component/HtmlWriter;", sig := { parameters := [(.object "java/lang/CharSequence")], returnType := some (.object "com/example/suricate/suricate/component/HtmlWriter") }, accessFlags := 1, code := some k2c1 }
def k2c2 : Code := { maxStack := 2, maxLocals := 1, code := prog_5_method_7_code, exceptionTable := #[], attributes := #[] }
def k2m2 : Method := { name := "closeStartTag", desc := "()Lcom/example/suricate/suricate/component/HtmlWriter;", sig := { parameters := [], returnType := some (.object "com/example/suricate/suricate/component/HtmlWriter") }, accessFlags := 1, code := some k2c2 }
def k2c3 : Code := { maxStack := 1, maxLocals := 1, code := prog_5_method_9_code, exceptionTable := #[], attributes := #[] }
def k2m3 : Method := { name := "isEmpty", desc := "()Z", sig := { parameters := [], returnType := some .boolean }, accessFlags := 1, code := some k2c3 }
def k2c4 : Code := { maxStack := 1, maxLocals := 1, code := prog_5_method_10_code, exceptionTable := #[], attributes := #[] }
def k2m4 : Method := { name := "toString", desc := "()Ljava/lang/String;", sig := { parameters := [], returnType := some (.object "java/lang/String") }, accessFlags := 1, code := some k2c4 }
/-- com/example/suricate/suricate/component/HtmlWriter -/
def k2 : Class := { plain "com/example/suricate/suricate/component/HtmlWriter" (some 0) with
  accessFlags := 33
  interfaces := #[]
  cf := some (fileOf pool2 11 #[] #[{ accessFlags := 1, nameIndex := 5, descriptorIndex := 6, attributes := #[] }, { accessFlags := 1, nameIndex := 99, descriptorIndex := 100, attributes := #[] }, { accessFlags := 1, nameIndex := 107, descriptorIndex := 108, attributes := #[] }, { accessFlags := 1, nameIndex := 110, descriptorIndex := 111, attributes := #[] }, { accessFlags := 1, nameIndex := 40, descriptorIndex := 41, attributes := #[] }] 33 2 #[] #[{ accessFlags := 26, nameIndex := 94, descriptorIndex := 95, attributes := #[] }, { accessFlags := 18, nameIndex := 14, descriptorIndex := 15, attributes := #[] }])
  fields := #[{ name := "REPLACEMENT", type := .char, accessFlags := 26, slot := 0, constantValue := 0 }, { name := "html", type := (.object "java/lang/StringBuilder"), accessFlags := 18, slot := 0, constantValue := 0 }]
  methods := #[k2m0, k2m1, k2m2, k2m3, k2m4]
  instanceTypes := #[(.object "java/lang/StringBuilder")]
  staticTypes := #[.char]
  resolved := Array.replicate 117 none
  statics := none }

def pool3 : Array CpInfo := pool [(1, .class_ 2), (0, u "java/lang/Appendable"), (0, .class_ 4), (0, u "java/lang/Object")] 9

/-- java/lang/Appendable -/
def k3 : Class := { plain "java/lang/Appendable" (some 0) with
  accessFlags := 1537
  interfaces := #[]
  cf := some (fileOf pool3 1 #[] #[] 1537 3 #[] #[])
  fields := #[]
  methods := #[]
  instanceTypes := #[]
  staticTypes := #[]
  resolved := Array.replicate 14 none
  statics := none }

def pool4 : Array CpInfo := pool [(2, .class_ 4), (1, u "java/lang/CharSequence"), (42, .class_ 48), (0, u "java/lang/CharSequence$1CodePointIterator"), (10, .class_ 60), (0, u "java/lang/CharSequence$1CharIterator"), (5, .class_ 67), (0, u "java/lang/Object")] 63

/-- java/lang/CharSequence -/
def k4 : Class := { plain "java/lang/CharSequence" (some 0) with
  accessFlags := 1537
  interfaces := #[]
  cf := some (fileOf pool4 2 #[.nestMembers #[47, 59]] #[] 1537 66 #[] #[])
  fields := #[]
  methods := #[]
  instanceTypes := #[]
  staticTypes := #[]
  resolved := Array.replicate 131 none
  statics := none }

def pool5 : Array CpInfo := pool [(1, .class_ 2), (0, u "java/lang/String"), (0, .methodref 4 5), (0, .class_ 6), (0, .nameAndType 7 8), (0, u "java/lang/Object"), (0, u "<init>"), (0, u "()V"), (1, .class_ 12), (1, u "java/lang/AbstractStringBuilder"), (0, u "EMPTYVALUE"), (0, u "[B"), (0, .fieldref 10 16), (0, .nameAndType 17 14), (0, u "value"), (0, .fieldref 1 19), (0, .nameAndType 20 21), (0, u "COMPACT_STRINGS"), (0, u "Z"), (0, .fieldref 10 23), (0, .nameAndType 24 25), (0, u "coder"), (0, u "B"), (0, .methodref 27 28), (0, .class_ 29), (0, .nameAndType 30 31), (0, u "java/lang/StringUTF16"), (0, u "newBytesFor"), (0, u "(I)[B"), (0, .methodref 1 33), (0, .nameAndType 34 35), (0, u "length"), (0, u "()I"), (4, .methodref 1 41), (0, .nameAndType 24 42), (0, u "()B"), (0, .methodref 10 44), (0, .nameAndType 45 46), (0, u "append"), (0, u "(Ljava/lang/String;)Ljava/lang/AbstractStringBuilder;"), (1, .class_ 49), (0, u "java/lang/CharSequence"), (19, u "(Ljava/lang/String;)V"), (5, u "maybeLatin1"), (2, u "(Ljava/lang/CharSequence;)Ljava/lang/AbstractStringBuilder;"), (0, .fieldref 10 80), (0, .nameAndType 81 82), (0, u "count"), (0, u "I"), (0, .methodref 10 84), (0, .nameAndType 85 86), (0, u "isLatin1"), (0, u "()Z"), (1, .class_ 90), (1, u "java/lang/StringLatin1"), (9, .methodref 10 101), (0, .nameAndType 102 103), (0, u "ensureCapacityInternal"), (0, u "(I)V"), (21, .methodref 88 126), (0, .nameAndType 127 128), (0, u "inflate"), (0, u "([BI[BII)V"), (7, u "([BII)V"), (54, .methodref 88 192), (0, .nameAndType 193 194), (0, u "canEncode"), (0, u "(C)Z"), (0, .methodref 10 196), (0, .nameAndType 127 8), (0, .methodref 27 198), (0, .nameAndType 199 136), (0, u "putCharSB"), (8, .methodref 10 209), (0, .nameAndType 210 211), (0, u "putStringAt"), (0, u "(ILjava/lang/String;)V"), (5, u "inflateIfNeededFor"), (2, .nameAndType 221 222), (0, u "getBytes"), (0, u "([BIB)V"), (69, u "(C)Ljava/lang/AbstractStringBuilder;"), (104, .methodref 10 398), (0, .nameAndType 217 69), (0, .methodref 1 220), (3, u "()[B"), (40, .class_ 445), (0, u "java/lang/Appendable"), (106, u "getValue")] 56

def k5m0 : Method := { name := "<init>", desc := "()V", sig := { parameters := [], returnType := none }, accessFlags := 0, code := none }
def k5c1 : Code := { maxStack := 2, maxLocals := 2, code := jdk_68_method_2_code, exceptionTable := #[], attributes := #[] }
def k5m1 : Method := { name := "<init>", desc := "(I)V", sig := { parameters := [.int], returnType := none }, accessFlags := 0, code := some k5c1 }
def k5c2 : Code := { maxStack := 1, maxLocals := 1, code := jdk_68_method_6_code, exceptionTable := #[], attributes := #[] }
def k5m2 : Method := { name := "length", desc := "()I", sig := { parameters := [], returnType := some .int }, accessFlags := 1, code := some k5c2 }
def k5c3 : Code := { maxStack := 4, maxLocals := 3, code := jdk_68_method_9_code, exceptionTable := #[], attributes := #[] }
def k5m3 : Method := { name := "ensureCapacityInternal", desc := "(I)V", sig := { parameters := [.int], returnType := none }, accessFlags := 2, code := some k5c3 }
def k5c4 : Code := { maxStack := 5, maxLocals := 2, code := jdk_68_method_11_code, exceptionTable := #[], attributes := #[] }
def k5m4 : Method := { name := "inflate", desc := "()V", sig := { parameters := [], returnType := none }, accessFlags := 2, code := some k5c4 }
def k5c5 : Code := { maxStack := 3, maxLocals := 3, code := jdk_68_method_22_code, exceptionTable := #[], attributes := #[] }
def k5m5 : Method := { name := "append", desc := "(Ljava/lang/String;)Ljava/lang/AbstractStringBuilder;", sig := { parameters := [(.object "java/lang/String")], returnType := some (.object "java/lang/AbstractStringBuilder") }, accessFlags := 1, code := some k5c5 }
def k5c6 : Code := { maxStack := 4, maxLocals := 2, code := jdk_68_method_25_code, exceptionTable := #[], attributes := #[] }
def k5m6 : Method := { name := "append", desc := "(Ljava/lang/CharSequence;)Ljava/lang/AbstractStringBuilder;", sig := { parameters := [(.object "java/lang/CharSequence")], returnType := some (.object "java/lang/AbstractStringBuilder") }, accessFlags := 1, code := some k5c6 }
def k5c7 : Code := { maxStack := 5, maxLocals := 2, code := jdk_68_method_31_code, exceptionTable := #[], attributes := #[] }
def k5m7 : Method := { name := "append", desc := "(C)Ljava/lang/AbstractStringBuilder;", sig := { parameters := [.char], returnType := some (.object "java/lang/AbstractStringBuilder") }, accessFlags := 1, code := some k5c7 }
def k5c8 : Code := { maxStack := 1, maxLocals := 1, code := jdk_68_method_64_code, exceptionTable := #[], attributes := #[] }
def k5m8 : Method := { name := "getValue", desc := "()[B", sig := { parameters := [], returnType := some (.array .byte) }, accessFlags := 16, code := some k5c8 }
def k5c9 : Code := { maxStack := 1, maxLocals := 1, code := jdk_68_method_68_code, exceptionTable := #[], attributes := #[] }
def k5m9 : Method := { name := "isLatin1", desc := "()Z", sig := { parameters := [], returnType := some .boolean }, accessFlags := 16, code := some k5c9 }
def k5c10 : Code := { maxStack := 2, maxLocals := 2, code := jdk_68_method_71_code, exceptionTable := #[], attributes := #[] }
def k5m10 : Method := { name := "inflateIfNeededFor", desc := "(Ljava/lang/String;)V", sig := { parameters := [(.object "java/lang/String")], returnType := none }, accessFlags := 2, code := some k5c10 }
def k5c11 : Code := { maxStack := 4, maxLocals := 3, code := jdk_68_method_73_code, exceptionTable := #[], attributes := #[] }
def k5m11 : Method := { name := "putStringAt", desc := "(ILjava/lang/String;)V", sig := { parameters := [.int, (.object "java/lang/String")], returnType := none }, accessFlags := 2, code := some k5c11 }
/-- java/lang/AbstractStringBuilder -/
def k5 : Class := { plain "java/lang/AbstractStringBuilder" (some 0) with
  accessFlags := 1056
  interfaces := #[3, 4]
  cf := some (fileOf pool5 10 #[] #[{ accessFlags := 0, nameIndex := 7, descriptorIndex := 8, attributes := #[] }, { accessFlags := 0, nameIndex := 7, descriptorIndex := 103, attributes := #[] }, { accessFlags := 1, nameIndex := 34, descriptorIndex := 35, attributes := #[] }, { accessFlags := 2, nameIndex := 102, descriptorIndex := 103, attributes := #[] }, { accessFlags := 2, nameIndex := 127, descriptorIndex := 8, attributes := #[] }, { accessFlags := 1, nameIndex := 45, descriptorIndex := 46, attributes := #[] }, { accessFlags := 1, nameIndex := 45, descriptorIndex := 78, attributes := #[] }, { accessFlags := 1, nameIndex := 45, descriptorIndex := 292, attributes := #[] }, { accessFlags := 16, nameIndex := 552, descriptorIndex := 403, attributes := #[] }, { accessFlags := 16, nameIndex := 85, descriptorIndex := 86, attributes := #[] }, { accessFlags := 2, nameIndex := 217, descriptorIndex := 69, attributes := #[] }, { accessFlags := 2, nameIndex := 210, descriptorIndex := 211, attributes := #[] }] 1056 4 #[444, 48] #[{ accessFlags := 0, nameIndex := 17, descriptorIndex := 14, attributes := #[] }, { accessFlags := 0, nameIndex := 24, descriptorIndex := 25, attributes := #[] }, { accessFlags := 0, nameIndex := 75, descriptorIndex := 21, attributes := #[] }, { accessFlags := 0, nameIndex := 81, descriptorIndex := 82, attributes := #[] }, { accessFlags := 26, nameIndex := 13, descriptorIndex := 14, attributes := #[] }])
  fields := #[{ name := "value", type := (.array .byte), accessFlags := 0, slot := 0, constantValue := 0 }, { name := "coder", type := .byte, accessFlags := 0, slot := 1, constantValue := 0 }, { name := "maybeLatin1", type := .boolean, accessFlags := 0, slot := 2, constantValue := 0 }, { name := "count", type := .int, accessFlags := 0, slot := 3, constantValue := 0 }, { name := "EMPTYVALUE", type := (.array .byte), accessFlags := 26, slot := 0, constantValue := 0 }]
  methods := #[k5m0, k5m1, k5m2, k5m3, k5m4, k5m5, k5m6, k5m7, k5m8, k5m9, k5m10, k5m11]
  instanceTypes := #[(.array .byte), .byte, .boolean, .int]
  staticTypes := #[(.array .byte)]
  resolved := Array.replicate 609 none
  statics := none }

def pool6 : Array CpInfo := pool [(1, .class_ 2), (0, u "java/io/Serializable"), (0, .class_ 4), (0, u "java/lang/Object")] 2

/-- java/io/Serializable -/
def k6 : Class := { plain "java/io/Serializable" (some 0) with
  accessFlags := 1537
  interfaces := #[]
  cf := some (fileOf pool6 1 #[] #[] 1537 3 #[] #[])
  fields := #[]
  methods := #[]
  instanceTypes := #[]
  staticTypes := #[]
  resolved := Array.replicate 7 none
  statics := none }

def pool7 : Array CpInfo := pool [(1, .class_ 2), (0, u "java/lang/Comparable"), (0, .class_ 4), (0, u "java/lang/Object")] 7

/-- java/lang/Comparable -/
def k7 : Class := { plain "java/lang/Comparable" (some 0) with
  accessFlags := 1537
  interfaces := #[]
  cf := some (fileOf pool7 1 #[] #[] 1537 3 #[] #[])
  fields := #[]
  methods := #[]
  instanceTypes := #[]
  staticTypes := #[]
  resolved := Array.replicate 12 none
  statics := none }

def pool8 : Array CpInfo := pool [(1, .methodref 2 3), (0, .class_ 4), (0, .nameAndType 5 6), (0, u "java/lang/AbstractStringBuilder"), (0, u "<init>"), (0, u "(I)V"), (11, .class_ 20), (1, u "java/lang/String"), (2, .methodref 24 25), (0, .class_ 26), (0, .nameAndType 27 28), (0, u "java/lang/StringBuilder"), (0, u "append"), (0, u "(Ljava/lang/String;)Ljava/lang/StringBuilder;"), (0, .methodref 2 30), (0, .nameAndType 27 31), (0, u "(Ljava/lang/String;)Ljava/lang/AbstractStringBuilder;"), (3, .methodref 2 36), (0, .nameAndType 27 37), (0, u "(Ljava/lang/CharSequence;)Ljava/lang/AbstractStringBuilder;"), (12, .methodref 2 51), (0, .nameAndType 27 52), (0, u "(C)Ljava/lang/AbstractStringBuilder;"), (84, .methodref 18 138), (0, .nameAndType 5 139), (0, u "(Ljava/lang/StringBuilder;)V"), (5, u "()V"), (10, u "()I"), (129, u "(C)Ljava/lang/StringBuilder;"), (14, u "(Ljava/lang/CharSequence;)Ljava/lang/StringBuilder;"), (41, .methodref 2 344), (0, .nameAndType 345 156), (0, u "length"), (3, .class_ 350), (0, u "java/lang/Appendable"), (0, .class_ 352), (0, u "java/io/Serializable"), (0, .class_ 354), (0, u "java/lang/Comparable"), (0, .class_ 356), (0, u "java/lang/CharSequence"), (0, u "serialVersionUID"), (0, u "J"), (40, u "toString"), (0, u "()Ljava/lang/String;")] 21

def k8c0 : Code := { maxStack := 2, maxLocals := 1, code := jdk_67_method_1_code, exceptionTable := #[], attributes := #[] }
def k8m0 : Method := { name := "<init>", desc := "()V", sig := { parameters := [], returnType := none }, accessFlags := 1, code := some k8c0 }
def k8c1 : Code := { maxStack := 2, maxLocals := 2, code := jdk_67_method_7_code, exceptionTable := #[], attributes := #[] }
def k8m1 : Method := { name := "append", desc := "(Ljava/lang/String;)Ljava/lang/StringBuilder;", sig := { parameters := [(.object "java/lang/String")], returnType := some (.object "java/lang/StringBuilder") }, accessFlags := 1, code := some k8c1 }
def k8c2 : Code := { maxStack := 2, maxLocals := 2, code := jdk_67_method_9_code, exceptionTable := #[], attributes := #[] }
def k8m2 : Method := { name := "append", desc := "(Ljava/lang/CharSequence;)Ljava/lang/StringBuilder;", sig := { parameters := [(.object "java/lang/CharSequence")], returnType := some (.object "java/lang/StringBuilder") }, accessFlags := 1, code := some k8c2 }
def k8c3 : Code := { maxStack := 2, maxLocals := 2, code := jdk_67_method_14_code, exceptionTable := #[], attributes := #[] }
def k8m3 : Method := { name := "append", desc := "(C)Ljava/lang/StringBuilder;", sig := { parameters := [.char], returnType := some (.object "java/lang/StringBuilder") }, accessFlags := 1, code := some k8c3 }
def k8c4 : Code := { maxStack := 3, maxLocals := 1, code := jdk_67_method_42_code, exceptionTable := #[], attributes := #[] }
def k8m4 : Method := { name := "toString", desc := "()Ljava/lang/String;", sig := { parameters := [], returnType := some (.object "java/lang/String") }, accessFlags := 1, code := some k8c4 }
def k8c5 : Code := { maxStack := 2, maxLocals := 2, code := jdk_67_method_80_code, exceptionTable := #[], attributes := #[] }
def k8m5 : Method := { name := "append", desc := "(Ljava/lang/String;)Ljava/lang/AbstractStringBuilder;", sig := { parameters := [(.object "java/lang/String")], returnType := some (.object "java/lang/AbstractStringBuilder") }, accessFlags := 4161, code := some k8c5 }
def k8c6 : Code := { maxStack := 1, maxLocals := 1, code := jdk_67_method_93_code, exceptionTable := #[], attributes := #[] }
def k8m6 : Method := { name := "length", desc := "()I", sig := { parameters := [], returnType := some .int }, accessFlags := 4161, code := some k8c6 }
/-- java/lang/StringBuilder -/
def k8 : Class := { plain "java/lang/StringBuilder" (some 5) with
  accessFlags := 49
  interfaces := #[3, 6, 7, 4]
  cf := some (fileOf pool8 24 #[] #[{ accessFlags := 1, nameIndex := 5, descriptorIndex := 145, attributes := #[] }, { accessFlags := 1, nameIndex := 27, descriptorIndex := 28, attributes := #[] }, { accessFlags := 1, nameIndex := 27, descriptorIndex := 301, attributes := #[] }, { accessFlags := 1, nameIndex := 27, descriptorIndex := 286, attributes := #[] }, { accessFlags := 1, nameIndex := 399, descriptorIndex := 400, attributes := #[] }, { accessFlags := 4161, nameIndex := 27, descriptorIndex := 31, attributes := #[] }, { accessFlags := 4161, nameIndex := 345, descriptorIndex := 156, attributes := #[] }] 49 2 #[349, 351, 353, 355] #[{ accessFlags := 24, nameIndex := 357, descriptorIndex := 358, attributes := #[] }])
  fields := #[{ name := "serialVersionUID", type := .long, accessFlags := 24, slot := 0, constantValue := 0 }]
  methods := #[k8m0, k8m1, k8m2, k8m3, k8m4, k8m5, k8m6]
  instanceTypes := #[(.array .byte), .byte, .boolean, .int]
  staticTypes := #[.long]
  resolved := Array.replicate 422 none
  statics := none }

def pool9 : Array CpInfo := pool [(1, .class_ 2), (0, u "java/lang/constant/Constable"), (0, .class_ 4), (0, u "java/lang/Object")] 6

/-- java/lang/constant/Constable -/
def k9 : Class := { plain "java/lang/constant/Constable" (some 0) with
  accessFlags := 1537
  interfaces := #[]
  cf := some (fileOf pool9 1 #[] #[] 1537 3 #[] #[])
  fields := #[]
  methods := #[]
  instanceTypes := #[]
  staticTypes := #[]
  resolved := Array.replicate 11 none
  statics := none }

def pool10 : Array CpInfo := pool [(1, .class_ 2), (0, u "java/lang/constant/ConstantDesc"), (0, .class_ 4), (0, u "java/lang/Object")] 32

/-- java/lang/constant/ConstantDesc -/
def k10 : Class := { plain "java/lang/constant/ConstantDesc" (some 0) with
  accessFlags := 1537
  interfaces := #[]
  cf := some (fileOf pool10 1 #[] #[] 1537 3 #[] #[])
  fields := #[]
  methods := #[]
  instanceTypes := #[]
  staticTypes := #[]
  resolved := Array.replicate 37 none
  statics := none }

def pool11 : Array CpInfo := pool [(1, .methodref 2 3), (0, .class_ 4), (0, .nameAndType 5 6), (0, u "java/lang/Object"), (0, u "<init>"), (0, u "()V"), (0, .string 8), (0, u ""), (0, .fieldref 10 11), (0, .class_ 12), (0, .nameAndType 13 14), (0, u "java/lang/String"), (0, u "value"), (0, u "[B"), (0, .fieldref 10 16), (0, .nameAndType 17 18), (0, u "coder"), (0, u "B"), (2, u "hash"), (0, u "I"), (2, u "hashIsZero"), (0, u "Z"), (0, .methodref 10 28), (0, .nameAndType 5 29), (0, u "([CIILjava/lang/Void;)V"), (6, u "checkBoundsOffCount"), (0, u "(III)I"), (0, .fieldref 10 39), (0, .nameAndType 40 26), (0, u "COMPACT_STRINGS"), (1, .class_ 44), (1, u "java/lang/StringUTF16"), (0, u "compress"), (1, .methodref 42 48), (0, .nameAndType 49 50), (0, u "coderFromArrayLen"), (0, u "([BI)B"), (3, .methodref 55 56), (0, .class_ 57), (0, .nameAndType 58 59), (0, u "java/util/Arrays"), (0, u "copyOfRange"), (0, u "([BII)[B"), (47, .class_ 109), (1, u "java/lang/StringLatin1"), (32, u "()Z"), (34, .methodref 42 178), (0, .nameAndType 45 179), (0, u "([CII)[B"), (13, .class_ 195), (1, u "java/lang/System"), (16, .methodref 193 213), (0, .nameAndType 214 215), (0, u "arraycopy"), (0, u "(Ljava/lang/Object;ILjava/lang/Object;II)V"), (118, u "()I"), (0, .methodref 10 336), (0, .nameAndType 17 337), (0, u "()B"), (2, u "()[B"), (50, u "(II)V"), (97, .methodref 10 490), (0, .nameAndType 5 491), (0, u "(Ljava/lang/AbstractStringBuilder;Ljava/lang/Void;)V"), (1, .nameAndType 494 142), (0, u "isLatin1"), (6, u "checkIndex"), (4, .nameAndType 507 334), (0, u "length"), (24, u "getBytes"), (8, .methodref 107 542), (0, .nameAndType 543 544), (0, u "equals"), (0, u "([B[B)Z"), (4, .methodref 550 506), (0, .class_ 551), (0, u "java/lang/AbstractStringBuilder"), (0, .methodref 550 553), (0, .nameAndType 554 340), (0, u "getValue"), (18, u "(Ljava/lang/Object;)Z"), (1, .class_ 576), (0, u "java/lang/CharSequence"), (22, u "CASE_INSENSITIVE_ORDER"), (0, u "Ljava/util/Comparator;"), (220, u "([BIB)V"), (188, u "([C)V"), (36, .methodref 550 493), (0, .fieldref 550 1049), (0, .nameAndType 1050 26), (0, u "maybeLatin1"), (2, .fieldref 1054 1055), (0, .class_ 1056), (0, .nameAndType 1057 1058), (0, u "jdk/internal/util/Preconditions"), (0, u "SIOOBE_FORMATTER"), (0, u "Ljava/util/function/BiFunction;"), (0, .methodref 1054 1060), (0, .nameAndType 501 1061), (0, u "(IILjava/util/function/BiFunction;)I"), (2, u "(IIILjava/util/function/BiFunction;)I"), (0, .methodref 1054 1066), (0, .nameAndType 1067 1064), (0, u "checkFromIndexSize"), (33, u "serialPersistentFields"), (0, u "[Ljava/io/ObjectStreamField;"), (0, .class_ 1104), (0, u "java/lang/String$CaseInsensitiveComparator"), (1, .class_ 1107), (0, u "java/io/Serializable"), (0, .class_ 1109), (0, u "java/lang/Comparable"), (0, .class_ 1111), (0, u "java/lang/constant/Constable"), (0, .class_ 1113), (0, u "java/lang/constant/ConstantDesc"), (2, u "serialVersionUID"), (0, u "J"), (3, u "REPL"), (0, u "C"), (2, u "LATIN1"), (1, u "UTF16"), (105, u "(Ljava/lang/StringBuilder;)V")] 217

def k11m0 : Method := { name := "<init>", desc := "()V", sig := { parameters := [], returnType := none }, accessFlags := 1, code := none }
def k11c1 : Code := { maxStack := 5, maxLocals := 2, code := jdk_42_method_3_code, exceptionTable := #[], attributes := #[] }
def k11m1 : Method := { name := "<init>", desc := "([C)V", sig := { parameters := [(.array .char)], returnType := none }, accessFlags := 1, code := some k11c1 }
def k11c2 : Code := { maxStack := 3, maxLocals := 2, code := jdk_42_method_53_code, exceptionTable := #[], attributes := #[] }
def k11m2 : Method := { name := "<init>", desc := "(Ljava/lang/StringBuilder;)V", sig := { parameters := [(.object "java/lang/StringBuilder")], returnType := none }, accessFlags := 1, code := some k11c2 }
def k11c3 : Code := { maxStack := 2, maxLocals := 1, code := jdk_42_method_54_code, exceptionTable := #[], attributes := #[] }
def k11m3 : Method := { name := "length", desc := "()I", sig := { parameters := [], returnType := some .int }, accessFlags := 1, code := some k11c3 }
def k11c4 : Code := { maxStack := 2, maxLocals := 3, code := jdk_42_method_66_code, exceptionTable := #[], attributes := #[] }
def k11m4 : Method := { name := "equals", desc := "(Ljava/lang/Object;)Z", sig := { parameters := [(.object "java/lang/Object")], returnType := some .boolean }, accessFlags := 1, code := some k11c4 }
def k11c5 : Code := { maxStack := 5, maxLocals := 4, code := jdk_42_method_147_code, exceptionTable := #[], attributes := #[] }
def k11m5 : Method := { name := "getBytes", desc := "([BIB)V", sig := { parameters := [(.array .byte), .int, .byte], returnType := none }, accessFlags := 0, code := some k11c5 }
def k11c6 : Code := { maxStack := 4, maxLocals := 6, code := jdk_42_method_149_code, exceptionTable := #[], attributes := #[] }
def k11m6 : Method := { name := "<init>", desc := "([CIILjava/lang/Void;)V", sig := { parameters := [(.array .char), .int, .int, (.object "java/lang/Void")], returnType := none }, accessFlags := 2, code := some k11c6 }
def k11c7 : Code := { maxStack := 5, maxLocals := 5, code := jdk_42_method_150_code, exceptionTable := #[], attributes := #[] }
def k11m7 : Method := { name := "<init>", desc := "(Ljava/lang/AbstractStringBuilder;Ljava/lang/Void;)V", sig := { parameters := [(.object "java/lang/AbstractStringBuilder"), (.object "java/lang/Void")], returnType := none }, accessFlags := 0, code := some k11c7 }
def k11c8 : Code := { maxStack := 1, maxLocals := 1, code := jdk_42_method_152_code, exceptionTable := #[], attributes := #[] }
def k11m8 : Method := { name := "coder", desc := "()B", sig := { parameters := [], returnType := some .byte }, accessFlags := 0, code := some k11c8 }
def k11c9 : Code := { maxStack := 3, maxLocals := 2, code := jdk_42_method_155_code, exceptionTable := #[], attributes := #[] }
def k11m9 : Method := { name := "checkIndex", desc := "(II)V", sig := { parameters := [.int, .int], returnType := none }, accessFlags := 8, code := some k11c9 }
def k11c10 : Code := { maxStack := 4, maxLocals := 3, code := jdk_42_method_157_code, exceptionTable := #[], attributes := #[] }
def k11m10 : Method := { name := "checkBoundsOffCount", desc := "(III)I", sig := { parameters := [.int, .int, .int], returnType := some .int }, accessFlags := 8, code := some k11c10 }
/-- java/lang/String -/
def k11 : Class := { plain "java/lang/String" (some 0) with
  accessFlags := 49
  interfaces := #[6, 7, 4, 9, 10]
  cf := some (fileOf pool11 10 #[.nestMembers #[1103]] #[{ accessFlags := 1, nameIndex := 5, descriptorIndex := 6, attributes := #[] }, { accessFlags := 1, nameIndex := 5, descriptorIndex := 1010, attributes := #[] }, { accessFlags := 1, nameIndex := 5, descriptorIndex := 1233, attributes := #[] }, { accessFlags := 1, nameIndex := 507, descriptorIndex := 334, attributes := #[] }, { accessFlags := 1, nameIndex := 543, descriptorIndex := 573, attributes := #[] }, { accessFlags := 0, nameIndex := 532, descriptorIndex := 821, attributes := #[] }, { accessFlags := 2, nameIndex := 5, descriptorIndex := 29, attributes := #[] }, { accessFlags := 0, nameIndex := 5, descriptorIndex := 491, attributes := #[] }, { accessFlags := 0, nameIndex := 17, descriptorIndex := 337, attributes := #[] }, { accessFlags := 8, nameIndex := 501, descriptorIndex := 391, attributes := #[] }, { accessFlags := 8, nameIndex := 36, descriptorIndex := 37, attributes := #[] }] 49 2 #[1106, 1108, 575, 1110, 1112] #[{ accessFlags := 18, nameIndex := 13, descriptorIndex := 14, attributes := #[] }, { accessFlags := 18, nameIndex := 17, descriptorIndex := 18, attributes := #[] }, { accessFlags := 2, nameIndex := 21, descriptorIndex := 22, attributes := #[] }, { accessFlags := 2, nameIndex := 25, descriptorIndex := 26, attributes := #[] }, { accessFlags := 26, nameIndex := 1116, descriptorIndex := 1117, attributes := #[] }, { accessFlags := 24, nameIndex := 40, descriptorIndex := 26, attributes := #[] }, { accessFlags := 26, nameIndex := 1101, descriptorIndex := 1102, attributes := #[] }, { accessFlags := 26, nameIndex := 1121, descriptorIndex := 1122, attributes := #[] }, { accessFlags := 25, nameIndex := 599, descriptorIndex := 600, attributes := #[] }, { accessFlags := 24, nameIndex := 1125, descriptorIndex := 18, attributes := #[] }, { accessFlags := 24, nameIndex := 1127, descriptorIndex := 18, attributes := #[] }])
  fields := #[{ name := "value", type := (.array .byte), accessFlags := 18, slot := 0, constantValue := 0 }, { name := "coder", type := .byte, accessFlags := 18, slot := 1, constantValue := 0 }, { name := "hash", type := .int, accessFlags := 2, slot := 2, constantValue := 0 }, { name := "hashIsZero", type := .boolean, accessFlags := 2, slot := 3, constantValue := 0 }, { name := "serialVersionUID", type := .long, accessFlags := 26, slot := 0, constantValue := 0 }, { name := "COMPACT_STRINGS", type := .boolean, accessFlags := 24, slot := 1, constantValue := 0 }, { name := "serialPersistentFields", type := (.array (.object "java/io/ObjectStreamField")), accessFlags := 26, slot := 2, constantValue := 0 }, { name := "REPL", type := .char, accessFlags := 26, slot := 3, constantValue := 0 }, { name := "CASE_INSENSITIVE_ORDER", type := (.object "java/util/Comparator"), accessFlags := 25, slot := 4, constantValue := 0 }, { name := "LATIN1", type := .byte, accessFlags := 24, slot := 5, constantValue := 0 }, { name := "UTF16", type := .byte, accessFlags := 24, slot := 6, constantValue := 0 }]
  methods := #[k11m0, k11m1, k11m2, k11m3, k11m4, k11m5, k11m6, k11m7, k11m8, k11m9, k11m10]
  instanceTypes := #[(.array .byte), .byte, .int, .boolean]
  staticTypes := #[.long, .boolean, (.array (.object "java/io/ObjectStreamField")), .char, (.object "java/util/Comparator"), .byte, .byte]
  resolved := Array.replicate 1451 none
  statics := some 0 }

def pool12 : Array CpInfo := pool [(2, .class_ 4), (1, u "java/lang/Object"), (0, u "<init>"), (0, u "()V"), (1, .class_ 10), (1, u "java/lang/System"), (0, u "allowSecurityManager"), (0, u "I"), (16, u "cons"), (0, u "Ljava/io/Console;"), (77, .class_ 110), (1, u "java/lang/System$CallersHolder"), (43, u "initialErrStream"), (0, u "Ljava/io/PrintStream;"), (19, u "security"), (0, u "Ljava/lang/SecurityManager;"), (31, .class_ 209), (0, u "java/lang/System$1"), (7, u "props"), (0, u "Ljava/util/Properties;"), (2, u "lineSeparator"), (0, u "Ljava/lang/String;"), (96, .class_ 321), (1, u "java/lang/System$LoggerFinder"), (5, .class_ 328), (0, u "java/lang/System$Logger"), (67, u "err"), (2, u "out"), (91, u "notSupportedJnuEncoding"), (15, u "in"), (17, u "initialIn"), (0, u "Ljava/io/InputStream;"), (35, u "bootLayer"), (0, u "Ljava/lang/ModuleLayer;"), (99, .class_ 664), (0, u "java/lang/System$2"), (9, u "NEVER"), (2, u "MAYBE"), (49, u "arraycopy"), (0, u "(Ljava/lang/Object;ILjava/lang/Object;II)V"), (72, .class_ 802), (0, u "java/lang/System$Logger$Level")] 31

def k12m0 : Method := { name := "<init>", desc := "()V", sig := { parameters := [], returnType := none }, accessFlags := 2, code := none }
def k12m1 : Method := { name := "arraycopy", desc := "(Ljava/lang/Object;ILjava/lang/Object;II)V", sig := { parameters := [(.object "java/lang/Object"), .int, (.object "java/lang/Object"), .int, .int], returnType := none }, accessFlags := 265, code := none }
/-- java/lang/System -/
def k12 : Class := { plain "java/lang/System" (some 0) with
  accessFlags := 49
  interfaces := #[]
  cf := some (fileOf pool12 8 #[.nestMembers #[319, 327, 801, 108, 663, 208]] #[{ accessFlags := 2, nameIndex := 5, descriptorIndex := 6, attributes := #[] }, { accessFlags := 265, nameIndex := 727, descriptorIndex := 728, attributes := #[] }] 49 2 #[] #[{ accessFlags := 25, nameIndex := 507, descriptorIndex := 526, attributes := #[] }, { accessFlags := 25, nameIndex := 399, descriptorIndex := 155, attributes := #[] }, { accessFlags := 25, nameIndex := 396, descriptorIndex := 155, attributes := #[] }, { accessFlags := 10, nameIndex := 525, descriptorIndex := 526, attributes := #[] }, { accessFlags := 26, nameIndex := 674, descriptorIndex := 12, attributes := #[] }, { accessFlags := 26, nameIndex := 677, descriptorIndex := 12, attributes := #[] }, { accessFlags := 10, nameIndex := 11, descriptorIndex := 12, attributes := #[] }, { accessFlags := 74, nameIndex := 175, descriptorIndex := 176, attributes := #[] }, { accessFlags := 10, nameIndex := 491, descriptorIndex := 222, attributes := #[] }, { accessFlags := 74, nameIndex := 29, descriptorIndex := 30, attributes := #[] }, { accessFlags := 74, nameIndex := 154, descriptorIndex := 155, attributes := #[] }, { accessFlags := 10, nameIndex := 217, descriptorIndex := 218, attributes := #[] }, { accessFlags := 10, nameIndex := 221, descriptorIndex := 222, attributes := #[] }, { accessFlags := 8, nameIndex := 562, descriptorIndex := 563, attributes := #[] }])
  fields := #[{ name := "in", type := (.object "java/io/InputStream"), accessFlags := 25, slot := 0, constantValue := 0 }, { name := "out", type := (.object "java/io/PrintStream"), accessFlags := 25, slot := 1, constantValue := 0 }, { name := "err", type := (.object "java/io/PrintStream"), accessFlags := 25, slot := 2, constantValue := 0 }, { name := "initialIn", type := (.object "java/io/InputStream"), accessFlags := 10, slot := 3, constantValue := 0 }, { name := "NEVER", type := .int, accessFlags := 26, slot := 4, constantValue := 0 }, { name := "MAYBE", type := .int, accessFlags := 26, slot := 5, constantValue := 0 }, { name := "allowSecurityManager", type := .int, accessFlags := 10, slot := 6, constantValue := 0 }, { name := "security", type := (.object "java/lang/SecurityManager"), accessFlags := 74, slot := 7, constantValue := 0 }, { name := "notSupportedJnuEncoding", type := (.object "java/lang/String"), accessFlags := 10, slot := 8, constantValue := 0 }, { name := "cons", type := (.object "java/io/Console"), accessFlags := 74, slot := 9, constantValue := 0 }, { name := "initialErrStream", type := (.object "java/io/PrintStream"), accessFlags := 74, slot := 10, constantValue := 0 }, { name := "props", type := (.object "java/util/Properties"), accessFlags := 10, slot := 11, constantValue := 0 }, { name := "lineSeparator", type := (.object "java/lang/String"), accessFlags := 10, slot := 12, constantValue := 0 }, { name := "bootLayer", type := (.object "java/lang/ModuleLayer"), accessFlags := 8, slot := 13, constantValue := 0 }]
  methods := #[k12m0, k12m1]
  instanceTypes := #[]
  staticTypes := #[(.object "java/io/InputStream"), (.object "java/io/PrintStream"), (.object "java/io/PrintStream"), (.object "java/io/InputStream"), .int, .int, .int, (.object "java/lang/SecurityManager"), (.object "java/lang/String"), (.object "java/io/Console"), (.object "java/io/PrintStream"), (.object "java/util/Properties"), (.object "java/lang/String"), (.object "java/lang/ModuleLayer")]
  resolved := Array.replicate 834 none
  statics := none }

def pool13 : Array CpInfo := pool [(4, .class_ 6), (1, u "java/lang/Object"), (0, u "<init>"), (0, u "()V"), (5, .class_ 16), (1, u "java/lang/StringLatin1"), (0, u "inflate"), (2, .class_ 22), (1, u "java/lang/StringUTF16"), (3, .nameAndType 17 27), (0, u "([BI[BII)V"), (62, u "canEncode"), (14, u "(C)Z"), (15, u "$assertionsDisabled"), (0, u "Z"), (98, .class_ 223), (1, u "java/lang/StringLatin1$LinesSpliterator"), (16, .methodref 20 26), (40, u "equals"), (0, u "([B[B)Z"), (107, .class_ 391), (0, u "java/lang/StringLatin1$CharsSpliterator")] 3

def k13m0 : Method := { name := "<init>", desc := "()V", sig := { parameters := [], returnType := none }, accessFlags := 0, code := none }
def k13c1 : Code := { maxStack := 2, maxLocals := 1, code := jdk_43_method_3_code, exceptionTable := #[], attributes := #[] }
def k13m1 : Method := { name := "canEncode", desc := "(C)Z", sig := { parameters := [.char], returnType := some .boolean }, accessFlags := 9, code := some k13c1 }
def k13c2 : Code := { maxStack := 3, maxLocals := 3, code := jdk_43_method_13_code, exceptionTable := #[], attributes := #[] }
def k13m2 : Method := { name := "equals", desc := "([B[B)Z", sig := { parameters := [(.array .byte), (.array .byte)], returnType := some .boolean }, accessFlags := 9, code := some k13c2 }
def k13c3 : Code := { maxStack := 5, maxLocals := 5, code := jdk_43_method_50_code, exceptionTable := #[], attributes := #[] }
def k13m3 : Method := { name := "inflate", desc := "([BI[BII)V", sig := { parameters := [(.array .byte), .int, (.array .byte), .int, .int], returnType := none }, accessFlags := 9, code := some k13c3 }
/-- java/lang/StringLatin1 -/
def k13 : Class := { plain "java/lang/StringLatin1" (some 0) with
  accessFlags := 48
  interfaces := #[]
  cf := some (fileOf pool13 14 #[.nestMembers #[390, 221]] #[{ accessFlags := 0, nameIndex := 7, descriptorIndex := 8, attributes := #[] }, { accessFlags := 9, nameIndex := 90, descriptorIndex := 105, attributes := #[] }, { accessFlags := 9, nameIndex := 281, descriptorIndex := 282, attributes := #[] }, { accessFlags := 9, nameIndex := 17, descriptorIndex := 27, attributes := #[] }] 48 4 #[] #[{ accessFlags := 4120, nameIndex := 121, descriptorIndex := 122, attributes := #[] }])
  fields := #[{ name := "$assertionsDisabled", type := .boolean, accessFlags := 4120, slot := 0, constantValue := 0 }]
  methods := #[k13m0, k13m1, k13m2, k13m3]
  instanceTypes := #[]
  staticTypes := #[.boolean]
  resolved := Array.replicate 395 none
  statics := none }

def pool14 : Array CpInfo := pool [(2, .class_ 4), (1, u "java/lang/Object"), (0, u "<init>"), (0, u "()V"), (7, .class_ 16), (1, u "java/util/Arrays"), (57, .class_ 76), (1, u "java/util/Arrays$NaturalOrder"), (36, .class_ 115), (1, u "java/util/Arrays$LegacyMergeSort"), (1, u "Z"), (21, u "copyOfRange"), (10, .methodref 151 152), (0, .class_ 153), (0, .nameAndType 154 155), (0, u "java/lang/System"), (0, u "arraycopy"), (0, u "(Ljava/lang/Object;ILjava/lang/Object;II)V"), (148, .methodref 305 306), (0, .class_ 307), (0, .nameAndType 308 309), (0, u "java/lang/Math"), (0, u "min"), (0, u "(II)I"), (29, .methodref 14 340), (0, .nameAndType 341 342), (0, u "copyOfRangeByte"), (0, u "([BII)[B"), (0, .methodref 14 344), (0, .nameAndType 345 346), (0, u "checkLength"), (0, u "(II)V"), (28, .class_ 376), (0, u "java/util/Arrays$ArrayList"), (68, u "$assertionsDisabled"), (269, u "MIN_ARRAY_SORT_GRAN"), (0, u "I"), (2, u "INSERTIONSORT_THRESHOLD"), (255, .class_ 976), (0, u "java/util/Arrays$ArrayItr")] 52

def k14m0 : Method := { name := "<init>", desc := "()V", sig := { parameters := [], returnType := none }, accessFlags := 2, code := none }
def k14c1 : Code := { maxStack := 4, maxLocals := 2, code := jdk_65_method_131_code, exceptionTable := #[], attributes := #[] }
def k14m1 : Method := { name := "checkLength", desc := "(II)V", sig := { parameters := [.int, .int], returnType := none }, accessFlags := 10, code := some k14c1 }
def k14c2 : Code := { maxStack := 3, maxLocals := 3, code := jdk_65_method_132_code, exceptionTable := #[], attributes := #[] }
def k14m2 : Method := { name := "copyOfRange", desc := "([BII)[B", sig := { parameters := [(.array .byte), .int, .int], returnType := some (.array .byte) }, accessFlags := 9, code := some k14c2 }
def k14c3 : Code := { maxStack := 6, maxLocals := 5, code := jdk_65_method_133_code, exceptionTable := #[], attributes := #[] }
def k14m3 : Method := { name := "copyOfRangeByte", desc := "([BII)[B", sig := { parameters := [(.array .byte), .int, .int], returnType := some (.array .byte) }, accessFlags := 10, code := some k14c3 }
/-- java/util/Arrays -/
def k14 : Class := { plain "java/util/Arrays" (some 0) with
  accessFlags := 49
  interfaces := #[]
  cf := some (fileOf pool14 14 #[.nestMembers #[975, 375, 113, 74]] #[{ accessFlags := 2, nameIndex := 5, descriptorIndex := 6, attributes := #[] }, { accessFlags := 10, nameIndex := 345, descriptorIndex := 346, attributes := #[] }, { accessFlags := 9, nameIndex := 139, descriptorIndex := 342, attributes := #[] }, { accessFlags := 10, nameIndex := 341, descriptorIndex := 342, attributes := #[] }] 49 2 #[] #[{ accessFlags := 26, nameIndex := 715, descriptorIndex := 716, attributes := #[] }, { accessFlags := 26, nameIndex := 719, descriptorIndex := 716, attributes := #[] }, { accessFlags := 4120, nameIndex := 445, descriptorIndex := 117, attributes := #[] }])
  fields := #[{ name := "MIN_ARRAY_SORT_GRAN", type := .int, accessFlags := 26, slot := 0, constantValue := 0 }, { name := "INSERTIONSORT_THRESHOLD", type := .int, accessFlags := 26, slot := 1, constantValue := 0 }, { name := "$assertionsDisabled", type := .boolean, accessFlags := 4120, slot := 2, constantValue := 0 }]
  methods := #[k14m0, k14m1, k14m2, k14m3]
  instanceTypes := #[]
  staticTypes := #[.int, .int, .boolean]
  resolved := Array.replicate 1029 none
  statics := none }

def pool15 : Array CpInfo := pool [(1, .class_ 2), (0, u "java/lang/Math"), (1, .class_ 6), (1, u "java/lang/Object"), (0, u "<init>"), (0, u "()V"), (89, .class_ 100), (1, u "java/lang/Math$RandomNumberGeneratorHolder"), (71, u "negativeZeroFloatBits"), (0, u "J"), (2, u "negativeZeroDoubleBits"), (24, u "min"), (43, u "$assertionsDisabled"), (0, u "Z"), (88, u "(II)I"), (2, u "twoToTheDoubleScaleDown"), (0, u "D"), (4, u "twoToTheDoubleScaleUp"), (9, u "E"), (3, u "PI"), (2, u "TAU"), (2, u "DEGREES_TO_RADIANS"), (0, u "RADIANS_TO_DEGREES")] 94

def k15m0 : Method := { name := "<init>", desc := "()V", sig := { parameters := [], returnType := none }, accessFlags := 2, code := none }
def k15c1 : Code := { maxStack := 2, maxLocals := 2, code := jdk_29_method_69_code, exceptionTable := #[], attributes := #[] }
def k15m1 : Method := { name := "min", desc := "(II)I", sig := { parameters := [.int, .int], returnType := some .int }, accessFlags := 9, code := some k15c1 }
/-- java/lang/Math -/
def k15 : Class := { plain "java/lang/Math" (some 0) with
  accessFlags := 49
  interfaces := #[]
  cf := some (fileOf pool15 1 #[.nestMembers #[98]] #[{ accessFlags := 2, nameIndex := 7, descriptorIndex := 8, attributes := #[] }, { accessFlags := 9, nameIndex := 201, descriptorIndex := 335, attributes := #[] }] 49 4 #[] #[{ accessFlags := 25, nameIndex := 354, descriptorIndex := 339, attributes := #[] }, { accessFlags := 25, nameIndex := 358, descriptorIndex := 339, attributes := #[] }, { accessFlags := 25, nameIndex := 361, descriptorIndex := 339, attributes := #[] }, { accessFlags := 26, nameIndex := 364, descriptorIndex := 339, attributes := #[] }, { accessFlags := 26, nameIndex := 365, descriptorIndex := 339, attributes := #[] }, { accessFlags := 26, nameIndex := 172, descriptorIndex := 173, attributes := #[] }, { accessFlags := 26, nameIndex := 176, descriptorIndex := 173, attributes := #[] }, { accessFlags := 8, nameIndex := 344, descriptorIndex := 339, attributes := #[] }, { accessFlags := 8, nameIndex := 338, descriptorIndex := 339, attributes := #[] }, { accessFlags := 4120, nameIndex := 245, descriptorIndex := 246, attributes := #[] }])
  fields := #[{ name := "E", type := .double, accessFlags := 25, slot := 0, constantValue := 0 }, { name := "PI", type := .double, accessFlags := 25, slot := 1, constantValue := 0 }, { name := "TAU", type := .double, accessFlags := 25, slot := 2, constantValue := 0 }, { name := "DEGREES_TO_RADIANS", type := .double, accessFlags := 26, slot := 3, constantValue := 0 }, { name := "RADIANS_TO_DEGREES", type := .double, accessFlags := 26, slot := 4, constantValue := 0 }, { name := "negativeZeroFloatBits", type := .long, accessFlags := 26, slot := 5, constantValue := 0 }, { name := "negativeZeroDoubleBits", type := .long, accessFlags := 26, slot := 6, constantValue := 0 }, { name := "twoToTheDoubleScaleUp", type := .double, accessFlags := 8, slot := 7, constantValue := 0 }, { name := "twoToTheDoubleScaleDown", type := .double, accessFlags := 8, slot := 8, constantValue := 0 }, { name := "$assertionsDisabled", type := .boolean, accessFlags := 4120, slot := 9, constantValue := 0 }]
  methods := #[k15m0, k15m1]
  instanceTypes := #[]
  staticTypes := #[.double, .double, .double, .double, .double, .long, .long, .double, .double, .boolean]
  resolved := Array.replicate 460 none
  statics := none }

def pool16 : Array CpInfo := pool [(3, .class_ 4), (0, u "java/lang/String"), (1, .class_ 8), (1, u "java/lang/Object"), (0, u "<init>"), (0, u "()V"), (0, .methodref 12 13), (0, .class_ 14), (0, .nameAndType 15 16), (0, u "java/lang/StringUTF16"), (0, u "newBytesLength"), (0, u "(I)I"), (3, .integer 1073741823), (23, .fieldref 12 45), (0, .nameAndType 46 47), (0, u "$assertionsDisabled"), (0, u "Z"), (0, .methodref 12 49), (0, .nameAndType 50 51), (0, u "length"), (0, u "([B)I"), (7, .fieldref 12 60), (0, .nameAndType 61 62), (0, u "HI_BYTE_SHIFT"), (0, u "I"), (0, .fieldref 12 64), (0, .nameAndType 65 62), (0, u "LO_BYTE_SHIFT"), (1, .methodref 12 68), (0, .nameAndType 69 70), (0, u "checkIndex"), (0, u "(I[B)V"), (0, .methodref 12 72), (0, .nameAndType 73 74), (0, u "getChar"), (0, u "([BI)C"), (24, u "(II[B)V"), (7, .methodref 12 108), (0, .nameAndType 109 110), (0, u "newBytesFor"), (0, u "(I)[B"), (0, .methodref 12 112), (0, .nameAndType 113 114), (0, u "putChar"), (0, u "([BII)V"), (0, .methodref 12 116), (0, .nameAndType 117 118), (0, u "compress"), (0, u "([CI[BII)I"), (0, .methodref 12 120), (0, .nameAndType 121 122), (0, u "toBytes"), (0, u "([CII)[B"), (17, u "inflate"), (0, u "([BI[BII)V"), (31, .methodref 12 174), (0, .nameAndType 175 99), (0, u "checkBoundsOffCount"), (85, u "coderFromArrayLen"), (0, u "([BI)B"), (18, u "(III)I"), (87, .class_ 371), (1, u "java/lang/StringUTF16$LinesSpliterator"), (42, .methodref 3 415), (0, .nameAndType 69 416), (0, u "(II)V"), (2, .methodref 3 420), (0, .nameAndType 175 281), (9, u "MAX_LENGTH"), (155, u "putCharSB"), (40, .class_ 628), (0, u "java/lang/StringUTF16$CodePointsSpliterator"), (0, .class_ 630), (0, u "java/lang/StringUTF16$CharsSpliterator")] 4

def k16m0 : Method := { name := "<init>", desc := "()V", sig := { parameters := [], returnType := none }, accessFlags := 0, code := none }
def k16c1 : Code := { maxStack := 1, maxLocals := 1, code := jdk_52_method_2_code, exceptionTable := #[], attributes := #[] }
def k16m1 : Method := { name := "newBytesFor", desc := "(I)[B", sig := { parameters := [.int], returnType := some (.array .byte) }, accessFlags := 9, code := some k16c1 }
def k16c2 : Code := { maxStack := 4, maxLocals := 1, code := jdk_52_method_3_code, exceptionTable := #[], attributes := #[] }
def k16m2 : Method := { name := "newBytesLength", desc := "(I)I", sig := { parameters := [.int], returnType := some .int }, accessFlags := 9, code := some k16c2 }
def k16c3 : Code := { maxStack := 4, maxLocals := 3, code := jdk_52_method_4_code, exceptionTable := #[], attributes := #[] }
def k16m3 : Method := { name := "putChar", desc := "([BII)V", sig := { parameters := [(.array .byte), .int, .int], returnType := none }, accessFlags := 8, code := some k16c3 }
def k16c4 : Code := { maxStack := 3, maxLocals := 2, code := jdk_52_method_5_code, exceptionTable := #[], attributes := #[] }
def k16m4 : Method := { name := "getChar", desc := "([BI)C", sig := { parameters := [(.array .byte), .int], returnType := some .char }, accessFlags := 8, code := some k16c4 }
def k16c5 : Code := { maxStack := 2, maxLocals := 1, code := jdk_52_method_6_code, exceptionTable := #[], attributes := #[] }
def k16m5 : Method := { name := "length", desc := "([B)I", sig := { parameters := [(.array .byte)], returnType := some .int }, accessFlags := 9, code := some k16c5 }
def k16c6 : Code := { maxStack := 4, maxLocals := 5, code := jdk_52_method_14_code, exceptionTable := #[], attributes := #[] }
def k16m6 : Method := { name := "toBytes", desc := "([CII)[B", sig := { parameters := [(.array .char), .int, .int], returnType := some (.array .byte) }, accessFlags := 9, code := some k16c6 }
def k16c7 : Code := { maxStack := 2, maxLocals := 2, code := jdk_52_method_15_code, exceptionTable := #[], attributes := #[] }
def k16m7 : Method := { name := "coderFromArrayLen", desc := "([BI)B", sig := { parameters := [(.array .byte), .int], returnType := some .byte }, accessFlags := 8, code := some k16c7 }
def k16c8 : Code := { maxStack := 5, maxLocals := 6, code := jdk_52_method_16_code, exceptionTable := #[], attributes := #[] }
def k16m8 : Method := { name := "compress", desc := "([CII)[B", sig := { parameters := [(.array .char), .int, .int], returnType := some (.array .byte) }, accessFlags := 9, code := some k16c8 }
def k16c9 : Code := { maxStack := 3, maxLocals := 7, code := jdk_52_method_21_code, exceptionTable := #[], attributes := #[] }
def k16m9 : Method := { name := "compress", desc := "([CI[BII)I", sig := { parameters := [(.array .char), .int, (.array .byte), .int, .int], returnType := some .int }, accessFlags := 9, code := some k16c9 }
def k16c10 : Code := { maxStack := 3, maxLocals := 3, code := jdk_52_method_71_code, exceptionTable := #[], attributes := #[] }
def k16m10 : Method := { name := "putCharSB", desc := "([BII)V", sig := { parameters := [(.array .byte), .int, .int], returnType := none }, accessFlags := 9, code := some k16c10 }
def k16c11 : Code := { maxStack := 4, maxLocals := 6, code := jdk_52_method_86_code, exceptionTable := #[], attributes := #[] }
def k16m11 : Method := { name := "inflate", desc := "([BI[BII)V", sig := { parameters := [(.array .byte), .int, (.array .byte), .int, .int], returnType := none }, accessFlags := 9, code := some k16c11 }
def k16c12 : Code := { maxStack := 2, maxLocals := 2, code := jdk_52_method_91_code, exceptionTable := #[], attributes := #[] }
def k16m12 : Method := { name := "checkIndex", desc := "(I[B)V", sig := { parameters := [.int, (.array .byte)], returnType := none }, accessFlags := 9, code := some k16c12 }
def k16c13 : Code := { maxStack := 3, maxLocals := 3, code := jdk_52_method_94_code, exceptionTable := #[], attributes := #[] }
def k16m13 : Method := { name := "checkBoundsOffCount", desc := "(II[B)V", sig := { parameters := [.int, .int, (.array .byte)], returnType := none }, accessFlags := 9, code := some k16c13 }
/-- java/lang/StringUTF16 -/
def k16 : Class := { plain "java/lang/StringUTF16" (some 0) with
  accessFlags := 48
  interfaces := #[]
  cf := some (fileOf pool16 12 #[.nestMembers #[627, 629, 369]] #[{ accessFlags := 0, nameIndex := 9, descriptorIndex := 10, attributes := #[] }, { accessFlags := 9, nameIndex := 109, descriptorIndex := 110, attributes := #[] }, { accessFlags := 9, nameIndex := 15, descriptorIndex := 16, attributes := #[] }, { accessFlags := 8, nameIndex := 113, descriptorIndex := 114, attributes := #[] }, { accessFlags := 8, nameIndex := 73, descriptorIndex := 74, attributes := #[] }, { accessFlags := 9, nameIndex := 50, descriptorIndex := 51, attributes := #[] }, { accessFlags := 9, nameIndex := 121, descriptorIndex := 122, attributes := #[] }, { accessFlags := 8, nameIndex := 261, descriptorIndex := 262, attributes := #[] }, { accessFlags := 9, nameIndex := 117, descriptorIndex := 122, attributes := #[] }, { accessFlags := 9, nameIndex := 117, descriptorIndex := 118, attributes := #[] }, { accessFlags := 9, nameIndex := 586, descriptorIndex := 114, attributes := #[] }, { accessFlags := 9, nameIndex := 140, descriptorIndex := 141, attributes := #[] }, { accessFlags := 9, nameIndex := 69, descriptorIndex := 70, attributes := #[] }, { accessFlags := 9, nameIndex := 175, descriptorIndex := 99, attributes := #[] }] 48 6 #[] #[{ accessFlags := 26, nameIndex := 61, descriptorIndex := 62, attributes := #[] }, { accessFlags := 26, nameIndex := 65, descriptorIndex := 62, attributes := #[] }, { accessFlags := 24, nameIndex := 430, descriptorIndex := 62, attributes := #[] }, { accessFlags := 4120, nameIndex := 46, descriptorIndex := 47, attributes := #[] }])
  fields := #[{ name := "HI_BYTE_SHIFT", type := .int, accessFlags := 26, slot := 0, constantValue := 0 }, { name := "LO_BYTE_SHIFT", type := .int, accessFlags := 26, slot := 1, constantValue := 0 }, { name := "MAX_LENGTH", type := .int, accessFlags := 24, slot := 2, constantValue := 0 }, { name := "$assertionsDisabled", type := .boolean, accessFlags := 4120, slot := 3, constantValue := 0 }]
  methods := #[k16m0, k16m1, k16m2, k16m3, k16m4, k16m5, k16m6, k16m7, k16m8, k16m9, k16m10, k16m11, k16m12, k16m13]
  instanceTypes := #[]
  staticTypes := #[.int, .int, .int, .boolean]
  resolved := Array.replicate 635 none
  statics := some 1 }

def pool17 : Array CpInfo := pool [(2, .class_ 4), (1, u "java/lang/Object"), (0, u "<init>"), (0, u "()V"), (17, .class_ 26), (1, u "jdk/internal/util/Preconditions"), (6, u "checkIndex"), (15, u "checkFromIndexSize"), (5, .class_ 56), (0, u "jdk/internal/util/Preconditions$4"), (57, .class_ 115), (0, u "jdk/internal/util/Preconditions$1"), (7, u "SIOOBE_FORMATTER"), (0, u "Ljava/util/function/BiFunction;"), (0, .class_ 126), (0, u "jdk/internal/util/Preconditions$2"), (3, u "AIOOBE_FORMATTER"), (0, .class_ 132), (0, u "jdk/internal/util/Preconditions$3"), (3, u "IOOBE_FORMATTER"), (41, u "(IILjava/util/function/BiFunction;)I"), (4, u "(IIILjava/util/function/BiFunction;)I")] 10

def k17m0 : Method := { name := "<init>", desc := "()V", sig := { parameters := [], returnType := none }, accessFlags := 1, code := none }
def k17c1 : Code := { maxStack := 3, maxLocals := 3, code := jdk_41_method_11_code, exceptionTable := #[], attributes := #[] }
def k17m1 : Method := { name := "checkIndex", desc := "(IILjava/util/function/BiFunction;)I", sig := { parameters := [.int, .int, (.object "java/util/function/BiFunction")], returnType := some .int }, accessFlags := 9, code := some k17c1 }
def k17c2 : Code := { maxStack := 4, maxLocals := 4, code := jdk_41_method_13_code, exceptionTable := #[], attributes := #[] }
def k17m2 : Method := { name := "checkFromIndexSize", desc := "(IIILjava/util/function/BiFunction;)I", sig := { parameters := [.int, .int, .int, (.object "java/util/function/BiFunction")], returnType := some .int }, accessFlags := 9, code := some k17c2 }
/-- jdk/internal/util/Preconditions -/
def k17 : Class := { plain "jdk/internal/util/Preconditions" (some 0) with
  accessFlags := 33
  interfaces := #[]
  cf := some (fileOf pool17 24 #[.nestMembers #[55, 131, 125, 114]] #[{ accessFlags := 1, nameIndex := 5, descriptorIndex := 6, attributes := #[] }, { accessFlags := 9, nameIndex := 33, descriptorIndex := 178, attributes := #[] }, { accessFlags := 9, nameIndex := 49, descriptorIndex := 183, attributes := #[] }] 33 2 #[] #[{ accessFlags := 25, nameIndex := 123, descriptorIndex := 124, attributes := #[] }, { accessFlags := 25, nameIndex := 130, descriptorIndex := 124, attributes := #[] }, { accessFlags := 25, nameIndex := 136, descriptorIndex := 124, attributes := #[] }])
  fields := #[{ name := "SIOOBE_FORMATTER", type := (.object "java/util/function/BiFunction"), accessFlags := 25, slot := 0, constantValue := 0 }, { name := "AIOOBE_FORMATTER", type := (.object "java/util/function/BiFunction"), accessFlags := 25, slot := 1, constantValue := 0 }, { name := "IOOBE_FORMATTER", type := (.object "java/util/function/BiFunction"), accessFlags := 25, slot := 2, constantValue := 0 }]
  methods := #[k17m0, k17m1, k17m2]
  instanceTypes := #[]
  staticTypes := #[(.object "java/util/function/BiFunction"), (.object "java/util/function/BiFunction"), (.object "java/util/function/BiFunction")]
  resolved := Array.replicate 194 none
  statics := some 2 }

def pool18 : Array CpInfo := pool [(9, u "<init>"), (6, .class_ 18), (1, u "java/lang/Object"), (0, u "()V"), (1, .class_ 23), (1, u "jdk/internal/util/ArraysSupport"), (0, u "LOG2_ARRAY_LONG_INDEX_SCALE"), (0, u "I"), (2, u "U"), (0, u "Ljdk/internal/misc/Unsafe;"), (8, u "BIG_ENDIAN"), (0, u "Z"), (8, u "LOG2_BYTE_BIT_SIZE"), (4, u "LOG2_ARRAY_INT_INDEX_SCALE"), (54, u "JLA"), (0, u "Ljdk/internal/access/JavaLangAccess;"), (11, u "LOG2_ARRAY_BOOLEAN_INDEX_SCALE"), (9, u "LOG2_ARRAY_BYTE_INDEX_SCALE"), (5, u "LOG2_ARRAY_CHAR_INDEX_SCALE"), (5, u "LOG2_ARRAY_SHORT_INDEX_SCALE"), (18, u "LOG2_ARRAY_FLOAT_INDEX_SCALE"), (24, u "LOG2_ARRAY_DOUBLE_INDEX_SCALE"), (89, u "T_BOOLEAN"), (2, u "T_CHAR"), (1, u "T_FLOAT"), (1, u "T_DOUBLE"), (1, u "T_BYTE"), (1, u "T_SHORT"), (1, u "T_INT"), (1, u "T_LONG"), (1, u "SOFT_MAX_ARRAY_LENGTH")] 83

def k18m0 : Method := { name := "<init>", desc := "()V", sig := { parameters := [], returnType := none }, accessFlags := 2, code := none }
/-- jdk/internal/util/ArraysSupport -/
def k18 : Class := { plain "jdk/internal/util/ArraysSupport" (some 0) with
  accessFlags := 33
  interfaces := #[]
  cf := some (fileOf pool18 21 #[] #[{ accessFlags := 2, nameIndex := 9, descriptorIndex := 19, attributes := #[] }] 33 16 #[] #[{ accessFlags := 24, nameIndex := 28, descriptorIndex := 29, attributes := #[] }, { accessFlags := 26, nameIndex := 38, descriptorIndex := 39, attributes := #[] }, { accessFlags := 25, nameIndex := 121, descriptorIndex := 25, attributes := #[] }, { accessFlags := 25, nameIndex := 131, descriptorIndex := 25, attributes := #[] }, { accessFlags := 25, nameIndex := 137, descriptorIndex := 25, attributes := #[] }, { accessFlags := 25, nameIndex := 143, descriptorIndex := 25, attributes := #[] }, { accessFlags := 25, nameIndex := 53, descriptorIndex := 25, attributes := #[] }, { accessFlags := 25, nameIndex := 24, descriptorIndex := 25, attributes := #[] }, { accessFlags := 25, nameIndex := 162, descriptorIndex := 25, attributes := #[] }, { accessFlags := 25, nameIndex := 187, descriptorIndex := 25, attributes := #[] }, { accessFlags := 26, nameIndex := 48, descriptorIndex := 25, attributes := #[] }, { accessFlags := 25, nameIndex := 277, descriptorIndex := 25, attributes := #[] }, { accessFlags := 25, nameIndex := 280, descriptorIndex := 25, attributes := #[] }, { accessFlags := 25, nameIndex := 282, descriptorIndex := 25, attributes := #[] }, { accessFlags := 25, nameIndex := 284, descriptorIndex := 25, attributes := #[] }, { accessFlags := 25, nameIndex := 286, descriptorIndex := 25, attributes := #[] }, { accessFlags := 25, nameIndex := 288, descriptorIndex := 25, attributes := #[] }, { accessFlags := 25, nameIndex := 290, descriptorIndex := 25, attributes := #[] }, { accessFlags := 25, nameIndex := 292, descriptorIndex := 25, attributes := #[] }, { accessFlags := 26, nameIndex := 108, descriptorIndex := 109, attributes := #[] }, { accessFlags := 25, nameIndex := 294, descriptorIndex := 25, attributes := #[] }])
  fields := #[{ name := "U", type := (.object "jdk/internal/misc/Unsafe"), accessFlags := 24, slot := 0, constantValue := 0 }, { name := "BIG_ENDIAN", type := .boolean, accessFlags := 26, slot := 1, constantValue := 0 }, { name := "LOG2_ARRAY_BOOLEAN_INDEX_SCALE", type := .int, accessFlags := 25, slot := 2, constantValue := 0 }, { name := "LOG2_ARRAY_BYTE_INDEX_SCALE", type := .int, accessFlags := 25, slot := 3, constantValue := 0 }, { name := "LOG2_ARRAY_CHAR_INDEX_SCALE", type := .int, accessFlags := 25, slot := 4, constantValue := 0 }, { name := "LOG2_ARRAY_SHORT_INDEX_SCALE", type := .int, accessFlags := 25, slot := 5, constantValue := 0 }, { name := "LOG2_ARRAY_INT_INDEX_SCALE", type := .int, accessFlags := 25, slot := 6, constantValue := 0 }, { name := "LOG2_ARRAY_LONG_INDEX_SCALE", type := .int, accessFlags := 25, slot := 7, constantValue := 0 }, { name := "LOG2_ARRAY_FLOAT_INDEX_SCALE", type := .int, accessFlags := 25, slot := 8, constantValue := 0 }, { name := "LOG2_ARRAY_DOUBLE_INDEX_SCALE", type := .int, accessFlags := 25, slot := 9, constantValue := 0 }, { name := "LOG2_BYTE_BIT_SIZE", type := .int, accessFlags := 26, slot := 10, constantValue := 0 }, { name := "T_BOOLEAN", type := .int, accessFlags := 25, slot := 11, constantValue := 0 }, { name := "T_CHAR", type := .int, accessFlags := 25, slot := 12, constantValue := 0 }, { name := "T_FLOAT", type := .int, accessFlags := 25, slot := 13, constantValue := 0 }, { name := "T_DOUBLE", type := .int, accessFlags := 25, slot := 14, constantValue := 0 }, { name := "T_BYTE", type := .int, accessFlags := 25, slot := 15, constantValue := 0 }, { name := "T_SHORT", type := .int, accessFlags := 25, slot := 16, constantValue := 0 }, { name := "T_INT", type := .int, accessFlags := 25, slot := 17, constantValue := 0 }, { name := "T_LONG", type := .int, accessFlags := 25, slot := 18, constantValue := 0 }, { name := "JLA", type := (.object "jdk/internal/access/JavaLangAccess"), accessFlags := 26, slot := 19, constantValue := 0 }, { name := "SOFT_MAX_ARRAY_LENGTH", type := .int, accessFlags := 25, slot := 20, constantValue := 0 }]
  methods := #[k18m0]
  instanceTypes := #[]
  staticTypes := #[(.object "jdk/internal/misc/Unsafe"), .boolean, .int, .int, .int, .int, .int, .int, .int, .int, .int, .int, .int, .int, .int, .int, .int, .int, .int, (.object "jdk/internal/access/JavaLangAccess"), .int]
  resolved := Array.replicate 378 none
  statics := none }

def pool19 : Array CpInfo := pool [(1, u "java/lang/Cloneable"), (0, .class_ 1), (0, u "java/lang/Object"), (0, .class_ 3)] 3

/-- java/lang/Cloneable -/
def k19 : Class := { plain "java/lang/Cloneable" (some 0) with
  accessFlags := 1537
  interfaces := #[]
  cf := some (fileOf pool19 2 #[] #[] 1537 4 #[] #[])
  fields := #[]
  methods := #[]
  instanceTypes := #[]
  staticTypes := #[]
  resolved := Array.replicate 8 none
  statics := none }

/-- the primitive byte -/
def k20 : Class := { plain "byte" none with kind := .primitive 'B', accessFlags := 0x411 }
/-- [B -/
def k21 : Class := { plain "[B" (some 0) with kind := .array 20 .byte, interfaces := #[19, 6], accessFlags := 1041 }

/-- the primitive char -/
def k22 : Class := { plain "char" none with kind := .primitive 'C', accessFlags := 0x411 }
/-- [C -/
def k23 : Class := { plain "[C" (some 0) with kind := .array 22 .char, interfaces := #[19, 6], accessFlags := 1041 }

/-- the primitive int -/
def k24 : Class := { plain "int" none with kind := .primitive 'I', accessFlags := 0x411 }
/-- [I -/
def k25 : Class := { plain "[I" (some 0) with kind := .array 24 .int, interfaces := #[19, 6], accessFlags := 1041 }

def heap : Heap := #[{ cls := 11, slots := #[.long 0, .int 1, .null, .int 0, .null, .int 0, .int 0], vm := .statics 11 },
  { cls := 16, slots := #[.int 0, .int 8, .int 0, .int 1], vm := .statics 16 },
  { cls := 17, slots := #[.null, .null, .null], vm := .statics 17 }]
def classes : Array Class := #[k0, k1, k2, k3, k4, k5, k6, k7, k8, k9, k10, k11, k12, k13, k14, k15, k16, k17, k18, k19, k20, k21, k22, k23, k24, k25]
def interned : List (Array UInt16 × Addr) := []
def slotsUsed : Nat := 14
def theMethod : MethodId := ⟨1, 2⟩
def args0 : Array Value := #[.int 5, .int 5, .int 5, .int 5]
def aboutOver (below : List Frame) : State where
  vm := { classes := classes, interned := interned.toArray }
  heap := heap
  slotsUsed := slotsUsed
  threads := #[{ frames := .invoking theMethod args0 :: below }]
def below0 : List Frame := [.native { method := ⟨0, 0⟩, args := #[] }]
def about1 : State := aboutOver below0
def p0 : Program := .bare "" "" ""
def e0 : Env := launch0.env 0 0 0
theorem w_frames : about1.frames = Frame.invoking theMethod args0 :: below0 := rfl
set_option maxRecDepth 65536 in
theorem w_args : argsFit about1.vm theMethod args0 = true := by decide +kernel
set_option maxRecDepth 65536 in
theorem w_heap : heapFits about1 = true := by decide +kernel
set_option maxRecDepth 65536 in
theorem w_runnable : about1.curStatus? = some .runnable := by decide +kernel
set_option maxRecDepth 65536 in
theorem w_alone : about1.alone = true := by decide +kernel
set_option maxRecDepth 65536 in
theorem w_named : about1.methodNamed? x = some theMethod := by decide +kernel
set_option maxRecDepth 65536 in
theorem w_hears : about1.hears theMethod below0 = true := by decide +kernel
set_option maxRecDepth 65536 in
theorem w_ripe : about1.ripe theMethod args0 below0 = true := by decide +kernel
theorem w_running : about1.status = .running := rfl
set_option maxRecDepth 65536 in
theorem w_room : about1.hasRoom e0.platform room_1 = true :=
  launch0.hasRoom_least _ room_1 (by decide +kernel) (by decide +kernel) (by decide +kernel) (by decide +kernel) (by decide +kernel) (by decide +kernel)
theorem allAtoms_all (ts : List Jvm.Cond) (a : Array Jvm.Value) (st : Jvm.State) : (allAtoms ts).before a st = ts.all (fun c => c.before a st) := by
  induction ts with
  | nil => rfl
  | cons c t ih =>
    show (Jvm.Cond.and c (allAtoms t)).before a st = _
    rw [Jvm.Cond.before_and, ih, List.all_cons]
def words1 : List Jvm.Cond := Jvm.Cond.code x code maxLocals ret :: tables_1
/-- a 'code' word, met by the world's own term for the bytes: nothing is compared byte by byte -/
theorem code_word {y : MethodName} {bytes : ByteArray} {mx : Nat} {rt : Option FieldType} {a : Array Value} {s : State} {m : MethodId} {meth : Method} {c : Code} (h1 : s.methodNamed? y = some m) (h2 : s.vm.method? m = some meth) (h3 : meth.code = some c) (h4 : c.code = bytes)
    (h5 : (c.maxLocals == mx && c.exceptionTable.isEmpty && decide (c.maxStack ≤ mostOperands) && decide (meth.sig.returnType = rt) && !meth.locks && decide (parseMethodDescriptor y.desc = some meth.sig)) = true) : (Jvm.Cond.code y bytes mx rt).before a s = true := by
  simp only [Bool.and_eq_true, beq_iff_eq, Bool.not_eq_true', decide_eq_true_eq] at h5
  obtain ⟨⟨⟨⟨⟨g1, g2⟩, g3⟩, g4⟩, g5⟩, g6⟩ := h5
  simp [Cond.before, Cond.holds, Cond.value, h1, h2, h3, h4, g1, g2, g3, g4, g5, g6]
def isCode : Jvm.Cond → Bool
  | .code _ _ _ _ => true
  | _ => false
theorem all_split {L : List Jvm.Cond} {P : Jvm.Cond → Bool} (h1 : L.all (fun c => isCode c || P c) = true) (h2 : ∀ c ∈ L.filter isCode, P c = true) : L.all P = true := by
  refine List.all_eq_true.mpr fun c hc => ?_
  have h := List.all_eq_true.mp h1 c hc
  rcases Bool.eq_false_or_eq_true (isCode c) with hi | hi
  · exact h2 c (List.mem_filter.mpr ⟨hc, hi⟩)
  · simpa [hi] using h
set_option maxRecDepth 65536 in
theorem w_c0 : (Jvm.Cond.code x code maxLocals ret).before args0 about1 = true := code_word (m := ⟨1, 2⟩) (meth := k1m2) (c := k1c2) (by decide +kernel) rfl rfl rfl (by decide +kernel)
set_option maxRecDepth 65536 in
theorem w_c1 : (Jvm.Cond.code ({ cls := "com/example/suricate/suricate/component/HtmlWriter", name := "<init>", desc := "()V" } : Jvm.MethodName) prog_5_method_1_code (1 : Nat) (Option.none : Option Jvm.ClassFile.FieldType)).before args0 about1 = true := code_word (m := ⟨2, 0⟩) (meth := k2m0) (c := k2c0) (by decide +kernel) rfl rfl rfl (by decide +kernel)
set_option maxRecDepth 65536 in
theorem w_c2 : (Jvm.Cond.code ({ cls := "java/lang/Object", name := "<init>", desc := "()V" } : Jvm.MethodName) object_method_1_code (1 : Nat) (Option.none : Option Jvm.ClassFile.FieldType)).before args0 about1 = true := code_word (m := ⟨0, 0⟩) (meth := k0m0) (c := k0c0) (by decide +kernel) rfl rfl rfl (by decide +kernel)
set_option maxRecDepth 65536 in
theorem w_c3 : (Jvm.Cond.code ({ cls := "java/lang/StringBuilder", name := "<init>", desc := "()V" } : Jvm.MethodName) jdk_67_method_1_code (1 : Nat) (Option.none : Option Jvm.ClassFile.FieldType)).before args0 about1 = true := code_word (m := ⟨8, 0⟩) (meth := k8m0) (c := k8c0) (by decide +kernel) rfl rfl rfl (by decide +kernel)
set_option maxRecDepth 65536 in
theorem w_c4 : (Jvm.Cond.code ({ cls := "java/lang/AbstractStringBuilder", name := "<init>", desc := "(I)V" } : Jvm.MethodName) jdk_68_method_2_code (2 : Nat) (Option.none : Option Jvm.ClassFile.FieldType)).before args0 about1 = true := code_word (m := ⟨5, 1⟩) (meth := k5m1) (c := k5c1) (by decide +kernel) rfl rfl rfl (by decide +kernel)
set_option maxRecDepth 65536 in
theorem w_c5 : (Jvm.Cond.code ({ cls := "com/example/suricate/suricate/component/HtmlWriterCloseStartTagPinLaw", name := "str", desc := "(ICCCZ)Ljava/lang/String;" } : Jvm.MethodName) method_2_code (5 : Nat) (Option.some (Jvm.ClassFile.FieldType.object "java/lang/String"))).before args0 about1 = true := code_word (m := ⟨1, 1⟩) (meth := k1m1) (c := k1c1) (by decide +kernel) rfl rfl rfl (by decide +kernel)
set_option maxRecDepth 65536 in
theorem w_c6 : (Jvm.Cond.code ({ cls := "java/lang/String", name := "<init>", desc := "([C)V" } : Jvm.MethodName) jdk_42_method_3_code (2 : Nat) (Option.none : Option Jvm.ClassFile.FieldType)).before args0 about1 = true := code_word (m := ⟨11, 1⟩) (meth := k11m1) (c := k11c1) (by decide +kernel) rfl rfl rfl (by decide +kernel)
set_option maxRecDepth 65536 in
theorem w_c7 : (Jvm.Cond.code ({ cls := "java/lang/String", name := "<init>", desc := "([CIILjava/lang/Void;)V" } : Jvm.MethodName) jdk_42_method_149_code (6 : Nat) (Option.none : Option Jvm.ClassFile.FieldType)).before args0 about1 = true := code_word (m := ⟨11, 6⟩) (meth := k11m6) (c := k11c6) (by decide +kernel) rfl rfl rfl (by decide +kernel)
set_option maxRecDepth 65536 in
theorem w_c8 : (Jvm.Cond.code ({ cls := "com/example/suricate/suricate/component/HtmlWriter", name := "markup", desc := "(Ljava/lang/CharSequence;)Lcom/example/suricate/suricate/component/HtmlWriter;" } : Jvm.MethodName) prog_5_method_2_code (2 : Nat) (Option.some (Jvm.ClassFile.FieldType.object "com/example/suricate/suricate/component/HtmlWriter"))).before args0 about1 = true := code_word (m := ⟨2, 1⟩) (meth := k2m1) (c := k2c1) (by decide +kernel) rfl rfl rfl (by decide +kernel)
set_option maxRecDepth 65536 in
theorem w_c9 : (Jvm.Cond.code ({ cls := "java/lang/StringBuilder", name := "append", desc := "(Ljava/lang/CharSequence;)Ljava/lang/StringBuilder;" } : Jvm.MethodName) jdk_67_method_9_code (2 : Nat) (Option.some (Jvm.ClassFile.FieldType.object "java/lang/StringBuilder"))).before args0 about1 = true := code_word (m := ⟨8, 2⟩) (meth := k8m2) (c := k8c2) (by decide +kernel) rfl rfl rfl (by decide +kernel)
set_option maxRecDepth 65536 in
theorem w_c10 : (Jvm.Cond.code ({ cls := "java/lang/AbstractStringBuilder", name := "append", desc := "(Ljava/lang/CharSequence;)Ljava/lang/AbstractStringBuilder;" } : Jvm.MethodName) jdk_68_method_25_code (2 : Nat) (Option.some (Jvm.ClassFile.FieldType.object "java/lang/AbstractStringBuilder"))).before args0 about1 = true := code_word (m := ⟨5, 6⟩) (meth := k5m6) (c := k5c6) (by decide +kernel) rfl rfl rfl (by decide +kernel)
set_option maxRecDepth 65536 in
theorem w_c11 : (Jvm.Cond.code ({ cls := "java/lang/StringBuilder", name := "append", desc := "(Ljava/lang/String;)Ljava/lang/AbstractStringBuilder;" } : Jvm.MethodName) jdk_67_method_80_code (2 : Nat) (Option.some (Jvm.ClassFile.FieldType.object "java/lang/AbstractStringBuilder"))).before args0 about1 = true := code_word (m := ⟨8, 5⟩) (meth := k8m5) (c := k8c5) (by decide +kernel) rfl rfl rfl (by decide +kernel)
set_option maxRecDepth 65536 in
theorem w_c12 : (Jvm.Cond.code ({ cls := "java/lang/StringBuilder", name := "append", desc := "(Ljava/lang/String;)Ljava/lang/StringBuilder;" } : Jvm.MethodName) jdk_67_method_7_code (2 : Nat) (Option.some (Jvm.ClassFile.FieldType.object "java/lang/StringBuilder"))).before args0 about1 = true := code_word (m := ⟨8, 1⟩) (meth := k8m1) (c := k8c1) (by decide +kernel) rfl rfl rfl (by decide +kernel)
set_option maxRecDepth 65536 in
theorem w_c13 : (Jvm.Cond.code ({ cls := "java/lang/AbstractStringBuilder", name := "append", desc := "(Ljava/lang/String;)Ljava/lang/AbstractStringBuilder;" } : Jvm.MethodName) jdk_68_method_22_code (3 : Nat) (Option.some (Jvm.ClassFile.FieldType.object "java/lang/AbstractStringBuilder"))).before args0 about1 = true := code_word (m := ⟨5, 5⟩) (meth := k5m5) (c := k5c5) (by decide +kernel) rfl rfl rfl (by decide +kernel)
set_option maxRecDepth 65536 in
theorem w_c14 : (Jvm.Cond.code ({ cls := "java/lang/String", name := "length", desc := "()I" } : Jvm.MethodName) jdk_42_method_54_code (1 : Nat) (Option.some Jvm.ClassFile.FieldType.int)).before args0 about1 = true := code_word (m := ⟨11, 3⟩) (meth := k11m3) (c := k11c3) (by decide +kernel) rfl rfl rfl (by decide +kernel)
set_option maxRecDepth 65536 in
theorem w_c15 : (Jvm.Cond.code ({ cls := "java/lang/String", name := "coder", desc := "()B" } : Jvm.MethodName) jdk_42_method_152_code (1 : Nat) (Option.some Jvm.ClassFile.FieldType.byte)).before args0 about1 = true := code_word (m := ⟨11, 8⟩) (meth := k11m8) (c := k11c8) (by decide +kernel) rfl rfl rfl (by decide +kernel)
set_option maxRecDepth 65536 in
theorem w_c16 : (Jvm.Cond.code ({ cls := "java/lang/AbstractStringBuilder", name := "ensureCapacityInternal", desc := "(I)V" } : Jvm.MethodName) jdk_68_method_9_code (3 : Nat) (Option.none : Option Jvm.ClassFile.FieldType)).before args0 about1 = true := code_word (m := ⟨5, 3⟩) (meth := k5m3) (c := k5c3) (by decide +kernel) rfl rfl rfl (by decide +kernel)
set_option maxRecDepth 65536 in
theorem w_c17 : (Jvm.Cond.code ({ cls := "java/lang/AbstractStringBuilder", name := "putStringAt", desc := "(ILjava/lang/String;)V" } : Jvm.MethodName) jdk_68_method_73_code (3 : Nat) (Option.none : Option Jvm.ClassFile.FieldType)).before args0 about1 = true := code_word (m := ⟨5, 11⟩) (meth := k5m11) (c := k5c11) (by decide +kernel) rfl rfl rfl (by decide +kernel)
set_option maxRecDepth 65536 in
theorem w_c18 : (Jvm.Cond.code ({ cls := "java/lang/AbstractStringBuilder", name := "inflateIfNeededFor", desc := "(Ljava/lang/String;)V" } : Jvm.MethodName) jdk_68_method_71_code (2 : Nat) (Option.none : Option Jvm.ClassFile.FieldType)).before args0 about1 = true := code_word (m := ⟨5, 10⟩) (meth := k5m10) (c := k5c10) (by decide +kernel) rfl rfl rfl (by decide +kernel)
set_option maxRecDepth 65536 in
theorem w_c19 : (Jvm.Cond.code ({ cls := "java/lang/String", name := "getBytes", desc := "([BIB)V" } : Jvm.MethodName) jdk_42_method_147_code (4 : Nat) (Option.none : Option Jvm.ClassFile.FieldType)).before args0 about1 = true := code_word (m := ⟨11, 5⟩) (meth := k11m5) (c := k11c5) (by decide +kernel) rfl rfl rfl (by decide +kernel)
set_option maxRecDepth 65536 in
theorem w_c20 : (Jvm.Cond.code ({ cls := "com/example/suricate/suricate/component/HtmlWriter", name := "isEmpty", desc := "()Z" } : Jvm.MethodName) prog_5_method_9_code (1 : Nat) (Option.some Jvm.ClassFile.FieldType.boolean)).before args0 about1 = true := code_word (m := ⟨2, 3⟩) (meth := k2m3) (c := k2c3) (by decide +kernel) rfl rfl rfl (by decide +kernel)
set_option maxRecDepth 65536 in
theorem w_c21 : (Jvm.Cond.code ({ cls := "java/lang/StringBuilder", name := "length", desc := "()I" } : Jvm.MethodName) jdk_67_method_93_code (1 : Nat) (Option.some Jvm.ClassFile.FieldType.int)).before args0 about1 = true := code_word (m := ⟨8, 6⟩) (meth := k8m6) (c := k8c6) (by decide +kernel) rfl rfl rfl (by decide +kernel)
set_option maxRecDepth 65536 in
theorem w_c22 : (Jvm.Cond.code ({ cls := "java/lang/AbstractStringBuilder", name := "length", desc := "()I" } : Jvm.MethodName) jdk_68_method_6_code (1 : Nat) (Option.some Jvm.ClassFile.FieldType.int)).before args0 about1 = true := code_word (m := ⟨5, 2⟩) (meth := k5m2) (c := k5c2) (by decide +kernel) rfl rfl rfl (by decide +kernel)
set_option maxRecDepth 65536 in
theorem w_c23 : (Jvm.Cond.code ({ cls := "com/example/suricate/suricate/component/HtmlWriter", name := "closeStartTag", desc := "()Lcom/example/suricate/suricate/component/HtmlWriter;" } : Jvm.MethodName) prog_5_method_7_code (1 : Nat) (Option.some (Jvm.ClassFile.FieldType.object "com/example/suricate/suricate/component/HtmlWriter"))).before args0 about1 = true := code_word (m := ⟨2, 2⟩) (meth := k2m2) (c := k2c2) (by decide +kernel) rfl rfl rfl (by decide +kernel)
set_option maxRecDepth 65536 in
theorem w_c24 : (Jvm.Cond.code ({ cls := "java/lang/StringBuilder", name := "append", desc := "(C)Ljava/lang/StringBuilder;" } : Jvm.MethodName) jdk_67_method_14_code (2 : Nat) (Option.some (Jvm.ClassFile.FieldType.object "java/lang/StringBuilder"))).before args0 about1 = true := code_word (m := ⟨8, 3⟩) (meth := k8m3) (c := k8c3) (by decide +kernel) rfl rfl rfl (by decide +kernel)
set_option maxRecDepth 65536 in
theorem w_c25 : (Jvm.Cond.code ({ cls := "java/lang/AbstractStringBuilder", name := "append", desc := "(C)Ljava/lang/AbstractStringBuilder;" } : Jvm.MethodName) jdk_68_method_31_code (2 : Nat) (Option.some (Jvm.ClassFile.FieldType.object "java/lang/AbstractStringBuilder"))).before args0 about1 = true := code_word (m := ⟨5, 7⟩) (meth := k5m7) (c := k5c7) (by decide +kernel) rfl rfl rfl (by decide +kernel)
set_option maxRecDepth 65536 in
theorem w_c26 : (Jvm.Cond.code ({ cls := "java/lang/AbstractStringBuilder", name := "isLatin1", desc := "()Z" } : Jvm.MethodName) jdk_68_method_68_code (1 : Nat) (Option.some Jvm.ClassFile.FieldType.boolean)).before args0 about1 = true := code_word (m := ⟨5, 9⟩) (meth := k5m9) (c := k5c9) (by decide +kernel) rfl rfl rfl (by decide +kernel)
set_option maxRecDepth 65536 in
theorem w_c27 : (Jvm.Cond.code ({ cls := "java/lang/StringLatin1", name := "canEncode", desc := "(C)Z" } : Jvm.MethodName) jdk_43_method_3_code (1 : Nat) (Option.some Jvm.ClassFile.FieldType.boolean)).before args0 about1 = true := code_word (m := ⟨13, 1⟩) (meth := k13m1) (c := k13c1) (by decide +kernel) rfl rfl rfl (by decide +kernel)
set_option maxRecDepth 65536 in
theorem w_c28 : (Jvm.Cond.code ({ cls := "com/example/suricate/suricate/component/HtmlWriter", name := "toString", desc := "()Ljava/lang/String;" } : Jvm.MethodName) prog_5_method_10_code (1 : Nat) (Option.some (Jvm.ClassFile.FieldType.object "java/lang/String"))).before args0 about1 = true := code_word (m := ⟨2, 4⟩) (meth := k2m4) (c := k2c4) (by decide +kernel) rfl rfl rfl (by decide +kernel)
set_option maxRecDepth 65536 in
theorem w_c29 : (Jvm.Cond.code ({ cls := "java/lang/StringBuilder", name := "toString", desc := "()Ljava/lang/String;" } : Jvm.MethodName) jdk_67_method_42_code (1 : Nat) (Option.some (Jvm.ClassFile.FieldType.object "java/lang/String"))).before args0 about1 = true := code_word (m := ⟨8, 4⟩) (meth := k8m4) (c := k8c4) (by decide +kernel) rfl rfl rfl (by decide +kernel)
set_option maxRecDepth 65536 in
theorem w_c30 : (Jvm.Cond.code ({ cls := "java/lang/String", name := "<init>", desc := "(Ljava/lang/StringBuilder;)V" } : Jvm.MethodName) jdk_42_method_53_code (2 : Nat) (Option.none : Option Jvm.ClassFile.FieldType)).before args0 about1 = true := code_word (m := ⟨11, 2⟩) (meth := k11m2) (c := k11c2) (by decide +kernel) rfl rfl rfl (by decide +kernel)
set_option maxRecDepth 65536 in
theorem w_c31 : (Jvm.Cond.code ({ cls := "java/lang/String", name := "<init>", desc := "(Ljava/lang/AbstractStringBuilder;Ljava/lang/Void;)V" } : Jvm.MethodName) jdk_42_method_150_code (5 : Nat) (Option.none : Option Jvm.ClassFile.FieldType)).before args0 about1 = true := code_word (m := ⟨11, 7⟩) (meth := k11m7) (c := k11c7) (by decide +kernel) rfl rfl rfl (by decide +kernel)
set_option maxRecDepth 65536 in
theorem w_c32 : (Jvm.Cond.code ({ cls := "java/lang/AbstractStringBuilder", name := "getValue", desc := "()[B" } : Jvm.MethodName) jdk_68_method_64_code (1 : Nat) (Option.some (Jvm.ClassFile.FieldType.array Jvm.ClassFile.FieldType.byte))).before args0 about1 = true := code_word (m := ⟨5, 8⟩) (meth := k5m8) (c := k5c8) (by decide +kernel) rfl rfl rfl (by decide +kernel)
set_option maxRecDepth 65536 in
theorem w_c33 : (Jvm.Cond.code ({ cls := "java/util/Arrays", name := "copyOfRange", desc := "([BII)[B" } : Jvm.MethodName) jdk_65_method_132_code (3 : Nat) (Option.some (Jvm.ClassFile.FieldType.array Jvm.ClassFile.FieldType.byte))).before args0 about1 = true := code_word (m := ⟨14, 2⟩) (meth := k14m2) (c := k14c2) (by decide +kernel) rfl rfl rfl (by decide +kernel)
set_option maxRecDepth 65536 in
theorem w_c34 : (Jvm.Cond.code ({ cls := "java/util/Arrays", name := "copyOfRangeByte", desc := "([BII)[B" } : Jvm.MethodName) jdk_65_method_133_code (5 : Nat) (Option.some (Jvm.ClassFile.FieldType.array Jvm.ClassFile.FieldType.byte))).before args0 about1 = true := code_word (m := ⟨14, 3⟩) (meth := k14m3) (c := k14c3) (by decide +kernel) rfl rfl rfl (by decide +kernel)
set_option maxRecDepth 65536 in
theorem w_c35 : (Jvm.Cond.code ({ cls := "java/util/Arrays", name := "checkLength", desc := "(II)V" } : Jvm.MethodName) jdk_65_method_131_code (2 : Nat) (Option.none : Option Jvm.ClassFile.FieldType)).before args0 about1 = true := code_word (m := ⟨14, 1⟩) (meth := k14m1) (c := k14c1) (by decide +kernel) rfl rfl rfl (by decide +kernel)
set_option maxRecDepth 65536 in
theorem w_c36 : (Jvm.Cond.code ({ cls := "java/lang/Math", name := "min", desc := "(II)I" } : Jvm.MethodName) jdk_29_method_69_code (2 : Nat) (Option.some Jvm.ClassFile.FieldType.int)).before args0 about1 = true := code_word (m := ⟨15, 1⟩) (meth := k15m1) (c := k15c1) (by decide +kernel) rfl rfl rfl (by decide +kernel)
set_option maxRecDepth 65536 in
theorem w_c37 : (Jvm.Cond.code ({ cls := "java/lang/StringUTF16", name := "compress", desc := "([CII)[B" } : Jvm.MethodName) jdk_52_method_16_code (6 : Nat) (Option.some (Jvm.ClassFile.FieldType.array Jvm.ClassFile.FieldType.byte))).before args0 about1 = true := code_word (m := ⟨16, 8⟩) (meth := k16m8) (c := k16c8) (by decide +kernel) rfl rfl rfl (by decide +kernel)
set_option maxRecDepth 65536 in
theorem w_c38 : (Jvm.Cond.code ({ cls := "java/lang/StringUTF16", name := "compress", desc := "([CI[BII)I" } : Jvm.MethodName) jdk_52_method_21_code (7 : Nat) (Option.some Jvm.ClassFile.FieldType.int)).before args0 about1 = true := code_word (m := ⟨16, 9⟩) (meth := k16m9) (c := k16c9) (by decide +kernel) rfl rfl rfl (by decide +kernel)
set_option maxRecDepth 65536 in
theorem w_c39 : (Jvm.Cond.code ({ cls := "java/lang/StringUTF16", name := "coderFromArrayLen", desc := "([BI)B" } : Jvm.MethodName) jdk_52_method_15_code (2 : Nat) (Option.some Jvm.ClassFile.FieldType.byte)).before args0 about1 = true := code_word (m := ⟨16, 7⟩) (meth := k16m7) (c := k16c7) (by decide +kernel) rfl rfl rfl (by decide +kernel)
set_option maxRecDepth 65536 in
theorem w_c40 : (Jvm.Cond.code ({ cls := "java/lang/String", name := "equals", desc := "(Ljava/lang/Object;)Z" } : Jvm.MethodName) jdk_42_method_66_code (3 : Nat) (Option.some Jvm.ClassFile.FieldType.boolean)).before args0 about1 = true := code_word (m := ⟨11, 4⟩) (meth := k11m4) (c := k11c4) (by decide +kernel) rfl rfl rfl (by decide +kernel)
set_option maxRecDepth 65536 in
theorem w_c41 : (Jvm.Cond.code ({ cls := "java/lang/StringLatin1", name := "equals", desc := "([B[B)Z" } : Jvm.MethodName) jdk_43_method_13_code (3 : Nat) (Option.some Jvm.ClassFile.FieldType.boolean)).before args0 about1 = true := code_word (m := ⟨13, 2⟩) (meth := k13m2) (c := k13c2) (by decide +kernel) rfl rfl rfl (by decide +kernel)
set_option maxRecDepth 65536 in
theorem w_c42 : (Jvm.Cond.code ({ cls := "java/lang/StringUTF16", name := "toBytes", desc := "([CII)[B" } : Jvm.MethodName) jdk_52_method_14_code (5 : Nat) (Option.some (Jvm.ClassFile.FieldType.array Jvm.ClassFile.FieldType.byte))).before args0 about1 = true := code_word (m := ⟨16, 6⟩) (meth := k16m6) (c := k16c6) (by decide +kernel) rfl rfl rfl (by decide +kernel)
set_option maxRecDepth 65536 in
theorem w_c43 : (Jvm.Cond.code ({ cls := "java/lang/StringUTF16", name := "newBytesFor", desc := "(I)[B" } : Jvm.MethodName) jdk_52_method_2_code (1 : Nat) (Option.some (Jvm.ClassFile.FieldType.array Jvm.ClassFile.FieldType.byte))).before args0 about1 = true := code_word (m := ⟨16, 1⟩) (meth := k16m1) (c := k16c1) (by decide +kernel) rfl rfl rfl (by decide +kernel)
set_option maxRecDepth 65536 in
theorem w_c44 : (Jvm.Cond.code ({ cls := "java/lang/StringUTF16", name := "newBytesLength", desc := "(I)I" } : Jvm.MethodName) jdk_52_method_3_code (1 : Nat) (Option.some Jvm.ClassFile.FieldType.int)).before args0 about1 = true := code_word (m := ⟨16, 2⟩) (meth := k16m2) (c := k16c2) (by decide +kernel) rfl rfl rfl (by decide +kernel)
set_option maxRecDepth 65536 in
theorem w_c45 : (Jvm.Cond.code ({ cls := "java/lang/StringUTF16", name := "putChar", desc := "([BII)V" } : Jvm.MethodName) jdk_52_method_4_code (3 : Nat) (Option.none : Option Jvm.ClassFile.FieldType)).before args0 about1 = true := code_word (m := ⟨16, 3⟩) (meth := k16m3) (c := k16c3) (by decide +kernel) rfl rfl rfl (by decide +kernel)
set_option maxRecDepth 65536 in
theorem w_c46 : (Jvm.Cond.code ({ cls := "java/lang/StringUTF16", name := "getChar", desc := "([BI)C" } : Jvm.MethodName) jdk_52_method_5_code (2 : Nat) (Option.some Jvm.ClassFile.FieldType.char)).before args0 about1 = true := code_word (m := ⟨16, 4⟩) (meth := k16m4) (c := k16c4) (by decide +kernel) rfl rfl rfl (by decide +kernel)
set_option maxRecDepth 65536 in
theorem w_c47 : (Jvm.Cond.code ({ cls := "java/lang/AbstractStringBuilder", name := "inflate", desc := "()V" } : Jvm.MethodName) jdk_68_method_11_code (2 : Nat) (Option.none : Option Jvm.ClassFile.FieldType)).before args0 about1 = true := code_word (m := ⟨5, 4⟩) (meth := k5m4) (c := k5c4) (by decide +kernel) rfl rfl rfl (by decide +kernel)
set_option maxRecDepth 65536 in
theorem w_c48 : (Jvm.Cond.code ({ cls := "java/lang/StringLatin1", name := "inflate", desc := "([BI[BII)V" } : Jvm.MethodName) jdk_43_method_50_code (5 : Nat) (Option.none : Option Jvm.ClassFile.FieldType)).before args0 about1 = true := code_word (m := ⟨13, 3⟩) (meth := k13m3) (c := k13c3) (by decide +kernel) rfl rfl rfl (by decide +kernel)
set_option maxRecDepth 65536 in
theorem w_c49 : (Jvm.Cond.code ({ cls := "java/lang/StringUTF16", name := "inflate", desc := "([BI[BII)V" } : Jvm.MethodName) jdk_52_method_86_code (6 : Nat) (Option.none : Option Jvm.ClassFile.FieldType)).before args0 about1 = true := code_word (m := ⟨16, 11⟩) (meth := k16m11) (c := k16c11) (by decide +kernel) rfl rfl rfl (by decide +kernel)
set_option maxRecDepth 65536 in
theorem w_c50 : (Jvm.Cond.code ({ cls := "java/lang/StringUTF16", name := "checkBoundsOffCount", desc := "(II[B)V" } : Jvm.MethodName) jdk_52_method_94_code (3 : Nat) (Option.none : Option Jvm.ClassFile.FieldType)).before args0 about1 = true := code_word (m := ⟨16, 13⟩) (meth := k16m13) (c := k16c13) (by decide +kernel) rfl rfl rfl (by decide +kernel)
set_option maxRecDepth 65536 in
theorem w_c51 : (Jvm.Cond.code ({ cls := "java/lang/StringUTF16", name := "length", desc := "([B)I" } : Jvm.MethodName) jdk_52_method_6_code (1 : Nat) (Option.some Jvm.ClassFile.FieldType.int)).before args0 about1 = true := code_word (m := ⟨16, 5⟩) (meth := k16m5) (c := k16c5) (by decide +kernel) rfl rfl rfl (by decide +kernel)
set_option maxRecDepth 65536 in
theorem w_c52 : (Jvm.Cond.code ({ cls := "java/lang/String", name := "checkBoundsOffCount", desc := "(III)I" } : Jvm.MethodName) jdk_42_method_157_code (3 : Nat) (Option.some Jvm.ClassFile.FieldType.int)).before args0 about1 = true := code_word (m := ⟨11, 10⟩) (meth := k11m10) (c := k11c10) (by decide +kernel) rfl rfl rfl (by decide +kernel)
set_option maxRecDepth 65536 in
theorem w_c53 : (Jvm.Cond.code ({ cls := "jdk/internal/util/Preconditions", name := "checkFromIndexSize", desc := "(IIILjava/util/function/BiFunction;)I" } : Jvm.MethodName) jdk_41_method_13_code (4 : Nat) (Option.some Jvm.ClassFile.FieldType.int)).before args0 about1 = true := code_word (m := ⟨17, 2⟩) (meth := k17m2) (c := k17c2) (by decide +kernel) rfl rfl rfl (by decide +kernel)
set_option maxRecDepth 65536 in
theorem w_c54 : (Jvm.Cond.code ({ cls := "java/lang/StringUTF16", name := "putCharSB", desc := "([BII)V" } : Jvm.MethodName) jdk_52_method_71_code (3 : Nat) (Option.none : Option Jvm.ClassFile.FieldType)).before args0 about1 = true := code_word (m := ⟨16, 10⟩) (meth := k16m10) (c := k16c10) (by decide +kernel) rfl rfl rfl (by decide +kernel)
set_option maxRecDepth 65536 in
theorem w_c55 : (Jvm.Cond.code ({ cls := "java/lang/StringUTF16", name := "checkIndex", desc := "(I[B)V" } : Jvm.MethodName) jdk_52_method_91_code (2 : Nat) (Option.none : Option Jvm.ClassFile.FieldType)).before args0 about1 = true := code_word (m := ⟨16, 12⟩) (meth := k16m12) (c := k16c12) (by decide +kernel) rfl rfl rfl (by decide +kernel)
set_option maxRecDepth 65536 in
theorem w_c56 : (Jvm.Cond.code ({ cls := "java/lang/String", name := "checkIndex", desc := "(II)V" } : Jvm.MethodName) jdk_42_method_155_code (2 : Nat) (Option.none : Option Jvm.ClassFile.FieldType)).before args0 about1 = true := code_word (m := ⟨11, 9⟩) (meth := k11m9) (c := k11c9) (by decide +kernel) rfl rfl rfl (by decide +kernel)
set_option maxRecDepth 65536 in
theorem w_c57 : (Jvm.Cond.code ({ cls := "jdk/internal/util/Preconditions", name := "checkIndex", desc := "(IILjava/util/function/BiFunction;)I" } : Jvm.MethodName) jdk_41_method_11_code (3 : Nat) (Option.some Jvm.ClassFile.FieldType.int)).before args0 about1 = true := code_word (m := ⟨17, 1⟩) (meth := k17m1) (c := k17c1) (by decide +kernel) rfl rfl rfl (by decide +kernel)
def codes1 : List Jvm.Cond := [Jvm.Cond.code x code maxLocals ret, Jvm.Cond.code ({ cls := "com/example/suricate/suricate/component/HtmlWriter", name := "<init>", desc := "()V" } : Jvm.MethodName) prog_5_method_1_code (1 : Nat) (Option.none : Option Jvm.ClassFile.FieldType), Jvm.Cond.code ({ cls := "java/lang/Object", name := "<init>", desc := "()V" } : Jvm.MethodName) object_method_1_code (1 : Nat) (Option.none : Option Jvm.ClassFile.FieldType), Jvm.Cond.code ({ cls := "java/lang/StringBuilder", name := "<init>", desc := "()V" } : Jvm.MethodName) jdk_67_method_1_code (1 : Nat) (Option.none : Option Jvm.ClassFile.FieldType), Jvm.Cond.code ({ cls := "java/lang/AbstractStringBuilder", name := "<init>", desc := "(I)V" } : Jvm.MethodName) jdk_68_method_2_code (2 : Nat) (Option.none : Option Jvm.ClassFile.FieldType), Jvm.Cond.code ({ cls := "com/example/suricate/suricate/component/HtmlWriterCloseStartTagPinLaw", name := "str", desc := "(ICCCZ)Ljava/lang/String;" } : Jvm.MethodName) method_2_code (5 : Nat) (Option.some (Jvm.ClassFile.FieldType.object "java/lang/String")), Jvm.Cond.code ({ cls := "java/lang/String", name := "<init>", desc := "([C)V" } : Jvm.MethodName) jdk_42_method_3_code (2 : Nat) (Option.none : Option Jvm.ClassFile.FieldType), Jvm.Cond.code ({ cls := "java/lang/String", name := "<init>", desc := "([CIILjava/lang/Void;)V" } : Jvm.MethodName) jdk_42_method_149_code (6 : Nat) (Option.none : Option Jvm.ClassFile.FieldType), Jvm.Cond.code ({ cls := "com/example/suricate/suricate/component/HtmlWriter", name := "markup", desc := "(Ljava/lang/CharSequence;)Lcom/example/suricate/suricate/component/HtmlWriter;" } : Jvm.MethodName) prog_5_method_2_code (2 : Nat) (Option.some (Jvm.ClassFile.FieldType.object "com/example/suricate/suricate/component/HtmlWriter")), Jvm.Cond.code ({ cls := "java/lang/StringBuilder", name := "append", desc := "(Ljava/lang/CharSequence;)Ljava/lang/StringBuilder;" } : Jvm.MethodName) jdk_67_method_9_code (2 : Nat) (Option.some (Jvm.ClassFile.FieldType.object "java/lang/StringBuilder")), Jvm.Cond.code ({ cls := "java/lang/AbstractStringBuilder", name := "append", desc := "(Ljava/lang/CharSequence;)Ljava/lang/AbstractStringBuilder;" } : Jvm.MethodName) jdk_68_method_25_code (2 : Nat) (Option.some (Jvm.ClassFile.FieldType.object "java/lang/AbstractStringBuilder")), Jvm.Cond.code ({ cls := "java/lang/StringBuilder", name := "append", desc := "(Ljava/lang/String;)Ljava/lang/AbstractStringBuilder;" } : Jvm.MethodName) jdk_67_method_80_code (2 : Nat) (Option.some (Jvm.ClassFile.FieldType.object "java/lang/AbstractStringBuilder")), Jvm.Cond.code ({ cls := "java/lang/StringBuilder", name := "append", desc := "(Ljava/lang/String;)Ljava/lang/StringBuilder;" } : Jvm.MethodName) jdk_67_method_7_code (2 : Nat) (Option.some (Jvm.ClassFile.FieldType.object "java/lang/StringBuilder")), Jvm.Cond.code ({ cls := "java/lang/AbstractStringBuilder", name := "append", desc := "(Ljava/lang/String;)Ljava/lang/AbstractStringBuilder;" } : Jvm.MethodName) jdk_68_method_22_code (3 : Nat) (Option.some (Jvm.ClassFile.FieldType.object "java/lang/AbstractStringBuilder")), Jvm.Cond.code ({ cls := "java/lang/String", name := "length", desc := "()I" } : Jvm.MethodName) jdk_42_method_54_code (1 : Nat) (Option.some Jvm.ClassFile.FieldType.int), Jvm.Cond.code ({ cls := "java/lang/String", name := "coder", desc := "()B" } : Jvm.MethodName) jdk_42_method_152_code (1 : Nat) (Option.some Jvm.ClassFile.FieldType.byte), Jvm.Cond.code ({ cls := "java/lang/AbstractStringBuilder", name := "ensureCapacityInternal", desc := "(I)V" } : Jvm.MethodName) jdk_68_method_9_code (3 : Nat) (Option.none : Option Jvm.ClassFile.FieldType), Jvm.Cond.code ({ cls := "java/lang/AbstractStringBuilder", name := "putStringAt", desc := "(ILjava/lang/String;)V" } : Jvm.MethodName) jdk_68_method_73_code (3 : Nat) (Option.none : Option Jvm.ClassFile.FieldType), Jvm.Cond.code ({ cls := "java/lang/AbstractStringBuilder", name := "inflateIfNeededFor", desc := "(Ljava/lang/String;)V" } : Jvm.MethodName) jdk_68_method_71_code (2 : Nat) (Option.none : Option Jvm.ClassFile.FieldType), Jvm.Cond.code ({ cls := "java/lang/String", name := "getBytes", desc := "([BIB)V" } : Jvm.MethodName) jdk_42_method_147_code (4 : Nat) (Option.none : Option Jvm.ClassFile.FieldType), Jvm.Cond.code ({ cls := "com/example/suricate/suricate/component/HtmlWriter", name := "isEmpty", desc := "()Z" } : Jvm.MethodName) prog_5_method_9_code (1 : Nat) (Option.some Jvm.ClassFile.FieldType.boolean), Jvm.Cond.code ({ cls := "java/lang/StringBuilder", name := "length", desc := "()I" } : Jvm.MethodName) jdk_67_method_93_code (1 : Nat) (Option.some Jvm.ClassFile.FieldType.int), Jvm.Cond.code ({ cls := "java/lang/AbstractStringBuilder", name := "length", desc := "()I" } : Jvm.MethodName) jdk_68_method_6_code (1 : Nat) (Option.some Jvm.ClassFile.FieldType.int), Jvm.Cond.code ({ cls := "com/example/suricate/suricate/component/HtmlWriter", name := "closeStartTag", desc := "()Lcom/example/suricate/suricate/component/HtmlWriter;" } : Jvm.MethodName) prog_5_method_7_code (1 : Nat) (Option.some (Jvm.ClassFile.FieldType.object "com/example/suricate/suricate/component/HtmlWriter")), Jvm.Cond.code ({ cls := "java/lang/StringBuilder", name := "append", desc := "(C)Ljava/lang/StringBuilder;" } : Jvm.MethodName) jdk_67_method_14_code (2 : Nat) (Option.some (Jvm.ClassFile.FieldType.object "java/lang/StringBuilder")), Jvm.Cond.code ({ cls := "java/lang/AbstractStringBuilder", name := "append", desc := "(C)Ljava/lang/AbstractStringBuilder;" } : Jvm.MethodName) jdk_68_method_31_code (2 : Nat) (Option.some (Jvm.ClassFile.FieldType.object "java/lang/AbstractStringBuilder")), Jvm.Cond.code ({ cls := "java/lang/AbstractStringBuilder", name := "isLatin1", desc := "()Z" } : Jvm.MethodName) jdk_68_method_68_code (1 : Nat) (Option.some Jvm.ClassFile.FieldType.boolean), Jvm.Cond.code ({ cls := "java/lang/StringLatin1", name := "canEncode", desc := "(C)Z" } : Jvm.MethodName) jdk_43_method_3_code (1 : Nat) (Option.some Jvm.ClassFile.FieldType.boolean), Jvm.Cond.code ({ cls := "com/example/suricate/suricate/component/HtmlWriter", name := "toString", desc := "()Ljava/lang/String;" } : Jvm.MethodName) prog_5_method_10_code (1 : Nat) (Option.some (Jvm.ClassFile.FieldType.object "java/lang/String")), Jvm.Cond.code ({ cls := "java/lang/StringBuilder", name := "toString", desc := "()Ljava/lang/String;" } : Jvm.MethodName) jdk_67_method_42_code (1 : Nat) (Option.some (Jvm.ClassFile.FieldType.object "java/lang/String")), Jvm.Cond.code ({ cls := "java/lang/String", name := "<init>", desc := "(Ljava/lang/StringBuilder;)V" } : Jvm.MethodName) jdk_42_method_53_code (2 : Nat) (Option.none : Option Jvm.ClassFile.FieldType), Jvm.Cond.code ({ cls := "java/lang/String", name := "<init>", desc := "(Ljava/lang/AbstractStringBuilder;Ljava/lang/Void;)V" } : Jvm.MethodName) jdk_42_method_150_code (5 : Nat) (Option.none : Option Jvm.ClassFile.FieldType), Jvm.Cond.code ({ cls := "java/lang/AbstractStringBuilder", name := "getValue", desc := "()[B" } : Jvm.MethodName) jdk_68_method_64_code (1 : Nat) (Option.some (Jvm.ClassFile.FieldType.array Jvm.ClassFile.FieldType.byte)), Jvm.Cond.code ({ cls := "java/util/Arrays", name := "copyOfRange", desc := "([BII)[B" } : Jvm.MethodName) jdk_65_method_132_code (3 : Nat) (Option.some (Jvm.ClassFile.FieldType.array Jvm.ClassFile.FieldType.byte)), Jvm.Cond.code ({ cls := "java/util/Arrays", name := "copyOfRangeByte", desc := "([BII)[B" } : Jvm.MethodName) jdk_65_method_133_code (5 : Nat) (Option.some (Jvm.ClassFile.FieldType.array Jvm.ClassFile.FieldType.byte)), Jvm.Cond.code ({ cls := "java/util/Arrays", name := "checkLength", desc := "(II)V" } : Jvm.MethodName) jdk_65_method_131_code (2 : Nat) (Option.none : Option Jvm.ClassFile.FieldType), Jvm.Cond.code ({ cls := "java/lang/Math", name := "min", desc := "(II)I" } : Jvm.MethodName) jdk_29_method_69_code (2 : Nat) (Option.some Jvm.ClassFile.FieldType.int), Jvm.Cond.code ({ cls := "java/lang/StringUTF16", name := "compress", desc := "([CII)[B" } : Jvm.MethodName) jdk_52_method_16_code (6 : Nat) (Option.some (Jvm.ClassFile.FieldType.array Jvm.ClassFile.FieldType.byte)), Jvm.Cond.code ({ cls := "java/lang/StringUTF16", name := "compress", desc := "([CI[BII)I" } : Jvm.MethodName) jdk_52_method_21_code (7 : Nat) (Option.some Jvm.ClassFile.FieldType.int), Jvm.Cond.code ({ cls := "java/lang/StringUTF16", name := "coderFromArrayLen", desc := "([BI)B" } : Jvm.MethodName) jdk_52_method_15_code (2 : Nat) (Option.some Jvm.ClassFile.FieldType.byte), Jvm.Cond.code ({ cls := "java/lang/String", name := "equals", desc := "(Ljava/lang/Object;)Z" } : Jvm.MethodName) jdk_42_method_66_code (3 : Nat) (Option.some Jvm.ClassFile.FieldType.boolean), Jvm.Cond.code ({ cls := "java/lang/StringLatin1", name := "equals", desc := "([B[B)Z" } : Jvm.MethodName) jdk_43_method_13_code (3 : Nat) (Option.some Jvm.ClassFile.FieldType.boolean), Jvm.Cond.code ({ cls := "java/lang/StringUTF16", name := "toBytes", desc := "([CII)[B" } : Jvm.MethodName) jdk_52_method_14_code (5 : Nat) (Option.some (Jvm.ClassFile.FieldType.array Jvm.ClassFile.FieldType.byte)), Jvm.Cond.code ({ cls := "java/lang/StringUTF16", name := "newBytesFor", desc := "(I)[B" } : Jvm.MethodName) jdk_52_method_2_code (1 : Nat) (Option.some (Jvm.ClassFile.FieldType.array Jvm.ClassFile.FieldType.byte)), Jvm.Cond.code ({ cls := "java/lang/StringUTF16", name := "newBytesLength", desc := "(I)I" } : Jvm.MethodName) jdk_52_method_3_code (1 : Nat) (Option.some Jvm.ClassFile.FieldType.int), Jvm.Cond.code ({ cls := "java/lang/StringUTF16", name := "putChar", desc := "([BII)V" } : Jvm.MethodName) jdk_52_method_4_code (3 : Nat) (Option.none : Option Jvm.ClassFile.FieldType), Jvm.Cond.code ({ cls := "java/lang/StringUTF16", name := "getChar", desc := "([BI)C" } : Jvm.MethodName) jdk_52_method_5_code (2 : Nat) (Option.some Jvm.ClassFile.FieldType.char), Jvm.Cond.code ({ cls := "java/lang/AbstractStringBuilder", name := "inflate", desc := "()V" } : Jvm.MethodName) jdk_68_method_11_code (2 : Nat) (Option.none : Option Jvm.ClassFile.FieldType), Jvm.Cond.code ({ cls := "java/lang/StringLatin1", name := "inflate", desc := "([BI[BII)V" } : Jvm.MethodName) jdk_43_method_50_code (5 : Nat) (Option.none : Option Jvm.ClassFile.FieldType), Jvm.Cond.code ({ cls := "java/lang/StringUTF16", name := "inflate", desc := "([BI[BII)V" } : Jvm.MethodName) jdk_52_method_86_code (6 : Nat) (Option.none : Option Jvm.ClassFile.FieldType), Jvm.Cond.code ({ cls := "java/lang/StringUTF16", name := "checkBoundsOffCount", desc := "(II[B)V" } : Jvm.MethodName) jdk_52_method_94_code (3 : Nat) (Option.none : Option Jvm.ClassFile.FieldType), Jvm.Cond.code ({ cls := "java/lang/StringUTF16", name := "length", desc := "([B)I" } : Jvm.MethodName) jdk_52_method_6_code (1 : Nat) (Option.some Jvm.ClassFile.FieldType.int), Jvm.Cond.code ({ cls := "java/lang/String", name := "checkBoundsOffCount", desc := "(III)I" } : Jvm.MethodName) jdk_42_method_157_code (3 : Nat) (Option.some Jvm.ClassFile.FieldType.int), Jvm.Cond.code ({ cls := "jdk/internal/util/Preconditions", name := "checkFromIndexSize", desc := "(IIILjava/util/function/BiFunction;)I" } : Jvm.MethodName) jdk_41_method_13_code (4 : Nat) (Option.some Jvm.ClassFile.FieldType.int), Jvm.Cond.code ({ cls := "java/lang/StringUTF16", name := "putCharSB", desc := "([BII)V" } : Jvm.MethodName) jdk_52_method_71_code (3 : Nat) (Option.none : Option Jvm.ClassFile.FieldType), Jvm.Cond.code ({ cls := "java/lang/StringUTF16", name := "checkIndex", desc := "(I[B)V" } : Jvm.MethodName) jdk_52_method_91_code (2 : Nat) (Option.none : Option Jvm.ClassFile.FieldType), Jvm.Cond.code ({ cls := "java/lang/String", name := "checkIndex", desc := "(II)V" } : Jvm.MethodName) jdk_42_method_155_code (2 : Nat) (Option.none : Option Jvm.ClassFile.FieldType), Jvm.Cond.code ({ cls := "jdk/internal/util/Preconditions", name := "checkIndex", desc := "(IILjava/util/function/BiFunction;)I" } : Jvm.MethodName) jdk_41_method_11_code (3 : Nat) (Option.some Jvm.ClassFile.FieldType.int)]
set_option maxRecDepth 65536 in
theorem codes_eq : words1.filter isCode = codes1 := rfl
theorem w_codes : ∀ c ∈ words1.filter isCode, c.before args0 about1 = true := by
  rw [codes_eq]
  intro c hc
  simp only [codes1, List.mem_cons, List.not_mem_nil, or_false] at hc
  rcases hc with rfl | rfl | rfl | rfl | rfl | rfl | rfl | rfl | rfl | rfl | rfl | rfl | rfl | rfl | rfl | rfl | rfl | rfl | rfl | rfl | rfl | rfl | rfl | rfl | rfl | rfl | rfl | rfl | rfl | rfl | rfl | rfl | rfl | rfl | rfl | rfl | rfl | rfl | rfl | rfl | rfl | rfl | rfl | rfl | rfl | rfl | rfl | rfl | rfl | rfl | rfl | rfl | rfl | rfl | rfl | rfl | rfl | rfl
  · exact w_c0
  · exact w_c1
  · exact w_c2
  · exact w_c3
  · exact w_c4
  · exact w_c5
  · exact w_c6
  · exact w_c7
  · exact w_c8
  · exact w_c9
  · exact w_c10
  · exact w_c11
  · exact w_c12
  · exact w_c13
  · exact w_c14
  · exact w_c15
  · exact w_c16
  · exact w_c17
  · exact w_c18
  · exact w_c19
  · exact w_c20
  · exact w_c21
  · exact w_c22
  · exact w_c23
  · exact w_c24
  · exact w_c25
  · exact w_c26
  · exact w_c27
  · exact w_c28
  · exact w_c29
  · exact w_c30
  · exact w_c31
  · exact w_c32
  · exact w_c33
  · exact w_c34
  · exact w_c35
  · exact w_c36
  · exact w_c37
  · exact w_c38
  · exact w_c39
  · exact w_c40
  · exact w_c41
  · exact w_c42
  · exact w_c43
  · exact w_c44
  · exact w_c45
  · exact w_c46
  · exact w_c47
  · exact w_c48
  · exact w_c49
  · exact w_c50
  · exact w_c51
  · exact w_c52
  · exact w_c53
  · exact w_c54
  · exact w_c55
  · exact w_c56
  · exact w_c57
set_option maxRecDepth 65536 in
theorem w_t1 : (words1.take 24).all (fun c => isCode c || c.before args0 about1) = true := by decide +kernel
set_option maxRecDepth 65536 in
theorem w_t2 : ((words1.drop 24).take 24).all (fun c => isCode c || c.before args0 about1) = true := by decide +kernel
set_option maxRecDepth 65536 in
theorem w_t3 : (((words1.drop 24).drop 24).take 24).all (fun c => isCode c || c.before args0 about1) = true := by decide +kernel
set_option maxRecDepth 65536 in
theorem w_t4 : ((((words1.drop 24).drop 24).drop 24).take 24).all (fun c => isCode c || c.before args0 about1) = true := by decide +kernel
set_option maxRecDepth 65536 in
theorem w_t5 : (((((words1.drop 24).drop 24).drop 24).drop 24).take 24).all (fun c => isCode c || c.before args0 about1) = true := by decide +kernel
set_option maxRecDepth 65536 in
theorem w_t6 : ((((((words1.drop 24).drop 24).drop 24).drop 24).drop 24).take 24).all (fun c => isCode c || c.before args0 about1) = true := by decide +kernel
set_option maxRecDepth 65536 in
theorem w_t7 : (((((((words1.drop 24).drop 24).drop 24).drop 24).drop 24).drop 24).take 24).all (fun c => isCode c || c.before args0 about1) = true := by decide +kernel
set_option maxRecDepth 65536 in
theorem w_t8 : ((((((((words1.drop 24).drop 24).drop 24).drop 24).drop 24).drop 24).drop 24).take 24).all (fun c => isCode c || c.before args0 about1) = true := by decide +kernel
set_option maxRecDepth 65536 in
theorem w_t9 : (((((((((words1.drop 24).drop 24).drop 24).drop 24).drop 24).drop 24).drop 24).drop 24).take 24).all (fun c => isCode c || c.before args0 about1) = true := by decide +kernel
set_option maxRecDepth 65536 in
theorem w_t10 : ((((((((((words1.drop 24).drop 24).drop 24).drop 24).drop 24).drop 24).drop 24).drop 24).drop 24).take 24).all (fun c => isCode c || c.before args0 about1) = true := by decide +kernel
set_option maxRecDepth 65536 in
theorem w_t11 : (((((((((((words1.drop 24).drop 24).drop 24).drop 24).drop 24).drop 24).drop 24).drop 24).drop 24).drop 24).take 24).all (fun c => isCode c || c.before args0 about1) = true := by decide +kernel
set_option maxRecDepth 65536 in
theorem w_t12 : (((((((((((words1.drop 24).drop 24).drop 24).drop 24).drop 24).drop 24).drop 24).drop 24).drop 24).drop 24).drop 24).all (fun c => isCode c || c.before args0 about1) = true := by decide +kernel
theorem w_tables : (allAtoms (Jvm.Cond.code x code maxLocals ret :: tables_1)).before args0 about1 = true := by
  rw [allAtoms_all]
  show words1.all (fun c => c.before args0 about1) = true
  refine all_split ?_ w_codes
  rw [← List.take_append_drop 24 words1, List.all_append, w_t1, ← List.take_append_drop 24 (words1.drop 24), List.all_append, w_t2, ← List.take_append_drop 24 ((words1.drop 24).drop 24), List.all_append, w_t3, ← List.take_append_drop 24 (((words1.drop 24).drop 24).drop 24), List.all_append, w_t4, ← List.take_append_drop 24 ((((words1.drop 24).drop 24).drop 24).drop 24), List.all_append, w_t5, ← List.take_append_drop 24 (((((words1.drop 24).drop 24).drop 24).drop 24).drop 24), List.all_append, w_t6, ← List.take_append_drop 24 ((((((words1.drop 24).drop 24).drop 24).drop 24).drop 24).drop 24), List.all_append, w_t7, ← List.take_append_drop 24 (((((((words1.drop 24).drop 24).drop 24).drop 24).drop 24).drop 24).drop 24), List.all_append, w_t8, ← List.take_append_drop 24 ((((((((words1.drop 24).drop 24).drop 24).drop 24).drop 24).drop 24).drop 24).drop 24), List.all_append, w_t9, ← List.take_append_drop 24 (((((((((words1.drop 24).drop 24).drop 24).drop 24).drop 24).drop 24).drop 24).drop 24).drop 24), List.all_append, w_t10, ← List.take_append_drop 24 ((((((((((words1.drop 24).drop 24).drop 24).drop 24).drop 24).drop 24).drop 24).drop 24).drop 24).drop 24), List.all_append, w_t11, w_t12]
  rfl
set_option maxRecDepth 65536 in
theorem w_rest : rest_1_c.before args0 about1 = true := by decide +kernel
set_option maxRecDepth 65536 in
theorem w_case : (Jvm.Cond.and given_1 narrow_1).before args0 about1 = true := by decide +kernel
set_option maxRecDepth 65536 in
theorem w_consts : constsHeld consts_1 about1 := Jvm.Lit.constsHeldB_iff.mp (by decide +kernel)
theorem w_applies : (headSpec (Jvm.Cond.code x code maxLocals ret :: tables_1) room_1).applies x e0.platform about1 = true :=
  (Spec.applies_iff w_frames).mpr ⟨w_running, w_runnable, w_alone, w_named, w_hears, w_ripe, w_room, w_tables⟩
theorem atStart : AtStart classFile x code maxLocals ret World_1 tables_1 room_1 Calls_1 rest_1 Pre_1 launch0 p0 e0 about1 theMethod args0 below0 :=
  ⟨lists_1, trivial, launch0.admits_env _ _ _, launch0.least_env, fairChoices_fair.cas, fairChoices_fair.clock, w_frames, w_args, w_heap, w_applies, ⟨w_consts, trivial⟩, w_rest, w_case⟩
end start1
theorem witness_1 : WitnessClaimed_1 := ⟨start1.p0, start1.e0, start1.about1, start1.theMethod, start1.args0, start1.below0, start1.atStart⟩
end Jvm.Pilot.@@N@@
