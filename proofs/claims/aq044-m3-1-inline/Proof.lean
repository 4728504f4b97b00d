import JvmDerived
import JvmDerived.Pilot.@@N@@Statement
import JvmDerived.Pilot.@@N@@Code
set_option linter.unusedVariables false
set_option linter.unusedSimpArgs false

set_option maxRecDepth 65536
set_option maxHeartbeats 40000000
/- laws to paste: Road.chN, Road.eqW, shr1, shr0 (cut by pick.py; bodies as the Statement names them) -/
namespace Jvm.Pilot.@@N@@
namespace StrChars
open Jvm Sem ClassFile Op Lib Jvm.Stand Jvm.Free.XT Jvm.Free.ALB Jvm.Free.JM Jvm.Free
open Jvm.Lib.Cold (StaticIs)
/-- the byte that i2b leaves of a char -/
def lo8 (x : Int32) : Int32 := x.toInt8.toInt32
theorem fits_lo8 (y : Int32) : fits .byte (.int (lo8 y)) = true := by
  have h1 := y.toInt8.le_toInt
  have h2 := y.toInt8.toInt_lt
  simp only [lo8, fits, Bool.and_eq_true, decide_eq_true_eq, Int32.le_iff_toInt_le, Int8.toInt_toInt32, show (-128 : Int32).toInt = -128 from by decide, show (127 : Int32).toInt = 127 from by decide]
  omega
def U16 : String := "java/lang/StringUTF16"
namespace Cmp5
def yN : MethodName := ⟨"java/lang/StringUTF16", "compress", "([CI[BII)I"⟩
abbrev yB : ByteArray := jdk_52_method_21_code
end Cmp5
namespace Cmp3
def yN : MethodName := ⟨"java/lang/StringUTF16", "compress", "([CII)[B"⟩
abbrev yB : ByteArray := jdk_52_method_16_code
end Cmp3
namespace CodL
def yN : MethodName := ⟨"java/lang/StringUTF16", "coderFromArrayLen", "([BI)B"⟩
abbrev yB : ByteArray := jdk_52_method_15_code
end CodL
namespace New4
def yN : MethodName := ⟨"java/lang/String", "<init>", "([CIILjava/lang/Void;)V"⟩
abbrev yB : ByteArray := jdk_42_method_149_code
end New4
namespace New1
def yN : MethodName := ⟨"java/lang/String", "<init>", "([C)V"⟩
abbrev yB : ByteArray := jdk_42_method_3_code
end New1
/-- the byte, read back as charAt reads it, is the char -/
theorem lo8_mask {x : Int32} (h0 : ¬ x < 0) (h1 : ¬ 255 < x) : lo8 x &&& 255 = x := by
  have t : ∀ k : Fin 256, lo8 (Int32.ofNat k.val) &&& 255 = Int32.ofNat k.val := by decide +kernel
  rw [Int32.lt_iff_toInt_lt] at h0 h1
  have e0 : (0 : Int32).toInt = 0 := rfl
  have e1 : (255 : Int32).toInt = 255 := rfl
  obtain ⟨k, hk⟩ : ∃ k : Nat, x.toInt = k := ⟨x.toInt.toNat, by omega⟩
  have hx : x = Int32.ofNat k := Int32.toInt_inj.mp (by rw [hk, Int32.toInt_ofNat_small (by omega)])
  rw [hx]
  exact t ⟨k, by omega⟩
end StrChars
namespace StrChars.Road
open Jvm Sem ClassFile Op Lib Jvm.Stand Jvm.Free Jvm.Free.XT
open Jvm.Lib.Cold (StaticIs)
abbrev ST : String := "java/lang/String"
/-- every table word that New1's law asks, flat -/
abbrev words : List Jvm.Cond := [.code New1.yN New1.yB 2 none, .initialized ST, .methodLink ST 27 New4.yN, .instanceMethod New4.yN,
  .code New4.yN New4.yB 6 none, .fieldLink ST 38 ST "COMPACT_STRINGS" "Z", .laysFinal ST ST "value" "[B", .fieldLink ST 9 ST "value" "[B", .laysFinal ST ST "coder" "B", .fieldLink ST 15 ST "coder" "B",
  .methodLink ST 1 Lib.objectInit, .instanceMethod Lib.objectInit, .code Lib.objectInit ⟨#[0xb1]⟩ 1 none, .methodLink ST 177 Cmp3.yN, .static Cmp3.yN, .methodLink ST 47 CodL.yN, .static CodL.yN,
  .code Cmp3.yN Cmp3.yB 6 (some (.array .byte)), .initialized U16, .arrayClass .byte, .methodLink U16 115 Cmp5.yN, .static Cmp5.yN, .code Cmp5.yN Cmp5.yB 7 (some .int), .code CodL.yN CodL.yB 2 (some .byte)]
end StrChars.Road
namespace StrChars
open Jvm Sem ClassFile Op Lib Jvm.Stand Jvm.Free.XT Jvm.Free.ALB Jvm.Free.JM Jvm.Free
open Jvm.Lib.Cold (StaticIs)
def hi8 (x : Int32) : Int32 := lo8 (x >>> ((8 : Int32) &&& 31))
/-- what StringUTF16.getChar makes of two bytes -/
def pairCh (u v : Int32) : Int32 := (((u &&& 255) <<< ((0 : Int32) &&& 31)) ||| ((v &&& 255) <<< ((8 : Int32) &&& 31))).toUInt32.toUInt16.toUInt32.toInt32
theorem shr0 (c : Int32) : c >>> ((0 : Int32) &&& 31) = c := by
  have e : ((0 : Int32) &&& 31) = 0 := by decide
  rw [e]
  apply Int32.toBitVec_inj.mp
  rw [Int32.toBitVec_shiftRight]
  have e1 : ((0 : Int32).toBitVec.smod 32) = 0#32 := by decide
  rw [e1, BitVec.sshiftRight_eq']
  exact BitVec.sshiftRight_zero
theorem lo8_and (x : Int32) : (lo8 x &&& 255).toBitVec.toNat = x.toBitVec.toNat % 256 := by
  have h : (lo8 x).toBitVec = (x.toBitVec.signExtend 8).signExtend 32 := by rw [lo8, Int8.toBitVec_toInt32, Int32.toBitVec_toInt8]
  rw [Int32.toBitVec_and, BitVec.toNat_and, h]
  have e : ((x.toBitVec.signExtend 8).signExtend 32).toNat % 256 = x.toBitVec.toNat % 256 := by
    rw [BitVec.toNat_signExtend]
    have hlt := x.toBitVec.isLt
    simp only [BitVec.toNat_setWidth, BitVec.toNat_signExtend]
    split <;> split <;> omega
  rw [← e]
  exact Nat.and_two_pow_sub_one_eq_mod _ 8
theorem pair_says {c : Int32} (h0 : ¬ c < 0) (h1 : ¬ 65535 < c) : pairCh (lo8 c) (hi8 c) = c := by
  rw [Int32.lt_iff_toInt_lt] at h0 h1
  have e0 : (0 : Int32).toInt = 0 := rfl
  have e1 : (65535 : Int32).toInt = 65535 := rfl
  have hc : c.toInt = c.toBitVec.toNat := by
    have := c.toBitVec.isLt
    have e : c.toInt = c.toBitVec.toInt := rfl
    rw [e] at h0 h1
    rw [e]
    rw [BitVec.toInt_eq_toNat_cond] at h0 h1 ⊢
    split at h0 <;> split <;> omega
  have hn : c.toBitVec.toNat < 65536 := by omega
  have a1 := lo8_and c
  have a2 : (hi8 c &&& 255).toBitVec.toNat = c.toBitVec.toNat / 256 := by
    rw [hi8, lo8_and]
    have e : ((8 : Int32) &&& 31) = 8 := by decide
    rw [e, Int32.toBitVec_shiftRight]
    have e2 : ((8 : Int32).toBitVec.smod 32) = 8#32 := by decide
    rw [e2, BitVec.sshiftRight_eq', BitVec.toNat_sshiftRight_of_msb_false (by rw [BitVec.msb_eq_false_iff_two_mul_lt]; omega)]
    show c.toBitVec.toNat >>> 8 % 256 = _
    rw [Nat.shiftRight_eq_div_pow]
    omega
  unfold pairCh
  apply Int32.toBitVec_inj.mp
  apply BitVec.eq_of_toNat_eq
  have f0 : ((0 : Int32) &&& 31) = 0 := by decide
  have f8 : ((8 : Int32) &&& 31) = 8 := by decide
  rw [f0, f8]
  have g : (((lo8 c &&& 255) <<< (0 : Int32)) ||| ((hi8 c &&& 255) <<< (8 : Int32))).toBitVec.toNat = c.toBitVec.toNat := by
    rw [Int32.toBitVec_or, Int32.toBitVec_shiftLeft, Int32.toBitVec_shiftLeft]
    have s0 : ((0 : Int32).toBitVec.smod 32) = 0#32 := by decide
    have s8 : ((8 : Int32).toBitVec.smod 32) = 8#32 := by decide
    rw [s0, s8, BitVec.toNat_or]
    simp only [BitVec.shiftLeft_eq', BitVec.toNat_shiftLeft, a1, a2]
    show (c.toBitVec.toNat % 256) <<< 0 % 2 ^ 32 ||| (c.toBitVec.toNat / 256) <<< 8 % 2 ^ 32 = _
    rw [Nat.shiftLeft_zero, Nat.mod_eq_of_lt (show c.toBitVec.toNat % 256 < 2 ^ 32 by omega), Nat.mod_eq_of_lt (show (c.toBitVec.toNat / 256) <<< 8 < 2 ^ 32 by rw [Nat.shiftLeft_eq]; omega), Nat.or_comm, ← Nat.shiftLeft_add_eq_or_of_lt (by omega), Nat.shiftLeft_eq]
    omega
  show BitVec.toNat (((((lo8 c &&& 255) <<< (0 : Int32)) ||| ((hi8 c &&& 255) <<< (8 : Int32))).toBitVec.setWidth 16).setWidth 32) = _
  rw [BitVec.toNat_setWidth, BitVec.toNat_setWidth, g]
  omega
end StrChars
namespace StrChars
open Jvm Sem ClassFile Op Lib Jvm.Stand Jvm.Free.XT Jvm.Free.ALB Jvm.Free.JM Jvm.Free
open Jvm.Lib.Cold (StaticIs)
theorem shr1 {n : Nat} (h : 2 * n < 2 ^ 31) : Int32.ofNat (2 * n) >>> ((1 : Int32) &&& 31) = Int32.ofNat n := by
  have e : ((1 : Int32) &&& 31) = 1 := by decide
  rw [e]
  apply Int32.toBitVec_inj.mp
  rw [Int32.toBitVec_shiftRight]
  have e1 : ((1 : Int32).toBitVec.smod 32) = 1#32 := by decide
  have hm : (BitVec.ofNat 32 (2 * n)).toNat = 2 * n := by rw [BitVec.toNat_ofNat, Nat.mod_eq_of_lt (by omega)]
  rw [e1, BitVec.sshiftRight_eq']
  apply BitVec.eq_of_toNat_eq
  show ((BitVec.ofNat 32 (2 * n)).sshiftRight 1).toNat = (BitVec.ofNat 32 n).toNat
  rw [BitVec.toNat_sshiftRight_of_msb_false (by rw [BitVec.msb_eq_false_iff_two_mul_lt, hm]; omega), hm, BitVec.toNat_ofNat, Nat.shiftRight_eq_div_pow]
  omega
/-- charAt's cast of a byte read back -/
def chr8 (u : Int32) : Int32 := (u &&& 255).toUInt32.toUInt16.toUInt32.toInt32
theorem chr8_lo8 {c : Int32} (h0 : ¬ c < 0) (h1 : ¬ 255 < c) : chr8 (lo8 c) = c := by
  have t : ∀ k : Fin 256, (Int32.ofNat k.val).toUInt32.toUInt16.toUInt32.toInt32 = Int32.ofNat k.val := by decide +kernel
  unfold chr8
  rw [lo8_mask h0 h1]
  rw [Int32.lt_iff_toInt_lt] at h0 h1
  have e0 : (0 : Int32).toInt = 0 := rfl
  have e1 : (255 : Int32).toInt = 255 := rfl
  obtain ⟨k, hk⟩ : ∃ k : Nat, c.toInt = k := ⟨c.toInt.toNat, by omega⟩
  have hx : c = Int32.ofNat k := Int32.toInt_inj.mp (by rw [hk, Int32.toInt_ofNat_small (by omega)])
  rw [hx]
  exact t ⟨k, by omega⟩
theorem narrow_ch {c : Int32} (h0 : ¬ c < 0) (h1 : ¬ 65535 < c) : narrow .char (.int c) = .int c := by
  have q : narrow .char (.int (pairCh (lo8 c) (hi8 c))) = .int (pairCh (lo8 c) (hi8 c)) := narrow_c _
  rwa [pair_says h0 h1] at q
/-- the array's cell V codes the n chars f 0 .. f (n - 1) by the coder cd, as the JDK does: coder 1 just where some char is above 255 -/
def Cod (cd : Int32) (n : Nat) (f : Nat → Int32) (V : Cell) : Prop := (cd = 0 ∧ V.slots.size = n ∧ ∀ j, j < n → V.slots[j]? = some (.int (lo8 (f j))) ∧ ¬ 255 < f j) ∨ (cd = 1 ∧ V.slots.size = 2 * n ∧ (∀ j, j < n → V.slots[2 * j]? = some (.int (lo8 (f j))) ∧ V.slots[2 * j + 1]? = some (.int (hi8 (f j)))) ∧ ∃ j, j < n ∧ 255 < f j)
theorem Cod.cd {cd : Int32} {n : Nat} {f : Nat → Int32} {V : Cell} (h : Cod cd n f V) : cd = 0 ∨ cd = 1 := h.imp (fun q => q.1) fun q => q.1
/-- **x is a String of the n chars f 0 .. f (n - 1)**, Latin-1 or UTF-16; its array at t has the cell V -/
def Txt (x t : Addr) (V : Cell) (cd : Int32) (n : Nat) (f : Nat → Int32) (U : State) : Prop := Exact "java/lang/String" x U ∧ Has x "java/lang/String" "value" "[B" (.ref t) U ∧ Has x "java/lang/String" "coder" "B" (.int cd) U ∧ XT.Arr .byte t V U ∧ Cod cd n f V ∧ ∀ j, j < n → ¬ f j < 0 ∧ ¬ 65535 < f j
theorem Txt.mv {x t : Addr} {V : Cell} {cd : Int32} {n : Nat} {f : Nat → Int32} {U U' : State} (h : Txt x t V cd n f U) (hal : U.vm.Alike U'.vm) (hh : U'.heap = U.heap) : Txt x t V cd n f U' := ⟨h.1.mv hal hh, h.2.1.mv hal hh, h.2.2.1.mv hal hh, h.2.2.2.1.mv hal hh, h.2.2.2.2⟩
namespace IsL
def yN : MethodName := ⟨"java/lang/String", "isLatin1", "()Z"⟩
abbrev yB : ByteArray := jdk_42_method_154_code
theorem d0 : decode yB 0 = .ok (.getstatic 38, 3) := by decide +kernel
theorem d3 : decode yB 3 = .ok (.ifCond (.eq) 14, 3) := by decide +kernel
theorem d6 : decode yB 6 = .ok (.aload_n 0, 1) := by decide +kernel
theorem d7 : decode yB 7 = .ok (.getfield 15, 3) := by decide +kernel
theorem d10 : decode yB 10 = .ok (.ifCond (.ne) 7, 3) := by decide +kernel
theorem d13 : decode yB 13 = .ok (.iconst 1, 1) := by decide +kernel
theorem d14 : decode yB 14 = .ok (.goto 4, 3) := by decide +kernel
theorem d17 : decode yB 17 = .ok (.iconst 0, 1) := by decide +kernel
theorem d18 : decode yB 18 = .ok (.ireturn, 1) := by decide +kernel
def site : List Cond := [.fieldLink "java/lang/String" 38 "java/lang/String" "COMPACT_STRINGS" "Z", .fieldLink "java/lang/String" 15 "java/lang/String" "coder" "B"]
def tab : Cond := tabOf yN yB 1 (some .boolean) site
def P (x : Addr) (cd z : Int32) (args : Array Value) (s : State) : Prop := args = #[.ref x] ∧ Has x "java/lang/String" "coder" "B" (.int cd) s ∧ (cd = 0 ∨ cd = 1) ∧ StaticIs s "java/lang/String" "COMPACT_STRINGS" "Z" (.int z) ∧ ¬ z = 0
def E (cd : Int32) (r : Option Value) (s u : State) : Prop := XT.PureE (some (.int (1 - cd))) r s u
theorem law (l : Launch) (x : Addr) (cd z : Int32) : Law l yN 1 0 0 0 yB 1 (some .boolean) site (P x cd z) (E cd) [] 0 0 := by
  refine Law.of_walk (plainFor_of_name (by decide +kernel)) (by decide +kernel) (by decide +kernel) (by decide) (fun _ _ h => by rw [h.1]; rfl) (fun _ U U' hal hh h => ⟨h.1, h.2.1.mv hal hh, h.2.2.1, h.2.2.2.1.there hal hh, h.2.2.2.2⟩) (fun r U U' V V' h1 hal h2 h => XT.PureE.mv r U U' V V' h1 hal h2 h) ?_
  intro p e s m args below meth c s₁ X0 hexec hbytes hml hret hlk hnm hown hh0 W hP
  obtain ⟨rfl, hx, hc, s1, hz⟩ := hP
  have c1 : Steps p.tables e below (s₁.setTop (entryFrame m #[.ref x] 1)) (s₁.setTop (mkF m 0 #[.val (.ref x)] [])) := entry rfl
  obtain ⟨T2, X2, q2, st2⟩ := X0.sget hexec hown (wk W (.fieldLink "java/lang/String" 38 "java/lang/String" "COMPACT_STRINGS" "Z")) s1 (fun _ _ h => by rw [hh0]; exact h) (g := (mkF m 0 #[.val (.ref x)] [])) rfl (hb hbytes d0)
  have hh2 := q2.trans hh0
  have c3 : Steps p.tables e below (s₁.setTop (entryFrame m #[.ref x] 1)) (T2.setTop (mkF m 7 #[.val (.ref x)] [.ref x])) := (c1.trans (st2 _ (Steps.refl _))).trans (by
    refine XS.ifNo X2.here hexec rfl (hb hbytes d3) rfl (i0_eq_f hz) ?_
    refine XS.aloadN X2.here hexec rfl (hb hbytes d6) rfl rfl ?_
    exact Steps.refl _)
  obtain ⟨T4, X4, q4, st4⟩ := X2.hget hexec hown (wk W (.fieldLink "java/lang/String" 15 "java/lang/String" "coder" "B")) (hx.mv X2.warmed.alike hh2) (g := (mkF m 7 #[.val (.ref x)] [.ref x])) rfl (rest := []) rfl (hb hbytes d7)
  have c5 : Steps p.tables e below (s₁.setTop (entryFrame m #[.ref x] 1)) (T4.setTop (mkF m 10 #[.val (.ref x)] [.int cd])) := c3.trans (st4 _ (Steps.refl _))
  have c6 : Steps p.tables e below (s₁.setTop (entryFrame m #[.ref x] 1)) (T4.setTop (mkF m 18 #[.val (.ref x)] [.int (1 - cd)])) := by
    rcases hc with rfl | rfl
    · exact c5.trans (by
        refine XS.ifNo X4.here hexec rfl (hb hbytes d10) rfl (i0_ne_f rfl) ?_
        refine iconstV X4.here hexec rfl 1 (hb hbytes d13) (by decide) ?_
        refine XS.goto X4.here hexec rfl (pc0 := 14) rfl (hb hbytes d14) (by decide) rfl ?_
        exact Steps.refl _)
    · exact c5.trans (by
        refine XS.ifYes X4.here hexec rfl (pc0 := 10) rfl (hb hbytes d10) rfl (i0_ne_t (by decide)) (by decide) rfl ?_
        refine iconstV X4.here hexec rfl 0 (hb hbytes d17) (by decide) ?_
        exact Steps.refl _)
  exact ⟨T4, some (.int (1 - cd)), _, _, _, X4, rfl, rfl, rfl, (fun h => by cases h), ⟨rfl, q4.trans hh2⟩, fun fs hl => c6.trans (X4.ireturnOut hexec hret (by rcases hc with rfl | rfl <;> rfl) (Or.inr (Or.inl rfl)) (hb hbytes d18) hl)⟩
end IsL
namespace LChA
def yN : MethodName := ⟨"java/lang/StringLatin1", "charAt", "([BI)C"⟩
abbrev yB : ByteArray := jdk_43_method_2_code
theorem d0 : decode yB 0 = .ok (.iload_n 1, 1) := by decide +kernel
theorem d1 : decode yB 1 = .ok (.aload_n 0, 1) := by decide +kernel
theorem d2 : decode yB 2 = .ok (.arraylength, 1) := by decide +kernel
theorem d3 : decode yB 3 = .ok (.invokestatic 9, 3) := by decide +kernel
theorem d6 : decode yB 6 = .ok (.aload_n 0, 1) := by decide +kernel
theorem d7 : decode yB 7 = .ok (.iload_n 1, 1) := by decide +kernel
theorem d8 : decode yB 8 = .ok (.baload, 1) := by decide +kernel
theorem d9 : decode yB 9 = .ok (.sipush 255, 3) := by decide +kernel
theorem d12 : decode yB 12 = .ok (.iand, 1) := by decide +kernel
theorem d13 : decode yB 13 = .ok (.i2c, 1) := by decide +kernel
theorem d14 : decode yB 14 = .ok (.ireturn, 1) := by decide +kernel
def site : List Cond := [JO.Str_checkIndex.tab] ++ staticW "java/lang/StringLatin1" 9 JO.Str_checkIndex.yN
def tab : Cond := tabOf yN yB 2 (some .char) site
def P (t : Addr) (V : Cell) (i : Nat) (u : Int32) (fm : Value) (args : Array Value) (s : State) : Prop := args = #[.ref t, .int (Int32.ofNat i)] ∧ XT.Arr .byte t V s ∧ V.slots[i]? = some (.int u) ∧ (StaticIs s "jdk/internal/util/Preconditions" "SIOOBE_FORMATTER" "Ljava/util/function/BiFunction;" fm ∧ fm.isRef = true)
def E (u : Int32) (r : Option Value) (s w : State) : Prop := XT.PureE (some (.int (chr8 u))) r s w
theorem law (l : Launch) (t : Addr) (V : Cell) (i : Nat) (u : Int32) (fm : Value) : Law l yN 2 2 2 27 yB 2 (some .char) site (P t V i u fm) (E u) [] 0 0 := by
  refine Law.of_walk (plainFor_of_name (by decide +kernel)) (by decide +kernel) (by decide +kernel) (by decide) (fun _ _ h => by rw [h.1]; rfl) (fun _ U U' hal hh h => ⟨h.1, h.2.1.mv hal hh, h.2.2.1, h.2.2.2.1.there hal hh, h.2.2.2.2⟩) (fun r U U' V V' h1 hal h2 h => XT.PureE.mv r U U' V V' h1 hal h2 h) ?_
  intro p e s m args below meth c s₁ X0 hexec hbytes hml hret hlk hnm hown hh0 W hP
  obtain ⟨rfl, hV, hu, s1, rf⟩ := hP
  have v31 := hV.2.2.2
  have hi : i < V.slots.size := (Array.getElem?_eq_some_iff.mp hu).1
  have c1 : Steps p.tables e below (s₁.setTop (entryFrame m #[.ref t, .int (Int32.ofNat i)] 2)) (s₁.setTop (mkF m 0 #[.val (.ref t), .val (.int (Int32.ofNat i))] [])) := entry rfl
  have c2 : Steps p.tables e below (s₁.setTop (entryFrame m #[.ref t, .int (Int32.ofNat i)] 2)) (s₁.setTop (mkF m 3 #[.val (.ref t), .val (.int (Int32.ofNat i))] [.int (Int32.ofNat V.slots.size), .int (Int32.ofNat i)])) := c1.trans (by
    refine XS.iloadN X0.here hexec rfl (hb hbytes d0) rfl ?_
    refine XS.aloadN X0.here hexec rfl (hb hbytes d1) rfl rfl ?_
    refine X0.alen hexec (hV.mv X0.warmed.alike hh0) rfl rfl (hb hbytes d2) ?_
    exact Steps.refl _)
  obtain ⟨v3, T3, X3, E3, g3⟩ := X0.callS hexec (JO.Str_checkIndex.law l (Int32.ofNat i) (Int32.ofNat V.slots.size) fm) hown (wks W (staticW "java/lang/StringLatin1" 9 JO.Str_checkIndex.yN)) (wk W JO.Str_checkIndex.tab) (W := 0) (Nat.le_of_ble_eq_true rfl) (Nat.le_of_ble_eq_true rfl) (Nat.le_refl _) (Nat.le_refl _) (g := (mkF m 3 #[.val (.ref t), .val (.int (Int32.ofNat i))] [.int (Int32.ofNat V.slots.size), .int (Int32.ofNat i)])) rfl (by rw [hml]; rfl) c2 (argsL := [.int (Int32.ofNat i), .int (Int32.ofNat V.slots.size)]) (rest := []) rfl rfl (by show 2 * 0 + 0 ≤ _; decide) (hb hbytes d3) (⟨rfl, rf, s1.there X0.warmed.alike hh0, Int32.ofNat_not_neg (by omega), lt32 v31 hi⟩)
  obtain ⟨rfl, q3⟩ := E3
  have hh3 := q3.trans hh0
  have c4 : Steps p.tables e below (s₁.setTop (entryFrame m #[.ref t, .int (Int32.ofNat i)] 2)) (T3.setTop (mkF m 14 #[.val (.ref t), .val (.int (Int32.ofNat i))] [.int (chr8 u)])) := Steps.trans g3 (by
    refine XS.aloadN X3.here hexec rfl (hb hbytes d6) rfl rfl ?_
    refine XS.iloadN X3.here hexec rfl (hb hbytes d7) rfl ?_
    refine X3.aget hexec (hV.mv X3.warmed.alike hh3) rfl hu rfl rfl (hb hbytes d8) ?_
    refine sipushV X3.here hexec rfl 255 (hb hbytes d9) (by decide) ?_
    refine XS.iand X3.here hexec rfl (hb hbytes d12) rfl ?_
    refine i2c X3.here hexec rfl (hb hbytes d13) rfl ?_
    exact Steps.refl _)
  exact ⟨T3, some (.int (chr8 u)), _, _, _, X3, rfl, rfl, rfl, (fun h => by cases h), ⟨rfl, hh3⟩, fun fs hl => c4.trans (X3.ireturnOut hexec hret (narrow_c _) (Or.inr (Or.inr (Or.inr (Or.inl rfl)))) (hb hbytes d14) hl)⟩
end LChA
end StrChars
namespace StrChars.Road
open Jvm Sem ClassFile Op Lib Jvm.Stand Jvm.Free Jvm.Free.XT
open Jvm.Lib.Cold (StaticIs)
theorem consq {a : Array Value} {s : State} {c : Jvm.Cond} {L : List Jvm.Cond} (h0 : c.before a s = true) (h : ∀ w ∈ L, w.before a s = true) : ∀ w ∈ c :: L, w.before a s = true := fun w hw => (List.mem_cons.mp hw).elim (fun e => e ▸ h0) (h w)
/-- the bytes of the chars cs, low before high -/
def wideBytes : List Int32 → List Value
  | [] => []
  | c :: cs => .int (lo8 c) :: .int (hi8 c) :: wideBytes cs
theorem wide_lo (d : Value) : ∀ (cs : List Int32) (j : Nat), j < cs.length → (wideBytes cs).getD (2 * j) d = .int (lo8 (cs.getD j 0))
  | [], j, h => absurd h (Nat.not_lt_zero j)
  | c :: cs, 0, _ => rfl
  | c :: cs, j + 1, h => by
    have q := wide_lo d cs j (by simpa using h)
    rw [show 2 * (j + 1) = 2 * j + 1 + 1 from by omega]
    simpa [wideBytes] using q
theorem wide_hi (d : Value) : ∀ (cs : List Int32) (j : Nat), j < cs.length → (wideBytes cs).getD (2 * j + 1) d = .int (hi8 (cs.getD j 0))
  | [], j, h => absurd h (Nat.not_lt_zero j)
  | c :: cs, 0, _ => rfl
  | c :: cs, j + 1, h => by
    have q := wide_hi d cs j (by simpa using h)
    rw [show 2 * (j + 1) + 1 = 2 * j + 1 + 1 + 1 from by omega]
    simpa [wideBytes] using q
theorem low_at (d : Value) (cs : List Int32) (j : Nat) (h : j < cs.length) : (cs.map fun c => Value.int (lo8 c)).getD j d = .int (lo8 (cs.getD j 0)) := by
  simp [List.getD_eq_getElem?_getD, h]
/-- an array of N2 bytes vs codes the chars cs by the coder cd -/
def CodA (cs : List Int32) (cd N2 : Int32) (vs : List Value) : Prop := (cd = 0 ∧ N2 = Int32.ofNat cs.length ∧ vs = (cs.map fun c => Value.int (lo8 c)) ∧ ∀ c ∈ cs, ¬ 255 < c) ∨ (cd = 1 ∧ N2 = Int32.ofNat (2 * cs.length) ∧ vs = wideBytes cs ∧ ∃ c ∈ cs, 255 < c)
theorem CodA.cod {cs : List Int32} {cd N2 : Int32} {vs : List Value} {V : Cell} (h : CodA cs cd N2 vs) (hn : 2 * cs.length < 2 ^ 31) (hs : V.slots.size = N2.toNatClampNeg) (hv : RoadKit.Has V vs (.int 0)) : Cod cd cs.length (fun j => cs.getD j 0) V := by
  rcases h with ⟨rfl, rfl, rfl, h⟩ | ⟨rfl, rfl, rfl, c, hc, hw⟩
  · rw [n32 (by omega)] at hs
    exact Or.inl ⟨rfl, hs, fun j hj => ⟨by rw [hv j (by omega), low_at _ _ _ hj], by
      have e : cs.getD j 0 = cs[j] := by simp [List.getD_eq_getElem?_getD, hj]
      show ¬ 255 < cs.getD j 0
      rw [e]; exact h _ (List.getElem_mem _)⟩⟩
  · rw [n32 (by omega)] at hs
    obtain ⟨j, hj, rfl⟩ := List.getElem_of_mem hc
    exact Or.inr ⟨rfl, hs, fun j hj => ⟨by rw [hv _ (by omega), wide_lo _ _ _ hj], by rw [hv _ (by omega), wide_hi _ _ _ hj]⟩, j, hj, by
      have e : cs.getD j 0 = cs[j] := by simp [List.getD_eq_getElem?_getD, hj]
      show 255 < cs.getD j 0
      rw [e]; exact hw⟩
/-- an object of exactly java/lang/String, its two fields found: as the laws ask it -/
theorem strObj {Z U : State} {a0 : Array Value} {kI : Nat} (wi : (Jvm.Cond.instantiable ST kI).before a0 Z = true) (al : Z.vm.Alike U.vm) {x : Addr} {v0 c0 : Value} (E : RoadKit.Exa Z U.heap x ST) (V : RoadKit.Fld Z U.heap x ST "value" "[B" v0) (C : RoadKit.Fld Z U.heap x ST "coder" "B" c0) :
    ∃ (D : Cell) (fV fC : Field), Blank ST x D U ∧ Found ST "value" "[B" fV U ∧ Found ST "coder" "B" fC U ∧ D.slots[fV.slot]? = some v0 ∧ D.slots[fC.slot]? = some c0 ∧ RoadKit.slotOf Z ST "value" "[B" = fV.slot ∧ RoadKit.slotOf Z ST "coder" "B" = fC.slot := by
  obtain ⟨D, cfV, kV, iV, fV, hD, gV, stV, knV, obV, asV, slV⟩ := V
  obtain ⟨D', cfC, kC, iC, fC, hD', gC, stC, -, -, asC, slC⟩ := C
  cases hD.symm.trans hD'
  obtain ⟨D2, kD, e1, e2, e3, e4, e5⟩ := E
  cases hD.symm.trans e1
  obtain ⟨c2, k2, i1, i2, i3, -⟩ := Cond.instantiable_spec wi
  cases e2.symm.trans i1
  cases e3.symm.trans i2
  obtain ⟨kU, u1, u2⟩ := al.2.2 _ _ e3
  exact ⟨D, fV, fC, ⟨hD, ⟨knV, fun q hq => by rw [hq] at obV; cases obV⟩, by rw [al.findClass]; exact e2, kU, u1, by rw [u2]; exact i3, by rw [u2]; exact e5 i3⟩, ⟨SBG.found_only al ⟨cfV, kV, iV, gV⟩, stV⟩, ⟨SBG.found_only al ⟨cfC, kC, iC, gC⟩, stC⟩, slV, slC, by simp [RoadKit.slotOf, gV], by simp [RoadKit.slotOf, gC]⟩
theorem sta_is {Z U : State} (al : Z.vm.Alike U.vm) {C n d : String} {v : Value} (S : RoadKit.Sta Z U.heap C n d v) : StaticIs U C n d v := by
  obtain ⟨cfS, iS, kS, fS, st, cS, t1, t2, t3, t4, t5, t6, t7⟩ := S
  exact StaticIs.there (s := { Z with heap := U.heap }) ⟨cfS, iS, kS, fS, st, cS, t1, t2, t3, t4, t5, (fun q => by rw [q] at t6; cases t6), t7⟩ al rfl
end StrChars.Road
namespace StrChars
open Jvm Sem ClassFile Op Lib Jvm.Stand Jvm.Free.XT Jvm.Free.ALB Jvm.Free.JM Jvm.Free
open Jvm.Lib.Cold (StaticIs)
/-- what place i of a byte[]'s cell holds -/
def yv (A : Cell) (i : Nat) : Int32 := match A.slots[i]? with | some (.int x) => x | _ => 0
theorem yv_get {a : Addr} {A : Cell} {U : State} (h : XT.Arr .byte a A U) (ht : Typed .byte A) {i : Nat} (hi : i < A.slots.size) : A.slots[i]? = some (.int (yv A i)) := by
  have e := Array.getElem?_eq_getElem hi
  have f := ht i _ e
  unfold yv; rw [e]
  generalize A.slots[i] = v at f
  cases v <;> simp [fits] at f ⊢
/-- the two arrays are equal, place for place -/
def EqC (A B : Cell) : Prop := A.slots.size = B.slots.size ∧ ∀ i, i < A.slots.size → yv A i = yv B i
/-- a boolean that says whether p -/
def Says01 (q : Prop) (r : Option Value) (s u : State) : Prop := ∃ v : Int32, r = some (.int v) ∧ u.heap = s.heap ∧ ((v = 1 ∧ q) ∨ (v = 0 ∧ ¬ q))
theorem Says01.mv {q : Prop} : ∀ r (U U' V V' : State), U'.heap = U.heap → V.vm.Alike V'.vm → V'.heap = V.heap → Says01 q r U V → Says01 q r U' V' :=
  fun r U U' V V' h1 _ h2 ⟨v, a, b, c⟩ => ⟨v, a, by rw [h1, h2]; exact b, c⟩
namespace LEq
def yN : MethodName := ⟨"java/lang/StringLatin1", "equals", "([B[B)Z"⟩
abbrev yB : ByteArray := jdk_43_method_13_code
theorem d0 : decode yB 0 = .ok (.aload_n 0, 1) := by decide +kernel
theorem d1 : decode yB 1 = .ok (.arraylength, 1) := by decide +kernel
theorem d2 : decode yB 2 = .ok (.aload_n 1, 1) := by decide +kernel
theorem d3 : decode yB 3 = .ok (.arraylength, 1) := by decide +kernel
theorem d4 : decode yB 4 = .ok (.if_icmp (.ne) 30, 3) := by decide +kernel
theorem d7 : decode yB 7 = .ok (.iconst 0, 1) := by decide +kernel
theorem d8 : decode yB 8 = .ok (.istore_n 2, 1) := by decide +kernel
theorem d9 : decode yB 9 = .ok (.iload_n 2, 1) := by decide +kernel
theorem d10 : decode yB 10 = .ok (.aload_n 0, 1) := by decide +kernel
theorem d11 : decode yB 11 = .ok (.arraylength, 1) := by decide +kernel
theorem d12 : decode yB 12 = .ok (.if_icmp (.ge) 20, 3) := by decide +kernel
theorem d15 : decode yB 15 = .ok (.aload_n 0, 1) := by decide +kernel
theorem d16 : decode yB 16 = .ok (.iload_n 2, 1) := by decide +kernel
theorem d17 : decode yB 17 = .ok (.baload, 1) := by decide +kernel
theorem d18 : decode yB 18 = .ok (.aload_n 1, 1) := by decide +kernel
theorem d19 : decode yB 19 = .ok (.iload_n 2, 1) := by decide +kernel
theorem d20 : decode yB 20 = .ok (.baload, 1) := by decide +kernel
theorem d21 : decode yB 21 = .ok (.if_icmp (.eq) 5, 3) := by decide +kernel
theorem d24 : decode yB 24 = .ok (.iconst 0, 1) := by decide +kernel
theorem d25 : decode yB 25 = .ok (.ireturn, 1) := by decide +kernel
theorem d26 : decode yB 26 = .ok (.iinc 2 1, 3) := by decide +kernel
theorem d29 : decode yB 29 = .ok (.goto (-20), 3) := by decide +kernel
theorem d32 : decode yB 32 = .ok (.iconst 1, 1) := by decide +kernel
theorem d33 : decode yB 33 = .ok (.ireturn, 1) := by decide +kernel
theorem d34 : decode yB 34 = .ok (.iconst 0, 1) := by decide +kernel
theorem d35 : decode yB 35 = .ok (.ireturn, 1) := by decide +kernel
def site : List Cond := []
def tab : Cond := tabOf yN yB 3 (some .boolean) site
def P (a : Addr) (A : Cell) (b : Addr) (B : Cell) (args : Array Value) (s : State) : Prop := args = #[.ref a, .ref b] ∧ XT.Arr .byte a A s ∧ Typed .byte A ∧ XT.Arr .byte b B s ∧ Typed .byte B
/-- whether two byte[] are equal, place for place -/
theorem law (l : Launch) (a : Addr) (A : Cell) (b : Addr) (B : Cell) : Law l yN 2 2 0 0 yB 3 (some .boolean) site (P a A b B) (Says01 (EqC A B)) [] 0 0 := by
  refine Law.of_walk (plainFor_of_name (by decide +kernel)) (by decide +kernel) (by decide +kernel) (by decide) (fun _ _ h => by rw [h.1]; rfl) (fun _ U U' hal hh h => ⟨h.1, h.2.1.mv hal hh, h.2.2.1, h.2.2.2.1.mv hal hh, h.2.2.2.2⟩) (fun r U U' V V' h1 hal h2 h => Says01.mv r U U' V V' h1 hal h2 h) ?_
  intro p e s m args below meth c s₁ X0 hexec hbytes hml hret hlk hnm hown hh0 W hP
  obtain ⟨rfl, hA, tA, hB, tB⟩ := hP
  have a31 := hA.2.2.2
  have b31 := hB.2.2.2
  have hA0 := hA.mv X0.warmed.alike hh0
  have hB0 := hB.mv X0.warmed.alike hh0
  have c1 : Steps p.tables e below (s₁.setTop (entryFrame m #[.ref a, .ref b] 3)) (s₁.setTop (mkF m 0 #[.val (.ref a), .val (.ref b), .unset] [])) := entry rfl
  have c2 : Steps p.tables e below (s₁.setTop (entryFrame m #[.ref a, .ref b] 3)) (s₁.setTop (mkF m 4 #[.val (.ref a), .val (.ref b), .unset] [.int (Int32.ofNat B.slots.size), .int (Int32.ofNat A.slots.size)])) := c1.trans (by
    refine XS.aloadN X0.here hexec rfl (hb hbytes d0) rfl rfl ?_
    refine X0.alen hexec hA0 rfl rfl (hb hbytes d1) ?_
    refine XS.aloadN X0.here hexec rfl (hb hbytes d2) rfl rfl ?_
    refine X0.alen hexec hB0 rfl rfl (hb hbytes d3) ?_
    exact Steps.refl _)
  by_cases hs : A.slots.size = B.slots.size
  · have c3 : Steps p.tables e below (s₁.setTop (entryFrame m #[.ref a, .ref b] 3)) (s₁.setTop (mkF m 9 #[.val (.ref a), .val (.ref b), .val (.int 0)] [])) := c2.trans (by
      refine XS.icmpNo X0.here hexec rfl (hb hbytes d4) rfl (ii_ne_f (by rw [hs])) ?_
      refine iconstV X0.here hexec rfl 0 (hb hbytes d7) (by decide) ?_
      refine XS.istoreN X0.here hexec rfl (hb hbytes d8) rfl rfl ?_
      exact Steps.refl _)
    have loop : ∀ (r i : Nat), i + r = A.slots.size → (∀ j, j < i → yv A j = yv B j) → Steps p.tables e below (s₁.setTop (entryFrame m #[.ref a, .ref b] 3)) (s₁.setTop (mkF m 9 #[.val (.ref a), .val (.ref b), .val (.int (Int32.ofNat i))] [])) → ∃ (pc : Nat) (Ls : Array Slot) (v : Int32), (pc = 25 ∨ pc = 33) ∧ ((v = 1 ∧ EqC A B) ∨ (v = 0 ∧ ¬ EqC A B)) ∧ Steps p.tables e below (s₁.setTop (entryFrame m #[.ref a, .ref b] 3)) (s₁.setTop (mkF m pc Ls [.int v])) := by
      intro r
      induction r with
      | zero =>
        intro i hi he cl
        exact ⟨33, _, 1, Or.inr rfl, Or.inl ⟨rfl, hs, fun j hj => he j (by omega)⟩, cl.trans (by
          refine XS.iloadN X0.here hexec rfl (hb hbytes d9) rfl ?_
          refine XS.aloadN X0.here hexec rfl (hb hbytes d10) rfl rfl ?_
          refine X0.alen hexec hA0 rfl rfl (hb hbytes d11) ?_
          refine XS.icmpYes X0.here hexec rfl (pc0 := 12) rfl (hb hbytes d12) rfl (ii_ge_t (nlt32 (by omega) (by omega))) (by decide) rfl ?_
          refine iconstV X0.here hexec rfl 1 (hb hbytes d32) (by decide) ?_
          exact Steps.refl _)⟩
      | succ r ih =>
        intro i hi he cl
        have c4 : Steps p.tables e below (s₁.setTop (entryFrame m #[.ref a, .ref b] 3)) (s₁.setTop (mkF m 21 #[.val (.ref a), .val (.ref b), .val (.int (Int32.ofNat i))] [.int (yv B i), .int (yv A i)])) := cl.trans (by
          refine XS.iloadN X0.here hexec rfl (hb hbytes d9) rfl ?_
          refine XS.aloadN X0.here hexec rfl (hb hbytes d10) rfl rfl ?_
          refine X0.alen hexec hA0 rfl rfl (hb hbytes d11) ?_
          refine XS.icmpNo X0.here hexec rfl (hb hbytes d12) rfl (ii_ge_f (lt32 (by omega) (by omega))) ?_
          refine XS.aloadN X0.here hexec rfl (hb hbytes d15) rfl rfl ?_
          refine XS.iloadN X0.here hexec rfl (hb hbytes d16) rfl ?_
          refine X0.aget hexec hA0 rfl (yv_get hA tA (i := i) (by omega)) rfl rfl (hb hbytes d17) ?_
          refine XS.aloadN X0.here hexec rfl (hb hbytes d18) rfl rfl ?_
          refine XS.iloadN X0.here hexec rfl (hb hbytes d19) rfl ?_
          refine X0.aget hexec hB0 rfl (yv_get hB tB (i := i) (by omega)) rfl rfl (hb hbytes d20) ?_
          exact Steps.refl _)
        by_cases hv : yv A i = yv B i
        · have c5 : Steps p.tables e below (s₁.setTop (entryFrame m #[.ref a, .ref b] 3)) (s₁.setTop (mkF m 9 #[.val (.ref a), .val (.ref b), .val (.int (Int32.ofNat i + 1))] [])) := c4.trans (by
            refine XS.icmpYes X0.here hexec rfl (pc0 := 21) rfl (hb hbytes d21) rfl (ii_eq_t hv) (by decide) rfl ?_
            refine iincV X0.here hexec rfl 1 (hb hbytes d26) (by decide) rfl rfl ?_
            refine XS.goto X0.here hexec rfl (pc0 := 29) rfl (hb hbytes d29) (by decide) rfl ?_
            exact Steps.refl _)
          rw [succ32] at c5
          exact ih (i + 1) (by omega) (fun j hj => by
            by_cases e : j = i
            · rw [e]; exact hv
            · exact he j (by omega)) c5
        · exact ⟨25, _, 0, Or.inl rfl, Or.inr ⟨rfl, fun q => hv (q.2 i (by omega))⟩, c4.trans (by
            refine XS.icmpNo X0.here hexec rfl (hb hbytes d21) rfl (ii_eq_f hv) ?_
            refine iconstV X0.here hexec rfl 0 (hb hbytes d24) (by decide) ?_
            exact Steps.refl _)⟩
    obtain ⟨pc, Ls, v, hpc, hv, cz⟩ := loop A.slots.size 0 (by omega) (fun j hj => absurd hj (Nat.not_lt_zero j)) c3
    have nv : narrow .boolean (.int v) = .int v := by rcases hv with ⟨rfl, -⟩ | ⟨rfl, -⟩ <;> rfl
    rcases hpc with rfl | rfl
    · exact ⟨s₁, some (.int v), _, _, _, X0, rfl, rfl, rfl, (fun h => by cases h), ⟨v, rfl, hh0, hv⟩, fun fs hl => cz.trans (X0.ireturnOut hexec hret nv (Or.inr (Or.inl rfl)) (hb hbytes d25) hl)⟩
    · exact ⟨s₁, some (.int v), _, _, _, X0, rfl, rfl, rfl, (fun h => by cases h), ⟨v, rfl, hh0, hv⟩, fun fs hl => cz.trans (X0.ireturnOut hexec hret nv (Or.inr (Or.inl rfl)) (hb hbytes d33) hl)⟩
  · have c3 : Steps p.tables e below (s₁.setTop (entryFrame m #[.ref a, .ref b] 3)) (s₁.setTop (mkF m 35 #[.val (.ref a), .val (.ref b), .unset] [.int 0])) := c2.trans (by
      refine XS.icmpYes X0.here hexec rfl (pc0 := 4) rfl (hb hbytes d4) rfl (ii_ne_t (ne32 a31 b31 hs)) (by decide) rfl ?_
      refine iconstV X0.here hexec rfl 0 (hb hbytes d34) (by decide) ?_
      exact Steps.refl _)
    exact ⟨s₁, some (.int 0), _, _, _, X0, rfl, rfl, rfl, (fun h => by cases h), ⟨0, rfl, hh0, Or.inr ⟨rfl, fun q => hs q.1⟩⟩, fun fs hl => c3.trans (X0.ireturnOut hexec hret rfl (Or.inr (Or.inl rfl)) (hb hbytes d35) hl)⟩
end LEq
theorem Cod.ty {cd : Int32} {n : Nat} {f : Nat → Int32} {V : Cell} (h : Cod cd n f V) : Typed .byte V := fun i v hv => by
  have hi : i < V.slots.size := (Array.getElem?_eq_some_iff.mp hv).1
  rcases h with ⟨-, k1, k2⟩ | ⟨-, k1, k2, -⟩
  · rw [(k2 i (by omega)).1] at hv; cases hv; exact fits_lo8 _
  · rcases Nat.mod_two_eq_zero_or_one i with e | e
    · obtain ⟨j, rfl⟩ : ∃ j, i = 2 * j := ⟨i / 2, by omega⟩
      rw [(k2 j (by omega)).1] at hv; cases hv; exact fits_lo8 _
    · obtain ⟨j, rfl⟩ : ∃ j, i = 2 * j + 1 := ⟨i / 2, by omega⟩
      rw [(k2 j (by omega)).2] at hv; cases hv; exact fits_lo8 _
/-- the same text -/
def SameT (n : Nat) (f : Nat → Int32) (k : Nat) (g : Nat → Int32) : Prop := n = k ∧ ∀ j, j < n → f j = g j
theorem lo8_inj {x y : Int32} (h0 : ¬ x < 0) (h1 : ¬ 255 < x) (k0 : ¬ y < 0) (k1 : ¬ 255 < y) (h : lo8 x = lo8 y) : x = y := by
  rw [← lo8_mask h0 h1, ← lo8_mask k0 k1, h]
/-- arrays coded by one coder are equal just where the texts are -/
theorem Cod.eqv {cd : Int32} {n k : Nat} {f g : Nat → Int32} {V V' : Cell} (h : Cod cd n f V) (h' : Cod cd k g V') (hf : ∀ j, j < n → ¬ f j < 0 ∧ ¬ 65535 < f j) (hg : ∀ j, j < k → ¬ g j < 0 ∧ ¬ 65535 < g j) : EqC V V' ↔ SameT n f k g := by
  have yvv : ∀ {W : Cell} {i : Nat} {x : Int32}, W.slots[i]? = some (.int x) → yv W i = x := fun q => by unfold yv; rw [q]
  rcases h with ⟨rfl, k1, k2⟩ | ⟨rfl, k1, k2, -⟩
  · rcases h' with ⟨-, m1, m2⟩ | ⟨e, -⟩
    · constructor
      · rintro ⟨e1, e2⟩
        refine ⟨by omega, fun j hj => ?_⟩
        have q := e2 j (by omega)
        rw [yvv (k2 j hj).1, yvv (m2 j (by omega)).1] at q
        exact lo8_inj (hf j hj).1 (k2 j hj).2 (hg j (by omega)).1 (m2 j (by omega)).2 q
      · rintro ⟨rfl, e2⟩
        refine ⟨by omega, fun j hj => ?_⟩
        rw [yvv (k2 j (by omega)).1, yvv (m2 j (by omega)).1, e2 j (by omega)]
    · exact absurd e (by decide)
  · rcases h' with ⟨e, -⟩ | ⟨-, m1, m2, -⟩
    · exact absurd e (by decide)
    · constructor
      · rintro ⟨e1, e2⟩
        refine ⟨by omega, fun j hj => ?_⟩
        have q1 := e2 (2 * j) (by omega)
        have q2 := e2 (2 * j + 1) (by omega)
        rw [yvv (k2 j hj).1, yvv (m2 j (by omega)).1] at q1
        rw [yvv (k2 j hj).2, yvv (m2 j (by omega)).2] at q2
        rw [← pair_says (hf j hj).1 (hf j hj).2, ← pair_says (hg j (by omega)).1 (hg j (by omega)).2, q1, q2]
      · rintro ⟨rfl, e2⟩
        refine ⟨by omega, fun i hi => ?_⟩
        rcases Nat.mod_two_eq_zero_or_one i with e | e
        · obtain ⟨j, rfl⟩ : ∃ j, i = 2 * j := ⟨i / 2, by omega⟩
          rw [yvv (k2 j (by omega)).1, yvv (m2 j (by omega)).1, e2 j (by omega)]
        · obtain ⟨j, rfl⟩ : ∃ j, i = 2 * j + 1 := ⟨i / 2, by omega⟩
          rw [yvv (k2 j (by omega)).2, yvv (m2 j (by omega)).2, e2 j (by omega)]
/-- two codings differ: so do the texts -/
theorem Cod.dif {cd cd' : Int32} {n k : Nat} {f g : Nat → Int32} {V V' : Cell} (h : Cod cd n f V) (h' : Cod cd' k g V') (hne : ¬ cd = cd') : ¬ SameT n f k g := by
  rintro ⟨rfl, e⟩
  rcases h with ⟨rfl, -, k2⟩ | ⟨rfl, -, -, j, hj, hw⟩
  · rcases h' with ⟨rfl, -⟩ | ⟨-, -, -, j, hj, hw⟩
    · exact hne rfl
    · exact (k2 j hj).2 (by rw [e j hj]; exact hw)
  · rcases h' with ⟨-, -, m2⟩ | ⟨rfl, -⟩
    · exact (m2 j hj).2 (by rw [← e j hj]; exact hw)
    · exact hne rfl
/-- an object of exactly C is an instance of C -/
theorem cinst {p : Program} {l : Launch} {e : Env} {R : Room} {s : State} {m : MethodId} {args : Array Value} {below : List Frame} {meth : Method} {c : Code} {T : State} {locs : List Loc} {cells slots : Nat} (X : Stand p l e R s m args below meth c T locs cells slots) (hexec : p.tables.exec = Jvm.exec) {own C : String} {index : Nat} (hown : s.vm.findClass own = some m.cls) (hlink : (Cond.classLink own index C).before args s = true) {a : Addr} (hE : Exact C a T)
    {g : JFrame} (hg : g.method = m) {rest : List Value} (hstack : g.stack = .ref a :: rest) (hdg : decode c.code g.pc = .ok (.instanceof index, 3)) :
    ∃ T', Stand p l e R s m args below meth c T' locs cells slots ∧ T'.heap = T.heap ∧ ∀ target, Steps p.tables e below (T'.setTop { g with pc := g.pc + 3, stack := .int 1 :: rest }) target → Steps p.tables e below (T.setTop g) target := by
  obtain ⟨cB, h1, D, h2, h3, h4⟩ := hE
  have h1' : s.vm.findClass C = some cB := by rw [← X.warmed.alike.findClass]; exact h1
  obtain ⟨vm', X', st⟩ := X.instanceofYes hexec hown hlink h2 h4 h1' (by rw [h3]; exact Jvm.Free.SB.assignable_self _ _) hg hstack hdg
  exact ⟨_, X', rfl, st⟩
theorem cself {p : Program} {l : Launch} {e : Env} {R : Room} {s : State} {m : MethodId} {args : Array Value} {below : List Frame} {meth : Method} {c : Code} {T : State} {locs : List Loc} {cells slots : Nat} (X : Stand p l e R s m args below meth c T locs cells slots) (hexec : p.tables.exec = Jvm.exec) {own C : String} {index : Nat} (hown : s.vm.findClass own = some m.cls) (hlink : (Cond.classLink own index C).before args s = true) {a : Addr} (hE : Exact C a T)
    {g : JFrame} (hg : g.method = m) {rest : List Value} (hstack : g.stack = .ref a :: rest) (hdg : decode c.code g.pc = .ok (.checkcast index, 3)) :
    ∃ T', Stand p l e R s m args below meth c T' locs cells slots ∧ T'.heap = T.heap ∧ ∀ target, Steps p.tables e below (T'.setTop { g with pc := g.pc + 3, stack := .ref a :: rest }) target → Steps p.tables e below (T.setTop g) target := by
  obtain ⟨cB, h1, D, h2, h3, h4⟩ := hE
  have h1' : s.vm.findClass C = some cB := by rw [← X.warmed.alike.findClass]; exact h1
  obtain ⟨vm', X', st⟩ := X.checkcastYes hexec hown hlink h2 h4 h1' (by rw [h3]; exact Jvm.Free.SB.assignable_self _ _) hg hstack hdg
  exact ⟨_, X', rfl, fun t h => st t (by rw [← hstack] at h; exact h)⟩
namespace SEq
def yN : MethodName := ⟨"java/lang/String", "equals", "(Ljava/lang/Object;)Z"⟩
abbrev yB : ByteArray := jdk_42_method_66_code
theorem d0 : decode yB 0 = .ok (.aload_n 0, 1) := by decide +kernel
theorem d1 : decode yB 1 = .ok (.aload_n 1, 1) := by decide +kernel
theorem d2 : decode yB 2 = .ok (.if_acmp (.ne) 5, 3) := by decide +kernel
theorem d5 : decode yB 5 = .ok (.iconst 1, 1) := by decide +kernel
theorem d6 : decode yB 6 = .ok (.ireturn, 1) := by decide +kernel
theorem d7 : decode yB 7 = .ok (.aload_n 1, 1) := by decide +kernel
theorem d8 : decode yB 8 = .ok (.instanceof 10, 3) := by decide +kernel
theorem d11 : decode yB 11 = .ok (.ifCond (.eq) 43, 3) := by decide +kernel
theorem d14 : decode yB 14 = .ok (.aload_n 1, 1) := by decide +kernel
theorem d15 : decode yB 15 = .ok (.checkcast 10, 3) := by decide +kernel
theorem d18 : decode yB 18 = .ok (.astore_n 2, 1) := by decide +kernel
theorem d19 : decode yB 19 = .ok (.getstatic 38, 3) := by decide +kernel
theorem d22 : decode yB 22 = .ok (.ifCond (.eq) 14, 3) := by decide +kernel
theorem d25 : decode yB 25 = .ok (.aload_n 0, 1) := by decide +kernel
theorem d26 : decode yB 26 = .ok (.getfield 15, 3) := by decide +kernel
theorem d29 : decode yB 29 = .ok (.aload_n 2, 1) := by decide +kernel
theorem d30 : decode yB 30 = .ok (.getfield 15, 3) := by decide +kernel
theorem d33 : decode yB 33 = .ok (.if_icmp (.ne) 21, 3) := by decide +kernel
theorem d36 : decode yB 36 = .ok (.aload_n 0, 1) := by decide +kernel
theorem d37 : decode yB 37 = .ok (.getfield 9, 3) := by decide +kernel
theorem d40 : decode yB 40 = .ok (.aload_n 2, 1) := by decide +kernel
theorem d41 : decode yB 41 = .ok (.getfield 9, 3) := by decide +kernel
theorem d44 : decode yB 44 = .ok (.invokestatic 541, 3) := by decide +kernel
theorem d47 : decode yB 47 = .ok (.ifCond (.eq) 7, 3) := by decide +kernel
theorem d50 : decode yB 50 = .ok (.iconst 1, 1) := by decide +kernel
theorem d51 : decode yB 51 = .ok (.goto 4, 3) := by decide +kernel
theorem d54 : decode yB 54 = .ok (.iconst 0, 1) := by decide +kernel
theorem d55 : decode yB 55 = .ok (.ireturn, 1) := by decide +kernel
def site : List Cond := [.classLink "java/lang/String" 10 "java/lang/String", .fieldLink "java/lang/String" 38 "java/lang/String" "COMPACT_STRINGS" "Z", .fieldLink "java/lang/String" 15 "java/lang/String" "coder" "B", .fieldLink "java/lang/String" 9 "java/lang/String" "value" "[B", LEq.tab] ++ staticW "java/lang/String" 541 LEq.yN
def tab : Cond := tabOf yN yB 3 (some .boolean) site
def P (x t : Addr) (V : Cell) (cd : Int32) (n : Nat) (f : Nat → Int32) (y t' : Addr) (V' : Cell) (cd' : Int32) (k : Nat) (g : Nat → Int32) (z : Int32) (args : Array Value) (s : State) : Prop := args = #[.ref x, .ref y] ∧ Txt x t V cd n f s ∧ Txt y t' V' cd' k g s ∧ StaticIs s "java/lang/String" "COMPACT_STRINGS" "Z" (.int z) ∧ ¬ z = 0
/-- equals(Object) of two Strings: whether the texts are the same -/
theorem law (l : Launch) (x t : Addr) (V : Cell) (cd : Int32) (n : Nat) (f : Nat → Int32) (y t' : Addr) (V' : Cell) (cd' : Int32) (k : Nat) (g : Nat → Int32) (z : Int32) : Law l yN 2 1 1 14 yB 3 (some .boolean) site (P x t V cd n f y t' V' cd' k g z) (Says01 (SameT n f k g)) [] 0 0 := by
  refine Law.of_walk (plainFor_of_name (by decide +kernel)) (by decide +kernel) (by decide +kernel) (by decide) (fun _ _ h => by rw [h.1]; rfl) (fun _ U U' hal hh h => ⟨h.1, h.2.1.mv hal hh, h.2.2.1.mv hal hh, h.2.2.2.1.there hal hh, h.2.2.2.2⟩) (fun r U U' V V' h1 hal h2 h => Says01.mv r U U' V V' h1 hal h2 h) ?_
  intro p e s m args below meth c s₁ X0 hexec hbytes hml hret hlk hnm hown hh0 W hP
  obtain ⟨rfl, hx, hy, s1, hz⟩ := hP
  have c1 : Steps p.tables e below (s₁.setTop (entryFrame m #[.ref x, .ref y] 3)) (s₁.setTop (mkF m 2 #[.val (.ref x), .val (.ref y), .unset] [.ref y, .ref x])) := Steps.trans (entry rfl) (by
    show Steps p.tables e below (s₁.setTop (mkF m 0 #[.val (.ref x), .val (.ref y), .unset] [])) _
    refine XS.aloadN X0.here hexec rfl (hb hbytes d0) rfl rfl ?_
    refine XS.aloadN X0.here hexec rfl (hb hbytes d1) rfl rfl ?_
    exact Steps.refl _)
  by_cases hxy : x = y
  · have c2 : Steps p.tables e below (s₁.setTop (entryFrame m #[.ref x, .ref y] 3)) (s₁.setTop (mkF m 6 #[.val (.ref x), .val (.ref y), .unset] [.int 1])) := c1.trans (by
      refine acmpNo X0.here hexec rfl (hb hbytes d2) rfl rfl rfl (by simp [acmp, hxy]) ?_
      refine iconstV X0.here hexec rfl 1 (hb hbytes d5) (by decide) ?_
      exact Steps.refl _)
    subst hxy
    have ec : cd = cd' := by
      obtain ⟨D, fd, a1, a2, a3⟩ := hx.2.2.1
      obtain ⟨D', fd', b1, b2, b3⟩ := hy.2.2.1
      cases a1.symm.trans b1
      obtain ⟨q1, q2, q3, q4⟩ := a2.1
      obtain ⟨r1, r2, r3, r4⟩ := b2.1
      cases q4.symm.trans r4
      cases a3.symm.trans b3; rfl
    have et : t = t' := by
      obtain ⟨D, fd, a1, a2, a3⟩ := hx.2.1
      obtain ⟨D', fd', b1, b2, b3⟩ := hy.2.1
      cases a1.symm.trans b1
      obtain ⟨q1, q2, q3, q4⟩ := a2.1
      obtain ⟨r1, r2, r3, r4⟩ := b2.1
      cases q4.symm.trans r4
      cases a3.symm.trans b3; rfl
    subst ec et
    have ev : V = V' := by cases hx.2.2.2.1.1.symm.trans hy.2.2.2.1.1; rfl
    subst ev
    have hs : SameT n f k g := (Cod.eqv hx.2.2.2.2.1 hy.2.2.2.2.1 hx.2.2.2.2.2 hy.2.2.2.2.2).mp ⟨rfl, fun _ _ => rfl⟩
    exact ⟨s₁, some (.int 1), _, _, _, X0, rfl, rfl, rfl, (fun h => by cases h), ⟨1, rfl, hh0, Or.inl ⟨rfl, hs⟩⟩, fun fs hl => c2.trans (X0.ireturnOut hexec hret rfl (Or.inr (Or.inl rfl)) (hb hbytes d6) hl)⟩
  · have c2 : Steps p.tables e below (s₁.setTop (entryFrame m #[.ref x, .ref y] 3)) (s₁.setTop (mkF m 8 #[.val (.ref x), .val (.ref y), .unset] [.ref y])) := c1.trans (by
      refine acmpYes X0.here hexec rfl (pc0 := 2) rfl (hb hbytes d2) rfl rfl rfl (by simp [acmp, hxy]) (by decide) rfl ?_
      refine XS.aloadN X0.here hexec rfl (hb hbytes d7) rfl rfl ?_
      exact Steps.refl _)
    obtain ⟨T3, X3, q3, st3⟩ := cinst X0 hexec hown (wk W (.classLink "java/lang/String" 10 "java/lang/String")) (hy.mv X0.warmed.alike hh0).1 (g := (mkF m 8 #[.val (.ref x), .val (.ref y), .unset] [.ref y])) rfl (rest := []) rfl (hb hbytes d8)
    have hh3 := q3.trans hh0
    have c4 : Steps p.tables e below (s₁.setTop (entryFrame m #[.ref x, .ref y] 3)) (T3.setTop (mkF m 15 #[.val (.ref x), .val (.ref y), .unset] [.ref y])) := (c2.trans (st3 _ (Steps.refl _))).trans (by
      refine XS.ifNo X3.here hexec rfl (hb hbytes d11) rfl (i0_eq_f (by decide)) ?_
      refine XS.aloadN X3.here hexec rfl (hb hbytes d14) rfl rfl ?_
      exact Steps.refl _)
    obtain ⟨T5, X5, q5, st5⟩ := cself X3 hexec hown (wk W (.classLink "java/lang/String" 10 "java/lang/String")) (hy.mv X3.warmed.alike hh3).1 (g := (mkF m 15 #[.val (.ref x), .val (.ref y), .unset] [.ref y])) rfl (rest := []) rfl (hb hbytes d15)
    have hh5 := q5.trans hh3
    have c6 : Steps p.tables e below (s₁.setTop (entryFrame m #[.ref x, .ref y] 3)) (T5.setTop (mkF m 19 #[.val (.ref x), .val (.ref y), .val (.ref y)] [])) := (c4.trans (st5 _ (Steps.refl _))).trans (by
      refine XS.astoreN X5.here hexec rfl (hb hbytes d18) rfl rfl rfl ?_
      exact Steps.refl _)
    obtain ⟨T7, X7, q7, st7⟩ := X5.sget hexec hown (wk W (.fieldLink "java/lang/String" 38 "java/lang/String" "COMPACT_STRINGS" "Z")) s1 (fun _ _ h => by rw [hh5]; exact h) (g := (mkF m 19 #[.val (.ref x), .val (.ref y), .val (.ref y)] [])) rfl (hb hbytes d19)
    have hh7 := q7.trans hh5
    have c8 : Steps p.tables e below (s₁.setTop (entryFrame m #[.ref x, .ref y] 3)) (T7.setTop (mkF m 26 #[.val (.ref x), .val (.ref y), .val (.ref y)] [.ref x])) := (c6.trans (st7 _ (Steps.refl _))).trans (by
      refine XS.ifNo X7.here hexec rfl (hb hbytes d22) rfl (i0_eq_f hz) ?_
      refine XS.aloadN X7.here hexec rfl (hb hbytes d25) rfl rfl ?_
      exact Steps.refl _)
    obtain ⟨T9, X9, q9, st9⟩ := X7.hget hexec hown (wk W (.fieldLink "java/lang/String" 15 "java/lang/String" "coder" "B")) (hx.mv X7.warmed.alike hh7).2.2.1 (g := (mkF m 26 #[.val (.ref x), .val (.ref y), .val (.ref y)] [.ref x])) rfl (rest := []) rfl (hb hbytes d26)
    have hh9 := q9.trans hh7
    have c10 : Steps p.tables e below (s₁.setTop (entryFrame m #[.ref x, .ref y] 3)) (T9.setTop (mkF m 30 #[.val (.ref x), .val (.ref y), .val (.ref y)] [.ref y, .int cd])) := (c8.trans (st9 _ (Steps.refl _))).trans (by
      refine XS.aloadN X9.here hexec rfl (hb hbytes d29) rfl rfl ?_
      exact Steps.refl _)
    obtain ⟨T11, X11, q11, st11⟩ := X9.hget hexec hown (wk W (.fieldLink "java/lang/String" 15 "java/lang/String" "coder" "B")) (hy.mv X9.warmed.alike hh9).2.2.1 (g := (mkF m 30 #[.val (.ref x), .val (.ref y), .val (.ref y)] [.ref y, .int cd])) rfl (rest := [.int cd]) rfl (hb hbytes d30)
    have hh11 := q11.trans hh9
    have c12 : Steps p.tables e below (s₁.setTop (entryFrame m #[.ref x, .ref y] 3)) (T11.setTop (mkF m 33 #[.val (.ref x), .val (.ref y), .val (.ref y)] [.int cd', .int cd])) := c10.trans (st11 _ (Steps.refl _))
    by_cases hcd : cd = cd'
    · subst hcd
      have c13 : Steps p.tables e below (s₁.setTop (entryFrame m #[.ref x, .ref y] 3)) (T11.setTop (mkF m 37 #[.val (.ref x), .val (.ref y), .val (.ref y)] [.ref x])) := c12.trans (by
        refine XS.icmpNo X11.here hexec rfl (hb hbytes d33) rfl (ii_ne_f rfl) ?_
        refine XS.aloadN X11.here hexec rfl (hb hbytes d36) rfl rfl ?_
        exact Steps.refl _)
      obtain ⟨T14, X14, q14, st14⟩ := X11.hget hexec hown (wk W (.fieldLink "java/lang/String" 9 "java/lang/String" "value" "[B")) (hx.mv X11.warmed.alike hh11).2.1 (g := (mkF m 37 #[.val (.ref x), .val (.ref y), .val (.ref y)] [.ref x])) rfl (rest := []) rfl (hb hbytes d37)
      have hh14 := q14.trans hh11
      have c15 : Steps p.tables e below (s₁.setTop (entryFrame m #[.ref x, .ref y] 3)) (T14.setTop (mkF m 41 #[.val (.ref x), .val (.ref y), .val (.ref y)] [.ref y, .ref t])) := (c13.trans (st14 _ (Steps.refl _))).trans (by
        refine XS.aloadN X14.here hexec rfl (hb hbytes d40) rfl rfl ?_
        exact Steps.refl _)
      obtain ⟨T16, X16, q16, st16⟩ := X14.hget hexec hown (wk W (.fieldLink "java/lang/String" 9 "java/lang/String" "value" "[B")) (hy.mv X14.warmed.alike hh14).2.1 (g := (mkF m 41 #[.val (.ref x), .val (.ref y), .val (.ref y)] [.ref y, .ref t])) rfl (rest := [.ref t]) rfl (hb hbytes d41)
      have hh16 := q16.trans hh14
      have c17 : Steps p.tables e below (s₁.setTop (entryFrame m #[.ref x, .ref y] 3)) (T16.setTop (mkF m 44 #[.val (.ref x), .val (.ref y), .val (.ref y)] [.ref t', .ref t])) := c15.trans (st16 _ (Steps.refl _))
      obtain ⟨v18, T18, X18, E18, g18⟩ := X16.callS hexec (LEq.law l t V t' V') hown (wks W (staticW "java/lang/String" 541 LEq.yN)) (wk W LEq.tab) (W := 0) (Nat.le_of_ble_eq_true rfl) (Nat.le_of_ble_eq_true rfl) (Nat.le_refl _) (Nat.le_refl _) (g := (mkF m 44 #[.val (.ref x), .val (.ref y), .val (.ref y)] [.ref t', .ref t])) rfl (by rw [hml]; rfl) c17 (argsL := [.ref t, .ref t']) (rest := []) rfl rfl (by show 2 * 0 + 0 ≤ _; decide) (hb hbytes d44) (⟨rfl, hx.2.2.2.1.mv X16.warmed.alike hh16, hx.2.2.2.2.1.ty, hy.2.2.2.1.mv X16.warmed.alike hh16, hy.2.2.2.2.1.ty⟩)
      obtain ⟨v, rfl, q18, hv⟩ := E18
      have iff := Cod.eqv hx.2.2.2.2.1 hy.2.2.2.2.1 hx.2.2.2.2.2 hy.2.2.2.2.2
      rcases hv with ⟨rfl, he⟩ | ⟨rfl, he⟩
      · have c19 : Steps p.tables e below (s₁.setTop (entryFrame m #[.ref x, .ref y] 3)) (T18.setTop (mkF m 55 #[.val (.ref x), .val (.ref y), .val (.ref y)] [.int 1])) := Steps.trans g18 (by
          refine XS.ifNo X18.here hexec rfl (hb hbytes d47) rfl (i0_eq_f (by decide)) ?_
          refine iconstV X18.here hexec rfl 1 (hb hbytes d50) (by decide) ?_
          refine XS.goto X18.here hexec rfl (pc0 := 51) rfl (hb hbytes d51) (by decide) rfl ?_
          exact Steps.refl _)
        exact ⟨T18, some (.int 1), _, _, _, X18, rfl, rfl, rfl, (fun h => by cases h), ⟨1, rfl, q18.trans hh16, Or.inl ⟨rfl, iff.mp he⟩⟩, fun fs hl => c19.trans (X18.ireturnOut hexec hret rfl (Or.inr (Or.inl rfl)) (hb hbytes d55) hl)⟩
      · have c19 : Steps p.tables e below (s₁.setTop (entryFrame m #[.ref x, .ref y] 3)) (T18.setTop (mkF m 55 #[.val (.ref x), .val (.ref y), .val (.ref y)] [.int 0])) := Steps.trans g18 (by
          refine XS.ifYes X18.here hexec rfl (pc0 := 47) rfl (hb hbytes d47) rfl (i0_eq_t rfl) (by decide) rfl ?_
          refine iconstV X18.here hexec rfl 0 (hb hbytes d54) (by decide) ?_
          exact Steps.refl _)
        exact ⟨T18, some (.int 0), _, _, _, X18, rfl, rfl, rfl, (fun h => by cases h), ⟨0, rfl, q18.trans hh16, Or.inr ⟨rfl, fun q => he (iff.mpr q)⟩⟩, fun fs hl => c19.trans (X18.ireturnOut hexec hret rfl (Or.inr (Or.inl rfl)) (hb hbytes d55) hl)⟩
    · have c13 : Steps p.tables e below (s₁.setTop (entryFrame m #[.ref x, .ref y] 3)) (T11.setTop (mkF m 55 #[.val (.ref x), .val (.ref y), .val (.ref y)] [.int 0])) := c12.trans (by
        refine XS.icmpYes X11.here hexec rfl (pc0 := 33) rfl (hb hbytes d33) rfl (ii_ne_t hcd) (by decide) rfl ?_
        refine iconstV X11.here hexec rfl 0 (hb hbytes d54) (by decide) ?_
        exact Steps.refl _)
      exact ⟨T11, some (.int 0), _, _, _, X11, rfl, rfl, rfl, (fun h => by cases h), ⟨0, rfl, hh11, Or.inr ⟨rfl, Cod.dif hx.2.2.2.2.1 hy.2.2.2.2.1 hcd⟩⟩, fun fs hl => c13.trans (X11.ireturnOut hexec hret rfl (Or.inr (Or.inl rfl)) (hb hbytes d55) hl)⟩
theorem pays {l : Launch} {R : Room} {p : Program} {e : Env} {below : List Frame} {s : State} {sargs : Array Value} {len W : Nat} (x t : Addr) (V : Cell) (cd : Int32) (n : Nat) (f : Nat → Int32) (y t' : Addr) (V' : Cell) (cd' : Int32) (k : Nat) (g : Nat → Int32) (z : Int32) (htab : tab.before sargs s = true) (hfr : 2 ≤ R.frames) (hlo : W + 28 ≤ R.locals) :
    Back l R p e below s sargs yN len W (fun A₁ a₁ => A₁.cells + 0 ≤ R.cells ∧ A₁.slots + 0 ≤ R.slots ∧ P x t V cd n f y t' V' cd' k g z a₁ A₁.U) (fun A₁ _ v₁ B₁ => Says01 (SameT n f k g) v₁ A₁.U B₁.U ∧ B₁.locs = A₁.locs ++ [] ∧ B₁.cells = A₁.cells + 0 ∧ B₁.slots = A₁.slots + 0) :=
  (law l x t V cd n f y t' V' cd' k g z).pays htab hfr (by omega)
end SEq
end StrChars
namespace StrChars.Road
open Jvm Sem ClassFile Op Lib Jvm.Stand Jvm.Free Jvm.Free.XT
open Jvm.Lib.Cold (StaticIs)
/-- the words of String.equals(Object) -/
abbrev wordsEq : List Jvm.Cond := [.code SEq.yN SEq.yB 3 (some .boolean), .initialized ST, .classLink ST 10 ST, .fieldLink ST 38 ST "COMPACT_STRINGS" "Z", .fieldLink ST 15 ST "coder" "B", .fieldLink ST 9 ST "value" "[B", .methodLink ST 541 LEq.yN, .static LEq.yN, .code LEq.yN LEq.yB 3 (some .boolean), .initialized "java/lang/StringLatin1"]
theorem tabEq_of {a : Array Value} {s : State} (h : ∀ w ∈ wordsEq, w.before a s = true) : SEq.tab.before a s = true := by
  have hl : LEq.tab.before a s = true := unparts (wk h (.code LEq.yN LEq.yB 3 (some .boolean))) (wks h (.initialized LEq.yN.cls :: LEq.site))
  have q := consq hl h
  exact unparts (wk q (.code SEq.yN SEq.yB 3 (some .boolean))) (wks q (.initialized SEq.yN.cls :: SEq.site))
theorem movedEq {Z s : State} {a0 args : Array Value} (hZ : Z.Warmed39 s.vm) (hw : ∀ d ∈ wordsEq, d.before a0 Z = true) : ∀ d ∈ wordsEq, d.before args s = true := fun d hd => by
  have t : ∀ d ∈ wordsEq, (d.onTables && d.keepsFace) = true := by decide +kernel
  exact RoadKit.mv hZ (hw d hd) (t d hd)
/-- the road's facts of a String, as the laws ask it -/
theorem txt_of {Z U : State} {a0 : Array Value} {kI : Nat} (wi : (Jvm.Cond.instantiable ST kI).before a0 Z = true) (al : Z.vm.Alike U.vm) {x t : Addr} {kb : ClassId} {cs : List Int32} {cd N2 : Int32} {vs : List Value} (E : RoadKit.Exa Z U.heap x ST) (V : RoadKit.Fld Z U.heap x ST "value" "[B" (.ref t)) (C : RoadKit.Fld Z U.heap x ST "coder" "B" (.int cd)) (K : RoadKit.Arv Z U.heap t kb .byte N2 vs (.int 0)) (hc : CodA cs cd N2 vs) (hb : ∀ c ∈ cs, ¬ c < 0 ∧ ¬ (65535 : Int32) < c) (l2 : cs.length ≤ 4000) :
    ∃ A, Txt x t A cd cs.length (fun j => cs.getD j 0) U := by
  obtain ⟨A, K1, K2, K3, K4, K5, K6⟩ := K
  have hcod := hc.cod (by omega) K3 K5
  obtain ⟨D, fV, fC, hB, F1, F2, g1, g2, -, -⟩ := strObj wi al E V C
  exact ⟨A, ⟨_, hB.2.2.1, D, hB.1, rfl, by cases q : D.vm <;> first | rfl | exact absurd q (hB.2.1.2 _)⟩, Has.of hB F1 g1, Has.of hB F2 g2, ⟨K1.1, State.isArrayOf_alike al K1.2.1, K1.2.2, by rcases hcod with ⟨-, q, -⟩ | ⟨-, q, -⟩ <;> omega⟩, hcod, fun j hj => by
    have e : cs.getD j 0 = cs[j] := by simp [List.getD_eq_getElem?_getD, hj]
    show ¬ cs.getD j 0 < 0 ∧ ¬ 65535 < cs.getD j 0
    rw [e]; exact hb _ (List.getElem_mem _)⟩
theorem same_list (cs ds : List Int32) : SameT cs.length (fun j => cs.getD j 0) ds.length (fun j => ds.getD j 0) ↔ cs = ds := by
  constructor
  · rintro ⟨e, q⟩
    refine List.ext_getElem e fun j h1 h2 => ?_
    have := q j h1
    simpa [List.getD_eq_getElem?_getD, h1, h2] using this
  · rintro rfl
    exact ⟨rfl, fun _ _ => rfl⟩
/-- **equals(Object) OF TWO SUCH STRINGS**: 1 just where the chars are the same -/
theorem eqW {p : Program} {l : Launch} {e : Env} {R : Room} {s : State} {args : Array Value} {below : List Frame} {len W : Nat} {Z : State} {a0 : Array Value} {h : Heap} (hZ : Z.Warmed39 s.vm) (hw : ∀ d ∈ wordsEq, d.before a0 Z = true) {kI : Nat} (wi : (Jvm.Cond.instantiable ST kI).before a0 Z = true)
    {x t : Addr} {kb : ClassId} {cs : List Int32} {cd N2 : Int32} {vs : List Value} (E : RoadKit.Exa Z h x ST) (V : RoadKit.Fld Z h x ST "value" "[B" (.ref t)) (C : RoadKit.Fld Z h x ST "coder" "B" (.int cd)) (K : RoadKit.Arv Z h t kb .byte N2 vs (.int 0)) (hc : CodA cs cd N2 vs) (hb : ∀ c ∈ cs, ¬ c < 0 ∧ ¬ (65535 : Int32) < c) (l2 : cs.length ≤ 4000)
    {y t' : Addr} {kb' : ClassId} {ds : List Int32} {cd' N2' : Int32} {vs' : List Value} (E' : RoadKit.Exa Z h y ST) (V' : RoadKit.Fld Z h y ST "value" "[B" (.ref t')) (C' : RoadKit.Fld Z h y ST "coder" "B" (.int cd')) (K' : RoadKit.Arv Z h t' kb' .byte N2' vs' (.int 0)) (hc' : CodA ds cd' N2' vs') (hb' : ∀ c ∈ ds, ¬ c < 0 ∧ ¬ (65535 : Int32) < c) (l2' : ds.length ≤ 4000)
    {z : Int32} (S : RoadKit.Sta Z h ST "COMPACT_STRINGS" "Z" (.int z)) (hz : ¬ z = 0) (hfr : 2 ≤ R.frames) (hlo : W + 28 ≤ R.locals) :
    Back l R p e below s args (⟨"java/lang/String", "equals", "(Ljava/lang/Object;)Z"⟩ : MethodName) len W (fun P a => a = #[.ref x, .ref y] ∧ P.U.heap = h ∧ P.cells + 0 ≤ R.cells ∧ P.slots + 0 ≤ R.slots)
      (fun P _ v B => ∃ L, (((v = some (.int 1) ∧ cs = ds) ∨ (v = some (.int 0) ∧ ¬ cs = ds)) ∧ L = [] ∧ B.U.heap = h) ∧ B.locs = P.locs ++ L ∧ B.cells = P.cells + 0 ∧ B.slots = P.slots + 0) := by
  intro m meth c P g ig mk a X hg hsize hdg hW hn hp'
  obtain ⟨rfl, rfl, r1, r2⟩ := hp'
  have al : Z.vm.Alike P.U.vm := hZ.alike.trans X.warmed.alike
  obtain ⟨A, hx⟩ := txt_of wi al E V C K hc hb l2
  obtain ⟨A', hy⟩ := txt_of wi al E' V' C' K' hc' hb' l2'
  obtain ⟨v, B, X', ⟨⟨w, hv, hh, hq⟩, hl, hk, hs⟩, st⟩ := SEq.pays x t A cd cs.length (fun j => cs.getD j 0) y t' A' cd' ds.length (fun j => ds.getD j 0) z (tabEq_of (movedEq hZ hw)) hfr hlo m meth c P g ig mk _ X hg hsize hdg hW hn ⟨r1, r2, rfl, hx, hy, sta_is al S, hz⟩
  refine ⟨v, B, X', ⟨[], ⟨?_, rfl, hh⟩, hl, hk, hs⟩, st⟩
  rcases hq with ⟨rfl, q⟩ | ⟨rfl, q⟩
  · exact Or.inl ⟨hv, (same_list cs ds).mp q⟩
  · exact Or.inr ⟨hv, fun e => q ((same_list cs ds).mpr e)⟩
end StrChars.Road
namespace StrChars
open Jvm Sem ClassFile Op Lib Jvm.Stand Jvm.Free.XT Jvm.Free.ALB Jvm.Free.JM Jvm.Free
open Jvm.Lib.Cold (StaticIs)
namespace ChN
def yN : MethodName := ⟨"java/lang/String", "charAt", "(I)C"⟩
abbrev yB : ByteArray := jdk_42_method_56_code
theorem d0 : decode yB 0 = .ok (.aload_n 0, 1) := by decide +kernel
theorem d1 : decode yB 1 = .ok (.invokevirtual 492, 3) := by decide +kernel
theorem d4 : decode yB 4 = .ok (.ifCond (.eq) 12, 3) := by decide +kernel
theorem d7 : decode yB 7 = .ok (.aload_n 0, 1) := by decide +kernel
theorem d8 : decode yB 8 = .ok (.getfield 9, 3) := by decide +kernel
theorem d11 : decode yB 11 = .ok (.iload_n 1, 1) := by decide +kernel
theorem d12 : decode yB 12 = .ok (.invokestatic 495, 3) := by decide +kernel
theorem d15 : decode yB 15 = .ok (.ireturn, 1) := by decide +kernel
def site : List Cond := [.fieldLink "java/lang/String" 9 "java/lang/String" "value" "[B", IsL.tab, LChA.tab] ++ virtW "java/lang/String" 492 "java/lang/String" IsL.yN IsL.yN ++ staticW "java/lang/String" 495 LChA.yN
def tab : Cond := tabOf yN yB 2 (some .char) site
def P (x t : Addr) (V : Cell) (n : Nat) (f : Nat → Int32) (z : Int32) (fm : Value) (i : Nat) (args : Array Value) (s : State) : Prop := args = #[.ref x, .int (Int32.ofNat i)] ∧ Txt x t V 0 n f s ∧ i < n ∧ StaticIs s "java/lang/String" "COMPACT_STRINGS" "Z" (.int z) ∧ ¬ z = 0 ∧ StaticIs s "jdk/internal/util/Preconditions" "SIOOBE_FORMATTER" "Ljava/util/function/BiFunction;" fm ∧ fm.isRef = true
def E (f : Nat → Int32) (i : Nat) (r : Option Value) (s u : State) : Prop := XT.PureE (some (.int (f i))) r s u
/-- charAt(i) of a Latin-1 String of n chars, i < n: f i -/
theorem law (l : Launch) (x t : Addr) (V : Cell) (n : Nat) (f : Nat → Int32) (z : Int32) (fm : Value) (i : Nat) : Law l yN 2 1 3 40 yB 2 (some .char) site (P x t V n f z fm i) (E f i) [] 0 0 := by
  refine Law.of_walk (plainFor_of_name (by decide +kernel)) (by decide +kernel) (by decide +kernel) (by decide) (fun _ _ h => by rw [h.1]; rfl) (fun _ U U' hal hh h => ⟨h.1, h.2.1.mv hal hh, h.2.2.1, h.2.2.2.1.there hal hh, h.2.2.2.2.1, h.2.2.2.2.2.1.there hal hh, h.2.2.2.2.2.2⟩) (fun r U U' V V' h1 hal h2 h => XT.PureE.mv r U U' V V' h1 hal h2 h) ?_
  intro p e s m args below meth c s₁ X0 hexec hbytes hml hret hlk hnm hown hh0 W hP
  obtain ⟨rfl, hx, hi, s1, hz, s3, rf⟩ := hP
  have v31 := hx.2.2.2.1.2.2.2
  have hr := hx.2.2.2.2.2 i hi
  have hx0 := hx.mv X0.warmed.alike hh0
  have c1 : Steps p.tables e below (s₁.setTop (entryFrame m #[.ref x, .int (Int32.ofNat i)] 2)) (s₁.setTop (mkF m 1 #[.val (.ref x), .val (.int (Int32.ofNat i))] [.ref x])) := Steps.trans (entry rfl) (by
    show Steps p.tables e below (s₁.setTop (mkF m 0 #[.val (.ref x), .val (.int (Int32.ofNat i))] [])) _
    refine XS.aloadN X0.here hexec rfl (hb hbytes d0) rfl rfl ?_
    exact Steps.refl _)
  obtain ⟨v2, T2, X2, E2, g2⟩ := X0.callV hexec (IsL.law l x 0 z) hown (wks W (virtW "java/lang/String" 492 "java/lang/String" IsL.yN IsL.yN)) rfl (by decide) (wk W IsL.tab) (W := 0) (Nat.le_of_ble_eq_true rfl) (Nat.le_of_ble_eq_true rfl) (Nat.le_refl _) (Nat.le_refl _) (hx0.1.fc X0.warmed.alike) hx0.1.is (g := (mkF m 1 #[.val (.ref x), .val (.int (Int32.ofNat i))] [.ref x])) rfl (by rw [hml]; rfl) c1 (argsL := []) (rest := []) rfl rfl (by show 2 * 0 + 0 ≤ _; decide) (hb hbytes d1) (⟨rfl, hx0.2.2.1, hx.2.2.2.2.1.cd, s1.there X0.warmed.alike hh0, hz⟩)
  obtain ⟨rfl, q2⟩ := E2
  have hh2 := q2.trans hh0
  have hx2 := hx.mv X2.warmed.alike hh2
  obtain ⟨-, k1, k2⟩ | ⟨k0, -⟩ := hx.2.2.2.2.1
  · have c3 : Steps p.tables e below (s₁.setTop (entryFrame m #[.ref x, .int (Int32.ofNat i)] 2)) (T2.setTop (mkF m 8 #[.val (.ref x), .val (.int (Int32.ofNat i))] [.ref x])) := Steps.trans g2 (by
      refine XS.ifNo X2.here hexec rfl (hb hbytes d4) rfl (i0_eq_f (by decide)) ?_
      refine XS.aloadN X2.here hexec rfl (hb hbytes d7) rfl rfl ?_
      exact Steps.refl _)
    obtain ⟨T4, X4, q4, st4⟩ := X2.hget hexec hown (wk W (.fieldLink "java/lang/String" 9 "java/lang/String" "value" "[B")) hx2.2.1 (g := (mkF m 8 #[.val (.ref x), .val (.int (Int32.ofNat i))] [.ref x])) rfl (rest := []) rfl (hb hbytes d8)
    have hh4 := q4.trans hh2
    have c5 : Steps p.tables e below (s₁.setTop (entryFrame m #[.ref x, .int (Int32.ofNat i)] 2)) (T4.setTop (mkF m 12 #[.val (.ref x), .val (.int (Int32.ofNat i))] [.int (Int32.ofNat i), .ref t])) := (c3.trans (st4 _ (Steps.refl _))).trans (by
      refine XS.iloadN X4.here hexec rfl (hb hbytes d11) rfl ?_
      exact Steps.refl _)
    obtain ⟨v6, T6, X6, E6, g6⟩ := X4.callS hexec (LChA.law l t V i (lo8 (f i)) fm) hown (wks W (staticW "java/lang/String" 495 LChA.yN)) (wk W LChA.tab) (W := 0) (Nat.le_of_ble_eq_true rfl) (Nat.le_of_ble_eq_true rfl) (Nat.le_refl _) (Nat.le_refl _) (g := (mkF m 12 #[.val (.ref x), .val (.int (Int32.ofNat i))] [.int (Int32.ofNat i), .ref t])) rfl (by rw [hml]; rfl) c5 (argsL := [.ref t, .int (Int32.ofNat i)]) (rest := []) rfl rfl (by show 2 * 0 + 0 ≤ _; decide) (hb hbytes d12) (⟨rfl, hx.2.2.2.1.mv X4.warmed.alike hh4, (k2 i hi).1, s3.there X4.warmed.alike hh4, rf⟩)
    obtain ⟨rfl, q6⟩ := E6
    rw [chr8_lo8 hr.1 (k2 i hi).2] at g6
    exact ⟨T6, some (.int (f i)), _, _, _, X6, rfl, rfl, rfl, (fun h => by cases h), ⟨rfl, q6.trans hh4⟩, fun fs hl => Steps.trans g6 (X6.ireturnOut hexec hret (narrow_ch hr.1 hr.2) (Or.inr (Or.inr (Or.inr (Or.inl rfl)))) (hb hbytes d15) hl)⟩
  · exact absurd k0 (by decide)
theorem pays {l : Launch} {R : Room} {p : Program} {e : Env} {below : List Frame} {s : State} {sargs : Array Value} {len W : Nat} (x t : Addr) (V : Cell) (n : Nat) (f : Nat → Int32) (z : Int32) (fm : Value) (i : Nat) (htab : tab.before sargs s = true) (hfr : 4 ≤ R.frames) (hlo : W + 53 ≤ R.locals) :
    Back l R p e below s sargs yN len W (fun A₁ a₁ => A₁.cells + 0 ≤ R.cells ∧ A₁.slots + 0 ≤ R.slots ∧ P x t V n f z fm i a₁ A₁.U) (fun A₁ _ v₁ B₁ => E f i v₁ A₁.U B₁.U ∧ B₁.locs = A₁.locs ++ [] ∧ B₁.cells = A₁.cells + 0 ∧ B₁.slots = A₁.slots + 0) :=
  (law l x t V n f z fm i).pays htab hfr (by omega)
end ChN
end StrChars
namespace StrChars.Road
open Jvm Sem ClassFile Op Lib Jvm.Stand Jvm.Free Jvm.Free.XT
open Jvm.Lib.Cold (StaticIs)
/-- the words of String.charAt(int), the Latin-1 road alone -/
abbrev wordsChN : List Jvm.Cond := [.code ChN.yN ChN.yB 2 (some .char), .initialized ST, .fieldLink ST 9 ST "value" "[B", .fieldLink ST 38 ST "COMPACT_STRINGS" "Z", .fieldLink ST 15 ST "coder" "B", .code IsL.yN IsL.yB 1 (some .boolean), .methodLink ST 492 IsL.yN, .declares IsL.yN, .selects ST IsL.yN IsL.yN, .instanceMethod IsL.yN,
  .methodLink ST 495 LChA.yN, .static LChA.yN, .code LChA.yN LChA.yB 2 (some .char), .initialized "java/lang/StringLatin1", .methodLink "java/lang/StringLatin1" 9 JO.Str_checkIndex.yN, .static JO.Str_checkIndex.yN, .code JO.Str_checkIndex.yN JO.Str_checkIndex.yB 2 none,
  .fieldLink ST 1053 "jdk/internal/util/Preconditions" "SIOOBE_FORMATTER" "Ljava/util/function/BiFunction;", .methodLink ST 1059 JC.PreCheck.yN, .static JC.PreCheck.yN, .code JC.PreCheck.yN JC.PreCheck.yB 3 (some .int), .initialized "jdk/internal/util/Preconditions"]
theorem tabChN_of {a : Array Value} {s : State} (h : ∀ w ∈ wordsChN, w.before a s = true) : ChN.tab.before a s = true := by
  have hp : JC.PreCheck.tab.before a s = true := unparts (wk h (.code JC.PreCheck.yN JC.PreCheck.yB 3 (some .int))) (wks h (.initialized JC.PreCheck.yN.cls :: JC.PreCheck.site))
  have qk := consq hp h
  have hk : JO.Str_checkIndex.tab.before a s = true := unparts (wk qk (.code JO.Str_checkIndex.yN JO.Str_checkIndex.yB 2 none)) (wks qk (.initialized JO.Str_checkIndex.yN.cls :: JO.Str_checkIndex.site))
  have ql := consq hk h
  have hl : LChA.tab.before a s = true := unparts (wk ql (.code LChA.yN LChA.yB 2 (some .char))) (wks ql (.initialized LChA.yN.cls :: LChA.site))
  have hi : IsL.tab.before a s = true := unparts (wk h (.code IsL.yN IsL.yB 1 (some .boolean))) (wks h (.initialized IsL.yN.cls :: IsL.site))
  have q := consq hi (consq hl h)
  exact unparts (wk q (.code ChN.yN ChN.yB 2 (some .char))) (wks q (.initialized ChN.yN.cls :: ChN.site))
theorem movedChN {Z s : State} {a0 args : Array Value} (hZ : Z.Warmed39 s.vm) (hw : ∀ d ∈ wordsChN, d.before a0 Z = true) : ∀ d ∈ wordsChN, d.before args s = true := fun d hd => by
  have t : ∀ d ∈ wordsChN, (d.onTables && d.keepsFace) = true := by decide +kernel
  exact RoadKit.mv hZ (hw d hd) (t d hd)
/-- **charAt(i) OF A LATIN-1 STRING**, i < n: the char -/
theorem chN {p : Program} {l : Launch} {e : Env} {R : Room} {s : State} {args : Array Value} {below : List Frame} {len W : Nat} {Z : State} {a0 : Array Value} {h : Heap} (hZ : Z.Warmed39 s.vm) (hw : ∀ d ∈ wordsChN, d.before a0 Z = true) {kI : Nat} (wi : (Jvm.Cond.instantiable ST kI).before a0 Z = true)
    {x t : Addr} {kb : ClassId} {cs : List Int32} {N2 z : Int32} {vs : List Value} {fm : Value} {i : Nat} {j : Int32} (E : RoadKit.Exa Z h x ST) (V : RoadKit.Fld Z h x ST "value" "[B" (.ref t)) (C : RoadKit.Fld Z h x ST "coder" "B" (.int 0)) (K : RoadKit.Arv Z h t kb .byte N2 vs (.int 0)) (hc : CodA cs 0 N2 vs) (hb : ∀ c ∈ cs, ¬ c < 0 ∧ ¬ (65535 : Int32) < c)
    (S : RoadKit.Sta Z h ST "COMPACT_STRINGS" "Z" (.int z)) (hz : ¬ z = 0) (F : RoadKit.Sta Z h "jdk/internal/util/Preconditions" "SIOOBE_FORMATTER" "Ljava/util/function/BiFunction;" fm) (rf : fm.isRef = true) (l2 : cs.length ≤ 4000) (hi : i < cs.length) (hj : j = Int32.ofNat i) (hfr : 4 ≤ R.frames) (hlo : W + 53 ≤ R.locals) :
    Back l R p e below s args (⟨"java/lang/String", "charAt", "(I)C"⟩ : MethodName) len W (fun P a => a = #[.ref x, .int j] ∧ P.U.heap = h ∧ P.cells + 0 ≤ R.cells ∧ P.slots + 0 ≤ R.slots)
      (fun P _ v B => ∃ L, (v = some (.int (cs.getD i 0)) ∧ L = [] ∧ B.U.heap = h) ∧ B.locs = P.locs ++ L ∧ B.cells = P.cells + 0 ∧ B.slots = P.slots + 0) := by
  subst hj
  intro m meth c P g ig mk a X hg hsize hdg hW hn hp'
  obtain ⟨rfl, rfl, r1, r2⟩ := hp'
  have al : Z.vm.Alike P.U.vm := hZ.alike.trans X.warmed.alike
  obtain ⟨A, hx⟩ := txt_of wi al E V C K hc hb l2
  obtain ⟨v, B, X', ⟨⟨hv, hh⟩, hl, hk, hs⟩, st⟩ := ChN.pays x t A cs.length (fun j => cs.getD j 0) z fm i (tabChN_of (movedChN hZ hw)) hfr hlo m meth c P g ig mk _ X hg hsize hdg hW hn ⟨r1, r2, rfl, hx, hi, sta_is al S, hz, sta_is al F, rf⟩
  exact ⟨v, B, X', ⟨[], ⟨hv, rfl, hh⟩, hl, hk, hs⟩, st⟩
end StrChars.Road
end Jvm.Pilot.@@N@@

namespace Jvm.Pilot.@@N@@
open Jvm Jvm.ClassFile Sem Op Lib Jvm.Free Jvm.Stand Jvm.LawKit Jvm.RoadKit Bundle Jvm.Pilot.@@N@@.Jvm.D

/-! A small layer of this proof's own: a goal 'the run from here ends well' (own_G), in continuation style, and one rule a step over the library's laws. -/
section OwnKit
variable {p : Program} {l : Launch} {e : Env} {R : Room} {s : State} {m : MethodId} {args : Array Value} {below : List Frame} {meth : Method} {c : Code} {T : State} {locs : List Loc} {cells slots : Nat} {Z : State} {a0 : Array Value} {h : Heap} {F : Outcome → State → Prop} {pc pc' : Nat} {Ls : Array Slot} {st stk : List Value}
/-- from st the run ends, and F holds of its end -/
def own_G (p : Program) (e : Env) (below : List Frame) (F : Outcome → State → Prop) (st : State) : Prop := ∃ U o, Steps p.tables e below st U ∧ U.status = .running ∧ Ended U below o ∧ F o U
theorem own_step {a b : State} (hs : ∀ t, Steps p.tables e below b t → Steps p.tables e below a t) (g : own_G p e below F b) : own_G p e below F a := by
  obtain ⟨U, o, h1, h2⟩ := g; exact ⟨U, o, hs _ h1, h2⟩
theorem own_go {a b : State} (hs : Steps p.tables e below a b) (g : own_G p e below F b) : own_G p e below F a := own_step (fun _ k => hs.trans k) g
/-- it returned v, with Q of v, the heap and the places written -/
def own_F (s : State) (Q : Option Value → Heap → List Loc → Prop) (k n : Nat) (o : Outcome) (U : State) : Prop := ∃ v L, o = .returned v ∧ Q v U.heap L ∧ FrameEnd s o U L k n
abbrev own_Met (l : Launch) (Z : State) (y : MethodName) (bytes : ByteArray) (maxL : Nat) (ret : Option FieldType) (ws : List Jvm.Cond) (rm : Room) (as : Array Value) (h : Heap) (Q : Option Value → Heap → List Loc → Prop) : Prop :=
  MetFree l y (head1 (Jvm.Cond.code y bytes maxL ret :: ws) rm) (fun a U => a = as ∧ Z.Warmed39 U.vm ∧ U.heap = h) (fun _ _ _ _ _ => True) (fun _ U o U' => ∃ v L, o = .returned v ∧ Q v U'.heap L ∧ FrameEnd U o U' L rm.cells rm.slots)
/-- a body that returns r, writes nothing and makes nothing -/
def own_P (r : Option Value) (h0 : Heap) (v : Option Value) (h : Heap) (L : List Loc) : Prop := v = r ∧ L = [] ∧ h = h0
theorem own_enter {y : MethodName} {bytes : ByteArray} {maxL : Nat} {ret : Option FieldType} {ws : List Jvm.Cond} {rm : Room} {as : Array Value} {Q : Option Value → Heap → List Loc → Prop} (hp : plainFor y = true) {fr : Array Slot} (hfr : ∀ m, entryFrame m as maxL = mkF m 0 fr [])
    (body : ∀ (p : Program) (e : Env) (s : State) (m : MethodId) (below : List Frame) (meth : Method) (c : Code) (T : State), p.tables.exec = Jvm.exec → c.code = bytes → c.maxLocals = maxL → Z.Warmed39 s.vm → s.vm.findClass y.cls = some m.cls → meth.name = y.name → meth.sig.returnType = ret → meth.locks = false →
      Stand p l e rm s m as below meth c T [] 0 0 → T.heap = h → own_G p e below (own_F s Q rm.cells rm.slots) (T.setTop (mkF m 0 fr []))) : own_Met l Z y bytes maxL ret ws rm as h Q := by
  refine MetFree.of_bodySF hp hisR ?_
  intro p e s m args below meth c s₁ Bd hml0 hP hK
  obtain ⟨rfl, hZ, hh⟩ := hP
  have q := body p e s m below meth c s₁ Bd.exec Bd.bytes hml0 hZ (findClass_of_methodNamed Bd.named) (name_of_methodNamed Bd.named Bd.method).1 Bd.returns (BodyLoose.notSynchronized Bd) (Stand.of_body Bd) (by rw [← hh, Bd.state]; rfl)
  rw [hfr m]; exact q
theorem own_w {a0 : Array Value} {Z : State} {ts : List Jvm.Cond} (hw : ∀ d ∈ ts, d.before a0 Z = true) (i : Nat) {d : Jvm.Cond} (h : ts[i]? = some d) : d.before a0 Z = true := hw d (List.mem_of_getElem? h)
/-! returns -/
theorem own_ret {Q : Option Value → Heap → List Loc → Prop} {k n : Nat} {v : Option Value} {fr : JFrame} (X : Stand p l e R s m args below meth c T locs cells slots) (hv : meth.sig.returnType = none → v = none) (hlk : meth.locks = false)
    (hst : ∀ fs, (∀ (f : JFrame) (acts : List Action), f.method = m → f.locked = none → f.entered = [] → (doReturn e (T.setTop f) acts v).1 = T.setFrames fs) → Steps p.tables e below (T.setTop fr) (T.setFrames fs)) (hQ : Q v T.heap locs) (hc : cells ≤ k) (hn : slots ≤ n) : own_G p e below (own_F s Q k n) (T.setTop fr) := by
  obtain ⟨fs, hr, hrun, hended, hW, hsame⟩ := X.leave (v := v) hv hlk
  exact ⟨_, _, hst fs hr, hrun, hended, v, locs, rfl, hQ, ⟨_, rfl⟩, hW, hsame.mono hc hn⟩
theorem own_stepI (X : Stand p l e R s m args below meth c T locs cells slots) (hx : p.tables.exec = Jvm.exec) {z : Int32} (hret : meth.sig.returnType = some .int) (hd : decode c.code pc = .ok (.ireturn, 1)) {fs : List Frame}
    (hl : ∀ (f : JFrame) (acts : List Action), f.method = m → f.locked = none → f.entered = [] → (doReturn e (T.setTop f) acts (some (.int z))).1 = T.setFrames fs) : Steps p.tables e below (T.setTop (mkF m pc Ls (.int z :: st))) (T.setFrames fs) :=
  retOut X hx (w := .int z) (t := .int) (i := .ireturn) hret rfl (Or.inl ⟨rfl, Or.inl rfl, z, rfl⟩) hd hl
theorem own_retI {Q : Option Value → Heap → List Loc → Prop} {k n : Nat} {z : Int32} (X : Stand p l e R s m args below meth c T locs cells slots) (hx : p.tables.exec = Jvm.exec) (hret : meth.sig.returnType = some .int) (hlk : meth.locks = false) (hd : decode c.code pc = .ok (.ireturn, 1))
    (hQ : Q (some (.int z)) T.heap locs) (hc : cells ≤ k) (hn : slots ≤ n) : own_G p e below (own_F s Q k n) (T.setTop (mkF m pc Ls (.int z :: st))) :=
  own_ret X (fun q => by rw [hret] at q; cases q) hlk (fun _ hr => own_stepI X hx hret hd hr) hQ hc hn
theorem own_retN {Q : Option Value → Heap → List Loc → Prop} {k n : Nat} {z : Int32} {t : FieldType} (X : Stand p l e R s m args below meth c T locs cells slots) (hx : p.tables.exec = Jvm.exec) (hret : meth.sig.returnType = some t) (ht : t = .boolean ∨ t = .byte ∨ t = .char ∨ t = .short) (hlk : meth.locks = false) (hd : decode c.code pc = .ok (.ireturn, 1))
    (hQ : Q (some (.int (nar t z))) T.heap locs) (hc : cells ≤ k) (hn : slots ≤ n) : own_G p e below (own_F s Q k n) (T.setTop (mkF m pc Ls (.int z :: st))) :=
  own_ret X (fun q => by rw [hret] at q; cases q) hlk (fun _ hr => retN X hx hret ht hd hr) hQ hc hn
theorem own_retR {Q : Option Value → Heap → List Loc → Prop} {k n : Nat} {w : Value} {t : FieldType} (X : Stand p l e R s m args below meth c T locs cells slots) (hx : p.tables.exec = Jvm.exec) (hret : meth.sig.returnType = some t) (ht : t.isReference = true) (hnw : narrow t w = w) (hwr : w.isRef = true) (hlk : meth.locks = false) (hd : decode c.code pc = .ok (.areturn, 1))
    (hQ : Q (some w) T.heap locs) (hc : cells ≤ k) (hn : slots ≤ n) : own_G p e below (own_F s Q k n) (T.setTop (mkF m pc Ls (w :: st))) :=
  own_ret X (fun q => by rw [hret] at q; cases q) hlk (fun _ hr => retOut X hx (t := t) (i := .areturn) hret hnw (Or.inr (Or.inr (Or.inr (Or.inr ⟨rfl, ht, hwr⟩)))) hd hr) hQ hc hn
theorem own_retV {Q : Option Value → Heap → List Loc → Prop} {k n : Nat} (X : Stand p l e R s m args below meth c T locs cells slots) (hx : p.tables.exec = Jvm.exec) (hret : meth.sig.returnType = none) (hlk : meth.locks = false) (hd : decode c.code pc = .ok (.return_, 1))
    (hQ : Q none T.heap locs) (hc : cells ≤ k) (hn : slots ≤ n) : own_G p e below (own_F s Q k n) (T.setTop (mkF m pc Ls [])) :=
  own_ret X (fun _ => rfl) hlk (fun _ hr => X.returnOut hx hret hd hr) hQ hc hn
/-! branches -/
theorem own_icmp {P : Prop} {cd : ClassFile.Cond} {x y : Int32} {o : Int} (X : Stand p l e R s m args below meth c T locs cells slots) (hx : p.tables.exec = Jvm.exec) (hd : decode c.code pc = .ok (.if_icmp cd o, 3)) (ho : 0 ≤ (pc : Int) + o) (hp : ((pc : Int) + o).toNat = pc')
    (h1 : P → if_icmp.holds cd x y = true) (h2 : ¬ P → if_icmp.holds cd x y = false) (yes : P → own_G p e below F (T.setTop (mkF m pc' Ls st))) (no : ¬ P → own_G p e below F (T.setTop (mkF m (pc + 3) Ls st))) : own_G p e below F (T.setTop (mkF m pc Ls (.int y :: .int x :: st))) := by
  by_cases q : P
  · exact own_step (fun t k => XS.icmpYes X.here hx rfl (pc0 := pc) (pc' := pc') rfl hd rfl (h1 q) ho hp k) (yes q)
  · exact own_step (fun t k => XS.icmpNo X.here hx rfl hd rfl (h2 q) k) (no q)
theorem own_ifc {P : Prop} {cd : ClassFile.Cond} {x : Int32} {o : Int} (X : Stand p l e R s m args below meth c T locs cells slots) (hx : p.tables.exec = Jvm.exec) (hd : decode c.code pc = .ok (.ifCond cd o, 3)) (ho : 0 ≤ (pc : Int) + o) (hp : ((pc : Int) + o).toNat = pc')
    (h1 : P → ifCond.holds cd x = true) (h2 : ¬ P → ifCond.holds cd x = false) (yes : P → own_G p e below F (T.setTop (mkF m pc' Ls st))) (no : ¬ P → own_G p e below F (T.setTop (mkF m (pc + 3) Ls st))) : own_G p e below F (T.setTop (mkF m pc Ls (.int x :: st))) := by
  by_cases q : P
  · exact own_step (fun t k => XS.ifYes X.here hx rfl (pc0 := pc) (pc' := pc') rfl hd rfl (h1 q) ho hp k) (yes q)
  · exact own_step (fun t k => XS.ifNo X.here hx rfl hd rfl (h2 q) k) (no q)
theorem own_icmp_eq {x y : Int32} {o : Int} (X : Stand p l e R s m args below meth c T locs cells slots) (hx : p.tables.exec = Jvm.exec) (hd : decode c.code pc = .ok (.if_icmp .eq o, 3)) (ho : 0 ≤ (pc : Int) + o) (hp : ((pc : Int) + o).toNat = pc')
    (yes : x = y → own_G p e below F (T.setTop (mkF m pc' Ls st))) (no : ¬ x = y → own_G p e below F (T.setTop (mkF m (pc + 3) Ls st))) : own_G p e below F (T.setTop (mkF m pc Ls (.int y :: .int x :: st))) :=
  own_icmp (P := x = y) X hx hd ho hp (fun q => by have q' := q; simp [if_icmp.holds, Int32.not_lt, Int32.not_le] at q' ⊢; exact q') (fun q => by have q' := q; simp [if_icmp.holds, Int32.not_lt, Int32.not_le] at q' ⊢; exact q') yes (fun q => no (by first | exact q | exact Classical.not_not.mp q))
theorem own_if_eq {x : Int32} {o : Int} (X : Stand p l e R s m args below meth c T locs cells slots) (hx : p.tables.exec = Jvm.exec) (hd : decode c.code pc = .ok (.ifCond .eq o, 3)) (ho : 0 ≤ (pc : Int) + o) (hp : ((pc : Int) + o).toNat = pc')
    (yes : x = 0 → own_G p e below F (T.setTop (mkF m pc' Ls st))) (no : ¬ x = 0 → own_G p e below F (T.setTop (mkF m (pc + 3) Ls st))) : own_G p e below F (T.setTop (mkF m pc Ls (.int x :: st))) :=
  own_ifc (P := x = 0) X hx hd ho hp (fun q => by have q' := q; simp [ifCond.holds, Int32.not_lt, Int32.not_le] at q' ⊢; exact q') (fun q => by have q' := q; simp [ifCond.holds, Int32.not_lt, Int32.not_le] at q' ⊢; exact q') yes (fun q => no (by first | exact q | exact Classical.not_not.mp q))
theorem own_icmp_ne {x y : Int32} {o : Int} (X : Stand p l e R s m args below meth c T locs cells slots) (hx : p.tables.exec = Jvm.exec) (hd : decode c.code pc = .ok (.if_icmp .ne o, 3)) (ho : 0 ≤ (pc : Int) + o) (hp : ((pc : Int) + o).toNat = pc')
    (yes : ¬ x = y → own_G p e below F (T.setTop (mkF m pc' Ls st))) (no : x = y → own_G p e below F (T.setTop (mkF m (pc + 3) Ls st))) : own_G p e below F (T.setTop (mkF m pc Ls (.int y :: .int x :: st))) :=
  own_icmp (P := ¬ x = y) X hx hd ho hp (fun q => by have q' := q; simp [if_icmp.holds, Int32.not_lt, Int32.not_le] at q' ⊢; exact q') (fun q => by have q' := q; simp [if_icmp.holds, Int32.not_lt, Int32.not_le] at q' ⊢; exact q') yes (fun q => no (by first | exact q | exact Classical.not_not.mp q))
theorem own_if_ne {x : Int32} {o : Int} (X : Stand p l e R s m args below meth c T locs cells slots) (hx : p.tables.exec = Jvm.exec) (hd : decode c.code pc = .ok (.ifCond .ne o, 3)) (ho : 0 ≤ (pc : Int) + o) (hp : ((pc : Int) + o).toNat = pc')
    (yes : ¬ x = 0 → own_G p e below F (T.setTop (mkF m pc' Ls st))) (no : x = 0 → own_G p e below F (T.setTop (mkF m (pc + 3) Ls st))) : own_G p e below F (T.setTop (mkF m pc Ls (.int x :: st))) :=
  own_ifc (P := ¬ x = 0) X hx hd ho hp (fun q => by have q' := q; simp [ifCond.holds, Int32.not_lt, Int32.not_le] at q' ⊢; exact q') (fun q => by have q' := q; simp [ifCond.holds, Int32.not_lt, Int32.not_le] at q' ⊢; exact q') yes (fun q => no (by first | exact q | exact Classical.not_not.mp q))
theorem own_icmp_lt {x y : Int32} {o : Int} (X : Stand p l e R s m args below meth c T locs cells slots) (hx : p.tables.exec = Jvm.exec) (hd : decode c.code pc = .ok (.if_icmp .lt o, 3)) (ho : 0 ≤ (pc : Int) + o) (hp : ((pc : Int) + o).toNat = pc')
    (yes : x < y → own_G p e below F (T.setTop (mkF m pc' Ls st))) (no : ¬ x < y → own_G p e below F (T.setTop (mkF m (pc + 3) Ls st))) : own_G p e below F (T.setTop (mkF m pc Ls (.int y :: .int x :: st))) :=
  own_icmp (P := x < y) X hx hd ho hp (fun q => by have q' := q; simp [if_icmp.holds, Int32.not_lt, Int32.not_le] at q' ⊢; exact q') (fun q => by have q' := q; simp [if_icmp.holds, Int32.not_lt, Int32.not_le] at q' ⊢; exact q') yes (fun q => no (by first | exact q | exact Classical.not_not.mp q))
theorem own_if_lt {x : Int32} {o : Int} (X : Stand p l e R s m args below meth c T locs cells slots) (hx : p.tables.exec = Jvm.exec) (hd : decode c.code pc = .ok (.ifCond .lt o, 3)) (ho : 0 ≤ (pc : Int) + o) (hp : ((pc : Int) + o).toNat = pc')
    (yes : x < 0 → own_G p e below F (T.setTop (mkF m pc' Ls st))) (no : ¬ x < 0 → own_G p e below F (T.setTop (mkF m (pc + 3) Ls st))) : own_G p e below F (T.setTop (mkF m pc Ls (.int x :: st))) :=
  own_ifc (P := x < 0) X hx hd ho hp (fun q => by have q' := q; simp [ifCond.holds, Int32.not_lt, Int32.not_le] at q' ⊢; exact q') (fun q => by have q' := q; simp [ifCond.holds, Int32.not_lt, Int32.not_le] at q' ⊢; exact q') yes (fun q => no (by first | exact q | exact Classical.not_not.mp q))
theorem own_icmp_ge {x y : Int32} {o : Int} (X : Stand p l e R s m args below meth c T locs cells slots) (hx : p.tables.exec = Jvm.exec) (hd : decode c.code pc = .ok (.if_icmp .ge o, 3)) (ho : 0 ≤ (pc : Int) + o) (hp : ((pc : Int) + o).toNat = pc')
    (yes : ¬ x < y → own_G p e below F (T.setTop (mkF m pc' Ls st))) (no : x < y → own_G p e below F (T.setTop (mkF m (pc + 3) Ls st))) : own_G p e below F (T.setTop (mkF m pc Ls (.int y :: .int x :: st))) :=
  own_icmp (P := ¬ x < y) X hx hd ho hp (fun q => by have q' := q; simp [if_icmp.holds, Int32.not_lt, Int32.not_le] at q' ⊢; exact q') (fun q => by have q' := q; simp [if_icmp.holds, Int32.not_lt, Int32.not_le] at q' ⊢; exact q') yes (fun q => no (by first | exact q | exact Classical.not_not.mp q))
theorem own_if_ge {x : Int32} {o : Int} (X : Stand p l e R s m args below meth c T locs cells slots) (hx : p.tables.exec = Jvm.exec) (hd : decode c.code pc = .ok (.ifCond .ge o, 3)) (ho : 0 ≤ (pc : Int) + o) (hp : ((pc : Int) + o).toNat = pc')
    (yes : ¬ x < 0 → own_G p e below F (T.setTop (mkF m pc' Ls st))) (no : x < 0 → own_G p e below F (T.setTop (mkF m (pc + 3) Ls st))) : own_G p e below F (T.setTop (mkF m pc Ls (.int x :: st))) :=
  own_ifc (P := ¬ x < 0) X hx hd ho hp (fun q => by have q' := q; simp [ifCond.holds, Int32.not_lt, Int32.not_le] at q' ⊢; exact q') (fun q => by have q' := q; simp [ifCond.holds, Int32.not_lt, Int32.not_le] at q' ⊢; exact q') yes (fun q => no (by first | exact q | exact Classical.not_not.mp q))
theorem own_icmp_gt {x y : Int32} {o : Int} (X : Stand p l e R s m args below meth c T locs cells slots) (hx : p.tables.exec = Jvm.exec) (hd : decode c.code pc = .ok (.if_icmp .gt o, 3)) (ho : 0 ≤ (pc : Int) + o) (hp : ((pc : Int) + o).toNat = pc')
    (yes : y < x → own_G p e below F (T.setTop (mkF m pc' Ls st))) (no : ¬ y < x → own_G p e below F (T.setTop (mkF m (pc + 3) Ls st))) : own_G p e below F (T.setTop (mkF m pc Ls (.int y :: .int x :: st))) :=
  own_icmp (P := y < x) X hx hd ho hp (fun q => by have q' := q; simp [if_icmp.holds, Int32.not_lt, Int32.not_le] at q' ⊢; exact q') (fun q => by have q' := q; simp [if_icmp.holds, Int32.not_lt, Int32.not_le] at q' ⊢; exact q') yes (fun q => no (by first | exact q | exact Classical.not_not.mp q))
theorem own_if_gt {x : Int32} {o : Int} (X : Stand p l e R s m args below meth c T locs cells slots) (hx : p.tables.exec = Jvm.exec) (hd : decode c.code pc = .ok (.ifCond .gt o, 3)) (ho : 0 ≤ (pc : Int) + o) (hp : ((pc : Int) + o).toNat = pc')
    (yes : 0 < x → own_G p e below F (T.setTop (mkF m pc' Ls st))) (no : ¬ 0 < x → own_G p e below F (T.setTop (mkF m (pc + 3) Ls st))) : own_G p e below F (T.setTop (mkF m pc Ls (.int x :: st))) :=
  own_ifc (P := 0 < x) X hx hd ho hp (fun q => by have q' := q; simp [ifCond.holds, Int32.not_lt, Int32.not_le] at q' ⊢; exact q') (fun q => by have q' := q; simp [ifCond.holds, Int32.not_lt, Int32.not_le] at q' ⊢; exact q') yes (fun q => no (by first | exact q | exact Classical.not_not.mp q))
theorem own_icmp_le {x y : Int32} {o : Int} (X : Stand p l e R s m args below meth c T locs cells slots) (hx : p.tables.exec = Jvm.exec) (hd : decode c.code pc = .ok (.if_icmp .le o, 3)) (ho : 0 ≤ (pc : Int) + o) (hp : ((pc : Int) + o).toNat = pc')
    (yes : ¬ y < x → own_G p e below F (T.setTop (mkF m pc' Ls st))) (no : y < x → own_G p e below F (T.setTop (mkF m (pc + 3) Ls st))) : own_G p e below F (T.setTop (mkF m pc Ls (.int y :: .int x :: st))) :=
  own_icmp (P := ¬ y < x) X hx hd ho hp (fun q => by have q' := q; simp [if_icmp.holds, Int32.not_lt, Int32.not_le] at q' ⊢; exact q') (fun q => by have q' := q; simp [if_icmp.holds, Int32.not_lt, Int32.not_le] at q' ⊢; exact q') yes (fun q => no (by first | exact q | exact Classical.not_not.mp q))
theorem own_if_le {x : Int32} {o : Int} (X : Stand p l e R s m args below meth c T locs cells slots) (hx : p.tables.exec = Jvm.exec) (hd : decode c.code pc = .ok (.ifCond .le o, 3)) (ho : 0 ≤ (pc : Int) + o) (hp : ((pc : Int) + o).toNat = pc')
    (yes : ¬ 0 < x → own_G p e below F (T.setTop (mkF m pc' Ls st))) (no : 0 < x → own_G p e below F (T.setTop (mkF m (pc + 3) Ls st))) : own_G p e below F (T.setTop (mkF m pc Ls (.int x :: st))) :=
  own_ifc (P := ¬ 0 < x) X hx hd ho hp (fun q => by have q' := q; simp [ifCond.holds, Int32.not_lt, Int32.not_le] at q' ⊢; exact q') (fun q => by have q' := q; simp [ifCond.holds, Int32.not_lt, Int32.not_le] at q' ⊢; exact q') yes (fun q => no (by first | exact q | exact Classical.not_not.mp q))
theorem own_nonnull_ref {b : Addr} {o : Int} (X : Stand p l e R s m args below meth c T locs cells slots) (hx : p.tables.exec = Jvm.exec) (hd : decode c.code pc = .ok (.ifnonnull o, 3)) (ho : 0 ≤ (pc : Int) + o) (hp : ((pc : Int) + o).toNat = pc')
    (yes : own_G p e below F (T.setTop (mkF m pc' Ls st))) : own_G p e below F (T.setTop (mkF m pc Ls (.ref b :: st))) := own_step (fun t k => XT.ifnonnullYes X.here hx rfl (pc0 := pc) (pc' := pc') rfl hd rfl ho hp k) yes
theorem own_nonnull_null {o : Int} (X : Stand p l e R s m args below meth c T locs cells slots) (hx : p.tables.exec = Jvm.exec) (hd : decode c.code pc = .ok (.ifnonnull o, 3))
    (no : own_G p e below F (T.setTop (mkF m (pc + 3) Ls st))) : own_G p e below F (T.setTop (mkF m pc Ls (.null :: st))) := own_step (fun t k => XT.ifnonnullNo X.here hx rfl hd rfl k) no
/-! the heap -/
theorem own_getF (X : Stand p l e R s m args below meth c T locs cells slots) (hx : p.tables.exec = Jvm.exec) (hZ : Z.Warmed39 s.vm) {own O n d : String} {index : Nat} (hown : s.vm.findClass own = some m.cls) (w : (Jvm.Cond.fieldLink own index O n d).before a0 Z = true) (eT : T.heap = h) {a : Addr} {v : Value} (Fd : Fld Z h a O n d v) (hd : decode c.code pc = .ok (.getfield index, 3))
    (k : ∀ T', Stand p l e R s m args below meth c T' locs cells slots → T'.heap = h → own_G p e below F (T'.setTop (mkF m (pc + 3) Ls (v :: st)))) : own_G p e below F (T.setTop (mkF m pc Ls (.ref a :: st))) := by
  obtain ⟨T', X', e', st'⟩ := getF X hx hZ hown (host := "") (Or.inl w) Via.refl eT Fd (g := mkF m pc Ls (.ref a :: st)) rfl rfl hd
  exact own_step st' (k T' X' e')
theorem own_getS (X : Stand p l e R s m args below meth c T locs cells slots) (hx : p.tables.exec = Jvm.exec) (hZ : Z.Warmed39 s.vm) {own O n d : String} {index : Nat} (hown : s.vm.findClass own = some m.cls) (w : (Jvm.Cond.fieldLink own index O n d).before a0 Z = true) (eT : T.heap = h) {v : Value} (Fd : Sta Z h O n d v) (hd : decode c.code pc = .ok (.getstatic index, 3))
    (k : ∀ T', Stand p l e R s m args below meth c T' locs cells slots → T'.heap = h → own_G p e below F (T'.setTop (mkF m (pc + 3) Ls (v :: st)))) : own_G p e below F (T.setTop (mkF m pc Ls st)) := by
  obtain ⟨T', X', e', st'⟩ := getS X hx hZ (host := "") hown w Via.refl eT Fd (g := mkF m pc Ls st) rfl hd
  exact own_step st' (k T' X' e')
theorem own_putF (X : Stand p l e R s m args below meth c T locs cells slots) (hx : p.tables.exec = Jvm.exec) (hZ : Z.Warmed39 s.vm) {own O n d C : String} {index kk : Nat} {ty : FieldType} (hown : s.vm.findClass own = some m.cls) (w : (Jvm.Cond.fieldLink own index O n d).before a0 Z = true) (eT : T.heap = h) {a : Addr} {v old : Value} (Fd : Fld Z h a O n d old) (E : Exa Z h a C)
    (L : (Jvm.Cond.lays C O n d).before a0 Z = true ∨ ((Jvm.Cond.laysFinal C O n d).before a0 Z = true ∧ own = O ∧ meth.name = "<init>")) (wi : (Jvm.Cond.instantiable C kk).before a0 Z = true) (hty : parseFieldDescriptor d = some ty) (hn : narrow ty v = v) (hf : fits ty v = true) {n0 : Nat} (N : Fr n0 locs) (ha : n0 ≤ a) (hd : decode c.code pc = .ok (.putfield index, 3))
    (k : ∀ T' h', Stand p l e R s m args below meth c T' (locs ++ [⟨a, Jvm.RoadKit.slotOf Z O n d⟩]) cells slots → T'.heap = h' → Fr n0 (locs ++ [⟨a, Jvm.RoadKit.slotOf Z O n d⟩]) → Wr h h' a (Jvm.RoadKit.slotOf Z O n d) v → h'.size = h.size → Fld Z h' a O n d v → Exa Z h' a C → own_G p e below F (T'.setTop (mkF m (pc + 3) Ls st))) : own_G p e below F (T.setTop (mkF m pc Ls (v :: .ref a :: st))) := by
  obtain ⟨T', h', X', e', W', st'⟩ := putF X hx hZ hown (host := "") (Or.inl w) Via.refl eT Fd E L wi hty hn hf (g := mkF m pc Ls (v :: .ref a :: st)) rfl rfl hd
  exact own_step st' (k T' h' X' e' (Fr.snoc X' N ha) W' W'.size (Fd.same W') (E.wr W'))
theorem own_newO (X : Stand p l e R s m args below meth c T locs cells slots) (hx : p.tables.exec = Jvm.exec) (hZ : Z.Warmed39 s.vm) {own C : String} {index n : Nat} (hown : s.vm.findClass own = some m.cls) (w : (Jvm.Cond.classLink own index C).before a0 Z = true) (wi : (Jvm.Cond.instantiable C n).before a0 Z = true) (wz : (Jvm.Cond.initialized C).before a0 Z = true) (eT : T.heap = h)
    (hd : decode c.code pc = .ok (.new index, 3)) (hc : cells + 1 ≤ R.cells) (hl : slots + n ≤ R.slots)
    (k : ∀ T' h' a, Stand p l e R s m args below meth c T' locs (cells + 1) (slots + n) → T'.heap = h' → a = h.size → a < h'.size → Ext h h' → Exa Z h' a C → (∀ {O nm d : String} {ty : FieldType}, Laid Z a0 C O nm d → parseFieldDescriptor d = some ty → Fld Z h' a O nm d (defaultValue ty)) →
      own_G p e below F (T'.setTop (mkF m (pc + 3) Ls (.ref a :: st)))) : own_G p e below F (T.setTop (mkF m pc Ls st)) := by
  obtain ⟨T', h', X', e', E', A', D', -, st'⟩ := newO X hx hZ hown w wi wz eT (g := mkF m pc Ls st) rfl hd hc hl
  exact own_step st' (k T' h' h.size X' e' rfl A'.lt E' A' D')
/-- newarray, its places said one by one -/
theorem own_newP (X : Stand p l e R s m args below meth c T locs cells slots) (hx : p.tables.exec = Jvm.exec) (hZ : Z.Warmed39 s.vm) {aty : ArrayType} (w : (Jvm.Cond.arrayClass (newarray.typeOf aty)).before a0 Z = true) (eT : T.heap = h) (hd : decode c.code pc = .ok (.newarray aty, 2)) {n : Int32} (hn : ¬ n < 0) (cap : Nat) (hcap : n.toNatClampNeg ≤ cap) (hb : cap * 8 ≤ 536870912) (hc : cells + 1 ≤ R.cells) (hl : slots + cap ≤ R.slots)
    (k : ∀ T' h' a kA, Stand p l e R s m args below meth c T' locs (cells + 1) (slots + cap) → T'.heap = h' → a = h.size → a < h'.size → Ext h h' → Arv Z h' a kA (newarray.typeOf aty) n (List.replicate n.toNatClampNeg (defaultValue (newarray.typeOf aty))) (defaultValue (newarray.typeOf aty)) →
      own_G p e below F (T'.setTop (mkF m (pc + 2) Ls (.ref a :: st)))) : own_G p e below F (T.setTop (mkF m pc Ls (.int n :: st))) := by
  obtain ⟨T', h', cA, X', e', E', A', st'⟩ := newP X hx hZ w eT (g := mkF m pc Ls (.int n :: st)) rfl hd rfl hn (cap := cap) hcap hb hc hl
  exact own_step st' (k T' h' h.size cA X' e' rfl A'.lt E' ((Arv.new A' hn).pad (by have q := pad_rep [] (defaultValue (newarray.typeOf aty)) n.toNatClampNeg; simpa using q)))
theorem own_inb {n : Int32} {i : Nat} {j : Int32} (hj0 : ¬ j < 0) (hj : j.toNatClampNeg = i) (hi : i < n.toNatClampNeg) : ¬ j < 0 ∧ j < n := by
  refine ⟨hj0, ?_⟩
  rw [Int32.lt_iff_toInt_lt]
  simp only [Int32.toNatClampNeg] at hj hi
  rw [Int32.lt_iff_toInt_lt] at hj0
  simp only [Int32.reduceToInt] at hj0
  omega
theorem own_stC (X : Stand p l e R s m args below meth c T locs cells slots) (hx : p.tables.exec = Jvm.exec) (hZ : Z.Warmed39 s.vm) (eT : T.heap = h) {a : Addr} {kA : ClassId} {n : Int32} {vs : List Value} {dv : Value} (V : Arv Z h a kA .char n vs dv) {j x : Int32} (i : Nat) (hj0 : ¬ j < 0) (hj : j.toNatClampNeg = i) (hi : i < n.toNatClampNeg) (hi' : i < vs.length) {n0 : Nat} (N : Fr n0 locs) (ha : n0 ≤ a) (hd : decode c.code pc = .ok (.castore, 1))
    (k : ∀ T' h', Stand p l e R s m args below meth c T' (locs ++ [⟨a, j.toNatClampNeg⟩]) cells slots → T'.heap = h' → Fr n0 (locs ++ [⟨a, j.toNatClampNeg⟩]) → Wr h h' a j.toNatClampNeg (.int (nar .char x)) → h'.size = h.size → Arv Z h' a kA .char n (vs.set i (.int (nar .char x))) dv → own_G p e below F (T'.setTop (mkF m (pc + 1) Ls st))) :
    own_G p e below F (T.setTop (mkF m pc Ls (.int x :: .int j :: .ref a :: st))) := by
  obtain ⟨cl, A, q1, S, q3, H, G⟩ := V
  obtain ⟨T', h', X', e', W', st'⟩ := stC X hx hZ eT A (j := j) (inb_of S (own_inb hj0 hj hi)) (g := mkF m pc Ls (.int x :: .int j :: .ref a :: st)) rfl rfl hd
  exact own_step st' (k T' h' X' e' (Fr.snoc X' N ha) W' W'.size (Arv.set A q1 S q3 H G (fits_nar_char _) W' i hj hi'))
theorem own_stI (X : Stand p l e R s m args below meth c T locs cells slots) (hx : p.tables.exec = Jvm.exec) (hZ : Z.Warmed39 s.vm) (eT : T.heap = h) {a : Addr} {kA : ClassId} {n : Int32} {vs : List Value} {dv : Value} (V : Arv Z h a kA .int n vs dv) {j x : Int32} (i : Nat) (hj0 : ¬ j < 0) (hj : j.toNatClampNeg = i) (hi : i < n.toNatClampNeg) (hi' : i < vs.length) {n0 : Nat} (N : Fr n0 locs) (ha : n0 ≤ a) (hd : decode c.code pc = .ok (.iastore, 1))
    (k : ∀ T' h', Stand p l e R s m args below meth c T' (locs ++ [⟨a, j.toNatClampNeg⟩]) cells slots → T'.heap = h' → Fr n0 (locs ++ [⟨a, j.toNatClampNeg⟩]) → Wr h h' a j.toNatClampNeg (.int x) → h'.size = h.size → Arv Z h' a kA .int n (vs.set i (.int x)) dv → own_G p e below F (T'.setTop (mkF m (pc + 1) Ls st))) :
    own_G p e below F (T.setTop (mkF m pc Ls (.int x :: .int j :: .ref a :: st))) := by
  obtain ⟨cl, A, q1, S, q3, H, G⟩ := V
  obtain ⟨T', h', X', e', W', st'⟩ := stI X hx hZ eT A (j := j) (inb_of S (own_inb hj0 hj hi)) (g := mkF m pc Ls (.int x :: .int j :: .ref a :: st)) rfl rfl hd
  exact own_step st' (k T' h' X' e' (Fr.snoc X' N ha) W' W'.size (Arv.set A q1 S q3 H G rfl W' i hj hi'))
theorem own_stB (X : Stand p l e R s m args below meth c T locs cells slots) (hx : p.tables.exec = Jvm.exec) (hZ : Z.Warmed39 s.vm) (eT : T.heap = h) {a : Addr} {kA : ClassId} {n : Int32} {vs : List Value} {dv : Value} (V : Arv Z h a kA .byte n vs dv) {j x : Int32} (i : Nat) (hj0 : ¬ j < 0) (hj : j.toNatClampNeg = i) (hi : i < n.toNatClampNeg) (hi' : i < vs.length) {n0 : Nat} (N : Fr n0 locs) (ha : n0 ≤ a) (hd : decode c.code pc = .ok (.bastore, 1))
    (k : ∀ T' h', Stand p l e R s m args below meth c T' (locs ++ [⟨a, j.toNatClampNeg⟩]) cells slots → T'.heap = h' → Fr n0 (locs ++ [⟨a, j.toNatClampNeg⟩]) → Wr h h' a j.toNatClampNeg (.int (nar .byte x)) → h'.size = h.size → Arv Z h' a kA .byte n (vs.set i (.int (nar .byte x))) dv → own_G p e below F (T'.setTop (mkF m (pc + 1) Ls st))) :
    own_G p e below F (T.setTop (mkF m pc Ls (.int x :: .int j :: .ref a :: st))) := by
  obtain ⟨cl, A, q1, S, q3, H, G⟩ := V
  obtain ⟨T', h', X', e', W', st'⟩ := stB X hx hZ eT A (j := j) (inb_of S (own_inb hj0 hj hi)) (g := mkF m pc Ls (.int x :: .int j :: .ref a :: st)) rfl rfl hd
  exact own_step st' (k T' h' X' e' (Fr.snoc X' N ha) W' W'.size (Arv.set A q1 S q3 H G (fits_nar_byte _) W' i hj hi'))
theorem own_ldC (X : Stand p l e R s m args below meth c T locs cells slots) (hx : p.tables.exec = Jvm.exec) (hZ : Z.Warmed39 s.vm) (eT : T.heap = h) {a : Addr} {kA : ClassId} {n : Int32} {vs : List Value} {dv v : Value} (V : Arv Z h a kA .char n vs dv) {j : Int32} (i : Nat) (hj0 : ¬ j < 0) (hj : j.toNatClampNeg = i) (hi : i < n.toNatClampNeg) (hv : vs.getD i dv = v) (hd : decode c.code pc = .ok (.caload, 1))
    (k : own_G p e below F (T.setTop (mkF m (pc + 1) Ls (v :: st)))) : own_G p e below F (T.setTop (mkF m pc Ls (.int j :: .ref a :: st))) := by
  obtain ⟨cl, A, q1, S, q3, H, G⟩ := V
  have hin := inb_of S (own_inb hj0 hj hi)
  exact own_step (X.caload hx (by rw [eT]; exact A.1) (State.isArrayOf_alike hZ.alike A.2.1) A.2.2 hin (Has.at H hin (by rw [hj]; exact hv)) (g := mkF m pc Ls (.int j :: .ref a :: st)) rfl rfl hd) k
theorem own_ldI (X : Stand p l e R s m args below meth c T locs cells slots) (hx : p.tables.exec = Jvm.exec) (hZ : Z.Warmed39 s.vm) (eT : T.heap = h) {a : Addr} {kA : ClassId} {n : Int32} {vs : List Value} {dv v : Value} (V : Arv Z h a kA .int n vs dv) {j : Int32} (i : Nat) (hj0 : ¬ j < 0) (hj : j.toNatClampNeg = i) (hi : i < n.toNatClampNeg) (hv : vs.getD i dv = v) (hd : decode c.code pc = .ok (.iaload, 1))
    (k : own_G p e below F (T.setTop (mkF m (pc + 1) Ls (v :: st)))) : own_G p e below F (T.setTop (mkF m pc Ls (.int j :: .ref a :: st))) := by
  obtain ⟨cl, A, q1, S, q3, H, G⟩ := V
  have hin := inb_of S (own_inb hj0 hj hi)
  exact own_step (X.iaload hx (by rw [eT]; exact A.1) (State.isArrayOf_alike hZ.alike A.2.1) A.2.2 hin (Has.at H hin (by rw [hj]; exact hv)) (g := mkF m pc Ls (.int j :: .ref a :: st)) rfl rfl hd) k
theorem own_ldB (X : Stand p l e R s m args below meth c T locs cells slots) (hx : p.tables.exec = Jvm.exec) (hZ : Z.Warmed39 s.vm) (eT : T.heap = h) {a : Addr} {kA : ClassId} {n : Int32} {vs : List Value} {dv v : Value} (V : Arv Z h a kA .byte n vs dv) {j : Int32} (i : Nat) (hj0 : ¬ j < 0) (hj : j.toNatClampNeg = i) (hi : i < n.toNatClampNeg) (hv : vs.getD i dv = v) (hd : decode c.code pc = .ok (.baload, 1))
    (k : own_G p e below F (T.setTop (mkF m (pc + 1) Ls (v :: st)))) : own_G p e below F (T.setTop (mkF m pc Ls (.int j :: .ref a :: st))) := by
  obtain ⟨cl, A, q1, S, q3, H, G⟩ := V
  have hin := inb_of S (own_inb hj0 hj hi)
  exact own_step (X.baloadBytes hx (by rw [eT]; exact A.1) (State.isArrayOf_alike hZ.alike A.2.1) A.2.2 hin (Has.at H hin (by rw [hj]; exact hv)) (g := mkF m pc Ls (.int j :: .ref a :: st)) rfl rfl hd) k
theorem own_len (X : Stand p l e R s m args below meth c T locs cells slots) (hx : p.tables.exec = Jvm.exec) (hZ : Z.Warmed39 s.vm) (eT : T.heap = h) {a : Addr} {kA : ClassId} {ty : FieldType} {n : Int32} {vs : List Value} {dv : Value} (V : Arv Z h a kA ty n vs dv) (hd : decode c.code pc = .ok (.arraylength, 1))
    (k : own_G p e below F (T.setTop (mkF m (pc + 1) Ls (.int n :: st)))) : own_G p e below F (T.setTop (mkF m pc Ls (.ref a :: st))) := by
  obtain ⟨cl, A, q1, S, q3, H, G⟩ := V
  exact own_step (fun t q => X.arraylength hx (by rw [eT]; exact A.1) (State.isArrayOf_alike hZ.alike A.2.1) (g := mkF m pc Ls (.ref a :: st)) rfl rfl hd t (by rw [len_of S q3]; exact q)) k
/-! calls; a callee's law in the shape that backOf gives -/
abbrev own_B (l : Launch) (R : Room) (p : Program) (e : Env) (below : List Frame) (s : State) (args : Array Value) (y : MethodName) (W : Nat) (as : Array Value) (h : Heap) (kc kn : Nat) (Q : Option Value → Heap → List Loc → Prop) : Prop :=
  Back l R p e below s args y 3 W (fun A a => a = as ∧ A.U.heap = h ∧ A.cells + kc ≤ R.cells ∧ A.slots + kn ≤ R.slots) (fun A _ v B => ∃ L, Q v B.U.heap L ∧ B.locs = A.locs ++ L ∧ B.cells = A.cells + kc ∧ B.slots = A.slots + kn)
theorem own_static {Q : Option Value → Heap → List Loc → Prop} {kc kn W : Nat} {argsL : List Value} (X : Stand p l e R s m args below meth c T locs cells slots) (hx : p.tables.exec = Jvm.exec) (hZ : Z.Warmed39 s.vm) {own : String} {index : Nat} {y : MethodName} {bytes : ByteArray} {maxL : Nat} {ret : Option FieldType} (hown : s.vm.findClass own = some m.cls)
    (w1 : (Jvm.Cond.methodLink own index y).before a0 Z = true) (w2 : (Jvm.Cond.static y).before a0 Z = true) (w3 : (Jvm.Cond.initialized y.cls).before a0 Z = true) (w4 : (Jvm.Cond.code y bytes maxL ret).before a0 Z = true) (hy : y.cls ≠ "java/lang/invoke/MethodHandle" ∧ y.cls ≠ "java/lang/invoke/VarHandle") (eT : T.heap = h)
    (hK : own_B l R p e below s args y W argsL.toArray h kc kn Q) (hc : cells + kc ≤ R.cells) (hs : slots + kn ≤ R.slots) (hsz : Ls.size = c.maxLocals) (hlen : ∀ sig, parseMethodDescriptor y.desc = some sig → argsL.length = sig.parameters.length) (hstk : stk = argsL.reverse ++ st) (hW : (st.map fun v => v.category).sum ≤ W)
    (hd : decode c.code pc = .ok (.invokestatic index, 3)) (k : ∀ v T' L, Stand p l e R s m args below meth c T' (locs ++ L) (cells + kc) (slots + kn) → Q v T'.heap L → own_G p e below F (T'.setTop (mkF m (pc + 3) Ls (v.toList ++ st)))) : own_G p e below F (T.setTop (mkF m pc Ls stk)) := by
  obtain ⟨v, _, ⟨T', L', k', n'⟩, -, X', ⟨L, hQ, l1, y1, z1⟩, st'⟩ := Jvm.LawKit.callS X hx hown (mvT hZ w1) (mvT hZ w2) (mvT hZ w3) (mvT hZ w4) hy hK (g := mkF m pc Ls stk) rfl hsz (argsL := argsL) (rest := st) hlen hstk (by show 2 * 0 + _ ≤ _; omega) hd (fun _ _ => ⟨rfl, eT, hc, hs⟩)
  dsimp only [Pt.U, Pt.locs, Pt.cells, Pt.slots] at X' l1 y1 z1 st' hQ
  subst l1 y1 z1
  exact own_step st' (k v T' L X' hQ)
theorem own_special {Q : Option Value → Heap → List Loc → Prop} {kc kn W : Nat} {argsL : List Value} {a : Addr} (X : Stand p l e R s m args below meth c T locs cells slots) (hx : p.tables.exec = Jvm.exec) (hZ : Z.Warmed39 s.vm) {own : String} {index : Nat} {y : MethodName} {bytes : ByteArray} {maxL : Nat} (hown : s.vm.findClass own = some m.cls) (hy1 : y.name = "<init>")
    (w1 : (Jvm.Cond.methodLink own index y).before a0 Z = true) (w2 : (Jvm.Cond.instanceMethod y).before a0 Z = true) (w4 : (Jvm.Cond.code y bytes maxL none).before a0 Z = true) (hy : y.cls ≠ "java/lang/invoke/MethodHandle" ∧ y.cls ≠ "java/lang/invoke/VarHandle") (eT : T.heap = h)
    (hK : own_B l R p e below s args y W (.ref a :: argsL).toArray h kc kn Q) (hc : cells + kc ≤ R.cells) (hs : slots + kn ≤ R.slots) (hsz : Ls.size = c.maxLocals) (hlen : ∀ sig, parseMethodDescriptor y.desc = some sig → argsL.length = sig.parameters.length) (hstk : stk = argsL.reverse ++ .ref a :: st) (hW : (st.map fun v => v.category).sum ≤ W)
    (hd : decode c.code pc = .ok (.invokespecial index, 3)) (k : ∀ v T' L, Stand p l e R s m args below meth c T' (locs ++ L) (cells + kc) (slots + kn) → Q v T'.heap L → own_G p e below F (T'.setTop (mkF m (pc + 3) Ls (v.toList ++ st)))) : own_G p e below F (T.setTop (mkF m pc Ls stk)) := by
  obtain ⟨v, _, ⟨T', L', k', n'⟩, -, X', ⟨L, hQ, l1, y1, z1⟩, st'⟩ := X.specialBack hx hy1 hown (mvT hZ w1) (mvT hZ w2) (mvT hZ w4) hy hK (g := mkF m pc Ls stk) rfl hsz (Steps.refl _) (a := a) (argsL := argsL) (rest := st) hlen hstk (by show 2 * 0 + _ ≤ _; omega) hd (fun _ _ => ⟨rfl, eT, hc, hs⟩)
  dsimp only [Pt.U, Pt.locs, Pt.cells, Pt.slots] at X' l1 y1 z1 st' hQ
  subst l1 y1 z1
  exact own_go st' (k v T' L X' hQ)
theorem own_virtualZ {Q : Option Value → Heap → List Loc → Prop} {kc kn W : Nat} {argsL : List Value} {a : Addr} {C : String} (X : Stand p l e R s m args below meth c T locs cells slots) (hx : p.tables.exec = Jvm.exec) (hZ : Z.Warmed39 s.vm) {own : String} {index : Nat} {y z : MethodName} (hown : s.vm.findClass own = some m.cls)
    (w1 : (Jvm.Cond.methodLink own index y).before a0 Z = true) (w2 : (Jvm.Cond.declares y).before a0 Z = true) (w3 : (Jvm.Cond.selects C y z).before a0 Z = true) (nf : NotFace s y) (w4 : (Jvm.Cond.instanceMethod z).before a0 Z = true) (hy : y.cls ≠ "java/lang/invoke/MethodHandle" ∧ y.cls ≠ "java/lang/invoke/VarHandle") (eT : T.heap = h) (E : Exa Z h a C)
    (hK : own_B l R p e below s args z W (.ref a :: argsL).toArray h kc kn Q) (hc : cells + kc ≤ R.cells) (hs : slots + kn ≤ R.slots) (hsz : Ls.size = c.maxLocals) (hlen : ∀ sig, parseMethodDescriptor y.desc = some sig → argsL.length = sig.parameters.length) (hstk : stk = argsL.reverse ++ .ref a :: st) (hW : (st.map fun v => v.category).sum ≤ W)
    (hd : decode c.code pc = .ok (.invokevirtual index, 3)) (k : ∀ v T' L, Stand p l e R s m args below meth c T' (locs ++ L) (cells + kc) (slots + kn) → Q v T'.heap L → own_G p e below F (T'.setTop (mkF m (pc + 3) Ls (v.toList ++ st)))) : own_G p e below F (T.setTop (mkF m pc Ls stk)) := by
  obtain ⟨cB, kB, q1, q2, q3⟩ := isOf hZ eT E
  obtain ⟨v, _, ⟨T', L', k', n'⟩, -, X', ⟨L, hQ, l1, y1, z1⟩, st'⟩ := X.virtualBack hx hown (mvT hZ w1) (mvT hZ w2) nf (mvT hZ w3) (mvT hZ w4) hy hK q1 q3 (g := mkF m pc Ls stk) rfl hsz (Steps.refl _) (argsL := argsL) (rest := st) hlen hstk (by show 2 * 0 + _ ≤ _; omega) hd (fun _ _ => ⟨rfl, eT, hc, hs⟩)
  dsimp only [Pt.U, Pt.locs, Pt.cells, Pt.slots] at X' l1 y1 z1 st' hQ
  subst l1 y1 z1
  exact own_go st' (k v T' L X' hQ)
theorem own_virtual {Q : Option Value → Heap → List Loc → Prop} {kc kn W : Nat} {argsL : List Value} {a : Addr} {C : String} (X : Stand p l e R s m args below meth c T locs cells slots) (hx : p.tables.exec = Jvm.exec) (hZ : Z.Warmed39 s.vm) {own : String} {index : Nat} {y : MethodName} (hown : s.vm.findClass own = some m.cls)
    (w1 : (Jvm.Cond.methodLink own index y).before a0 Z = true) (w2 : (Jvm.Cond.declares y).before a0 Z = true) (w3 : (Jvm.Cond.selects C y y).before a0 Z = true) (_hCy : True) (w4 : (Jvm.Cond.instanceMethod y).before a0 Z = true) (hy : y.cls ≠ "java/lang/invoke/MethodHandle" ∧ y.cls ≠ "java/lang/invoke/VarHandle") (eT : T.heap = h) (E : Exa Z h a C)
    (hK : own_B l R p e below s args y W (.ref a :: argsL).toArray h kc kn Q) (hc : cells + kc ≤ R.cells) (hs : slots + kn ≤ R.slots) (hsz : Ls.size = c.maxLocals) (hlen : ∀ sig, parseMethodDescriptor y.desc = some sig → argsL.length = sig.parameters.length) (hstk : stk = argsL.reverse ++ .ref a :: st) (hW : (st.map fun v => v.category).sum ≤ W)
    (hd : decode c.code pc = .ok (.invokevirtual index, 3)) (k : ∀ v T' L, Stand p l e R s m args below meth c T' (locs ++ L) (cells + kc) (slots + kn) → Q v T'.heap L → own_G p e below F (T'.setTop (mkF m (pc + 3) Ls (v.toList ++ st)))) : own_G p e below F (T.setTop (mkF m pc Ls stk)) :=
  own_virtualZ X hx hZ hown w1 w2 w3 (notFace_of_selects (args := #[]) (mvT hZ w3)) w4 hy eT E hK hc hs hsz hlen hstk hW hd k
theorem own_back {y : MethodName} {bytes : ByteArray} {maxL : Nat} {ret : Option FieldType} {rm : Room} {W : Nat} {as' : Array Value} {Q : Option Value → Heap → List Loc → Prop} (hM : own_Met l Z y bytes maxL ret [] rm as' h Q) (hZ : Z.Warmed39 s.vm) (wc : (Jvm.Cond.code y bytes maxL ret).before a0 Z = true) (wz : (Jvm.Cond.initialized y.cls).before a0 Z = true) (hf : rm.frames + 1 ≤ R.frames) (hl : W + (maxL + 11) + rm.locals ≤ R.locals) :
    own_B l R p e below s args y W as' h rm.cells rm.slots Q := backOf hM hZ wc wz hf hl
/-- a static call of a body that changes nothing -/
theorem own_staticP {r : Option Value} {fr lo W : Nat} {argsL : List Value} (X : Stand p l e R s m args below meth c T locs cells slots) (hx : p.tables.exec = Jvm.exec) (hZ : Z.Warmed39 s.vm) {own : String} {index : Nat} {y : MethodName} {bytes : ByteArray} {maxL : Nat} {ret : Option FieldType} (hown : s.vm.findClass own = some m.cls)
    (w1 : (Jvm.Cond.methodLink own index y).before a0 Z = true) (w2 : (Jvm.Cond.static y).before a0 Z = true) (w3 : (Jvm.Cond.initialized y.cls).before a0 Z = true) (w4 : (Jvm.Cond.code y bytes maxL ret).before a0 Z = true) (hy : y.cls ≠ "java/lang/invoke/MethodHandle" ∧ y.cls ≠ "java/lang/invoke/VarHandle") (eT : T.heap = h)
    (hM : own_Met l Z y bytes maxL ret [] ⟨fr, 0, 0, lo⟩ argsL.toArray h (own_P r h)) (hf : fr + 1 ≤ R.frames) (hl : W + (maxL + 11) + lo ≤ R.locals) (hc : cells ≤ R.cells) (hs : slots ≤ R.slots) (hsz : Ls.size = c.maxLocals) (hlen : ∀ sig, parseMethodDescriptor y.desc = some sig → argsL.length = sig.parameters.length) (hstk : stk = argsL.reverse ++ st) (hW : (st.map fun v => v.category).sum ≤ W)
    (hd : decode c.code pc = .ok (.invokestatic index, 3)) (k : ∀ T', Stand p l e R s m args below meth c T' locs cells slots → T'.heap = h → own_G p e below F (T'.setTop (mkF m (pc + 3) Ls (r.toList ++ st)))) : own_G p e below F (T.setTop (mkF m pc Ls stk)) :=
  own_static X hx hZ hown w1 w2 w3 w4 hy eT (own_back hM hZ w4 w3 hf hl) hc hs hsz hlen hstk hW hd fun v T' L X' hQ => by
    obtain ⟨rfl, rfl, hh⟩ := hQ
    rw [List.append_nil] at X'
    exact k T' X' hh
theorem own_virtualP {r : Option Value} {fr lo W : Nat} {argsL : List Value} {a : Addr} {C : String} (X : Stand p l e R s m args below meth c T locs cells slots) (hx : p.tables.exec = Jvm.exec) (hZ : Z.Warmed39 s.vm) {own : String} {index : Nat} {y : MethodName} {bytes : ByteArray} {maxL : Nat} {ret : Option FieldType} (hown : s.vm.findClass own = some m.cls)
    (w1 : (Jvm.Cond.methodLink own index y).before a0 Z = true) (w2 : (Jvm.Cond.declares y).before a0 Z = true) (w3 : (Jvm.Cond.selects C y y).before a0 Z = true) (_hCy : True) (w4 : (Jvm.Cond.instanceMethod y).before a0 Z = true) (hy : y.cls ≠ "java/lang/invoke/MethodHandle" ∧ y.cls ≠ "java/lang/invoke/VarHandle") (eT : T.heap = h) (E : Exa Z h a C)
    (hM : own_Met l Z y bytes maxL ret [] ⟨fr, 0, 0, lo⟩ (.ref a :: argsL).toArray h (own_P r h)) (wc : (Jvm.Cond.code y bytes maxL ret).before a0 Z = true) (wz : (Jvm.Cond.initialized y.cls).before a0 Z = true) (hf : fr + 1 ≤ R.frames) (hl : W + (maxL + 11) + lo ≤ R.locals) (hc : cells ≤ R.cells) (hs : slots ≤ R.slots) (hsz : Ls.size = c.maxLocals) (hlen : ∀ sig, parseMethodDescriptor y.desc = some sig → argsL.length = sig.parameters.length) (hstk : stk = argsL.reverse ++ .ref a :: st) (hW : (st.map fun v => v.category).sum ≤ W)
    (hd : decode c.code pc = .ok (.invokevirtual index, 3)) (k : ∀ T', Stand p l e R s m args below meth c T' locs cells slots → T'.heap = h → own_G p e below F (T'.setTop (mkF m (pc + 3) Ls (r.toList ++ st)))) : own_G p e below F (T.setTop (mkF m pc Ls stk)) :=
  own_virtual X hx hZ hown w1 w2 w3 trivial w4 hy eT E (own_back hM hZ wc wz hf hl) hc hs hsz hlen hstk hW hd fun v T' L X' hQ => by
    obtain ⟨rfl, rfl, hh⟩ := hQ
    rw [List.append_nil] at X'
    exact k T' X' hh
theorem own_initO (X : Stand p l e R s m args below meth c T locs cells slots) (hx : p.tables.exec = Jvm.exec) (hZ : Z.Warmed39 s.vm) {own : String} {index W : Nat} {a : Addr} (hown : s.vm.findClass own = some m.cls) (w1 : (Jvm.Cond.methodLink own index Lib.objectInit).before a0 Z = true) (w2 : (Jvm.Cond.instanceMethod Lib.objectInit).before a0 Z = true) (w3 : (Jvm.Cond.code Lib.objectInit ⟨#[0xb1]⟩ 1 none).before a0 Z = true) (eT : T.heap = h)
    (hsz : Ls.size = c.maxLocals) (hd : decode c.code pc = .ok (.invokespecial index, 3)) (hf : 1 ≤ R.frames) (hW : (st.map fun v => v.category).sum ≤ W) (hl : W + 12 ≤ R.locals)
    (k : ∀ T', Stand p l e R s m args below meth c T' locs cells slots → T'.heap = h → own_G p e below F (T'.setTop (mkF m (pc + 3) Ls st))) : own_G p e below F (T.setTop (mkF m pc Ls (.ref a :: st))) := by
  obtain ⟨T', X', e', st'⟩ := initO X hx hZ hown w1 w2 w3 eT (g := mkF m pc Ls (.ref a :: st)) rfl hsz rfl hd hf (W := W) (by show 2 * 0 + _ ≤ _; omega) hl
  exact own_step st' (k T' X' e')
theorem own_specialP {r : Option Value} {fr lo W : Nat} {argsL : List Value} {a : Addr} (X : Stand p l e R s m args below meth c T locs cells slots) (hx : p.tables.exec = Jvm.exec) (hZ : Z.Warmed39 s.vm) {own : String} {index : Nat} {y : MethodName} {bytes : ByteArray} {maxL : Nat} (hown : s.vm.findClass own = some m.cls) (hy1 : y.name = "<init>")
    (w1 : (Jvm.Cond.methodLink own index y).before a0 Z = true) (w2 : (Jvm.Cond.instanceMethod y).before a0 Z = true) (w4 : (Jvm.Cond.code y bytes maxL none).before a0 Z = true) (hy : y.cls ≠ "java/lang/invoke/MethodHandle" ∧ y.cls ≠ "java/lang/invoke/VarHandle") (eT : T.heap = h)
    (hM : own_Met l Z y bytes maxL none [] ⟨fr, 0, 0, lo⟩ (.ref a :: argsL).toArray h (own_P r h)) (wz : (Jvm.Cond.initialized y.cls).before a0 Z = true) (hf : fr + 1 ≤ R.frames) (hl : W + (maxL + 11) + lo ≤ R.locals) (hc : cells ≤ R.cells) (hs : slots ≤ R.slots) (hsz : Ls.size = c.maxLocals) (hlen : ∀ sig, parseMethodDescriptor y.desc = some sig → argsL.length = sig.parameters.length) (hstk : stk = argsL.reverse ++ .ref a :: st) (hW : (st.map fun v => v.category).sum ≤ W)
    (hd : decode c.code pc = .ok (.invokespecial index, 3)) (k : ∀ T', Stand p l e R s m args below meth c T' locs cells slots → T'.heap = h → own_G p e below F (T'.setTop (mkF m (pc + 3) Ls (r.toList ++ st)))) : own_G p e below F (T.setTop (mkF m pc Ls stk)) :=
  own_special X hx hZ hown hy1 w1 w2 w4 hy eT (own_back hM hZ w4 wz hf hl) hc hs hsz hlen hstk hW hd fun v T' L X' hQ => by
    obtain ⟨rfl, rfl, hh⟩ := hQ
    rw [List.append_nil] at X'
    exact k T' X' hh
theorem own_cat {v : Value} (q : v.isRef = true) : v.category = 1 := by cases v <;> first | rfl | simp [Value.isRef] at q
theorem own_narR {v : Value} {C : String} (q : v.isRef = true) : narrow (.object C) v = v := by cases v <;> first | rfl | simp [Value.isRef] at q
theorem own_fitR {v : Value} {C : String} (q : v.isRef = true) : fits (.object C) v = true := by cases v <;> first | rfl | simp [Value.isRef] at q
theorem own_ne {a b : Addr} (h : @LT.lt Nat instLTNat a b ∨ @LT.lt Nat instLTNat b a) : a ≠ b := fun q => by subst q; rcases h with h | h <;> exact Nat.lt_irrefl _ h
theorem own_ext {h0 h : Heap} (K : Keep h0 h []) : Ext h0 h := ⟨K.1, fun a c q => K.2.1 a c q nin0⟩
end OwnKit

/-! the wide mode: a walk that may intern; it stands over 's.setVm vm0' -/
section OwnWide
variable {p : Program} {l : Launch} {e : Env} {R : Room} {s : State} {m : MethodId} {args : Array Value} {below : List Frame} {meth : Method} {c : Code} {T : State} {locs : List Loc} {cells slots : Nat} {Z : State} {a0 : Array Value} {h : Heap} {F : Outcome → State → Prop} {pc pc' : Nat} {Ls : Array Slot} {st stk : List Value} {vm0 : Vm} {k0 : Nat}
def own_FW (s : State) (Q : Option Value → Heap → List Loc → Prop) (k n : Nat) (o : Outcome) (U : State) : Prop := ∃ v L, o = .returned v ∧ Q v U.heap L ∧ ReturnedEndW s o U L k n
abbrev own_MetW (l : Launch) (Z : State) (y : MethodName) (bytes : ByteArray) (maxL : Nat) (ret : Option FieldType) (ws : List Jvm.Cond) (rm : Room) (as : Array Value) (h : Heap) (Q : Option Value → Heap → List Loc → Prop) : Prop :=
  MetFree l y (head1 (Jvm.Cond.code y bytes maxL ret :: ws) rm) (fun a U => a = as ∧ Z.Warmed39 U.vm ∧ U.heap = h) (fun _ _ _ _ _ => True) (fun _ U o U' => ∃ v L, o = .returned v ∧ Q v U'.heap L ∧ ReturnedEndW U o U' L rm.cells rm.slots)
theorem own_enterW {y : MethodName} {bytes : ByteArray} {maxL : Nat} {ret : Option FieldType} {ws : List Jvm.Cond} {rm : Room} {as : Array Value} {Q : Option Value → Heap → List Loc → Prop} (hp : plainFor y = true) {fr : Array Slot} (hfr : ∀ m, entryFrame m as maxL = mkF m 0 fr [])
    (body : ∀ (p : Program) (e : Env) (s : State) (m : MethodId) (below : List Frame) (meth : Method) (c : Code) (T : State) (vm0 : Vm) (k0 : Nat), p.tables.exec = Jvm.exec → c.code = bytes → c.maxLocals = maxL → Z.Warmed39 (s.setVm vm0).vm → (s.setVm vm0).vm.findClass y.cls = some m.cls → meth.name = y.name → meth.sig.returnType = ret → meth.locks = false →
      Stand p l e rm (s.setVm vm0) m as below meth c T [] 0 0 → T.heap = h → s.heap = h → s.Since vm0 k0 → k0 ≤ h.size → own_G p e below (own_FW s Q rm.cells rm.slots) (T.setTop (mkF m 0 fr []))) : own_MetW l Z y bytes maxL ret ws rm as h Q := by
  refine MetFree.of_bodySF hp hisR ?_
  intro p e s m args below meth c s₁ Bd hml0 hP hK
  obtain ⟨rfl, hZ, hh⟩ := hP
  have X0 : Stand p l e rm s m args below meth c s₁ [] 0 0 := Stand.of_body Bd
  have q := body p e s m below meth c s₁ s.vm h.size Bd.exec Bd.bytes hml0 hZ (findClass_of_methodNamed Bd.named) (name_of_methodNamed Bd.named Bd.method).1 Bd.returns (BodyLoose.notSynchronized Bd) X0 (by rw [← hh, Bd.state]; rfl) hh ((State.WarmedH.refl s).since _) (Nat.le_refl _)
  rw [hfr m]; exact q
theorem own_retW {Q : Option Value → Heap → List Loc → Prop} {k n : Nat} {v : Option Value} {fr : JFrame} (X : Stand p l e R (s.setVm vm0) m args below meth c T locs cells slots) (hS : s.Since vm0 k0) (hk : k0 ≤ T.heap.size) (hv : meth.sig.returnType = none → v = none) (hlk : meth.locks = false)
    (hst : ∀ fs, (∀ (f : JFrame) (acts : List Action), f.method = m → f.locked = none → f.entered = [] → (doReturn e (T.setTop f) acts v).1 = T.setFrames fs) → Steps p.tables e below (T.setTop fr) (T.setFrames fs)) (hQ : Q v T.heap locs) (hc : cells ≤ k) (hn : slots ≤ n) : own_G p e below (own_FW s Q k n) (T.setTop fr) := by
  obtain ⟨fs, hr, hrun, hended, hE⟩ := X.leaveW hS hk hv hlk
  exact ⟨_, _, hst fs hr, hrun, hended, v, locs, rfl, hQ, hE.1, hE.2.1, hE.2.2.1, hE.2.2.2.mono hc hn⟩
theorem own_retWI {Q : Option Value → Heap → List Loc → Prop} {k n : Nat} {z : Int32} (X : Stand p l e R (s.setVm vm0) m args below meth c T locs cells slots) (hx : p.tables.exec = Jvm.exec) (hS : s.Since vm0 k0) (hk : k0 ≤ T.heap.size) (hret : meth.sig.returnType = some .int) (hlk : meth.locks = false) (hd : decode c.code pc = .ok (.ireturn, 1))
    (hQ : Q (some (.int z)) T.heap locs) (hc : cells ≤ k) (hn : slots ≤ n) : own_G p e below (own_FW s Q k n) (T.setTop (mkF m pc Ls (.int z :: st))) :=
  own_retW X hS hk (fun q => by rw [hret] at q; cases q) hlk (fun _ hr => own_stepI X hx hret hd hr) hQ hc hn
theorem own_retWN {Q : Option Value → Heap → List Loc → Prop} {k n : Nat} {z : Int32} {t : FieldType} (X : Stand p l e R (s.setVm vm0) m args below meth c T locs cells slots) (hx : p.tables.exec = Jvm.exec) (hS : s.Since vm0 k0) (hk : k0 ≤ T.heap.size) (hret : meth.sig.returnType = some t) (ht : t = .boolean ∨ t = .byte ∨ t = .char ∨ t = .short) (hlk : meth.locks = false) (hd : decode c.code pc = .ok (.ireturn, 1))
    (hQ : Q (some (.int (nar t z))) T.heap locs) (hc : cells ≤ k) (hn : slots ≤ n) : own_G p e below (own_FW s Q k n) (T.setTop (mkF m pc Ls (.int z :: st))) :=
  own_retW X hS hk (fun q => by rw [hret] at q; cases q) hlk (fun _ hr => retN X hx hret ht hd hr) hQ hc hn
theorem own_retWR {Q : Option Value → Heap → List Loc → Prop} {k n : Nat} {w : Value} {t : FieldType} (X : Stand p l e R (s.setVm vm0) m args below meth c T locs cells slots) (hx : p.tables.exec = Jvm.exec) (hS : s.Since vm0 k0) (hk : k0 ≤ T.heap.size) (hret : meth.sig.returnType = some t) (ht : t.isReference = true) (hnw : narrow t w = w) (hwr : w.isRef = true) (hlk : meth.locks = false) (hd : decode c.code pc = .ok (.areturn, 1))
    (hQ : Q (some w) T.heap locs) (hc : cells ≤ k) (hn : slots ≤ n) : own_G p e below (own_FW s Q k n) (T.setTop (mkF m pc Ls (w :: st))) :=
  own_retW X hS hk (fun q => by rw [hret] at q; cases q) hlk (fun _ hr => retOut X hx (t := t) (i := .areturn) hret hnw (Or.inr (Or.inr (Or.inr (Or.inr ⟨rfl, ht, hwr⟩)))) hd hr) hQ hc hn
theorem own_retWV {Q : Option Value → Heap → List Loc → Prop} {k n : Nat} (X : Stand p l e R (s.setVm vm0) m args below meth c T locs cells slots) (hx : p.tables.exec = Jvm.exec) (hS : s.Since vm0 k0) (hk : k0 ≤ T.heap.size) (hret : meth.sig.returnType = none) (hlk : meth.locks = false) (hd : decode c.code pc = .ok (.return_, 1))
    (hQ : Q none T.heap locs) (hc : cells ≤ k) (hn : slots ≤ n) : own_G p e below (own_FW s Q k n) (T.setTop (mkF m pc Ls [])) :=
  own_retW X hS hk (fun _ => rfl) hlk (fun _ hr => X.returnOut hx hret hd hr) hQ hc hn
/-- ldc of a String constant, its text not read -/
theorem own_ldcS (X : Stand p l e R (s.setVm vm0) m args below meth c T locs cells slots) (hx : p.tables.exec = Jvm.exec) (hZ : Z.Warmed39 (s.setVm vm0).vm) {own text : String} {index : Nat} (hown : (s.setVm vm0).vm.findClass own = some m.cls) (w : (Jvm.Cond.stringLink own index text).before a0 Z = true) (wS : ∀ a ∈ Bundle.stringAtoms, a.before a0 Z = true)
    (eT : T.heap = h) (hS : s.Since vm0 k0) (hk : k0 ≤ h.size) (hd : decode c.code pc = .ok (.ldc index, 2)) (n : Nat) (hn : 4 * text.toList.length ≤ n) (hbig : n ≤ 536870912) (hc : cells + 2 ≤ R.cells) (hl : slots + (n + 4) ≤ R.slots)
    (k : ∀ (a : Addr) (T' : State) (h' : Heap) (vm1 : Vm) (k1 : Nat), Stand p l e R (s.setVm vm1) m args below meth c T' locs (cells + 2) (slots + (n + 4)) → T'.heap = h' → Ext h h' → h.size ≤ h'.size → s.Since vm1 k1 → k1 ≤ h'.size → Z.Warmed39 (s.setVm vm1).vm → (s.setVm vm1).vm.findClass own = some m.cls →
      own_G p e below F (T'.setTop (mkF m (pc + 2) Ls (.ref a :: st)))) : own_G p e below F (T.setTop (mkF m pc Ls st)) := by
  obtain ⟨a, T', h', k1, X', e', E', hS', hk', hZ', ho', st'⟩ := ldcS X hx hZ hown w wS eT hS hk (g := mkF m pc Ls st) rfl hd hn hbig hc hl
  exact own_step st' (k a T' h' T'.vm k1 X' e' E' E'.1 hS' hk' hZ' ho')
/-- a static call of a callee that may intern -/
theorem own_staticW {Q : Option Value → Heap → List Loc → Prop} {rm : Room} {W : Nat} {argsL : List Value} (X : Stand p l e R (s.setVm vm0) m args below meth c T locs cells slots) (hx : p.tables.exec = Jvm.exec) (hZ : Z.Warmed39 (s.setVm vm0).vm) {own : String} {index : Nat} {y : MethodName} {bytes : ByteArray} {maxL : Nat} {ret : Option FieldType} (hown : (s.setVm vm0).vm.findClass own = some m.cls)
    (w1 : (Jvm.Cond.methodLink own index y).before a0 Z = true) (w2 : (Jvm.Cond.static y).before a0 Z = true) (w3 : (Jvm.Cond.initialized y.cls).before a0 Z = true) (w4 : (Jvm.Cond.code y bytes maxL ret).before a0 Z = true) (hy : y.cls ≠ "java/lang/invoke/MethodHandle" ∧ y.cls ≠ "java/lang/invoke/VarHandle") (eT : T.heap = h) (hS : s.Since vm0 k0) (hk : k0 ≤ h.size)
    (hM : own_MetW l Z y bytes maxL ret [] rm argsL.toArray h Q) (hf : rm.frames + 1 ≤ R.frames) (hl : W + (maxL + 11) + rm.locals ≤ R.locals) (hc : cells + rm.cells ≤ R.cells) (hs : slots + rm.slots ≤ R.slots) (hsz : Ls.size = c.maxLocals) (hlen : ∀ sig, parseMethodDescriptor y.desc = some sig → argsL.length = sig.parameters.length) (hstk : stk = argsL.reverse ++ st) (hW : (st.map fun v => v.category).sum ≤ W)
    (hd : decode c.code pc = .ok (.invokestatic index, 3)) (k : ∀ (v : Option Value) (T' : State) (L : List Loc) (vm1 : Vm) (k1 : Nat), Stand p l e R (s.setVm vm1) m args below meth c T' (locs ++ L) (cells + rm.cells) (slots + rm.slots) → h.size ≤ T'.heap.size → s.Since vm1 k1 → k1 ≤ T'.heap.size → Z.Warmed39 (s.setVm vm1).vm → (s.setVm vm1).vm.findClass own = some m.cls → Q v T'.heap L →
      own_G p e below F (T'.setTop (mkF m (pc + 3) Ls (v.toList ++ st)))) : own_G p e below F (T.setTop (mkF m pc Ls stk)) := by
  obtain ⟨v, _, ⟨T', L', k', n'⟩, -, X', hS', hg', ⟨L, hQ, l1, y1, z1⟩, st'⟩ := callSS X hx hown (mvT hZ w1) (mvT hZ w2) (mvT hZ w3) (mvT hZ w4) hy (backOfS (W := W) hM hZ w4 w3 hf hl) (g := mkF m pc Ls stk) rfl hsz (argsL := argsL) (rest := st) hlen hstk (by show 2 * 0 + _ ≤ _; omega) hd (fun _ _ => ⟨rfl, eT, hc, hs⟩)
  dsimp only [Pt.U, Pt.locs, Pt.cells, Pt.slots] at X' l1 y1 z1 st' hQ hS' hg'
  subst l1 y1 z1
  rw [eT] at hg'
  obtain ⟨r1, r2, r3, r4⟩ := rebS hS hk X' hS' hg' hZ hown
  exact own_go st' (k v T' L T'.vm T'.heap.size r1 hg' r2 (Nat.le_refl _) r3 r4 hQ)
end OwnWide

/-! the wide mode with a word on the tables at the entry (I) and at the end (Q sees the tables) -/
section OwnI
variable {p : Program} {l : Launch} {e : Env} {R : Room} {s : State} {m : MethodId} {args : Array Value} {below : List Frame} {meth : Method} {c : Code} {T : State} {locs : List Loc} {cells slots : Nat} {Z : State} {a0 : Array Value} {h : Heap} {F : Outcome → State → Prop} {pc pc' : Nat} {Ls : Array Slot} {st stk : List Value} {vm0 : Vm} {k0 : Nat} {I : Vm → Prop}
def own_FI (s : State) (Q : Option Value → Vm → Heap → List Loc → Prop) (k n : Nat) (o : Outcome) (U : State) : Prop := ∃ v L, o = .returned v ∧ Q v U.vm U.heap L ∧ ReturnedEndW s o U L k n
abbrev own_MetI (l : Launch) (Z : State) (y : MethodName) (bytes : ByteArray) (maxL : Nat) (ret : Option FieldType) (ws : List Jvm.Cond) (rm : Room) (as : Array Value) (h : Heap) (I : Vm → Prop) (Q : Option Value → Vm → Heap → List Loc → Prop) : Prop :=
  MetFree l y (head1 (Jvm.Cond.code y bytes maxL ret :: ws) rm) (fun a U => a = as ∧ Z.Warmed39 U.vm ∧ U.heap = h ∧ I U.vm) (fun _ _ _ _ _ => True) (fun _ U o U' => ∃ v L, o = .returned v ∧ Q v U'.vm U'.heap L ∧ ReturnedEndW U o U' L rm.cells rm.slots)
theorem own_enterI {y : MethodName} {bytes : ByteArray} {maxL : Nat} {ret : Option FieldType} {ws : List Jvm.Cond} {rm : Room} {as : Array Value} {Q : Option Value → Vm → Heap → List Loc → Prop} (hp : plainFor y = true) {fr : Array Slot} (hfr : ∀ m, entryFrame m as maxL = mkF m 0 fr [])
    (body : ∀ (p : Program) (e : Env) (s : State) (m : MethodId) (below : List Frame) (meth : Method) (c : Code) (T : State) (vm0 : Vm) (k0 : Nat), p.tables.exec = Jvm.exec → c.code = bytes → c.maxLocals = maxL → Z.Warmed39 (s.setVm vm0).vm → (s.setVm vm0).vm.findClass y.cls = some m.cls → meth.name = y.name → meth.sig.returnType = ret → meth.locks = false →
      Stand p l e rm (s.setVm vm0) m as below meth c T [] 0 0 → T.heap = h → s.heap = h → s.Since vm0 k0 → k0 ≤ h.size → I vm0 → own_G p e below (own_FI s Q rm.cells rm.slots) (T.setTop (mkF m 0 fr []))) : own_MetI l Z y bytes maxL ret ws rm as h I Q := by
  refine MetFree.of_bodySF hp hisR ?_
  intro p e s m args below meth c s₁ Bd hml0 hP hK
  obtain ⟨rfl, hZ, hh, hI⟩ := hP
  have X0 : Stand p l e rm s m args below meth c s₁ [] 0 0 := Stand.of_body Bd
  have q := body p e s m below meth c s₁ s.vm h.size Bd.exec Bd.bytes hml0 hZ (findClass_of_methodNamed Bd.named) (name_of_methodNamed Bd.named Bd.method).1 Bd.returns (BodyLoose.notSynchronized Bd) X0 (by rw [← hh, Bd.state]; rfl) hh ((State.WarmedH.refl s).since _) (Nat.le_refl _) hI
  rw [hfr m]; exact q
theorem own_retX {Q : Option Value → Vm → Heap → List Loc → Prop} {k n : Nat} {v : Option Value} {fr : JFrame} (X : Stand p l e R (s.setVm vm0) m args below meth c T locs cells slots) (hS : s.Since vm0 k0) (hk : k0 ≤ T.heap.size) (hv : meth.sig.returnType = none → v = none) (hlk : meth.locks = false)
    (hst : ∀ fs, (∀ (f : JFrame) (acts : List Action), f.method = m → f.locked = none → f.entered = [] → (doReturn e (T.setTop f) acts v).1 = T.setFrames fs) → Steps p.tables e below (T.setTop fr) (T.setFrames fs)) (hQ : Q v T.vm T.heap locs) (hc : cells ≤ k) (hn : slots ≤ n) : own_G p e below (own_FI s Q k n) (T.setTop fr) := by
  obtain ⟨fs, hr, hrun, hended, hE⟩ := X.leaveW hS hk hv hlk
  exact ⟨_, _, hst fs hr, hrun, hended, v, locs, rfl, hQ, hE.1, hE.2.1, hE.2.2.1, hE.2.2.2.mono hc hn⟩
theorem own_retXI {Q : Option Value → Vm → Heap → List Loc → Prop} {k n : Nat} {z : Int32} (X : Stand p l e R (s.setVm vm0) m args below meth c T locs cells slots) (hx : p.tables.exec = Jvm.exec) (hS : s.Since vm0 k0) (hk : k0 ≤ T.heap.size) (hret : meth.sig.returnType = some .int) (hlk : meth.locks = false) (hd : decode c.code pc = .ok (.ireturn, 1))
    (hQ : Q (some (.int z)) T.vm T.heap locs) (hc : cells ≤ k) (hn : slots ≤ n) : own_G p e below (own_FI s Q k n) (T.setTop (mkF m pc Ls (.int z :: st))) :=
  own_retX X hS hk (fun q => by rw [hret] at q; cases q) hlk (fun _ hr => own_stepI X hx hret hd hr) hQ hc hn
theorem own_retXN {Q : Option Value → Vm → Heap → List Loc → Prop} {k n : Nat} {z : Int32} {t : FieldType} (X : Stand p l e R (s.setVm vm0) m args below meth c T locs cells slots) (hx : p.tables.exec = Jvm.exec) (hS : s.Since vm0 k0) (hk : k0 ≤ T.heap.size) (hret : meth.sig.returnType = some t) (ht : t = .boolean ∨ t = .byte ∨ t = .char ∨ t = .short) (hlk : meth.locks = false) (hd : decode c.code pc = .ok (.ireturn, 1))
    (hQ : Q (some (.int (nar t z))) T.vm T.heap locs) (hc : cells ≤ k) (hn : slots ≤ n) : own_G p e below (own_FI s Q k n) (T.setTop (mkF m pc Ls (.int z :: st))) :=
  own_retX X hS hk (fun q => by rw [hret] at q; cases q) hlk (fun _ hr => retN X hx hret ht hd hr) hQ hc hn
theorem own_retXR {Q : Option Value → Vm → Heap → List Loc → Prop} {k n : Nat} {w : Value} {t : FieldType} (X : Stand p l e R (s.setVm vm0) m args below meth c T locs cells slots) (hx : p.tables.exec = Jvm.exec) (hS : s.Since vm0 k0) (hk : k0 ≤ T.heap.size) (hret : meth.sig.returnType = some t) (ht : t.isReference = true) (hnw : narrow t w = w) (hwr : w.isRef = true) (hlk : meth.locks = false) (hd : decode c.code pc = .ok (.areturn, 1))
    (hQ : Q (some w) T.vm T.heap locs) (hc : cells ≤ k) (hn : slots ≤ n) : own_G p e below (own_FI s Q k n) (T.setTop (mkF m pc Ls (w :: st))) :=
  own_retX X hS hk (fun q => by rw [hret] at q; cases q) hlk (fun _ hr => retOut X hx (t := t) (i := .areturn) hret hnw (Or.inr (Or.inr (Or.inr (Or.inr ⟨rfl, ht, hwr⟩)))) hd hr) hQ hc hn
theorem own_retXV {Q : Option Value → Vm → Heap → List Loc → Prop} {k n : Nat} (X : Stand p l e R (s.setVm vm0) m args below meth c T locs cells slots) (hx : p.tables.exec = Jvm.exec) (hS : s.Since vm0 k0) (hk : k0 ≤ T.heap.size) (hret : meth.sig.returnType = none) (hlk : meth.locks = false) (hd : decode c.code pc = .ok (.return_, 1))
    (hQ : Q none T.vm T.heap locs) (hc : cells ≤ k) (hn : slots ≤ n) : own_G p e below (own_FI s Q k n) (T.setTop (mkF m pc Ls [])) :=
  own_retX X hS hk (fun _ => rfl) hlk (fun _ hr => X.returnOut hx hret hd hr) hQ hc hn
theorem own_IBw {Ts : List String} {vm1 : Vm} (I : IB Z vm0 Ts) (hW : (s.setVm vm0).WarmedH vm1) : IB Z vm1 Ts := by
  obtain ⟨more, h1, h2⟩ := I
  exact ⟨more, (hW.interned_eq).trans h1, h2⟩
/-- ldc of a Latin-1 String constant, its text read -/
theorem own_ldcV {Ts : List String} (X : Stand p l e R (s.setVm vm0) m args below meth c T locs cells slots) (hx : p.tables.exec = Jvm.exec) (hZ : Z.Warmed39 (s.setVm vm0).vm) {own text : String} {index : Nat} (hown : (s.setVm vm0).vm.findClass own = some m.cls) (w : (Jvm.Cond.stringLink own index text).before a0 Z = true) (wS : ∀ a ∈ Bundle.stringAtoms, a.before a0 Z = true)
    (eT : T.heap = h) (hS : s.Since vm0 k0) (hk : k0 ≤ h.size) (N : Fr s.heap.size locs) (hkeep : ∀ (b : Addr) (cl : Cell), Z.heap[b]? = some cl → s.heap[b]? = some cl) (IV : IB Z vm0 Ts) (hnot : text ∉ Ts) (hh : Jvm.Lit.constHeld Z own index) (hcw : Jvm.Lit.compactW.before a0 Z = true)
    {vs : List Value} {z : Int32} (ht : (∀ c ∈ text.toList, c.toNat < 256) ∧ text.toList.map (fun c => Value.int (Jvm.Lit.byteI c.toNat.toUInt16)) = vs) (hz : ¬ z < 0) (hl : z.toNatClampNeg = vs.length) (hd : decode c.code pc = .ok (.ldc index, 2)) (n : Nat) (hn : 4 * text.toList.length ≤ n) (hbig : n ≤ 536870912) (hc : cells + 2 ≤ R.cells) (hl' : slots + (n + 4) ≤ R.slots)
    (k : ∀ (a : Addr) (T' : State) (h' : Heap) (vm1 : Vm) (k1 : Nat) (b : Addr) (kb : ClassId), Stand p l e R (s.setVm vm1) m args below meth c T' locs (cells + 2) (slots + (n + 4)) → T'.heap = h' → Ext h h' → h.size ≤ h'.size → s.Since vm1 k1 → k1 ≤ h'.size → Z.Warmed39 (s.setVm vm1).vm → (s.setVm vm1).vm.findClass own = some m.cls →
      Exa Z h' a "java/lang/String" → Fld Z h' a "java/lang/String" "coder" "B" (.int 0) → Fld Z h' a "java/lang/String" "value" "[B" (.ref b) → Arv Z h' b kb .byte z vs (.int 0) → IB Z vm1 (text :: Ts) → Lit (s.setVm vm1) own index a →
      own_G p e below F (T'.setTop (mkF m (pc + 2) Ls (.ref a :: st)))) : own_G p e below F (T.setTop (mkF m pc Ls st)) := by
  obtain ⟨a, T', h', k1, b, kb, X', e', E', hS', hk', hZ', ho', f1, f2, f3, f4, -, -, f5, f6, st'⟩ := ldcSVL X hx hZ hown w wS eT hS hk N hkeep IV hnot hh hcw ht hz hl (g := mkF m pc Ls st) rfl hd hn hbig hc hl'
  exact own_step st' (k a T' h' T'.vm k1 b kb X' e' E' E'.1 hS' hk' hZ' ho' f1 f2 f3 f4 f5 f6)
theorem own_ldcA (X : Stand p l e R (s.setVm vm0) m args below meth c T locs cells slots) (hx : p.tables.exec = Jvm.exec) (hZ : Z.Warmed39 (s.setVm vm0).vm) {own text : String} {index : Nat} (hown : (s.setVm vm0).vm.findClass own = some m.cls) (w : (Jvm.Cond.stringLink own index text).before a0 Z = true) {a : Addr} (L : Lit (s.setVm vm0) own index a) (hd : decode c.code pc = .ok (.ldc index, 2))
    (k : own_G p e below F (T.setTop (mkF m (pc + 2) Ls (.ref a :: st)))) : own_G p e below F (T.setTop (mkF m pc Ls st)) :=
  own_step (ldcAgain X hx hZ hown w L (g := mkF m pc Ls st) rfl hd) k
theorem own_backI {y : MethodName} {bytes : ByteArray} {maxL : Nat} {ret : Option FieldType} {rm : Room} {W : Nat} {as' : Array Value} {Q : Option Value → Vm → Heap → List Loc → Prop}
    (hM : own_MetI l Z y bytes maxL ret [] rm as' h I Q) (hZ : Z.Warmed39 s.vm) (hI : ∀ vm', s.WarmedH vm' → I vm') (wc : (Jvm.Cond.code y bytes maxL ret).before a0 Z = true) (wz : (Jvm.Cond.initialized y.cls).before a0 Z = true) (hf : rm.frames + 1 ≤ R.frames) (hl : W + (maxL + 11) + rm.locals ≤ R.locals) :
    BackS l R p e below s args y 3 W (fun A a => a = as' ∧ A.U.heap = h ∧ A.cells + rm.cells ≤ R.cells ∧ A.slots + rm.slots ≤ R.slots)
      (fun A _ v B => ∃ L, Q v B.U.vm B.U.heap L ∧ B.locs = A.locs ++ L ∧ B.cells = A.cells + rm.cells ∧ B.slots = A.slots + rm.slots) :=
  BackS.of_freeW (bytes := bytes) (maxL := maxL) (ret := ret) (E := fun _ _ o t L k n => k = rm.cells ∧ n = rm.slots ∧ ∃ v, o = .returned v ∧ Q v t.vm t.heap L) hM hf hl
    (fun m meth c A a Y hp => have hU : Z.Warmed39 A.U.vm := wtrans hZ Y.warmed
      ⟨by show (Jvm.Cond.and _ .tt).before a A.U = true; rw [Cond.before_and, mv hU wc]; rfl, mv hU wc, mv hU wz, hp.2.2.1, hp.2.2.2⟩)
    (fun m meth c A a g mk Y hp => ⟨hp.1, wtrans hZ Y.warmed, hp.2.1, hI _ Y.warmed⟩) (fun _ _ _ _ _ _ _ _ _ => trivial)
    (fun _ _ _ _ ⟨v, L, h1, h2, h3⟩ => ⟨L, _, _, h3, rfl, rfl, v, h1, h2⟩)
    (fun m meth c A a g mk v t L k n Y hp _ _ ⟨e1, e2, v', e3, e4⟩ => by cases e3; subst e1 e2; exact ⟨L, e4, rfl, rfl, rfl⟩)
abbrev own_K (p : Program) (l : Launch) (e : Env) (R : Room) (s : State) (m : MethodId) (args : Array Value) (below : List Frame) (meth : Method) (c : Code) (locs : List Loc) (kc kn : Nat) (Z : State) (h : Heap) (own : String) (Q : Option Value → Vm → Heap → List Loc → Prop) (F : Outcome → State → Prop) (pc : Nat) (Ls : Array Slot) (st : List Value) : Prop :=
  ∀ (v : Option Value) (T' : State) (L : List Loc) (vm1 : Vm) (k1 : Nat), Stand p l e R (s.setVm vm1) m args below meth c T' (locs ++ L) kc kn → vm1 = T'.vm → h.size ≤ T'.heap.size → s.Since vm1 k1 → k1 ≤ T'.heap.size → Z.Warmed39 (s.setVm vm1).vm → (s.setVm vm1).vm.findClass own = some m.cls → Q v vm1 T'.heap L →
      own_G p e below F (T'.setTop (mkF m (pc + 3) Ls (v.toList ++ st)))
theorem own_staticI {Q : Option Value → Vm → Heap → List Loc → Prop} {rm : Room} {W : Nat} {argsL : List Value} (X : Stand p l e R (s.setVm vm0) m args below meth c T locs cells slots) (hx : p.tables.exec = Jvm.exec) (hZ : Z.Warmed39 (s.setVm vm0).vm) {own : String} {index : Nat} {y : MethodName} {bytes : ByteArray} {maxL : Nat} {ret : Option FieldType} (hown : (s.setVm vm0).vm.findClass own = some m.cls)
    (w1 : (Jvm.Cond.methodLink own index y).before a0 Z = true) (w2 : (Jvm.Cond.static y).before a0 Z = true) (w3 : (Jvm.Cond.initialized y.cls).before a0 Z = true) (w4 : (Jvm.Cond.code y bytes maxL ret).before a0 Z = true) (hy : y.cls ≠ "java/lang/invoke/MethodHandle" ∧ y.cls ≠ "java/lang/invoke/VarHandle") (eT : T.heap = h) (hS : s.Since vm0 k0) (hk : k0 ≤ h.size)
    (hM : own_MetI l Z y bytes maxL ret [] rm argsL.toArray h I Q) (hI : ∀ vm', (s.setVm vm0).WarmedH vm' → I vm') (hf : rm.frames + 1 ≤ R.frames) (hl : W + (maxL + 11) + rm.locals ≤ R.locals) (hc : cells + rm.cells ≤ R.cells) (hs : slots + rm.slots ≤ R.slots) (hsz : Ls.size = c.maxLocals) (hlen : ∀ sig, parseMethodDescriptor y.desc = some sig → argsL.length = sig.parameters.length) (hstk : stk = argsL.reverse ++ st) (hW : (st.map fun v => v.category).sum ≤ W)
    (hd : decode c.code pc = .ok (.invokestatic index, 3)) (k : own_K p l e R s m args below meth c locs (cells + rm.cells) (slots + rm.slots) Z h own Q F pc Ls st) : own_G p e below F (T.setTop (mkF m pc Ls stk)) := by
  obtain ⟨v, _, ⟨T', L', k', n'⟩, -, X', hS', hg', ⟨L, hQ, l1, y1, z1⟩, st'⟩ := callSS X hx hown (mvT hZ w1) (mvT hZ w2) (mvT hZ w3) (mvT hZ w4) hy (own_backI (W := W) hM hZ hI w4 w3 hf hl) (g := mkF m pc Ls stk) rfl hsz (argsL := argsL) (rest := st) hlen hstk (by show 2 * 0 + _ ≤ _; omega) hd (fun _ _ => ⟨rfl, eT, hc, hs⟩)
  dsimp only [Pt.U, Pt.locs, Pt.cells, Pt.slots] at X' l1 y1 z1 st' hQ hS' hg'
  subst l1 y1 z1
  rw [eT] at hg'
  obtain ⟨r1, r2, r3, r4⟩ := rebS hS hk X' hS' hg' hZ hown
  exact own_go st' (k v T' L T'.vm T'.heap.size r1 rfl hg' r2 (Nat.le_refl _) r3 r4 hQ)
theorem own_specialI {Q : Option Value → Vm → Heap → List Loc → Prop} {rm : Room} {W : Nat} {argsL : List Value} {a : Addr} (X : Stand p l e R (s.setVm vm0) m args below meth c T locs cells slots) (hx : p.tables.exec = Jvm.exec) (hZ : Z.Warmed39 (s.setVm vm0).vm) {own : String} {index : Nat} {y : MethodName} {bytes : ByteArray} {maxL : Nat} (hown : (s.setVm vm0).vm.findClass own = some m.cls) (hy1 : y.name = "<init>")
    (w1 : (Jvm.Cond.methodLink own index y).before a0 Z = true) (w2 : (Jvm.Cond.instanceMethod y).before a0 Z = true) (w4 : (Jvm.Cond.code y bytes maxL none).before a0 Z = true) (wz : (Jvm.Cond.initialized y.cls).before a0 Z = true) (hy : y.cls ≠ "java/lang/invoke/MethodHandle" ∧ y.cls ≠ "java/lang/invoke/VarHandle") (eT : T.heap = h) (hS : s.Since vm0 k0) (hk : k0 ≤ h.size)
    (hM : own_MetI l Z y bytes maxL none [] rm (.ref a :: argsL).toArray h I Q) (hI : ∀ vm', (s.setVm vm0).WarmedH vm' → I vm') (hf : rm.frames + 1 ≤ R.frames) (hl : W + (maxL + 11) + rm.locals ≤ R.locals) (hc : cells + rm.cells ≤ R.cells) (hs : slots + rm.slots ≤ R.slots) (hsz : Ls.size = c.maxLocals) (hlen : ∀ sig, parseMethodDescriptor y.desc = some sig → argsL.length = sig.parameters.length) (hstk : stk = argsL.reverse ++ .ref a :: st) (hW : (st.map fun v => v.category).sum ≤ W)
    (hd : decode c.code pc = .ok (.invokespecial index, 3)) (k : own_K p l e R s m args below meth c locs (cells + rm.cells) (slots + rm.slots) Z h own Q F pc Ls st) : own_G p e below F (T.setTop (mkF m pc Ls stk)) := by
  obtain ⟨v, _, ⟨T', L', k', n'⟩, -, X', hS', hg', ⟨L, hQ, l1, y1, z1⟩, st'⟩ := X.specialBackS hx hy1 hown (mvT hZ w1) (mvT hZ w2) (mvT hZ w4) hy (own_backI (W := W) hM hZ hI w4 wz hf hl) (g := mkF m pc Ls stk) rfl hsz (Steps.refl _) (a := a) (argsL := argsL) (rest := st) hlen hstk (by show 2 * 0 + _ ≤ _; omega) hd (fun _ _ => ⟨rfl, eT, hc, hs⟩)
  dsimp only [Pt.U, Pt.locs, Pt.cells, Pt.slots] at X' l1 y1 z1 st' hQ hS' hg'
  subst l1 y1 z1
  rw [eT] at hg'
  obtain ⟨r1, r2, r3, r4⟩ := rebS hS hk X' hS' hg' hZ hown
  exact own_go st' (k v T' L T'.vm T'.heap.size r1 rfl hg' r2 (Nat.le_refl _) r3 r4 hQ)
theorem own_virtualI {Q : Option Value → Vm → Heap → List Loc → Prop} {rm : Room} {W : Nat} {argsL : List Value} {a : Addr} {C : String} (X : Stand p l e R (s.setVm vm0) m args below meth c T locs cells slots) (hx : p.tables.exec = Jvm.exec) (hZ : Z.Warmed39 (s.setVm vm0).vm) {own : String} {index : Nat} {y : MethodName} {bytes : ByteArray} {maxL : Nat} {ret : Option FieldType} (hown : (s.setVm vm0).vm.findClass own = some m.cls)
    (w1 : (Jvm.Cond.methodLink own index y).before a0 Z = true) (w2 : (Jvm.Cond.declares y).before a0 Z = true) (w3 : (Jvm.Cond.selects C y y).before a0 Z = true) (_hCy : True) (wi : (Jvm.Cond.instanceMethod y).before a0 Z = true) (w4 : (Jvm.Cond.code y bytes maxL ret).before a0 Z = true) (wz : (Jvm.Cond.initialized y.cls).before a0 Z = true) (hy : y.cls ≠ "java/lang/invoke/MethodHandle" ∧ y.cls ≠ "java/lang/invoke/VarHandle") (eT : T.heap = h) (hS : s.Since vm0 k0) (hk : k0 ≤ h.size) (E : Exa Z h a C)
    (hM : own_MetI l Z y bytes maxL ret [] rm (.ref a :: argsL).toArray h I Q) (hI : ∀ vm', (s.setVm vm0).WarmedH vm' → I vm') (hf : rm.frames + 1 ≤ R.frames) (hl : W + (maxL + 11) + rm.locals ≤ R.locals) (hc : cells + rm.cells ≤ R.cells) (hs : slots + rm.slots ≤ R.slots) (hsz : Ls.size = c.maxLocals) (hlen : ∀ sig, parseMethodDescriptor y.desc = some sig → argsL.length = sig.parameters.length) (hstk : stk = argsL.reverse ++ .ref a :: st) (hW : (st.map fun v => v.category).sum ≤ W)
    (hd : decode c.code pc = .ok (.invokevirtual index, 3)) (k : own_K p l e R s m args below meth c locs (cells + rm.cells) (slots + rm.slots) Z h own Q F pc Ls st) : own_G p e below F (T.setTop (mkF m pc Ls stk)) := by
  obtain ⟨cB, kB, q1, q2, q3⟩ := isOf hZ eT E
  obtain ⟨v, _, ⟨T', L', k', n'⟩, -, X', hS', hg', ⟨L, hQ, l1, y1, z1⟩, st'⟩ := X.virtualBackS hx hown (mvT hZ w1) (mvT hZ w2) (notFace_of_selects (args := #[]) (mvT hZ w3)) (mvT hZ w3) (mvT hZ wi) hy (own_backI (W := W) hM hZ hI w4 wz hf hl) q1 q3 (g := mkF m pc Ls stk) rfl hsz (Steps.refl _) (argsL := argsL) (rest := st) hlen hstk (by show 2 * 0 + _ ≤ _; omega) hd (fun _ _ => ⟨rfl, eT, hc, hs⟩)
  dsimp only [Pt.U, Pt.locs, Pt.cells, Pt.slots] at X' l1 y1 z1 st' hQ hS' hg'
  subst l1 y1 z1
  rw [eT] at hg'
  obtain ⟨r1, r2, r3, r4⟩ := rebS hS hk X' hS' hg' hZ hown
  exact own_go st' (k v T' L T'.vm T'.heap.size r1 rfl hg' r2 (Nat.le_refl _) r3 r4 hQ)
end OwnI

theorem own_and255 (x : Int32) : ¬ nar .char ((x &&& (255 : Int32)).toUInt32.toUInt16.toUInt32.toInt32) < 0 ∧ ¬ (255 : Int32) < nar .char ((x &&& (255 : Int32)).toUInt32.toUInt16.toUInt32.toInt32) := by
  have t : ∀ k : Fin 256, ¬ nar .char ((Int32.ofNat k.val).toUInt32.toUInt16.toUInt32.toInt32) < 0 ∧ ¬ (255 : Int32) < nar .char ((Int32.ofNat k.val).toUInt32.toUInt16.toUInt32.toInt32) := by decide +kernel
  have h : (x &&& 255).toBitVec.toNat < 256 := by
    simp only [Int32.toBitVec_and, BitVec.toNat_and]
    exact Nat.lt_succ_of_le Nat.and_le_right
  have e : (x &&& 255) = Int32.ofNat (x &&& 255).toBitVec.toNat := by
    apply Int32.toBitVec_inj.mp
    show _ = BitVec.ofNat 32 _
    rw [BitVec.ofNat_toNat]; simp
  rw [e]
  exact t ⟨_, h⟩
theorem d1_0 : decode jdk_42_method_3_code 0 = .ok (.aload_n 0, 1) := by decide +kernel
theorem d1_1 : decode jdk_42_method_3_code 1 = .ok (.aload_n 1, 1) := by decide +kernel
theorem d1_2 : decode jdk_42_method_3_code 2 = .ok (.iconst 0, 1) := by decide +kernel
theorem d1_3 : decode jdk_42_method_3_code 3 = .ok (.aload_n 1, 1) := by decide +kernel
theorem d1_4 : decode jdk_42_method_3_code 4 = .ok (.arraylength, 1) := by decide +kernel
theorem d1_5 : decode jdk_42_method_3_code 5 = .ok (.aconst_null, 1) := by decide +kernel
theorem d1_6 : decode jdk_42_method_3_code 6 = .ok (.invokespecial 27, 3) := by decide +kernel
theorem d1_9 : decode jdk_42_method_3_code 9 = .ok (.return_, 1) := by decide +kernel
theorem d2_0 : decode jdk_42_method_149_code 0 = .ok (.aload_n 0, 1) := by decide +kernel
theorem d2_1 : decode jdk_42_method_149_code 1 = .ok (.invokespecial 1, 3) := by decide +kernel
theorem d2_4 : decode jdk_42_method_149_code 4 = .ok (.iload_n 3, 1) := by decide +kernel
theorem d2_5 : decode jdk_42_method_149_code 5 = .ok (.ifCond .ne 22, 3) := by decide +kernel
theorem d2_27 : decode jdk_42_method_149_code 27 = .ok (.getstatic 38, 3) := by decide +kernel
theorem d2_30 : decode jdk_42_method_149_code 30 = .ok (.ifCond .eq 28, 3) := by decide +kernel
theorem d2_33 : decode jdk_42_method_149_code 33 = .ok (.aload_n 1, 1) := by decide +kernel
theorem d2_34 : decode jdk_42_method_149_code 34 = .ok (.iload_n 2, 1) := by decide +kernel
theorem d2_35 : decode jdk_42_method_149_code 35 = .ok (.iload_n 3, 1) := by decide +kernel
theorem d2_36 : decode jdk_42_method_149_code 36 = .ok (.invokestatic 177, 3) := by decide +kernel
theorem d2_39 : decode jdk_42_method_149_code 39 = .ok (.astore 5, 2) := by decide +kernel
theorem d2_41 : decode jdk_42_method_149_code 41 = .ok (.aload_n 0, 1) := by decide +kernel
theorem d2_42 : decode jdk_42_method_149_code 42 = .ok (.aload 5, 2) := by decide +kernel
theorem d2_44 : decode jdk_42_method_149_code 44 = .ok (.iload_n 3, 1) := by decide +kernel
theorem d2_45 : decode jdk_42_method_149_code 45 = .ok (.invokestatic 47, 3) := by decide +kernel
theorem d2_48 : decode jdk_42_method_149_code 48 = .ok (.putfield 15, 3) := by decide +kernel
theorem d2_51 : decode jdk_42_method_149_code 51 = .ok (.aload_n 0, 1) := by decide +kernel
theorem d2_52 : decode jdk_42_method_149_code 52 = .ok (.aload 5, 2) := by decide +kernel
theorem d2_54 : decode jdk_42_method_149_code 54 = .ok (.putfield 9, 3) := by decide +kernel
theorem d2_57 : decode jdk_42_method_149_code 57 = .ok (.return_, 1) := by decide +kernel
theorem d4_0 : decode jdk_52_method_16_code 0 = .ok (.iload_n 2, 1) := by decide +kernel
theorem d4_1 : decode jdk_52_method_16_code 1 = .ok (.newarray .byte, 2) := by decide +kernel
theorem d4_3 : decode jdk_52_method_16_code 3 = .ok (.astore_n 3, 1) := by decide +kernel
theorem d4_4 : decode jdk_52_method_16_code 4 = .ok (.aload_n 0, 1) := by decide +kernel
theorem d4_5 : decode jdk_52_method_16_code 5 = .ok (.iload_n 1, 1) := by decide +kernel
theorem d4_6 : decode jdk_52_method_16_code 6 = .ok (.aload_n 3, 1) := by decide +kernel
theorem d4_7 : decode jdk_52_method_16_code 7 = .ok (.iconst 0, 1) := by decide +kernel
theorem d4_8 : decode jdk_52_method_16_code 8 = .ok (.iload_n 2, 1) := by decide +kernel
theorem d4_9 : decode jdk_52_method_16_code 9 = .ok (.invokestatic 115, 3) := by decide +kernel
theorem d4_12 : decode jdk_52_method_16_code 12 = .ok (.istore 4, 2) := by decide +kernel
theorem d4_14 : decode jdk_52_method_16_code 14 = .ok (.iload 4, 2) := by decide +kernel
theorem d4_16 : decode jdk_52_method_16_code 16 = .ok (.iload_n 2, 1) := by decide +kernel
theorem d4_17 : decode jdk_52_method_16_code 17 = .ok (.if_icmp .eq 40, 3) := by decide +kernel
theorem d4_20 : decode jdk_52_method_16_code 20 = .ok (.aload_n 0, 1) := by decide +kernel
theorem d4_21 : decode jdk_52_method_16_code 21 = .ok (.iload_n 1, 1) := by decide +kernel
theorem d4_22 : decode jdk_52_method_16_code 22 = .ok (.iload_n 2, 1) := by decide +kernel
theorem d4_23 : decode jdk_52_method_16_code 23 = .ok (.invokestatic 119, 3) := by decide +kernel
theorem d4_26 : decode jdk_52_method_16_code 26 = .ok (.astore 5, 2) := by decide +kernel
theorem d4_28 : decode jdk_52_method_16_code 28 = .ok (.aload 5, 2) := by decide +kernel
theorem d4_30 : decode jdk_52_method_16_code 30 = .ok (.iload 4, 2) := by decide +kernel
theorem d4_32 : decode jdk_52_method_16_code 32 = .ok (.invokestatic 71, 3) := by decide +kernel
theorem d4_35 : decode jdk_52_method_16_code 35 = .ok (.sipush 255, 3) := by decide +kernel
theorem d4_38 : decode jdk_52_method_16_code 38 = .ok (.if_icmp .gt 16, 3) := by decide +kernel
theorem d4_54 : decode jdk_52_method_16_code 54 = .ok (.aload 5, 2) := by decide +kernel
theorem d4_56 : decode jdk_52_method_16_code 56 = .ok (.areturn, 1) := by decide +kernel
theorem d4_57 : decode jdk_52_method_16_code 57 = .ok (.aload_n 3, 1) := by decide +kernel
theorem d4_58 : decode jdk_52_method_16_code 58 = .ok (.areturn, 1) := by decide +kernel
theorem d5_0 : decode jdk_52_method_21_code 0 = .ok (.iconst 0, 1) := by decide +kernel
theorem d5_1 : decode jdk_52_method_21_code 1 = .ok (.istore 5, 2) := by decide +kernel
theorem d5_3 : decode jdk_52_method_21_code 3 = .ok (.iload 5, 2) := by decide +kernel
theorem d5_5 : decode jdk_52_method_21_code 5 = .ok (.iload 4, 2) := by decide +kernel
theorem d5_7 : decode jdk_52_method_21_code 7 = .ok (.if_icmp .ge 37, 3) := by decide +kernel
theorem d5_10 : decode jdk_52_method_21_code 10 = .ok (.aload_n 0, 1) := by decide +kernel
theorem d5_11 : decode jdk_52_method_21_code 11 = .ok (.iload_n 1, 1) := by decide +kernel
theorem d5_12 : decode jdk_52_method_21_code 12 = .ok (.caload, 1) := by decide +kernel
theorem d5_13 : decode jdk_52_method_21_code 13 = .ok (.istore 6, 2) := by decide +kernel
theorem d5_15 : decode jdk_52_method_21_code 15 = .ok (.iload 6, 2) := by decide +kernel
theorem d5_17 : decode jdk_52_method_21_code 17 = .ok (.sipush 255, 3) := by decide +kernel
theorem d5_20 : decode jdk_52_method_21_code 20 = .ok (.if_icmp .le 6, 3) := by decide +kernel
theorem d5_23 : decode jdk_52_method_21_code 23 = .ok (.iload 5, 2) := by decide +kernel
theorem d5_25 : decode jdk_52_method_21_code 25 = .ok (.ireturn, 1) := by decide +kernel
theorem d5_26 : decode jdk_52_method_21_code 26 = .ok (.aload_n 2, 1) := by decide +kernel
theorem d5_27 : decode jdk_52_method_21_code 27 = .ok (.iload_n 3, 1) := by decide +kernel
theorem d5_28 : decode jdk_52_method_21_code 28 = .ok (.iload 6, 2) := by decide +kernel
theorem d5_30 : decode jdk_52_method_21_code 30 = .ok (.i2b, 1) := by decide +kernel
theorem d5_31 : decode jdk_52_method_21_code 31 = .ok (.bastore, 1) := by decide +kernel
theorem d5_32 : decode jdk_52_method_21_code 32 = .ok (.iinc 1 1, 3) := by decide +kernel
theorem d5_35 : decode jdk_52_method_21_code 35 = .ok (.iinc 3 1, 3) := by decide +kernel
theorem d5_38 : decode jdk_52_method_21_code 38 = .ok (.iinc 5 1, 3) := by decide +kernel
theorem d5_41 : decode jdk_52_method_21_code 41 = .ok (.goto (-38), 3) := by decide +kernel
theorem d5_44 : decode jdk_52_method_21_code 44 = .ok (.iload 4, 2) := by decide +kernel
theorem d5_46 : decode jdk_52_method_21_code 46 = .ok (.ireturn, 1) := by decide +kernel
theorem d6_0 : decode jdk_52_method_15_code 0 = .ok (.iload_n 1, 1) := by decide +kernel
theorem d6_1 : decode jdk_52_method_15_code 1 = .ok (.aload_n 0, 1) := by decide +kernel
theorem d6_2 : decode jdk_52_method_15_code 2 = .ok (.arraylength, 1) := by decide +kernel
theorem d6_3 : decode jdk_52_method_15_code 3 = .ok (.isub, 1) := by decide +kernel
theorem d6_4 : decode jdk_52_method_15_code 4 = .ok (.bipush 31, 2) := by decide +kernel
theorem d6_6 : decode jdk_52_method_15_code 6 = .ok (.iushr, 1) := by decide +kernel
theorem d6_7 : decode jdk_52_method_15_code 7 = .ok (.i2b, 1) := by decide +kernel
theorem d6_8 : decode jdk_52_method_15_code 8 = .ok (.ireturn, 1) := by decide +kernel
theorem d7_0 : decode method_3_code 0 = .ok (.bipush 18, 2) := by decide +kernel
theorem d7_2 : decode method_3_code 2 = .ok (.iload_n 3, 1) := by decide +kernel
theorem d7_3 : decode method_3_code 3 = .ok (.iadd, 1) := by decide +kernel
theorem d7_4 : decode method_3_code 4 = .ok (.newarray .char, 2) := by decide +kernel
theorem d7_6 : decode method_3_code 6 = .ok (.astore 4, 2) := by decide +kernel
theorem d7_8 : decode method_3_code 8 = .ok (.aload 4, 2) := by decide +kernel
theorem d7_10 : decode method_3_code 10 = .ok (.iconst 0, 1) := by decide +kernel
theorem d7_11 : decode method_3_code 11 = .ok (.bipush 116, 2) := by decide +kernel
theorem d7_13 : decode method_3_code 13 = .ok (.castore, 1) := by decide +kernel
theorem d7_14 : decode method_3_code 14 = .ok (.aload 4, 2) := by decide +kernel
theorem d7_16 : decode method_3_code 16 = .ok (.iconst 1, 1) := by decide +kernel
theorem d7_17 : decode method_3_code 17 = .ok (.bipush 114, 2) := by decide +kernel
theorem d7_19 : decode method_3_code 19 = .ok (.castore, 1) := by decide +kernel
theorem d7_20 : decode method_3_code 20 = .ok (.aload 4, 2) := by decide +kernel
theorem d7_22 : decode method_3_code 22 = .ok (.iconst 2, 1) := by decide +kernel
theorem d7_23 : decode method_3_code 23 = .ok (.bipush 105, 2) := by decide +kernel
theorem d7_25 : decode method_3_code 25 = .ok (.castore, 1) := by decide +kernel
theorem d7_26 : decode method_3_code 26 = .ok (.aload 4, 2) := by decide +kernel
theorem d7_28 : decode method_3_code 28 = .ok (.iconst 3, 1) := by decide +kernel
theorem d7_29 : decode method_3_code 29 = .ok (.bipush 51, 2) := by decide +kernel
theorem d7_31 : decode method_3_code 31 = .ok (.castore, 1) := by decide +kernel
theorem d7_32 : decode method_3_code 32 = .ok (.aload 4, 2) := by decide +kernel
theorem d7_34 : decode method_3_code 34 = .ok (.iconst 4, 1) := by decide +kernel
theorem d7_35 : decode method_3_code 35 = .ok (.bipush 58, 2) := by decide +kernel
theorem d7_37 : decode method_3_code 37 = .ok (.castore, 1) := by decide +kernel
theorem d7_38 : decode method_3_code 38 = .ok (.aload 4, 2) := by decide +kernel
theorem d7_40 : decode method_3_code 40 = .ok (.iconst 5, 1) := by decide +kernel
theorem d7_41 : decode method_3_code 41 = .ok (.bipush 108, 2) := by decide +kernel
theorem d7_43 : decode method_3_code 43 = .ok (.castore, 1) := by decide +kernel
theorem d7_44 : decode method_3_code 44 = .ok (.aload 4, 2) := by decide +kernel
theorem d7_46 : decode method_3_code 46 = .ok (.bipush 6, 2) := by decide +kernel
theorem d7_48 : decode method_3_code 48 = .ok (.bipush 111, 2) := by decide +kernel
theorem d7_50 : decode method_3_code 50 = .ok (.castore, 1) := by decide +kernel
theorem d7_51 : decode method_3_code 51 = .ok (.aload 4, 2) := by decide +kernel
theorem d7_53 : decode method_3_code 53 = .ok (.bipush 7, 2) := by decide +kernel
theorem d7_55 : decode method_3_code 55 = .ok (.bipush 99, 2) := by decide +kernel
theorem d7_57 : decode method_3_code 57 = .ok (.castore, 1) := by decide +kernel
theorem d7_58 : decode method_3_code 58 = .ok (.aload 4, 2) := by decide +kernel
theorem d7_60 : decode method_3_code 60 = .ok (.bipush 8, 2) := by decide +kernel
theorem d7_62 : decode method_3_code 62 = .ok (.bipush 107, 2) := by decide +kernel
theorem d7_64 : decode method_3_code 64 = .ok (.castore, 1) := by decide +kernel
theorem d7_65 : decode method_3_code 65 = .ok (.aload 4, 2) := by decide +kernel
theorem d7_67 : decode method_3_code 67 = .ok (.bipush 9, 2) := by decide +kernel
theorem d7_69 : decode method_3_code 69 = .ok (.bipush 58, 2) := by decide +kernel
theorem d7_71 : decode method_3_code 71 = .ok (.castore, 1) := by decide +kernel
theorem d7_72 : decode method_3_code 72 = .ok (.aload 4, 2) := by decide +kernel
theorem d7_74 : decode method_3_code 74 = .ok (.bipush 10, 2) := by decide +kernel
theorem d7_76 : decode method_3_code 76 = .ok (.bipush 123, 2) := by decide +kernel
theorem d7_78 : decode method_3_code 78 = .ok (.castore, 1) := by decide +kernel
theorem d7_79 : decode method_3_code 79 = .ok (.aload 4, 2) := by decide +kernel
theorem d7_81 : decode method_3_code 81 = .ok (.bipush 11, 2) := by decide +kernel
theorem d7_83 : decode method_3_code 83 = .ok (.iload_n 0, 1) := by decide +kernel
theorem d7_84 : decode method_3_code 84 = .ok (.castore, 1) := by decide +kernel
theorem d7_85 : decode method_3_code 85 = .ok (.iload_n 3, 1) := by decide +kernel
theorem d7_86 : decode method_3_code 86 = .ok (.iconst 2, 1) := by decide +kernel
theorem d7_87 : decode method_3_code 87 = .ok (.if_icmp .lt 9, 3) := by decide +kernel
theorem d7_90 : decode method_3_code 90 = .ok (.aload 4, 2) := by decide +kernel
theorem d7_92 : decode method_3_code 92 = .ok (.bipush 12, 2) := by decide +kernel
theorem d7_94 : decode method_3_code 94 = .ok (.iload_n 1, 1) := by decide +kernel
theorem d7_95 : decode method_3_code 95 = .ok (.castore, 1) := by decide +kernel
theorem d7_96 : decode method_3_code 96 = .ok (.iload_n 3, 1) := by decide +kernel
theorem d7_97 : decode method_3_code 97 = .ok (.iconst 3, 1) := by decide +kernel
theorem d7_98 : decode method_3_code 98 = .ok (.if_icmp .lt 9, 3) := by decide +kernel
theorem d7_101 : decode method_3_code 101 = .ok (.aload 4, 2) := by decide +kernel
theorem d7_103 : decode method_3_code 103 = .ok (.bipush 13, 2) := by decide +kernel
theorem d7_105 : decode method_3_code 105 = .ok (.iload_n 2, 1) := by decide +kernel
theorem d7_106 : decode method_3_code 106 = .ok (.castore, 1) := by decide +kernel
theorem d7_107 : decode method_3_code 107 = .ok (.aload 4, 2) := by decide +kernel
theorem d7_109 : decode method_3_code 109 = .ok (.bipush 11, 2) := by decide +kernel
theorem d7_111 : decode method_3_code 111 = .ok (.iload_n 3, 1) := by decide +kernel
theorem d7_112 : decode method_3_code 112 = .ok (.iadd, 1) := by decide +kernel
theorem d7_113 : decode method_3_code 113 = .ok (.bipush 125, 2) := by decide +kernel
theorem d7_115 : decode method_3_code 115 = .ok (.castore, 1) := by decide +kernel
theorem d7_116 : decode method_3_code 116 = .ok (.aload 4, 2) := by decide +kernel
theorem d7_118 : decode method_3_code 118 = .ok (.bipush 12, 2) := by decide +kernel
theorem d7_120 : decode method_3_code 120 = .ok (.iload_n 3, 1) := by decide +kernel
theorem d7_121 : decode method_3_code 121 = .ok (.iadd, 1) := by decide +kernel
theorem d7_122 : decode method_3_code 122 = .ok (.bipush 58, 2) := by decide +kernel
theorem d7_124 : decode method_3_code 124 = .ok (.castore, 1) := by decide +kernel
theorem d7_125 : decode method_3_code 125 = .ok (.aload 4, 2) := by decide +kernel
theorem d7_127 : decode method_3_code 127 = .ok (.bipush 13, 2) := by decide +kernel
theorem d7_129 : decode method_3_code 129 = .ok (.iload_n 3, 1) := by decide +kernel
theorem d7_130 : decode method_3_code 130 = .ok (.iadd, 1) := by decide +kernel
theorem d7_131 : decode method_3_code 131 = .ok (.bipush 116, 2) := by decide +kernel
theorem d7_133 : decode method_3_code 133 = .ok (.castore, 1) := by decide +kernel
theorem d7_134 : decode method_3_code 134 = .ok (.aload 4, 2) := by decide +kernel
theorem d7_136 : decode method_3_code 136 = .ok (.bipush 14, 2) := by decide +kernel
theorem d7_138 : decode method_3_code 138 = .ok (.iload_n 3, 1) := by decide +kernel
theorem d7_139 : decode method_3_code 139 = .ok (.iadd, 1) := by decide +kernel
theorem d7_140 : decode method_3_code 140 = .ok (.bipush 111, 2) := by decide +kernel
theorem d7_142 : decode method_3_code 142 = .ok (.castore, 1) := by decide +kernel
theorem d7_143 : decode method_3_code 143 = .ok (.aload 4, 2) := by decide +kernel
theorem d7_145 : decode method_3_code 145 = .ok (.bipush 15, 2) := by decide +kernel
theorem d7_147 : decode method_3_code 147 = .ok (.iload_n 3, 1) := by decide +kernel
theorem d7_148 : decode method_3_code 148 = .ok (.iadd, 1) := by decide +kernel
theorem d7_149 : decode method_3_code 149 = .ok (.bipush 107, 2) := by decide +kernel
theorem d7_151 : decode method_3_code 151 = .ok (.castore, 1) := by decide +kernel
theorem d7_152 : decode method_3_code 152 = .ok (.aload 4, 2) := by decide +kernel
theorem d7_154 : decode method_3_code 154 = .ok (.bipush 16, 2) := by decide +kernel
theorem d7_156 : decode method_3_code 156 = .ok (.iload_n 3, 1) := by decide +kernel
theorem d7_157 : decode method_3_code 157 = .ok (.iadd, 1) := by decide +kernel
theorem d7_158 : decode method_3_code 158 = .ok (.bipush 101, 2) := by decide +kernel
theorem d7_160 : decode method_3_code 160 = .ok (.castore, 1) := by decide +kernel
theorem d7_161 : decode method_3_code 161 = .ok (.aload 4, 2) := by decide +kernel
theorem d7_163 : decode method_3_code 163 = .ok (.bipush 17, 2) := by decide +kernel
theorem d7_165 : decode method_3_code 165 = .ok (.iload_n 3, 1) := by decide +kernel
theorem d7_166 : decode method_3_code 166 = .ok (.iadd, 1) := by decide +kernel
theorem d7_167 : decode method_3_code 167 = .ok (.bipush 110, 2) := by decide +kernel
theorem d7_169 : decode method_3_code 169 = .ok (.castore, 1) := by decide +kernel
theorem d7_170 : decode method_3_code 170 = .ok (.aload 4, 2) := by decide +kernel
theorem d7_172 : decode method_3_code 172 = .ok (.areturn, 1) := by decide +kernel
theorem d8_0 : decode prog_1_method_4_code 0 = .ok (.new 15, 3) := by decide +kernel
theorem d8_3 : decode prog_1_method_4_code 3 = .ok (.dup, 1) := by decide +kernel
theorem d8_4 : decode prog_1_method_4_code 4 = .ok (.invokespecial 17, 3) := by decide +kernel
theorem d8_7 : decode prog_1_method_4_code 7 = .ok (.ldc 7, 2) := by decide +kernel
theorem d8_9 : decode prog_1_method_4_code 9 = .ok (.aload_n 0, 1) := by decide +kernel
theorem d8_10 : decode prog_1_method_4_code 10 = .ok (.invokestatic 9, 3) := by decide +kernel
theorem d8_13 : decode prog_1_method_4_code 13 = .ok (.invokevirtual 18, 3) := by decide +kernel
theorem d8_16 : decode prog_1_method_4_code 16 = .ok (.ldc 28, 2) := by decide +kernel
theorem d8_18 : decode prog_1_method_4_code 18 = .ok (.invokevirtual 18, 3) := by decide +kernel
theorem d8_21 : decode prog_1_method_4_code 21 = .ok (.invokevirtual 24, 3) := by decide +kernel
theorem d8_24 : decode prog_1_method_4_code 24 = .ok (.areturn, 1) := by decide +kernel
theorem d9_0 : decode jdk_67_method_1_code 0 = .ok (.aload_n 0, 1) := by decide +kernel
theorem d9_1 : decode jdk_67_method_1_code 1 = .ok (.bipush 16, 2) := by decide +kernel
theorem d9_3 : decode jdk_67_method_1_code 3 = .ok (.invokespecial 1, 3) := by decide +kernel
theorem d9_6 : decode jdk_67_method_1_code 6 = .ok (.return_, 1) := by decide +kernel
theorem d10_0 : decode jdk_68_method_2_code 0 = .ok (.aload_n 0, 1) := by decide +kernel
theorem d10_1 : decode jdk_68_method_2_code 1 = .ok (.invokespecial 3, 3) := by decide +kernel
theorem d10_4 : decode jdk_68_method_2_code 4 = .ok (.getstatic 18, 3) := by decide +kernel
theorem d10_7 : decode jdk_68_method_2_code 7 = .ok (.ifCond .eq 18, 3) := by decide +kernel
theorem d10_10 : decode jdk_68_method_2_code 10 = .ok (.aload_n 0, 1) := by decide +kernel
theorem d10_11 : decode jdk_68_method_2_code 11 = .ok (.iload_n 1, 1) := by decide +kernel
theorem d10_12 : decode jdk_68_method_2_code 12 = .ok (.newarray .byte, 2) := by decide +kernel
theorem d10_14 : decode jdk_68_method_2_code 14 = .ok (.putfield 15, 3) := by decide +kernel
theorem d10_17 : decode jdk_68_method_2_code 17 = .ok (.aload_n 0, 1) := by decide +kernel
theorem d10_18 : decode jdk_68_method_2_code 18 = .ok (.iconst 0, 1) := by decide +kernel
theorem d10_19 : decode jdk_68_method_2_code 19 = .ok (.putfield 22, 3) := by decide +kernel
theorem d10_22 : decode jdk_68_method_2_code 22 = .ok (.goto 16, 3) := by decide +kernel
theorem d10_38 : decode jdk_68_method_2_code 38 = .ok (.return_, 1) := by decide +kernel
theorem d11_0 : decode prog_1_method_8_code 0 = .ok (.aload_n 1, 1) := by decide +kernel
theorem d11_1 : decode prog_1_method_8_code 1 = .ok (.ldc 36, 2) := by decide +kernel
theorem d11_3 : decode prog_1_method_8_code 3 = .ok (.invokestatic 38, 3) := by decide +kernel
theorem d11_6 : decode prog_1_method_8_code 6 = .ok (.pop, 1) := by decide +kernel
theorem d11_7 : decode prog_1_method_8_code 7 = .ok (.aload_n 1, 1) := by decide +kernel
theorem d11_8 : decode prog_1_method_8_code 8 = .ok (.invokevirtual 44, 3) := by decide +kernel
theorem d11_11 : decode prog_1_method_8_code 11 = .ok (.ifCond .ne 13, 3) := by decide +kernel
theorem d11_14 : decode prog_1_method_8_code 14 = .ok (.aload_n 1, 1) := by decide +kernel
theorem d11_15 : decode prog_1_method_8_code 15 = .ok (.iconst 0, 1) := by decide +kernel
theorem d11_16 : decode prog_1_method_8_code 16 = .ok (.invokevirtual 50, 3) := by decide +kernel
theorem d11_19 : decode prog_1_method_8_code 19 = .ok (.bipush 125, 2) := by decide +kernel
theorem d11_21 : decode prog_1_method_8_code 21 = .ok (.if_icmp .ne 44, 3) := by decide +kernel
theorem d11_65 : decode prog_1_method_8_code 65 = .ok (.new 15, 3) := by decide +kernel
theorem d11_68 : decode prog_1_method_8_code 68 = .ok (.dup, 1) := by decide +kernel
theorem d11_69 : decode prog_1_method_8_code 69 = .ok (.invokespecial 17, 3) := by decide +kernel
theorem d11_72 : decode prog_1_method_8_code 72 = .ok (.ldc 65, 2) := by decide +kernel
theorem d11_74 : decode prog_1_method_8_code 74 = .ok (.invokevirtual 18, 3) := by decide +kernel
theorem d11_77 : decode prog_1_method_8_code 77 = .ok (.aload_n 0, 1) := by decide +kernel
theorem d11_78 : decode prog_1_method_8_code 78 = .ok (.invokevirtual 18, 3) := by decide +kernel
theorem d11_81 : decode prog_1_method_8_code 81 = .ok (.ldc 67, 2) := by decide +kernel
theorem d11_83 : decode prog_1_method_8_code 83 = .ok (.invokevirtual 18, 3) := by decide +kernel
theorem d11_86 : decode prog_1_method_8_code 86 = .ok (.aload_n 1, 1) := by decide +kernel
theorem d11_87 : decode prog_1_method_8_code 87 = .ok (.invokevirtual 18, 3) := by decide +kernel
theorem d11_90 : decode prog_1_method_8_code 90 = .ok (.ldc 69, 2) := by decide +kernel
theorem d11_92 : decode prog_1_method_8_code 92 = .ok (.invokevirtual 18, 3) := by decide +kernel
theorem d11_95 : decode prog_1_method_8_code 95 = .ok (.invokevirtual 24, 3) := by decide +kernel
theorem d11_98 : decode prog_1_method_8_code 98 = .ok (.areturn, 1) := by decide +kernel
theorem d12_0 : decode jdk_31_method_11_code 0 = .ok (.aload_n 0, 1) := by decide +kernel
theorem d12_1 : decode jdk_31_method_11_code 1 = .ok (.ifnonnull 12, 3) := by decide +kernel
theorem d12_13 : decode jdk_31_method_11_code 13 = .ok (.aload_n 0, 1) := by decide +kernel
theorem d12_14 : decode jdk_31_method_11_code 14 = .ok (.areturn, 1) := by decide +kernel
theorem d13_0 : decode jdk_42_method_55_code 0 = .ok (.aload_n 0, 1) := by decide +kernel
theorem d13_1 : decode jdk_42_method_55_code 1 = .ok (.getfield 9, 3) := by decide +kernel
theorem d13_4 : decode jdk_42_method_55_code 4 = .ok (.arraylength, 1) := by decide +kernel
theorem d13_5 : decode jdk_42_method_55_code 5 = .ok (.ifCond .ne 7, 3) := by decide +kernel
theorem d13_12 : decode jdk_42_method_55_code 12 = .ok (.iconst 0, 1) := by decide +kernel
theorem d13_13 : decode jdk_42_method_55_code 13 = .ok (.ireturn, 1) := by decide +kernel
theorem d14_0 : decode jdk_42_method_56_code 0 = .ok (.aload_n 0, 1) := by decide +kernel
theorem d14_1 : decode jdk_42_method_56_code 1 = .ok (.invokevirtual 492, 3) := by decide +kernel
theorem d14_4 : decode jdk_42_method_56_code 4 = .ok (.ifCond .eq 12, 3) := by decide +kernel
theorem d14_16 : decode jdk_42_method_56_code 16 = .ok (.aload_n 0, 1) := by decide +kernel
theorem d14_17 : decode jdk_42_method_56_code 17 = .ok (.getfield 9, 3) := by decide +kernel
theorem d14_20 : decode jdk_42_method_56_code 20 = .ok (.iload_n 1, 1) := by decide +kernel
theorem d14_21 : decode jdk_42_method_56_code 21 = .ok (.invokestatic 498, 3) := by decide +kernel
theorem d14_24 : decode jdk_42_method_56_code 24 = .ok (.ireturn, 1) := by decide +kernel
theorem d15_0 : decode jdk_42_method_154_code 0 = .ok (.getstatic 38, 3) := by decide +kernel
theorem d15_3 : decode jdk_42_method_154_code 3 = .ok (.ifCond .eq 14, 3) := by decide +kernel
theorem d15_6 : decode jdk_42_method_154_code 6 = .ok (.aload_n 0, 1) := by decide +kernel
theorem d15_7 : decode jdk_42_method_154_code 7 = .ok (.getfield 15, 3) := by decide +kernel
theorem d15_10 : decode jdk_42_method_154_code 10 = .ok (.ifCond .ne 7, 3) := by decide +kernel
theorem d15_17 : decode jdk_42_method_154_code 17 = .ok (.iconst 0, 1) := by decide +kernel
theorem d15_18 : decode jdk_42_method_154_code 18 = .ok (.ireturn, 1) := by decide +kernel
theorem d17_0 : decode jdk_42_method_155_code 0 = .ok (.iload_n 0, 1) := by decide +kernel
theorem d17_1 : decode jdk_42_method_155_code 1 = .ok (.iload_n 1, 1) := by decide +kernel
theorem d17_2 : decode jdk_42_method_155_code 2 = .ok (.getstatic 1053, 3) := by decide +kernel
theorem d17_5 : decode jdk_42_method_155_code 5 = .ok (.invokestatic 1059, 3) := by decide +kernel
theorem d17_8 : decode jdk_42_method_155_code 8 = .ok (.pop, 1) := by decide +kernel
theorem d17_9 : decode jdk_42_method_155_code 9 = .ok (.return_, 1) := by decide +kernel
theorem d18_0 : decode jdk_41_method_11_code 0 = .ok (.iload_n 0, 1) := by decide +kernel
theorem d18_1 : decode jdk_41_method_11_code 1 = .ok (.ifCond .lt 8, 3) := by decide +kernel
theorem d18_4 : decode jdk_41_method_11_code 4 = .ok (.iload_n 0, 1) := by decide +kernel
theorem d18_5 : decode jdk_41_method_11_code 5 = .ok (.iload_n 1, 1) := by decide +kernel
theorem d18_6 : decode jdk_41_method_11_code 6 = .ok (.if_icmp .lt 10, 3) := by decide +kernel
theorem d18_16 : decode jdk_41_method_11_code 16 = .ok (.iload_n 0, 1) := by decide +kernel
theorem d18_17 : decode jdk_41_method_11_code 17 = .ok (.ireturn, 1) := by decide +kernel
theorem d19_0 : decode jdk_67_method_7_code 0 = .ok (.aload_n 0, 1) := by decide +kernel
theorem d19_1 : decode jdk_67_method_7_code 1 = .ok (.aload_n 1, 1) := by decide +kernel
theorem d19_2 : decode jdk_67_method_7_code 2 = .ok (.invokespecial 29, 3) := by decide +kernel
theorem d19_5 : decode jdk_67_method_7_code 5 = .ok (.pop, 1) := by decide +kernel
theorem d19_6 : decode jdk_67_method_7_code 6 = .ok (.aload_n 0, 1) := by decide +kernel
theorem d19_7 : decode jdk_67_method_7_code 7 = .ok (.areturn, 1) := by decide +kernel
theorem d20_0 : decode jdk_68_method_22_code 0 = .ok (.aload_n 1, 1) := by decide +kernel
theorem d20_1 : decode jdk_68_method_22_code 1 = .ok (.ifnonnull 8, 3) := by decide +kernel
theorem d20_9 : decode jdk_68_method_22_code 9 = .ok (.aload_n 1, 1) := by decide +kernel
theorem d20_10 : decode jdk_68_method_22_code 10 = .ok (.invokevirtual 32, 3) := by decide +kernel
theorem d20_13 : decode jdk_68_method_22_code 13 = .ok (.istore_n 2, 1) := by decide +kernel
theorem d20_14 : decode jdk_68_method_22_code 14 = .ok (.aload_n 0, 1) := by decide +kernel
theorem d20_15 : decode jdk_68_method_22_code 15 = .ok (.aload_n 0, 1) := by decide +kernel
theorem d20_16 : decode jdk_68_method_22_code 16 = .ok (.getfield 79, 3) := by decide +kernel
theorem d20_19 : decode jdk_68_method_22_code 19 = .ok (.iload_n 2, 1) := by decide +kernel
theorem d20_20 : decode jdk_68_method_22_code 20 = .ok (.iadd, 1) := by decide +kernel
theorem d20_21 : decode jdk_68_method_22_code 21 = .ok (.invokevirtual 100, 3) := by decide +kernel
theorem d20_24 : decode jdk_68_method_22_code 24 = .ok (.aload_n 0, 1) := by decide +kernel
theorem d20_25 : decode jdk_68_method_22_code 25 = .ok (.aload_n 0, 1) := by decide +kernel
theorem d20_26 : decode jdk_68_method_22_code 26 = .ok (.getfield 79, 3) := by decide +kernel
theorem d20_29 : decode jdk_68_method_22_code 29 = .ok (.aload_n 1, 1) := by decide +kernel
theorem d20_30 : decode jdk_68_method_22_code 30 = .ok (.invokevirtual 208, 3) := by decide +kernel
theorem d20_33 : decode jdk_68_method_22_code 33 = .ok (.aload_n 0, 1) := by decide +kernel
theorem d20_34 : decode jdk_68_method_22_code 34 = .ok (.dup, 1) := by decide +kernel
theorem d20_35 : decode jdk_68_method_22_code 35 = .ok (.getfield 79, 3) := by decide +kernel
theorem d20_38 : decode jdk_68_method_22_code 38 = .ok (.iload_n 2, 1) := by decide +kernel
theorem d20_39 : decode jdk_68_method_22_code 39 = .ok (.iadd, 1) := by decide +kernel
theorem d20_40 : decode jdk_68_method_22_code 40 = .ok (.putfield 79, 3) := by decide +kernel
theorem d20_43 : decode jdk_68_method_22_code 43 = .ok (.aload_n 0, 1) := by decide +kernel
theorem d20_44 : decode jdk_68_method_22_code 44 = .ok (.areturn, 1) := by decide +kernel
theorem d21_0 : decode jdk_42_method_54_code 0 = .ok (.aload_n 0, 1) := by decide +kernel
theorem d21_1 : decode jdk_42_method_54_code 1 = .ok (.getfield 9, 3) := by decide +kernel
theorem d21_4 : decode jdk_42_method_54_code 4 = .ok (.arraylength, 1) := by decide +kernel
theorem d21_5 : decode jdk_42_method_54_code 5 = .ok (.aload_n 0, 1) := by decide +kernel
theorem d21_6 : decode jdk_42_method_54_code 6 = .ok (.invokevirtual 335, 3) := by decide +kernel
theorem d21_9 : decode jdk_42_method_54_code 9 = .ok (.ishr, 1) := by decide +kernel
theorem d21_10 : decode jdk_42_method_54_code 10 = .ok (.ireturn, 1) := by decide +kernel
theorem d22_0 : decode jdk_42_method_152_code 0 = .ok (.getstatic 38, 3) := by decide +kernel
theorem d22_3 : decode jdk_42_method_152_code 3 = .ok (.ifCond .eq 10, 3) := by decide +kernel
theorem d22_6 : decode jdk_42_method_152_code 6 = .ok (.aload_n 0, 1) := by decide +kernel
theorem d22_7 : decode jdk_42_method_152_code 7 = .ok (.getfield 15, 3) := by decide +kernel
theorem d22_10 : decode jdk_42_method_152_code 10 = .ok (.goto 4, 3) := by decide +kernel
theorem d22_14 : decode jdk_42_method_152_code 14 = .ok (.ireturn, 1) := by decide +kernel
theorem d23_0 : decode jdk_68_method_9_code 0 = .ok (.aload_n 0, 1) := by decide +kernel
theorem d23_1 : decode jdk_68_method_9_code 1 = .ok (.getfield 15, 3) := by decide +kernel
theorem d23_4 : decode jdk_68_method_9_code 4 = .ok (.arraylength, 1) := by decide +kernel
theorem d23_5 : decode jdk_68_method_9_code 5 = .ok (.aload_n 0, 1) := by decide +kernel
theorem d23_6 : decode jdk_68_method_9_code 6 = .ok (.getfield 22, 3) := by decide +kernel
theorem d23_9 : decode jdk_68_method_9_code 9 = .ok (.ishr, 1) := by decide +kernel
theorem d23_10 : decode jdk_68_method_9_code 10 = .ok (.istore_n 2, 1) := by decide +kernel
theorem d23_11 : decode jdk_68_method_9_code 11 = .ok (.iload_n 1, 1) := by decide +kernel
theorem d23_12 : decode jdk_68_method_9_code 12 = .ok (.iload_n 2, 1) := by decide +kernel
theorem d23_13 : decode jdk_68_method_9_code 13 = .ok (.isub, 1) := by decide +kernel
theorem d23_14 : decode jdk_68_method_9_code 14 = .ok (.ifCond .le 24, 3) := by decide +kernel
theorem d23_17 : decode jdk_68_method_9_code 17 = .ok (.aload_n 0, 1) := by decide +kernel
theorem d23_18 : decode jdk_68_method_9_code 18 = .ok (.aload_n 0, 1) := by decide +kernel
theorem d23_19 : decode jdk_68_method_9_code 19 = .ok (.getfield 15, 3) := by decide +kernel
theorem d23_22 : decode jdk_68_method_9_code 22 = .ok (.aload_n 0, 1) := by decide +kernel
theorem d23_23 : decode jdk_68_method_9_code 23 = .ok (.iload_n 1, 1) := by decide +kernel
theorem d23_24 : decode jdk_68_method_9_code 24 = .ok (.invokevirtual 104, 3) := by decide +kernel
theorem d23_27 : decode jdk_68_method_9_code 27 = .ok (.aload_n 0, 1) := by decide +kernel
theorem d23_28 : decode jdk_68_method_9_code 28 = .ok (.getfield 22, 3) := by decide +kernel
theorem d23_31 : decode jdk_68_method_9_code 31 = .ok (.ishl, 1) := by decide +kernel
theorem d23_32 : decode jdk_68_method_9_code 32 = .ok (.invokestatic 108, 3) := by decide +kernel
theorem d23_35 : decode jdk_68_method_9_code 35 = .ok (.putfield 15, 3) := by decide +kernel
theorem d23_38 : decode jdk_68_method_9_code 38 = .ok (.return_, 1) := by decide +kernel
theorem d24_0 : decode jdk_68_method_73_code 0 = .ok (.aload_n 0, 1) := by decide +kernel
theorem d24_1 : decode jdk_68_method_73_code 1 = .ok (.aload_n 2, 1) := by decide +kernel
theorem d24_2 : decode jdk_68_method_73_code 2 = .ok (.invokevirtual 397, 3) := by decide +kernel
theorem d24_5 : decode jdk_68_method_73_code 5 = .ok (.aload_n 2, 1) := by decide +kernel
theorem d24_6 : decode jdk_68_method_73_code 6 = .ok (.aload_n 0, 1) := by decide +kernel
theorem d24_7 : decode jdk_68_method_73_code 7 = .ok (.getfield 15, 3) := by decide +kernel
theorem d24_10 : decode jdk_68_method_73_code 10 = .ok (.iload_n 1, 1) := by decide +kernel
theorem d24_11 : decode jdk_68_method_73_code 11 = .ok (.aload_n 0, 1) := by decide +kernel
theorem d24_12 : decode jdk_68_method_73_code 12 = .ok (.getfield 22, 3) := by decide +kernel
theorem d24_15 : decode jdk_68_method_73_code 15 = .ok (.invokevirtual 399, 3) := by decide +kernel
theorem d24_18 : decode jdk_68_method_73_code 18 = .ok (.return_, 1) := by decide +kernel
theorem d25_0 : decode jdk_68_method_71_code 0 = .ok (.getstatic 18, 3) := by decide +kernel
theorem d25_3 : decode jdk_68_method_71_code 3 = .ok (.ifCond .eq 18, 3) := by decide +kernel
theorem d25_6 : decode jdk_68_method_71_code 6 = .ok (.aload_n 0, 1) := by decide +kernel
theorem d25_7 : decode jdk_68_method_71_code 7 = .ok (.getfield 22, 3) := by decide +kernel
theorem d25_10 : decode jdk_68_method_71_code 10 = .ok (.aload_n 1, 1) := by decide +kernel
theorem d25_11 : decode jdk_68_method_71_code 11 = .ok (.invokevirtual 40, 3) := by decide +kernel
theorem d25_14 : decode jdk_68_method_71_code 14 = .ok (.if_icmp .eq 7, 3) := by decide +kernel
theorem d25_17 : decode jdk_68_method_71_code 17 = .ok (.aload_n 0, 1) := by decide +kernel
theorem d25_18 : decode jdk_68_method_71_code 18 = .ok (.invokevirtual 195, 3) := by decide +kernel
theorem d25_21 : decode jdk_68_method_71_code 21 = .ok (.return_, 1) := by decide +kernel
theorem d26_0 : decode jdk_42_method_147_code 0 = .ok (.aload_n 0, 1) := by decide +kernel
theorem d26_1 : decode jdk_42_method_147_code 1 = .ok (.invokevirtual 335, 3) := by decide +kernel
theorem d26_4 : decode jdk_42_method_147_code 4 = .ok (.iload_n 3, 1) := by decide +kernel
theorem d26_5 : decode jdk_42_method_147_code 5 = .ok (.if_icmp .ne 23, 3) := by decide +kernel
theorem d26_8 : decode jdk_42_method_147_code 8 = .ok (.aload_n 0, 1) := by decide +kernel
theorem d26_9 : decode jdk_42_method_147_code 9 = .ok (.getfield 9, 3) := by decide +kernel
theorem d26_12 : decode jdk_42_method_147_code 12 = .ok (.iconst 0, 1) := by decide +kernel
theorem d26_13 : decode jdk_42_method_147_code 13 = .ok (.aload_n 1, 1) := by decide +kernel
theorem d26_14 : decode jdk_42_method_147_code 14 = .ok (.iload_n 2, 1) := by decide +kernel
theorem d26_15 : decode jdk_42_method_147_code 15 = .ok (.iload_n 3, 1) := by decide +kernel
theorem d26_16 : decode jdk_42_method_147_code 16 = .ok (.ishl, 1) := by decide +kernel
theorem d26_17 : decode jdk_42_method_147_code 17 = .ok (.aload_n 0, 1) := by decide +kernel
theorem d26_18 : decode jdk_42_method_147_code 18 = .ok (.getfield 9, 3) := by decide +kernel
theorem d26_21 : decode jdk_42_method_147_code 21 = .ok (.arraylength, 1) := by decide +kernel
theorem d26_22 : decode jdk_42_method_147_code 22 = .ok (.invokestatic 212, 3) := by decide +kernel
theorem d26_25 : decode jdk_42_method_147_code 25 = .ok (.goto 18, 3) := by decide +kernel
theorem d26_28 : decode jdk_42_method_147_code 28 = .ok (.aload_n 0, 1) := by decide +kernel
theorem d26_29 : decode jdk_42_method_147_code 29 = .ok (.getfield 9, 3) := by decide +kernel
theorem d26_32 : decode jdk_42_method_147_code 32 = .ok (.iconst 0, 1) := by decide +kernel
theorem d26_33 : decode jdk_42_method_147_code 33 = .ok (.aload_n 1, 1) := by decide +kernel
theorem d26_34 : decode jdk_42_method_147_code 34 = .ok (.iload_n 2, 1) := by decide +kernel
theorem d26_35 : decode jdk_42_method_147_code 35 = .ok (.aload_n 0, 1) := by decide +kernel
theorem d26_36 : decode jdk_42_method_147_code 36 = .ok (.getfield 9, 3) := by decide +kernel
theorem d26_39 : decode jdk_42_method_147_code 39 = .ok (.arraylength, 1) := by decide +kernel
theorem d26_40 : decode jdk_42_method_147_code 40 = .ok (.invokestatic 106, 3) := by decide +kernel
theorem d26_43 : decode jdk_42_method_147_code 43 = .ok (.return_, 1) := by decide +kernel
theorem d27_0 : decode jdk_67_method_42_code 0 = .ok (.new 18, 3) := by decide +kernel
theorem d27_3 : decode jdk_67_method_42_code 3 = .ok (.dup, 1) := by decide +kernel
theorem d27_4 : decode jdk_67_method_42_code 4 = .ok (.aload_n 0, 1) := by decide +kernel
theorem d27_5 : decode jdk_67_method_42_code 5 = .ok (.invokespecial 137, 3) := by decide +kernel
theorem d27_8 : decode jdk_67_method_42_code 8 = .ok (.areturn, 1) := by decide +kernel
theorem d28_0 : decode jdk_42_method_53_code 0 = .ok (.aload_n 0, 1) := by decide +kernel
theorem d28_1 : decode jdk_42_method_53_code 1 = .ok (.aload_n 1, 1) := by decide +kernel
theorem d28_2 : decode jdk_42_method_53_code 2 = .ok (.aconst_null, 1) := by decide +kernel
theorem d28_3 : decode jdk_42_method_53_code 3 = .ok (.invokespecial 489, 3) := by decide +kernel
theorem d28_6 : decode jdk_42_method_53_code 6 = .ok (.return_, 1) := by decide +kernel
theorem d29_0 : decode jdk_42_method_150_code 0 = .ok (.aload_n 0, 1) := by decide +kernel
theorem d29_1 : decode jdk_42_method_150_code 1 = .ok (.invokespecial 1, 3) := by decide +kernel
theorem d29_4 : decode jdk_42_method_150_code 4 = .ok (.aload_n 1, 1) := by decide +kernel
theorem d29_5 : decode jdk_42_method_150_code 5 = .ok (.invokevirtual 552, 3) := by decide +kernel
theorem d29_8 : decode jdk_42_method_150_code 8 = .ok (.astore_n 3, 1) := by decide +kernel
theorem d29_9 : decode jdk_42_method_150_code 9 = .ok (.aload_n 1, 1) := by decide +kernel
theorem d29_10 : decode jdk_42_method_150_code 10 = .ok (.invokevirtual 549, 3) := by decide +kernel
theorem d29_13 : decode jdk_42_method_150_code 13 = .ok (.istore 4, 2) := by decide +kernel
theorem d29_15 : decode jdk_42_method_150_code 15 = .ok (.aload_n 1, 1) := by decide +kernel
theorem d29_16 : decode jdk_42_method_150_code 16 = .ok (.invokevirtual 1047, 3) := by decide +kernel
theorem d29_19 : decode jdk_42_method_150_code 19 = .ok (.ifCond .eq 22, 3) := by decide +kernel
theorem d29_22 : decode jdk_42_method_150_code 22 = .ok (.aload_n 0, 1) := by decide +kernel
theorem d29_23 : decode jdk_42_method_150_code 23 = .ok (.iconst 0, 1) := by decide +kernel
theorem d29_24 : decode jdk_42_method_150_code 24 = .ok (.putfield 15, 3) := by decide +kernel
theorem d29_27 : decode jdk_42_method_150_code 27 = .ok (.aload_n 0, 1) := by decide +kernel
theorem d29_28 : decode jdk_42_method_150_code 28 = .ok (.aload_n 3, 1) := by decide +kernel
theorem d29_29 : decode jdk_42_method_150_code 29 = .ok (.iconst 0, 1) := by decide +kernel
theorem d29_30 : decode jdk_42_method_150_code 30 = .ok (.iload 4, 2) := by decide +kernel
theorem d29_32 : decode jdk_42_method_150_code 32 = .ok (.invokestatic 54, 3) := by decide +kernel
theorem d29_35 : decode jdk_42_method_150_code 35 = .ok (.putfield 9, 3) := by decide +kernel
theorem d29_38 : decode jdk_42_method_150_code 38 = .ok (.goto 59, 3) := by decide +kernel
theorem d29_41 : decode jdk_42_method_150_code 41 = .ok (.getstatic 38, 3) := by decide +kernel
theorem d29_44 : decode jdk_42_method_150_code 44 = .ok (.ifCond .eq 35, 3) := by decide +kernel
theorem d29_47 : decode jdk_42_method_150_code 47 = .ok (.aload_n 1, 1) := by decide +kernel
theorem d29_48 : decode jdk_42_method_150_code 48 = .ok (.getfield 1048, 3) := by decide +kernel
theorem d29_51 : decode jdk_42_method_150_code 51 = .ok (.ifCond .eq 28, 3) := by decide +kernel
theorem d29_79 : decode jdk_42_method_150_code 79 = .ok (.aload_n 0, 1) := by decide +kernel
theorem d29_80 : decode jdk_42_method_150_code 80 = .ok (.iconst 1, 1) := by decide +kernel
theorem d29_81 : decode jdk_42_method_150_code 81 = .ok (.putfield 15, 3) := by decide +kernel
theorem d29_84 : decode jdk_42_method_150_code 84 = .ok (.aload_n 0, 1) := by decide +kernel
theorem d29_85 : decode jdk_42_method_150_code 85 = .ok (.aload_n 3, 1) := by decide +kernel
theorem d29_86 : decode jdk_42_method_150_code 86 = .ok (.iconst 0, 1) := by decide +kernel
theorem d29_87 : decode jdk_42_method_150_code 87 = .ok (.iload 4, 2) := by decide +kernel
theorem d29_89 : decode jdk_42_method_150_code 89 = .ok (.iconst 1, 1) := by decide +kernel
theorem d29_90 : decode jdk_42_method_150_code 90 = .ok (.ishl, 1) := by decide +kernel
theorem d29_91 : decode jdk_42_method_150_code 91 = .ok (.invokestatic 54, 3) := by decide +kernel
theorem d29_94 : decode jdk_42_method_150_code 94 = .ok (.putfield 9, 3) := by decide +kernel
theorem d29_97 : decode jdk_42_method_150_code 97 = .ok (.return_, 1) := by decide +kernel
theorem d30_0 : decode jdk_68_method_64_code 0 = .ok (.aload_n 0, 1) := by decide +kernel
theorem d30_1 : decode jdk_68_method_64_code 1 = .ok (.getfield 15, 3) := by decide +kernel
theorem d30_4 : decode jdk_68_method_64_code 4 = .ok (.areturn, 1) := by decide +kernel
theorem d31_0 : decode jdk_67_method_93_code 0 = .ok (.aload_n 0, 1) := by decide +kernel
theorem d31_1 : decode jdk_67_method_93_code 1 = .ok (.invokespecial 343, 3) := by decide +kernel
theorem d31_4 : decode jdk_67_method_93_code 4 = .ok (.ireturn, 1) := by decide +kernel
theorem d32_0 : decode jdk_68_method_6_code 0 = .ok (.aload_n 0, 1) := by decide +kernel
theorem d32_1 : decode jdk_68_method_6_code 1 = .ok (.getfield 79, 3) := by decide +kernel
theorem d32_4 : decode jdk_68_method_6_code 4 = .ok (.ireturn, 1) := by decide +kernel
theorem d33_0 : decode jdk_68_method_68_code 0 = .ok (.getstatic 18, 3) := by decide +kernel
theorem d33_3 : decode jdk_68_method_68_code 3 = .ok (.ifCond .eq 14, 3) := by decide +kernel
theorem d33_6 : decode jdk_68_method_68_code 6 = .ok (.aload_n 0, 1) := by decide +kernel
theorem d33_7 : decode jdk_68_method_68_code 7 = .ok (.getfield 22, 3) := by decide +kernel
theorem d33_10 : decode jdk_68_method_68_code 10 = .ok (.ifCond .ne 7, 3) := by decide +kernel
theorem d33_13 : decode jdk_68_method_68_code 13 = .ok (.iconst 1, 1) := by decide +kernel
theorem d33_14 : decode jdk_68_method_68_code 14 = .ok (.goto 4, 3) := by decide +kernel
theorem d33_17 : decode jdk_68_method_68_code 17 = .ok (.iconst 0, 1) := by decide +kernel
theorem d33_18 : decode jdk_68_method_68_code 18 = .ok (.ireturn, 1) := by decide +kernel
theorem d34_0 : decode jdk_65_method_132_code 0 = .ok (.iload_n 1, 1) := by decide +kernel
theorem d34_1 : decode jdk_65_method_132_code 1 = .ok (.ifCond .ne 9, 3) := by decide +kernel
theorem d34_4 : decode jdk_65_method_132_code 4 = .ok (.iload_n 2, 1) := by decide +kernel
theorem d34_5 : decode jdk_65_method_132_code 5 = .ok (.aload_n 0, 1) := by decide +kernel
theorem d34_6 : decode jdk_65_method_132_code 6 = .ok (.arraylength, 1) := by decide +kernel
theorem d34_7 : decode jdk_65_method_132_code 7 = .ok (.if_icmp .eq 10, 3) := by decide +kernel
theorem d34_10 : decode jdk_65_method_132_code 10 = .ok (.aload_n 0, 1) := by decide +kernel
theorem d34_11 : decode jdk_65_method_132_code 11 = .ok (.iload_n 1, 1) := by decide +kernel
theorem d34_12 : decode jdk_65_method_132_code 12 = .ok (.iload_n 2, 1) := by decide +kernel
theorem d34_13 : decode jdk_65_method_132_code 13 = .ok (.invokestatic 339, 3) := by decide +kernel
theorem d34_16 : decode jdk_65_method_132_code 16 = .ok (.areturn, 1) := by decide +kernel
theorem d35_0 : decode jdk_65_method_133_code 0 = .ok (.iload_n 1, 1) := by decide +kernel
theorem d35_1 : decode jdk_65_method_133_code 1 = .ok (.iload_n 2, 1) := by decide +kernel
theorem d35_2 : decode jdk_65_method_133_code 2 = .ok (.invokestatic 343, 3) := by decide +kernel
theorem d35_5 : decode jdk_65_method_133_code 5 = .ok (.iload_n 2, 1) := by decide +kernel
theorem d35_6 : decode jdk_65_method_133_code 6 = .ok (.iload_n 1, 1) := by decide +kernel
theorem d35_7 : decode jdk_65_method_133_code 7 = .ok (.isub, 1) := by decide +kernel
theorem d35_8 : decode jdk_65_method_133_code 8 = .ok (.istore_n 3, 1) := by decide +kernel
theorem d35_9 : decode jdk_65_method_133_code 9 = .ok (.iload_n 3, 1) := by decide +kernel
theorem d35_10 : decode jdk_65_method_133_code 10 = .ok (.newarray .byte, 2) := by decide +kernel
theorem d35_12 : decode jdk_65_method_133_code 12 = .ok (.astore 4, 2) := by decide +kernel
theorem d35_14 : decode jdk_65_method_133_code 14 = .ok (.aload_n 0, 1) := by decide +kernel
theorem d35_15 : decode jdk_65_method_133_code 15 = .ok (.iload_n 1, 1) := by decide +kernel
theorem d35_16 : decode jdk_65_method_133_code 16 = .ok (.aload 4, 2) := by decide +kernel
theorem d35_18 : decode jdk_65_method_133_code 18 = .ok (.iconst 0, 1) := by decide +kernel
theorem d35_19 : decode jdk_65_method_133_code 19 = .ok (.aload_n 0, 1) := by decide +kernel
theorem d35_20 : decode jdk_65_method_133_code 20 = .ok (.arraylength, 1) := by decide +kernel
theorem d35_21 : decode jdk_65_method_133_code 21 = .ok (.iload_n 1, 1) := by decide +kernel
theorem d35_22 : decode jdk_65_method_133_code 22 = .ok (.isub, 1) := by decide +kernel
theorem d35_23 : decode jdk_65_method_133_code 23 = .ok (.iload_n 3, 1) := by decide +kernel
theorem d35_24 : decode jdk_65_method_133_code 24 = .ok (.invokestatic 304, 3) := by decide +kernel
theorem d35_27 : decode jdk_65_method_133_code 27 = .ok (.invokestatic 150, 3) := by decide +kernel
theorem d35_30 : decode jdk_65_method_133_code 30 = .ok (.aload 4, 2) := by decide +kernel
theorem d35_32 : decode jdk_65_method_133_code 32 = .ok (.areturn, 1) := by decide +kernel
theorem d36_0 : decode jdk_65_method_131_code 0 = .ok (.iload_n 1, 1) := by decide +kernel
theorem d36_1 : decode jdk_65_method_131_code 1 = .ok (.iload_n 0, 1) := by decide +kernel
theorem d36_2 : decode jdk_65_method_131_code 2 = .ok (.if_icmp .ge 35, 3) := by decide +kernel
theorem d36_37 : decode jdk_65_method_131_code 37 = .ok (.return_, 1) := by decide +kernel
theorem d37_0 : decode jdk_29_method_69_code 0 = .ok (.iload_n 0, 1) := by decide +kernel
theorem d37_1 : decode jdk_29_method_69_code 1 = .ok (.iload_n 1, 1) := by decide +kernel
theorem d37_2 : decode jdk_29_method_69_code 2 = .ok (.if_icmp .gt 7, 3) := by decide +kernel
theorem d37_5 : decode jdk_29_method_69_code 5 = .ok (.iload_n 0, 1) := by decide +kernel
theorem d37_6 : decode jdk_29_method_69_code 6 = .ok (.goto 4, 3) := by decide +kernel
theorem d37_9 : decode jdk_29_method_69_code 9 = .ok (.iload_n 1, 1) := by decide +kernel
theorem d37_10 : decode jdk_29_method_69_code 10 = .ok (.ireturn, 1) := by decide +kernel
theorem d38_0 : decode jdk_68_method_10_code 0 = .ok (.aload_n 0, 1) := by decide +kernel
theorem d38_1 : decode jdk_68_method_10_code 1 = .ok (.getfield 15, 3) := by decide +kernel
theorem d38_4 : decode jdk_68_method_10_code 4 = .ok (.arraylength, 1) := by decide +kernel
theorem d38_5 : decode jdk_68_method_10_code 5 = .ok (.istore_n 2, 1) := by decide +kernel
theorem d38_6 : decode jdk_68_method_10_code 6 = .ok (.iload_n 1, 1) := by decide +kernel
theorem d38_7 : decode jdk_68_method_10_code 7 = .ok (.aload_n 0, 1) := by decide +kernel
theorem d38_8 : decode jdk_68_method_10_code 8 = .ok (.getfield 22, 3) := by decide +kernel
theorem d38_11 : decode jdk_68_method_10_code 11 = .ok (.ishl, 1) := by decide +kernel
theorem d38_12 : decode jdk_68_method_10_code 12 = .ok (.istore_n 3, 1) := by decide +kernel
theorem d38_13 : decode jdk_68_method_10_code 13 = .ok (.iload_n 3, 1) := by decide +kernel
theorem d38_14 : decode jdk_68_method_10_code 14 = .ok (.iload_n 2, 1) := by decide +kernel
theorem d38_15 : decode jdk_68_method_10_code 15 = .ok (.isub, 1) := by decide +kernel
theorem d38_16 : decode jdk_68_method_10_code 16 = .ok (.istore 4, 2) := by decide +kernel
theorem d38_18 : decode jdk_68_method_10_code 18 = .ok (.iload_n 2, 1) := by decide +kernel
theorem d38_19 : decode jdk_68_method_10_code 19 = .ok (.iload 4, 2) := by decide +kernel
theorem d38_21 : decode jdk_68_method_10_code 21 = .ok (.iload_n 2, 1) := by decide +kernel
theorem d38_22 : decode jdk_68_method_10_code 22 = .ok (.iconst 2, 1) := by decide +kernel
theorem d38_23 : decode jdk_68_method_10_code 23 = .ok (.aload_n 0, 1) := by decide +kernel
theorem d38_24 : decode jdk_68_method_10_code 24 = .ok (.getfield 22, 3) := by decide +kernel
theorem d38_27 : decode jdk_68_method_10_code 27 = .ok (.ishl, 1) := by decide +kernel
theorem d38_28 : decode jdk_68_method_10_code 28 = .ok (.iadd, 1) := by decide +kernel
theorem d38_29 : decode jdk_68_method_10_code 29 = .ok (.invokestatic 114, 3) := by decide +kernel
theorem d38_32 : decode jdk_68_method_10_code 32 = .ok (.istore 5, 2) := by decide +kernel
theorem d38_34 : decode jdk_68_method_10_code 34 = .ok (.iload 5, 2) := by decide +kernel
theorem d38_36 : decode jdk_68_method_10_code 36 = .ok (.ldc 39, 2) := by decide +kernel
theorem d38_38 : decode jdk_68_method_10_code 38 = .ok (.if_icmp .ne 13, 3) := by decide +kernel
theorem d38_51 : decode jdk_68_method_10_code 51 = .ok (.iload 5, 2) := by decide +kernel
theorem d38_53 : decode jdk_68_method_10_code 53 = .ok (.aload_n 0, 1) := by decide +kernel
theorem d38_54 : decode jdk_68_method_10_code 54 = .ok (.getfield 22, 3) := by decide +kernel
theorem d38_57 : decode jdk_68_method_10_code 57 = .ok (.ishr, 1) := by decide +kernel
theorem d38_58 : decode jdk_68_method_10_code 58 = .ok (.ireturn, 1) := by decide +kernel
theorem d39_0 : decode jdk_48_method_27_code 0 = .ok (.iload_n 0, 1) := by decide +kernel
theorem d39_1 : decode jdk_48_method_27_code 1 = .ok (.iload_n 1, 1) := by decide +kernel
theorem d39_2 : decode jdk_48_method_27_code 2 = .ok (.iload_n 2, 1) := by decide +kernel
theorem d39_3 : decode jdk_48_method_27_code 3 = .ok (.invokestatic 194, 3) := by decide +kernel
theorem d39_6 : decode jdk_48_method_27_code 6 = .ok (.iadd, 1) := by decide +kernel
theorem d39_7 : decode jdk_48_method_27_code 7 = .ok (.istore_n 3, 1) := by decide +kernel
theorem d39_8 : decode jdk_48_method_27_code 8 = .ok (.iconst 0, 1) := by decide +kernel
theorem d39_9 : decode jdk_48_method_27_code 9 = .ok (.iload_n 3, 1) := by decide +kernel
theorem d39_10 : decode jdk_48_method_27_code 10 = .ok (.if_icmp .ge 11, 3) := by decide +kernel
theorem d39_13 : decode jdk_48_method_27_code 13 = .ok (.iload_n 3, 1) := by decide +kernel
theorem d39_14 : decode jdk_48_method_27_code 14 = .ok (.ldc 200, 2) := by decide +kernel
theorem d39_16 : decode jdk_48_method_27_code 16 = .ok (.if_icmp .gt 5, 3) := by decide +kernel
theorem d39_19 : decode jdk_48_method_27_code 19 = .ok (.iload_n 3, 1) := by decide +kernel
theorem d39_20 : decode jdk_48_method_27_code 20 = .ok (.ireturn, 1) := by decide +kernel
theorem d40_0 : decode jdk_29_method_65_code 0 = .ok (.iload_n 0, 1) := by decide +kernel
theorem d40_1 : decode jdk_29_method_65_code 1 = .ok (.iload_n 1, 1) := by decide +kernel
theorem d40_2 : decode jdk_29_method_65_code 2 = .ok (.if_icmp .lt 7, 3) := by decide +kernel
theorem d40_5 : decode jdk_29_method_65_code 5 = .ok (.iload_n 0, 1) := by decide +kernel
theorem d40_6 : decode jdk_29_method_65_code 6 = .ok (.goto 4, 3) := by decide +kernel
theorem d40_9 : decode jdk_29_method_65_code 9 = .ok (.iload_n 1, 1) := by decide +kernel
theorem d40_10 : decode jdk_29_method_65_code 10 = .ok (.ireturn, 1) := by decide +kernel
theorem d41_0 : decode jdk_65_method_121_code 0 = .ok (.iload_n 1, 1) := by decide +kernel
theorem d41_1 : decode jdk_65_method_121_code 1 = .ok (.aload_n 0, 1) := by decide +kernel
theorem d41_2 : decode jdk_65_method_121_code 2 = .ok (.arraylength, 1) := by decide +kernel
theorem d41_3 : decode jdk_65_method_121_code 3 = .ok (.if_icmp .ne 11, 3) := by decide +kernel
theorem d41_14 : decode jdk_65_method_121_code 14 = .ok (.iload_n 1, 1) := by decide +kernel
theorem d41_15 : decode jdk_65_method_121_code 15 = .ok (.newarray .byte, 2) := by decide +kernel
theorem d41_17 : decode jdk_65_method_121_code 17 = .ok (.astore_n 2, 1) := by decide +kernel
theorem d41_18 : decode jdk_65_method_121_code 18 = .ok (.aload_n 0, 1) := by decide +kernel
theorem d41_19 : decode jdk_65_method_121_code 19 = .ok (.iconst 0, 1) := by decide +kernel
theorem d41_20 : decode jdk_65_method_121_code 20 = .ok (.aload_n 2, 1) := by decide +kernel
theorem d41_21 : decode jdk_65_method_121_code 21 = .ok (.iconst 0, 1) := by decide +kernel
theorem d41_22 : decode jdk_65_method_121_code 22 = .ok (.aload_n 0, 1) := by decide +kernel
theorem d41_23 : decode jdk_65_method_121_code 23 = .ok (.arraylength, 1) := by decide +kernel
theorem d41_24 : decode jdk_65_method_121_code 24 = .ok (.iload_n 1, 1) := by decide +kernel
theorem d41_25 : decode jdk_65_method_121_code 25 = .ok (.invokestatic 304, 3) := by decide +kernel
theorem d41_28 : decode jdk_65_method_121_code 28 = .ok (.invokestatic 150, 3) := by decide +kernel
theorem d41_31 : decode jdk_65_method_121_code 31 = .ok (.aload_n 2, 1) := by decide +kernel
theorem d41_32 : decode jdk_65_method_121_code 32 = .ok (.areturn, 1) := by decide +kernel
theorem d44_0 : decode jdk_52_method_14_code 0 = .ok (.iload_n 2, 1) := by decide +kernel
theorem d44_1 : decode jdk_52_method_14_code 1 = .ok (.invokestatic 107, 3) := by decide +kernel
theorem d44_4 : decode jdk_52_method_14_code 4 = .ok (.astore_n 3, 1) := by decide +kernel
theorem d44_5 : decode jdk_52_method_14_code 5 = .ok (.iconst 0, 1) := by decide +kernel
theorem d44_6 : decode jdk_52_method_14_code 6 = .ok (.istore 4, 2) := by decide +kernel
theorem d44_8 : decode jdk_52_method_14_code 8 = .ok (.iload 4, 2) := by decide +kernel
theorem d44_10 : decode jdk_52_method_14_code 10 = .ok (.iload_n 2, 1) := by decide +kernel
theorem d44_11 : decode jdk_52_method_14_code 11 = .ok (.if_icmp .ge 21, 3) := by decide +kernel
theorem d44_14 : decode jdk_52_method_14_code 14 = .ok (.aload_n 3, 1) := by decide +kernel
theorem d44_15 : decode jdk_52_method_14_code 15 = .ok (.iload 4, 2) := by decide +kernel
theorem d44_17 : decode jdk_52_method_14_code 17 = .ok (.aload_n 0, 1) := by decide +kernel
theorem d44_18 : decode jdk_52_method_14_code 18 = .ok (.iload_n 1, 1) := by decide +kernel
theorem d44_19 : decode jdk_52_method_14_code 19 = .ok (.caload, 1) := by decide +kernel
theorem d44_20 : decode jdk_52_method_14_code 20 = .ok (.invokestatic 111, 3) := by decide +kernel
theorem d44_23 : decode jdk_52_method_14_code 23 = .ok (.iinc 1 1, 3) := by decide +kernel
theorem d44_26 : decode jdk_52_method_14_code 26 = .ok (.iinc 4 1, 3) := by decide +kernel
theorem d44_29 : decode jdk_52_method_14_code 29 = .ok (.goto (-21), 3) := by decide +kernel
theorem d44_32 : decode jdk_52_method_14_code 32 = .ok (.aload_n 3, 1) := by decide +kernel
theorem d44_33 : decode jdk_52_method_14_code 33 = .ok (.areturn, 1) := by decide +kernel
theorem d45_0 : decode jdk_52_method_2_code 0 = .ok (.iload_n 0, 1) := by decide +kernel
theorem d45_1 : decode jdk_52_method_2_code 1 = .ok (.invokestatic 11, 3) := by decide +kernel
theorem d45_4 : decode jdk_52_method_2_code 4 = .ok (.newarray .byte, 2) := by decide +kernel
theorem d45_6 : decode jdk_52_method_2_code 6 = .ok (.areturn, 1) := by decide +kernel
theorem d46_0 : decode jdk_52_method_3_code 0 = .ok (.iload_n 0, 1) := by decide +kernel
theorem d46_1 : decode jdk_52_method_3_code 1 = .ok (.ifCond .ge 11, 3) := by decide +kernel
theorem d46_12 : decode jdk_52_method_3_code 12 = .ok (.iload_n 0, 1) := by decide +kernel
theorem d46_13 : decode jdk_52_method_3_code 13 = .ok (.ldc 20, 2) := by decide +kernel
theorem d46_15 : decode jdk_52_method_3_code 15 = .ok (.if_icmp .lt 40, 3) := by decide +kernel
theorem d46_55 : decode jdk_52_method_3_code 55 = .ok (.iload_n 0, 1) := by decide +kernel
theorem d46_56 : decode jdk_52_method_3_code 56 = .ok (.iconst 1, 1) := by decide +kernel
theorem d46_57 : decode jdk_52_method_3_code 57 = .ok (.ishl, 1) := by decide +kernel
theorem d46_58 : decode jdk_52_method_3_code 58 = .ok (.ireturn, 1) := by decide +kernel
theorem d47_0 : decode jdk_52_method_4_code 0 = .ok (.getstatic 44, 3) := by decide +kernel
theorem d47_3 : decode jdk_52_method_4_code 3 = .ok (.ifCond .ne 25, 3) := by decide +kernel
theorem d47_28 : decode jdk_52_method_4_code 28 = .ok (.iload_n 1, 1) := by decide +kernel
theorem d47_29 : decode jdk_52_method_4_code 29 = .ok (.iconst 1, 1) := by decide +kernel
theorem d47_30 : decode jdk_52_method_4_code 30 = .ok (.ishl, 1) := by decide +kernel
theorem d47_31 : decode jdk_52_method_4_code 31 = .ok (.istore_n 1, 1) := by decide +kernel
theorem d47_32 : decode jdk_52_method_4_code 32 = .ok (.aload_n 0, 1) := by decide +kernel
theorem d47_33 : decode jdk_52_method_4_code 33 = .ok (.iload_n 1, 1) := by decide +kernel
theorem d47_34 : decode jdk_52_method_4_code 34 = .ok (.iinc 1 1, 3) := by decide +kernel
theorem d47_37 : decode jdk_52_method_4_code 37 = .ok (.iload_n 2, 1) := by decide +kernel
theorem d47_38 : decode jdk_52_method_4_code 38 = .ok (.getstatic 59, 3) := by decide +kernel
theorem d47_41 : decode jdk_52_method_4_code 41 = .ok (.ishr, 1) := by decide +kernel
theorem d47_42 : decode jdk_52_method_4_code 42 = .ok (.i2b, 1) := by decide +kernel
theorem d47_43 : decode jdk_52_method_4_code 43 = .ok (.bastore, 1) := by decide +kernel
theorem d47_44 : decode jdk_52_method_4_code 44 = .ok (.aload_n 0, 1) := by decide +kernel
theorem d47_45 : decode jdk_52_method_4_code 45 = .ok (.iload_n 1, 1) := by decide +kernel
theorem d47_46 : decode jdk_52_method_4_code 46 = .ok (.iload_n 2, 1) := by decide +kernel
theorem d47_47 : decode jdk_52_method_4_code 47 = .ok (.getstatic 63, 3) := by decide +kernel
theorem d47_50 : decode jdk_52_method_4_code 50 = .ok (.ishr, 1) := by decide +kernel
theorem d47_51 : decode jdk_52_method_4_code 51 = .ok (.i2b, 1) := by decide +kernel
theorem d47_52 : decode jdk_52_method_4_code 52 = .ok (.bastore, 1) := by decide +kernel
theorem d47_53 : decode jdk_52_method_4_code 53 = .ok (.return_, 1) := by decide +kernel
theorem d48_0 : decode jdk_52_method_5_code 0 = .ok (.getstatic 44, 3) := by decide +kernel
theorem d48_3 : decode jdk_52_method_5_code 3 = .ok (.ifCond .ne 25, 3) := by decide +kernel
theorem d48_28 : decode jdk_52_method_5_code 28 = .ok (.iload_n 1, 1) := by decide +kernel
theorem d48_29 : decode jdk_52_method_5_code 29 = .ok (.iconst 1, 1) := by decide +kernel
theorem d48_30 : decode jdk_52_method_5_code 30 = .ok (.ishl, 1) := by decide +kernel
theorem d48_31 : decode jdk_52_method_5_code 31 = .ok (.istore_n 1, 1) := by decide +kernel
theorem d48_32 : decode jdk_52_method_5_code 32 = .ok (.aload_n 0, 1) := by decide +kernel
theorem d48_33 : decode jdk_52_method_5_code 33 = .ok (.iload_n 1, 1) := by decide +kernel
theorem d48_34 : decode jdk_52_method_5_code 34 = .ok (.iinc 1 1, 3) := by decide +kernel
theorem d48_37 : decode jdk_52_method_5_code 37 = .ok (.baload, 1) := by decide +kernel
theorem d48_38 : decode jdk_52_method_5_code 38 = .ok (.sipush 255, 3) := by decide +kernel
theorem d48_41 : decode jdk_52_method_5_code 41 = .ok (.iand, 1) := by decide +kernel
theorem d48_42 : decode jdk_52_method_5_code 42 = .ok (.getstatic 59, 3) := by decide +kernel
theorem d48_45 : decode jdk_52_method_5_code 45 = .ok (.ishl, 1) := by decide +kernel
theorem d48_46 : decode jdk_52_method_5_code 46 = .ok (.aload_n 0, 1) := by decide +kernel
theorem d48_47 : decode jdk_52_method_5_code 47 = .ok (.iload_n 1, 1) := by decide +kernel
theorem d48_48 : decode jdk_52_method_5_code 48 = .ok (.baload, 1) := by decide +kernel
theorem d48_49 : decode jdk_52_method_5_code 49 = .ok (.sipush 255, 3) := by decide +kernel
theorem d48_52 : decode jdk_52_method_5_code 52 = .ok (.iand, 1) := by decide +kernel
theorem d48_53 : decode jdk_52_method_5_code 53 = .ok (.getstatic 63, 3) := by decide +kernel
theorem d48_56 : decode jdk_52_method_5_code 56 = .ok (.ishl, 1) := by decide +kernel
theorem d48_57 : decode jdk_52_method_5_code 57 = .ok (.ior, 1) := by decide +kernel
theorem d48_58 : decode jdk_52_method_5_code 58 = .ok (.i2c, 1) := by decide +kernel
theorem d48_59 : decode jdk_52_method_5_code 59 = .ok (.ireturn, 1) := by decide +kernel
theorem d49_0 : decode jdk_52_method_83_code 0 = .ok (.iload_n 1, 1) := by decide +kernel
theorem d49_1 : decode jdk_52_method_83_code 1 = .ok (.aload_n 0, 1) := by decide +kernel
theorem d49_2 : decode jdk_52_method_83_code 2 = .ok (.invokestatic 67, 3) := by decide +kernel
theorem d49_5 : decode jdk_52_method_83_code 5 = .ok (.aload_n 0, 1) := by decide +kernel
theorem d49_6 : decode jdk_52_method_83_code 6 = .ok (.iload_n 1, 1) := by decide +kernel
theorem d49_7 : decode jdk_52_method_83_code 7 = .ok (.invokestatic 71, 3) := by decide +kernel
theorem d49_10 : decode jdk_52_method_83_code 10 = .ok (.ireturn, 1) := by decide +kernel
theorem d50_0 : decode jdk_52_method_91_code 0 = .ok (.iload_n 0, 1) := by decide +kernel
theorem d50_1 : decode jdk_52_method_91_code 1 = .ok (.aload_n 1, 1) := by decide +kernel
theorem d50_2 : decode jdk_52_method_91_code 2 = .ok (.invokestatic 48, 3) := by decide +kernel
theorem d50_5 : decode jdk_52_method_91_code 5 = .ok (.invokestatic 414, 3) := by decide +kernel
theorem d50_8 : decode jdk_52_method_91_code 8 = .ok (.return_, 1) := by decide +kernel
theorem d51_0 : decode jdk_52_method_6_code 0 = .ok (.aload_n 0, 1) := by decide +kernel
theorem d51_1 : decode jdk_52_method_6_code 1 = .ok (.arraylength, 1) := by decide +kernel
theorem d51_2 : decode jdk_52_method_6_code 2 = .ok (.iconst 1, 1) := by decide +kernel
theorem d51_3 : decode jdk_52_method_6_code 3 = .ok (.ishr, 1) := by decide +kernel
theorem d51_4 : decode jdk_52_method_6_code 4 = .ok (.ireturn, 1) := by decide +kernel
theorem d52_0 : decode jdk_68_method_11_code 0 = .ok (.aload_n 0, 1) := by decide +kernel
theorem d52_1 : decode jdk_68_method_11_code 1 = .ok (.invokevirtual 83, 3) := by decide +kernel
theorem d52_4 : decode jdk_68_method_11_code 4 = .ok (.ifCond .ne 4, 3) := by decide +kernel
theorem d52_7 : decode jdk_68_method_11_code 7 = .ok (.return_, 1) := by decide +kernel
theorem d52_8 : decode jdk_68_method_11_code 8 = .ok (.aload_n 0, 1) := by decide +kernel
theorem d52_9 : decode jdk_68_method_11_code 9 = .ok (.getfield 15, 3) := by decide +kernel
theorem d52_12 : decode jdk_68_method_11_code 12 = .ok (.arraylength, 1) := by decide +kernel
theorem d52_13 : decode jdk_68_method_11_code 13 = .ok (.invokestatic 26, 3) := by decide +kernel
theorem d52_16 : decode jdk_68_method_11_code 16 = .ok (.astore_n 1, 1) := by decide +kernel
theorem d52_17 : decode jdk_68_method_11_code 17 = .ok (.aload_n 0, 1) := by decide +kernel
theorem d52_18 : decode jdk_68_method_11_code 18 = .ok (.getfield 15, 3) := by decide +kernel
theorem d52_21 : decode jdk_68_method_11_code 21 = .ok (.iconst 0, 1) := by decide +kernel
theorem d52_22 : decode jdk_68_method_11_code 22 = .ok (.aload_n 1, 1) := by decide +kernel
theorem d52_23 : decode jdk_68_method_11_code 23 = .ok (.iconst 0, 1) := by decide +kernel
theorem d52_24 : decode jdk_68_method_11_code 24 = .ok (.aload_n 0, 1) := by decide +kernel
theorem d52_25 : decode jdk_68_method_11_code 25 = .ok (.getfield 79, 3) := by decide +kernel
theorem d52_28 : decode jdk_68_method_11_code 28 = .ok (.invokestatic 125, 3) := by decide +kernel
theorem d52_31 : decode jdk_68_method_11_code 31 = .ok (.aload_n 0, 1) := by decide +kernel
theorem d52_32 : decode jdk_68_method_11_code 32 = .ok (.aload_n 1, 1) := by decide +kernel
theorem d52_33 : decode jdk_68_method_11_code 33 = .ok (.putfield 15, 3) := by decide +kernel
theorem d52_36 : decode jdk_68_method_11_code 36 = .ok (.aload_n 0, 1) := by decide +kernel
theorem d52_37 : decode jdk_68_method_11_code 37 = .ok (.iconst 1, 1) := by decide +kernel
theorem d52_38 : decode jdk_68_method_11_code 38 = .ok (.putfield 22, 3) := by decide +kernel
theorem d52_41 : decode jdk_68_method_11_code 41 = .ok (.return_, 1) := by decide +kernel
theorem d53_0 : decode jdk_43_method_50_code 0 = .ok (.aload_n 0, 1) := by decide +kernel
theorem d53_1 : decode jdk_43_method_50_code 1 = .ok (.iload_n 1, 1) := by decide +kernel
theorem d53_2 : decode jdk_43_method_50_code 2 = .ok (.aload_n 2, 1) := by decide +kernel
theorem d53_3 : decode jdk_43_method_50_code 3 = .ok (.iload_n 3, 1) := by decide +kernel
theorem d53_4 : decode jdk_43_method_50_code 4 = .ok (.iload 4, 2) := by decide +kernel
theorem d53_6 : decode jdk_43_method_50_code 6 = .ok (.invokestatic 240, 3) := by decide +kernel
theorem d53_9 : decode jdk_43_method_50_code 9 = .ok (.return_, 1) := by decide +kernel
theorem d54_0 : decode jdk_52_method_86_code 0 = .ok (.iload_n 3, 1) := by decide +kernel
theorem d54_1 : decode jdk_52_method_86_code 1 = .ok (.iload 4, 2) := by decide +kernel
theorem d54_3 : decode jdk_52_method_86_code 3 = .ok (.aload_n 2, 1) := by decide +kernel
theorem d54_4 : decode jdk_52_method_86_code 4 = .ok (.invokestatic 173, 3) := by decide +kernel
theorem d54_7 : decode jdk_52_method_86_code 7 = .ok (.iconst 0, 1) := by decide +kernel
theorem d54_8 : decode jdk_52_method_86_code 8 = .ok (.istore 5, 2) := by decide +kernel
theorem d54_10 : decode jdk_52_method_86_code 10 = .ok (.iload 5, 2) := by decide +kernel
theorem d54_12 : decode jdk_52_method_86_code 12 = .ok (.iload 4, 2) := by decide +kernel
theorem d54_14 : decode jdk_52_method_86_code 14 = .ok (.if_icmp .ge 27, 3) := by decide +kernel
theorem d54_17 : decode jdk_52_method_86_code 17 = .ok (.aload_n 2, 1) := by decide +kernel
theorem d54_18 : decode jdk_52_method_86_code 18 = .ok (.iload_n 3, 1) := by decide +kernel
theorem d54_19 : decode jdk_52_method_86_code 19 = .ok (.iinc 3 1, 3) := by decide +kernel
theorem d54_22 : decode jdk_52_method_86_code 22 = .ok (.aload_n 0, 1) := by decide +kernel
theorem d54_23 : decode jdk_52_method_86_code 23 = .ok (.iload_n 1, 1) := by decide +kernel
theorem d54_24 : decode jdk_52_method_86_code 24 = .ok (.iinc 1 1, 3) := by decide +kernel
theorem d54_27 : decode jdk_52_method_86_code 27 = .ok (.baload, 1) := by decide +kernel
theorem d54_28 : decode jdk_52_method_86_code 28 = .ok (.sipush 255, 3) := by decide +kernel
theorem d54_31 : decode jdk_52_method_86_code 31 = .ok (.iand, 1) := by decide +kernel
theorem d54_32 : decode jdk_52_method_86_code 32 = .ok (.invokestatic 111, 3) := by decide +kernel
theorem d54_35 : decode jdk_52_method_86_code 35 = .ok (.iinc 5 1, 3) := by decide +kernel
theorem d54_38 : decode jdk_52_method_86_code 38 = .ok (.goto (-28), 3) := by decide +kernel
theorem d54_41 : decode jdk_52_method_86_code 41 = .ok (.return_, 1) := by decide +kernel
theorem d55_0 : decode jdk_52_method_94_code 0 = .ok (.iload_n 0, 1) := by decide +kernel
theorem d55_1 : decode jdk_52_method_94_code 1 = .ok (.iload_n 1, 1) := by decide +kernel
theorem d55_2 : decode jdk_52_method_94_code 2 = .ok (.aload_n 2, 1) := by decide +kernel
theorem d55_3 : decode jdk_52_method_94_code 3 = .ok (.invokestatic 48, 3) := by decide +kernel
theorem d55_6 : decode jdk_52_method_94_code 6 = .ok (.invokestatic 419, 3) := by decide +kernel
theorem d55_9 : decode jdk_52_method_94_code 9 = .ok (.pop, 1) := by decide +kernel
theorem d55_10 : decode jdk_52_method_94_code 10 = .ok (.return_, 1) := by decide +kernel
theorem d56_0 : decode jdk_42_method_157_code 0 = .ok (.iload_n 0, 1) := by decide +kernel
theorem d56_1 : decode jdk_42_method_157_code 1 = .ok (.iload_n 1, 1) := by decide +kernel
theorem d56_2 : decode jdk_42_method_157_code 2 = .ok (.iload_n 2, 1) := by decide +kernel
theorem d56_3 : decode jdk_42_method_157_code 3 = .ok (.getstatic 1053, 3) := by decide +kernel
theorem d56_6 : decode jdk_42_method_157_code 6 = .ok (.invokestatic 1065, 3) := by decide +kernel
theorem d56_9 : decode jdk_42_method_157_code 9 = .ok (.ireturn, 1) := by decide +kernel
theorem d57_0 : decode jdk_41_method_13_code 0 = .ok (.iload_n 2, 1) := by decide +kernel
theorem d57_1 : decode jdk_41_method_13_code 1 = .ok (.iload_n 0, 1) := by decide +kernel
theorem d57_2 : decode jdk_41_method_13_code 2 = .ok (.ior, 1) := by decide +kernel
theorem d57_3 : decode jdk_41_method_13_code 3 = .ok (.iload_n 1, 1) := by decide +kernel
theorem d57_4 : decode jdk_41_method_13_code 4 = .ok (.ior, 1) := by decide +kernel
theorem d57_5 : decode jdk_41_method_13_code 5 = .ok (.ifCond .lt 10, 3) := by decide +kernel
theorem d57_8 : decode jdk_41_method_13_code 8 = .ok (.iload_n 1, 1) := by decide +kernel
theorem d57_9 : decode jdk_41_method_13_code 9 = .ok (.iload_n 2, 1) := by decide +kernel
theorem d57_10 : decode jdk_41_method_13_code 10 = .ok (.iload_n 0, 1) := by decide +kernel
theorem d57_11 : decode jdk_41_method_13_code 11 = .ok (.isub, 1) := by decide +kernel
theorem d57_12 : decode jdk_41_method_13_code 12 = .ok (.if_icmp .le 11, 3) := by decide +kernel
theorem d57_23 : decode jdk_41_method_13_code 23 = .ok (.iload_n 0, 1) := by decide +kernel
theorem d57_24 : decode jdk_41_method_13_code 24 = .ok (.ireturn, 1) := by decide +kernel
theorem pd0 : parseMethodDescriptor "(I)I" = some ⟨[.int], some .int⟩ := by decide +kernel
theorem pd1 : parseMethodDescriptor "()B" = some ⟨[], some .byte⟩ := by decide +kernel
theorem pd2 : parseMethodDescriptor "(II)I" = some ⟨[.int, .int], some .int⟩ := by decide +kernel
theorem pd3 : parseMethodDescriptor "(III)I" = some ⟨[.int, .int, .int], some .int⟩ := by decide +kernel
theorem pd4 : parseMethodDescriptor "([BI)[B" = some ⟨[(.array .byte), .int], some (.array .byte)⟩ := by decide +kernel
theorem pd5 : parseMethodDescriptor "(IIILjava/util/function/BiFunction;)I" = some ⟨[.int, .int, .int, (.object "java/util/function/BiFunction")], some .int⟩ := by decide +kernel
theorem pd6 : parseMethodDescriptor "([B)I" = some ⟨[(.array .byte)], some .int⟩ := by decide +kernel
theorem pd7 : parseMethodDescriptor "(II[B)V" = some ⟨[.int, .int, (.array .byte)], none⟩ := by decide +kernel
theorem pd8 : parseMethodDescriptor "([BII)V" = some ⟨[(.array .byte), .int, .int], none⟩ := by decide +kernel
theorem pd9 : parseMethodDescriptor "([BI[BII)V" = some ⟨[(.array .byte), .int, (.array .byte), .int, .int], none⟩ := by decide +kernel
theorem pd10 : parseMethodDescriptor "()Z" = some ⟨[], some .boolean⟩ := by decide +kernel
theorem pd11 : parseMethodDescriptor "(I)[B" = some ⟨[.int], some (.array .byte)⟩ := by decide +kernel
theorem pd12 : parseMethodDescriptor "()V" = some ⟨[], none⟩ := by decide +kernel
theorem pd13 : parseMethodDescriptor "(Ljava/lang/String;)V" = some ⟨[(.object "java/lang/String")], none⟩ := by decide +kernel
theorem pd14 : parseMethodDescriptor "([BIB)V" = some ⟨[(.array .byte), .int, .byte], none⟩ := by decide +kernel
theorem pd15 : parseMethodDescriptor "()I" = some ⟨[], some .int⟩ := by decide +kernel
theorem pd16 : parseMethodDescriptor "(I)V" = some ⟨[.int], none⟩ := by decide +kernel
theorem pd17 : parseMethodDescriptor "(ILjava/lang/String;)V" = some ⟨[.int, (.object "java/lang/String")], none⟩ := by decide +kernel
theorem pd18 : parseMethodDescriptor "(Ljava/lang/String;)Ljava/lang/AbstractStringBuilder;" = some ⟨[(.object "java/lang/String")], some (.object "java/lang/AbstractStringBuilder")⟩ := by decide +kernel
theorem pd19 : parseMethodDescriptor "(II)V" = some ⟨[.int, .int], none⟩ := by decide +kernel
theorem pd20 : parseMethodDescriptor "([BII)[B" = some ⟨[(.array .byte), .int, .int], some (.array .byte)⟩ := by decide +kernel
theorem pd21 : parseMethodDescriptor "()[B" = some ⟨[], some (.array .byte)⟩ := by decide +kernel
theorem pd22 : parseMethodDescriptor "(Ljava/lang/AbstractStringBuilder;Ljava/lang/Void;)V" = some ⟨[(.object "java/lang/AbstractStringBuilder"), (.object "java/lang/Void")], none⟩ := by decide +kernel
theorem pd23 : parseMethodDescriptor "(Ljava/lang/StringBuilder;)V" = some ⟨[(.object "java/lang/StringBuilder")], none⟩ := by decide +kernel
theorem pd24 : parseMethodDescriptor "([CI[BII)I" = some ⟨[(.array .char), .int, (.array .byte), .int, .int], some .int⟩ := by decide +kernel
theorem pd25 : parseMethodDescriptor "([CII)[B" = some ⟨[(.array .char), .int, .int], some (.array .byte)⟩ := by decide +kernel
theorem pd26 : parseMethodDescriptor "([BI)C" = some ⟨[(.array .byte), .int], some .char⟩ := by decide +kernel
theorem pd27 : parseMethodDescriptor "([BI)B" = some ⟨[(.array .byte), .int], some .byte⟩ := by decide +kernel
theorem pd28 : parseMethodDescriptor "([CIILjava/lang/Void;)V" = some ⟨[(.array .char), .int, .int, (.object "java/lang/Void")], none⟩ := by decide +kernel
theorem pd29 : parseMethodDescriptor "(IILjava/util/function/BiFunction;)I" = some ⟨[.int, .int, (.object "java/util/function/BiFunction")], some .int⟩ := by decide +kernel
theorem pd30 : parseMethodDescriptor "(I[B)V" = some ⟨[.int, (.array .byte)], none⟩ := by decide +kernel
theorem pd31 : parseMethodDescriptor "(Ljava/lang/Object;Ljava/lang/String;)Ljava/lang/Object;" = some ⟨[(.object "java/lang/Object"), (.object "java/lang/String")], some (.object "java/lang/Object")⟩ := by decide +kernel
theorem pd32 : parseMethodDescriptor "(I)C" = some ⟨[.int], some .char⟩ := by decide +kernel
theorem pd33 : parseMethodDescriptor "(Ljava/lang/String;)Ljava/lang/StringBuilder;" = some ⟨[(.object "java/lang/String")], some (.object "java/lang/StringBuilder")⟩ := by decide +kernel
theorem pd34 : parseMethodDescriptor "()Ljava/lang/String;" = some ⟨[], some (.object "java/lang/String")⟩ := by decide +kernel
theorem pd35 : parseMethodDescriptor "(Ljava/lang/String;Ljava/lang/String;)Ljava/lang/String;" = some ⟨[(.object "java/lang/String"), (.object "java/lang/String")], some (.object "java/lang/String")⟩ := by decide +kernel
theorem pd36 : parseMethodDescriptor "([C)V" = some ⟨[(.array .char)], none⟩ := by decide +kernel
theorem pd37 : parseMethodDescriptor "(CCCI)[C" = some ⟨[.char, .char, .char, .int], some (.array .char)⟩ := by decide +kernel
theorem pd38 : parseMethodDescriptor "(Ljava/lang/String;)Ljava/lang/String;" = some ⟨[(.object "java/lang/String")], some (.object "java/lang/String")⟩ := by decide +kernel
theorem pd39 : parseMethodDescriptor "(Ljava/lang/Object;)Z" = some ⟨[(.object "java/lang/Object")], some .boolean⟩ := by decide +kernel
theorem pn0 : plainName "java/lang/StringUTF16" = true := by first | (simp [plainName, overriddenIn]; done) | decide +kernel
theorem pn1 : plainName "java/lang/String" = true := by first | (simp [plainName, overriddenIn]; done) | decide +kernel
theorem pn2 : plainName "java/lang/AbstractStringBuilder" = true := by first | (simp [plainName, overriddenIn]; done) | decide +kernel
theorem pn3 : plainName "jdk/internal/util/ArraysSupport" = true := by first | (simp [plainName, overriddenIn]; done) | decide +kernel
theorem pn4 : plainName "java/util/Arrays" = true := by first | (simp [plainName, overriddenIn]; done) | decide +kernel
theorem pn5 : plainName "jdk/internal/util/Preconditions" = true := by first | (simp [plainName, overriddenIn]; done) | decide +kernel
theorem pn6 : plainName "java/lang/StringLatin1" = true := by first | (simp [plainName, overriddenIn]; done) | decide +kernel
theorem pn7 : plainName "java/lang/StringBuilder" = true := by first | (simp [plainName, overriddenIn]; done) | decide +kernel
theorem pn8 : plainName "java/util/Objects" = true := by first | (simp [plainName, overriddenIn]; done) | decide +kernel
theorem pn9 : plainName "com/example/tri3/tri3/RedisKeys" = true := by first | (simp [plainName, overriddenIn]; done) | decide +kernel
theorem pn10 : plainName "com/example/tri3/tri3/RedisKeysLockTokenPinLaw" = true := by first | (simp [plainName, overriddenIn]; done) | decide +kernel
section OwnSub
variable {p : Program} {l : Launch} {e : Env} {R : Room} {s : State} {m : MethodId} {args : Array Value} {below : List Frame} {meth : Method} {c : Code} {T : State} {locs : List Loc} {cells slots : Nat} {Z : State} {a0 : Array Value} {h : Heap} {F : Outcome → State → Prop} {pc pc' : Nat} {Ls : Array Slot} {st stk : List Value}
theorem own_ofNat_lt {i n : Nat} (hi : i < 2 ^ 31) (hn : n < 2 ^ 31) : Int32.ofNat i < Int32.ofNat n ↔ i < n := by
  rw [Int32.lt_iff_toInt_lt, Int32.toInt_ofNat_small hi, Int32.toInt_ofNat_small hn]; omega
theorem own_ofNat_eq {i n : Nat} (hi : i < 2 ^ 31) (hn : n < 2 ^ 31) : Int32.ofNat i = Int32.ofNat n ↔ i = n := by
  rw [← Int32.toInt_inj, Int32.toInt_ofNat_small hi, Int32.toInt_ofNat_small hn]; omega
theorem own_ofNat_sub {i n : Nat} (h : i ≤ n) (hn : n < 2 ^ 31) : Int32.ofNat n - Int32.ofNat i = Int32.ofNat (n - i) := by
  apply Int32.toInt_inj.mp
  rw [Int32.toInt_sub, Int32.toInt_ofNat_small hn, Int32.toInt_ofNat_small (by omega), Int32.toInt_ofNat_small (by omega)]
  simp only [Int.bmod]; omega
theorem own_ofNat_add (i n : Nat) : Int32.ofNat n + Int32.ofNat i = Int32.ofNat (n + i) := by rw [Int32.ofNat_add]
theorem own_clamp {n : Nat} (hn : n < 2 ^ 31) : (Int32.ofNat n).toNatClampNeg = n := by
  rw [Int32.toNatClampNeg, Int32.toInt_ofNat_small hn]; omega
theorem own_nn {n : Nat} (hn : n < 2 ^ 31) : ¬ Int32.ofNat n < 0 := by
  rw [Int32.lt_iff_toInt_lt, Int32.toInt_ofNat_small hn]; have e0 : (0 : Int32).toInt = 0 := rfl; omega
theorem own_slice {vs : List Value} {d : Value} {sp nn : Nat} (h : sp + nn ≤ vs.length) : (List.range nn).map (fun i => vs.getD (sp + i) d) = (vs.drop sp).take nn := by
  apply List.ext_getElem
  · simp; omega
  · intro i h1 h2
    simp only [List.length_map, List.length_range] at h1
    simp only [List.getElem_map, List.getElem_range, List.getElem_take, List.getElem_drop]
    rw [List.getD_eq_getElem?_getD, List.getElem?_eq_getElem (by omega)]; rfl
/-- System.arraycopy of bytes that fills a whole new array -/
theorem own_cpB (X : Stand p l e R s m args below meth c T locs cells slots) (hx : p.tables.exec = Jvm.exec) (hZ : Z.Warmed39 s.vm) {own : String} {index W : Nat} (hown : s.vm.findClass own = some m.cls)
    (w1 : (Jvm.Cond.methodLink own index Jvm.Stand.acN).before a0 Z = true) (w2 : (Jvm.Cond.native Jvm.Stand.acN).before a0 Z = true) (w3 : (Jvm.Cond.static Jvm.Stand.acN).before a0 Z = true) (w4 : (Jvm.Cond.initialized "java/lang/System").before a0 Z = true) (eT : T.heap = h)
    {a b : Addr} {k k' : ClassId} {vs vd : List Value} {n sp nn : Nat} (A : Arv Z h a k .byte (Int32.ofNat n) vs (.int 0)) (B : Arv Z h b k' .byte (Int32.ofNat nn) vd (.int 0)) (hv : vs.length = n) (hvd : vd.length = nn) (hn : n < 2 ^ 31) (hsp : sp + nn ≤ n) (N : Fr Z.heap.size locs) (ge : Z.heap.size ≤ b)
    (hsz : Ls.size = c.maxLocals) (hd : decode c.code pc = .ok (.invokestatic index, 3)) (hf : 1 ≤ R.frames) (hW : (st.map fun v => v.category).sum ≤ W) (hlo : W + (nativeFrameWords "java/lang/System" "arraycopy" 5 + 11) ≤ R.locals)
    (K : ∀ T' h' L, Stand p l e R s m args below meth c T' L cells slots → T'.heap = h' → Fr Z.heap.size L → Keep h h' [b] → h.size ≤ h'.size → Arv Z h' b k' .byte (Int32.ofNat nn) ((vs.drop sp).take nn) (.int 0) → own_G p e below F (T'.setTop (mkF m (pc + 3) Ls st))) :
    own_G p e below F (T.setTop (mkF m pc Ls (.int (Int32.ofNat nn) :: .int 0 :: .ref b :: .int (Int32.ofNat sp) :: .ref a :: st))) := by
  obtain ⟨T', h', L, X', e', N', K', B', st'⟩ := cpA X hx hZ hown w1 w2 w3 w4 eT (sp := Int32.ofNat sp) (dp := 0) (nn := Int32.ofNat nn) A B (Or.inl ⟨rfl, rfl⟩) (own_nn (by omega)) (by decide) (own_nn (by omega)) (by rw [own_clamp (by omega), own_clamp (by omega), own_clamp hn]; exact hsp) (by rw [own_clamp (n := nn) (by omega)]; have e0 : (0 : Int32).toNatClampNeg = 0 := rfl; omega)
    rfl (by rw [own_clamp (n := nn) (by omega), hvd]; have e0 : (0 : Int32).toNatClampNeg = 0 := rfl; omega) N ge (g := mkF m pc Ls (.int (Int32.ofNat nn) :: .int 0 :: .ref b :: .int (Int32.ofNat sp) :: .ref a :: st)) rfl hsz rfl hd hf (W := W) (by show 2 * 0 + _ ≤ _; omega) hlo
  refine own_step st' (K T' h' L X' e' N' K' K'.1 ?_)
  have e0 : (0 : Int32).toNatClampNeg = 0 := rfl
  rw [own_clamp (n := nn) (by omega), own_clamp (n := sp) (by omega), e0, own_slice (by omega), List.take_zero, List.nil_append, Nat.zero_add, show vd.drop nn = [] from List.drop_eq_nil_of_le (by omega), List.append_nil] at B'
  exact B'
end OwnSub

section OwnInst
variable {p : Program} {l : Launch} {e : Env} {R : Room} {s : State} {m : MethodId} {args : Array Value} {below : List Frame} {meth : Method} {c : Code} {T : State} {locs : List Loc} {cells slots : Nat} {Z : State} {a0 : Array Value} {h : Heap} {F : Outcome → State → Prop} {pc pc' : Nat} {Ls : Array Slot} {st stk : List Value}
theorem own_instY (X : Stand p l e R s m args below meth c T locs cells slots) (hx : p.tables.exec = Jvm.exec) (hZ : Z.Warmed39 s.vm) {own K : String} {index : Nat} (hown : s.vm.findClass own = some m.cls) (w : (Jvm.Cond.classLink own index K).before a0 Z = true) (eT : T.heap = h) {a : Addr} (E : Exa Z h a K) (hd : decode c.code pc = .ok (.instanceof index, 3))
    (k : ∀ T', Stand p l e R s m args below meth c T' locs cells slots → T'.heap = h → own_G p e below F (T'.setTop (mkF m (pc + 3) Ls (.int 1 :: st)))) : own_G p e below F (T.setTop (mkF m pc Ls (.ref a :: st))) := by
  obtain ⟨T', X', e', st'⟩ := instY X hx hZ hown w eT (Ins.self E) (g := mkF m pc Ls (.ref a :: st)) rfl rfl hd
  exact own_step st' (k T' X' e')
theorem own_instNo (X : Stand p l e R s m args below meth c T locs cells slots) (hx : p.tables.exec = Jvm.exec) (hZ : Z.Warmed39 s.vm) {own K C : String} {index : Nat} (hown : s.vm.findClass own = some m.cls) (w : (Jvm.Cond.classLink own index K).before a0 Z = true) (eT : T.heap = h) {a : Addr} (E : Exa Z h a C) (Fn : ∃ c t, Z.vm.findClass C = some c ∧ Z.vm.findClass K = some t ∧ Z.vm.assignable c t = false) (hd : decode c.code pc = .ok (.instanceof index, 3))
    (k : ∀ T', Stand p l e R s m args below meth c T' locs cells slots → T'.heap = h → own_G p e below F (T'.setTop (mkF m (pc + 3) Ls (.int 0 :: st)))) : own_G p e below F (T.setTop (mkF m pc Ls (.ref a :: st))) := by
  obtain ⟨T', X', e', st'⟩ := instNo X hx hZ hown w eT E Fn (g := mkF m pc Ls (.ref a :: st)) rfl rfl hd
  exact own_step st' (k T' X' e')
theorem own_instNull (X : Stand p l e R s m args below meth c T locs cells slots) (hx : p.tables.exec = Jvm.exec) {index : Nat} (hd : decode c.code pc = .ok (.instanceof index, 3)) (k : own_G p e below F (T.setTop (mkF m (pc + 3) Ls (.int 0 :: st)))) : own_G p e below F (T.setTop (mkF m pc Ls (.null :: st))) :=
  own_step (X.instanceofNull hx (g := mkF m pc Ls (.null :: st)) rfl rfl hd) k
theorem own_castY (X : Stand p l e R s m args below meth c T locs cells slots) (hx : p.tables.exec = Jvm.exec) (hZ : Z.Warmed39 s.vm) {own K : String} {index : Nat} (hown : s.vm.findClass own = some m.cls) (w : (Jvm.Cond.classLink own index K).before a0 Z = true) (eT : T.heap = h) {a : Addr} (E : Exa Z h a K) (hd : decode c.code pc = .ok (.checkcast index, 3))
    (k : ∀ T', Stand p l e R s m args below meth c T' locs cells slots → T'.heap = h → own_G p e below F (T'.setTop (mkF m (pc + 3) Ls (.ref a :: st)))) : own_G p e below F (T.setTop (mkF m pc Ls (.ref a :: st))) := by
  obtain ⟨T', X', e', st'⟩ := castY X hx hZ hown w eT (Ins.self E) (g := mkF m pc Ls (.ref a :: st)) rfl rfl hd
  exact own_step st' (k T' X' e')
/-- a class whose only superclass is the root isn't a subclass of another class -/
theorem own_notSub {C O K : String} {n : Nat} (w1 : (Jvm.Cond.superclass C O).before a0 Z = true) (w2 : (Jvm.Cond.noSuperclass O).before a0 Z = true) (wK : (Jvm.Cond.instantiable K n).before a0 Z = true) (h1 : O ≠ K) (h2 : C ≠ K) : ∃ c t, Z.vm.findClass C = some c ∧ Z.vm.findClass K = some t ∧ Z.vm.assignable c t = false := by
  obtain ⟨t, kt, g1, g2, g3, g4, -⟩ := Cond.instantiable_spec wK
  obtain ⟨co, ko, o1, o2, o3, -, -⟩ := Cond.noSuperclass_spec w2
  obtain ⟨cc, f0⟩ := found_sup w1
  obtain ⟨p, k, kp, f1, f2, f3, f4, f5, -, f7⟩ := Cond.superclass_spec f0 w1
  cases o1.symm.trans f1
  have ne1 := ids_ne o1 g1 h1
  have ne2 := ids_ne f0 g1 h2
  have gi : kt.isInterface = false := by
    cases q : kt.isInterface with
    | false => rfl
    | true => rw [q] at g4; simp at g4
  have r1 : ∀ fuel, Z.vm.isSubclassAux fuel co t = false := fun fuel => by
    cases fuel with
    | zero => rfl
    | succ f => simp [Vm.isSubclassAux, ne1, o2, o3]
  have r2 : ∀ fuel, Z.vm.isSubclassAux fuel cc t = false := fun fuel => by
    cases fuel with
    | zero => rfl
    | succ f => simp [Vm.isSubclassAux, ne2, f2, f4, r1]
  refine ⟨cc, t, f0, g1, ?_⟩
  show Z.vm.assignableAux (255 + 1) cc t = false
  simp [Vm.assignableAux, ne2, f2, g2, f5, g3, gi, Vm.isSubclass, r2]
end OwnInst

section OwnSup
variable {p : Program} {l : Launch} {e : Env} {R : Room} {s : State} {m : MethodId} {args : Array Value} {below : List Frame} {meth : Method} {c : Code} {T : State} {locs : List Loc} {cells slots : Nat} {Z : State} {a0 : Array Value} {h : Heap} {F : Outcome → State → Prop} {pc pc' : Nat} {Ls : Array Slot} {st stk : List Value}
/-- a class that holds a selected method is no interface: so of all its methods -/
theorem own_nf {C : String} {y z : MethodName} (w : (Jvm.Cond.selects C y y).before a0 Z = true) (h : y.cls = z.cls) : NotFace Z z := fun r0 h0 => by
  obtain ⟨c2, r2, m2, q1, q2, q3, q4, kP, hkP, hkPi⟩ := Cond.selects_spec w
  have e1 := findClass_of_methodNamed q3
  have e2 := findClass_of_methodNamed h0
  rw [h] at e1
  exact ⟨kP, (Option.some.inj (e1.symm.trans e2)) ▸ hkP, hkPi⟩
theorem own_decl {y : MethodName} {bytes : ByteArray} {maxL : Nat} {ret : Option FieldType} (w1 : (Jvm.Cond.instanceMethod y).before a0 Z = true) (w2 : (Jvm.Cond.code y bytes maxL ret).before a0 Z = true) : (Jvm.Cond.declares y).before a0 Z = true := by
  obtain ⟨mk, methM, hnamed, hmethM, hstM, habM⟩ := Cond.instanceMethod_spec w1
  obtain ⟨m2, cM, q1, -, -, -, -, -, -, hsig⟩ := Cond.code_spec hnamed w2
  cases hmethM.symm.trans q1
  simp [Cond.before, Cond.holds, Cond.value, hnamed, hmethM, hstM, hsig]
theorem own_same {y : MethodName} (w1 : (Jvm.Cond.instanceMethod y).before a0 Z = true) (nf : NotFace Z y) (hy : y.cls ≠ "java/lang/invoke/MethodHandle" ∧ y.cls ≠ "java/lang/invoke/VarHandle") : (Jvm.Cond.sameMethod y.cls y.cls y.name y.desc).before a0 Z = true := by
  obtain ⟨mk, methM, hnamed, hmethM, hstM, habM⟩ := Cond.instanceMethod_spec w1
  obtain ⟨kr, hkr, hni⟩ := nf mk hnamed
  have hc := findClass_of_methodNamed hnamed
  have hf : Z.methodFound? y.cls y.name y.desc = some mk := State.methodFound?_of_named hnamed hy
  simp [Cond.before, Cond.holds, Cond.value, hc, hf, hnamed, hkr, hni]
theorem own_nfm {y : MethodName} (hZ : Z.Warmed39 s.vm) (nf : NotFace Z y) : NotFace s y := fun r0 h0 => by
  have h1 : Z.methodNamed? y = some r0 := by rw [← State.methodNamed?_setVm (s := Z) hZ.alike]; exact h0
  obtain ⟨kr, hkr, hni⟩ := nf r0 h1
  obtain ⟨k', hk', e⟩ := hZ.alike.2.2 _ _ hkr
  exact ⟨k', hk', by rw [e]; exact hni⟩
/-- invokespecial of a superclass's method -/
theorem own_super {Q : Option Value → Heap → List Loc → Prop} {kc kn W : Nat} {argsL : List Value} {a : Addr} {C : String} (X : Stand p l e R s m args below meth c T locs cells slots) (hx : p.tables.exec = Jvm.exec) (hZ : Z.Warmed39 s.vm) {own : String} {index : Nat} {y : MethodName} {bytes : ByteArray} {maxL : Nat} {ret : Option FieldType} (hown : s.vm.findClass own = some m.cls)
    (w1 : (Jvm.Cond.methodLink own index y).before a0 Z = true) (w2 : (Jvm.Cond.instanceMethod y).before a0 Z = true) (w3 : (Jvm.Cond.superclass own y.cls).before a0 Z = true) (w4 : (Jvm.Cond.code y bytes maxL ret).before a0 Z = true) (nf : NotFace Z y) (hn : y.name ≠ "<init>") (hy : y.cls ≠ "java/lang/invoke/MethodHandle" ∧ y.cls ≠ "java/lang/invoke/VarHandle") (eT : T.heap = h) (E : Exa Z h a C)
    (hK : own_B l R p e below s args y W (.ref a :: argsL).toArray h kc kn Q) (hc : cells + kc ≤ R.cells) (hs : slots + kn ≤ R.slots) (hsz : Ls.size = c.maxLocals) (hlen : ∀ sig, parseMethodDescriptor y.desc = some sig → argsL.length = sig.parameters.length) (hstk : stk = argsL.reverse ++ .ref a :: st) (hW : (st.map fun v => v.category).sum ≤ W)
    (hd : decode c.code pc = .ok (.invokespecial index, 3)) (k : ∀ v T' L, Stand p l e R s m args below meth c T' (locs ++ L) (cells + kc) (slots + kn) → Q v T'.heap L → own_G p e below F (T'.setTop (mkF m (pc + 3) Ls (v.toList ++ st)))) : own_G p e below F (T.setTop (mkF m pc Ls stk)) := by
  obtain ⟨v, _, ⟨T', L', k', n'⟩, -, X', ⟨L, hQ, l1, y1, z1⟩, st'⟩ := superBack X hx hZ hown w1 (own_same w2 nf hy) w2 w3 hn hK eT (Ins.self E) (g := mkF m pc Ls stk) rfl hsz w4 (argsL := argsL) (rest := st) hlen hstk (by show 2 * 0 + _ ≤ _; omega) hd (fun _ _ => ⟨rfl, eT, hc, hs⟩)
  dsimp only [Pt.U, Pt.locs, Pt.cells, Pt.slots] at X' l1 y1 z1 st' hQ
  subst l1 y1 z1
  exact own_go st' (k v T' L X' hQ)
end OwnSup

/-! bytes of chars: Latin-1 (w false) or UTF16 (w true) -/
abbrev own_lo (c : Int32) : Int32 := StrChars.lo8 c
abbrev own_hi (c : Int32) : Int32 := StrChars.hi8 c
abbrev own_wb : List Int32 → List Value := StrChars.Road.wideBytes
abbrev own_ch (c : Int32) : Prop := ¬ c < 0 ∧ ¬ (65535 : Int32) < c
def own_k (w : Bool) (n : Nat) : Nat := if w then 2 * n else n
def own_enc (w : Bool) (cs : List Int32) : List Value := if w then own_wb cs else cs.map fun c => Value.int (own_lo c)
theorem own_wb_app : ∀ (cs ds : List Int32), own_wb (cs ++ ds) = own_wb cs ++ own_wb ds
  | [], ds => rfl
  | c :: cs, ds => by simp only [List.cons_append, own_wb, StrChars.Road.wideBytes]; rw [show StrChars.Road.wideBytes (cs ++ ds) = own_wb (cs ++ ds) from rfl, own_wb_app cs ds]
theorem own_wb_len : ∀ cs : List Int32, (own_wb cs).length = 2 * cs.length
  | [] => rfl
  | c :: cs => by
    have q := own_wb_len cs
    simp only [own_wb, StrChars.Road.wideBytes, List.length_cons] at q ⊢; omega
theorem own_enc_len (w : Bool) (cs : List Int32) : (own_enc w cs).length = own_k w cs.length := by cases w <;> simp [own_enc, own_k, own_wb_len]
theorem own_enc_app (w : Bool) (cs ds : List Int32) : own_enc w (cs ++ ds) = own_enc w cs ++ own_enc w ds := by cases w <;> simp [own_enc, own_wb_app]
theorem own_k_le {w : Bool} {n k : Nat} (h : n ≤ k) : own_k w n ≤ own_k w k := by cases w <;> simp [own_k] <;> omega
theorem own_shl1 {n : Nat} (h : 2 * n < 2 ^ 31) : Int32.ofNat n <<< ((1 : Int32) &&& 31) = Int32.ofNat (2 * n) := by
  have e : ((1 : Int32) &&& 31) = 1 := by decide
  rw [e]
  apply Int32.toBitVec_inj.mp
  apply BitVec.eq_of_toNat_eq
  rw [Int32.toBitVec_shiftLeft]
  show ((BitVec.ofNat 32 n) <<< ((1 : Int32).toBitVec.smod 32)).toNat = (BitVec.ofNat 32 (2 * n)).toNat
  rw [show ((1 : Int32).toBitVec.smod 32) = 1#32 by decide, BitVec.shiftLeft_eq', BitVec.toNat_shiftLeft]
  simp only [BitVec.toNat_ofNat, Nat.shiftLeft_eq]
  rw [show 2 ^ (1 % 2 ^ 32) = 2 from rfl]
  omega
theorem own_shr1 {n : Nat} (h : 2 * n < 2 ^ 31) : Int32.ofNat (2 * n) >>> ((1 : Int32) &&& 31) = Int32.ofNat n := StrChars.shr1 h
theorem own_shr0 (c : Int32) : c >>> ((0 : Int32) &&& 31) = c := StrChars.shr0 c
theorem own_shl0 (c : Int32) : c <<< ((0 : Int32) &&& 31) = c := by
  have e : ((0 : Int32) &&& 31) = 0 := by decide
  rw [e]
  apply Int32.toBitVec_inj.mp
  rw [Int32.toBitVec_shiftLeft]
  show c.toBitVec <<< ((0 : Int32).toBitVec.smod 32) = c.toBitVec
  rw [show ((0 : Int32).toBitVec.smod 32) = 0#32 by decide]
  simp
theorem own_narB (c : Int32) : nar .byte (c.toInt8.toInt32) = c.toInt8.toInt32 := by simp [nar]
theorem own_ofNat_succ (i : Nat) : Int32.ofNat i + (1 : Int32) = Int32.ofNat (i + 1) := by rw [Int32.ofNat_add]; rfl
theorem own_set2 {A B : List Value} {x y a b : Value} {i : Nat} (h : A.length = i) : ((A ++ x :: y :: B).set i a).set (i + 1) b = A ++ a :: b :: B := by
  subst h
  rw [List.set_append_right _ _ (Nat.le_refl _), Nat.sub_self, List.set_append_right _ _ (by omega), show A.length + 1 - A.length = 1 by omega]
  rfl
theorem own_rep2 (k : Nat) (z : Value) : List.replicate (2 * (k + 1)) z = z :: z :: List.replicate (2 * k) z := by
  rw [show 2 * (k + 1) = 2 * k + 1 + 1 by omega]; rfl
theorem own_take1 {cs : List Int32} {i : Nat} (h : i < cs.length) : cs.take (i + 1) = cs.take i ++ [cs.getD i 0] := by
  rw [List.take_add_one, List.getD_eq_getElem?_getD, List.getElem?_eq_getElem h]; rfl
theorem own_wb1 (c : Int32) : own_wb [c] = [.int (own_lo c), .int (own_hi c)] := rfl
theorem own_getDm {cs : List Int32} {i : Nat} : (cs.map Value.int).getD i (.int 0) = .int (cs.getD i 0) := by
  simp only [List.getD_eq_getElem?_getD, List.getElem?_map]
  cases cs[i]? <;> rfl

/-! a StringBuilder and a String, byte by byte -/
abbrev own_ASB : String := "java/lang/AbstractStringBuilder"
def own_SB (Z : State) (h : Heap) (b t : Addr) (kt : ClassId) (co : Int32) (n N : Nat) (vs : List Value) : Prop :=
  Exa Z h b "java/lang/StringBuilder" ∧ Fld Z h b "java/lang/AbstractStringBuilder" "value" "[B" (.ref t) ∧ Fld Z h b "java/lang/AbstractStringBuilder" "coder" "B" (.int co) ∧ Fld Z h b "java/lang/AbstractStringBuilder" "count" "I" (.int (Int32.ofNat n)) ∧ Fld Z h b "java/lang/AbstractStringBuilder" "maybeLatin1" "Z" (.int 0) ∧ Arv Z h t kt .byte (Int32.ofNat N) vs (.int 0) ∧ vs.length = N
def own_ST (Z : State) (h : Heap) (x t : Addr) (kt : ClassId) (co : Int32) (N : Nat) (vs : List Value) : Prop :=
  Exa Z h x "java/lang/String" ∧ Fld Z h x "java/lang/String" "coder" "B" (.int co) ∧ Fld Z h x "java/lang/String" "value" "[B" (.ref t) ∧ Arv Z h t kt .byte (Int32.ofNat N) vs (.int 0) ∧ vs.length = N
section OwnBld
variable {Z : State} {a0 : Array Value} {h h' : Heap} {b t x : Addr} {kt : ClassId} {co : Int32} {n N : Nat} {vs : List Value} {ws : List Addr}
theorem own_SB.ext (S : own_SB Z h b t kt co n N vs) (E : Ext h h') : own_SB Z h' b t kt co n N vs := ⟨S.1.ext E, S.2.1.ext E, S.2.2.1.ext E, S.2.2.2.1.ext E, S.2.2.2.2.1.ext E, S.2.2.2.2.2.1.ext E, S.2.2.2.2.2.2⟩
theorem own_SB.keep (S : own_SB Z h b t kt co n N vs) (K : Keep h h' ws) (hb : b ∉ ws) (ht : t ∉ ws) : own_SB Z h' b t kt co n N vs := ⟨S.1.keep K, S.2.1.keep K hb, S.2.2.1.keep K hb, S.2.2.2.1.keep K hb, S.2.2.2.2.1.keep K hb, S.2.2.2.2.2.1.keep K ht, S.2.2.2.2.2.2⟩
theorem own_ST.ext (S : own_ST Z h x t kt co N vs) (E : Ext h h') : own_ST Z h' x t kt co N vs := ⟨S.1.ext E, S.2.1.ext E, S.2.2.1.ext E, S.2.2.2.1.ext E, S.2.2.2.2⟩
theorem own_ST.keep (S : own_ST Z h x t kt co N vs) (K : Keep h h' ws) (hb : x ∉ ws) (ht : t ∉ ws) : own_ST Z h' x t kt co N vs := ⟨S.1.keep K, S.2.1.keep K hb, S.2.2.1.keep K hb, S.2.2.2.1.keep K ht, S.2.2.2.2⟩
end OwnBld
theorem own_shl (n : Nat) : Int32.ofNat n <<< ((0 : Int32) &&& 31) = Int32.ofNat n := own_shl0 _
theorem own_shr (n : Nat) : Int32.ofNat n >>> ((0 : Int32) &&& 31) = Int32.ofNat n := own_shr0 _
theorem own_subLe {i n : Nat} (h : i ≤ n) (hn : n < 2 ^ 31) : ¬ (0 : Int32) < Int32.ofNat i - Int32.ofNat n := by
  rw [Int32.lt_iff_toInt_lt, Int32.toInt_sub, Int32.toInt_ofNat_small hn, Int32.toInt_ofNat_small (by omega)]
  have e0 : (0 : Int32).toInt = 0 := rfl
  simp only [Int.bmod]; omega
theorem own_subGt {i n : Nat} (h : n < i) (hn : i < 2 ^ 31) : (0 : Int32) < Int32.ofNat i - Int32.ofNat n := by
  rw [own_ofNat_sub (by omega) hn]; exact (own_ofNat_lt (i := 0) (by decide) (by omega)).mpr (by omega)
def own_max (x y : Int32) : Int32 := if x < y then y else x
def own_min (x y : Int32) : Int32 := if y < x then y else x
theorem own_min_r {i n : Nat} (h : i ≤ n) (hn : n < 2 ^ 31) : own_min (Int32.ofNat n) (Int32.ofNat i) = Int32.ofNat i := by
  unfold own_min
  by_cases q : i = n
  · subst q; simp
  · rw [if_pos ((own_ofNat_lt (by omega) hn).mpr (by omega))]
theorem own_min_l {i n : Nat} (h : i ≤ n) (hn : n < 2 ^ 31) : own_min (Int32.ofNat i) (Int32.ofNat n) = Int32.ofNat i := by
  unfold own_min
  rw [if_neg (by rw [own_ofNat_lt hn (by omega)]; omega)]
theorem own_max_r {i n : Nat} (h : i ≤ n) (hn : n < 2 ^ 31) : own_max (Int32.ofNat i) (Int32.ofNat n) = Int32.ofNat n := by
  unfold own_max
  by_cases q : i = n
  · subst q; simp
  · rw [if_pos ((own_ofNat_lt (by omega) hn).mpr (by omega))]
section OwnCp
variable {p : Program} {l : Launch} {e : Env} {R : Room} {s : State} {m : MethodId} {args : Array Value} {below : List Frame} {meth : Method} {c : Code} {T : State} {locs : List Loc} {cells slots : Nat} {Z : State} {a0 : Array Value} {h : Heap} {F : Outcome → State → Prop} {pc pc' : Nat} {Ls : Array Slot} {st stk : List Value}
/-- System.arraycopy of bytes into an array from place dp on -/
theorem own_cpD (X : Stand p l e R s m args below meth c T locs cells slots) (hx : p.tables.exec = Jvm.exec) (hZ : Z.Warmed39 s.vm) {own : String} {index W : Nat} (hown : s.vm.findClass own = some m.cls)
    (w1 : (Jvm.Cond.methodLink own index Jvm.Stand.acN).before a0 Z = true) (w2 : (Jvm.Cond.native Jvm.Stand.acN).before a0 Z = true) (w3 : (Jvm.Cond.static Jvm.Stand.acN).before a0 Z = true) (w4 : (Jvm.Cond.initialized "java/lang/System").before a0 Z = true) (eT : T.heap = h)
    {a b : Addr} {k k' : ClassId} {vs vd : List Value} {n nd sp dp nn : Nat} (A : Arv Z h a k .byte (Int32.ofNat n) vs (.int 0)) (B : Arv Z h b k' .byte (Int32.ofNat nd) vd (.int 0)) (hv : vs.length = n) (hvd : vd.length = nd) (hn : n < 2 ^ 31) (hnd : nd < 2 ^ 31) (hsp : sp + nn ≤ n) (hdp : dp + nn ≤ nd) {n0 : Nat} (N : Fr n0 locs) (ge : n0 ≤ b)
    (hsz : Ls.size = c.maxLocals) (hd : decode c.code pc = .ok (.invokestatic index, 3)) (hf : 1 ≤ R.frames) (hW : (st.map fun v => v.category).sum ≤ W) (hlo : W + (nativeFrameWords "java/lang/System" "arraycopy" 5 + 11) ≤ R.locals)
    (K : ∀ T' h' L, Stand p l e R s m args below meth c T' L cells slots → T'.heap = h' → Fr n0 L → Keep h h' [b] → h.size ≤ h'.size → Arv Z h' b k' .byte (Int32.ofNat nd) (vd.take dp ++ (vs.drop sp).take nn ++ vd.drop (dp + nn)) (.int 0) → own_G p e below F (T'.setTop (mkF m (pc + 3) Ls st))) :
    own_G p e below F (T.setTop (mkF m pc Ls (.int (Int32.ofNat nn) :: .int (Int32.ofNat dp) :: .ref b :: .int (Int32.ofNat sp) :: .ref a :: st))) := by
  obtain ⟨T', h', L, X', e', N', K', B', st'⟩ := cpA X hx hZ hown w1 w2 w3 w4 eT (sp := Int32.ofNat sp) (dp := Int32.ofNat dp) (nn := Int32.ofNat nn) A B (Or.inl ⟨rfl, rfl⟩) (own_nn (by omega)) (own_nn (by omega)) (own_nn (by omega)) (by rw [own_clamp (by omega), own_clamp (by omega), own_clamp hn]; exact hsp) (by rw [own_clamp (by omega), own_clamp (by omega), own_clamp hnd]; exact hdp)
    rfl (by rw [own_clamp (by omega), own_clamp (by omega), hvd]; exact hdp) N ge (g := mkF m pc Ls (.int (Int32.ofNat nn) :: .int (Int32.ofNat dp) :: .ref b :: .int (Int32.ofNat sp) :: .ref a :: st)) rfl hsz rfl hd hf (W := W) (by show 2 * 0 + _ ≤ _; omega) hlo
  refine own_step st' (K T' h' L X' e' N' K' K'.1 ?_)
  rw [own_clamp (n := nn) (by omega), own_clamp (n := sp) (by omega), own_clamp (n := dp) (by omega), own_slice (by omega)] at B'
  exact B'
end OwnCp
abbrev own_L (cs : List Int32) : List Value := cs.map fun c => Value.int (own_lo c)
abbrev own_Z (n : Nat) : List Value := List.replicate n (.int 0)
theorem own_ofNat_or {a b : Nat} : Int32.ofNat a ||| Int32.ofNat b = Int32.ofNat (a ||| b) := by
  apply Int32.toBitVec_inj.mp
  apply BitVec.eq_of_toNat_eq
  rw [Int32.toBitVec_or]
  show ((BitVec.ofNat 32 a) ||| (BitVec.ofNat 32 b)).toNat = (BitVec.ofNat 32 (a ||| b)).toNat
  simp only [BitVec.toNat_or, BitVec.toNat_ofNat]
  exact (Nat.or_mod_two_pow (n := 32)).symm
theorem own_orNn {a b c : Nat} (ha : a < 2 ^ 31) (hb : b < 2 ^ 31) (hc : c < 2 ^ 31) : ¬ (Int32.ofNat a ||| Int32.ofNat b ||| Int32.ofNat c) < 0 := by
  rw [own_ofNat_or, own_ofNat_or]; exact own_nn (Nat.or_lt_two_pow (Nat.or_lt_two_pow ha hb) hc)
theorem own_getD_mem {ds : List Int32} {i : Nat} (h : i < ds.length) : ds.getD i 0 ∈ ds := by
  rw [List.getD_eq_getElem?_getD, List.getElem?_eq_getElem h]; exact List.getElem_mem h
theorem own_getL {ds : List Int32} {r : List Value} {i : Nat} (h : i < ds.length) : (own_L ds ++ r).getD i (.int 0) = .int (own_lo (ds.getD i 0)) := by
  simp only [List.getD_eq_getElem?_getD]
  rw [List.getElem?_append_left (by simpa using h), List.getElem?_map, List.getElem?_eq_getElem h]; rfl
theorem own_drop2 {vd : List Value} {k : Nat} (h : k + 1 < vd.length) : ∃ x y, vd.drop k = x :: y :: vd.drop (k + 2) :=
  ⟨vd[k], vd[k + 1], by rw [List.drop_eq_getElem_cons (by omega), List.drop_eq_getElem_cons (by omega)]⟩
theorem own_putL {vd : List Value} {ds : List Int32} {n i : Nat} (h : 2 * n + 2 * ds.length ≤ vd.length) (hi : i < ds.length) :
    ((vd.take (2 * n) ++ own_wb (ds.take i) ++ vd.drop (2 * n + 2 * i)).set (2 * (n + i)) (.int (own_lo (ds.getD i 0)))).set (2 * (n + i) + 1) (.int (own_hi (ds.getD i 0))) = vd.take (2 * n) ++ own_wb (ds.take (i + 1)) ++ vd.drop (2 * n + 2 * (i + 1)) := by
  obtain ⟨x, y, e⟩ := own_drop2 (vd := vd) (k := 2 * n + 2 * i) (by omega)
  rw [e, own_set2 (A := vd.take (2 * n) ++ own_wb (ds.take i)) (i := 2 * (n + i)) (by rw [List.length_append, own_wb_len, List.length_take, List.length_take]; omega), own_take1 hi, own_wb_app, own_wb1, show 2 * n + 2 * i + 2 = 2 * n + 2 * (i + 1) by omega]
  simp
abbrev own_SBL (Z : State) (h : Heap) (b t : Addr) (kt : ClassId) (N : Nat) (cs : List Int32) : Prop := own_SB Z h b t kt 0 cs.length N (own_L cs ++ own_Z (N - cs.length))
abbrev own_SBW (Z : State) (h : Heap) (b t : Addr) (kt : ClassId) (N : Nat) (cs : List Int32) : Prop := own_SB Z h b t kt 1 cs.length (2 * N) (own_wb cs ++ own_Z (2 * N - 2 * cs.length))
abbrev own_STL (Z : State) (h : Heap) (x t : Addr) (kt : ClassId) (ds : List Int32) : Prop := own_ST Z h x t kt 0 ds.length (own_L ds)
abbrev own_STW (Z : State) (h : Heap) (x t : Addr) (kt : ClassId) (ds : List Int32) : Prop := own_ST Z h x t kt 1 (2 * ds.length) (own_wb ds)
theorem own_nL {cs ds : List Int32} {N : Nat} (h : cs.length + ds.length ≤ N) : (own_L cs ++ own_Z (N - cs.length)).take cs.length ++ own_L ds ++ (own_L cs ++ own_Z (N - cs.length)).drop (cs.length + ds.length) = own_L (cs ++ ds) ++ own_Z (N - (cs ++ ds).length) := by
  have e : (own_L cs).length = cs.length := by simp
  rw [List.take_append_of_le_length (by omega), List.take_of_length_le (by omega), List.drop_append, List.drop_of_length_le (by omega), e, List.drop_replicate, List.nil_append, show own_L (cs ++ ds) = own_L cs ++ own_L ds from List.map_append, List.length_append]
  congr 2; omega
theorem own_nW {cs ds : List Int32} {N : Nat} (h : cs.length + ds.length ≤ N) : (own_wb cs ++ own_Z (2 * N - 2 * cs.length)).take (2 * cs.length) ++ own_wb ds ++ (own_wb cs ++ own_Z (2 * N - 2 * cs.length)).drop (2 * cs.length + 2 * ds.length) = own_wb (cs ++ ds) ++ own_Z (2 * N - 2 * (cs ++ ds).length) := by
  have e : (own_wb cs).length = 2 * cs.length := own_wb_len cs
  rw [List.take_append_of_le_length (by omega), List.take_of_length_le (by omega), List.drop_append, List.drop_of_length_le (by omega), e, List.drop_replicate, List.nil_append, own_wb_app, List.length_append]
  congr 2; omega
theorem own_gL {cs : List Int32} {N M : Nat} (h : cs.length ≤ N) (h' : N ≤ M) : (own_L cs ++ own_Z (N - cs.length)) ++ own_Z (M - N) = own_L cs ++ own_Z (M - cs.length) := by
  rw [List.append_assoc, List.replicate_append_replicate]; congr 2; omega
theorem own_gW {cs : List Int32} {N M : Nat} (h : cs.length ≤ N) (h' : N ≤ M) : (own_wb cs ++ own_Z (2 * N - 2 * cs.length)) ++ own_Z (2 * M - 2 * N) = own_wb cs ++ own_Z (2 * M - 2 * cs.length) := by
  rw [List.append_assoc, List.replicate_append_replicate]; congr 2; omega
theorem own_setL {cs : List Int32} {n i : Nat} (h : cs.length = n) (hi : i < n) : (own_L (cs.take i) ++ own_Z (n - i)).set i (.int ((cs.getD i 0).toInt8.toInt32)) = own_L (cs.take (i + 1)) ++ own_Z (n - (i + 1)) := by
  have e : (own_L (cs.take i)).length = i := by simp; omega
  obtain ⟨k, rfl⟩ : ∃ k, n = i + (k + 1) := ⟨n - i - 1, by omega⟩
  rw [show i + (k + 1) - i = k + 1 by omega, show i + (k + 1) - (i + 1) = k by omega, show own_Z (k + 1) = .int 0 :: own_Z k from rfl, List.set_append_right _ _ (by omega), e, Nat.sub_self, List.set_cons_zero, own_take1 (by omega), show own_L (cs.take i ++ [cs.getD i 0]) = own_L (cs.take i) ++ own_L [cs.getD i 0] from List.map_append, List.append_assoc]
  rfl
theorem own_getM {cs : List Int32} {i : Nat} (d : Value) (h : i < cs.length) : (cs.map Value.int).getD i d = .int (cs.getD i 0) := by
  simp only [List.getD_eq_getElem?_getD, List.getElem?_map, List.getElem?_eq_getElem h]; rfl
theorem own_cfl {n : Nat} : (XT.ushr (Int32.ofNat n - Int32.ofNat n) (31 : Int32)).toInt8.toInt32 = 0 := by
  rw [show Int32.ofNat n - Int32.ofNat n = 0 by rw [Int32.sub_self]]; decide
theorem own_cfw {n : Nat} (h : 0 < n) (h' : n ≤ 36) : (XT.ushr (Int32.ofNat n - Int32.ofNat (2 * n)) (31 : Int32)).toInt8.toInt32 = 1 := by
  have t : ∀ k : Fin 37, 0 < k.val → (XT.ushr (Int32.ofNat k.val - Int32.ofNat (2 * k.val)) (31 : Int32)).toInt8.toInt32 = 1 := by decide +kernel
  exact t ⟨n, by omega⟩ h

def own_bi (b : Bool) : Int32 := if b then 1 else 0
theorem own_bi_t {b : Bool} (h : ¬ own_bi b = 0) : b = true := by cases b <;> simp_all [own_bi]
theorem own_bi_f {b : Bool} (h : own_bi b = 0) : b = false := by cases b <;> simp_all [own_bi]
theorem own_bi_nar (b : Bool) : nar .boolean (own_bi b) = own_bi b := by cases b <;> rfl
theorem ef_nbl (m : MethodId) (x : Int32) : entryFrame m #[(.int x)] 1 = mkF m 0 #[.val (.int x)] [] := by first | (simp [entryFrame, mkF, argsToLocals, Value.category, maxLocals]; done) | rfl
theorem rmNbl (l : Launch) (Z : State) (a0 : Array Value) (hw : ∀ d ∈ tables_1, d.before a0 Z = true) (ws : List Jvm.Cond) (n : Nat) (h0 : Heap) (hn : n ≤ 36) :
    own_Met l Z (⟨"java/lang/StringUTF16", "newBytesLength", "(I)I"⟩ : MethodName) jdk_52_method_3_code 1 (some .int) ws ⟨0, 0, 0, 0⟩ #[(.int (Int32.ofNat n))] h0 (own_P (some (.int (Int32.ofNat (2 * n)))) h0) := by
  refine own_enter (plainFor_of_name pn0) (fun m => ef_nbl m (Int32.ofNat n)) ?_
  intro p e s m below meth c T0 hx hby hml hZ hown hnm hret hlk X0 e0
  refine own_step (b := T0.setTop (mkF m 1 #[.val (.int (Int32.ofNat n))] [(.int (Int32.ofNat n))])) (fun _ qk => XS.iloadN X0.here hx rfl (hb hby d46_0) rfl qk) ?_
  refine own_if_ge X0 hx (hb hby d46_1) (pc' := 12) (by decide) (by decide) (fun c1 => ?_) (fun c1 => absurd c1 (own_nn (by omega)))
  refine own_step (b := T0.setTop (mkF m 13 #[.val (.int (Int32.ofNat n))] [(.int (Int32.ofNat n))])) (fun _ qk => XS.iloadN X0.here hx rfl (hb hby d46_12) rfl qk) ?_
  refine own_step (b := T0.setTop (mkF m 15 #[.val (.int (Int32.ofNat n))] [(.int (1073741823 : Int32)), (.int (Int32.ofNat n))])) (X0.ldcInt hx hown (mvT hZ (own_w hw 226 rfl)) (g := (mkF m 13 #[.val (.int (Int32.ofNat n))] [(.int (Int32.ofNat n))])) rfl (hb hby d46_13)) ?_
  refine own_icmp_lt X0 hx (hb hby d46_15) (pc' := 55) (by decide) (by decide) (fun c2 => ?_) (fun c2 => absurd ((own_ofNat_lt (n := 1073741823) (by omega) (by decide)).mpr (by omega)) c2)
  refine own_step (b := T0.setTop (mkF m 58 #[.val (.int (Int32.ofNat n))] [(.int ((Int32.ofNat n) <<< ((1 : Int32) &&& 31)))])) (fun _ qk => XS.iloadN X0.here hx rfl (hb hby d46_55) rfl (XS.iconst X0.here hx rfl (hb hby d46_56) (XT.ishl X0.here hx rfl (hb hby d46_57) rfl qk))) ?_
  rw [own_shl1 (by omega)]
  show own_G p e below _ (T0.setTop (mkF m 58 #[.val (.int (Int32.ofNat n))] [(.int (Int32.ofNat (2 * n)))]))
  exact own_retI X0 hx hret hlk (hb hby d46_58) ⟨rfl, rfl, e0⟩ (by decide) (by decide)
theorem ef_nbf (m : MethodId) (x : Int32) : entryFrame m #[(.int x)] 1 = mkF m 0 #[.val (.int x)] [] := by first | (simp [entryFrame, mkF, argsToLocals, Value.category, maxLocals]; done) | rfl
theorem rmNbf (l : Launch) (Z : State) (a0 : Array Value) (hw : ∀ d ∈ tables_1, d.before a0 Z = true) (ws : List Jvm.Cond) (n : Nat) (h0 : Heap) (hn : n ≤ 36) :
    own_Met l Z (⟨"java/lang/StringUTF16", "newBytesFor", "(I)[B"⟩ : MethodName) jdk_52_method_2_code 1 (some (.array .byte)) ws ⟨1, 1, 72, 12⟩ #[(.int (Int32.ofNat n))] h0 (fun v h L => ∃ (r : Addr) (kr : ClassId), v = some (.ref r) ∧ L = [] ∧ Ext h0 h ∧ h0.size ≤ r ∧ @LT.lt Nat instLTNat r h.size ∧ Arv Z h r kr .byte (Int32.ofNat (2 * n)) (List.replicate (2 * n) (.int 0)) (.int 0)) := by
  refine own_enter (plainFor_of_name pn0) (fun m => ef_nbf m (Int32.ofNat n)) ?_
  intro p e s m below meth c T0 hx hby hml hZ hown hnm hret hlk X0 e0
  refine own_step (b := T0.setTop (mkF m 1 #[.val (.int (Int32.ofNat n))] [(.int (Int32.ofNat n))])) (fun _ qk => XS.iloadN X0.here hx rfl (hb hby d45_0) rfl qk) ?_
  refine own_staticP (W := 0) (argsL := [(.int (Int32.ofNat n))]) (st := []) X0 hx hZ hown (own_w hw 223 rfl) (own_w hw 224 rfl) (own_w hw 18 rfl) (own_w hw 225 rfl) (by decide) e0 (rmNbl l Z a0 hw [] n h0 hn) (by decide) (by decide) (by decide) (by decide) (by rw [hml]; rfl) (lenOf pd0 rfl) rfl (Nat.le_of_ble_eq_true rfl) (hb hby d45_1) (fun T1 X1 e1 => ?_)
  show own_G p e below _ (T1.setTop (mkF m 4 #[.val (.int (Int32.ofNat n))] [(.int (Int32.ofNat (2 * n)))]))
  refine own_newP X1 hx hZ (own_w hw 20 rfl) e1 (hb hby d45_4) (n := (Int32.ofNat (2 * n))) (own_nn (by omega)) 72 (by rw [own_clamp (by omega)]; omega) (by decide) (by decide) (by decide) (fun T2 h2 a2 k2 X2 e2 g2 l2 E2 V2 => ?_)
  have VB2 : Arv Z h2 a2 k2 .byte (Int32.ofNat (2 * n)) (List.replicate (2 * n) (.int 0)) (.int 0) := by have q := V2; rw [own_clamp (by omega)] at q; exact q
  show own_G p e below _ (T2.setTop (mkF m 6 #[.val (.int (Int32.ofNat n))] [(.ref a2)]))
  subst e2
  exact own_retR X2 hx hret rfl rfl rfl hlk (hb hby d45_6) ⟨_, _, rfl, rfl, E2, by omega, by omega, VB2⟩ (by decide) (by decide)
theorem ef_ul (m : MethodId) (t : Addr) : entryFrame m #[(.ref t)] 1 = mkF m 0 #[.val (.ref t)] [] := by first | (simp [entryFrame, mkF, argsToLocals, Value.category, maxLocals]; done) | rfl
theorem rmUl (l : Launch) (Z : State) (a0 : Array Value) (hw : ∀ d ∈ tables_1, d.before a0 Z = true) (ws : List Jvm.Cond) (t : Addr) (kt : ClassId) (n : Nat) (vs : List Value) (h0 : Heap) (V : Arv Z h0 t kt .byte (Int32.ofNat (2 * n)) vs (.int 0)) (hn : n ≤ 36) :
    own_Met l Z (⟨"java/lang/StringUTF16", "length", "([B)I"⟩ : MethodName) jdk_52_method_6_code 1 (some .int) ws ⟨0, 0, 0, 0⟩ #[(.ref t)] h0 (own_P (some (.int (Int32.ofNat n))) h0) := by
  refine own_enter (plainFor_of_name pn0) (fun m => ef_ul m t) ?_
  intro p e s m below meth c T0 hx hby hml hZ hown hnm hret hlk X0 e0
  refine own_step (b := T0.setTop (mkF m 1 #[.val (.ref t)] [(.ref t)])) (fun _ qk => XS.aloadN X0.here hx rfl (hb hby d51_0) rfl rfl qk) ?_
  refine own_len X0 hx hZ e0 V (hb hby d51_1) ?_
  refine own_step (b := T0.setTop (mkF m 4 #[.val (.ref t)] [(.int ((Int32.ofNat (2 * n)) >>> ((1 : Int32) &&& 31)))])) (fun _ qk => XS.iconst X0.here hx rfl (hb hby d51_2) (XT.ishr X0.here hx rfl (hb hby d51_3) rfl qk)) ?_
  rw [own_shr1 (by omega)]
  show own_G p e below _ (T0.setTop (mkF m 4 #[.val (.ref t)] [(.int (Int32.ofNat n))]))
  exact own_retI X0 hx hret hlk (hb hby d51_4) ⟨rfl, rfl, e0⟩ (by decide) (by decide)
theorem ef_put (m : MethodId) (t : Addr) (x y : Int32) : entryFrame m #[(.ref t), (.int x), (.int y)] 3 = mkF m 0 #[.val (.ref t), .val (.int x), .val (.int y)] [] := by first | (simp [entryFrame, mkF, argsToLocals, Value.category, maxLocals]; done) | rfl
theorem rmPut (l : Launch) (Z : State) (a0 : Array Value) (hw : ∀ d ∈ tables_1, d.before a0 Z = true) (ws : List Jvm.Cond) (t : Addr) (kt : ClassId) (n i : Nat) (c0 : Int32) (vs : List Value) (h0 : Heap) (V : Arv Z h0 t kt .byte (Int32.ofNat n) vs (.int 0)) (hv : vs.length = n) (hi : 2 * i + 1 < n) (hn : n ≤ 72) (n0 : Nat) (gt : n0 ≤ t) (OL0 : Old Z Z.heap.size h0) (G1 : Int32) (O2 : Sta Z Z.heap "java/lang/String" "COMPACT_STRINGS" "Z" (.int G1)) (P5 : ¬ (G1 = (0 : Int32))) (G3 : Value) (O4 : Sta Z Z.heap "jdk/internal/util/Preconditions" "SIOOBE_FORMATTER" "Ljava/util/function/BiFunction;" G3) (rG3 : G3.isRef = true) (SA1 : Sta Z Z.heap "java/lang/StringUTF16" "$assertionsDisabled" "Z" (.int 1)) (SA2 : Sta Z Z.heap "java/lang/StringUTF16" "HI_BYTE_SHIFT" "I" (.int 0)) (SA3 : Sta Z Z.heap "java/lang/StringUTF16" "LO_BYTE_SHIFT" "I" (.int 8)) :
    own_Met l Z (⟨"java/lang/StringUTF16", "putChar", "([BII)V"⟩ : MethodName) jdk_52_method_4_code 3 none ws ⟨0, 0, 0, 0⟩ #[(.ref t), (.int (Int32.ofNat i)), (.int c0)] h0 (fun v h L => v = none ∧ Fr n0 L ∧ Keep h0 h [t] ∧ h.size = h0.size ∧ Arv Z h t kt .byte (Int32.ofNat n) ((vs.set (2 * i) (.int (own_lo c0))).set (2 * i + 1) (.int (own_hi c0))) (.int 0)) := by
  refine own_enter (plainFor_of_name pn0) (fun m => ef_put m t (Int32.ofNat i) c0) ?_
  intro p e s m below meth c T0 hx hby hml hZ hown hnm hret hlk X0 e0
  have N0 := Fr.nil n0
  show own_G p e below _ (T0.setTop (mkF m 0 #[.val (.ref t), .val (.int (Int32.ofNat i)), .val (.int c0)] []))
  refine own_getS X0 hx hZ hown (own_w hw 230 rfl) e0 (SA1.ext OL0.2) (hb hby d47_0) (fun T1 X1 e1 => ?_)
  show own_G p e below _ (T1.setTop (mkF m 3 #[.val (.ref t), .val (.int (Int32.ofNat i)), .val (.int c0)] [(.int (1 : Int32))]))
  refine own_if_ne X1 hx (hb hby d47_3) (pc' := 28) (by decide) (by decide) (fun c3_2 => ?_) (fun c3_2 => absurd c3_2 (by decide))
  refine own_step (b := T1.setTop (mkF m 31 #[.val (.ref t), .val (.int (Int32.ofNat i)), .val (.int c0)] [(.int ((Int32.ofNat i) <<< ((1 : Int32) &&& 31)))])) (fun _ qk => XS.iloadN X1.here hx rfl (hb hby d47_28) rfl (XS.iconst X1.here hx rfl (hb hby d47_29) (XT.ishl X1.here hx rfl (hb hby d47_30) rfl qk))) ?_
  rw [own_shl1 (by omega)]
  refine own_step (b := T1.setTop (mkF m 37 #[.val (.ref t), .val (.int ((Int32.ofNat (2 * i)) + (1 : Int32))), .val (.int c0)] [(.int (Int32.ofNat (2 * i))), (.ref t)])) (fun _ qk => XS.istoreN X1.here hx rfl (hb hby d47_31) rfl (l' := #[.val (.ref t), .val (.int (Int32.ofNat (2 * i))), .val (.int c0)]) rfl (XS.aloadN X1.here hx rfl (hb hby d47_32) rfl rfl (XS.iloadN X1.here hx rfl (hb hby d47_33) rfl (XS.iinc X1.here hx rfl (hb hby d47_34) rfl (l' := #[.val (.ref t), .val (.int ((Int32.ofNat (2 * i)) + (1 : Int32))), .val (.int c0)]) rfl qk)))) ?_
  rw [own_ofNat_succ]
  refine own_step (b := T1.setTop (mkF m 38 #[.val (.ref t), .val (.int (Int32.ofNat (2 * i + 1))), .val (.int c0)] [(.int c0), (.int (Int32.ofNat (2 * i))), (.ref t)])) (fun _ qk => XS.iloadN X1.here hx rfl (hb hby d47_37) rfl qk) ?_
  refine own_getS X1 hx hZ hown (own_w hw 231 rfl) e1 (SA2.ext OL0.2) (hb hby d47_38) (fun T3 X3 e3 => ?_)
  refine own_step (b := T3.setTop (mkF m 42 #[.val (.ref t), .val (.int (Int32.ofNat (2 * i + 1))), .val (.int c0)] [(.int (c0 >>> ((0 : Int32) &&& 31))), (.int (Int32.ofNat (2 * i))), (.ref t)])) (fun _ qk => XT.ishr X3.here hx rfl (hb hby d47_41) rfl qk) ?_
  rw [own_shr0]
  refine own_step (b := T3.setTop (mkF m 43 #[.val (.ref t), .val (.int (Int32.ofNat (2 * i + 1))), .val (.int c0)] [(.int (c0.toInt8.toInt32)), (.int (Int32.ofNat (2 * i))), (.ref t)])) (fun _ qk => XT.i2b X3.here hx rfl (hb hby d47_42) rfl qk) ?_
  refine own_stB X3 hx hZ e3 V (2 * i) (own_nn (by omega)) (own_clamp (by omega)) (by rw [own_clamp (by omega)]; omega) (by omega) N0 gt (hb hby d47_43) (fun T4 h4 X4 e4 N4 W4 z4 V4 => ?_)
  show own_G p e below _ (T4.setTop (mkF m 44 #[.val (.ref t), .val (.int (Int32.ofNat (2 * i + 1))), .val (.int c0)] []))
  rw [own_narB] at V4
  refine own_step (b := T4.setTop (mkF m 47 #[.val (.ref t), .val (.int (Int32.ofNat (2 * i + 1))), .val (.int c0)] [(.int c0), (.int (Int32.ofNat (2 * i + 1))), (.ref t)])) (fun _ qk => XS.aloadN X4.here hx rfl (hb hby d47_44) rfl rfl (XS.iloadN X4.here hx rfl (hb hby d47_45) rfl (XS.iloadN X4.here hx rfl (hb hby d47_46) rfl qk))) ?_
  refine own_getS X4 hx hZ hown (own_w hw 232 rfl) e4 ((SA3.ext OL0.2).wr W4) (hb hby d47_47) (fun T5 X5 e5 => ?_)
  refine own_step (b := T5.setTop (mkF m 52 #[.val (.ref t), .val (.int (Int32.ofNat (2 * i + 1))), .val (.int c0)] [(.int ((c0 >>> ((8 : Int32) &&& 31)).toInt8.toInt32)), (.int (Int32.ofNat (2 * i + 1))), (.ref t)])) (fun _ qk => XT.ishr X5.here hx rfl (hb hby d47_50) rfl (XT.i2b X5.here hx rfl (hb hby d47_51) rfl qk)) ?_
  refine own_stB X5 hx hZ e5 V4 (2 * i + 1) (own_nn (by omega)) (own_clamp (by omega)) (by rw [own_clamp (by omega)]; omega) (by rw [List.length_set]; omega) N4 gt (hb hby d47_52) (fun T6 h6 X6 e6 N6 W6 z6 V6 => ?_)
  show own_G p e below _ (T6.setTop (mkF m 53 #[.val (.ref t), .val (.int (Int32.ofNat (2 * i + 1))), .val (.int c0)] []))
  rw [own_narB] at V6
  subst e6
  exact own_retV X6 hx hret hlk (hb hby d47_53) ⟨rfl, N6, ((Keep.refl h0 [t]).wr W4 (Or.inl (List.mem_singleton.mpr rfl))).wr W6 (Or.inl (List.mem_singleton.mpr rfl)), by omega, V6⟩ (by decide) (by decide)
theorem ef_gc (m : MethodId) (t : Addr) (x : Int32) : entryFrame m #[(.ref t), (.int x)] 2 = mkF m 0 #[.val (.ref t), .val (.int x)] [] := by first | (simp [entryFrame, mkF, argsToLocals, Value.category, maxLocals]; done) | rfl
theorem own_narW {c : Int32} (h : own_ch c) : nar .char c = c := by
  have q := StrChars.narrow_ch h.1 h.2
  simpa [narrow, nar] using q
theorem rmGc (l : Launch) (Z : State) (a0 : Array Value) (hw : ∀ d ∈ tables_1, d.before a0 Z = true) (ws : List Jvm.Cond) (t : Addr) (kt : ClassId) (i : Nat) (cs : List Int32) (h0 : Heap) (V : Arv Z h0 t kt .byte (Int32.ofNat (2 * cs.length)) (own_wb cs) (.int 0)) (hi : i < cs.length) (hn : cs.length ≤ 36) (hc : own_ch (cs.getD i 0)) (OL0 : Old Z Z.heap.size h0) (G1 : Int32) (O2 : Sta Z Z.heap "java/lang/String" "COMPACT_STRINGS" "Z" (.int G1)) (P5 : ¬ (G1 = (0 : Int32))) (G3 : Value) (O4 : Sta Z Z.heap "jdk/internal/util/Preconditions" "SIOOBE_FORMATTER" "Ljava/util/function/BiFunction;" G3) (rG3 : G3.isRef = true) (SA1 : Sta Z Z.heap "java/lang/StringUTF16" "$assertionsDisabled" "Z" (.int 1)) (SA2 : Sta Z Z.heap "java/lang/StringUTF16" "HI_BYTE_SHIFT" "I" (.int 0)) (SA3 : Sta Z Z.heap "java/lang/StringUTF16" "LO_BYTE_SHIFT" "I" (.int 8)) :
    own_Met l Z (⟨"java/lang/StringUTF16", "getChar", "([BI)C"⟩ : MethodName) jdk_52_method_5_code 2 (some .char) ws ⟨0, 0, 0, 0⟩ #[(.ref t), (.int (Int32.ofNat i))] h0 (own_P (some (.int (cs.getD i 0))) h0) := by
  refine own_enter (plainFor_of_name pn0) (fun m => ef_gc m t (Int32.ofNat i)) ?_
  intro p e s m below meth c T0 hx hby hml hZ hown hnm hret hlk X0 e0
  show own_G p e below _ (T0.setTop (mkF m 0 #[.val (.ref t), .val (.int (Int32.ofNat i))] []))
  refine own_getS X0 hx hZ hown (own_w hw 230 rfl) e0 (SA1.ext OL0.2) (hb hby d48_0) (fun T1 X1 e1 => ?_)
  show own_G p e below _ (T1.setTop (mkF m 3 #[.val (.ref t), .val (.int (Int32.ofNat i))] [(.int (1 : Int32))]))
  refine own_if_ne X1 hx (hb hby d48_3) (pc' := 28) (by decide) (by decide) (fun c3_2 => ?_) (fun c3_2 => absurd c3_2 (by decide))
  refine own_step (b := T1.setTop (mkF m 31 #[.val (.ref t), .val (.int (Int32.ofNat i))] [(.int ((Int32.ofNat i) <<< ((1 : Int32) &&& 31)))])) (fun _ qk => XS.iloadN X1.here hx rfl (hb hby d48_28) rfl (XS.iconst X1.here hx rfl (hb hby d48_29) (XT.ishl X1.here hx rfl (hb hby d48_30) rfl qk))) ?_
  rw [own_shl1 (by omega)]
  refine own_step (b := T1.setTop (mkF m 37 #[.val (.ref t), .val (.int ((Int32.ofNat (2 * i)) + (1 : Int32)))] [(.int (Int32.ofNat (2 * i))), (.ref t)])) (fun _ qk => XS.istoreN X1.here hx rfl (hb hby d48_31) rfl (l' := #[.val (.ref t), .val (.int (Int32.ofNat (2 * i)))]) rfl (XS.aloadN X1.here hx rfl (hb hby d48_32) rfl rfl (XS.iloadN X1.here hx rfl (hb hby d48_33) rfl (XS.iinc X1.here hx rfl (hb hby d48_34) rfl (l' := #[.val (.ref t), .val (.int ((Int32.ofNat (2 * i)) + (1 : Int32)))]) rfl qk)))) ?_
  rw [own_ofNat_succ]
  show own_G p e below _ (T1.setTop (mkF m 37 #[.val (.ref t), .val (.int (Int32.ofNat (2 * i + 1)))] [(.int (Int32.ofNat (2 * i))), (.ref t)]))
  refine own_ldB X1 hx hZ e1 V (2 * i) (own_nn (by omega)) (own_clamp (by omega)) (by rw [own_clamp (by omega)]; omega) (v := (.int (StrChars.lo8 (cs.getD i 0)))) (StrChars.Road.wide_lo _ _ _ hi) (hb hby d48_37) ?_
  refine own_step (b := T1.setTop (mkF m 42 #[.val (.ref t), .val (.int (Int32.ofNat (2 * i + 1)))] [(.int ((StrChars.lo8 (cs.getD i 0)) &&& (255 : Int32)))])) (fun _ qk => XS.sipush X1.here hx rfl (hb hby d48_38) (XS.iand X1.here hx rfl (hb hby d48_41) rfl qk)) ?_
  refine own_getS X1 hx hZ hown (own_w hw 231 rfl) e1 (SA2.ext OL0.2) (hb hby d48_42) (fun T3 X3 e3 => ?_)
  refine own_step (b := T3.setTop (mkF m 48 #[.val (.ref t), .val (.int (Int32.ofNat (2 * i + 1)))] [(.int (Int32.ofNat (2 * i + 1))), (.ref t), (.int (((StrChars.lo8 (cs.getD i 0)) &&& (255 : Int32)) <<< ((0 : Int32) &&& 31)))])) (fun _ qk => XT.ishl X3.here hx rfl (hb hby d48_45) rfl (XS.aloadN X3.here hx rfl (hb hby d48_46) rfl rfl (XS.iloadN X3.here hx rfl (hb hby d48_47) rfl qk))) ?_
  refine own_ldB X3 hx hZ e3 V (2 * i + 1) (own_nn (by omega)) (own_clamp (by omega)) (by rw [own_clamp (by omega)]; omega) (v := (.int (StrChars.hi8 (cs.getD i 0)))) (StrChars.Road.wide_hi _ _ _ hi) (hb hby d48_48) ?_
  refine own_step (b := T3.setTop (mkF m 53 #[.val (.ref t), .val (.int (Int32.ofNat (2 * i + 1)))] [(.int ((StrChars.hi8 (cs.getD i 0)) &&& (255 : Int32))), (.int (((StrChars.lo8 (cs.getD i 0)) &&& (255 : Int32)) <<< ((0 : Int32) &&& 31)))])) (fun _ qk => XS.sipush X3.here hx rfl (hb hby d48_49) (XS.iand X3.here hx rfl (hb hby d48_52) rfl qk)) ?_
  refine own_getS X3 hx hZ hown (own_w hw 232 rfl) e3 (SA3.ext OL0.2) (hb hby d48_53) (fun T4 X4 e4 => ?_)
  refine own_step (b := T4.setTop (mkF m 59 #[.val (.ref t), .val (.int (Int32.ofNat (2 * i + 1)))] [(.int (((((StrChars.lo8 (cs.getD i 0)) &&& (255 : Int32)) <<< ((0 : Int32) &&& 31)) ||| (((StrChars.hi8 (cs.getD i 0)) &&& (255 : Int32)) <<< ((8 : Int32) &&& 31))).toUInt32.toUInt16.toUInt32.toInt32))])) (fun _ qk => XT.ishl X4.here hx rfl (hb hby d48_56) rfl (XT.ior X4.here hx rfl (hb hby d48_57) rfl (XT.i2c X4.here hx rfl (hb hby d48_58) rfl qk))) ?_
  have hp := StrChars.pair_says hc.1 hc.2
  exact own_retN X4 hx hret (by simp) hlk (hb hby d48_59) ⟨by rw [show nar .char (((((StrChars.lo8 (cs.getD i 0)) &&& (255 : Int32)) <<< ((0 : Int32) &&& 31)) ||| (((StrChars.hi8 (cs.getD i 0)) &&& (255 : Int32)) <<< ((8 : Int32) &&& 31))).toUInt32.toUInt16.toUInt32.toInt32) = cs.getD i 0 by (rw [show (((((StrChars.lo8 (cs.getD i 0)) &&& (255 : Int32)) <<< ((0 : Int32) &&& 31)) ||| (((StrChars.hi8 (cs.getD i 0)) &&& (255 : Int32)) <<< ((8 : Int32) &&& 31))).toUInt32.toUInt16.toUInt32.toInt32) = StrChars.pairCh (StrChars.lo8 (cs.getD i 0)) (StrChars.hi8 (cs.getD i 0)) from rfl, hp]; exact own_narW hc)], rfl, e4⟩ (by decide) (by decide)
theorem ef_cod (m : MethodId) (x : Addr) : entryFrame m #[(.ref x)] 1 = mkF m 0 #[.val (.ref x)] [] := by first | (simp [entryFrame, mkF, argsToLocals, Value.category, maxLocals]; done) | rfl
theorem rmCod (l : Launch) (Z : State) (a0 : Array Value) (hw : ∀ d ∈ tables_1, d.before a0 Z = true) (ws : List Jvm.Cond) (x : Addr) (co : Int32) (h0 : Heap) (Fc : Fld Z h0 x "java/lang/String" "coder" "B" (.int co)) (hco : nar .byte co = co) (OL0 : Old Z Z.heap.size h0) (G1 : Int32) (O2 : Sta Z Z.heap "java/lang/String" "COMPACT_STRINGS" "Z" (.int G1)) (P5 : ¬ (G1 = (0 : Int32))) (G3 : Value) (O4 : Sta Z Z.heap "jdk/internal/util/Preconditions" "SIOOBE_FORMATTER" "Ljava/util/function/BiFunction;" G3) (rG3 : G3.isRef = true) (SA1 : Sta Z Z.heap "java/lang/StringUTF16" "$assertionsDisabled" "Z" (.int 1)) (SA2 : Sta Z Z.heap "java/lang/StringUTF16" "HI_BYTE_SHIFT" "I" (.int 0)) (SA3 : Sta Z Z.heap "java/lang/StringUTF16" "LO_BYTE_SHIFT" "I" (.int 8)) :
    own_Met l Z (⟨"java/lang/String", "coder", "()B"⟩ : MethodName) jdk_42_method_152_code 1 (some .byte) ws ⟨0, 0, 0, 0⟩ #[(.ref x)] h0 (own_P (some (.int co)) h0) := by
  refine own_enter (plainFor_of_name pn1) (fun m => ef_cod m x) ?_
  intro p e s m below meth c T0 hx hby hml hZ hown hnm hret hlk X0 e0
  show own_G p e below _ (T0.setTop (mkF m 0 #[.val (.ref x)] []))
  refine own_getS X0 hx hZ hown (own_w hw 15 rfl) e0 (O2.ext OL0.2) (hb hby d22_0) (fun T1 X1 e1 => ?_)
  show own_G p e below _ (T1.setTop (mkF m 3 #[.val (.ref x)] [(.int G1)]))
  refine own_if_eq X1 hx (hb hby d22_3) (pc' := 13) (by decide) (by decide) (fun c3 => absurd c3 P5) (fun c3 => ?_)
  refine own_step (b := T1.setTop (mkF m 7 #[.val (.ref x)] [(.ref x)])) (fun _ qk => XS.aloadN X1.here hx rfl (hb hby d22_6) rfl rfl qk) ?_
  refine own_getF X1 hx hZ hown (own_w hw 27 rfl) e1 Fc (hb hby d22_7) (fun T2 X2 e2 => ?_)
  refine own_step (b := T2.setTop (mkF m 14 #[.val (.ref x)] [(.int co)])) (fun _ qk => XS.goto X2.here hx rfl (pc0 := 10) (pc' := 14) rfl (hb hby d22_10) (by decide) (by decide) qk) ?_
  exact own_retN X2 hx hret (by simp) hlk (hb hby d22_14) ⟨by rw [hco], rfl, e2⟩ (by decide) (by decide)
theorem ef_sln (m : MethodId) (x : Addr) : entryFrame m #[(.ref x)] 1 = mkF m 0 #[.val (.ref x)] [] := by first | (simp [entryFrame, mkF, argsToLocals, Value.category, maxLocals]; done) | rfl
theorem rmSln (l : Launch) (Z : State) (a0 : Array Value) (hw : ∀ d ∈ tables_1, d.before a0 Z = true) (ws : List Jvm.Cond) (x tx : Addr) (kx : ClassId) (co : Int32) (Nx mm : Nat) (vx : List Value) (h0 : Heap) (SS : own_ST Z h0 x tx kx co Nx vx) (hsr : Int32.ofNat Nx >>> (co &&& 31) = Int32.ofNat mm) (hco : nar .byte co = co) (OL0 : Old Z Z.heap.size h0) (G1 : Int32) (O2 : Sta Z Z.heap "java/lang/String" "COMPACT_STRINGS" "Z" (.int G1)) (P5 : ¬ (G1 = (0 : Int32))) (G3 : Value) (O4 : Sta Z Z.heap "jdk/internal/util/Preconditions" "SIOOBE_FORMATTER" "Ljava/util/function/BiFunction;" G3) (rG3 : G3.isRef = true) (SA1 : Sta Z Z.heap "java/lang/StringUTF16" "$assertionsDisabled" "Z" (.int 1)) (SA2 : Sta Z Z.heap "java/lang/StringUTF16" "HI_BYTE_SHIFT" "I" (.int 0)) (SA3 : Sta Z Z.heap "java/lang/StringUTF16" "LO_BYTE_SHIFT" "I" (.int 8)) :
    own_Met l Z (⟨"java/lang/String", "length", "()I"⟩ : MethodName) jdk_42_method_54_code 1 (some .int) ws ⟨1, 0, 0, 13⟩ #[(.ref x)] h0 (own_P (some (.int (Int32.ofNat mm))) h0) := by
  refine own_enter (plainFor_of_name pn1) (fun m => ef_sln m x) ?_
  intro p e s m below meth c T0 hx hby hml hZ hown hnm hret hlk X0 e0
  refine own_step (b := T0.setTop (mkF m 1 #[.val (.ref x)] [(.ref x)])) (fun _ qk => XS.aloadN X0.here hx rfl (hb hby d21_0) rfl rfl qk) ?_
  refine own_getF X0 hx hZ hown (own_w hw 29 rfl) e0 SS.2.2.1 (hb hby d21_1) (fun T1 X1 e1 => ?_)
  show own_G p e below _ (T1.setTop (mkF m 4 #[.val (.ref x)] [(.ref tx)]))
  refine own_len X1 hx hZ e1 SS.2.2.2.1 (hb hby d21_4) ?_
  refine own_step (b := T1.setTop (mkF m 6 #[.val (.ref x)] [(.ref x), (.int (Int32.ofNat Nx))])) (fun _ qk => XS.aloadN X1.here hx rfl (hb hby d21_5) rfl rfl qk) ?_
  refine own_virtualP (a := x) (W := 1) (argsL := []) (st := [(.int (Int32.ofNat Nx))]) X1 hx hZ hown (own_w hw 111 rfl) (own_w hw 112 rfl) (own_w hw 114 rfl) trivial (own_w hw 113 rfl) (by decide) e1 SS.1 (rmCod l Z a0 hw [] x co h0 SS.2.1 hco OL0 G1 O2 P5 G3 O4 rG3 SA1 SA2 SA3) (own_w hw 115 rfl) (own_w hw 4 rfl) (by decide) (by decide) (by decide) (by decide) (by rw [hml]; rfl) (lenOf pd1 rfl) rfl (Nat.le_of_ble_eq_true rfl) (hb hby d21_6) (fun T2 X2 e2 => ?_)
  refine own_step (b := T2.setTop (mkF m 10 #[.val (.ref x)] [(.int ((Int32.ofNat Nx) >>> (co &&& 31)))])) (fun _ qk => XT.ishr X2.here hx rfl (hb hby d21_9) rfl qk) ?_
  rw [hsr]
  show own_G p e below _ (T2.setTop (mkF m 10 #[.val (.ref x)] [(.int (Int32.ofNat mm))]))
  exact own_retI X2 hx hret hlk (hb hby d21_10) ⟨rfl, rfl, e2⟩ (by decide) (by decide)
theorem ef_ens (m : MethodId) (b : Addr) (x : Int32) : entryFrame m #[(.ref b), (.int x)] 3 = mkF m 0 #[.val (.ref b), .val (.int x), .unset] [] := by first | (simp [entryFrame, mkF, argsToLocals, Value.category, maxLocals]; done) | rfl
theorem rmEns0 (l : Launch) (Z : State) (a0 : Array Value) (hw : ∀ d ∈ tables_1, d.before a0 Z = true) (ws : List Jvm.Cond) (b t : Addr) (kt : ClassId) (cb : Int32) (n N : Nat) (vs : List Value) (mn cp : Nat) (h0 : Heap) (BB : own_SB Z h0 b t kt cb n N vs) (hsr : Int32.ofNat N >>> (cb &&& 31) = Int32.ofNat cp) (hmn : mn ≤ cp) (hcp : cp < 2 ^ 31) :
    own_Met l Z (⟨"java/lang/AbstractStringBuilder", "ensureCapacityInternal", "(I)V"⟩ : MethodName) jdk_68_method_9_code 3 none ws ⟨0, 0, 0, 0⟩ #[(.ref b), (.int (Int32.ofNat mn))] h0 (own_P none h0) := by
  refine own_enter (plainFor_of_name pn2) (fun m => ef_ens m b (Int32.ofNat mn)) ?_
  intro p e s m below meth c T0 hx hby hml hZ hown hnm hret hlk X0 e0
  refine own_step (b := T0.setTop (mkF m 1 #[.val (.ref b), .val (.int (Int32.ofNat mn)), .unset] [(.ref b)])) (fun _ qk => XS.aloadN X0.here hx rfl (hb hby d23_0) rfl rfl qk) ?_
  refine own_getF X0 hx hZ hown (own_w hw 53 rfl) e0 BB.2.1 (hb hby d23_1) (fun T1 X1 e1 => ?_)
  show own_G p e below _ (T1.setTop (mkF m 4 #[.val (.ref b), .val (.int (Int32.ofNat mn)), .unset] [(.ref t)]))
  refine own_len X1 hx hZ e1 BB.2.2.2.2.2.1 (hb hby d23_4) ?_
  refine own_step (b := T1.setTop (mkF m 6 #[.val (.ref b), .val (.int (Int32.ofNat mn)), .unset] [(.ref b), (.int (Int32.ofNat N))])) (fun _ qk => XS.aloadN X1.here hx rfl (hb hby d23_5) rfl rfl qk) ?_
  refine own_getF X1 hx hZ hown (own_w hw 55 rfl) e1 BB.2.2.1 (hb hby d23_6) (fun T2 X2 e2 => ?_)
  refine own_step (b := T2.setTop (mkF m 10 #[.val (.ref b), .val (.int (Int32.ofNat mn)), .unset] [(.int ((Int32.ofNat N) >>> (cb &&& 31)))])) (fun _ qk => XT.ishr X2.here hx rfl (hb hby d23_9) rfl qk) ?_
  rw [hsr]
  refine own_step (b := T2.setTop (mkF m 14 #[.val (.ref b), .val (.int (Int32.ofNat mn)), .val (.int (Int32.ofNat cp))] [(.int ((Int32.ofNat mn) - (Int32.ofNat cp)))])) (fun _ qk => XS.istoreN X2.here hx rfl (hb hby d23_10) rfl (l' := #[.val (.ref b), .val (.int (Int32.ofNat mn)), .val (.int (Int32.ofNat cp))]) rfl (XS.iloadN X2.here hx rfl (hb hby d23_11) rfl (XS.iloadN X2.here hx rfl (hb hby d23_12) rfl (XS.isub X2.here hx rfl (hb hby d23_13) rfl qk)))) ?_
  refine own_if_le X2 hx (hb hby d23_14) (pc' := 38) (by decide) (by decide) (fun c14 => ?_) (fun c14 => absurd c14 (own_subLe hmn hcp))
  show own_G p e below _ (T2.setTop (mkF m 38 #[.val (.ref b), .val (.int (Int32.ofNat mn)), .val (.int (Int32.ofNat cp))] []))
  exact own_retV X2 hx hret hlk (hb hby d23_38) ⟨rfl, rfl, e2⟩ (by decide) (by decide)
theorem ef_max (m : MethodId) (x y : Int32) : entryFrame m #[(.int x), (.int y)] 2 = mkF m 0 #[.val (.int x), .val (.int y)] [] := by first | (simp [entryFrame, mkF, argsToLocals, Value.category, maxLocals]; done) | rfl
theorem rmMax (l : Launch) (Z : State) (a0 : Array Value) (hw : ∀ d ∈ tables_1, d.before a0 Z = true) (ws : List Jvm.Cond) (x y : Int32) (h0 : Heap) :
    own_Met l Z (⟨"java/lang/Math", "max", "(II)I"⟩ : MethodName) jdk_29_method_65_code 2 (some .int) ws ⟨0, 0, 0, 0⟩ #[(.int x), (.int y)] h0 (own_P (some (.int (own_max x y))) h0) := by
  refine own_enter (Jvm.Free.JP.mathPlain rfl (by decide +kernel)) (fun m => ef_max m x y) ?_
  intro p e s m below meth c T0 hx hby hml hZ hown hnm hret hlk X0 e0
  refine own_step (b := T0.setTop (mkF m 2 #[.val (.int x), .val (.int y)] [(.int y), (.int x)])) (fun _ qk => XS.iloadN X0.here hx rfl (hb hby d40_0) rfl (XS.iloadN X0.here hx rfl (hb hby d40_1) rfl qk)) ?_
  refine own_icmp_lt X0 hx (hb hby d40_2) (pc' := 9) (by decide) (by decide) (fun c => ?_) (fun c => ?_)
  · show own_G p e below _ (T0.setTop (mkF m 9 #[.val (.int x), .val (.int y)] []))
    refine own_step (b := T0.setTop (mkF m 10 #[.val (.int x), .val (.int y)] [(.int y)])) (fun _ qk => XS.iloadN X0.here hx rfl (hb hby d40_9) rfl qk) ?_
    exact own_retI X0 hx hret hlk (hb hby d40_10) ⟨by rw [own_max, if_pos c], rfl, e0⟩ (by decide) (by decide)
  · show own_G p e below _ (T0.setTop (mkF m 5 #[.val (.int x), .val (.int y)] []))
    refine own_step (b := T0.setTop (mkF m 10 #[.val (.int x), .val (.int y)] [(.int x)])) (fun _ qk => XS.iloadN X0.here hx rfl (hb hby d40_5) rfl (XS.goto X0.here hx rfl (pc0 := 6) (pc' := 10) rfl (hb hby d40_6) (by decide) (by decide) qk)) ?_
    exact own_retI X0 hx hret hlk (hb hby d40_10) ⟨by rw [own_max, if_neg c], rfl, e0⟩ (by decide) (by decide)
theorem ef_min (m : MethodId) (x y : Int32) : entryFrame m #[(.int x), (.int y)] 2 = mkF m 0 #[.val (.int x), .val (.int y)] [] := by first | (simp [entryFrame, mkF, argsToLocals, Value.category, maxLocals]; done) | rfl
theorem rmMin (l : Launch) (Z : State) (a0 : Array Value) (hw : ∀ d ∈ tables_1, d.before a0 Z = true) (ws : List Jvm.Cond) (x y : Int32) (h0 : Heap) :
    own_Met l Z (⟨"java/lang/Math", "min", "(II)I"⟩ : MethodName) jdk_29_method_69_code 2 (some .int) ws ⟨0, 0, 0, 0⟩ #[(.int x), (.int y)] h0 (own_P (some (.int (own_min x y))) h0) := by
  refine own_enter (Jvm.Free.JP.mathPlain rfl (by decide +kernel)) (fun m => ef_min m x y) ?_
  intro p e s m below meth c T0 hx hby hml hZ hown hnm hret hlk X0 e0
  refine own_step (b := T0.setTop (mkF m 2 #[.val (.int x), .val (.int y)] [(.int y), (.int x)])) (fun _ qk => XS.iloadN X0.here hx rfl (hb hby d37_0) rfl (XS.iloadN X0.here hx rfl (hb hby d37_1) rfl qk)) ?_
  refine own_icmp_gt X0 hx (hb hby d37_2) (pc' := 9) (by decide) (by decide) (fun c => ?_) (fun c => ?_)
  · show own_G p e below _ (T0.setTop (mkF m 9 #[.val (.int x), .val (.int y)] []))
    refine own_step (b := T0.setTop (mkF m 10 #[.val (.int x), .val (.int y)] [(.int y)])) (fun _ qk => XS.iloadN X0.here hx rfl (hb hby d37_9) rfl qk) ?_
    exact own_retI X0 hx hret hlk (hb hby d37_10) ⟨by rw [own_min, if_pos c], rfl, e0⟩ (by decide) (by decide)
  · show own_G p e below _ (T0.setTop (mkF m 5 #[.val (.int x), .val (.int y)] []))
    refine own_step (b := T0.setTop (mkF m 10 #[.val (.int x), .val (.int y)] [(.int x)])) (fun _ qk => XS.iloadN X0.here hx rfl (hb hby d37_5) rfl (XS.goto X0.here hx rfl (pc0 := 6) (pc' := 10) rfl (hb hby d37_6) (by decide) (by decide) qk)) ?_
    exact own_retI X0 hx hret hlk (hb hby d37_10) ⟨by rw [own_min, if_neg c], rfl, e0⟩ (by decide) (by decide)
theorem ef_nl (m : MethodId) (x y z : Int32) : entryFrame m #[(.int x), (.int y), (.int z)] 4 = mkF m 0 #[.val (.int x), .val (.int y), .val (.int z), .unset] [] := by first | (simp [entryFrame, mkF, argsToLocals, Value.category, maxLocals]; done) | rfl
theorem rmNl (l : Launch) (Z : State) (a0 : Array Value) (hw : ∀ d ∈ tables_1, d.before a0 Z = true) (ws : List Jvm.Cond) (x y z r : Int32) (h0 : Heap) (hm : own_max y z = z) (hr : x + z = r) (h1 : 0 < r) (h2 : ¬ (2147483639 : Int32) < r) :
    own_Met l Z (⟨"jdk/internal/util/ArraysSupport", "newLength", "(III)I"⟩ : MethodName) jdk_48_method_27_code 4 (some .int) ws ⟨1, 0, 0, 14⟩ #[(.int x), (.int y), (.int z)] h0 (own_P (some (.int r)) h0) := by
  refine own_enter (plainFor_of_name pn3) (fun m => ef_nl m x y z) ?_
  intro p e s m below meth c T0 hx hby hml hZ hown hnm hret hlk X0 e0
  refine own_step (b := T0.setTop (mkF m 3 #[.val (.int x), .val (.int y), .val (.int z), .unset] [(.int z), (.int y), (.int x)])) (fun _ qk => XS.iloadN X0.here hx rfl (hb hby d39_0) rfl (XS.iloadN X0.here hx rfl (hb hby d39_1) rfl (XS.iloadN X0.here hx rfl (hb hby d39_2) rfl qk))) ?_
  refine own_staticP (W := 1) (argsL := [(.int y), (.int z)]) (st := [(.int x)]) X0 hx hZ hown (own_w hw 200 rfl) (own_w hw 201 rfl) (own_w hw 187 rfl) (own_w hw 202 rfl) (by decide) e0 (rmMax l Z a0 hw [] y z h0) (by decide) (by decide) (by decide) (by decide) (by rw [hml]; rfl) (lenOf pd2 rfl) rfl (Nat.le_of_ble_eq_true rfl) (hb hby d39_3) (fun T1 X1 e1 => ?_)
  show own_G p e below _ (T1.setTop (mkF m 6 #[.val (.int x), .val (.int y), .val (.int z), .unset] [(.int (own_max y z)), (.int x)]))
  rw [hm]
  refine own_step (b := T1.setTop (mkF m 7 #[.val (.int x), .val (.int y), .val (.int z), .unset] [(.int (x + z))])) (fun _ qk => XS.iadd X1.here hx rfl (hb hby d39_6) rfl qk) ?_
  rw [hr]
  refine own_step (b := T1.setTop (mkF m 10 #[.val (.int x), .val (.int y), .val (.int z), .val (.int r)] [(.int r), (.int (0 : Int32))])) (fun _ qk => XS.istoreN X1.here hx rfl (hb hby d39_7) rfl (l' := #[.val (.int x), .val (.int y), .val (.int z), .val (.int r)]) rfl (XS.iconst X1.here hx rfl (hb hby d39_8) (XS.iloadN X1.here hx rfl (hb hby d39_9) rfl qk))) ?_
  refine own_icmp_ge X1 hx (hb hby d39_10) (pc' := 21) (by decide) (by decide) (fun c10 => absurd h1 c10) (fun c10 => ?_)
  refine own_step (b := T1.setTop (mkF m 14 #[.val (.int x), .val (.int y), .val (.int z), .val (.int r)] [(.int r)])) (fun _ qk => XS.iloadN X1.here hx rfl (hb hby d39_13) rfl qk) ?_
  refine own_step (b := T1.setTop (mkF m 16 #[.val (.int x), .val (.int y), .val (.int z), .val (.int r)] [(.int (2147483639 : Int32)), (.int r)])) (X1.ldcInt hx hown (mvT hZ (own_w hw 203 rfl)) (g := (mkF m 14 #[.val (.int x), .val (.int y), .val (.int z), .val (.int r)] [(.int r)])) rfl (hb hby d39_14)) ?_
  refine own_icmp_gt X1 hx (hb hby d39_16) (pc' := 21) (by decide) (by decide) (fun c16 => absurd c16 h2) (fun c16 => ?_)
  refine own_step (b := T1.setTop (mkF m 20 #[.val (.int x), .val (.int y), .val (.int z), .val (.int r)] [(.int r)])) (fun _ qk => XS.iloadN X1.here hx rfl (hb hby d39_19) rfl qk) ?_
  exact own_retI X1 hx hret hlk (hb hby d39_20) ⟨rfl, rfl, e1⟩ (by decide) (by decide)
theorem ef_ncap (m : MethodId) (b : Addr) (x : Int32) : entryFrame m #[(.ref b), (.int x)] 6 = mkF m 0 #[.val (.ref b), .val (.int x), .unset, .unset, .unset, .unset] [] := by first | (simp [entryFrame, mkF, argsToLocals, Value.category, maxLocals]; done) | rfl
theorem rmNcap0 (l : Launch) (Z : State) (a0 : Array Value) (hw : ∀ d ∈ tables_1, d.before a0 Z = true) (ws : List Jvm.Cond) (b t : Addr) (kt : ClassId) (n mn : Nat) (vs : List Value) (h0 : Heap) (BB : own_SB Z h0 b t kt (0 : Int32) n 16 vs) (hm1 : 16 ≤ mn) (hm2 : mn ≤ 34) :
    own_Met l Z (⟨"java/lang/AbstractStringBuilder", "newCapacity", "(I)I"⟩ : MethodName) jdk_68_method_10_code 6 (some .int) ws ⟨2, 0, 0, 29⟩ #[(.ref b), (.int (Int32.ofNat mn))] h0 (own_P (some (.int (34 : Int32))) h0) := by
  refine own_enter (plainFor_of_name pn2) (fun m => ef_ncap m b (Int32.ofNat mn)) ?_
  intro p e s m below meth c T0 hx hby hml hZ hown hnm hret hlk X0 e0
  refine own_step (b := T0.setTop (mkF m 1 #[.val (.ref b), .val (.int (Int32.ofNat mn)), .unset, .unset, .unset, .unset] [(.ref b)])) (fun _ qk => XS.aloadN X0.here hx rfl (hb hby d38_0) rfl rfl qk) ?_
  refine own_getF X0 hx hZ hown (own_w hw 53 rfl) e0 BB.2.1 (hb hby d38_1) (fun T1 X1 e1 => ?_)
  show own_G p e below _ (T1.setTop (mkF m 4 #[.val (.ref b), .val (.int (Int32.ofNat mn)), .unset, .unset, .unset, .unset] [(.ref t)]))
  refine own_len X1 hx hZ e1 BB.2.2.2.2.2.1 (hb hby d38_4) ?_
  refine own_step (b := T1.setTop (mkF m 8 #[.val (.ref b), .val (.int (Int32.ofNat mn)), .val (.int (16 : Int32)), .unset, .unset, .unset] [(.ref b), (.int (Int32.ofNat mn))])) (fun _ qk => XS.istoreN X1.here hx rfl (hb hby d38_5) rfl (l' := #[.val (.ref b), .val (.int (Int32.ofNat mn)), .val (.int (16 : Int32)), .unset, .unset, .unset]) rfl (XS.iloadN X1.here hx rfl (hb hby d38_6) rfl (XS.aloadN X1.here hx rfl (hb hby d38_7) rfl rfl qk))) ?_
  refine own_getF X1 hx hZ hown (own_w hw 55 rfl) e1 BB.2.2.1 (hb hby d38_8) (fun T2 X2 e2 => ?_)
  refine own_step (b := T2.setTop (mkF m 12 #[.val (.ref b), .val (.int (Int32.ofNat mn)), .val (.int (16 : Int32)), .unset, .unset, .unset] [(.int ((Int32.ofNat mn) <<< ((0 : Int32) &&& 31)))])) (fun _ qk => XT.ishl X2.here hx rfl (hb hby d38_11) rfl qk) ?_
  rw [own_shl0]
  refine own_step (b := T2.setTop (mkF m 16 #[.val (.ref b), .val (.int (Int32.ofNat mn)), .val (.int (16 : Int32)), .val (.int (Int32.ofNat mn)), .unset, .unset] [(.int ((Int32.ofNat mn) - (16 : Int32)))])) (fun _ qk => XS.istoreN X2.here hx rfl (hb hby d38_12) rfl (l' := #[.val (.ref b), .val (.int (Int32.ofNat mn)), .val (.int (16 : Int32)), .val (.int (Int32.ofNat mn)), .unset, .unset]) rfl (XS.iloadN X2.here hx rfl (hb hby d38_13) rfl (XS.iloadN X2.here hx rfl (hb hby d38_14) rfl (XS.isub X2.here hx rfl (hb hby d38_15) rfl qk)))) ?_
  rw [show ((16 : Int32)) = Int32.ofNat 16 from rfl, own_ofNat_sub (by omega) (by omega), ← show ((16 : Int32)) = Int32.ofNat 16 from rfl]
  refine own_step (b := T2.setTop (mkF m 24 #[.val (.ref b), .val (.int (Int32.ofNat mn)), .val (.int (16 : Int32)), .val (.int (Int32.ofNat mn)), .val (.int (Int32.ofNat (mn - 16))), .unset] [(.ref b), (.int (2 : Int32)), (.int (16 : Int32)), (.int (Int32.ofNat (mn - 16))), (.int (16 : Int32))])) (fun _ qk => XS.istore X2.here hx rfl (hb hby d38_16) rfl (l' := #[.val (.ref b), .val (.int (Int32.ofNat mn)), .val (.int (16 : Int32)), .val (.int (Int32.ofNat mn)), .val (.int (Int32.ofNat (mn - 16))), .unset]) rfl (XS.iloadN X2.here hx rfl (hb hby d38_18) rfl (XS.iload X2.here hx rfl (hb hby d38_19) rfl (XS.iloadN X2.here hx rfl (hb hby d38_21) rfl (XS.iconst X2.here hx rfl (hb hby d38_22) (XS.aloadN X2.here hx rfl (hb hby d38_23) rfl rfl qk)))))) ?_
  refine own_getF X2 hx hZ hown (own_w hw 55 rfl) e2 BB.2.2.1 (hb hby d38_24) (fun T3 X3 e3 => ?_)
  refine own_step (b := T3.setTop (mkF m 28 #[.val (.ref b), .val (.int (Int32.ofNat mn)), .val (.int (16 : Int32)), .val (.int (Int32.ofNat mn)), .val (.int (Int32.ofNat (mn - 16))), .unset] [(.int ((2 : Int32) <<< ((0 : Int32) &&& 31))), (.int (16 : Int32)), (.int (Int32.ofNat (mn - 16))), (.int (16 : Int32))])) (fun _ qk => XT.ishl X3.here hx rfl (hb hby d38_27) rfl qk) ?_
  refine own_step (b := T3.setTop (mkF m 29 #[.val (.ref b), .val (.int (Int32.ofNat mn)), .val (.int (16 : Int32)), .val (.int (Int32.ofNat mn)), .val (.int (Int32.ofNat (mn - 16))), .unset] [(.int (18 : Int32)), (.int (Int32.ofNat (mn - 16))), (.int (16 : Int32))])) (fun _ qk => XS.iadd X3.here hx rfl (hb hby d38_28) rfl qk) ?_
  refine own_staticP (W := 0) (argsL := [(.int (16 : Int32)), (.int (Int32.ofNat (mn - 16))), (.int (18 : Int32))]) (st := []) X3 hx hZ hown (own_w hw 196 rfl) (own_w hw 197 rfl) (own_w hw 198 rfl) (own_w hw 199 rfl) (by decide) e3 (rmNl l Z a0 hw [] (16 : Int32) (Int32.ofNat (mn - 16)) (18 : Int32) (34 : Int32) h0 (own_max_r (n := 18) (by omega) (by decide)) (by decide) (by decide) (by decide)) (by decide) (by decide) (by decide) (by decide) (by rw [hml]; rfl) (lenOf pd3 rfl) rfl (Nat.le_of_ble_eq_true rfl) (hb hby d38_29) (fun T4 X4 e4 => ?_)
  refine own_step (b := T4.setTop (mkF m 36 #[.val (.ref b), .val (.int (Int32.ofNat mn)), .val (.int (16 : Int32)), .val (.int (Int32.ofNat mn)), .val (.int (Int32.ofNat (mn - 16))), .val (.int (34 : Int32))] [(.int (34 : Int32))])) (fun _ qk => XS.istore X4.here hx rfl (hb hby d38_32) rfl (l' := #[.val (.ref b), .val (.int (Int32.ofNat mn)), .val (.int (16 : Int32)), .val (.int (Int32.ofNat mn)), .val (.int (Int32.ofNat (mn - 16))), .val (.int (34 : Int32))]) rfl (XS.iload X4.here hx rfl (hb hby d38_34) rfl qk)) ?_
  refine own_step (b := T4.setTop (mkF m 38 #[.val (.ref b), .val (.int (Int32.ofNat mn)), .val (.int (16 : Int32)), .val (.int (Int32.ofNat mn)), .val (.int (Int32.ofNat (mn - 16))), .val (.int (34 : Int32))] [(.int (2147483647 : Int32)), (.int (34 : Int32))])) (X4.ldcInt hx hown (mvT hZ (own_w hw 204 rfl)) (g := (mkF m 36 #[.val (.ref b), .val (.int (Int32.ofNat mn)), .val (.int (16 : Int32)), .val (.int (Int32.ofNat mn)), .val (.int (Int32.ofNat (mn - 16))), .val (.int (34 : Int32))] [(.int (34 : Int32))])) rfl (hb hby d38_36)) ?_
  refine own_icmp_ne X4 hx (hb hby d38_38) (pc' := 51) (by decide) (by decide) (fun c38_5 => ?_) (fun c38_5 => absurd c38_5 (by decide))
  refine own_step (b := T4.setTop (mkF m 54 #[.val (.ref b), .val (.int (Int32.ofNat mn)), .val (.int (16 : Int32)), .val (.int (Int32.ofNat mn)), .val (.int (Int32.ofNat (mn - 16))), .val (.int (34 : Int32))] [(.ref b), (.int (34 : Int32))])) (fun _ qk => XS.iload X4.here hx rfl (hb hby d38_51) rfl (XS.aloadN X4.here hx rfl (hb hby d38_53) rfl rfl qk)) ?_
  refine own_getF X4 hx hZ hown (own_w hw 55 rfl) e4 BB.2.2.1 (hb hby d38_54) (fun T6 X6 e6 => ?_)
  refine own_step (b := T6.setTop (mkF m 58 #[.val (.ref b), .val (.int (Int32.ofNat mn)), .val (.int (16 : Int32)), .val (.int (Int32.ofNat mn)), .val (.int (Int32.ofNat (mn - 16))), .val (.int (34 : Int32))] [(.int ((34 : Int32) >>> ((0 : Int32) &&& 31)))])) (fun _ qk => XT.ishr X6.here hx rfl (hb hby d38_57) rfl qk) ?_
  show own_G p e below _ (T6.setTop (mkF m 58 #[.val (.ref b), .val (.int (Int32.ofNat mn)), .val (.int (16 : Int32)), .val (.int (Int32.ofNat mn)), .val (.int (Int32.ofNat (mn - 16))), .val (.int (34 : Int32))] [(.int (34 : Int32))]))
  exact own_retI X6 hx hret hlk (hb hby d38_58) ⟨rfl, rfl, e6⟩ (by decide) (by decide)
theorem rmNcap1 (l : Launch) (Z : State) (a0 : Array Value) (hw : ∀ d ∈ tables_1, d.before a0 Z = true) (ws : List Jvm.Cond) (b t : Addr) (kt : ClassId) (n mn : Nat) (vs : List Value) (h0 : Heap) (BB : own_SB Z h0 b t kt (1 : Int32) n 32 vs) (hm1 : 16 ≤ mn) (hm2 : mn ≤ 34) :
    own_Met l Z (⟨"java/lang/AbstractStringBuilder", "newCapacity", "(I)I"⟩ : MethodName) jdk_68_method_10_code 6 (some .int) ws ⟨2, 0, 0, 29⟩ #[(.ref b), (.int (Int32.ofNat mn))] h0 (own_P (some (.int (34 : Int32))) h0) := by
  refine own_enter (plainFor_of_name pn2) (fun m => ef_ncap m b (Int32.ofNat mn)) ?_
  intro p e s m below meth c T0 hx hby hml hZ hown hnm hret hlk X0 e0
  refine own_step (b := T0.setTop (mkF m 1 #[.val (.ref b), .val (.int (Int32.ofNat mn)), .unset, .unset, .unset, .unset] [(.ref b)])) (fun _ qk => XS.aloadN X0.here hx rfl (hb hby d38_0) rfl rfl qk) ?_
  refine own_getF X0 hx hZ hown (own_w hw 53 rfl) e0 BB.2.1 (hb hby d38_1) (fun T1 X1 e1 => ?_)
  show own_G p e below _ (T1.setTop (mkF m 4 #[.val (.ref b), .val (.int (Int32.ofNat mn)), .unset, .unset, .unset, .unset] [(.ref t)]))
  refine own_len X1 hx hZ e1 BB.2.2.2.2.2.1 (hb hby d38_4) ?_
  refine own_step (b := T1.setTop (mkF m 8 #[.val (.ref b), .val (.int (Int32.ofNat mn)), .val (.int (32 : Int32)), .unset, .unset, .unset] [(.ref b), (.int (Int32.ofNat mn))])) (fun _ qk => XS.istoreN X1.here hx rfl (hb hby d38_5) rfl (l' := #[.val (.ref b), .val (.int (Int32.ofNat mn)), .val (.int (32 : Int32)), .unset, .unset, .unset]) rfl (XS.iloadN X1.here hx rfl (hb hby d38_6) rfl (XS.aloadN X1.here hx rfl (hb hby d38_7) rfl rfl qk))) ?_
  refine own_getF X1 hx hZ hown (own_w hw 55 rfl) e1 BB.2.2.1 (hb hby d38_8) (fun T2 X2 e2 => ?_)
  refine own_step (b := T2.setTop (mkF m 12 #[.val (.ref b), .val (.int (Int32.ofNat mn)), .val (.int (32 : Int32)), .unset, .unset, .unset] [(.int ((Int32.ofNat mn) <<< ((1 : Int32) &&& 31)))])) (fun _ qk => XT.ishl X2.here hx rfl (hb hby d38_11) rfl qk) ?_
  rw [own_shl1 (by omega)]
  refine own_step (b := T2.setTop (mkF m 16 #[.val (.ref b), .val (.int (Int32.ofNat mn)), .val (.int (32 : Int32)), .val (.int (Int32.ofNat (2 * mn))), .unset, .unset] [(.int ((Int32.ofNat (2 * mn)) - (32 : Int32)))])) (fun _ qk => XS.istoreN X2.here hx rfl (hb hby d38_12) rfl (l' := #[.val (.ref b), .val (.int (Int32.ofNat mn)), .val (.int (32 : Int32)), .val (.int (Int32.ofNat (2 * mn))), .unset, .unset]) rfl (XS.iloadN X2.here hx rfl (hb hby d38_13) rfl (XS.iloadN X2.here hx rfl (hb hby d38_14) rfl (XS.isub X2.here hx rfl (hb hby d38_15) rfl qk)))) ?_
  rw [show ((32 : Int32)) = Int32.ofNat 32 from rfl, own_ofNat_sub (by omega) (by omega), ← show ((32 : Int32)) = Int32.ofNat 32 from rfl]
  refine own_step (b := T2.setTop (mkF m 24 #[.val (.ref b), .val (.int (Int32.ofNat mn)), .val (.int (32 : Int32)), .val (.int (Int32.ofNat (2 * mn))), .val (.int (Int32.ofNat ((2 * mn) - 32))), .unset] [(.ref b), (.int (2 : Int32)), (.int (32 : Int32)), (.int (Int32.ofNat ((2 * mn) - 32))), (.int (32 : Int32))])) (fun _ qk => XS.istore X2.here hx rfl (hb hby d38_16) rfl (l' := #[.val (.ref b), .val (.int (Int32.ofNat mn)), .val (.int (32 : Int32)), .val (.int (Int32.ofNat (2 * mn))), .val (.int (Int32.ofNat ((2 * mn) - 32))), .unset]) rfl (XS.iloadN X2.here hx rfl (hb hby d38_18) rfl (XS.iload X2.here hx rfl (hb hby d38_19) rfl (XS.iloadN X2.here hx rfl (hb hby d38_21) rfl (XS.iconst X2.here hx rfl (hb hby d38_22) (XS.aloadN X2.here hx rfl (hb hby d38_23) rfl rfl qk)))))) ?_
  refine own_getF X2 hx hZ hown (own_w hw 55 rfl) e2 BB.2.2.1 (hb hby d38_24) (fun T3 X3 e3 => ?_)
  refine own_step (b := T3.setTop (mkF m 28 #[.val (.ref b), .val (.int (Int32.ofNat mn)), .val (.int (32 : Int32)), .val (.int (Int32.ofNat (2 * mn))), .val (.int (Int32.ofNat ((2 * mn) - 32))), .unset] [(.int ((2 : Int32) <<< ((1 : Int32) &&& 31))), (.int (32 : Int32)), (.int (Int32.ofNat ((2 * mn) - 32))), (.int (32 : Int32))])) (fun _ qk => XT.ishl X3.here hx rfl (hb hby d38_27) rfl qk) ?_
  refine own_step (b := T3.setTop (mkF m 29 #[.val (.ref b), .val (.int (Int32.ofNat mn)), .val (.int (32 : Int32)), .val (.int (Int32.ofNat (2 * mn))), .val (.int (Int32.ofNat ((2 * mn) - 32))), .unset] [(.int (36 : Int32)), (.int (Int32.ofNat ((2 * mn) - 32))), (.int (32 : Int32))])) (fun _ qk => XS.iadd X3.here hx rfl (hb hby d38_28) rfl qk) ?_
  refine own_staticP (W := 0) (argsL := [(.int (32 : Int32)), (.int (Int32.ofNat ((2 * mn) - 32))), (.int (36 : Int32))]) (st := []) X3 hx hZ hown (own_w hw 196 rfl) (own_w hw 197 rfl) (own_w hw 198 rfl) (own_w hw 199 rfl) (by decide) e3 (rmNl l Z a0 hw [] (32 : Int32) (Int32.ofNat ((2 * mn) - 32)) (36 : Int32) (68 : Int32) h0 (own_max_r (n := 36) (by omega) (by decide)) (by decide) (by decide) (by decide)) (by decide) (by decide) (by decide) (by decide) (by rw [hml]; rfl) (lenOf pd3 rfl) rfl (Nat.le_of_ble_eq_true rfl) (hb hby d38_29) (fun T4 X4 e4 => ?_)
  refine own_step (b := T4.setTop (mkF m 36 #[.val (.ref b), .val (.int (Int32.ofNat mn)), .val (.int (32 : Int32)), .val (.int (Int32.ofNat (2 * mn))), .val (.int (Int32.ofNat ((2 * mn) - 32))), .val (.int (68 : Int32))] [(.int (68 : Int32))])) (fun _ qk => XS.istore X4.here hx rfl (hb hby d38_32) rfl (l' := #[.val (.ref b), .val (.int (Int32.ofNat mn)), .val (.int (32 : Int32)), .val (.int (Int32.ofNat (2 * mn))), .val (.int (Int32.ofNat ((2 * mn) - 32))), .val (.int (68 : Int32))]) rfl (XS.iload X4.here hx rfl (hb hby d38_34) rfl qk)) ?_
  refine own_step (b := T4.setTop (mkF m 38 #[.val (.ref b), .val (.int (Int32.ofNat mn)), .val (.int (32 : Int32)), .val (.int (Int32.ofNat (2 * mn))), .val (.int (Int32.ofNat ((2 * mn) - 32))), .val (.int (68 : Int32))] [(.int (2147483647 : Int32)), (.int (68 : Int32))])) (X4.ldcInt hx hown (mvT hZ (own_w hw 204 rfl)) (g := (mkF m 36 #[.val (.ref b), .val (.int (Int32.ofNat mn)), .val (.int (32 : Int32)), .val (.int (Int32.ofNat (2 * mn))), .val (.int (Int32.ofNat ((2 * mn) - 32))), .val (.int (68 : Int32))] [(.int (68 : Int32))])) rfl (hb hby d38_36)) ?_
  refine own_icmp_ne X4 hx (hb hby d38_38) (pc' := 51) (by decide) (by decide) (fun c38_5 => ?_) (fun c38_5 => absurd c38_5 (by decide))
  refine own_step (b := T4.setTop (mkF m 54 #[.val (.ref b), .val (.int (Int32.ofNat mn)), .val (.int (32 : Int32)), .val (.int (Int32.ofNat (2 * mn))), .val (.int (Int32.ofNat ((2 * mn) - 32))), .val (.int (68 : Int32))] [(.ref b), (.int (68 : Int32))])) (fun _ qk => XS.iload X4.here hx rfl (hb hby d38_51) rfl (XS.aloadN X4.here hx rfl (hb hby d38_53) rfl rfl qk)) ?_
  refine own_getF X4 hx hZ hown (own_w hw 55 rfl) e4 BB.2.2.1 (hb hby d38_54) (fun T6 X6 e6 => ?_)
  refine own_step (b := T6.setTop (mkF m 58 #[.val (.ref b), .val (.int (Int32.ofNat mn)), .val (.int (32 : Int32)), .val (.int (Int32.ofNat (2 * mn))), .val (.int (Int32.ofNat ((2 * mn) - 32))), .val (.int (68 : Int32))] [(.int ((68 : Int32) >>> ((1 : Int32) &&& 31)))])) (fun _ qk => XT.ishr X6.here hx rfl (hb hby d38_57) rfl qk) ?_
  show own_G p e below _ (T6.setTop (mkF m 58 #[.val (.ref b), .val (.int (Int32.ofNat mn)), .val (.int (32 : Int32)), .val (.int (Int32.ofNat (2 * mn))), .val (.int (Int32.ofNat ((2 * mn) - 32))), .val (.int (68 : Int32))] [(.int (34 : Int32))]))
  exact own_retI X6 hx hret hlk (hb hby d38_58) ⟨rfl, rfl, e6⟩ (by decide) (by decide)
theorem ef_cpo (m : MethodId) (t : Addr) (x : Int32) : entryFrame m #[(.ref t), (.int x)] 3 = mkF m 0 #[.val (.ref t), .val (.int x), .unset] [] := by first | (simp [entryFrame, mkF, argsToLocals, Value.category, maxLocals]; done) | rfl
theorem rmCpo (l : Launch) (Z : State) (a0 : Array Value) (hw : ∀ d ∈ tables_1, d.before a0 Z = true) (ws : List Jvm.Cond) (t : Addr) (kt : ClassId) (N M : Nat) (vs : List Value) (h0 : Heap) (V : Arv Z h0 t kt .byte (Int32.ofNat N) vs (.int 0)) (hv : vs.length = N) (h1 : N < M) (hM : M ≤ 72) (n0 : Nat) (hn0 : n0 ≤ h0.size) :
    own_Met l Z (⟨"java/util/Arrays", "copyOf", "([BI)[B"⟩ : MethodName) jdk_65_method_121_code 3 (some (.array .byte)) ws ⟨1, 1, 72, 18⟩ #[(.ref t), (.int (Int32.ofNat M))] h0 (fun v h L => ∃ (r : Addr) (kr : ClassId), v = some (.ref r) ∧ Fr n0 L ∧ Ext h0 h ∧ h0.size ≤ r ∧ @LT.lt Nat instLTNat r h.size ∧ Arv Z h r kr .byte (Int32.ofNat M) (vs ++ own_Z (M - N)) (.int 0)) := by
  refine own_enter (plainFor_of_name pn4) (fun m => ef_cpo m t (Int32.ofNat M)) ?_
  intro p e s m below meth c T0 hx hby hml hZ hown hnm hret hlk X0 e0
  have N0 := Fr.nil n0
  refine own_step (b := T0.setTop (mkF m 2 #[.val (.ref t), .val (.int (Int32.ofNat M)), .unset] [(.ref t), (.int (Int32.ofNat M))])) (fun _ qk => XS.iloadN X0.here hx rfl (hb hby d41_0) rfl (XS.aloadN X0.here hx rfl (hb hby d41_1) rfl rfl qk)) ?_
  refine own_len X0 hx hZ e0 V (hb hby d41_2) ?_
  show own_G p e below _ (T0.setTop (mkF m 3 #[.val (.ref t), .val (.int (Int32.ofNat M)), .unset] [(.int (Int32.ofNat N)), (.int (Int32.ofNat M))]))
  refine own_icmp_ne X0 hx (hb hby d41_3) (pc' := 14) (by decide) (by decide) (fun c3 => ?_) (fun c3 => absurd ((own_ofNat_eq (by omega) (by omega)).mp c3) (by omega))
  refine own_step (b := T0.setTop (mkF m 15 #[.val (.ref t), .val (.int (Int32.ofNat M)), .unset] [(.int (Int32.ofNat M))])) (fun _ qk => XS.iloadN X0.here hx rfl (hb hby d41_14) rfl qk) ?_
  refine own_newP X0 hx hZ (own_w hw 20 rfl) e0 (hb hby d41_15) (n := (Int32.ofNat M)) (own_nn (by omega)) 72 (by rw [own_clamp (by omega)]; omega) (by decide) (by decide) (by decide) (fun T1 h1 a1 k1 X1 e1 g1 l1 E1 V1 => ?_)
  have VB1 : Arv Z h1 a1 k1 .byte (Int32.ofNat M) (List.replicate M (.int 0)) (.int 0) := by have q := V1; rw [own_clamp (by omega)] at q; exact q
  refine own_step (b := T1.setTop (mkF m 23 #[.val (.ref t), .val (.int (Int32.ofNat M)), .val (.ref a1)] [(.ref t), (.int (0 : Int32)), (.ref a1), (.int (0 : Int32)), (.ref t)])) (fun _ qk => XS.astoreN X1.here hx rfl (hb hby d41_17) rfl rfl (l' := #[.val (.ref t), .val (.int (Int32.ofNat M)), .val (.ref a1)]) rfl (XS.aloadN X1.here hx rfl (hb hby d41_18) rfl rfl (XS.iconst X1.here hx rfl (hb hby d41_19) (XS.aloadN X1.here hx rfl (hb hby d41_20) rfl rfl (XS.iconst X1.here hx rfl (hb hby d41_21) (XS.aloadN X1.here hx rfl (hb hby d41_22) rfl rfl qk)))))) ?_
  refine own_len X1 hx hZ e1 (V.ext E1) (hb hby d41_23) ?_
  refine own_step (b := T1.setTop (mkF m 25 #[.val (.ref t), .val (.int (Int32.ofNat M)), .val (.ref a1)] [(.int (Int32.ofNat M)), (.int (Int32.ofNat N)), (.int (0 : Int32)), (.ref a1), (.int (0 : Int32)), (.ref t)])) (fun _ qk => XS.iloadN X1.here hx rfl (hb hby d41_24) rfl qk) ?_
  refine own_staticP (W := 4) (argsL := [(.int (Int32.ofNat N)), (.int (Int32.ofNat M))]) (st := [(.int (0 : Int32)), (.ref a1), (.int (0 : Int32)), (.ref t)]) X1 hx hZ hown (own_w hw 185 rfl) (own_w hw 186 rfl) (own_w hw 187 rfl) (own_w hw 188 rfl) (by decide) e1 (rmMin l Z a0 hw [] (Int32.ofNat N) (Int32.ofNat M) h1) (by decide) (by decide) (by decide) (by decide) (by rw [hml]; rfl) (lenOf pd2 rfl) rfl (Nat.le_of_ble_eq_true rfl) (hb hby d41_25) (fun T2 X2 e2 => ?_)
  show own_G p e below _ (T2.setTop (mkF m 28 #[.val (.ref t), .val (.int (Int32.ofNat M)), .val (.ref a1)] [(.int (own_min (Int32.ofNat N) (Int32.ofNat M))), (.int (0 : Int32)), (.ref a1), (.int (0 : Int32)), (.ref t)]))
  rw [own_min_l (by omega) (by omega)]
  show own_G p e below _ (T2.setTop (mkF m 28 #[.val (.ref t), .val (.int (Int32.ofNat M)), .val (.ref a1)] [(.int (Int32.ofNat N)), (.int (0 : Int32)), (.ref a1), (.int (0 : Int32)), (.ref t)]))
  refine own_cpD (W := 0) (sp := 0) (dp := 0) (nn := N) X2 hx hZ hown (own_w hw 189 rfl) (own_w hw 142 rfl) (own_w hw 140 rfl) (own_w hw 141 rfl) e2 (V.ext E1) VB1 hv (by simp) (by omega) (by omega) (by omega) (by omega) N0 (by omega) (by rw [hml]; rfl) (hb hby d41_28) (by decide) (Nat.le_of_ble_eq_true rfl) (by decide) (fun T3 h3 L3 X3 e3 N3 K3 z3 V3 => ?_)
  refine own_step (b := T3.setTop (mkF m 32 #[.val (.ref t), .val (.int (Int32.ofNat M)), .val (.ref a1)] [(.ref a1)])) (fun _ qk => XS.aloadN X3.here hx rfl (hb hby d41_31) rfl rfl qk) ?_
  subst e3
  exact own_retR X3 hx hret rfl rfl rfl hlk (hb hby d41_32) ⟨_, _, rfl, N3, own_ext (((Keep.refl h0 []).ext E1).trans K3 (allS (Or.inr (by omega)) all0)), by omega, by omega, by have q := V3; rw [List.take_zero, List.drop_zero, List.nil_append, List.take_of_length_le (by omega), Nat.zero_add, List.drop_replicate] at q; exact q⟩ (by decide) (by decide)
theorem sb01 {Z : State} {a0 : Array Value} (hw : ∀ d ∈ tables_1, d.before a0 Z = true) : Jvm.RoadKit.slotOf Z "java/lang/AbstractStringBuilder" "value" "[B" ≠ Jvm.RoadKit.slotOf Z "java/lang/AbstractStringBuilder" "coder" "B" := slot_ne (Or.inl (own_w hw 54 rfl)) (Or.inl (own_w hw 56 rfl)) (by decide) (t := (.array .byte)) (t' := .byte) (by decide) (by decide)
theorem sb02 {Z : State} {a0 : Array Value} (hw : ∀ d ∈ tables_1, d.before a0 Z = true) : Jvm.RoadKit.slotOf Z "java/lang/AbstractStringBuilder" "value" "[B" ≠ Jvm.RoadKit.slotOf Z "java/lang/AbstractStringBuilder" "count" "I" := slot_ne (Or.inl (own_w hw 54 rfl)) (Or.inl (own_w hw 117 rfl)) (by decide) (t := (.array .byte)) (t' := .int) (by decide) (by decide)
theorem sb03 {Z : State} {a0 : Array Value} (hw : ∀ d ∈ tables_1, d.before a0 Z = true) : Jvm.RoadKit.slotOf Z "java/lang/AbstractStringBuilder" "value" "[B" ≠ Jvm.RoadKit.slotOf Z "java/lang/AbstractStringBuilder" "maybeLatin1" "Z" := slot_ne (Or.inl (own_w hw 54 rfl)) (Or.inl (own_w hw 270 rfl)) (by decide) (t := (.array .byte)) (t' := .boolean) (by decide) (by decide)
theorem sb10 {Z : State} {a0 : Array Value} (hw : ∀ d ∈ tables_1, d.before a0 Z = true) : Jvm.RoadKit.slotOf Z "java/lang/AbstractStringBuilder" "coder" "B" ≠ Jvm.RoadKit.slotOf Z "java/lang/AbstractStringBuilder" "value" "[B" := slot_ne (Or.inl (own_w hw 56 rfl)) (Or.inl (own_w hw 54 rfl)) (by decide) (t := .byte) (t' := (.array .byte)) (by decide) (by decide)
theorem sb12 {Z : State} {a0 : Array Value} (hw : ∀ d ∈ tables_1, d.before a0 Z = true) : Jvm.RoadKit.slotOf Z "java/lang/AbstractStringBuilder" "coder" "B" ≠ Jvm.RoadKit.slotOf Z "java/lang/AbstractStringBuilder" "count" "I" := slot_ne (Or.inl (own_w hw 56 rfl)) (Or.inl (own_w hw 117 rfl)) (by decide) (t := .byte) (t' := .int) (by decide) (by decide)
theorem sb13 {Z : State} {a0 : Array Value} (hw : ∀ d ∈ tables_1, d.before a0 Z = true) : Jvm.RoadKit.slotOf Z "java/lang/AbstractStringBuilder" "coder" "B" ≠ Jvm.RoadKit.slotOf Z "java/lang/AbstractStringBuilder" "maybeLatin1" "Z" := slot_ne (Or.inl (own_w hw 56 rfl)) (Or.inl (own_w hw 270 rfl)) (by decide) (t := .byte) (t' := .boolean) (by decide) (by decide)
theorem sb20 {Z : State} {a0 : Array Value} (hw : ∀ d ∈ tables_1, d.before a0 Z = true) : Jvm.RoadKit.slotOf Z "java/lang/AbstractStringBuilder" "count" "I" ≠ Jvm.RoadKit.slotOf Z "java/lang/AbstractStringBuilder" "value" "[B" := slot_ne (Or.inl (own_w hw 117 rfl)) (Or.inl (own_w hw 54 rfl)) (by decide) (t := .int) (t' := (.array .byte)) (by decide) (by decide)
theorem sb21 {Z : State} {a0 : Array Value} (hw : ∀ d ∈ tables_1, d.before a0 Z = true) : Jvm.RoadKit.slotOf Z "java/lang/AbstractStringBuilder" "count" "I" ≠ Jvm.RoadKit.slotOf Z "java/lang/AbstractStringBuilder" "coder" "B" := slot_ne (Or.inl (own_w hw 117 rfl)) (Or.inl (own_w hw 56 rfl)) (by decide) (t := .int) (t' := .byte) (by decide) (by decide)
theorem sb23 {Z : State} {a0 : Array Value} (hw : ∀ d ∈ tables_1, d.before a0 Z = true) : Jvm.RoadKit.slotOf Z "java/lang/AbstractStringBuilder" "count" "I" ≠ Jvm.RoadKit.slotOf Z "java/lang/AbstractStringBuilder" "maybeLatin1" "Z" := slot_ne (Or.inl (own_w hw 117 rfl)) (Or.inl (own_w hw 270 rfl)) (by decide) (t := .int) (t' := .boolean) (by decide) (by decide)
theorem sb30 {Z : State} {a0 : Array Value} (hw : ∀ d ∈ tables_1, d.before a0 Z = true) : Jvm.RoadKit.slotOf Z "java/lang/AbstractStringBuilder" "maybeLatin1" "Z" ≠ Jvm.RoadKit.slotOf Z "java/lang/AbstractStringBuilder" "value" "[B" := slot_ne (Or.inl (own_w hw 270 rfl)) (Or.inl (own_w hw 54 rfl)) (by decide) (t := .boolean) (t' := (.array .byte)) (by decide) (by decide)
theorem sb31 {Z : State} {a0 : Array Value} (hw : ∀ d ∈ tables_1, d.before a0 Z = true) : Jvm.RoadKit.slotOf Z "java/lang/AbstractStringBuilder" "maybeLatin1" "Z" ≠ Jvm.RoadKit.slotOf Z "java/lang/AbstractStringBuilder" "coder" "B" := slot_ne (Or.inl (own_w hw 270 rfl)) (Or.inl (own_w hw 56 rfl)) (by decide) (t := .boolean) (t' := .byte) (by decide) (by decide)
theorem sb32 {Z : State} {a0 : Array Value} (hw : ∀ d ∈ tables_1, d.before a0 Z = true) : Jvm.RoadKit.slotOf Z "java/lang/AbstractStringBuilder" "maybeLatin1" "Z" ≠ Jvm.RoadKit.slotOf Z "java/lang/AbstractStringBuilder" "count" "I" := slot_ne (Or.inl (own_w hw 270 rfl)) (Or.inl (own_w hw 117 rfl)) (by decide) (t := .boolean) (t' := .int) (by decide) (by decide)
theorem rmEnsGL (l : Launch) (Z : State) (a0 : Array Value) (hw : ∀ d ∈ tables_1, d.before a0 Z = true) (ws : List Jvm.Cond) (b t : Addr) (kt : ClassId) (cs : List Int32) (mn : Nat) (h0 : Heap) (BB : own_SBL Z h0 b t kt 16 cs) (hcs : cs.length ≤ 16) (h1 : 16 < mn) (h2 : mn ≤ 34) (n0 : Nat) (hn0 : n0 ≤ h0.size) (gb : n0 ≤ b) :
    own_Met l Z (⟨"java/lang/AbstractStringBuilder", "ensureCapacityInternal", "(I)V"⟩ : MethodName) jdk_68_method_9_code 3 none ws ⟨3, 1, 72, 48⟩ #[(.ref b), (.int (Int32.ofNat mn))] h0 (fun v h L => ∃ (r : Addr) (kr : ClassId), v = none ∧ Fr n0 L ∧ Keep h0 h [b] ∧ h0.size ≤ r ∧ own_SBL Z h b r kr 34 cs) := by
  refine own_enter (plainFor_of_name pn2) (fun m => ef_ens m b (Int32.ofNat mn)) ?_
  intro p e s m below meth c T0 hx hby hml hZ hown hnm hret hlk X0 e0
  have lb : @LT.lt Nat instLTNat b h0.size := BB.1.lt
  have N0 := Fr.nil n0
  refine own_step (b := T0.setTop (mkF m 1 #[.val (.ref b), .val (.int (Int32.ofNat mn)), .unset] [(.ref b)])) (fun _ qk => XS.aloadN X0.here hx rfl (hb hby d23_0) rfl rfl qk) ?_
  refine own_getF X0 hx hZ hown (own_w hw 53 rfl) e0 BB.2.1 (hb hby d23_1) (fun T1 X1 e1 => ?_)
  show own_G p e below _ (T1.setTop (mkF m 4 #[.val (.ref b), .val (.int (Int32.ofNat mn)), .unset] [(.ref t)]))
  refine own_len X1 hx hZ e1 BB.2.2.2.2.2.1 (hb hby d23_4) ?_
  refine own_step (b := T1.setTop (mkF m 6 #[.val (.ref b), .val (.int (Int32.ofNat mn)), .unset] [(.ref b), (.int (16 : Int32))])) (fun _ qk => XS.aloadN X1.here hx rfl (hb hby d23_5) rfl rfl qk) ?_
  refine own_getF X1 hx hZ hown (own_w hw 55 rfl) e1 BB.2.2.1 (hb hby d23_6) (fun T2 X2 e2 => ?_)
  refine own_step (b := T2.setTop (mkF m 10 #[.val (.ref b), .val (.int (Int32.ofNat mn)), .unset] [(.int ((16 : Int32) >>> ((0 : Int32) &&& 31)))])) (fun _ qk => XT.ishr X2.here hx rfl (hb hby d23_9) rfl qk) ?_
  refine own_step (b := T2.setTop (mkF m 14 #[.val (.ref b), .val (.int (Int32.ofNat mn)), .val (.int (16 : Int32))] [(.int ((Int32.ofNat mn) - (16 : Int32)))])) (fun _ qk => XS.istoreN X2.here hx rfl (hb hby d23_10) rfl (l' := #[.val (.ref b), .val (.int (Int32.ofNat mn)), .val (.int (16 : Int32))]) rfl (XS.iloadN X2.here hx rfl (hb hby d23_11) rfl (XS.iloadN X2.here hx rfl (hb hby d23_12) rfl (XS.isub X2.here hx rfl (hb hby d23_13) rfl qk)))) ?_
  refine own_if_le X2 hx (hb hby d23_14) (pc' := 38) (by decide) (by decide) (fun c14 => absurd (own_subGt (n := 16) h1 (by omega)) c14) (fun c14 => ?_)
  refine own_step (b := T2.setTop (mkF m 19 #[.val (.ref b), .val (.int (Int32.ofNat mn)), .val (.int (16 : Int32))] [(.ref b), (.ref b)])) (fun _ qk => XS.aloadN X2.here hx rfl (hb hby d23_17) rfl rfl (XS.aloadN X2.here hx rfl (hb hby d23_18) rfl rfl qk)) ?_
  refine own_getF X2 hx hZ hown (own_w hw 53 rfl) e2 BB.2.1 (hb hby d23_19) (fun T3 X3 e3 => ?_)
  refine own_step (b := T3.setTop (mkF m 24 #[.val (.ref b), .val (.int (Int32.ofNat mn)), .val (.int (16 : Int32))] [(.int (Int32.ofNat mn)), (.ref b), (.ref t), (.ref b)])) (fun _ qk => XS.aloadN X3.here hx rfl (hb hby d23_22) rfl rfl (XS.iloadN X3.here hx rfl (hb hby d23_23) rfl qk)) ?_
  refine own_virtualP (a := b) (W := 2) (argsL := [(.int (Int32.ofNat mn))]) (st := [(.ref t), (.ref b)]) X3 hx hZ hown (own_w hw 191 rfl) (own_decl (own_w hw 192 rfl) (own_w hw 195 rfl)) (own_w hw 194 rfl) trivial (own_w hw 192 rfl) (by decide) e3 BB.1 (rmNcap0 l Z a0 hw [] b t kt cs.length mn _ h0 BB (by omega) h2) (own_w hw 195 rfl) (own_w hw 49 rfl) (by decide) (by decide) (by decide) (by decide) (by rw [hml]; rfl) (lenOf pd0 rfl) rfl (Nat.le_of_ble_eq_true rfl) (hb hby d23_24) (fun T4 X4 e4 => ?_)
  refine own_step (b := T4.setTop (mkF m 28 #[.val (.ref b), .val (.int (Int32.ofNat mn)), .val (.int (16 : Int32))] [(.ref b), (.int (34 : Int32)), (.ref t), (.ref b)])) (fun _ qk => XS.aloadN X4.here hx rfl (hb hby d23_27) rfl rfl qk) ?_
  refine own_getF X4 hx hZ hown (own_w hw 55 rfl) e4 BB.2.2.1 (hb hby d23_28) (fun T5 X5 e5 => ?_)
  refine own_step (b := T5.setTop (mkF m 32 #[.val (.ref b), .val (.int (Int32.ofNat mn)), .val (.int (16 : Int32))] [(.int ((34 : Int32) <<< ((0 : Int32) &&& 31))), (.ref t), (.ref b)])) (fun _ qk => XT.ishl X5.here hx rfl (hb hby d23_31) rfl qk) ?_
  show own_G p e below _ (T5.setTop (mkF m 32 #[.val (.ref b), .val (.int (Int32.ofNat mn)), .val (.int (16 : Int32))] [(.int (Int32.ofNat 34)), (.ref t), (.ref b)]))
  refine own_static (W := 1) (argsL := [(.ref t), (.int (Int32.ofNat 34))]) (st := [(.ref b)]) X5 hx hZ hown (own_w hw 205 rfl) (own_w hw 206 rfl) (own_w hw 177 rfl) (own_w hw 207 rfl) (by decide) e5 (own_back (W := 1) (rmCpo l Z a0 hw [] t kt 16 34 _ h0 BB.2.2.2.2.2.1 BB.2.2.2.2.2.2 (by decide) (by decide) n0 hn0) hZ (own_w hw 207 rfl) (own_w hw 177 rfl) (by decide) (by decide)) (by decide) (by decide) (by rw [hml]; rfl) (lenOf pd4 rfl) rfl (Nat.le_of_ble_eq_true rfl) (hb hby d23_32) (fun v6 T6 L6 X6 hQ6 => ?_)
  obtain ⟨r6, kr6, rfl, M6, E6, g6, l6, V6⟩ := hQ6
  have N6 := Fr.app N0 M6
  show own_G p e below _ (T6.setTop (mkF m 35 #[.val (.ref b), .val (.int (Int32.ofNat mn)), .val (.int (16 : Int32))] [(.ref r6), (.ref b)]))
  refine own_putF X6 hx hZ hown (own_w hw 53 rfl) rfl (BB.2.1.ext E6) (BB.1.ext E6) (Or.inl (own_w hw 54 rfl)) (own_w hw 40 rfl) (ty := (.array .byte)) (by decide) rfl rfl N6 gb (hb hby d23_35) (fun T7 h7 X7 e7 N7 W7 z7 F7 E7 => ?_)
  show own_G p e below _ (T7.setTop (mkF m 38 #[.val (.ref b), .val (.int (Int32.ofNat mn)), .val (.int (16 : Int32))] []))
  subst e7
  exact own_retV X7 hx hret hlk (hb hby d23_38) ⟨r6, kr6, rfl, N7, (((Keep.refl h0 [b]).ext E6).wr W7 (Or.inl (List.mem_singleton.mpr rfl))), by omega, by have q : own_SB Z _ b r6 kr6 (0 : Int32) cs.length 34 _ := ⟨E7, F7, (BB.2.2.1.ext E6).other W7 (Or.inr (sb10 hw)), (BB.2.2.2.1.ext E6).other W7 (Or.inr (sb20 hw)), (BB.2.2.2.2.1.ext E6).other W7 (Or.inr (sb30 hw)), V6.other W7 (own_ne (Or.inr (by omega))), (by rw [List.length_append, BB.2.2.2.2.2.2, List.length_replicate])⟩; rw [own_gL (N := 16) (M := 34) hcs (by decide)] at q; exact q⟩ (by decide) (by decide)
theorem rmEnsGW (l : Launch) (Z : State) (a0 : Array Value) (hw : ∀ d ∈ tables_1, d.before a0 Z = true) (ws : List Jvm.Cond) (b t : Addr) (kt : ClassId) (cs : List Int32) (mn : Nat) (h0 : Heap) (BB : own_SBW Z h0 b t kt 16 cs) (hcs : cs.length ≤ 16) (h1 : 16 < mn) (h2 : mn ≤ 34) (n0 : Nat) (hn0 : n0 ≤ h0.size) (gb : n0 ≤ b) :
    own_Met l Z (⟨"java/lang/AbstractStringBuilder", "ensureCapacityInternal", "(I)V"⟩ : MethodName) jdk_68_method_9_code 3 none ws ⟨3, 1, 72, 48⟩ #[(.ref b), (.int (Int32.ofNat mn))] h0 (fun v h L => ∃ (r : Addr) (kr : ClassId), v = none ∧ Fr n0 L ∧ Keep h0 h [b] ∧ h0.size ≤ r ∧ own_SBW Z h b r kr 34 cs) := by
  refine own_enter (plainFor_of_name pn2) (fun m => ef_ens m b (Int32.ofNat mn)) ?_
  intro p e s m below meth c T0 hx hby hml hZ hown hnm hret hlk X0 e0
  have lb : @LT.lt Nat instLTNat b h0.size := BB.1.lt
  have N0 := Fr.nil n0
  refine own_step (b := T0.setTop (mkF m 1 #[.val (.ref b), .val (.int (Int32.ofNat mn)), .unset] [(.ref b)])) (fun _ qk => XS.aloadN X0.here hx rfl (hb hby d23_0) rfl rfl qk) ?_
  refine own_getF X0 hx hZ hown (own_w hw 53 rfl) e0 BB.2.1 (hb hby d23_1) (fun T1 X1 e1 => ?_)
  show own_G p e below _ (T1.setTop (mkF m 4 #[.val (.ref b), .val (.int (Int32.ofNat mn)), .unset] [(.ref t)]))
  refine own_len X1 hx hZ e1 BB.2.2.2.2.2.1 (hb hby d23_4) ?_
  refine own_step (b := T1.setTop (mkF m 6 #[.val (.ref b), .val (.int (Int32.ofNat mn)), .unset] [(.ref b), (.int (32 : Int32))])) (fun _ qk => XS.aloadN X1.here hx rfl (hb hby d23_5) rfl rfl qk) ?_
  refine own_getF X1 hx hZ hown (own_w hw 55 rfl) e1 BB.2.2.1 (hb hby d23_6) (fun T2 X2 e2 => ?_)
  refine own_step (b := T2.setTop (mkF m 10 #[.val (.ref b), .val (.int (Int32.ofNat mn)), .unset] [(.int ((32 : Int32) >>> ((1 : Int32) &&& 31)))])) (fun _ qk => XT.ishr X2.here hx rfl (hb hby d23_9) rfl qk) ?_
  refine own_step (b := T2.setTop (mkF m 14 #[.val (.ref b), .val (.int (Int32.ofNat mn)), .val (.int (16 : Int32))] [(.int ((Int32.ofNat mn) - (16 : Int32)))])) (fun _ qk => XS.istoreN X2.here hx rfl (hb hby d23_10) rfl (l' := #[.val (.ref b), .val (.int (Int32.ofNat mn)), .val (.int (16 : Int32))]) rfl (XS.iloadN X2.here hx rfl (hb hby d23_11) rfl (XS.iloadN X2.here hx rfl (hb hby d23_12) rfl (XS.isub X2.here hx rfl (hb hby d23_13) rfl qk)))) ?_
  refine own_if_le X2 hx (hb hby d23_14) (pc' := 38) (by decide) (by decide) (fun c14 => absurd (own_subGt (n := 16) h1 (by omega)) c14) (fun c14 => ?_)
  refine own_step (b := T2.setTop (mkF m 19 #[.val (.ref b), .val (.int (Int32.ofNat mn)), .val (.int (16 : Int32))] [(.ref b), (.ref b)])) (fun _ qk => XS.aloadN X2.here hx rfl (hb hby d23_17) rfl rfl (XS.aloadN X2.here hx rfl (hb hby d23_18) rfl rfl qk)) ?_
  refine own_getF X2 hx hZ hown (own_w hw 53 rfl) e2 BB.2.1 (hb hby d23_19) (fun T3 X3 e3 => ?_)
  refine own_step (b := T3.setTop (mkF m 24 #[.val (.ref b), .val (.int (Int32.ofNat mn)), .val (.int (16 : Int32))] [(.int (Int32.ofNat mn)), (.ref b), (.ref t), (.ref b)])) (fun _ qk => XS.aloadN X3.here hx rfl (hb hby d23_22) rfl rfl (XS.iloadN X3.here hx rfl (hb hby d23_23) rfl qk)) ?_
  refine own_virtualP (a := b) (W := 2) (argsL := [(.int (Int32.ofNat mn))]) (st := [(.ref t), (.ref b)]) X3 hx hZ hown (own_w hw 191 rfl) (own_decl (own_w hw 192 rfl) (own_w hw 195 rfl)) (own_w hw 194 rfl) trivial (own_w hw 192 rfl) (by decide) e3 BB.1 (rmNcap1 l Z a0 hw [] b t kt cs.length mn _ h0 BB (by omega) h2) (own_w hw 195 rfl) (own_w hw 49 rfl) (by decide) (by decide) (by decide) (by decide) (by rw [hml]; rfl) (lenOf pd0 rfl) rfl (Nat.le_of_ble_eq_true rfl) (hb hby d23_24) (fun T4 X4 e4 => ?_)
  refine own_step (b := T4.setTop (mkF m 28 #[.val (.ref b), .val (.int (Int32.ofNat mn)), .val (.int (16 : Int32))] [(.ref b), (.int (34 : Int32)), (.ref t), (.ref b)])) (fun _ qk => XS.aloadN X4.here hx rfl (hb hby d23_27) rfl rfl qk) ?_
  refine own_getF X4 hx hZ hown (own_w hw 55 rfl) e4 BB.2.2.1 (hb hby d23_28) (fun T5 X5 e5 => ?_)
  refine own_step (b := T5.setTop (mkF m 32 #[.val (.ref b), .val (.int (Int32.ofNat mn)), .val (.int (16 : Int32))] [(.int ((34 : Int32) <<< ((1 : Int32) &&& 31))), (.ref t), (.ref b)])) (fun _ qk => XT.ishl X5.here hx rfl (hb hby d23_31) rfl qk) ?_
  show own_G p e below _ (T5.setTop (mkF m 32 #[.val (.ref b), .val (.int (Int32.ofNat mn)), .val (.int (16 : Int32))] [(.int (Int32.ofNat 68)), (.ref t), (.ref b)]))
  refine own_static (W := 1) (argsL := [(.ref t), (.int (Int32.ofNat 68))]) (st := [(.ref b)]) X5 hx hZ hown (own_w hw 205 rfl) (own_w hw 206 rfl) (own_w hw 177 rfl) (own_w hw 207 rfl) (by decide) e5 (own_back (W := 1) (rmCpo l Z a0 hw [] t kt 32 68 _ h0 BB.2.2.2.2.2.1 BB.2.2.2.2.2.2 (by decide) (by decide) n0 hn0) hZ (own_w hw 207 rfl) (own_w hw 177 rfl) (by decide) (by decide)) (by decide) (by decide) (by rw [hml]; rfl) (lenOf pd4 rfl) rfl (Nat.le_of_ble_eq_true rfl) (hb hby d23_32) (fun v6 T6 L6 X6 hQ6 => ?_)
  obtain ⟨r6, kr6, rfl, M6, E6, g6, l6, V6⟩ := hQ6
  have N6 := Fr.app N0 M6
  show own_G p e below _ (T6.setTop (mkF m 35 #[.val (.ref b), .val (.int (Int32.ofNat mn)), .val (.int (16 : Int32))] [(.ref r6), (.ref b)]))
  refine own_putF X6 hx hZ hown (own_w hw 53 rfl) rfl (BB.2.1.ext E6) (BB.1.ext E6) (Or.inl (own_w hw 54 rfl)) (own_w hw 40 rfl) (ty := (.array .byte)) (by decide) rfl rfl N6 gb (hb hby d23_35) (fun T7 h7 X7 e7 N7 W7 z7 F7 E7 => ?_)
  show own_G p e below _ (T7.setTop (mkF m 38 #[.val (.ref b), .val (.int (Int32.ofNat mn)), .val (.int (16 : Int32))] []))
  subst e7
  exact own_retV X7 hx hret hlk (hb hby d23_38) ⟨r6, kr6, rfl, N7, (((Keep.refl h0 [b]).ext E6).wr W7 (Or.inl (List.mem_singleton.mpr rfl))), by omega, by have q : own_SB Z _ b r6 kr6 (1 : Int32) cs.length 68 _ := ⟨E7, F7, (BB.2.2.1.ext E6).other W7 (Or.inr (sb10 hw)), (BB.2.2.2.1.ext E6).other W7 (Or.inr (sb20 hw)), (BB.2.2.2.2.1.ext E6).other W7 (Or.inr (sb30 hw)), V6.other W7 (own_ne (Or.inr (by omega))), (by rw [List.length_append, BB.2.2.2.2.2.2, List.length_replicate])⟩; rw [own_gW (N := 16) (M := 34) hcs (by decide)] at q; exact q⟩ (by decide) (by decide)
theorem ef_bisl (m : MethodId) (b : Addr) : entryFrame m #[(.ref b)] 1 = mkF m 0 #[.val (.ref b)] [] := by first | (simp [entryFrame, mkF, argsToLocals, Value.category, maxLocals]; done) | rfl
theorem rmBislL (l : Launch) (Z : State) (a0 : Array Value) (hw : ∀ d ∈ tables_1, d.before a0 Z = true) (ws : List Jvm.Cond) (b t : Addr) (kt : ClassId) (n N : Nat) (vs : List Value) (h0 : Heap) (BB : own_SB Z h0 b t kt (0 : Int32) n N vs) (OL0 : Old Z Z.heap.size h0) (G1 : Int32) (O2 : Sta Z Z.heap "java/lang/String" "COMPACT_STRINGS" "Z" (.int G1)) (P5 : ¬ (G1 = (0 : Int32))) (G3 : Value) (O4 : Sta Z Z.heap "jdk/internal/util/Preconditions" "SIOOBE_FORMATTER" "Ljava/util/function/BiFunction;" G3) (rG3 : G3.isRef = true) (SA1 : Sta Z Z.heap "java/lang/StringUTF16" "$assertionsDisabled" "Z" (.int 1)) (SA2 : Sta Z Z.heap "java/lang/StringUTF16" "HI_BYTE_SHIFT" "I" (.int 0)) (SA3 : Sta Z Z.heap "java/lang/StringUTF16" "LO_BYTE_SHIFT" "I" (.int 8)) :
    own_Met l Z (⟨"java/lang/AbstractStringBuilder", "isLatin1", "()Z"⟩ : MethodName) jdk_68_method_68_code 1 (some .boolean) ws ⟨0, 0, 0, 0⟩ #[(.ref b)] h0 (own_P (some (.int (1 : Int32))) h0) := by
  refine own_enter (plainFor_of_name pn2) (fun m => ef_bisl m b) ?_
  intro p e s m below meth c T0 hx hby hml hZ hown hnm hret hlk X0 e0
  show own_G p e below _ (T0.setTop (mkF m 0 #[.val (.ref b)] []))
  refine own_getS X0 hx hZ hown (own_w hw 52 rfl) e0 (O2.ext OL0.2) (hb hby d33_0) (fun T1 X1 e1 => ?_)
  show own_G p e below _ (T1.setTop (mkF m 3 #[.val (.ref b)] [(.int G1)]))
  refine own_if_eq X1 hx (hb hby d33_3) (pc' := 17) (by decide) (by decide) (fun c3 => absurd c3 P5) (fun c3 => ?_)
  refine own_step (b := T1.setTop (mkF m 7 #[.val (.ref b)] [(.ref b)])) (fun _ qk => XS.aloadN X1.here hx rfl (hb hby d33_6) rfl rfl qk) ?_
  refine own_getF X1 hx hZ hown (own_w hw 55 rfl) e1 BB.2.2.1 (hb hby d33_7) (fun T2 X2 e2 => ?_)
  show own_G p e below _ (T2.setTop (mkF m 10 #[.val (.ref b)] [(.int (0 : Int32))]))
  refine own_if_ne X2 hx (hb hby d33_10) (pc' := 17) (by decide) (by decide) (fun c10_3 => absurd c10_3 (by decide)) (fun c10_3 => ?_)
  refine own_step (b := T2.setTop (mkF m 18 #[.val (.ref b)] [(.int (1 : Int32))])) (fun _ qk => XS.iconst X2.here hx rfl (hb hby d33_13) (XS.goto X2.here hx rfl (pc0 := 14) (pc' := 18) rfl (hb hby d33_14) (by decide) (by decide) qk)) ?_
  exact own_retN X2 hx hret (by simp) hlk (hb hby d33_18) ⟨rfl, rfl, e2⟩ (by decide) (by decide)
theorem rmBislW (l : Launch) (Z : State) (a0 : Array Value) (hw : ∀ d ∈ tables_1, d.before a0 Z = true) (ws : List Jvm.Cond) (b t : Addr) (kt : ClassId) (n N : Nat) (vs : List Value) (h0 : Heap) (BB : own_SB Z h0 b t kt (1 : Int32) n N vs) (OL0 : Old Z Z.heap.size h0) (G1 : Int32) (O2 : Sta Z Z.heap "java/lang/String" "COMPACT_STRINGS" "Z" (.int G1)) (P5 : ¬ (G1 = (0 : Int32))) (G3 : Value) (O4 : Sta Z Z.heap "jdk/internal/util/Preconditions" "SIOOBE_FORMATTER" "Ljava/util/function/BiFunction;" G3) (rG3 : G3.isRef = true) (SA1 : Sta Z Z.heap "java/lang/StringUTF16" "$assertionsDisabled" "Z" (.int 1)) (SA2 : Sta Z Z.heap "java/lang/StringUTF16" "HI_BYTE_SHIFT" "I" (.int 0)) (SA3 : Sta Z Z.heap "java/lang/StringUTF16" "LO_BYTE_SHIFT" "I" (.int 8)) :
    own_Met l Z (⟨"java/lang/AbstractStringBuilder", "isLatin1", "()Z"⟩ : MethodName) jdk_68_method_68_code 1 (some .boolean) ws ⟨0, 0, 0, 0⟩ #[(.ref b)] h0 (own_P (some (.int (0 : Int32))) h0) := by
  refine own_enter (plainFor_of_name pn2) (fun m => ef_bisl m b) ?_
  intro p e s m below meth c T0 hx hby hml hZ hown hnm hret hlk X0 e0
  show own_G p e below _ (T0.setTop (mkF m 0 #[.val (.ref b)] []))
  refine own_getS X0 hx hZ hown (own_w hw 52 rfl) e0 (O2.ext OL0.2) (hb hby d33_0) (fun T1 X1 e1 => ?_)
  show own_G p e below _ (T1.setTop (mkF m 3 #[.val (.ref b)] [(.int G1)]))
  refine own_if_eq X1 hx (hb hby d33_3) (pc' := 17) (by decide) (by decide) (fun c3 => absurd c3 P5) (fun c3 => ?_)
  refine own_step (b := T1.setTop (mkF m 7 #[.val (.ref b)] [(.ref b)])) (fun _ qk => XS.aloadN X1.here hx rfl (hb hby d33_6) rfl rfl qk) ?_
  refine own_getF X1 hx hZ hown (own_w hw 55 rfl) e1 BB.2.2.1 (hb hby d33_7) (fun T2 X2 e2 => ?_)
  show own_G p e below _ (T2.setTop (mkF m 10 #[.val (.ref b)] [(.int (1 : Int32))]))
  refine own_if_ne X2 hx (hb hby d33_10) (pc' := 17) (by decide) (by decide) (fun c10_3 => ?_) (fun c10_3 => absurd c10_3 (by decide))
  refine own_step (b := T2.setTop (mkF m 18 #[.val (.ref b)] [(.int (0 : Int32))])) (fun _ qk => XS.iconst X2.here hx rfl (hb hby d33_17) qk) ?_
  exact own_retN X2 hx hret (by simp) hlk (hb hby d33_18) ⟨rfl, rfl, e2⟩ (by decide) (by decide)
theorem ef_cfi (m : MethodId) (x y z : Int32) (v : Value) (rv : v.isRef = true) : entryFrame m #[(.int x), (.int y), (.int z), v] 4 = mkF m 0 #[.val (.int x), .val (.int y), .val (.int z), .val v] [] := by
  rcases ref_cases rv with rfl | ⟨_, rfl⟩ <;> first | rfl | (simp [entryFrame, mkF, argsToLocals, Value.category]; done)
theorem rmCfi (l : Launch) (Z : State) (a0 : Array Value) (hw : ∀ d ∈ tables_1, d.before a0 Z = true) (ws : List Jvm.Cond) (i n q : Nat) (v : Value) (rv : v.isRef = true) (h0 : Heap) (h1 : i + n ≤ q) (h2 : q ≤ 1000) :
    own_Met l Z (⟨"jdk/internal/util/Preconditions", "checkFromIndexSize", "(IIILjava/util/function/BiFunction;)I"⟩ : MethodName) jdk_41_method_13_code 4 (some .int) ws ⟨0, 0, 0, 0⟩ #[(.int (Int32.ofNat i)), (.int (Int32.ofNat n)), (.int (Int32.ofNat q)), v] h0 (own_P (some (.int (Int32.ofNat i))) h0) := by
  refine own_enter (plainFor_of_name pn5) (fun m => ef_cfi m (Int32.ofNat i) (Int32.ofNat n) (Int32.ofNat q) v rv) ?_
  intro p e s m below meth c T0 hx hby hml hZ hown hnm hret hlk X0 e0
  refine own_step (b := T0.setTop (mkF m 5 #[.val (.int (Int32.ofNat i)), .val (.int (Int32.ofNat n)), .val (.int (Int32.ofNat q)), .val v] [(.int (((Int32.ofNat q) ||| (Int32.ofNat i)) ||| (Int32.ofNat n)))])) (fun _ qk => XS.iloadN X0.here hx rfl (hb hby d57_0) rfl (XS.iloadN X0.here hx rfl (hb hby d57_1) rfl (XT.ior X0.here hx rfl (hb hby d57_2) rfl (XS.iloadN X0.here hx rfl (hb hby d57_3) rfl (XT.ior X0.here hx rfl (hb hby d57_4) rfl qk))))) ?_
  refine own_if_lt X0 hx (hb hby d57_5) (pc' := 15) (by decide) (by decide) (fun c5 => absurd c5 (own_orNn (by omega) (by omega) (by omega))) (fun c5 => ?_)
  refine own_step (b := T0.setTop (mkF m 12 #[.val (.int (Int32.ofNat i)), .val (.int (Int32.ofNat n)), .val (.int (Int32.ofNat q)), .val v] [(.int ((Int32.ofNat q) - (Int32.ofNat i))), (.int (Int32.ofNat n))])) (fun _ qk => XS.iloadN X0.here hx rfl (hb hby d57_8) rfl (XS.iloadN X0.here hx rfl (hb hby d57_9) rfl (XS.iloadN X0.here hx rfl (hb hby d57_10) rfl (XS.isub X0.here hx rfl (hb hby d57_11) rfl qk)))) ?_
  refine own_icmp_le X0 hx (hb hby d57_12) (pc' := 23) (by decide) (by decide) (fun c12 => ?_) (fun c12 => absurd c12 (by rw [own_ofNat_sub (by omega) (by omega), own_ofNat_lt (by omega) (by omega)]; omega))
  refine own_step (b := T0.setTop (mkF m 24 #[.val (.int (Int32.ofNat i)), .val (.int (Int32.ofNat n)), .val (.int (Int32.ofNat q)), .val v] [(.int (Int32.ofNat i))])) (fun _ qk => XS.iloadN X0.here hx rfl (hb hby d57_23) rfl qk) ?_
  exact own_retI X0 hx hret hlk (hb hby d57_24) ⟨rfl, rfl, e0⟩ (by decide) (by decide)
theorem ef_scb (m : MethodId) (x y z : Int32) : entryFrame m #[(.int x), (.int y), (.int z)] 3 = mkF m 0 #[.val (.int x), .val (.int y), .val (.int z)] [] := by first | (simp [entryFrame, mkF, argsToLocals, Value.category, maxLocals]; done) | rfl
theorem rmScb (l : Launch) (Z : State) (a0 : Array Value) (hw : ∀ d ∈ tables_1, d.before a0 Z = true) (ws : List Jvm.Cond) (i n q : Nat) (h0 : Heap) (h1 : i + n ≤ q) (h2 : q ≤ 1000) (OL0 : Old Z Z.heap.size h0) (G1 : Int32) (O2 : Sta Z Z.heap "java/lang/String" "COMPACT_STRINGS" "Z" (.int G1)) (P5 : ¬ (G1 = (0 : Int32))) (G3 : Value) (O4 : Sta Z Z.heap "jdk/internal/util/Preconditions" "SIOOBE_FORMATTER" "Ljava/util/function/BiFunction;" G3) (rG3 : G3.isRef = true) (SA1 : Sta Z Z.heap "java/lang/StringUTF16" "$assertionsDisabled" "Z" (.int 1)) (SA2 : Sta Z Z.heap "java/lang/StringUTF16" "HI_BYTE_SHIFT" "I" (.int 0)) (SA3 : Sta Z Z.heap "java/lang/StringUTF16" "LO_BYTE_SHIFT" "I" (.int 8)) :
    own_Met l Z (⟨"java/lang/String", "checkBoundsOffCount", "(III)I"⟩ : MethodName) jdk_42_method_157_code 3 (some .int) ws ⟨1, 0, 0, 15⟩ #[(.int (Int32.ofNat i)), (.int (Int32.ofNat n)), (.int (Int32.ofNat q))] h0 (own_P (some (.int (Int32.ofNat i))) h0) := by
  refine own_enter (plainFor_of_name pn1) (fun m => ef_scb m (Int32.ofNat i) (Int32.ofNat n) (Int32.ofNat q)) ?_
  intro p e s m below meth c T0 hx hby hml hZ hown hnm hret hlk X0 e0
  refine own_step (b := T0.setTop (mkF m 3 #[.val (.int (Int32.ofNat i)), .val (.int (Int32.ofNat n)), .val (.int (Int32.ofNat q))] [(.int (Int32.ofNat q)), (.int (Int32.ofNat n)), (.int (Int32.ofNat i))])) (fun _ qk => XS.iloadN X0.here hx rfl (hb hby d56_0) rfl (XS.iloadN X0.here hx rfl (hb hby d56_1) rfl (XS.iloadN X0.here hx rfl (hb hby d56_2) rfl qk))) ?_
  refine own_getS X0 hx hZ hown (own_w hw 90 rfl) e0 (O4.ext OL0.2) (hb hby d56_3) (fun T1 X1 e1 => ?_)
  show own_G p e below _ (T1.setTop (mkF m 6 #[.val (.int (Int32.ofNat i)), .val (.int (Int32.ofNat n)), .val (.int (Int32.ofNat q))] [G3, (.int (Int32.ofNat q)), (.int (Int32.ofNat n)), (.int (Int32.ofNat i))]))
  refine own_staticP (W := 0) (argsL := [(.int (Int32.ofNat i)), (.int (Int32.ofNat n)), (.int (Int32.ofNat q)), G3]) (st := []) X1 hx hZ hown (own_w hw 265 rfl) (own_w hw 266 rfl) (own_w hw 91 rfl) (own_w hw 267 rfl) (by decide) e1 (rmCfi l Z a0 hw [] i n q G3 rG3 h0 h1 h2) (by decide) (by decide) (by decide) (by decide) (by rw [hml]; rfl) (lenOf pd5 rfl) rfl (Nat.le_of_ble_eq_true rfl) (hb hby d56_6) (fun T2 X2 e2 => ?_)
  show own_G p e below _ (T2.setTop (mkF m 9 #[.val (.int (Int32.ofNat i)), .val (.int (Int32.ofNat n)), .val (.int (Int32.ofNat q))] [(.int (Int32.ofNat i))]))
  exact own_retI X2 hx hret hlk (hb hby d56_9) ⟨rfl, rfl, e2⟩ (by decide) (by decide)
theorem ef_ucb (m : MethodId) (x y : Int32) (t : Addr) : entryFrame m #[(.int x), (.int y), (.ref t)] 3 = mkF m 0 #[.val (.int x), .val (.int y), .val (.ref t)] [] := by first | (simp [entryFrame, mkF, argsToLocals, Value.category, maxLocals]; done) | rfl
theorem rmUcb (l : Launch) (Z : State) (a0 : Array Value) (hw : ∀ d ∈ tables_1, d.before a0 Z = true) (ws : List Jvm.Cond) (i n q : Nat) (t : Addr) (kt : ClassId) (vd : List Value) (h0 : Heap) (V : Arv Z h0 t kt .byte (Int32.ofNat (2 * q)) vd (.int 0)) (h1 : i + n ≤ q) (h2 : q ≤ 36) (OL0 : Old Z Z.heap.size h0) (G1 : Int32) (O2 : Sta Z Z.heap "java/lang/String" "COMPACT_STRINGS" "Z" (.int G1)) (P5 : ¬ (G1 = (0 : Int32))) (G3 : Value) (O4 : Sta Z Z.heap "jdk/internal/util/Preconditions" "SIOOBE_FORMATTER" "Ljava/util/function/BiFunction;" G3) (rG3 : G3.isRef = true) (SA1 : Sta Z Z.heap "java/lang/StringUTF16" "$assertionsDisabled" "Z" (.int 1)) (SA2 : Sta Z Z.heap "java/lang/StringUTF16" "HI_BYTE_SHIFT" "I" (.int 0)) (SA3 : Sta Z Z.heap "java/lang/StringUTF16" "LO_BYTE_SHIFT" "I" (.int 8)) :
    own_Met l Z (⟨"java/lang/StringUTF16", "checkBoundsOffCount", "(II[B)V"⟩ : MethodName) jdk_52_method_94_code 3 none ws ⟨2, 0, 0, 29⟩ #[(.int (Int32.ofNat i)), (.int (Int32.ofNat n)), (.ref t)] h0 (own_P none h0) := by
  refine own_enter (plainFor_of_name pn0) (fun m => ef_ucb m (Int32.ofNat i) (Int32.ofNat n) t) ?_
  intro p e s m below meth c T0 hx hby hml hZ hown hnm hret hlk X0 e0
  refine own_step (b := T0.setTop (mkF m 3 #[.val (.int (Int32.ofNat i)), .val (.int (Int32.ofNat n)), .val (.ref t)] [(.ref t), (.int (Int32.ofNat n)), (.int (Int32.ofNat i))])) (fun _ qk => XS.iloadN X0.here hx rfl (hb hby d55_0) rfl (XS.iloadN X0.here hx rfl (hb hby d55_1) rfl (XS.aloadN X0.here hx rfl (hb hby d55_2) rfl rfl qk))) ?_
  refine own_staticP (W := 2) (argsL := [(.ref t)]) (st := [(.int (Int32.ofNat n)), (.int (Int32.ofNat i))]) X0 hx hZ hown (own_w hw 242 rfl) (own_w hw 243 rfl) (own_w hw 18 rfl) (own_w hw 244 rfl) (by decide) e0 (rmUl l Z a0 hw [] t kt q vd h0 V h2) (by decide) (by decide) (by decide) (by decide) (by rw [hml]; rfl) (lenOf pd6 rfl) rfl (Nat.le_of_ble_eq_true rfl) (hb hby d55_3) (fun T1 X1 e1 => ?_)
  show own_G p e below _ (T1.setTop (mkF m 6 #[.val (.int (Int32.ofNat i)), .val (.int (Int32.ofNat n)), .val (.ref t)] [(.int (Int32.ofNat q)), (.int (Int32.ofNat n)), (.int (Int32.ofNat i))]))
  refine own_staticP (W := 0) (argsL := [(.int (Int32.ofNat i)), (.int (Int32.ofNat n)), (.int (Int32.ofNat q))]) (st := []) X1 hx hZ hown (own_w hw 262 rfl) (own_w hw 263 rfl) (own_w hw 4 rfl) (own_w hw 264 rfl) (by decide) e1 (rmScb l Z a0 hw [] i n q h0 h1 (by omega) OL0 G1 O2 P5 G3 O4 rG3 SA1 SA2 SA3) (by decide) (by decide) (by decide) (by decide) (by rw [hml]; rfl) (lenOf pd3 rfl) rfl (Nat.le_of_ble_eq_true rfl) (hb hby d55_6) (fun T2 X2 e2 => ?_)
  refine own_step (b := T2.setTop (mkF m 10 #[.val (.int (Int32.ofNat i)), .val (.int (Int32.ofNat n)), .val (.ref t)] [])) (fun _ qk => XT.pop X2.here hx rfl (hb hby d55_9) rfl rfl qk) ?_
  exact own_retV X2 hx hret hlk (hb hby d55_10) ⟨rfl, rfl, e2⟩ (by decide) (by decide)
theorem ef_inf (m : MethodId) (tx t : Addr) (x y : Int32) : entryFrame m #[(.ref tx), (.int (0 : Int32)), (.ref t), (.int x), (.int y)] 6 = mkF m 0 #[.val (.ref tx), .val (.int (0 : Int32)), .val (.ref t), .val (.int x), .val (.int y), .unset] [] := by first | (simp [entryFrame, mkF, argsToLocals, Value.category, maxLocals]; done) | rfl
theorem rmInf (l : Launch) (Z : State) (a0 : Array Value) (hw : ∀ d ∈ tables_1, d.before a0 Z = true) (ws : List Jvm.Cond) (tx t : Addr) (kx kt : ClassId) (Ns n q : Nat) (ds : List Int32) (rs vd : List Value) (h0 : Heap) (Vx : Arv Z h0 tx kx .byte (Int32.ofNat Ns) (own_L ds ++ rs) (.int 0)) (V : Arv Z h0 t kt .byte (Int32.ofNat (2 * q)) vd (.int 0)) (hs : ds.length ≤ Ns) (hNs : Ns ≤ 72) (hv : vd.length = 2 * q) (h1 : n + ds.length ≤ q) (h2 : q ≤ 36) (hp : ∀ c ∈ ds, ¬ c < 0 ∧ ¬ (255 : Int32) < c) (hne : tx ≠ t) (n0 : Nat) (zn : Z.heap.size ≤ n0) (gt : n0 ≤ t) (OL0 : Old Z Z.heap.size h0) (G1 : Int32) (O2 : Sta Z Z.heap "java/lang/String" "COMPACT_STRINGS" "Z" (.int G1)) (P5 : ¬ (G1 = (0 : Int32))) (G3 : Value) (O4 : Sta Z Z.heap "jdk/internal/util/Preconditions" "SIOOBE_FORMATTER" "Ljava/util/function/BiFunction;" G3) (rG3 : G3.isRef = true) (SA1 : Sta Z Z.heap "java/lang/StringUTF16" "$assertionsDisabled" "Z" (.int 1)) (SA2 : Sta Z Z.heap "java/lang/StringUTF16" "HI_BYTE_SHIFT" "I" (.int 0)) (SA3 : Sta Z Z.heap "java/lang/StringUTF16" "LO_BYTE_SHIFT" "I" (.int 8)) :
    own_Met l Z (⟨"java/lang/StringUTF16", "inflate", "([BI[BII)V"⟩ : MethodName) jdk_52_method_86_code 6 none ws ⟨3, 0, 0, 43⟩ #[(.ref tx), (.int (0 : Int32)), (.ref t), (.int (Int32.ofNat n)), (.int (Int32.ofNat ds.length))] h0 (fun v h L => v = none ∧ Fr n0 L ∧ Keep h0 h [t] ∧ h.size = h0.size ∧ Arv Z h t kt .byte (Int32.ofNat (2 * q)) (vd.take (2 * n) ++ own_wb ds ++ vd.drop (2 * n + 2 * ds.length)) (.int 0)) := by
  refine own_enter (plainFor_of_name pn0) (fun m => ef_inf m tx t (Int32.ofNat n) (Int32.ofNat ds.length)) ?_
  intro p e s m below meth c T0 hx hby hml hZ hown hnm hret hlk X0 e0
  have N0 := Fr.nil n0
  refine own_step (b := T0.setTop (mkF m 4 #[.val (.ref tx), .val (.int (0 : Int32)), .val (.ref t), .val (.int (Int32.ofNat n)), .val (.int (Int32.ofNat ds.length)), .unset] [(.ref t), (.int (Int32.ofNat ds.length)), (.int (Int32.ofNat n))])) (fun _ qk => XS.iloadN X0.here hx rfl (hb hby d54_0) rfl (XS.iload X0.here hx rfl (hb hby d54_1) rfl (XS.aloadN X0.here hx rfl (hb hby d54_3) rfl rfl qk))) ?_
  refine own_staticP (W := 0) (argsL := [(.int (Int32.ofNat n)), (.int (Int32.ofNat ds.length)), (.ref t)]) (st := []) X0 hx hZ hown (own_w hw 259 rfl) (own_w hw 260 rfl) (own_w hw 18 rfl) (own_w hw 261 rfl) (by decide) e0 (rmUcb l Z a0 hw [] n ds.length q t kt vd h0 V h1 h2 OL0 G1 O2 P5 G3 O4 rG3 SA1 SA2 SA3) (by decide) (by decide) (by decide) (by decide) (by rw [hml]; rfl) (lenOf pd7 rfl) rfl (Nat.le_of_ble_eq_true rfl) (hb hby d54_4) (fun T1 X1 e1 => ?_)
  refine own_step (b := T1.setTop (mkF m 10 #[.val (.ref tx), .val (.int (0 : Int32)), .val (.ref t), .val (.int (Int32.ofNat n)), .val (.int (Int32.ofNat ds.length)), .val (.int (0 : Int32))] [])) (fun _ qk => XS.iconst X1.here hx rfl (hb hby d54_7) (XS.istore X1.here hx rfl (hb hby d54_8) rfl (l' := #[.val (.ref tx), .val (.int (0 : Int32)), .val (.ref t), .val (.int (Int32.ofNat n)), .val (.int (Int32.ofNat ds.length)), .val (.int (0 : Int32))]) rfl qk)) ?_
  have loop : ∀ (F : Outcome → State → Prop) (_ : ∀ (T : State) (h : Heap) (L : List Loc), Stand p l e ⟨3, 0, 0, 43⟩ s m #[(.ref tx), (.int (0 : Int32)), (.ref t), (.int (Int32.ofNat n)), (.int (Int32.ofNat ds.length))] below meth c T L 0 0 → T.heap = h → Fr n0 L → Keep h0 h [t] → h.size = h0.size → Arv Z h t kt .byte (Int32.ofNat (2 * q)) (vd.take (2 * n) ++ own_wb (ds.take ds.length) ++ vd.drop (2 * n + 2 * ds.length)) (.int 0) → own_G p e below F (T.setTop (mkF m 41 #[.val (.ref tx), .val (.int (Int32.ofNat ds.length)), .val (.ref t), .val (.int (Int32.ofNat (n + ds.length))), .val (.int (Int32.ofNat ds.length)), .val (.int (Int32.ofNat ds.length))] []))) (j i : Nat) (_ : i + j = ds.length) (T : State) (h : Heap) (L : List Loc), Stand p l e ⟨3, 0, 0, 43⟩ s m #[(.ref tx), (.int (0 : Int32)), (.ref t), (.int (Int32.ofNat n)), (.int (Int32.ofNat ds.length))] below meth c T L 0 0 → T.heap = h → Fr n0 L → Keep h0 h [t] → h.size = h0.size → Arv Z h t kt .byte (Int32.ofNat (2 * q)) (vd.take (2 * n) ++ own_wb (ds.take i) ++ vd.drop (2 * n + 2 * i)) (.int 0) → own_G p e below F (T.setTop (mkF m 10 #[.val (.ref tx), .val (.int (Int32.ofNat i)), .val (.ref t), .val (.int (Int32.ofNat (n + i))), .val (.int (Int32.ofNat ds.length)), .val (.int (Int32.ofNat i))] [])) := by
    intro F fin j
    induction j with
    | zero =>
      intro i hij T h L X E N K z Vt
      obtain rfl : i = ds.length := by omega
      refine own_step (b := T.setTop (mkF m 14 #[.val (.ref tx), .val (.int (Int32.ofNat ds.length)), .val (.ref t), .val (.int (Int32.ofNat (n + ds.length))), .val (.int (Int32.ofNat ds.length)), .val (.int (Int32.ofNat ds.length))] [(.int (Int32.ofNat ds.length)), (.int (Int32.ofNat ds.length))])) (fun _ qk => XS.iload X.here hx rfl (hb hby d54_10) rfl (XS.iload X.here hx rfl (hb hby d54_12) rfl qk)) ?_
      refine own_icmp_ge X hx (hb hby d54_14) (pc' := 41) (by decide) (by decide) (fun c14 => ?_) (fun c14 => absurd c14 (by rw [own_ofNat_lt (by omega) (by omega)]; omega))
      show own_G p e below _ (T.setTop (mkF m 41 #[.val (.ref tx), .val (.int (Int32.ofNat ds.length)), .val (.ref t), .val (.int (Int32.ofNat (n + ds.length))), .val (.int (Int32.ofNat ds.length)), .val (.int (Int32.ofNat ds.length))] []))
      exact fin T h L X E N K z Vt
    | succ j ih =>
      intro i hij T h L X E N K z Vt
      refine own_step (b := T.setTop (mkF m 14 #[.val (.ref tx), .val (.int (Int32.ofNat i)), .val (.ref t), .val (.int (Int32.ofNat (n + i))), .val (.int (Int32.ofNat ds.length)), .val (.int (Int32.ofNat i))] [(.int (Int32.ofNat ds.length)), (.int (Int32.ofNat i))])) (fun _ qk => XS.iload X.here hx rfl (hb hby d54_10) rfl (XS.iload X.here hx rfl (hb hby d54_12) rfl qk)) ?_
      refine own_icmp_ge X hx (hb hby d54_14) (pc' := 41) (by decide) (by decide) (fun c14 => absurd ((own_ofNat_lt (by omega) (by omega)).mpr (by omega)) c14) (fun c14 => ?_)
      refine own_step (b := T.setTop (mkF m 27 #[.val (.ref tx), .val (.int ((Int32.ofNat i) + (1 : Int32))), .val (.ref t), .val (.int ((Int32.ofNat (n + i)) + (1 : Int32))), .val (.int (Int32.ofNat ds.length)), .val (.int (Int32.ofNat i))] [(.int (Int32.ofNat i)), (.ref tx), (.int (Int32.ofNat (n + i))), (.ref t)])) (fun _ qk => XS.aloadN X.here hx rfl (hb hby d54_17) rfl rfl (XS.iloadN X.here hx rfl (hb hby d54_18) rfl (XS.iinc X.here hx rfl (hb hby d54_19) rfl (l' := #[.val (.ref tx), .val (.int (Int32.ofNat i)), .val (.ref t), .val (.int ((Int32.ofNat (n + i)) + (1 : Int32))), .val (.int (Int32.ofNat ds.length)), .val (.int (Int32.ofNat i))]) rfl (XS.aloadN X.here hx rfl (hb hby d54_22) rfl rfl (XS.iloadN X.here hx rfl (hb hby d54_23) rfl (XS.iinc X.here hx rfl (hb hby d54_24) rfl (l' := #[.val (.ref tx), .val (.int ((Int32.ofNat i) + (1 : Int32))), .val (.ref t), .val (.int ((Int32.ofNat (n + i)) + (1 : Int32))), .val (.int (Int32.ofNat ds.length)), .val (.int (Int32.ofNat i))]) rfl qk)))))) ?_
      have hpi := hp _ (own_getD_mem (i := i) (by omega : i < ds.length))
      refine own_ldB X hx hZ E (Vx.keep K (ninS hne nin0)) i (own_nn (by omega)) (own_clamp (by omega)) (by rw [own_clamp (by omega)]; omega) (v := (.int (StrChars.lo8 (ds.getD i 0)))) (own_getL (by omega)) (hb hby d54_27) ?_
      refine own_step (b := T.setTop (mkF m 32 #[.val (.ref tx), .val (.int ((Int32.ofNat i) + (1 : Int32))), .val (.ref t), .val (.int ((Int32.ofNat (n + i)) + (1 : Int32))), .val (.int (Int32.ofNat ds.length)), .val (.int (Int32.ofNat i))] [(.int ((StrChars.lo8 (ds.getD i 0)) &&& (255 : Int32))), (.int (Int32.ofNat (n + i))), (.ref t)])) (fun _ qk => XS.sipush X.here hx rfl (hb hby d54_28) (XS.iand X.here hx rfl (hb hby d54_31) rfl qk)) ?_
      rw [StrChars.lo8_mask hpi.1 hpi.2]
      show own_G p e below _ (T.setTop (mkF m 32 #[.val (.ref tx), .val (.int ((Int32.ofNat i) + (1 : Int32))), .val (.ref t), .val (.int ((Int32.ofNat (n + i)) + (1 : Int32))), .val (.int (Int32.ofNat ds.length)), .val (.int (Int32.ofNat i))] [(.int (ds.getD i 0)), (.int (Int32.ofNat (n + i))), (.ref t)]))
      have OLk : Old Z Z.heap.size h := OL0.keep K (allS (by omega) all0)
      refine own_static (W := 0) (argsL := [(.ref t), (.int (Int32.ofNat (n + i))), (.int (ds.getD i 0))]) (st := []) X hx hZ hown (own_w hw 227 rfl) (own_w hw 228 rfl) (own_w hw 18 rfl) (own_w hw 229 rfl) (by decide) E (own_back (W := 0) (rmPut l Z a0 hw [] t kt (2 * q) (n + i) (ds.getD i 0) _ h Vt (by rw [List.length_append, List.length_append, own_wb_len, List.length_take, List.length_take, List.length_drop]; omega) (by omega) (by omega) n0 gt OLk G1 O2 P5 G3 O4 rG3 SA1 SA2 SA3) hZ (own_w hw 229 rfl) (own_w hw 18 rfl) (by decide) (by decide)) (by decide) (by decide) (by rw [hml]; rfl) (lenOf pd8 rfl) rfl (Nat.le_of_ble_eq_true rfl) (hb hby d54_32) (fun v2 T2 L2 X2 hQ2 => ?_)
      obtain ⟨rfl, M2, K2, z2, V2⟩ := hQ2
      refine own_step (b := T2.setTop (mkF m 10 #[.val (.ref tx), .val (.int ((Int32.ofNat i) + (1 : Int32))), .val (.ref t), .val (.int ((Int32.ofNat (n + i)) + (1 : Int32))), .val (.int (Int32.ofNat ds.length)), .val (.int ((Int32.ofNat i) + (1 : Int32)))] [])) (fun _ qk => XS.iinc X2.here hx rfl (hb hby d54_35) rfl (l' := #[.val (.ref tx), .val (.int ((Int32.ofNat i) + (1 : Int32))), .val (.ref t), .val (.int ((Int32.ofNat (n + i)) + (1 : Int32))), .val (.int (Int32.ofNat ds.length)), .val (.int ((Int32.ofNat i) + (1 : Int32)))]) rfl (XS.goto X2.here hx rfl (pc0 := 38) (pc' := 10) rfl (hb hby d54_38) (by decide) (by decide) qk)) ?_
      rw [own_putL (by omega) (by omega)] at V2
      simp only [own_ofNat_succ]
      exact ih (i + 1) (by omega) _ _ _ X2 rfl (Fr.app N M2) (K.trans K2 (allS (Or.inl (List.mem_singleton.mpr rfl)) all0)) (by omega) V2
  refine loop _ (fun T h L X E N K z Vt => ?_) ds.length 0 (by omega) T1 h0 [] X1 e1 N0 (Keep.refl h0 [t]) rfl (by have q := V; simpa [own_wb, StrChars.Road.wideBytes] using q)
  subst E
  exact own_retV X hx hret hlk (hb hby d54_41) ⟨rfl, N, K, z, by have q := Vt; rw [List.take_length] at q; exact q⟩ (by decide) (by decide)
theorem ef_infl (m : MethodId) (tx t : Addr) (x y : Int32) : entryFrame m #[(.ref tx), (.int (0 : Int32)), (.ref t), (.int x), (.int y)] 5 = mkF m 0 #[.val (.ref tx), .val (.int (0 : Int32)), .val (.ref t), .val (.int x), .val (.int y)] [] := by first | (simp [entryFrame, mkF, argsToLocals, Value.category, maxLocals]; done) | rfl
theorem rmInfL (l : Launch) (Z : State) (a0 : Array Value) (hw : ∀ d ∈ tables_1, d.before a0 Z = true) (ws : List Jvm.Cond) (tx t : Addr) (kx kt : ClassId) (Ns n q : Nat) (ds : List Int32) (rs vd : List Value) (h0 : Heap) (Vx : Arv Z h0 tx kx .byte (Int32.ofNat Ns) (own_L ds ++ rs) (.int 0)) (V : Arv Z h0 t kt .byte (Int32.ofNat (2 * q)) vd (.int 0)) (hs : ds.length ≤ Ns) (hNs : Ns ≤ 72) (hv : vd.length = 2 * q) (h1 : n + ds.length ≤ q) (h2 : q ≤ 36) (hp : ∀ c ∈ ds, ¬ c < 0 ∧ ¬ (255 : Int32) < c) (hne : tx ≠ t) (n0 : Nat) (zn : Z.heap.size ≤ n0) (gt : n0 ≤ t) (OL0 : Old Z Z.heap.size h0) (G1 : Int32) (O2 : Sta Z Z.heap "java/lang/String" "COMPACT_STRINGS" "Z" (.int G1)) (P5 : ¬ (G1 = (0 : Int32))) (G3 : Value) (O4 : Sta Z Z.heap "jdk/internal/util/Preconditions" "SIOOBE_FORMATTER" "Ljava/util/function/BiFunction;" G3) (rG3 : G3.isRef = true) (SA1 : Sta Z Z.heap "java/lang/StringUTF16" "$assertionsDisabled" "Z" (.int 1)) (SA2 : Sta Z Z.heap "java/lang/StringUTF16" "HI_BYTE_SHIFT" "I" (.int 0)) (SA3 : Sta Z Z.heap "java/lang/StringUTF16" "LO_BYTE_SHIFT" "I" (.int 8)) :
    own_Met l Z (⟨"java/lang/StringLatin1", "inflate", "([BI[BII)V"⟩ : MethodName) jdk_43_method_50_code 5 none ws ⟨4, 0, 0, 60⟩ #[(.ref tx), (.int (0 : Int32)), (.ref t), (.int (Int32.ofNat n)), (.int (Int32.ofNat ds.length))] h0 (fun v h L => v = none ∧ Fr n0 L ∧ Keep h0 h [t] ∧ h.size = h0.size ∧ Arv Z h t kt .byte (Int32.ofNat (2 * q)) (vd.take (2 * n) ++ own_wb ds ++ vd.drop (2 * n + 2 * ds.length)) (.int 0)) := by
  refine own_enter (plainFor_of_name pn6) (fun m => ef_infl m tx t (Int32.ofNat n) (Int32.ofNat ds.length)) ?_
  intro p e s m below meth c T0 hx hby hml hZ hown hnm hret hlk X0 e0
  refine own_step (b := T0.setTop (mkF m 6 #[.val (.ref tx), .val (.int (0 : Int32)), .val (.ref t), .val (.int (Int32.ofNat n)), .val (.int (Int32.ofNat ds.length))] [(.int (Int32.ofNat ds.length)), (.int (Int32.ofNat n)), (.ref t), (.int (0 : Int32)), (.ref tx)])) (fun _ qk => XS.aloadN X0.here hx rfl (hb hby d53_0) rfl rfl (XS.iloadN X0.here hx rfl (hb hby d53_1) rfl (XS.aloadN X0.here hx rfl (hb hby d53_2) rfl rfl (XS.iloadN X0.here hx rfl (hb hby d53_3) rfl (XS.iload X0.here hx rfl (hb hby d53_4) rfl qk))))) ?_
  refine own_static (W := 0) (argsL := [(.ref tx), (.int (0 : Int32)), (.ref t), (.int (Int32.ofNat n)), (.int (Int32.ofNat ds.length))]) (st := []) X0 hx hZ hown (own_w hw 256 rfl) (own_w hw 257 rfl) (own_w hw 18 rfl) (own_w hw 258 rfl) (by decide) e0 (own_back (W := 0) (rmInf l Z a0 hw [] tx t kx kt Ns n q ds rs vd h0 Vx V hs hNs hv h1 h2 hp hne n0 zn gt OL0 G1 O2 P5 G3 O4 rG3 SA1 SA2 SA3) hZ (own_w hw 258 rfl) (own_w hw 18 rfl) (by decide) (by decide)) (by decide) (by decide) (by rw [hml]; rfl) (lenOf pd9 rfl) rfl (Nat.le_of_ble_eq_true rfl) (hb hby d53_6) (fun v1 T1 L1 X1 hQ1 => ?_)
  obtain ⟨rfl, M1, K1, z1, V1⟩ := hQ1
  show own_G p e below _ (T1.setTop (mkF m 9 #[.val (.ref tx), .val (.int (0 : Int32)), .val (.ref t), .val (.int (Int32.ofNat n)), .val (.int (Int32.ofNat ds.length))] []))
  exact own_retV X1 hx hret hlk (hb hby d53_9) ⟨rfl, M1, K1, z1, V1⟩ (by decide) (by decide)
theorem ef_binf (m : MethodId) (b : Addr) : entryFrame m #[(.ref b)] 2 = mkF m 0 #[.val (.ref b), .unset] [] := by first | (simp [entryFrame, mkF, argsToLocals, Value.category, maxLocals]; done) | rfl
theorem rmBinfW (l : Launch) (Z : State) (a0 : Array Value) (hw : ∀ d ∈ tables_1, d.before a0 Z = true) (ws : List Jvm.Cond) (b t : Addr) (kt : ClassId) (n N : Nat) (vs : List Value) (h0 : Heap) (BB : own_SB Z h0 b t kt (1 : Int32) n N vs) (OL0 : Old Z Z.heap.size h0) (G1 : Int32) (O2 : Sta Z Z.heap "java/lang/String" "COMPACT_STRINGS" "Z" (.int G1)) (P5 : ¬ (G1 = (0 : Int32))) (G3 : Value) (O4 : Sta Z Z.heap "jdk/internal/util/Preconditions" "SIOOBE_FORMATTER" "Ljava/util/function/BiFunction;" G3) (rG3 : G3.isRef = true) (SA1 : Sta Z Z.heap "java/lang/StringUTF16" "$assertionsDisabled" "Z" (.int 1)) (SA2 : Sta Z Z.heap "java/lang/StringUTF16" "HI_BYTE_SHIFT" "I" (.int 0)) (SA3 : Sta Z Z.heap "java/lang/StringUTF16" "LO_BYTE_SHIFT" "I" (.int 8)) :
    own_Met l Z (⟨"java/lang/AbstractStringBuilder", "inflate", "()V"⟩ : MethodName) jdk_68_method_11_code 2 none ws ⟨1, 0, 0, 12⟩ #[(.ref b)] h0 (own_P none h0) := by
  refine own_enter (plainFor_of_name pn2) (fun m => ef_binf m b) ?_
  intro p e s m below meth c T0 hx hby hml hZ hown hnm hret hlk X0 e0
  refine own_step (b := T0.setTop (mkF m 1 #[.val (.ref b), .unset] [(.ref b)])) (fun _ qk => XS.aloadN X0.here hx rfl (hb hby d52_0) rfl rfl qk) ?_
  refine own_virtualP (a := b) (W := 0) (argsL := []) (st := []) X0 hx hZ hown (own_w hw 251 rfl) (own_w hw 171 rfl) (own_w hw 173 rfl) trivial (own_w hw 172 rfl) (by decide) e0 BB.1 (rmBislW l Z a0 hw [] b t kt n N vs h0 BB OL0 G1 O2 P5 G3 O4 rG3 SA1 SA2 SA3) (own_w hw 174 rfl) (own_w hw 49 rfl) (by decide) (by decide) (by decide) (by decide) (by rw [hml]; rfl) (lenOf pd10 rfl) rfl (Nat.le_of_ble_eq_true rfl) (hb hby d52_1) (fun T1 X1 e1 => ?_)
  show own_G p e below _ (T1.setTop (mkF m 4 #[.val (.ref b), .unset] [(.int (0 : Int32))]))
  refine own_if_ne X1 hx (hb hby d52_4) (pc' := 8) (by decide) (by decide) (fun c4_2 => absurd c4_2 (by decide)) (fun c4_2 => ?_)
  show own_G p e below _ (T1.setTop (mkF m 7 #[.val (.ref b), .unset] []))
  exact own_retV X1 hx hret hlk (hb hby d52_7) ⟨rfl, rfl, e1⟩ (by decide) (by decide)
theorem rmBinfL (l : Launch) (Z : State) (a0 : Array Value) (hw : ∀ d ∈ tables_1, d.before a0 Z = true) (ws : List Jvm.Cond) (b t : Addr) (kt : ClassId) (N : Nat) (cs : List Int32) (h0 : Heap) (BB : own_SBL Z h0 b t kt N cs) (hcs : cs.length ≤ N) (hN : N ≤ 36) (hp : ∀ c ∈ cs, ¬ c < 0 ∧ ¬ (255 : Int32) < c) (n0 : Nat) (zn : Z.heap.size ≤ n0) (hn0 : n0 ≤ h0.size) (gb : n0 ≤ b) (OL0 : Old Z Z.heap.size h0) (G1 : Int32) (O2 : Sta Z Z.heap "java/lang/String" "COMPACT_STRINGS" "Z" (.int G1)) (P5 : ¬ (G1 = (0 : Int32))) (G3 : Value) (O4 : Sta Z Z.heap "jdk/internal/util/Preconditions" "SIOOBE_FORMATTER" "Ljava/util/function/BiFunction;" G3) (rG3 : G3.isRef = true) (SA1 : Sta Z Z.heap "java/lang/StringUTF16" "$assertionsDisabled" "Z" (.int 1)) (SA2 : Sta Z Z.heap "java/lang/StringUTF16" "HI_BYTE_SHIFT" "I" (.int 0)) (SA3 : Sta Z Z.heap "java/lang/StringUTF16" "LO_BYTE_SHIFT" "I" (.int 8)) :
    own_Met l Z (⟨"java/lang/AbstractStringBuilder", "inflate", "()V"⟩ : MethodName) jdk_68_method_11_code 2 none ws ⟨5, 1, 72, 76⟩ #[(.ref b)] h0 (fun v h L => ∃ (r : Addr) (kr : ClassId), v = none ∧ Fr n0 L ∧ Keep h0 h [b] ∧ h0.size ≤ r ∧ own_SBW Z h b r kr N cs) := by
  refine own_enter (plainFor_of_name pn2) (fun m => ef_binf m b) ?_
  intro p e s m below meth c T0 hx hby hml hZ hown hnm hret hlk X0 e0
  have lb : @LT.lt Nat instLTNat b h0.size := BB.1.lt
  have lt : @LT.lt Nat instLTNat t h0.size := BB.2.2.2.2.2.1.lt
  have N0 := Fr.nil n0
  refine own_step (b := T0.setTop (mkF m 1 #[.val (.ref b), .unset] [(.ref b)])) (fun _ qk => XS.aloadN X0.here hx rfl (hb hby d52_0) rfl rfl qk) ?_
  refine own_virtualP (a := b) (W := 0) (argsL := []) (st := []) X0 hx hZ hown (own_w hw 251 rfl) (own_w hw 171 rfl) (own_w hw 173 rfl) trivial (own_w hw 172 rfl) (by decide) e0 BB.1 (rmBislL l Z a0 hw [] b t kt cs.length N _ h0 BB OL0 G1 O2 P5 G3 O4 rG3 SA1 SA2 SA3) (own_w hw 174 rfl) (own_w hw 49 rfl) (by decide) (by decide) (by decide) (by decide) (by rw [hml]; rfl) (lenOf pd10 rfl) rfl (Nat.le_of_ble_eq_true rfl) (hb hby d52_1) (fun T1 X1 e1 => ?_)
  show own_G p e below _ (T1.setTop (mkF m 4 #[.val (.ref b), .unset] [(.int (1 : Int32))]))
  refine own_if_ne X1 hx (hb hby d52_4) (pc' := 8) (by decide) (by decide) (fun c4_2 => ?_) (fun c4_2 => absurd c4_2 (by decide))
  refine own_step (b := T1.setTop (mkF m 9 #[.val (.ref b), .unset] [(.ref b)])) (fun _ qk => XS.aloadN X1.here hx rfl (hb hby d52_8) rfl rfl qk) ?_
  refine own_getF X1 hx hZ hown (own_w hw 53 rfl) e1 BB.2.1 (hb hby d52_9) (fun T3 X3 e3 => ?_)
  show own_G p e below _ (T3.setTop (mkF m 12 #[.val (.ref b), .unset] [(.ref t)]))
  refine own_len X3 hx hZ e3 BB.2.2.2.2.2.1 (hb hby d52_12) ?_
  show own_G p e below _ (T3.setTop (mkF m 13 #[.val (.ref b), .unset] [(.int (Int32.ofNat N))]))
  refine own_static (W := 0) (argsL := [(.int (Int32.ofNat N))]) (st := []) X3 hx hZ hown (own_w hw 252 rfl) (own_w hw 221 rfl) (own_w hw 18 rfl) (own_w hw 222 rfl) (by decide) e3 (own_back (W := 0) (rmNbf l Z a0 hw [] N h0 hN) hZ (own_w hw 222 rfl) (own_w hw 18 rfl) (by decide) (by decide)) (by decide) (by decide) (by rw [hml]; rfl) (lenOf pd11 rfl) rfl (Nat.le_of_ble_eq_true rfl) (hb hby d52_13) (fun v4 T4 L4 X4 hQ4 => ?_)
  obtain ⟨r4, kr4, rfl, rfl, E4, g4, l4, V4⟩ := hQ4
  rw [List.append_nil] at X4
  refine own_step (b := T4.setTop (mkF m 18 #[.val (.ref b), .val (.ref r4)] [(.ref b)])) (fun _ qk => XS.astoreN X4.here hx rfl (hb hby d52_16) rfl rfl (l' := #[.val (.ref b), .val (.ref r4)]) rfl (XS.aloadN X4.here hx rfl (hb hby d52_17) rfl rfl qk)) ?_
  refine own_getF X4 hx hZ hown (own_w hw 53 rfl) rfl (BB.2.1.ext E4) (hb hby d52_18) (fun T5 X5 e5 => ?_)
  refine own_step (b := T5.setTop (mkF m 25 #[.val (.ref b), .val (.ref r4)] [(.ref b), (.int (0 : Int32)), (.ref r4), (.int (0 : Int32)), (.ref t)])) (fun _ qk => XS.iconst X5.here hx rfl (hb hby d52_21) (XS.aloadN X5.here hx rfl (hb hby d52_22) rfl rfl (XS.iconst X5.here hx rfl (hb hby d52_23) (XS.aloadN X5.here hx rfl (hb hby d52_24) rfl rfl qk)))) ?_
  refine own_getF X5 hx hZ hown (own_w hw 116 rfl) e5 (BB.2.2.2.1.ext E4) (hb hby d52_25) (fun T6 X6 e6 => ?_)
  show own_G p e below _ (T6.setTop (mkF m 28 #[.val (.ref b), .val (.ref r4)] [(.int (Int32.ofNat cs.length)), (.int (0 : Int32)), (.ref r4), (.int (0 : Int32)), (.ref t)]))
  have OL4 := OL0.ext E4
  refine own_static (W := 0) (argsL := [(.ref t), (.int (0 : Int32)), (.ref r4), (.int (0 : Int32)), (.int (Int32.ofNat cs.length))]) (st := []) X6 hx hZ hown (own_w hw 253 rfl) (own_w hw 254 rfl) (own_w hw 85 rfl) (own_w hw 255 rfl) (by decide) e6 (own_back (W := 0) (rmInfL l Z a0 hw [] t r4 kt kr4 N 0 N cs (own_Z (N - cs.length)) (List.replicate (2 * N) (.int 0)) T4.heap (BB.2.2.2.2.2.1.ext E4) V4 hcs (by omega) (by simp) (by omega) hN hp (own_ne (Or.inl (by omega))) n0 zn (by omega) OL4 G1 O2 P5 G3 O4 rG3 SA1 SA2 SA3) hZ (own_w hw 255 rfl) (own_w hw 85 rfl) (by decide) (by decide)) (by decide) (by decide) (by rw [hml]; rfl) (lenOf pd9 rfl) rfl (Nat.le_of_ble_eq_true rfl) (hb hby d52_28) (fun v7 T7 L7 X7 hQ7 => ?_)
  obtain ⟨rfl, M7, K7, z7, V7⟩ := hQ7
  rw [List.nil_append] at X7
  refine own_step (b := T7.setTop (mkF m 33 #[.val (.ref b), .val (.ref r4)] [(.ref r4), (.ref b)])) (fun _ qk => XS.aloadN X7.here hx rfl (hb hby d52_31) rfl rfl (XS.aloadN X7.here hx rfl (hb hby d52_32) rfl rfl qk)) ?_
  have nb : b ∉ [r4] := ninS (own_ne (Or.inl (by omega))) nin0
  refine own_putF X7 hx hZ hown (own_w hw 53 rfl) rfl ((BB.2.1.ext E4).keep K7 nb) ((BB.1.ext E4).keep K7) (Or.inl (own_w hw 54 rfl)) (own_w hw 40 rfl) (ty := (.array .byte)) (by decide) rfl rfl M7 gb (hb hby d52_33) (fun T8 h8 X8 e8 N8 W8 z8 F8 E8 => ?_)
  refine own_step (b := T8.setTop (mkF m 38 #[.val (.ref b), .val (.ref r4)] [(.int (1 : Int32)), (.ref b)])) (fun _ qk => XS.aloadN X8.here hx rfl (hb hby d52_36) rfl rfl (XS.iconst X8.here hx rfl (hb hby d52_37) qk)) ?_
  refine own_putF X8 hx hZ hown (own_w hw 55 rfl) e8 (((BB.2.2.1.ext E4).keep K7 nb).other W8 (Or.inr (sb10 hw))) E8 (Or.inl (own_w hw 56 rfl)) (own_w hw 40 rfl) (ty := .byte) (by decide) rfl rfl N8 gb (hb hby d52_38) (fun T9 h9 X9 e9 N9 W9 z9 F9 E9 => ?_)
  show own_G p e below _ (T9.setTop (mkF m 41 #[.val (.ref b), .val (.ref r4)] []))
  subst e9
  have hz : (List.replicate (2 * N) (Value.int 0)).take (2 * 0) ++ own_wb cs ++ (List.replicate (2 * N) (Value.int 0)).drop (2 * 0 + 2 * cs.length) = own_wb cs ++ own_Z (2 * N - 2 * cs.length) := by rw [Nat.mul_zero, List.take_zero, List.nil_append, Nat.zero_add, List.drop_replicate]
  rw [hz] at V7
  have nr : r4 ≠ b := own_ne (Or.inr (by omega))
  exact own_retV X9 hx hret hlk (hb hby d52_41) ⟨r4, kr4, rfl, N9, ((((Keep.refl h0 [b]).ext E4).trans K7 (allS (Or.inr (by omega)) all0)).wr W8 (Or.inl (List.mem_singleton.mpr rfl))).wr W9 (Or.inl (List.mem_singleton.mpr rfl)), by omega, ⟨E9, F8.other W9 (Or.inr (sb01 hw)), F9, (((BB.2.2.2.1.ext E4).keep K7 nb).other W8 (Or.inr (sb20 hw))).other W9 (Or.inr (sb21 hw)), (((BB.2.2.2.2.1.ext E4).keep K7 nb).other W8 (Or.inr (sb30 hw))).other W9 (Or.inr (sb31 hw)), (V7.other W8 nr).other W9 nr, (by rw [List.length_append, own_wb_len, List.length_replicate]; omega)⟩⟩ (by decide) (by decide)
theorem ef_iin (m : MethodId) (b x : Addr) : entryFrame m #[(.ref b), (.ref x)] 2 = mkF m 0 #[.val (.ref b), .val (.ref x)] [] := by first | (simp [entryFrame, mkF, argsToLocals, Value.category, maxLocals]; done) | rfl
theorem rmIinLL (l : Launch) (Z : State) (a0 : Array Value) (hw : ∀ d ∈ tables_1, d.before a0 Z = true) (ws : List Jvm.Cond) (b t : Addr) (kt : ClassId) (N : Nat) (cs : List Int32) (x tx : Addr) (kx : ClassId) (ds : List Int32) (h0 : Heap) (BB : own_SBL Z h0 b t kt N cs) (SS : own_STL Z h0 x tx kx ds) (OL0 : Old Z Z.heap.size h0) (G1 : Int32) (O2 : Sta Z Z.heap "java/lang/String" "COMPACT_STRINGS" "Z" (.int G1)) (P5 : ¬ (G1 = (0 : Int32))) (G3 : Value) (O4 : Sta Z Z.heap "jdk/internal/util/Preconditions" "SIOOBE_FORMATTER" "Ljava/util/function/BiFunction;" G3) (rG3 : G3.isRef = true) (SA1 : Sta Z Z.heap "java/lang/StringUTF16" "$assertionsDisabled" "Z" (.int 1)) (SA2 : Sta Z Z.heap "java/lang/StringUTF16" "HI_BYTE_SHIFT" "I" (.int 0)) (SA3 : Sta Z Z.heap "java/lang/StringUTF16" "LO_BYTE_SHIFT" "I" (.int 8)) :
    own_Met l Z (⟨"java/lang/AbstractStringBuilder", "inflateIfNeededFor", "(Ljava/lang/String;)V"⟩ : MethodName) jdk_68_method_71_code 2 none ws ⟨1, 0, 0, 13⟩ #[(.ref b), (.ref x)] h0 (own_P none h0) := by
  refine own_enter (plainFor_of_name pn2) (fun m => ef_iin m b x) ?_
  intro p e s m below meth c T0 hx hby hml hZ hown hnm hret hlk X0 e0
  show own_G p e below _ (T0.setTop (mkF m 0 #[.val (.ref b), .val (.ref x)] []))
  refine own_getS X0 hx hZ hown (own_w hw 52 rfl) e0 (O2.ext OL0.2) (hb hby d25_0) (fun T1 X1 e1 => ?_)
  show own_G p e below _ (T1.setTop (mkF m 3 #[.val (.ref b), .val (.ref x)] [(.int G1)]))
  refine own_if_eq X1 hx (hb hby d25_3) (pc' := 21) (by decide) (by decide) (fun c3 => absurd c3 P5) (fun c3 => ?_)
  refine own_step (b := T1.setTop (mkF m 7 #[.val (.ref b), .val (.ref x)] [(.ref b)])) (fun _ qk => XS.aloadN X1.here hx rfl (hb hby d25_6) rfl rfl qk) ?_
  refine own_getF X1 hx hZ hown (own_w hw 55 rfl) e1 BB.2.2.1 (hb hby d25_7) (fun T2 X2 e2 => ?_)
  refine own_step (b := T2.setTop (mkF m 11 #[.val (.ref b), .val (.ref x)] [(.ref x), (.int (0 : Int32))])) (fun _ qk => XS.aloadN X2.here hx rfl (hb hby d25_10) rfl rfl qk) ?_
  refine own_virtualP (a := x) (W := 1) (argsL := []) (st := [(.int (0 : Int32))]) X2 hx hZ hown (own_w hw 133 rfl) (own_w hw 112 rfl) (own_w hw 114 rfl) trivial (own_w hw 113 rfl) (by decide) e2 SS.1 (rmCod l Z a0 hw [] x (0 : Int32) h0 SS.2.1 rfl OL0 G1 O2 P5 G3 O4 rG3 SA1 SA2 SA3) (own_w hw 115 rfl) (own_w hw 4 rfl) (by decide) (by decide) (by decide) (by decide) (by rw [hml]; rfl) (lenOf pd1 rfl) rfl (Nat.le_of_ble_eq_true rfl) (hb hby d25_11) (fun T3 X3 e3 => ?_)
  show own_G p e below _ (T3.setTop (mkF m 14 #[.val (.ref b), .val (.ref x)] [(.int (0 : Int32)), (.int (0 : Int32))]))
  refine own_icmp_eq X3 hx (hb hby d25_14) (pc' := 21) (by decide) (by decide) (fun c14_4 => ?_) (fun c14_4 => absurd c14_4 (by decide))
  show own_G p e below _ (T3.setTop (mkF m 21 #[.val (.ref b), .val (.ref x)] []))
  exact own_retV X3 hx hret hlk (hb hby d25_21) ⟨rfl, rfl, e3⟩ (by decide) (by decide)
theorem rmIinWL (l : Launch) (Z : State) (a0 : Array Value) (hw : ∀ d ∈ tables_1, d.before a0 Z = true) (ws : List Jvm.Cond) (b t : Addr) (kt : ClassId) (N : Nat) (cs : List Int32) (x tx : Addr) (kx : ClassId) (ds : List Int32) (h0 : Heap) (BB : own_SBW Z h0 b t kt N cs) (SS : own_STL Z h0 x tx kx ds) (OL0 : Old Z Z.heap.size h0) (G1 : Int32) (O2 : Sta Z Z.heap "java/lang/String" "COMPACT_STRINGS" "Z" (.int G1)) (P5 : ¬ (G1 = (0 : Int32))) (G3 : Value) (O4 : Sta Z Z.heap "jdk/internal/util/Preconditions" "SIOOBE_FORMATTER" "Ljava/util/function/BiFunction;" G3) (rG3 : G3.isRef = true) (SA1 : Sta Z Z.heap "java/lang/StringUTF16" "$assertionsDisabled" "Z" (.int 1)) (SA2 : Sta Z Z.heap "java/lang/StringUTF16" "HI_BYTE_SHIFT" "I" (.int 0)) (SA3 : Sta Z Z.heap "java/lang/StringUTF16" "LO_BYTE_SHIFT" "I" (.int 8)) :
    own_Met l Z (⟨"java/lang/AbstractStringBuilder", "inflateIfNeededFor", "(Ljava/lang/String;)V"⟩ : MethodName) jdk_68_method_71_code 2 none ws ⟨2, 0, 0, 25⟩ #[(.ref b), (.ref x)] h0 (own_P none h0) := by
  refine own_enter (plainFor_of_name pn2) (fun m => ef_iin m b x) ?_
  intro p e s m below meth c T0 hx hby hml hZ hown hnm hret hlk X0 e0
  show own_G p e below _ (T0.setTop (mkF m 0 #[.val (.ref b), .val (.ref x)] []))
  refine own_getS X0 hx hZ hown (own_w hw 52 rfl) e0 (O2.ext OL0.2) (hb hby d25_0) (fun T1 X1 e1 => ?_)
  show own_G p e below _ (T1.setTop (mkF m 3 #[.val (.ref b), .val (.ref x)] [(.int G1)]))
  refine own_if_eq X1 hx (hb hby d25_3) (pc' := 21) (by decide) (by decide) (fun c3 => absurd c3 P5) (fun c3 => ?_)
  refine own_step (b := T1.setTop (mkF m 7 #[.val (.ref b), .val (.ref x)] [(.ref b)])) (fun _ qk => XS.aloadN X1.here hx rfl (hb hby d25_6) rfl rfl qk) ?_
  refine own_getF X1 hx hZ hown (own_w hw 55 rfl) e1 BB.2.2.1 (hb hby d25_7) (fun T2 X2 e2 => ?_)
  refine own_step (b := T2.setTop (mkF m 11 #[.val (.ref b), .val (.ref x)] [(.ref x), (.int (1 : Int32))])) (fun _ qk => XS.aloadN X2.here hx rfl (hb hby d25_10) rfl rfl qk) ?_
  refine own_virtualP (a := x) (W := 1) (argsL := []) (st := [(.int (1 : Int32))]) X2 hx hZ hown (own_w hw 133 rfl) (own_w hw 112 rfl) (own_w hw 114 rfl) trivial (own_w hw 113 rfl) (by decide) e2 SS.1 (rmCod l Z a0 hw [] x (0 : Int32) h0 SS.2.1 rfl OL0 G1 O2 P5 G3 O4 rG3 SA1 SA2 SA3) (own_w hw 115 rfl) (own_w hw 4 rfl) (by decide) (by decide) (by decide) (by decide) (by rw [hml]; rfl) (lenOf pd1 rfl) rfl (Nat.le_of_ble_eq_true rfl) (hb hby d25_11) (fun T3 X3 e3 => ?_)
  show own_G p e below _ (T3.setTop (mkF m 14 #[.val (.ref b), .val (.ref x)] [(.int (0 : Int32)), (.int (1 : Int32))]))
  refine own_icmp_eq X3 hx (hb hby d25_14) (pc' := 21) (by decide) (by decide) (fun c14_4 => absurd c14_4 (by decide)) (fun c14_4 => ?_)
  refine own_step (b := T3.setTop (mkF m 18 #[.val (.ref b), .val (.ref x)] [(.ref b)])) (fun _ qk => XS.aloadN X3.here hx rfl (hb hby d25_17) rfl rfl qk) ?_
  refine own_virtualP (a := b) (W := 0) (argsL := []) (st := []) X3 hx hZ hown (own_w hw 246 rfl) (own_decl (own_w hw 247 rfl) (own_w hw 250 rfl)) (own_w hw 249 rfl) trivial (own_w hw 247 rfl) (by decide) e3 BB.1 (rmBinfW l Z a0 hw [] b t kt cs.length (2 * N) _ h0 BB OL0 G1 O2 P5 G3 O4 rG3 SA1 SA2 SA3) (own_w hw 250 rfl) (own_w hw 49 rfl) (by decide) (by decide) (by decide) (by decide) (by rw [hml]; rfl) (lenOf pd12 rfl) rfl (Nat.le_of_ble_eq_true rfl) (hb hby d25_18) (fun T5 X5 e5 => ?_)
  show own_G p e below _ (T5.setTop (mkF m 21 #[.val (.ref b), .val (.ref x)] []))
  exact own_retV X5 hx hret hlk (hb hby d25_21) ⟨rfl, rfl, e5⟩ (by decide) (by decide)
theorem rmIinLW (l : Launch) (Z : State) (a0 : Array Value) (hw : ∀ d ∈ tables_1, d.before a0 Z = true) (ws : List Jvm.Cond) (b t : Addr) (kt : ClassId) (N : Nat) (cs : List Int32) (x tx : Addr) (kx : ClassId) (ds : List Int32) (h0 : Heap) (SS : own_STW Z h0 x tx kx ds) (BB : own_SBL Z h0 b t kt N cs) (hcs : cs.length ≤ N) (hN : N ≤ 36) (hp : ∀ c ∈ cs, ¬ c < 0 ∧ ¬ (255 : Int32) < c) (n0 : Nat) (zn : Z.heap.size ≤ n0) (hn0 : n0 ≤ h0.size) (gb : n0 ≤ b) (OL0 : Old Z Z.heap.size h0) (G1 : Int32) (O2 : Sta Z Z.heap "java/lang/String" "COMPACT_STRINGS" "Z" (.int G1)) (P5 : ¬ (G1 = (0 : Int32))) (G3 : Value) (O4 : Sta Z Z.heap "jdk/internal/util/Preconditions" "SIOOBE_FORMATTER" "Ljava/util/function/BiFunction;" G3) (rG3 : G3.isRef = true) (SA1 : Sta Z Z.heap "java/lang/StringUTF16" "$assertionsDisabled" "Z" (.int 1)) (SA2 : Sta Z Z.heap "java/lang/StringUTF16" "HI_BYTE_SHIFT" "I" (.int 0)) (SA3 : Sta Z Z.heap "java/lang/StringUTF16" "LO_BYTE_SHIFT" "I" (.int 8)) :
    own_Met l Z (⟨"java/lang/AbstractStringBuilder", "inflateIfNeededFor", "(Ljava/lang/String;)V"⟩ : MethodName) jdk_68_method_71_code 2 none ws ⟨6, 1, 72, 89⟩ #[(.ref b), (.ref x)] h0 (fun v h L => ∃ (r : Addr) (kr : ClassId), v = none ∧ Fr n0 L ∧ Keep h0 h [b] ∧ h0.size ≤ r ∧ own_SBW Z h b r kr N cs) := by
  refine own_enter (plainFor_of_name pn2) (fun m => ef_iin m b x) ?_
  intro p e s m below meth c T0 hx hby hml hZ hown hnm hret hlk X0 e0
  show own_G p e below _ (T0.setTop (mkF m 0 #[.val (.ref b), .val (.ref x)] []))
  refine own_getS X0 hx hZ hown (own_w hw 52 rfl) e0 (O2.ext OL0.2) (hb hby d25_0) (fun T1 X1 e1 => ?_)
  show own_G p e below _ (T1.setTop (mkF m 3 #[.val (.ref b), .val (.ref x)] [(.int G1)]))
  refine own_if_eq X1 hx (hb hby d25_3) (pc' := 21) (by decide) (by decide) (fun c3 => absurd c3 P5) (fun c3 => ?_)
  refine own_step (b := T1.setTop (mkF m 7 #[.val (.ref b), .val (.ref x)] [(.ref b)])) (fun _ qk => XS.aloadN X1.here hx rfl (hb hby d25_6) rfl rfl qk) ?_
  refine own_getF X1 hx hZ hown (own_w hw 55 rfl) e1 BB.2.2.1 (hb hby d25_7) (fun T2 X2 e2 => ?_)
  refine own_step (b := T2.setTop (mkF m 11 #[.val (.ref b), .val (.ref x)] [(.ref x), (.int (0 : Int32))])) (fun _ qk => XS.aloadN X2.here hx rfl (hb hby d25_10) rfl rfl qk) ?_
  refine own_virtualP (a := x) (W := 1) (argsL := []) (st := [(.int (0 : Int32))]) X2 hx hZ hown (own_w hw 133 rfl) (own_w hw 112 rfl) (own_w hw 114 rfl) trivial (own_w hw 113 rfl) (by decide) e2 SS.1 (rmCod l Z a0 hw [] x (1 : Int32) h0 SS.2.1 rfl OL0 G1 O2 P5 G3 O4 rG3 SA1 SA2 SA3) (own_w hw 115 rfl) (own_w hw 4 rfl) (by decide) (by decide) (by decide) (by decide) (by rw [hml]; rfl) (lenOf pd1 rfl) rfl (Nat.le_of_ble_eq_true rfl) (hb hby d25_11) (fun T3 X3 e3 => ?_)
  show own_G p e below _ (T3.setTop (mkF m 14 #[.val (.ref b), .val (.ref x)] [(.int (1 : Int32)), (.int (0 : Int32))]))
  refine own_icmp_eq X3 hx (hb hby d25_14) (pc' := 21) (by decide) (by decide) (fun c14_4 => absurd c14_4 (by decide)) (fun c14_4 => ?_)
  refine own_step (b := T3.setTop (mkF m 18 #[.val (.ref b), .val (.ref x)] [(.ref b)])) (fun _ qk => XS.aloadN X3.here hx rfl (hb hby d25_17) rfl rfl qk) ?_
  refine own_virtual (a := b) (W := 0) (argsL := []) (st := []) X3 hx hZ hown (own_w hw 246 rfl) (own_decl (own_w hw 247 rfl) (own_w hw 250 rfl)) (own_w hw 249 rfl) trivial (own_w hw 247 rfl) (by decide) e3 BB.1 (own_back (W := 0) (rmBinfL l Z a0 hw [] b t kt N cs h0 BB hcs hN hp n0 zn hn0 gb OL0 G1 O2 P5 G3 O4 rG3 SA1 SA2 SA3) hZ (own_w hw 250 rfl) (own_w hw 49 rfl) (by decide) (by decide)) (by decide) (by decide) (by rw [hml]; rfl) (lenOf pd12 rfl) rfl (Nat.le_of_ble_eq_true rfl) (hb hby d25_18) (fun v5 T5 L5 X5 hQ5 => ?_)
  obtain ⟨r5, kr5, rfl, M5, K5, g5, BB5⟩ := hQ5
  show own_G p e below _ (T5.setTop (mkF m 21 #[.val (.ref b), .val (.ref x)] []))
  exact own_retV X5 hx hret hlk (hb hby d25_21) ⟨r5, kr5, rfl, M5, K5, g5, BB5⟩ (by decide) (by decide)
theorem ef_gb (m : MethodId) (x t : Addr) (y z : Int32) : entryFrame m #[(.ref x), (.ref t), (.int y), (.int z)] 4 = mkF m 0 #[.val (.ref x), .val (.ref t), .val (.int y), .val (.int z)] [] := by first | (simp [entryFrame, mkF, argsToLocals, Value.category, maxLocals]; done) | rfl
theorem rmGbL (l : Launch) (Z : State) (a0 : Array Value) (hw : ∀ d ∈ tables_1, d.before a0 Z = true) (ws : List Jvm.Cond) (x tx : Addr) (kx : ClassId) (ds : List Int32) (t : Addr) (kt : ClassId) (n N : Nat) (vd : List Value) (h0 : Heap) (SS : own_STL Z h0 x tx kx ds) (V : Arv Z h0 t kt .byte (Int32.ofNat N) vd (.int 0)) (hv : vd.length = N) (h1 : n + ds.length ≤ N) (hN : N ≤ 72) (n0 : Nat) (gt : n0 ≤ t) (OL0 : Old Z Z.heap.size h0) (G1 : Int32) (O2 : Sta Z Z.heap "java/lang/String" "COMPACT_STRINGS" "Z" (.int G1)) (P5 : ¬ (G1 = (0 : Int32))) (G3 : Value) (O4 : Sta Z Z.heap "jdk/internal/util/Preconditions" "SIOOBE_FORMATTER" "Ljava/util/function/BiFunction;" G3) (rG3 : G3.isRef = true) (SA1 : Sta Z Z.heap "java/lang/StringUTF16" "$assertionsDisabled" "Z" (.int 1)) (SA2 : Sta Z Z.heap "java/lang/StringUTF16" "HI_BYTE_SHIFT" "I" (.int 0)) (SA3 : Sta Z Z.heap "java/lang/StringUTF16" "LO_BYTE_SHIFT" "I" (.int 8)) :
    own_Met l Z (⟨"java/lang/String", "getBytes", "([BIB)V"⟩ : MethodName) jdk_42_method_147_code 4 none ws ⟨1, 0, 0, 18⟩ #[(.ref x), (.ref t), (.int (Int32.ofNat n)), (.int (0 : Int32))] h0 (fun v h L => v = none ∧ Fr n0 L ∧ Keep h0 h [t] ∧ Arv Z h t kt .byte (Int32.ofNat N) (vd.take n ++ own_L ds ++ vd.drop (n + ds.length)) (.int 0)) := by
  refine own_enter (plainFor_of_name pn1) (fun m => ef_gb m x t (Int32.ofNat n) (0 : Int32)) ?_
  intro p e s m below meth c T0 hx hby hml hZ hown hnm hret hlk X0 e0
  have N0 := Fr.nil n0
  refine own_step (b := T0.setTop (mkF m 1 #[.val (.ref x), .val (.ref t), .val (.int (Int32.ofNat n)), .val (.int (0 : Int32))] [(.ref x)])) (fun _ qk => XS.aloadN X0.here hx rfl (hb hby d26_0) rfl rfl qk) ?_
  refine own_virtualP (a := x) (W := 0) (argsL := []) (st := []) X0 hx hZ hown (own_w hw 111 rfl) (own_w hw 112 rfl) (own_w hw 114 rfl) trivial (own_w hw 113 rfl) (by decide) e0 SS.1 (rmCod l Z a0 hw [] x (0 : Int32) h0 SS.2.1 rfl OL0 G1 O2 P5 G3 O4 rG3 SA1 SA2 SA3) (own_w hw 115 rfl) (own_w hw 4 rfl) (by decide) (by decide) (by decide) (by decide) (by rw [hml]; rfl) (lenOf pd1 rfl) rfl (Nat.le_of_ble_eq_true rfl) (hb hby d26_1) (fun T1 X1 e1 => ?_)
  refine own_step (b := T1.setTop (mkF m 5 #[.val (.ref x), .val (.ref t), .val (.int (Int32.ofNat n)), .val (.int (0 : Int32))] [(.int (0 : Int32)), (.int (0 : Int32))])) (fun _ qk => XS.iloadN X1.here hx rfl (hb hby d26_4) rfl qk) ?_
  refine own_icmp_ne X1 hx (hb hby d26_5) (pc' := 28) (by decide) (by decide) (fun c5_2 => absurd c5_2 (by decide)) (fun c5_2 => ?_)
  refine own_step (b := T1.setTop (mkF m 9 #[.val (.ref x), .val (.ref t), .val (.int (Int32.ofNat n)), .val (.int (0 : Int32))] [(.ref x)])) (fun _ qk => XS.aloadN X1.here hx rfl (hb hby d26_8) rfl rfl qk) ?_
  refine own_getF X1 hx hZ hown (own_w hw 29 rfl) e1 SS.2.2.1 (hb hby d26_9) (fun T3 X3 e3 => ?_)
  refine own_step (b := T3.setTop (mkF m 17 #[.val (.ref x), .val (.ref t), .val (.int (Int32.ofNat n)), .val (.int (0 : Int32))] [(.int ((Int32.ofNat n) <<< ((0 : Int32) &&& 31))), (.ref t), (.int (0 : Int32)), (.ref tx)])) (fun _ qk => XS.iconst X3.here hx rfl (hb hby d26_12) (XS.aloadN X3.here hx rfl (hb hby d26_13) rfl rfl (XS.iloadN X3.here hx rfl (hb hby d26_14) rfl (XS.iloadN X3.here hx rfl (hb hby d26_15) rfl (XT.ishl X3.here hx rfl (hb hby d26_16) rfl qk))))) ?_
  rw [own_shl0]
  refine own_step (b := T3.setTop (mkF m 18 #[.val (.ref x), .val (.ref t), .val (.int (Int32.ofNat n)), .val (.int (0 : Int32))] [(.ref x), (.int (Int32.ofNat n)), (.ref t), (.int (0 : Int32)), (.ref tx)])) (fun _ qk => XS.aloadN X3.here hx rfl (hb hby d26_17) rfl rfl qk) ?_
  refine own_getF X3 hx hZ hown (own_w hw 29 rfl) e3 SS.2.2.1 (hb hby d26_18) (fun T4 X4 e4 => ?_)
  show own_G p e below _ (T4.setTop (mkF m 21 #[.val (.ref x), .val (.ref t), .val (.int (Int32.ofNat n)), .val (.int (0 : Int32))] [(.ref tx), (.int (Int32.ofNat n)), (.ref t), (.int (0 : Int32)), (.ref tx)]))
  refine own_len X4 hx hZ e4 SS.2.2.2.1 (hb hby d26_21) ?_
  show own_G p e below _ (T4.setTop (mkF m 22 #[.val (.ref x), .val (.ref t), .val (.int (Int32.ofNat n)), .val (.int (0 : Int32))] [(.int (Int32.ofNat ds.length)), (.int (Int32.ofNat n)), (.ref t), (.int (0 : Int32)), (.ref tx)]))
  refine own_cpD (W := 0) (sp := 0) (dp := n) (nn := ds.length) X4 hx hZ hown (own_w hw 139 rfl) (own_w hw 142 rfl) (own_w hw 140 rfl) (own_w hw 141 rfl) e4 SS.2.2.2.1 V SS.2.2.2.2 hv (by omega) (by omega) (by omega) (by omega) N0 gt (by rw [hml]; rfl) (hb hby d26_22) (by decide) (Nat.le_of_ble_eq_true rfl) (by decide) (fun T5 h5 L5 X5 e5 N5 K5 z5 V5 => ?_)
  refine own_step (b := T5.setTop (mkF m 43 #[.val (.ref x), .val (.ref t), .val (.int (Int32.ofNat n)), .val (.int (0 : Int32))] [])) (fun _ qk => XS.goto X5.here hx rfl (pc0 := 25) (pc' := 43) rfl (hb hby d26_25) (by decide) (by decide) qk) ?_
  subst e5
  exact own_retV X5 hx hret hlk (hb hby d26_43) ⟨rfl, N5, K5, by have q := V5; rw [List.drop_zero, List.take_of_length_le (l := own_L ds) (by rw [SS.2.2.2.2]; exact Nat.le_refl _)] at q; exact q⟩ (by decide) (by decide)
theorem rmGbW (l : Launch) (Z : State) (a0 : Array Value) (hw : ∀ d ∈ tables_1, d.before a0 Z = true) (ws : List Jvm.Cond) (x tx : Addr) (kx : ClassId) (ds : List Int32) (t : Addr) (kt : ClassId) (n N : Nat) (vd : List Value) (h0 : Heap) (SS : own_STW Z h0 x tx kx ds) (V : Arv Z h0 t kt .byte (Int32.ofNat N) vd (.int 0)) (hv : vd.length = N) (h1 : (2 * n) + (2 * ds.length) ≤ N) (hN : N ≤ 72) (n0 : Nat) (gt : n0 ≤ t) (OL0 : Old Z Z.heap.size h0) (G1 : Int32) (O2 : Sta Z Z.heap "java/lang/String" "COMPACT_STRINGS" "Z" (.int G1)) (P5 : ¬ (G1 = (0 : Int32))) (G3 : Value) (O4 : Sta Z Z.heap "jdk/internal/util/Preconditions" "SIOOBE_FORMATTER" "Ljava/util/function/BiFunction;" G3) (rG3 : G3.isRef = true) (SA1 : Sta Z Z.heap "java/lang/StringUTF16" "$assertionsDisabled" "Z" (.int 1)) (SA2 : Sta Z Z.heap "java/lang/StringUTF16" "HI_BYTE_SHIFT" "I" (.int 0)) (SA3 : Sta Z Z.heap "java/lang/StringUTF16" "LO_BYTE_SHIFT" "I" (.int 8)) :
    own_Met l Z (⟨"java/lang/String", "getBytes", "([BIB)V"⟩ : MethodName) jdk_42_method_147_code 4 none ws ⟨1, 0, 0, 18⟩ #[(.ref x), (.ref t), (.int (Int32.ofNat n)), (.int (1 : Int32))] h0 (fun v h L => v = none ∧ Fr n0 L ∧ Keep h0 h [t] ∧ Arv Z h t kt .byte (Int32.ofNat N) (vd.take (2 * n) ++ own_wb ds ++ vd.drop ((2 * n) + (2 * ds.length))) (.int 0)) := by
  refine own_enter (plainFor_of_name pn1) (fun m => ef_gb m x t (Int32.ofNat n) (1 : Int32)) ?_
  intro p e s m below meth c T0 hx hby hml hZ hown hnm hret hlk X0 e0
  have N0 := Fr.nil n0
  refine own_step (b := T0.setTop (mkF m 1 #[.val (.ref x), .val (.ref t), .val (.int (Int32.ofNat n)), .val (.int (1 : Int32))] [(.ref x)])) (fun _ qk => XS.aloadN X0.here hx rfl (hb hby d26_0) rfl rfl qk) ?_
  refine own_virtualP (a := x) (W := 0) (argsL := []) (st := []) X0 hx hZ hown (own_w hw 111 rfl) (own_w hw 112 rfl) (own_w hw 114 rfl) trivial (own_w hw 113 rfl) (by decide) e0 SS.1 (rmCod l Z a0 hw [] x (1 : Int32) h0 SS.2.1 rfl OL0 G1 O2 P5 G3 O4 rG3 SA1 SA2 SA3) (own_w hw 115 rfl) (own_w hw 4 rfl) (by decide) (by decide) (by decide) (by decide) (by rw [hml]; rfl) (lenOf pd1 rfl) rfl (Nat.le_of_ble_eq_true rfl) (hb hby d26_1) (fun T1 X1 e1 => ?_)
  refine own_step (b := T1.setTop (mkF m 5 #[.val (.ref x), .val (.ref t), .val (.int (Int32.ofNat n)), .val (.int (1 : Int32))] [(.int (1 : Int32)), (.int (1 : Int32))])) (fun _ qk => XS.iloadN X1.here hx rfl (hb hby d26_4) rfl qk) ?_
  refine own_icmp_ne X1 hx (hb hby d26_5) (pc' := 28) (by decide) (by decide) (fun c5_2 => absurd c5_2 (by decide)) (fun c5_2 => ?_)
  refine own_step (b := T1.setTop (mkF m 9 #[.val (.ref x), .val (.ref t), .val (.int (Int32.ofNat n)), .val (.int (1 : Int32))] [(.ref x)])) (fun _ qk => XS.aloadN X1.here hx rfl (hb hby d26_8) rfl rfl qk) ?_
  refine own_getF X1 hx hZ hown (own_w hw 29 rfl) e1 SS.2.2.1 (hb hby d26_9) (fun T3 X3 e3 => ?_)
  refine own_step (b := T3.setTop (mkF m 17 #[.val (.ref x), .val (.ref t), .val (.int (Int32.ofNat n)), .val (.int (1 : Int32))] [(.int ((Int32.ofNat n) <<< ((1 : Int32) &&& 31))), (.ref t), (.int (0 : Int32)), (.ref tx)])) (fun _ qk => XS.iconst X3.here hx rfl (hb hby d26_12) (XS.aloadN X3.here hx rfl (hb hby d26_13) rfl rfl (XS.iloadN X3.here hx rfl (hb hby d26_14) rfl (XS.iloadN X3.here hx rfl (hb hby d26_15) rfl (XT.ishl X3.here hx rfl (hb hby d26_16) rfl qk))))) ?_
  rw [own_shl1 (by omega)]
  refine own_step (b := T3.setTop (mkF m 18 #[.val (.ref x), .val (.ref t), .val (.int (Int32.ofNat n)), .val (.int (1 : Int32))] [(.ref x), (.int (Int32.ofNat (2 * n))), (.ref t), (.int (0 : Int32)), (.ref tx)])) (fun _ qk => XS.aloadN X3.here hx rfl (hb hby d26_17) rfl rfl qk) ?_
  refine own_getF X3 hx hZ hown (own_w hw 29 rfl) e3 SS.2.2.1 (hb hby d26_18) (fun T4 X4 e4 => ?_)
  show own_G p e below _ (T4.setTop (mkF m 21 #[.val (.ref x), .val (.ref t), .val (.int (Int32.ofNat n)), .val (.int (1 : Int32))] [(.ref tx), (.int (Int32.ofNat (2 * n))), (.ref t), (.int (0 : Int32)), (.ref tx)]))
  refine own_len X4 hx hZ e4 SS.2.2.2.1 (hb hby d26_21) ?_
  show own_G p e below _ (T4.setTop (mkF m 22 #[.val (.ref x), .val (.ref t), .val (.int (Int32.ofNat n)), .val (.int (1 : Int32))] [(.int (Int32.ofNat (2 * ds.length))), (.int (Int32.ofNat (2 * n))), (.ref t), (.int (0 : Int32)), (.ref tx)]))
  refine own_cpD (W := 0) (sp := 0) (dp := (2 * n)) (nn := (2 * ds.length)) X4 hx hZ hown (own_w hw 139 rfl) (own_w hw 142 rfl) (own_w hw 140 rfl) (own_w hw 141 rfl) e4 SS.2.2.2.1 V SS.2.2.2.2 hv (by omega) (by omega) (by omega) (by omega) N0 gt (by rw [hml]; rfl) (hb hby d26_22) (by decide) (Nat.le_of_ble_eq_true rfl) (by decide) (fun T5 h5 L5 X5 e5 N5 K5 z5 V5 => ?_)
  refine own_step (b := T5.setTop (mkF m 43 #[.val (.ref x), .val (.ref t), .val (.int (Int32.ofNat n)), .val (.int (1 : Int32))] [])) (fun _ qk => XS.goto X5.here hx rfl (pc0 := 25) (pc' := 43) rfl (hb hby d26_25) (by decide) (by decide) qk) ?_
  subst e5
  exact own_retV X5 hx hret hlk (hb hby d26_43) ⟨rfl, N5, K5, by have q := V5; rw [List.drop_zero, List.take_of_length_le (l := own_wb ds) (by rw [SS.2.2.2.2]; exact Nat.le_refl _)] at q; exact q⟩ (by decide) (by decide)
theorem rmGbD (l : Launch) (Z : State) (a0 : Array Value) (hw : ∀ d ∈ tables_1, d.before a0 Z = true) (ws : List Jvm.Cond) (x tx : Addr) (kx : ClassId) (ds : List Int32) (t : Addr) (kt : ClassId) (n q : Nat) (vd : List Value) (h0 : Heap) (SS : own_STL Z h0 x tx kx ds) (V : Arv Z h0 t kt .byte (Int32.ofNat (2 * q)) vd (.int 0)) (hv : vd.length = 2 * q) (h1 : n + ds.length ≤ q) (h2 : q ≤ 36) (hp : ∀ c ∈ ds, ¬ c < 0 ∧ ¬ (255 : Int32) < c) (hne : tx ≠ t) (n0 : Nat) (zn : Z.heap.size ≤ n0) (gt : n0 ≤ t) (OL0 : Old Z Z.heap.size h0) (G1 : Int32) (O2 : Sta Z Z.heap "java/lang/String" "COMPACT_STRINGS" "Z" (.int G1)) (P5 : ¬ (G1 = (0 : Int32))) (G3 : Value) (O4 : Sta Z Z.heap "jdk/internal/util/Preconditions" "SIOOBE_FORMATTER" "Ljava/util/function/BiFunction;" G3) (rG3 : G3.isRef = true) (SA1 : Sta Z Z.heap "java/lang/StringUTF16" "$assertionsDisabled" "Z" (.int 1)) (SA2 : Sta Z Z.heap "java/lang/StringUTF16" "HI_BYTE_SHIFT" "I" (.int 0)) (SA3 : Sta Z Z.heap "java/lang/StringUTF16" "LO_BYTE_SHIFT" "I" (.int 8)) :
    own_Met l Z (⟨"java/lang/String", "getBytes", "([BIB)V"⟩ : MethodName) jdk_42_method_147_code 4 none ws ⟨5, 0, 0, 76⟩ #[(.ref x), (.ref t), (.int (Int32.ofNat n)), (.int (1 : Int32))] h0 (fun v h L => v = none ∧ Fr n0 L ∧ Keep h0 h [t] ∧ Arv Z h t kt .byte (Int32.ofNat (2 * q)) (vd.take (2 * n) ++ own_wb ds ++ vd.drop (2 * n + 2 * ds.length)) (.int 0)) := by
  refine own_enter (plainFor_of_name pn1) (fun m => ef_gb m x t (Int32.ofNat n) (1 : Int32)) ?_
  intro p e s m below meth c T0 hx hby hml hZ hown hnm hret hlk X0 e0
  have N0 := Fr.nil n0
  refine own_step (b := T0.setTop (mkF m 1 #[.val (.ref x), .val (.ref t), .val (.int (Int32.ofNat n)), .val (.int (1 : Int32))] [(.ref x)])) (fun _ qk => XS.aloadN X0.here hx rfl (hb hby d26_0) rfl rfl qk) ?_
  refine own_virtualP (a := x) (W := 0) (argsL := []) (st := []) X0 hx hZ hown (own_w hw 111 rfl) (own_w hw 112 rfl) (own_w hw 114 rfl) trivial (own_w hw 113 rfl) (by decide) e0 SS.1 (rmCod l Z a0 hw [] x (0 : Int32) h0 SS.2.1 rfl OL0 G1 O2 P5 G3 O4 rG3 SA1 SA2 SA3) (own_w hw 115 rfl) (own_w hw 4 rfl) (by decide) (by decide) (by decide) (by decide) (by rw [hml]; rfl) (lenOf pd1 rfl) rfl (Nat.le_of_ble_eq_true rfl) (hb hby d26_1) (fun T1 X1 e1 => ?_)
  refine own_step (b := T1.setTop (mkF m 5 #[.val (.ref x), .val (.ref t), .val (.int (Int32.ofNat n)), .val (.int (1 : Int32))] [(.int (1 : Int32)), (.int (0 : Int32))])) (fun _ qk => XS.iloadN X1.here hx rfl (hb hby d26_4) rfl qk) ?_
  refine own_icmp_ne X1 hx (hb hby d26_5) (pc' := 28) (by decide) (by decide) (fun c5_2 => ?_) (fun c5_2 => absurd c5_2 (by decide))
  refine own_step (b := T1.setTop (mkF m 29 #[.val (.ref x), .val (.ref t), .val (.int (Int32.ofNat n)), .val (.int (1 : Int32))] [(.ref x)])) (fun _ qk => XS.aloadN X1.here hx rfl (hb hby d26_28) rfl rfl qk) ?_
  refine own_getF X1 hx hZ hown (own_w hw 29 rfl) e1 SS.2.2.1 (hb hby d26_29) (fun T3 X3 e3 => ?_)
  refine own_step (b := T3.setTop (mkF m 36 #[.val (.ref x), .val (.ref t), .val (.int (Int32.ofNat n)), .val (.int (1 : Int32))] [(.ref x), (.int (Int32.ofNat n)), (.ref t), (.int (0 : Int32)), (.ref tx)])) (fun _ qk => XS.iconst X3.here hx rfl (hb hby d26_32) (XS.aloadN X3.here hx rfl (hb hby d26_33) rfl rfl (XS.iloadN X3.here hx rfl (hb hby d26_34) rfl (XS.aloadN X3.here hx rfl (hb hby d26_35) rfl rfl qk)))) ?_
  refine own_getF X3 hx hZ hown (own_w hw 29 rfl) e3 SS.2.2.1 (hb hby d26_36) (fun T4 X4 e4 => ?_)
  show own_G p e below _ (T4.setTop (mkF m 39 #[.val (.ref x), .val (.ref t), .val (.int (Int32.ofNat n)), .val (.int (1 : Int32))] [(.ref tx), (.int (Int32.ofNat n)), (.ref t), (.int (0 : Int32)), (.ref tx)]))
  refine own_len X4 hx hZ e4 SS.2.2.2.1 (hb hby d26_39) ?_
  show own_G p e below _ (T4.setTop (mkF m 40 #[.val (.ref x), .val (.ref t), .val (.int (Int32.ofNat n)), .val (.int (1 : Int32))] [(.int (Int32.ofNat ds.length)), (.int (Int32.ofNat n)), (.ref t), (.int (0 : Int32)), (.ref tx)]))
  refine own_static (W := 0) (argsL := [(.ref tx), (.int (0 : Int32)), (.ref t), (.int (Int32.ofNat n)), (.int (Int32.ofNat ds.length))]) (st := []) X4 hx hZ hown (own_w hw 268 rfl) (own_w hw 254 rfl) (own_w hw 85 rfl) (own_w hw 255 rfl) (by decide) e4 (own_back (W := 0) (rmInfL l Z a0 hw [] tx t kx kt ds.length n q ds [] vd h0 (by rw [List.append_nil]; exact SS.2.2.2.1) V (Nat.le_refl _) (by omega) hv h1 h2 hp hne n0 zn gt OL0 G1 O2 P5 G3 O4 rG3 SA1 SA2 SA3) hZ (own_w hw 255 rfl) (own_w hw 85 rfl) (by decide) (by decide)) (by decide) (by decide) (by rw [hml]; rfl) (lenOf pd9 rfl) rfl (Nat.le_of_ble_eq_true rfl) (hb hby d26_40) (fun v5 T5 L5 X5 hQ5 => ?_)
  obtain ⟨rfl, M5, K5, z5, V5⟩ := hQ5
  show own_G p e below _ (T5.setTop (mkF m 43 #[.val (.ref x), .val (.ref t), .val (.int (Int32.ofNat n)), .val (.int (1 : Int32))] []))
  exact own_retV X5 hx hret hlk (hb hby d26_43) ⟨rfl, M5, K5, V5⟩ (by decide) (by decide)
theorem ef_ps (m : MethodId) (b x : Addr) (i : Int32) : entryFrame m #[(.ref b), (.int i), (.ref x)] 3 = mkF m 0 #[.val (.ref b), .val (.int i), .val (.ref x)] [] := by first | (simp [entryFrame, mkF, argsToLocals, Value.category, maxLocals]; done) | rfl
theorem rmPsLL (l : Launch) (Z : State) (a0 : Array Value) (hw : ∀ d ∈ tables_1, d.before a0 Z = true) (ws : List Jvm.Cond) (b t : Addr) (kt : ClassId) (N : Nat) (cs : List Int32) (x tx : Addr) (kx : ClassId) (ds : List Int32) (h0 : Heap) (BB : own_SBL Z h0 b t kt N cs) (SS : own_STL Z h0 x tx kx ds) (h1 : cs.length + ds.length ≤ N) (hN : N ≤ 36) (n0 : Nat) (zn : Z.heap.size ≤ n0) (hn0 : n0 ≤ h0.size) (gb : n0 ≤ b) (gt : n0 ≤ t) (OL0 : Old Z Z.heap.size h0) (G1 : Int32) (O2 : Sta Z Z.heap "java/lang/String" "COMPACT_STRINGS" "Z" (.int G1)) (P5 : ¬ (G1 = (0 : Int32))) (G3 : Value) (O4 : Sta Z Z.heap "jdk/internal/util/Preconditions" "SIOOBE_FORMATTER" "Ljava/util/function/BiFunction;" G3) (rG3 : G3.isRef = true) (SA1 : Sta Z Z.heap "java/lang/StringUTF16" "$assertionsDisabled" "Z" (.int 1)) (SA2 : Sta Z Z.heap "java/lang/StringUTF16" "HI_BYTE_SHIFT" "I" (.int 0)) (SA3 : Sta Z Z.heap "java/lang/StringUTF16" "LO_BYTE_SHIFT" "I" (.int 8)) :
    own_Met l Z (⟨"java/lang/AbstractStringBuilder", "putStringAt", "(ILjava/lang/String;)V"⟩ : MethodName) jdk_68_method_73_code 3 none ws ⟨2, 0, 0, 33⟩ #[(.ref b), (.int (Int32.ofNat cs.length)), (.ref x)] h0 (fun v h L => ∃ (r : Addr) (kr : ClassId), v = none ∧ Fr n0 L ∧ Keep h0 h [b, t] ∧ n0 ≤ r ∧ own_SB Z h b r kr (0 : Int32) cs.length N (own_L (cs ++ ds) ++ own_Z (N - (cs ++ ds).length))) := by
  refine own_enter (plainFor_of_name pn2) (fun m => ef_ps m b x (Int32.ofNat cs.length)) ?_
  intro p e s m below meth c T0 hx hby hml hZ hown hnm hret hlk X0 e0
  have lb : @LT.lt Nat instLTNat b h0.size := BB.1.lt
  have N0 := Fr.nil n0
  have nbt : b ≠ t := BB.1.neArv BB.2.2.2.2.2.1 (own_w hw 40 rfl)
  refine own_step (b := T0.setTop (mkF m 2 #[.val (.ref b), .val (.int (Int32.ofNat cs.length)), .val (.ref x)] [(.ref x), (.ref b)])) (fun _ qk => XS.aloadN X0.here hx rfl (hb hby d24_0) rfl rfl (XS.aloadN X0.here hx rfl (hb hby d24_1) rfl rfl qk)) ?_
  refine own_virtualP (a := b) (W := 0) (argsL := [(.ref x)]) (st := []) X0 hx hZ hown (own_w hw 128 rfl) (own_decl (own_w hw 129 rfl) (own_w hw 132 rfl)) (own_w hw 131 rfl) trivial (own_w hw 129 rfl) (by decide) e0 BB.1 (rmIinLL l Z a0 hw [] b t kt N cs x tx kx ds h0 BB SS OL0 G1 O2 P5 G3 O4 rG3 SA1 SA2 SA3) (own_w hw 132 rfl) (own_w hw 49 rfl) (by decide) (by decide) (by decide) (by decide) (by rw [hml]; rfl) (lenOf pd13 rfl) rfl (Nat.le_of_ble_eq_true rfl) (hb hby d24_2) (fun T1 X1 e1 => ?_)
  refine own_step (b := T1.setTop (mkF m 7 #[.val (.ref b), .val (.int (Int32.ofNat cs.length)), .val (.ref x)] [(.ref b), (.ref x)])) (fun _ qk => XS.aloadN X1.here hx rfl (hb hby d24_5) rfl rfl (XS.aloadN X1.here hx rfl (hb hby d24_6) rfl rfl qk)) ?_
  refine own_getF X1 hx hZ hown (own_w hw 53 rfl) e1 BB.2.1 (hb hby d24_7) (fun T2 X2 e2 => ?_)
  refine own_step (b := T2.setTop (mkF m 12 #[.val (.ref b), .val (.int (Int32.ofNat cs.length)), .val (.ref x)] [(.ref b), (.int (Int32.ofNat cs.length)), (.ref t), (.ref x)])) (fun _ qk => XS.iloadN X2.here hx rfl (hb hby d24_10) rfl (XS.aloadN X2.here hx rfl (hb hby d24_11) rfl rfl qk)) ?_
  refine own_getF X2 hx hZ hown (own_w hw 55 rfl) e2 BB.2.2.1 (hb hby d24_12) (fun T3 X3 e3 => ?_)
  show own_G p e below _ (T3.setTop (mkF m 15 #[.val (.ref b), .val (.int (Int32.ofNat cs.length)), .val (.ref x)] [(.int (0 : Int32)), (.int (Int32.ofNat cs.length)), (.ref t), (.ref x)]))
  refine own_virtual (a := x) (W := 0) (argsL := [(.ref t), (.int (Int32.ofNat cs.length)), (.int (0 : Int32))]) (st := []) X3 hx hZ hown (own_w hw 134 rfl) (own_w hw 135 rfl) (own_w hw 137 rfl) trivial (own_w hw 136 rfl) (by decide) e3 SS.1 (own_back (W := 0) (rmGbL l Z a0 hw [] x tx kx ds t kt cs.length N _ h0 SS BB.2.2.2.2.2.1 BB.2.2.2.2.2.2 (by omega) (by omega) n0 gt OL0 G1 O2 P5 G3 O4 rG3 SA1 SA2 SA3) hZ (own_w hw 138 rfl) (own_w hw 4 rfl) (by decide) (by decide)) (by decide) (by decide) (by rw [hml]; rfl) (lenOf pd14 rfl) rfl (Nat.le_of_ble_eq_true rfl) (hb hby d24_15) (fun v4 T4 L4 X4 hQ4 => ?_)
  obtain ⟨rfl, M4, K4, V4⟩ := hQ4
  show own_G p e below _ (T4.setTop (mkF m 18 #[.val (.ref b), .val (.int (Int32.ofNat cs.length)), .val (.ref x)] []))
  rw [own_nL h1] at V4
  have nbr : b ∉ [t] := ninS nbt nin0
  exact own_retV X4 hx hret hlk (hb hby d24_18) ⟨t, kt, rfl, Fr.app N0 M4, (Keep.refl h0 [b, t]).trans K4 (allS (Or.inl (by simp)) all0), gt, ⟨BB.1.keep K4, BB.2.1.keep K4 nbr, BB.2.2.1.keep K4 nbr, BB.2.2.2.1.keep K4 nbr, BB.2.2.2.2.1.keep K4 nbr, V4, (by rw [List.length_append, List.length_map, List.length_replicate]; rw [List.length_append]; omega)⟩⟩ (by decide) (by decide)
theorem rmPsLW (l : Launch) (Z : State) (a0 : Array Value) (hw : ∀ d ∈ tables_1, d.before a0 Z = true) (ws : List Jvm.Cond) (b t : Addr) (kt : ClassId) (N : Nat) (cs : List Int32) (x tx : Addr) (kx : ClassId) (ds : List Int32) (h0 : Heap) (BB : own_SBL Z h0 b t kt N cs) (SS : own_STW Z h0 x tx kx ds) (h1 : cs.length + ds.length ≤ N) (hN : N ≤ 36) (hp : ∀ c ∈ cs, ¬ c < 0 ∧ ¬ (255 : Int32) < c) (n0 : Nat) (zn : Z.heap.size ≤ n0) (hn0 : n0 ≤ h0.size) (gb : n0 ≤ b) (gt : n0 ≤ t) (OL0 : Old Z Z.heap.size h0) (G1 : Int32) (O2 : Sta Z Z.heap "java/lang/String" "COMPACT_STRINGS" "Z" (.int G1)) (P5 : ¬ (G1 = (0 : Int32))) (G3 : Value) (O4 : Sta Z Z.heap "jdk/internal/util/Preconditions" "SIOOBE_FORMATTER" "Ljava/util/function/BiFunction;" G3) (rG3 : G3.isRef = true) (SA1 : Sta Z Z.heap "java/lang/StringUTF16" "$assertionsDisabled" "Z" (.int 1)) (SA2 : Sta Z Z.heap "java/lang/StringUTF16" "HI_BYTE_SHIFT" "I" (.int 0)) (SA3 : Sta Z Z.heap "java/lang/StringUTF16" "LO_BYTE_SHIFT" "I" (.int 8)) :
    own_Met l Z (⟨"java/lang/AbstractStringBuilder", "putStringAt", "(ILjava/lang/String;)V"⟩ : MethodName) jdk_68_method_73_code 3 none ws ⟨7, 1, 72, 102⟩ #[(.ref b), (.int (Int32.ofNat cs.length)), (.ref x)] h0 (fun v h L => ∃ (r : Addr) (kr : ClassId), v = none ∧ Fr n0 L ∧ Keep h0 h [b, t] ∧ n0 ≤ r ∧ own_SB Z h b r kr (1 : Int32) cs.length (2 * N) (own_wb (cs ++ ds) ++ own_Z (2 * N - 2 * (cs ++ ds).length))) := by
  refine own_enter (plainFor_of_name pn2) (fun m => ef_ps m b x (Int32.ofNat cs.length)) ?_
  intro p e s m below meth c T0 hx hby hml hZ hown hnm hret hlk X0 e0
  have lb : @LT.lt Nat instLTNat b h0.size := BB.1.lt
  have N0 := Fr.nil n0
  have nbt : b ≠ t := BB.1.neArv BB.2.2.2.2.2.1 (own_w hw 40 rfl)
  refine own_step (b := T0.setTop (mkF m 2 #[.val (.ref b), .val (.int (Int32.ofNat cs.length)), .val (.ref x)] [(.ref x), (.ref b)])) (fun _ qk => XS.aloadN X0.here hx rfl (hb hby d24_0) rfl rfl (XS.aloadN X0.here hx rfl (hb hby d24_1) rfl rfl qk)) ?_
  refine own_virtual (a := b) (W := 0) (argsL := [(.ref x)]) (st := []) X0 hx hZ hown (own_w hw 128 rfl) (own_decl (own_w hw 129 rfl) (own_w hw 132 rfl)) (own_w hw 131 rfl) trivial (own_w hw 129 rfl) (by decide) e0 BB.1 (own_back (W := 0) (rmIinLW l Z a0 hw [] b t kt N cs x tx kx ds h0 SS BB (by omega) hN hp n0 zn hn0 gb OL0 G1 O2 P5 G3 O4 rG3 SA1 SA2 SA3) hZ (own_w hw 132 rfl) (own_w hw 49 rfl) (by decide) (by decide)) (by decide) (by decide) (by rw [hml]; rfl) (lenOf pd13 rfl) rfl (Nat.le_of_ble_eq_true rfl) (hb hby d24_2) (fun v1 T1 L1 X1 hQ1 => ?_)
  obtain ⟨r1, kr1, rfl, M1, K1, g1, BB1⟩ := hQ1
  have SS1 := SS.keep K1 (ninS (SS.1.ne BB.1 (by decide)) nin0) (ninS (BB.1.neArv SS.2.2.2.1 (own_w hw 40 rfl)).symm nin0)
  have OL1 := OL0.keep K1 (allS (by omega) all0)
  have N1 := Fr.app N0 M1
  refine own_step (b := T1.setTop (mkF m 7 #[.val (.ref b), .val (.int (Int32.ofNat cs.length)), .val (.ref x)] [(.ref b), (.ref x)])) (fun _ qk => XS.aloadN X1.here hx rfl (hb hby d24_5) rfl rfl (XS.aloadN X1.here hx rfl (hb hby d24_6) rfl rfl qk)) ?_
  refine own_getF X1 hx hZ hown (own_w hw 53 rfl) rfl BB1.2.1 (hb hby d24_7) (fun T2 X2 e2 => ?_)
  refine own_step (b := T2.setTop (mkF m 12 #[.val (.ref b), .val (.int (Int32.ofNat cs.length)), .val (.ref x)] [(.ref b), (.int (Int32.ofNat cs.length)), (.ref r1), (.ref x)])) (fun _ qk => XS.iloadN X2.here hx rfl (hb hby d24_10) rfl (XS.aloadN X2.here hx rfl (hb hby d24_11) rfl rfl qk)) ?_
  refine own_getF X2 hx hZ hown (own_w hw 55 rfl) e2 BB1.2.2.1 (hb hby d24_12) (fun T3 X3 e3 => ?_)
  show own_G p e below _ (T3.setTop (mkF m 15 #[.val (.ref b), .val (.int (Int32.ofNat cs.length)), .val (.ref x)] [(.int (1 : Int32)), (.int (Int32.ofNat cs.length)), (.ref r1), (.ref x)]))
  refine own_virtual (a := x) (W := 0) (argsL := [(.ref r1), (.int (Int32.ofNat cs.length)), (.int (1 : Int32))]) (st := []) X3 hx hZ hown (own_w hw 134 rfl) (own_w hw 135 rfl) (own_w hw 137 rfl) trivial (own_w hw 136 rfl) (by decide) e3 SS1.1 (own_back (W := 0) (rmGbW l Z a0 hw [] x tx kx ds r1 kr1 cs.length (2 * N) _ T1.heap SS1 BB1.2.2.2.2.2.1 BB1.2.2.2.2.2.2 (by omega) (by omega) n0 (by omega) OL1 G1 O2 P5 G3 O4 rG3 SA1 SA2 SA3) hZ (own_w hw 138 rfl) (own_w hw 4 rfl) (by decide) (by decide)) (by decide) (by decide) (by rw [hml]; rfl) (lenOf pd14 rfl) rfl (Nat.le_of_ble_eq_true rfl) (hb hby d24_15) (fun v4 T4 L4 X4 hQ4 => ?_)
  obtain ⟨rfl, M4, K4, V4⟩ := hQ4
  show own_G p e below _ (T4.setTop (mkF m 18 #[.val (.ref b), .val (.int (Int32.ofNat cs.length)), .val (.ref x)] []))
  rw [own_nW h1] at V4
  have nbr : b ∉ [r1] := ninS (BB1.1.neArv BB1.2.2.2.2.2.1 (own_w hw 40 rfl)) nin0
  exact own_retV X4 hx hret hlk (hb hby d24_18) ⟨r1, kr1, rfl, Fr.app N1 M4, ((Keep.refl h0 [b, t]).trans K1 (allS (Or.inl (by simp)) all0)).trans K4 (allS (Or.inr (by omega)) all0), (by omega), ⟨BB1.1.keep K4, BB1.2.1.keep K4 nbr, BB1.2.2.1.keep K4 nbr, BB1.2.2.2.1.keep K4 nbr, BB1.2.2.2.2.1.keep K4 nbr, V4, (by rw [List.length_append, own_wb_len, List.length_replicate]; rw [List.length_append]; omega)⟩⟩ (by decide) (by decide)
theorem rmPsWL (l : Launch) (Z : State) (a0 : Array Value) (hw : ∀ d ∈ tables_1, d.before a0 Z = true) (ws : List Jvm.Cond) (b t : Addr) (kt : ClassId) (N : Nat) (cs : List Int32) (x tx : Addr) (kx : ClassId) (ds : List Int32) (h0 : Heap) (BB : own_SBW Z h0 b t kt N cs) (SS : own_STL Z h0 x tx kx ds) (h1 : cs.length + ds.length ≤ N) (hN : N ≤ 36) (hpd : ∀ c ∈ ds, ¬ c < 0 ∧ ¬ (255 : Int32) < c) (hne : tx ≠ t) (n0 : Nat) (zn : Z.heap.size ≤ n0) (hn0 : n0 ≤ h0.size) (gb : n0 ≤ b) (gt : n0 ≤ t) (OL0 : Old Z Z.heap.size h0) (G1 : Int32) (O2 : Sta Z Z.heap "java/lang/String" "COMPACT_STRINGS" "Z" (.int G1)) (P5 : ¬ (G1 = (0 : Int32))) (G3 : Value) (O4 : Sta Z Z.heap "jdk/internal/util/Preconditions" "SIOOBE_FORMATTER" "Ljava/util/function/BiFunction;" G3) (rG3 : G3.isRef = true) (SA1 : Sta Z Z.heap "java/lang/StringUTF16" "$assertionsDisabled" "Z" (.int 1)) (SA2 : Sta Z Z.heap "java/lang/StringUTF16" "HI_BYTE_SHIFT" "I" (.int 0)) (SA3 : Sta Z Z.heap "java/lang/StringUTF16" "LO_BYTE_SHIFT" "I" (.int 8)) :
    own_Met l Z (⟨"java/lang/AbstractStringBuilder", "putStringAt", "(ILjava/lang/String;)V"⟩ : MethodName) jdk_68_method_73_code 3 none ws ⟨6, 0, 0, 91⟩ #[(.ref b), (.int (Int32.ofNat cs.length)), (.ref x)] h0 (fun v h L => ∃ (r : Addr) (kr : ClassId), v = none ∧ Fr n0 L ∧ Keep h0 h [b, t] ∧ n0 ≤ r ∧ own_SB Z h b r kr (1 : Int32) cs.length (2 * N) (own_wb (cs ++ ds) ++ own_Z (2 * N - 2 * (cs ++ ds).length))) := by
  refine own_enter (plainFor_of_name pn2) (fun m => ef_ps m b x (Int32.ofNat cs.length)) ?_
  intro p e s m below meth c T0 hx hby hml hZ hown hnm hret hlk X0 e0
  have lb : @LT.lt Nat instLTNat b h0.size := BB.1.lt
  have N0 := Fr.nil n0
  have nbt : b ≠ t := BB.1.neArv BB.2.2.2.2.2.1 (own_w hw 40 rfl)
  refine own_step (b := T0.setTop (mkF m 2 #[.val (.ref b), .val (.int (Int32.ofNat cs.length)), .val (.ref x)] [(.ref x), (.ref b)])) (fun _ qk => XS.aloadN X0.here hx rfl (hb hby d24_0) rfl rfl (XS.aloadN X0.here hx rfl (hb hby d24_1) rfl rfl qk)) ?_
  refine own_virtualP (a := b) (W := 0) (argsL := [(.ref x)]) (st := []) X0 hx hZ hown (own_w hw 128 rfl) (own_decl (own_w hw 129 rfl) (own_w hw 132 rfl)) (own_w hw 131 rfl) trivial (own_w hw 129 rfl) (by decide) e0 BB.1 (rmIinWL l Z a0 hw [] b t kt N cs x tx kx ds h0 BB SS OL0 G1 O2 P5 G3 O4 rG3 SA1 SA2 SA3) (own_w hw 132 rfl) (own_w hw 49 rfl) (by decide) (by decide) (by decide) (by decide) (by rw [hml]; rfl) (lenOf pd13 rfl) rfl (Nat.le_of_ble_eq_true rfl) (hb hby d24_2) (fun T1 X1 e1 => ?_)
  refine own_step (b := T1.setTop (mkF m 7 #[.val (.ref b), .val (.int (Int32.ofNat cs.length)), .val (.ref x)] [(.ref b), (.ref x)])) (fun _ qk => XS.aloadN X1.here hx rfl (hb hby d24_5) rfl rfl (XS.aloadN X1.here hx rfl (hb hby d24_6) rfl rfl qk)) ?_
  refine own_getF X1 hx hZ hown (own_w hw 53 rfl) e1 BB.2.1 (hb hby d24_7) (fun T2 X2 e2 => ?_)
  refine own_step (b := T2.setTop (mkF m 12 #[.val (.ref b), .val (.int (Int32.ofNat cs.length)), .val (.ref x)] [(.ref b), (.int (Int32.ofNat cs.length)), (.ref t), (.ref x)])) (fun _ qk => XS.iloadN X2.here hx rfl (hb hby d24_10) rfl (XS.aloadN X2.here hx rfl (hb hby d24_11) rfl rfl qk)) ?_
  refine own_getF X2 hx hZ hown (own_w hw 55 rfl) e2 BB.2.2.1 (hb hby d24_12) (fun T3 X3 e3 => ?_)
  show own_G p e below _ (T3.setTop (mkF m 15 #[.val (.ref b), .val (.int (Int32.ofNat cs.length)), .val (.ref x)] [(.int (1 : Int32)), (.int (Int32.ofNat cs.length)), (.ref t), (.ref x)]))
  refine own_virtual (a := x) (W := 0) (argsL := [(.ref t), (.int (Int32.ofNat cs.length)), (.int (1 : Int32))]) (st := []) X3 hx hZ hown (own_w hw 134 rfl) (own_w hw 135 rfl) (own_w hw 137 rfl) trivial (own_w hw 136 rfl) (by decide) e3 SS.1 (own_back (W := 0) (rmGbD l Z a0 hw [] x tx kx ds t kt cs.length N _ h0 SS BB.2.2.2.2.2.1 BB.2.2.2.2.2.2 h1 hN hpd hne n0 zn gt OL0 G1 O2 P5 G3 O4 rG3 SA1 SA2 SA3) hZ (own_w hw 138 rfl) (own_w hw 4 rfl) (by decide) (by decide)) (by decide) (by decide) (by rw [hml]; rfl) (lenOf pd14 rfl) rfl (Nat.le_of_ble_eq_true rfl) (hb hby d24_15) (fun v4 T4 L4 X4 hQ4 => ?_)
  obtain ⟨rfl, M4, K4, V4⟩ := hQ4
  show own_G p e below _ (T4.setTop (mkF m 18 #[.val (.ref b), .val (.int (Int32.ofNat cs.length)), .val (.ref x)] []))
  rw [own_nW h1] at V4
  have nbr : b ∉ [t] := ninS nbt nin0
  exact own_retV X4 hx hret hlk (hb hby d24_18) ⟨t, kt, rfl, Fr.app N0 M4, (Keep.refl h0 [b, t]).trans K4 (allS (Or.inl (by simp)) all0), gt, ⟨BB.1.keep K4, BB.2.1.keep K4 nbr, BB.2.2.1.keep K4 nbr, BB.2.2.2.1.keep K4 nbr, BB.2.2.2.2.1.keep K4 nbr, V4, (by rw [List.length_append, own_wb_len, List.length_replicate]; rw [List.length_append]; omega)⟩⟩ (by decide) (by decide)
theorem ef_ap (m : MethodId) (b x : Addr) : entryFrame m #[(.ref b), (.ref x)] 3 = mkF m 0 #[.val (.ref b), .val (.ref x), .unset] [] := by first | (simp [entryFrame, mkF, argsToLocals, Value.category, maxLocals]; done) | rfl
theorem ef_sa (m : MethodId) (b x : Addr) : entryFrame m #[(.ref b), (.ref x)] 2 = mkF m 0 #[.val (.ref b), .val (.ref x)] [] := by first | (simp [entryFrame, mkF, argsToLocals, Value.category, maxLocals]; done) | rfl
theorem rmApLL (l : Launch) (Z : State) (a0 : Array Value) (hw : ∀ d ∈ tables_1, d.before a0 Z = true) (ws : List Jvm.Cond) (b t : Addr) (kt : ClassId) (N : Nat) (cs : List Int32) (x tx : Addr) (kx : ClassId) (ds : List Int32) (h0 : Heap) (BB : own_SBL Z h0 b t kt N cs) (SS : own_STL Z h0 x tx kx ds) (h1 : cs.length + ds.length ≤ N) (hN : N ≤ 36) (n0 : Nat) (zn : Z.heap.size ≤ n0) (hn0 : n0 ≤ h0.size) (gb : n0 ≤ b) (gt : n0 ≤ t) (OL0 : Old Z Z.heap.size h0) (G1 : Int32) (O2 : Sta Z Z.heap "java/lang/String" "COMPACT_STRINGS" "Z" (.int G1)) (P5 : ¬ (G1 = (0 : Int32))) (G3 : Value) (O4 : Sta Z Z.heap "jdk/internal/util/Preconditions" "SIOOBE_FORMATTER" "Ljava/util/function/BiFunction;" G3) (rG3 : G3.isRef = true) (SA1 : Sta Z Z.heap "java/lang/StringUTF16" "$assertionsDisabled" "Z" (.int 1)) (SA2 : Sta Z Z.heap "java/lang/StringUTF16" "HI_BYTE_SHIFT" "I" (.int 0)) (SA3 : Sta Z Z.heap "java/lang/StringUTF16" "LO_BYTE_SHIFT" "I" (.int 8)) :
    own_Met l Z (⟨"java/lang/AbstractStringBuilder", "append", "(Ljava/lang/String;)Ljava/lang/AbstractStringBuilder;"⟩ : MethodName) jdk_68_method_22_code 3 (some (.object "java/lang/AbstractStringBuilder")) ws ⟨3, 0, 0, 47⟩ #[(.ref b), (.ref x)] h0 (fun v h L => ∃ (r : Addr) (kr : ClassId), v = some (.ref b) ∧ Fr n0 L ∧ Keep h0 h [b, t] ∧ n0 ≤ r ∧ own_SBL Z h b r kr N (cs ++ ds)) := by
  refine own_enter (plainFor_of_name pn2) (fun m => ef_ap m b x) ?_
  intro p e s m below meth c T0 hx hby hml hZ hown hnm hret hlk X0 e0
  have lb : @LT.lt Nat instLTNat b h0.size := BB.1.lt
  have N0 := Fr.nil n0
  have ltt : @LT.lt Nat instLTNat t h0.size := BB.2.2.2.2.2.1.lt
  have ltx : @LT.lt Nat instLTNat tx h0.size := SS.2.2.2.1.lt
  refine own_step (b := T0.setTop (mkF m 10 #[.val (.ref b), .val (.ref x), .unset] [(.ref x)])) (fun _ qk => XS.aloadN X0.here hx rfl (hb hby d20_0) rfl rfl (XT.ifnonnullYes X0.here hx rfl (pc0 := 1) (pc' := 9) rfl (hb hby d20_1) rfl (by decide) (by decide) (XS.aloadN X0.here hx rfl (hb hby d20_9) rfl rfl qk))) ?_
  refine own_virtualP (a := x) (W := 0) (argsL := []) (st := []) X0 hx hZ hown (own_w hw 106 rfl) (own_w hw 107 rfl) (own_w hw 109 rfl) trivial (own_w hw 108 rfl) (by decide) e0 SS.1 (rmSln l Z a0 hw [] x tx kx (0 : Int32) ds.length ds.length (own_L ds) h0 SS (own_shr _) rfl OL0 G1 O2 P5 G3 O4 rG3 SA1 SA2 SA3) (own_w hw 110 rfl) (own_w hw 4 rfl) (by decide) (by decide) (by decide) (by decide) (by rw [hml]; rfl) (lenOf pd15 rfl) rfl (Nat.le_of_ble_eq_true rfl) (hb hby d20_10) (fun T1 X1 e1 => ?_)
  refine own_step (b := T1.setTop (mkF m 16 #[.val (.ref b), .val (.ref x), .val (.int (Int32.ofNat ds.length))] [(.ref b), (.ref b)])) (fun _ qk => XS.istoreN X1.here hx rfl (hb hby d20_13) rfl (l' := #[.val (.ref b), .val (.ref x), .val (.int (Int32.ofNat ds.length))]) rfl (XS.aloadN X1.here hx rfl (hb hby d20_14) rfl rfl (XS.aloadN X1.here hx rfl (hb hby d20_15) rfl rfl qk))) ?_
  refine own_getF X1 hx hZ hown (own_w hw 116 rfl) e1 BB.2.2.2.1 (hb hby d20_16) (fun T2 X2 e2 => ?_)
  refine own_step (b := T2.setTop (mkF m 21 #[.val (.ref b), .val (.ref x), .val (.int (Int32.ofNat ds.length))] [(.int ((Int32.ofNat cs.length) + (Int32.ofNat ds.length))), (.ref b)])) (fun _ qk => XS.iloadN X2.here hx rfl (hb hby d20_19) rfl (XS.iadd X2.here hx rfl (hb hby d20_20) rfl qk)) ?_
  rw [own_ofNat_add]
  show own_G p e below _ (T2.setTop (mkF m 21 #[.val (.ref b), .val (.ref x), .val (.int (Int32.ofNat ds.length))] [(.int (Int32.ofNat (cs.length + ds.length))), (.ref b)]))
  refine own_virtualP (a := b) (W := 0) (argsL := [(.int (Int32.ofNat (cs.length + ds.length)))]) (st := []) X2 hx hZ hown (own_w hw 118 rfl) (own_decl (own_w hw 119 rfl) (own_w hw 122 rfl)) (own_w hw 121 rfl) trivial (own_w hw 119 rfl) (by decide) e2 BB.1 (rmEns0 l Z a0 hw [] b t kt (0 : Int32) cs.length N (own_L cs ++ own_Z (N - cs.length)) (cs.length + ds.length) N h0 BB (own_shr _) h1 (by omega)) (own_w hw 122 rfl) (own_w hw 49 rfl) (by decide) (by decide) (by decide) (by decide) (by rw [hml]; rfl) (lenOf pd16 rfl) rfl (Nat.le_of_ble_eq_true rfl) (hb hby d20_21) (fun T3 X3 e3 => ?_)
  refine own_step (b := T3.setTop (mkF m 26 #[.val (.ref b), .val (.ref x), .val (.int (Int32.ofNat ds.length))] [(.ref b), (.ref b)])) (fun _ qk => XS.aloadN X3.here hx rfl (hb hby d20_24) rfl rfl (XS.aloadN X3.here hx rfl (hb hby d20_25) rfl rfl qk)) ?_
  refine own_getF X3 hx hZ hown (own_w hw 116 rfl) e3 BB.2.2.2.1 (hb hby d20_26) (fun T4 X4 e4 => ?_)
  refine own_step (b := T4.setTop (mkF m 30 #[.val (.ref b), .val (.ref x), .val (.int (Int32.ofNat ds.length))] [(.ref x), (.int (Int32.ofNat cs.length)), (.ref b)])) (fun _ qk => XS.aloadN X4.here hx rfl (hb hby d20_29) rfl rfl qk) ?_
  refine own_virtual (a := b) (W := 0) (argsL := [(.int (Int32.ofNat cs.length)), (.ref x)]) (st := []) X4 hx hZ hown (own_w hw 123 rfl) (own_decl (own_w hw 124 rfl) (own_w hw 127 rfl)) (own_w hw 126 rfl) trivial (own_w hw 124 rfl) (by decide) e4 BB.1 (own_back (W := 0) (rmPsLL l Z a0 hw [] b t kt N cs x tx kx ds h0 BB SS h1 hN n0 zn hn0 gb gt OL0 G1 O2 P5 G3 O4 rG3 SA1 SA2 SA3) hZ (own_w hw 127 rfl) (own_w hw 49 rfl) (by decide) (by decide)) (by decide) (by decide) (by rw [hml]; rfl) (lenOf pd17 rfl) rfl (Nat.le_of_ble_eq_true rfl) (hb hby d20_30) (fun v5 T5 L5 X5 hQ5 => ?_)
  obtain ⟨r5, kr5, rfl, M5, K5, g5, BB5⟩ := hQ5
  have N5 := Fr.app N0 M5
  refine own_step (b := T5.setTop (mkF m 35 #[.val (.ref b), .val (.ref x), .val (.int (Int32.ofNat ds.length))] [(.ref b), (.ref b)])) (fun _ qk => XS.aloadN X5.here hx rfl (hb hby d20_33) rfl rfl (XS.dup X5.here hx rfl (hb hby d20_34) rfl rfl qk)) ?_
  refine own_getF X5 hx hZ hown (own_w hw 116 rfl) rfl BB5.2.2.2.1 (hb hby d20_35) (fun T6 X6 e6 => ?_)
  refine own_step (b := T6.setTop (mkF m 40 #[.val (.ref b), .val (.ref x), .val (.int (Int32.ofNat ds.length))] [(.int ((Int32.ofNat cs.length) + (Int32.ofNat ds.length))), (.ref b)])) (fun _ qk => XS.iloadN X6.here hx rfl (hb hby d20_38) rfl (XS.iadd X6.here hx rfl (hb hby d20_39) rfl qk)) ?_
  rw [own_ofNat_add]
  show own_G p e below _ (T6.setTop (mkF m 40 #[.val (.ref b), .val (.ref x), .val (.int (Int32.ofNat ds.length))] [(.int (Int32.ofNat (cs.length + ds.length))), (.ref b)]))
  refine own_putF X6 hx hZ hown (own_w hw 116 rfl) e6 BB5.2.2.2.1 BB5.1 (Or.inl (own_w hw 117 rfl)) (own_w hw 40 rfl) (ty := .int) (by decide) rfl rfl N5 gb (hb hby d20_40) (fun T7 h7 X7 e7 N7 W7 z7 F7 E7 => ?_)
  refine own_step (b := T7.setTop (mkF m 44 #[.val (.ref b), .val (.ref x), .val (.int (Int32.ofNat ds.length))] [(.ref b)])) (fun _ qk => XS.aloadN X7.here hx rfl (hb hby d20_43) rfl rfl qk) ?_
  subst e7
  exact own_retR X7 hx hret rfl rfl rfl hlk (hb hby d20_44) ⟨r5, kr5, rfl, N7, ((Keep.refl h0 [b, t]).trans K5 (allS (Or.inl (by simp)) (allS (Or.inl (by simp)) all0))).wr W7 (Or.inl (by simp)), g5, ⟨E7, BB5.2.1.other W7 (Or.inr (sb02 hw)), BB5.2.2.1.other W7 (Or.inr (sb12 hw)), by rw [List.length_append]; exact F7, BB5.2.2.2.2.1.other W7 (Or.inr (sb32 hw)), BB5.2.2.2.2.2.1.other W7 (BB5.1.neArv BB5.2.2.2.2.2.1 (own_w hw 40 rfl)).symm, BB5.2.2.2.2.2.2⟩⟩ (by decide) (by decide)
theorem rmSaLL (l : Launch) (Z : State) (a0 : Array Value) (hw : ∀ d ∈ tables_1, d.before a0 Z = true) (ws : List Jvm.Cond) (b t : Addr) (kt : ClassId) (N : Nat) (cs : List Int32) (x tx : Addr) (kx : ClassId) (ds : List Int32) (h0 : Heap) (BB : own_SBL Z h0 b t kt N cs) (SS : own_STL Z h0 x tx kx ds) (h1 : cs.length + ds.length ≤ N) (hN : N ≤ 36) (n0 : Nat) (zn : Z.heap.size ≤ n0) (hn0 : n0 ≤ h0.size) (gb : n0 ≤ b) (gt : n0 ≤ t) (OL0 : Old Z Z.heap.size h0) (G1 : Int32) (O2 : Sta Z Z.heap "java/lang/String" "COMPACT_STRINGS" "Z" (.int G1)) (P5 : ¬ (G1 = (0 : Int32))) (G3 : Value) (O4 : Sta Z Z.heap "jdk/internal/util/Preconditions" "SIOOBE_FORMATTER" "Ljava/util/function/BiFunction;" G3) (rG3 : G3.isRef = true) (SA1 : Sta Z Z.heap "java/lang/StringUTF16" "$assertionsDisabled" "Z" (.int 1)) (SA2 : Sta Z Z.heap "java/lang/StringUTF16" "HI_BYTE_SHIFT" "I" (.int 0)) (SA3 : Sta Z Z.heap "java/lang/StringUTF16" "LO_BYTE_SHIFT" "I" (.int 8)) :
    own_Met l Z (⟨"java/lang/StringBuilder", "append", "(Ljava/lang/String;)Ljava/lang/StringBuilder;"⟩ : MethodName) jdk_67_method_7_code 2 (some (.object "java/lang/StringBuilder")) ws ⟨4, 0, 0, 61⟩ #[(.ref b), (.ref x)] h0 (fun v h L => ∃ (r : Addr) (kr : ClassId), v = some (.ref b) ∧ Fr n0 L ∧ Keep h0 h [b, t] ∧ n0 ≤ r ∧ own_SBL Z h b r kr N (cs ++ ds)) := by
  refine own_enter (plainFor_of_name pn7) (fun m => ef_sa m b x) ?_
  intro p e s m below meth c T0 hx hby hml hZ hown hnm hret hlk X0 e0
  refine own_step (b := T0.setTop (mkF m 2 #[.val (.ref b), .val (.ref x)] [(.ref x), (.ref b)])) (fun _ qk => XS.aloadN X0.here hx rfl (hb hby d19_0) rfl rfl (XS.aloadN X0.here hx rfl (hb hby d19_1) rfl rfl qk)) ?_
  refine own_super (a := b) (W := 0) (argsL := [(.ref x)]) (st := []) X0 hx hZ hown (own_w hw 101 rfl) (own_w hw 102 rfl) (own_w hw 103 rfl) (own_w hw 105 rfl) (own_nf (own_w hw 160 rfl) rfl) (by decide) (by decide) e0 BB.1 (own_back (W := 0) (rmApLL l Z a0 hw [] b t kt N cs x tx kx ds h0 BB SS h1 hN n0 zn hn0 gb gt OL0 G1 O2 P5 G3 O4 rG3 SA1 SA2 SA3) hZ (own_w hw 105 rfl) (own_w hw 49 rfl) (by decide) (by decide)) (by decide) (by decide) (by rw [hml]; rfl) (lenOf pd18 rfl) rfl (Nat.le_of_ble_eq_true rfl) (hb hby d19_2) (fun v1 T1 L1 X1 hQ1 => ?_)
  obtain ⟨r1, kr1, rfl, M1, K1, g1, BB1⟩ := hQ1
  refine own_step (b := T1.setTop (mkF m 7 #[.val (.ref b), .val (.ref x)] [(.ref b)])) (fun _ qk => XT.pop X1.here hx rfl (hb hby d19_5) rfl rfl (XS.aloadN X1.here hx rfl (hb hby d19_6) rfl rfl qk)) ?_
  exact own_retR X1 hx hret rfl rfl rfl hlk (hb hby d19_7) ⟨r1, kr1, rfl, M1, K1, g1, BB1⟩ (by decide) (by decide)
theorem rmApLLg (l : Launch) (Z : State) (a0 : Array Value) (hw : ∀ d ∈ tables_1, d.before a0 Z = true) (ws : List Jvm.Cond) (b t : Addr) (kt : ClassId) (cs : List Int32) (x tx : Addr) (kx : ClassId) (ds : List Int32) (h0 : Heap) (BB : own_SBL Z h0 b t kt 16 cs) (SS : own_STL Z h0 x tx kx ds) (hc : cs.length ≤ 16) (hg : 16 < cs.length + ds.length) (h1 : cs.length + ds.length ≤ 34) (n0 : Nat) (zn : Z.heap.size ≤ n0) (hn0 : n0 ≤ h0.size) (gb : n0 ≤ b) (gt : n0 ≤ t) (OL0 : Old Z Z.heap.size h0) (G1 : Int32) (O2 : Sta Z Z.heap "java/lang/String" "COMPACT_STRINGS" "Z" (.int G1)) (P5 : ¬ (G1 = (0 : Int32))) (G3 : Value) (O4 : Sta Z Z.heap "jdk/internal/util/Preconditions" "SIOOBE_FORMATTER" "Ljava/util/function/BiFunction;" G3) (rG3 : G3.isRef = true) (SA1 : Sta Z Z.heap "java/lang/StringUTF16" "$assertionsDisabled" "Z" (.int 1)) (SA2 : Sta Z Z.heap "java/lang/StringUTF16" "HI_BYTE_SHIFT" "I" (.int 0)) (SA3 : Sta Z Z.heap "java/lang/StringUTF16" "LO_BYTE_SHIFT" "I" (.int 8)) :
    own_Met l Z (⟨"java/lang/AbstractStringBuilder", "append", "(Ljava/lang/String;)Ljava/lang/AbstractStringBuilder;"⟩ : MethodName) jdk_68_method_22_code 3 (some (.object "java/lang/AbstractStringBuilder")) ws ⟨4, 1, 72, 62⟩ #[(.ref b), (.ref x)] h0 (fun v h L => ∃ (r : Addr) (kr : ClassId), v = some (.ref b) ∧ Fr n0 L ∧ Keep h0 h [b, t] ∧ n0 ≤ r ∧ own_SBL Z h b r kr 34 (cs ++ ds)) := by
  refine own_enter (plainFor_of_name pn2) (fun m => ef_ap m b x) ?_
  intro p e s m below meth c T0 hx hby hml hZ hown hnm hret hlk X0 e0
  have lb : @LT.lt Nat instLTNat b h0.size := BB.1.lt
  have N0 := Fr.nil n0
  have ltt : @LT.lt Nat instLTNat t h0.size := BB.2.2.2.2.2.1.lt
  have ltx : @LT.lt Nat instLTNat tx h0.size := SS.2.2.2.1.lt
  refine own_step (b := T0.setTop (mkF m 10 #[.val (.ref b), .val (.ref x), .unset] [(.ref x)])) (fun _ qk => XS.aloadN X0.here hx rfl (hb hby d20_0) rfl rfl (XT.ifnonnullYes X0.here hx rfl (pc0 := 1) (pc' := 9) rfl (hb hby d20_1) rfl (by decide) (by decide) (XS.aloadN X0.here hx rfl (hb hby d20_9) rfl rfl qk))) ?_
  refine own_virtualP (a := x) (W := 0) (argsL := []) (st := []) X0 hx hZ hown (own_w hw 106 rfl) (own_w hw 107 rfl) (own_w hw 109 rfl) trivial (own_w hw 108 rfl) (by decide) e0 SS.1 (rmSln l Z a0 hw [] x tx kx (0 : Int32) ds.length ds.length (own_L ds) h0 SS (own_shr _) rfl OL0 G1 O2 P5 G3 O4 rG3 SA1 SA2 SA3) (own_w hw 110 rfl) (own_w hw 4 rfl) (by decide) (by decide) (by decide) (by decide) (by rw [hml]; rfl) (lenOf pd15 rfl) rfl (Nat.le_of_ble_eq_true rfl) (hb hby d20_10) (fun T1 X1 e1 => ?_)
  refine own_step (b := T1.setTop (mkF m 16 #[.val (.ref b), .val (.ref x), .val (.int (Int32.ofNat ds.length))] [(.ref b), (.ref b)])) (fun _ qk => XS.istoreN X1.here hx rfl (hb hby d20_13) rfl (l' := #[.val (.ref b), .val (.ref x), .val (.int (Int32.ofNat ds.length))]) rfl (XS.aloadN X1.here hx rfl (hb hby d20_14) rfl rfl (XS.aloadN X1.here hx rfl (hb hby d20_15) rfl rfl qk))) ?_
  refine own_getF X1 hx hZ hown (own_w hw 116 rfl) e1 BB.2.2.2.1 (hb hby d20_16) (fun T2 X2 e2 => ?_)
  refine own_step (b := T2.setTop (mkF m 21 #[.val (.ref b), .val (.ref x), .val (.int (Int32.ofNat ds.length))] [(.int ((Int32.ofNat cs.length) + (Int32.ofNat ds.length))), (.ref b)])) (fun _ qk => XS.iloadN X2.here hx rfl (hb hby d20_19) rfl (XS.iadd X2.here hx rfl (hb hby d20_20) rfl qk)) ?_
  rw [own_ofNat_add]
  show own_G p e below _ (T2.setTop (mkF m 21 #[.val (.ref b), .val (.ref x), .val (.int (Int32.ofNat ds.length))] [(.int (Int32.ofNat (cs.length + ds.length))), (.ref b)]))
  refine own_virtual (a := b) (W := 0) (argsL := [(.int (Int32.ofNat (cs.length + ds.length)))]) (st := []) X2 hx hZ hown (own_w hw 118 rfl) (own_decl (own_w hw 119 rfl) (own_w hw 122 rfl)) (own_w hw 121 rfl) trivial (own_w hw 119 rfl) (by decide) e2 BB.1 (own_back (W := 0) (rmEnsGL l Z a0 hw [] b t kt cs (cs.length + ds.length) h0 BB hc hg h1 n0 hn0 gb) hZ (own_w hw 122 rfl) (own_w hw 49 rfl) (by decide) (by decide)) (by decide) (by decide) (by rw [hml]; rfl) (lenOf pd16 rfl) rfl (Nat.le_of_ble_eq_true rfl) (hb hby d20_21) (fun v3 T3 L3 X3 hQ3 => ?_)
  obtain ⟨r3, kr3, rfl, M3, K3, g3, BB3⟩ := hQ3
  have SS3 := SS.keep K3 (ninS (SS.1.ne BB.1 (by decide)) nin0) (ninS (BB.1.neArv SS.2.2.2.1 (own_w hw 40 rfl)).symm nin0)
  have OL3 := OL0.keep K3 (allS (by omega) all0)
  have N3 := Fr.app N0 M3
  have zz3 : h0.size ≤ T3.heap.size := K3.1
  refine own_step (b := T3.setTop (mkF m 26 #[.val (.ref b), .val (.ref x), .val (.int (Int32.ofNat ds.length))] [(.ref b), (.ref b)])) (fun _ qk => XS.aloadN X3.here hx rfl (hb hby d20_24) rfl rfl (XS.aloadN X3.here hx rfl (hb hby d20_25) rfl rfl qk)) ?_
  refine own_getF X3 hx hZ hown (own_w hw 116 rfl) rfl BB3.2.2.2.1 (hb hby d20_26) (fun T4 X4 e4 => ?_)
  refine own_step (b := T4.setTop (mkF m 30 #[.val (.ref b), .val (.ref x), .val (.int (Int32.ofNat ds.length))] [(.ref x), (.int (Int32.ofNat cs.length)), (.ref b)])) (fun _ qk => XS.aloadN X4.here hx rfl (hb hby d20_29) rfl rfl qk) ?_
  refine own_virtual (a := b) (W := 0) (argsL := [(.int (Int32.ofNat cs.length)), (.ref x)]) (st := []) X4 hx hZ hown (own_w hw 123 rfl) (own_decl (own_w hw 124 rfl) (own_w hw 127 rfl)) (own_w hw 126 rfl) trivial (own_w hw 124 rfl) (by decide) e4 BB3.1 (own_back (W := 0) (rmPsLL l Z a0 hw [] b r3 kr3 34 cs x tx kx ds T3.heap BB3 SS3 h1 (by decide) n0 zn (by omega) gb (by omega) OL3 G1 O2 P5 G3 O4 rG3 SA1 SA2 SA3) hZ (own_w hw 127 rfl) (own_w hw 49 rfl) (by decide) (by decide)) (by decide) (by decide) (by rw [hml]; rfl) (lenOf pd17 rfl) rfl (Nat.le_of_ble_eq_true rfl) (hb hby d20_30) (fun v5 T5 L5 X5 hQ5 => ?_)
  obtain ⟨r5, kr5, rfl, M5, K5, g5, BB5⟩ := hQ5
  have N5 := Fr.app N3 M5
  refine own_step (b := T5.setTop (mkF m 35 #[.val (.ref b), .val (.ref x), .val (.int (Int32.ofNat ds.length))] [(.ref b), (.ref b)])) (fun _ qk => XS.aloadN X5.here hx rfl (hb hby d20_33) rfl rfl (XS.dup X5.here hx rfl (hb hby d20_34) rfl rfl qk)) ?_
  refine own_getF X5 hx hZ hown (own_w hw 116 rfl) rfl BB5.2.2.2.1 (hb hby d20_35) (fun T6 X6 e6 => ?_)
  refine own_step (b := T6.setTop (mkF m 40 #[.val (.ref b), .val (.ref x), .val (.int (Int32.ofNat ds.length))] [(.int ((Int32.ofNat cs.length) + (Int32.ofNat ds.length))), (.ref b)])) (fun _ qk => XS.iloadN X6.here hx rfl (hb hby d20_38) rfl (XS.iadd X6.here hx rfl (hb hby d20_39) rfl qk)) ?_
  rw [own_ofNat_add]
  show own_G p e below _ (T6.setTop (mkF m 40 #[.val (.ref b), .val (.ref x), .val (.int (Int32.ofNat ds.length))] [(.int (Int32.ofNat (cs.length + ds.length))), (.ref b)]))
  refine own_putF X6 hx hZ hown (own_w hw 116 rfl) e6 BB5.2.2.2.1 BB5.1 (Or.inl (own_w hw 117 rfl)) (own_w hw 40 rfl) (ty := .int) (by decide) rfl rfl N5 gb (hb hby d20_40) (fun T7 h7 X7 e7 N7 W7 z7 F7 E7 => ?_)
  refine own_step (b := T7.setTop (mkF m 44 #[.val (.ref b), .val (.ref x), .val (.int (Int32.ofNat ds.length))] [(.ref b)])) (fun _ qk => XS.aloadN X7.here hx rfl (hb hby d20_43) rfl rfl qk) ?_
  subst e7
  exact own_retR X7 hx hret rfl rfl rfl hlk (hb hby d20_44) ⟨r5, kr5, rfl, N7, (((Keep.refl h0 [b, t]).trans K3 (allS (Or.inl (by simp)) all0)).trans K5 (allS (Or.inl (by simp)) (allS (Or.inr (by omega)) all0))).wr W7 (Or.inl (by simp)), g5, ⟨E7, BB5.2.1.other W7 (Or.inr (sb02 hw)), BB5.2.2.1.other W7 (Or.inr (sb12 hw)), by rw [List.length_append]; exact F7, BB5.2.2.2.2.1.other W7 (Or.inr (sb32 hw)), BB5.2.2.2.2.2.1.other W7 (BB5.1.neArv BB5.2.2.2.2.2.1 (own_w hw 40 rfl)).symm, BB5.2.2.2.2.2.2⟩⟩ (by decide) (by decide)
theorem rmSaLLg (l : Launch) (Z : State) (a0 : Array Value) (hw : ∀ d ∈ tables_1, d.before a0 Z = true) (ws : List Jvm.Cond) (b t : Addr) (kt : ClassId) (cs : List Int32) (x tx : Addr) (kx : ClassId) (ds : List Int32) (h0 : Heap) (BB : own_SBL Z h0 b t kt 16 cs) (SS : own_STL Z h0 x tx kx ds) (hc : cs.length ≤ 16) (hg : 16 < cs.length + ds.length) (h1 : cs.length + ds.length ≤ 34) (n0 : Nat) (zn : Z.heap.size ≤ n0) (hn0 : n0 ≤ h0.size) (gb : n0 ≤ b) (gt : n0 ≤ t) (OL0 : Old Z Z.heap.size h0) (G1 : Int32) (O2 : Sta Z Z.heap "java/lang/String" "COMPACT_STRINGS" "Z" (.int G1)) (P5 : ¬ (G1 = (0 : Int32))) (G3 : Value) (O4 : Sta Z Z.heap "jdk/internal/util/Preconditions" "SIOOBE_FORMATTER" "Ljava/util/function/BiFunction;" G3) (rG3 : G3.isRef = true) (SA1 : Sta Z Z.heap "java/lang/StringUTF16" "$assertionsDisabled" "Z" (.int 1)) (SA2 : Sta Z Z.heap "java/lang/StringUTF16" "HI_BYTE_SHIFT" "I" (.int 0)) (SA3 : Sta Z Z.heap "java/lang/StringUTF16" "LO_BYTE_SHIFT" "I" (.int 8)) :
    own_Met l Z (⟨"java/lang/StringBuilder", "append", "(Ljava/lang/String;)Ljava/lang/StringBuilder;"⟩ : MethodName) jdk_67_method_7_code 2 (some (.object "java/lang/StringBuilder")) ws ⟨5, 1, 72, 76⟩ #[(.ref b), (.ref x)] h0 (fun v h L => ∃ (r : Addr) (kr : ClassId), v = some (.ref b) ∧ Fr n0 L ∧ Keep h0 h [b, t] ∧ n0 ≤ r ∧ own_SBL Z h b r kr 34 (cs ++ ds)) := by
  refine own_enter (plainFor_of_name pn7) (fun m => ef_sa m b x) ?_
  intro p e s m below meth c T0 hx hby hml hZ hown hnm hret hlk X0 e0
  refine own_step (b := T0.setTop (mkF m 2 #[.val (.ref b), .val (.ref x)] [(.ref x), (.ref b)])) (fun _ qk => XS.aloadN X0.here hx rfl (hb hby d19_0) rfl rfl (XS.aloadN X0.here hx rfl (hb hby d19_1) rfl rfl qk)) ?_
  refine own_super (a := b) (W := 0) (argsL := [(.ref x)]) (st := []) X0 hx hZ hown (own_w hw 101 rfl) (own_w hw 102 rfl) (own_w hw 103 rfl) (own_w hw 105 rfl) (own_nf (own_w hw 160 rfl) rfl) (by decide) (by decide) e0 BB.1 (own_back (W := 0) (rmApLLg l Z a0 hw [] b t kt cs x tx kx ds h0 BB SS hc hg h1 n0 zn hn0 gb gt OL0 G1 O2 P5 G3 O4 rG3 SA1 SA2 SA3) hZ (own_w hw 105 rfl) (own_w hw 49 rfl) (by decide) (by decide)) (by decide) (by decide) (by rw [hml]; rfl) (lenOf pd18 rfl) rfl (Nat.le_of_ble_eq_true rfl) (hb hby d19_2) (fun v1 T1 L1 X1 hQ1 => ?_)
  obtain ⟨r1, kr1, rfl, M1, K1, g1, BB1⟩ := hQ1
  refine own_step (b := T1.setTop (mkF m 7 #[.val (.ref b), .val (.ref x)] [(.ref b)])) (fun _ qk => XT.pop X1.here hx rfl (hb hby d19_5) rfl rfl (XS.aloadN X1.here hx rfl (hb hby d19_6) rfl rfl qk)) ?_
  exact own_retR X1 hx hret rfl rfl rfl hlk (hb hby d19_7) ⟨r1, kr1, rfl, M1, K1, g1, BB1⟩ (by decide) (by decide)
theorem rmApLW (l : Launch) (Z : State) (a0 : Array Value) (hw : ∀ d ∈ tables_1, d.before a0 Z = true) (ws : List Jvm.Cond) (b t : Addr) (kt : ClassId) (N : Nat) (cs : List Int32) (x tx : Addr) (kx : ClassId) (ds : List Int32) (h0 : Heap) (BB : own_SBL Z h0 b t kt N cs) (SS : own_STW Z h0 x tx kx ds) (h1 : cs.length + ds.length ≤ N) (hN : N ≤ 36) (hp : ∀ c ∈ cs, ¬ c < 0 ∧ ¬ (255 : Int32) < c) (n0 : Nat) (zn : Z.heap.size ≤ n0) (hn0 : n0 ≤ h0.size) (gb : n0 ≤ b) (gt : n0 ≤ t) (OL0 : Old Z Z.heap.size h0) (G1 : Int32) (O2 : Sta Z Z.heap "java/lang/String" "COMPACT_STRINGS" "Z" (.int G1)) (P5 : ¬ (G1 = (0 : Int32))) (G3 : Value) (O4 : Sta Z Z.heap "jdk/internal/util/Preconditions" "SIOOBE_FORMATTER" "Ljava/util/function/BiFunction;" G3) (rG3 : G3.isRef = true) (SA1 : Sta Z Z.heap "java/lang/StringUTF16" "$assertionsDisabled" "Z" (.int 1)) (SA2 : Sta Z Z.heap "java/lang/StringUTF16" "HI_BYTE_SHIFT" "I" (.int 0)) (SA3 : Sta Z Z.heap "java/lang/StringUTF16" "LO_BYTE_SHIFT" "I" (.int 8)) :
    own_Met l Z (⟨"java/lang/AbstractStringBuilder", "append", "(Ljava/lang/String;)Ljava/lang/AbstractStringBuilder;"⟩ : MethodName) jdk_68_method_22_code 3 (some (.object "java/lang/AbstractStringBuilder")) ws ⟨8, 1, 72, 116⟩ #[(.ref b), (.ref x)] h0 (fun v h L => ∃ (r : Addr) (kr : ClassId), v = some (.ref b) ∧ Fr n0 L ∧ Keep h0 h [b, t] ∧ n0 ≤ r ∧ own_SBW Z h b r kr N (cs ++ ds)) := by
  refine own_enter (plainFor_of_name pn2) (fun m => ef_ap m b x) ?_
  intro p e s m below meth c T0 hx hby hml hZ hown hnm hret hlk X0 e0
  have lb : @LT.lt Nat instLTNat b h0.size := BB.1.lt
  have N0 := Fr.nil n0
  have ltt : @LT.lt Nat instLTNat t h0.size := BB.2.2.2.2.2.1.lt
  have ltx : @LT.lt Nat instLTNat tx h0.size := SS.2.2.2.1.lt
  refine own_step (b := T0.setTop (mkF m 10 #[.val (.ref b), .val (.ref x), .unset] [(.ref x)])) (fun _ qk => XS.aloadN X0.here hx rfl (hb hby d20_0) rfl rfl (XT.ifnonnullYes X0.here hx rfl (pc0 := 1) (pc' := 9) rfl (hb hby d20_1) rfl (by decide) (by decide) (XS.aloadN X0.here hx rfl (hb hby d20_9) rfl rfl qk))) ?_
  refine own_virtualP (a := x) (W := 0) (argsL := []) (st := []) X0 hx hZ hown (own_w hw 106 rfl) (own_w hw 107 rfl) (own_w hw 109 rfl) trivial (own_w hw 108 rfl) (by decide) e0 SS.1 (rmSln l Z a0 hw [] x tx kx (1 : Int32) (2 * ds.length) ds.length (own_wb ds) h0 SS (own_shr1 (by omega)) rfl OL0 G1 O2 P5 G3 O4 rG3 SA1 SA2 SA3) (own_w hw 110 rfl) (own_w hw 4 rfl) (by decide) (by decide) (by decide) (by decide) (by rw [hml]; rfl) (lenOf pd15 rfl) rfl (Nat.le_of_ble_eq_true rfl) (hb hby d20_10) (fun T1 X1 e1 => ?_)
  refine own_step (b := T1.setTop (mkF m 16 #[.val (.ref b), .val (.ref x), .val (.int (Int32.ofNat ds.length))] [(.ref b), (.ref b)])) (fun _ qk => XS.istoreN X1.here hx rfl (hb hby d20_13) rfl (l' := #[.val (.ref b), .val (.ref x), .val (.int (Int32.ofNat ds.length))]) rfl (XS.aloadN X1.here hx rfl (hb hby d20_14) rfl rfl (XS.aloadN X1.here hx rfl (hb hby d20_15) rfl rfl qk))) ?_
  refine own_getF X1 hx hZ hown (own_w hw 116 rfl) e1 BB.2.2.2.1 (hb hby d20_16) (fun T2 X2 e2 => ?_)
  refine own_step (b := T2.setTop (mkF m 21 #[.val (.ref b), .val (.ref x), .val (.int (Int32.ofNat ds.length))] [(.int ((Int32.ofNat cs.length) + (Int32.ofNat ds.length))), (.ref b)])) (fun _ qk => XS.iloadN X2.here hx rfl (hb hby d20_19) rfl (XS.iadd X2.here hx rfl (hb hby d20_20) rfl qk)) ?_
  rw [own_ofNat_add]
  show own_G p e below _ (T2.setTop (mkF m 21 #[.val (.ref b), .val (.ref x), .val (.int (Int32.ofNat ds.length))] [(.int (Int32.ofNat (cs.length + ds.length))), (.ref b)]))
  refine own_virtualP (a := b) (W := 0) (argsL := [(.int (Int32.ofNat (cs.length + ds.length)))]) (st := []) X2 hx hZ hown (own_w hw 118 rfl) (own_decl (own_w hw 119 rfl) (own_w hw 122 rfl)) (own_w hw 121 rfl) trivial (own_w hw 119 rfl) (by decide) e2 BB.1 (rmEns0 l Z a0 hw [] b t kt (0 : Int32) cs.length N (own_L cs ++ own_Z (N - cs.length)) (cs.length + ds.length) N h0 BB (own_shr _) h1 (by omega)) (own_w hw 122 rfl) (own_w hw 49 rfl) (by decide) (by decide) (by decide) (by decide) (by rw [hml]; rfl) (lenOf pd16 rfl) rfl (Nat.le_of_ble_eq_true rfl) (hb hby d20_21) (fun T3 X3 e3 => ?_)
  refine own_step (b := T3.setTop (mkF m 26 #[.val (.ref b), .val (.ref x), .val (.int (Int32.ofNat ds.length))] [(.ref b), (.ref b)])) (fun _ qk => XS.aloadN X3.here hx rfl (hb hby d20_24) rfl rfl (XS.aloadN X3.here hx rfl (hb hby d20_25) rfl rfl qk)) ?_
  refine own_getF X3 hx hZ hown (own_w hw 116 rfl) e3 BB.2.2.2.1 (hb hby d20_26) (fun T4 X4 e4 => ?_)
  refine own_step (b := T4.setTop (mkF m 30 #[.val (.ref b), .val (.ref x), .val (.int (Int32.ofNat ds.length))] [(.ref x), (.int (Int32.ofNat cs.length)), (.ref b)])) (fun _ qk => XS.aloadN X4.here hx rfl (hb hby d20_29) rfl rfl qk) ?_
  refine own_virtual (a := b) (W := 0) (argsL := [(.int (Int32.ofNat cs.length)), (.ref x)]) (st := []) X4 hx hZ hown (own_w hw 123 rfl) (own_decl (own_w hw 124 rfl) (own_w hw 127 rfl)) (own_w hw 126 rfl) trivial (own_w hw 124 rfl) (by decide) e4 BB.1 (own_back (W := 0) (rmPsLW l Z a0 hw [] b t kt N cs x tx kx ds h0 BB SS h1 hN hp n0 zn hn0 gb gt OL0 G1 O2 P5 G3 O4 rG3 SA1 SA2 SA3) hZ (own_w hw 127 rfl) (own_w hw 49 rfl) (by decide) (by decide)) (by decide) (by decide) (by rw [hml]; rfl) (lenOf pd17 rfl) rfl (Nat.le_of_ble_eq_true rfl) (hb hby d20_30) (fun v5 T5 L5 X5 hQ5 => ?_)
  obtain ⟨r5, kr5, rfl, M5, K5, g5, BB5⟩ := hQ5
  have N5 := Fr.app N0 M5
  refine own_step (b := T5.setTop (mkF m 35 #[.val (.ref b), .val (.ref x), .val (.int (Int32.ofNat ds.length))] [(.ref b), (.ref b)])) (fun _ qk => XS.aloadN X5.here hx rfl (hb hby d20_33) rfl rfl (XS.dup X5.here hx rfl (hb hby d20_34) rfl rfl qk)) ?_
  refine own_getF X5 hx hZ hown (own_w hw 116 rfl) rfl BB5.2.2.2.1 (hb hby d20_35) (fun T6 X6 e6 => ?_)
  refine own_step (b := T6.setTop (mkF m 40 #[.val (.ref b), .val (.ref x), .val (.int (Int32.ofNat ds.length))] [(.int ((Int32.ofNat cs.length) + (Int32.ofNat ds.length))), (.ref b)])) (fun _ qk => XS.iloadN X6.here hx rfl (hb hby d20_38) rfl (XS.iadd X6.here hx rfl (hb hby d20_39) rfl qk)) ?_
  rw [own_ofNat_add]
  show own_G p e below _ (T6.setTop (mkF m 40 #[.val (.ref b), .val (.ref x), .val (.int (Int32.ofNat ds.length))] [(.int (Int32.ofNat (cs.length + ds.length))), (.ref b)]))
  refine own_putF X6 hx hZ hown (own_w hw 116 rfl) e6 BB5.2.2.2.1 BB5.1 (Or.inl (own_w hw 117 rfl)) (own_w hw 40 rfl) (ty := .int) (by decide) rfl rfl N5 gb (hb hby d20_40) (fun T7 h7 X7 e7 N7 W7 z7 F7 E7 => ?_)
  refine own_step (b := T7.setTop (mkF m 44 #[.val (.ref b), .val (.ref x), .val (.int (Int32.ofNat ds.length))] [(.ref b)])) (fun _ qk => XS.aloadN X7.here hx rfl (hb hby d20_43) rfl rfl qk) ?_
  subst e7
  exact own_retR X7 hx hret rfl rfl rfl hlk (hb hby d20_44) ⟨r5, kr5, rfl, N7, ((Keep.refl h0 [b, t]).trans K5 (allS (Or.inl (by simp)) (allS (Or.inl (by simp)) all0))).wr W7 (Or.inl (by simp)), g5, ⟨E7, BB5.2.1.other W7 (Or.inr (sb02 hw)), BB5.2.2.1.other W7 (Or.inr (sb12 hw)), by rw [List.length_append]; exact F7, BB5.2.2.2.2.1.other W7 (Or.inr (sb32 hw)), BB5.2.2.2.2.2.1.other W7 (BB5.1.neArv BB5.2.2.2.2.2.1 (own_w hw 40 rfl)).symm, BB5.2.2.2.2.2.2⟩⟩ (by decide) (by decide)
theorem rmSaLW (l : Launch) (Z : State) (a0 : Array Value) (hw : ∀ d ∈ tables_1, d.before a0 Z = true) (ws : List Jvm.Cond) (b t : Addr) (kt : ClassId) (N : Nat) (cs : List Int32) (x tx : Addr) (kx : ClassId) (ds : List Int32) (h0 : Heap) (BB : own_SBL Z h0 b t kt N cs) (SS : own_STW Z h0 x tx kx ds) (h1 : cs.length + ds.length ≤ N) (hN : N ≤ 36) (hp : ∀ c ∈ cs, ¬ c < 0 ∧ ¬ (255 : Int32) < c) (n0 : Nat) (zn : Z.heap.size ≤ n0) (hn0 : n0 ≤ h0.size) (gb : n0 ≤ b) (gt : n0 ≤ t) (OL0 : Old Z Z.heap.size h0) (G1 : Int32) (O2 : Sta Z Z.heap "java/lang/String" "COMPACT_STRINGS" "Z" (.int G1)) (P5 : ¬ (G1 = (0 : Int32))) (G3 : Value) (O4 : Sta Z Z.heap "jdk/internal/util/Preconditions" "SIOOBE_FORMATTER" "Ljava/util/function/BiFunction;" G3) (rG3 : G3.isRef = true) (SA1 : Sta Z Z.heap "java/lang/StringUTF16" "$assertionsDisabled" "Z" (.int 1)) (SA2 : Sta Z Z.heap "java/lang/StringUTF16" "HI_BYTE_SHIFT" "I" (.int 0)) (SA3 : Sta Z Z.heap "java/lang/StringUTF16" "LO_BYTE_SHIFT" "I" (.int 8)) :
    own_Met l Z (⟨"java/lang/StringBuilder", "append", "(Ljava/lang/String;)Ljava/lang/StringBuilder;"⟩ : MethodName) jdk_67_method_7_code 2 (some (.object "java/lang/StringBuilder")) ws ⟨9, 1, 72, 130⟩ #[(.ref b), (.ref x)] h0 (fun v h L => ∃ (r : Addr) (kr : ClassId), v = some (.ref b) ∧ Fr n0 L ∧ Keep h0 h [b, t] ∧ n0 ≤ r ∧ own_SBW Z h b r kr N (cs ++ ds)) := by
  refine own_enter (plainFor_of_name pn7) (fun m => ef_sa m b x) ?_
  intro p e s m below meth c T0 hx hby hml hZ hown hnm hret hlk X0 e0
  refine own_step (b := T0.setTop (mkF m 2 #[.val (.ref b), .val (.ref x)] [(.ref x), (.ref b)])) (fun _ qk => XS.aloadN X0.here hx rfl (hb hby d19_0) rfl rfl (XS.aloadN X0.here hx rfl (hb hby d19_1) rfl rfl qk)) ?_
  refine own_super (a := b) (W := 0) (argsL := [(.ref x)]) (st := []) X0 hx hZ hown (own_w hw 101 rfl) (own_w hw 102 rfl) (own_w hw 103 rfl) (own_w hw 105 rfl) (own_nf (own_w hw 160 rfl) rfl) (by decide) (by decide) e0 BB.1 (own_back (W := 0) (rmApLW l Z a0 hw [] b t kt N cs x tx kx ds h0 BB SS h1 hN hp n0 zn hn0 gb gt OL0 G1 O2 P5 G3 O4 rG3 SA1 SA2 SA3) hZ (own_w hw 105 rfl) (own_w hw 49 rfl) (by decide) (by decide)) (by decide) (by decide) (by rw [hml]; rfl) (lenOf pd18 rfl) rfl (Nat.le_of_ble_eq_true rfl) (hb hby d19_2) (fun v1 T1 L1 X1 hQ1 => ?_)
  obtain ⟨r1, kr1, rfl, M1, K1, g1, BB1⟩ := hQ1
  refine own_step (b := T1.setTop (mkF m 7 #[.val (.ref b), .val (.ref x)] [(.ref b)])) (fun _ qk => XT.pop X1.here hx rfl (hb hby d19_5) rfl rfl (XS.aloadN X1.here hx rfl (hb hby d19_6) rfl rfl qk)) ?_
  exact own_retR X1 hx hret rfl rfl rfl hlk (hb hby d19_7) ⟨r1, kr1, rfl, M1, K1, g1, BB1⟩ (by decide) (by decide)
theorem rmApWL (l : Launch) (Z : State) (a0 : Array Value) (hw : ∀ d ∈ tables_1, d.before a0 Z = true) (ws : List Jvm.Cond) (b t : Addr) (kt : ClassId) (N : Nat) (cs : List Int32) (x tx : Addr) (kx : ClassId) (ds : List Int32) (h0 : Heap) (BB : own_SBW Z h0 b t kt N cs) (SS : own_STL Z h0 x tx kx ds) (h1 : cs.length + ds.length ≤ N) (hN : N ≤ 36) (hpd : ∀ c ∈ ds, ¬ c < 0 ∧ ¬ (255 : Int32) < c) (hne : tx ≠ t) (n0 : Nat) (zn : Z.heap.size ≤ n0) (hn0 : n0 ≤ h0.size) (gb : n0 ≤ b) (gt : n0 ≤ t) (OL0 : Old Z Z.heap.size h0) (G1 : Int32) (O2 : Sta Z Z.heap "java/lang/String" "COMPACT_STRINGS" "Z" (.int G1)) (P5 : ¬ (G1 = (0 : Int32))) (G3 : Value) (O4 : Sta Z Z.heap "jdk/internal/util/Preconditions" "SIOOBE_FORMATTER" "Ljava/util/function/BiFunction;" G3) (rG3 : G3.isRef = true) (SA1 : Sta Z Z.heap "java/lang/StringUTF16" "$assertionsDisabled" "Z" (.int 1)) (SA2 : Sta Z Z.heap "java/lang/StringUTF16" "HI_BYTE_SHIFT" "I" (.int 0)) (SA3 : Sta Z Z.heap "java/lang/StringUTF16" "LO_BYTE_SHIFT" "I" (.int 8)) :
    own_Met l Z (⟨"java/lang/AbstractStringBuilder", "append", "(Ljava/lang/String;)Ljava/lang/AbstractStringBuilder;"⟩ : MethodName) jdk_68_method_22_code 3 (some (.object "java/lang/AbstractStringBuilder")) ws ⟨7, 0, 0, 105⟩ #[(.ref b), (.ref x)] h0 (fun v h L => ∃ (r : Addr) (kr : ClassId), v = some (.ref b) ∧ Fr n0 L ∧ Keep h0 h [b, t] ∧ n0 ≤ r ∧ own_SBW Z h b r kr N (cs ++ ds)) := by
  refine own_enter (plainFor_of_name pn2) (fun m => ef_ap m b x) ?_
  intro p e s m below meth c T0 hx hby hml hZ hown hnm hret hlk X0 e0
  have lb : @LT.lt Nat instLTNat b h0.size := BB.1.lt
  have N0 := Fr.nil n0
  have ltt : @LT.lt Nat instLTNat t h0.size := BB.2.2.2.2.2.1.lt
  have ltx : @LT.lt Nat instLTNat tx h0.size := SS.2.2.2.1.lt
  refine own_step (b := T0.setTop (mkF m 10 #[.val (.ref b), .val (.ref x), .unset] [(.ref x)])) (fun _ qk => XS.aloadN X0.here hx rfl (hb hby d20_0) rfl rfl (XT.ifnonnullYes X0.here hx rfl (pc0 := 1) (pc' := 9) rfl (hb hby d20_1) rfl (by decide) (by decide) (XS.aloadN X0.here hx rfl (hb hby d20_9) rfl rfl qk))) ?_
  refine own_virtualP (a := x) (W := 0) (argsL := []) (st := []) X0 hx hZ hown (own_w hw 106 rfl) (own_w hw 107 rfl) (own_w hw 109 rfl) trivial (own_w hw 108 rfl) (by decide) e0 SS.1 (rmSln l Z a0 hw [] x tx kx (0 : Int32) ds.length ds.length (own_L ds) h0 SS (own_shr _) rfl OL0 G1 O2 P5 G3 O4 rG3 SA1 SA2 SA3) (own_w hw 110 rfl) (own_w hw 4 rfl) (by decide) (by decide) (by decide) (by decide) (by rw [hml]; rfl) (lenOf pd15 rfl) rfl (Nat.le_of_ble_eq_true rfl) (hb hby d20_10) (fun T1 X1 e1 => ?_)
  refine own_step (b := T1.setTop (mkF m 16 #[.val (.ref b), .val (.ref x), .val (.int (Int32.ofNat ds.length))] [(.ref b), (.ref b)])) (fun _ qk => XS.istoreN X1.here hx rfl (hb hby d20_13) rfl (l' := #[.val (.ref b), .val (.ref x), .val (.int (Int32.ofNat ds.length))]) rfl (XS.aloadN X1.here hx rfl (hb hby d20_14) rfl rfl (XS.aloadN X1.here hx rfl (hb hby d20_15) rfl rfl qk))) ?_
  refine own_getF X1 hx hZ hown (own_w hw 116 rfl) e1 BB.2.2.2.1 (hb hby d20_16) (fun T2 X2 e2 => ?_)
  refine own_step (b := T2.setTop (mkF m 21 #[.val (.ref b), .val (.ref x), .val (.int (Int32.ofNat ds.length))] [(.int ((Int32.ofNat cs.length) + (Int32.ofNat ds.length))), (.ref b)])) (fun _ qk => XS.iloadN X2.here hx rfl (hb hby d20_19) rfl (XS.iadd X2.here hx rfl (hb hby d20_20) rfl qk)) ?_
  rw [own_ofNat_add]
  show own_G p e below _ (T2.setTop (mkF m 21 #[.val (.ref b), .val (.ref x), .val (.int (Int32.ofNat ds.length))] [(.int (Int32.ofNat (cs.length + ds.length))), (.ref b)]))
  refine own_virtualP (a := b) (W := 0) (argsL := [(.int (Int32.ofNat (cs.length + ds.length)))]) (st := []) X2 hx hZ hown (own_w hw 118 rfl) (own_decl (own_w hw 119 rfl) (own_w hw 122 rfl)) (own_w hw 121 rfl) trivial (own_w hw 119 rfl) (by decide) e2 BB.1 (rmEns0 l Z a0 hw [] b t kt (1 : Int32) cs.length (2 * N) (own_wb cs ++ own_Z (2 * N - 2 * cs.length)) (cs.length + ds.length) N h0 BB (own_shr1 (by omega)) h1 (by omega)) (own_w hw 122 rfl) (own_w hw 49 rfl) (by decide) (by decide) (by decide) (by decide) (by rw [hml]; rfl) (lenOf pd16 rfl) rfl (Nat.le_of_ble_eq_true rfl) (hb hby d20_21) (fun T3 X3 e3 => ?_)
  refine own_step (b := T3.setTop (mkF m 26 #[.val (.ref b), .val (.ref x), .val (.int (Int32.ofNat ds.length))] [(.ref b), (.ref b)])) (fun _ qk => XS.aloadN X3.here hx rfl (hb hby d20_24) rfl rfl (XS.aloadN X3.here hx rfl (hb hby d20_25) rfl rfl qk)) ?_
  refine own_getF X3 hx hZ hown (own_w hw 116 rfl) e3 BB.2.2.2.1 (hb hby d20_26) (fun T4 X4 e4 => ?_)
  refine own_step (b := T4.setTop (mkF m 30 #[.val (.ref b), .val (.ref x), .val (.int (Int32.ofNat ds.length))] [(.ref x), (.int (Int32.ofNat cs.length)), (.ref b)])) (fun _ qk => XS.aloadN X4.here hx rfl (hb hby d20_29) rfl rfl qk) ?_
  refine own_virtual (a := b) (W := 0) (argsL := [(.int (Int32.ofNat cs.length)), (.ref x)]) (st := []) X4 hx hZ hown (own_w hw 123 rfl) (own_decl (own_w hw 124 rfl) (own_w hw 127 rfl)) (own_w hw 126 rfl) trivial (own_w hw 124 rfl) (by decide) e4 BB.1 (own_back (W := 0) (rmPsWL l Z a0 hw [] b t kt N cs x tx kx ds h0 BB SS h1 hN hpd hne n0 zn hn0 gb gt OL0 G1 O2 P5 G3 O4 rG3 SA1 SA2 SA3) hZ (own_w hw 127 rfl) (own_w hw 49 rfl) (by decide) (by decide)) (by decide) (by decide) (by rw [hml]; rfl) (lenOf pd17 rfl) rfl (Nat.le_of_ble_eq_true rfl) (hb hby d20_30) (fun v5 T5 L5 X5 hQ5 => ?_)
  obtain ⟨r5, kr5, rfl, M5, K5, g5, BB5⟩ := hQ5
  have N5 := Fr.app N0 M5
  refine own_step (b := T5.setTop (mkF m 35 #[.val (.ref b), .val (.ref x), .val (.int (Int32.ofNat ds.length))] [(.ref b), (.ref b)])) (fun _ qk => XS.aloadN X5.here hx rfl (hb hby d20_33) rfl rfl (XS.dup X5.here hx rfl (hb hby d20_34) rfl rfl qk)) ?_
  refine own_getF X5 hx hZ hown (own_w hw 116 rfl) rfl BB5.2.2.2.1 (hb hby d20_35) (fun T6 X6 e6 => ?_)
  refine own_step (b := T6.setTop (mkF m 40 #[.val (.ref b), .val (.ref x), .val (.int (Int32.ofNat ds.length))] [(.int ((Int32.ofNat cs.length) + (Int32.ofNat ds.length))), (.ref b)])) (fun _ qk => XS.iloadN X6.here hx rfl (hb hby d20_38) rfl (XS.iadd X6.here hx rfl (hb hby d20_39) rfl qk)) ?_
  rw [own_ofNat_add]
  show own_G p e below _ (T6.setTop (mkF m 40 #[.val (.ref b), .val (.ref x), .val (.int (Int32.ofNat ds.length))] [(.int (Int32.ofNat (cs.length + ds.length))), (.ref b)]))
  refine own_putF X6 hx hZ hown (own_w hw 116 rfl) e6 BB5.2.2.2.1 BB5.1 (Or.inl (own_w hw 117 rfl)) (own_w hw 40 rfl) (ty := .int) (by decide) rfl rfl N5 gb (hb hby d20_40) (fun T7 h7 X7 e7 N7 W7 z7 F7 E7 => ?_)
  refine own_step (b := T7.setTop (mkF m 44 #[.val (.ref b), .val (.ref x), .val (.int (Int32.ofNat ds.length))] [(.ref b)])) (fun _ qk => XS.aloadN X7.here hx rfl (hb hby d20_43) rfl rfl qk) ?_
  subst e7
  exact own_retR X7 hx hret rfl rfl rfl hlk (hb hby d20_44) ⟨r5, kr5, rfl, N7, ((Keep.refl h0 [b, t]).trans K5 (allS (Or.inl (by simp)) (allS (Or.inl (by simp)) all0))).wr W7 (Or.inl (by simp)), g5, ⟨E7, BB5.2.1.other W7 (Or.inr (sb02 hw)), BB5.2.2.1.other W7 (Or.inr (sb12 hw)), by rw [List.length_append]; exact F7, BB5.2.2.2.2.1.other W7 (Or.inr (sb32 hw)), BB5.2.2.2.2.2.1.other W7 (BB5.1.neArv BB5.2.2.2.2.2.1 (own_w hw 40 rfl)).symm, BB5.2.2.2.2.2.2⟩⟩ (by decide) (by decide)
theorem rmSaWL (l : Launch) (Z : State) (a0 : Array Value) (hw : ∀ d ∈ tables_1, d.before a0 Z = true) (ws : List Jvm.Cond) (b t : Addr) (kt : ClassId) (N : Nat) (cs : List Int32) (x tx : Addr) (kx : ClassId) (ds : List Int32) (h0 : Heap) (BB : own_SBW Z h0 b t kt N cs) (SS : own_STL Z h0 x tx kx ds) (h1 : cs.length + ds.length ≤ N) (hN : N ≤ 36) (hpd : ∀ c ∈ ds, ¬ c < 0 ∧ ¬ (255 : Int32) < c) (hne : tx ≠ t) (n0 : Nat) (zn : Z.heap.size ≤ n0) (hn0 : n0 ≤ h0.size) (gb : n0 ≤ b) (gt : n0 ≤ t) (OL0 : Old Z Z.heap.size h0) (G1 : Int32) (O2 : Sta Z Z.heap "java/lang/String" "COMPACT_STRINGS" "Z" (.int G1)) (P5 : ¬ (G1 = (0 : Int32))) (G3 : Value) (O4 : Sta Z Z.heap "jdk/internal/util/Preconditions" "SIOOBE_FORMATTER" "Ljava/util/function/BiFunction;" G3) (rG3 : G3.isRef = true) (SA1 : Sta Z Z.heap "java/lang/StringUTF16" "$assertionsDisabled" "Z" (.int 1)) (SA2 : Sta Z Z.heap "java/lang/StringUTF16" "HI_BYTE_SHIFT" "I" (.int 0)) (SA3 : Sta Z Z.heap "java/lang/StringUTF16" "LO_BYTE_SHIFT" "I" (.int 8)) :
    own_Met l Z (⟨"java/lang/StringBuilder", "append", "(Ljava/lang/String;)Ljava/lang/StringBuilder;"⟩ : MethodName) jdk_67_method_7_code 2 (some (.object "java/lang/StringBuilder")) ws ⟨8, 0, 0, 119⟩ #[(.ref b), (.ref x)] h0 (fun v h L => ∃ (r : Addr) (kr : ClassId), v = some (.ref b) ∧ Fr n0 L ∧ Keep h0 h [b, t] ∧ n0 ≤ r ∧ own_SBW Z h b r kr N (cs ++ ds)) := by
  refine own_enter (plainFor_of_name pn7) (fun m => ef_sa m b x) ?_
  intro p e s m below meth c T0 hx hby hml hZ hown hnm hret hlk X0 e0
  refine own_step (b := T0.setTop (mkF m 2 #[.val (.ref b), .val (.ref x)] [(.ref x), (.ref b)])) (fun _ qk => XS.aloadN X0.here hx rfl (hb hby d19_0) rfl rfl (XS.aloadN X0.here hx rfl (hb hby d19_1) rfl rfl qk)) ?_
  refine own_super (a := b) (W := 0) (argsL := [(.ref x)]) (st := []) X0 hx hZ hown (own_w hw 101 rfl) (own_w hw 102 rfl) (own_w hw 103 rfl) (own_w hw 105 rfl) (own_nf (own_w hw 160 rfl) rfl) (by decide) (by decide) e0 BB.1 (own_back (W := 0) (rmApWL l Z a0 hw [] b t kt N cs x tx kx ds h0 BB SS h1 hN hpd hne n0 zn hn0 gb gt OL0 G1 O2 P5 G3 O4 rG3 SA1 SA2 SA3) hZ (own_w hw 105 rfl) (own_w hw 49 rfl) (by decide) (by decide)) (by decide) (by decide) (by rw [hml]; rfl) (lenOf pd18 rfl) rfl (Nat.le_of_ble_eq_true rfl) (hb hby d19_2) (fun v1 T1 L1 X1 hQ1 => ?_)
  obtain ⟨r1, kr1, rfl, M1, K1, g1, BB1⟩ := hQ1
  refine own_step (b := T1.setTop (mkF m 7 #[.val (.ref b), .val (.ref x)] [(.ref b)])) (fun _ qk => XT.pop X1.here hx rfl (hb hby d19_5) rfl rfl (XS.aloadN X1.here hx rfl (hb hby d19_6) rfl rfl qk)) ?_
  exact own_retR X1 hx hret rfl rfl rfl hlk (hb hby d19_7) ⟨r1, kr1, rfl, M1, K1, g1, BB1⟩ (by decide) (by decide)
theorem rmApWLg (l : Launch) (Z : State) (a0 : Array Value) (hw : ∀ d ∈ tables_1, d.before a0 Z = true) (ws : List Jvm.Cond) (b t : Addr) (kt : ClassId) (cs : List Int32) (x tx : Addr) (kx : ClassId) (ds : List Int32) (h0 : Heap) (BB : own_SBW Z h0 b t kt 16 cs) (SS : own_STL Z h0 x tx kx ds) (hc : cs.length ≤ 16) (hg : 16 < cs.length + ds.length) (h1 : cs.length + ds.length ≤ 34) (hpd : ∀ c ∈ ds, ¬ c < 0 ∧ ¬ (255 : Int32) < c) (hne : tx ≠ t) (n0 : Nat) (zn : Z.heap.size ≤ n0) (hn0 : n0 ≤ h0.size) (gb : n0 ≤ b) (gt : n0 ≤ t) (OL0 : Old Z Z.heap.size h0) (G1 : Int32) (O2 : Sta Z Z.heap "java/lang/String" "COMPACT_STRINGS" "Z" (.int G1)) (P5 : ¬ (G1 = (0 : Int32))) (G3 : Value) (O4 : Sta Z Z.heap "jdk/internal/util/Preconditions" "SIOOBE_FORMATTER" "Ljava/util/function/BiFunction;" G3) (rG3 : G3.isRef = true) (SA1 : Sta Z Z.heap "java/lang/StringUTF16" "$assertionsDisabled" "Z" (.int 1)) (SA2 : Sta Z Z.heap "java/lang/StringUTF16" "HI_BYTE_SHIFT" "I" (.int 0)) (SA3 : Sta Z Z.heap "java/lang/StringUTF16" "LO_BYTE_SHIFT" "I" (.int 8)) :
    own_Met l Z (⟨"java/lang/AbstractStringBuilder", "append", "(Ljava/lang/String;)Ljava/lang/AbstractStringBuilder;"⟩ : MethodName) jdk_68_method_22_code 3 (some (.object "java/lang/AbstractStringBuilder")) ws ⟨7, 1, 72, 105⟩ #[(.ref b), (.ref x)] h0 (fun v h L => ∃ (r : Addr) (kr : ClassId), v = some (.ref b) ∧ Fr n0 L ∧ Keep h0 h [b, t] ∧ n0 ≤ r ∧ own_SBW Z h b r kr 34 (cs ++ ds)) := by
  refine own_enter (plainFor_of_name pn2) (fun m => ef_ap m b x) ?_
  intro p e s m below meth c T0 hx hby hml hZ hown hnm hret hlk X0 e0
  have lb : @LT.lt Nat instLTNat b h0.size := BB.1.lt
  have N0 := Fr.nil n0
  have ltt : @LT.lt Nat instLTNat t h0.size := BB.2.2.2.2.2.1.lt
  have ltx : @LT.lt Nat instLTNat tx h0.size := SS.2.2.2.1.lt
  refine own_step (b := T0.setTop (mkF m 10 #[.val (.ref b), .val (.ref x), .unset] [(.ref x)])) (fun _ qk => XS.aloadN X0.here hx rfl (hb hby d20_0) rfl rfl (XT.ifnonnullYes X0.here hx rfl (pc0 := 1) (pc' := 9) rfl (hb hby d20_1) rfl (by decide) (by decide) (XS.aloadN X0.here hx rfl (hb hby d20_9) rfl rfl qk))) ?_
  refine own_virtualP (a := x) (W := 0) (argsL := []) (st := []) X0 hx hZ hown (own_w hw 106 rfl) (own_w hw 107 rfl) (own_w hw 109 rfl) trivial (own_w hw 108 rfl) (by decide) e0 SS.1 (rmSln l Z a0 hw [] x tx kx (0 : Int32) ds.length ds.length (own_L ds) h0 SS (own_shr _) rfl OL0 G1 O2 P5 G3 O4 rG3 SA1 SA2 SA3) (own_w hw 110 rfl) (own_w hw 4 rfl) (by decide) (by decide) (by decide) (by decide) (by rw [hml]; rfl) (lenOf pd15 rfl) rfl (Nat.le_of_ble_eq_true rfl) (hb hby d20_10) (fun T1 X1 e1 => ?_)
  refine own_step (b := T1.setTop (mkF m 16 #[.val (.ref b), .val (.ref x), .val (.int (Int32.ofNat ds.length))] [(.ref b), (.ref b)])) (fun _ qk => XS.istoreN X1.here hx rfl (hb hby d20_13) rfl (l' := #[.val (.ref b), .val (.ref x), .val (.int (Int32.ofNat ds.length))]) rfl (XS.aloadN X1.here hx rfl (hb hby d20_14) rfl rfl (XS.aloadN X1.here hx rfl (hb hby d20_15) rfl rfl qk))) ?_
  refine own_getF X1 hx hZ hown (own_w hw 116 rfl) e1 BB.2.2.2.1 (hb hby d20_16) (fun T2 X2 e2 => ?_)
  refine own_step (b := T2.setTop (mkF m 21 #[.val (.ref b), .val (.ref x), .val (.int (Int32.ofNat ds.length))] [(.int ((Int32.ofNat cs.length) + (Int32.ofNat ds.length))), (.ref b)])) (fun _ qk => XS.iloadN X2.here hx rfl (hb hby d20_19) rfl (XS.iadd X2.here hx rfl (hb hby d20_20) rfl qk)) ?_
  rw [own_ofNat_add]
  show own_G p e below _ (T2.setTop (mkF m 21 #[.val (.ref b), .val (.ref x), .val (.int (Int32.ofNat ds.length))] [(.int (Int32.ofNat (cs.length + ds.length))), (.ref b)]))
  refine own_virtual (a := b) (W := 0) (argsL := [(.int (Int32.ofNat (cs.length + ds.length)))]) (st := []) X2 hx hZ hown (own_w hw 118 rfl) (own_decl (own_w hw 119 rfl) (own_w hw 122 rfl)) (own_w hw 121 rfl) trivial (own_w hw 119 rfl) (by decide) e2 BB.1 (own_back (W := 0) (rmEnsGW l Z a0 hw [] b t kt cs (cs.length + ds.length) h0 BB hc hg h1 n0 hn0 gb) hZ (own_w hw 122 rfl) (own_w hw 49 rfl) (by decide) (by decide)) (by decide) (by decide) (by rw [hml]; rfl) (lenOf pd16 rfl) rfl (Nat.le_of_ble_eq_true rfl) (hb hby d20_21) (fun v3 T3 L3 X3 hQ3 => ?_)
  obtain ⟨r3, kr3, rfl, M3, K3, g3, BB3⟩ := hQ3
  have SS3 := SS.keep K3 (ninS (SS.1.ne BB.1 (by decide)) nin0) (ninS (BB.1.neArv SS.2.2.2.1 (own_w hw 40 rfl)).symm nin0)
  have OL3 := OL0.keep K3 (allS (by omega) all0)
  have N3 := Fr.app N0 M3
  have zz3 : h0.size ≤ T3.heap.size := K3.1
  refine own_step (b := T3.setTop (mkF m 26 #[.val (.ref b), .val (.ref x), .val (.int (Int32.ofNat ds.length))] [(.ref b), (.ref b)])) (fun _ qk => XS.aloadN X3.here hx rfl (hb hby d20_24) rfl rfl (XS.aloadN X3.here hx rfl (hb hby d20_25) rfl rfl qk)) ?_
  refine own_getF X3 hx hZ hown (own_w hw 116 rfl) rfl BB3.2.2.2.1 (hb hby d20_26) (fun T4 X4 e4 => ?_)
  refine own_step (b := T4.setTop (mkF m 30 #[.val (.ref b), .val (.ref x), .val (.int (Int32.ofNat ds.length))] [(.ref x), (.int (Int32.ofNat cs.length)), (.ref b)])) (fun _ qk => XS.aloadN X4.here hx rfl (hb hby d20_29) rfl rfl qk) ?_
  refine own_virtual (a := b) (W := 0) (argsL := [(.int (Int32.ofNat cs.length)), (.ref x)]) (st := []) X4 hx hZ hown (own_w hw 123 rfl) (own_decl (own_w hw 124 rfl) (own_w hw 127 rfl)) (own_w hw 126 rfl) trivial (own_w hw 124 rfl) (by decide) e4 BB3.1 (own_back (W := 0) (rmPsWL l Z a0 hw [] b r3 kr3 34 cs x tx kx ds T3.heap BB3 SS3 h1 (by decide) hpd (own_ne (Or.inl (by omega))) n0 zn (by omega) gb (by omega) OL3 G1 O2 P5 G3 O4 rG3 SA1 SA2 SA3) hZ (own_w hw 127 rfl) (own_w hw 49 rfl) (by decide) (by decide)) (by decide) (by decide) (by rw [hml]; rfl) (lenOf pd17 rfl) rfl (Nat.le_of_ble_eq_true rfl) (hb hby d20_30) (fun v5 T5 L5 X5 hQ5 => ?_)
  obtain ⟨r5, kr5, rfl, M5, K5, g5, BB5⟩ := hQ5
  have N5 := Fr.app N3 M5
  refine own_step (b := T5.setTop (mkF m 35 #[.val (.ref b), .val (.ref x), .val (.int (Int32.ofNat ds.length))] [(.ref b), (.ref b)])) (fun _ qk => XS.aloadN X5.here hx rfl (hb hby d20_33) rfl rfl (XS.dup X5.here hx rfl (hb hby d20_34) rfl rfl qk)) ?_
  refine own_getF X5 hx hZ hown (own_w hw 116 rfl) rfl BB5.2.2.2.1 (hb hby d20_35) (fun T6 X6 e6 => ?_)
  refine own_step (b := T6.setTop (mkF m 40 #[.val (.ref b), .val (.ref x), .val (.int (Int32.ofNat ds.length))] [(.int ((Int32.ofNat cs.length) + (Int32.ofNat ds.length))), (.ref b)])) (fun _ qk => XS.iloadN X6.here hx rfl (hb hby d20_38) rfl (XS.iadd X6.here hx rfl (hb hby d20_39) rfl qk)) ?_
  rw [own_ofNat_add]
  show own_G p e below _ (T6.setTop (mkF m 40 #[.val (.ref b), .val (.ref x), .val (.int (Int32.ofNat ds.length))] [(.int (Int32.ofNat (cs.length + ds.length))), (.ref b)]))
  refine own_putF X6 hx hZ hown (own_w hw 116 rfl) e6 BB5.2.2.2.1 BB5.1 (Or.inl (own_w hw 117 rfl)) (own_w hw 40 rfl) (ty := .int) (by decide) rfl rfl N5 gb (hb hby d20_40) (fun T7 h7 X7 e7 N7 W7 z7 F7 E7 => ?_)
  refine own_step (b := T7.setTop (mkF m 44 #[.val (.ref b), .val (.ref x), .val (.int (Int32.ofNat ds.length))] [(.ref b)])) (fun _ qk => XS.aloadN X7.here hx rfl (hb hby d20_43) rfl rfl qk) ?_
  subst e7
  exact own_retR X7 hx hret rfl rfl rfl hlk (hb hby d20_44) ⟨r5, kr5, rfl, N7, (((Keep.refl h0 [b, t]).trans K3 (allS (Or.inl (by simp)) all0)).trans K5 (allS (Or.inl (by simp)) (allS (Or.inr (by omega)) all0))).wr W7 (Or.inl (by simp)), g5, ⟨E7, BB5.2.1.other W7 (Or.inr (sb02 hw)), BB5.2.2.1.other W7 (Or.inr (sb12 hw)), by rw [List.length_append]; exact F7, BB5.2.2.2.2.1.other W7 (Or.inr (sb32 hw)), BB5.2.2.2.2.2.1.other W7 (BB5.1.neArv BB5.2.2.2.2.2.1 (own_w hw 40 rfl)).symm, BB5.2.2.2.2.2.2⟩⟩ (by decide) (by decide)
theorem rmSaWLg (l : Launch) (Z : State) (a0 : Array Value) (hw : ∀ d ∈ tables_1, d.before a0 Z = true) (ws : List Jvm.Cond) (b t : Addr) (kt : ClassId) (cs : List Int32) (x tx : Addr) (kx : ClassId) (ds : List Int32) (h0 : Heap) (BB : own_SBW Z h0 b t kt 16 cs) (SS : own_STL Z h0 x tx kx ds) (hc : cs.length ≤ 16) (hg : 16 < cs.length + ds.length) (h1 : cs.length + ds.length ≤ 34) (hpd : ∀ c ∈ ds, ¬ c < 0 ∧ ¬ (255 : Int32) < c) (hne : tx ≠ t) (n0 : Nat) (zn : Z.heap.size ≤ n0) (hn0 : n0 ≤ h0.size) (gb : n0 ≤ b) (gt : n0 ≤ t) (OL0 : Old Z Z.heap.size h0) (G1 : Int32) (O2 : Sta Z Z.heap "java/lang/String" "COMPACT_STRINGS" "Z" (.int G1)) (P5 : ¬ (G1 = (0 : Int32))) (G3 : Value) (O4 : Sta Z Z.heap "jdk/internal/util/Preconditions" "SIOOBE_FORMATTER" "Ljava/util/function/BiFunction;" G3) (rG3 : G3.isRef = true) (SA1 : Sta Z Z.heap "java/lang/StringUTF16" "$assertionsDisabled" "Z" (.int 1)) (SA2 : Sta Z Z.heap "java/lang/StringUTF16" "HI_BYTE_SHIFT" "I" (.int 0)) (SA3 : Sta Z Z.heap "java/lang/StringUTF16" "LO_BYTE_SHIFT" "I" (.int 8)) :
    own_Met l Z (⟨"java/lang/StringBuilder", "append", "(Ljava/lang/String;)Ljava/lang/StringBuilder;"⟩ : MethodName) jdk_67_method_7_code 2 (some (.object "java/lang/StringBuilder")) ws ⟨8, 1, 72, 119⟩ #[(.ref b), (.ref x)] h0 (fun v h L => ∃ (r : Addr) (kr : ClassId), v = some (.ref b) ∧ Fr n0 L ∧ Keep h0 h [b, t] ∧ n0 ≤ r ∧ own_SBW Z h b r kr 34 (cs ++ ds)) := by
  refine own_enter (plainFor_of_name pn7) (fun m => ef_sa m b x) ?_
  intro p e s m below meth c T0 hx hby hml hZ hown hnm hret hlk X0 e0
  refine own_step (b := T0.setTop (mkF m 2 #[.val (.ref b), .val (.ref x)] [(.ref x), (.ref b)])) (fun _ qk => XS.aloadN X0.here hx rfl (hb hby d19_0) rfl rfl (XS.aloadN X0.here hx rfl (hb hby d19_1) rfl rfl qk)) ?_
  refine own_super (a := b) (W := 0) (argsL := [(.ref x)]) (st := []) X0 hx hZ hown (own_w hw 101 rfl) (own_w hw 102 rfl) (own_w hw 103 rfl) (own_w hw 105 rfl) (own_nf (own_w hw 160 rfl) rfl) (by decide) (by decide) e0 BB.1 (own_back (W := 0) (rmApWLg l Z a0 hw [] b t kt cs x tx kx ds h0 BB SS hc hg h1 hpd hne n0 zn hn0 gb gt OL0 G1 O2 P5 G3 O4 rG3 SA1 SA2 SA3) hZ (own_w hw 105 rfl) (own_w hw 49 rfl) (by decide) (by decide)) (by decide) (by decide) (by rw [hml]; rfl) (lenOf pd18 rfl) rfl (Nat.le_of_ble_eq_true rfl) (hb hby d19_2) (fun v1 T1 L1 X1 hQ1 => ?_)
  obtain ⟨r1, kr1, rfl, M1, K1, g1, BB1⟩ := hQ1
  refine own_step (b := T1.setTop (mkF m 7 #[.val (.ref b), .val (.ref x)] [(.ref b)])) (fun _ qk => XT.pop X1.here hx rfl (hb hby d19_5) rfl rfl (XS.aloadN X1.here hx rfl (hb hby d19_6) rfl rfl qk)) ?_
  exact own_retR X1 hx hret rfl rfl rfl hlk (hb hby d19_7) ⟨r1, kr1, rfl, M1, K1, g1, BB1⟩ (by decide) (by decide)
theorem ef_ai (m : MethodId) (b : Addr) : entryFrame m #[(.ref b), (.int (16 : Int32))] 2 = mkF m 0 #[.val (.ref b), .val (.int (16 : Int32))] [] := by first | (simp [entryFrame, mkF, argsToLocals, Value.category, maxLocals]; done) | rfl
theorem rmAi (l : Launch) (Z : State) (a0 : Array Value) (hw : ∀ d ∈ tables_1, d.before a0 Z = true) (ws : List Jvm.Cond) (b : Addr) (h0 : Heap) (Eb : Exa Z h0 b "java/lang/StringBuilder") (Fv : Fld Z h0 b "java/lang/AbstractStringBuilder" "value" "[B" .null) (Fc : Fld Z h0 b "java/lang/AbstractStringBuilder" "coder" "B" (.int 0)) (Fn : Fld Z h0 b "java/lang/AbstractStringBuilder" "count" "I" (.int 0)) (Fm : Fld Z h0 b "java/lang/AbstractStringBuilder" "maybeLatin1" "Z" (.int 0)) (n0 : Nat) (gb : n0 ≤ b) (OL0 : Old Z Z.heap.size h0) (G1 : Int32) (O2 : Sta Z Z.heap "java/lang/String" "COMPACT_STRINGS" "Z" (.int G1)) (P5 : ¬ (G1 = (0 : Int32))) (G3 : Value) (O4 : Sta Z Z.heap "jdk/internal/util/Preconditions" "SIOOBE_FORMATTER" "Ljava/util/function/BiFunction;" G3) (rG3 : G3.isRef = true) (SA1 : Sta Z Z.heap "java/lang/StringUTF16" "$assertionsDisabled" "Z" (.int 1)) (SA2 : Sta Z Z.heap "java/lang/StringUTF16" "HI_BYTE_SHIFT" "I" (.int 0)) (SA3 : Sta Z Z.heap "java/lang/StringUTF16" "LO_BYTE_SHIFT" "I" (.int 8)) :
    own_Met l Z (⟨"java/lang/AbstractStringBuilder", "<init>", "(I)V"⟩ : MethodName) jdk_68_method_2_code 2 none ws ⟨1, 1, 16, 12⟩ #[(.ref b), (.int (16 : Int32))] h0 (fun v h L => ∃ (r : Addr) (kr : ClassId), v = none ∧ Fr n0 L ∧ Keep h0 h [b] ∧ h0.size ≤ r ∧ own_SBL Z h b r kr 16 []) := by
  refine own_enter (plainFor_of_name pn2) (fun m => ef_ai m b) ?_
  intro p e s m below meth c T0 hx hby hml hZ hown hnm hret hlk X0 e0
  have lb : @LT.lt Nat instLTNat b h0.size := Eb.lt
  have N0 := Fr.nil n0
  refine own_step (b := T0.setTop (mkF m 1 #[.val (.ref b), .val (.int (16 : Int32))] [(.ref b)])) (fun _ qk => XS.aloadN X0.here hx rfl (hb hby d10_0) rfl rfl qk) ?_
  refine own_initO (W := 0) X0 hx hZ hown (own_w hw 51 rfl) (own_w hw 13 rfl) (own_w hw 14 rfl) e0 (by rw [hml]; rfl) (hb hby d10_1) (by decide) (Nat.le_of_ble_eq_true rfl) (by decide) (fun T1 X1 e1 => ?_)
  show own_G p e below _ (T1.setTop (mkF m 4 #[.val (.ref b), .val (.int (16 : Int32))] []))
  refine own_getS X1 hx hZ hown (own_w hw 52 rfl) e1 (O2.ext OL0.2) (hb hby d10_4) (fun T2 X2 e2 => ?_)
  show own_G p e below _ (T2.setTop (mkF m 7 #[.val (.ref b), .val (.int (16 : Int32))] [(.int G1)]))
  refine own_if_eq X2 hx (hb hby d10_7) (pc' := 25) (by decide) (by decide) (fun c7 => absurd c7 P5) (fun c7 => ?_)
  refine own_step (b := T2.setTop (mkF m 12 #[.val (.ref b), .val (.int (16 : Int32))] [(.int (16 : Int32)), (.ref b)])) (fun _ qk => XS.aloadN X2.here hx rfl (hb hby d10_10) rfl rfl (XS.iloadN X2.here hx rfl (hb hby d10_11) rfl qk)) ?_
  refine own_newP X2 hx hZ (own_w hw 20 rfl) e2 (hb hby d10_12) (n := (16 : Int32)) (by decide) 16 (by decide) (by decide) (by decide) (by decide) (fun T3 h3 a3 k3 X3 e3 g3 l3 E3 V3 => ?_)
  have V3' : Arv Z h3 a3 k3 .byte (16 : Int32) [.int 0, .int 0, .int 0, .int 0, .int 0, .int 0, .int 0, .int 0, .int 0, .int 0, .int 0, .int 0, .int 0, .int 0, .int 0, .int 0] (.int 0) := V3
  show own_G p e below _ (T3.setTop (mkF m 14 #[.val (.ref b), .val (.int (16 : Int32))] [(.ref a3), (.ref b)]))
  refine own_putF X3 hx hZ hown (own_w hw 53 rfl) e3 (Fv.ext E3) (Eb.ext E3) (Or.inl (own_w hw 54 rfl)) (own_w hw 40 rfl) (ty := (.array .byte)) (by decide) rfl rfl N0 gb (hb hby d10_14) (fun T4 h4 X4 e4 N4 W4 z4 F4 E4 => ?_)
  refine own_step (b := T4.setTop (mkF m 19 #[.val (.ref b), .val (.int (16 : Int32))] [(.int (0 : Int32)), (.ref b)])) (fun _ qk => XS.aloadN X4.here hx rfl (hb hby d10_17) rfl rfl (XS.iconst X4.here hx rfl (hb hby d10_18) qk)) ?_
  refine own_putF X4 hx hZ hown (own_w hw 55 rfl) e4 ((Fc.ext E3).other W4 (Or.inr (sb10 hw))) E4 (Or.inl (own_w hw 56 rfl)) (own_w hw 40 rfl) (ty := .byte) (by decide) rfl rfl N4 gb (hb hby d10_19) (fun T5 h5 X5 e5 N5 W5 z5 F5 E5 => ?_)
  refine own_step (b := T5.setTop (mkF m 38 #[.val (.ref b), .val (.int (16 : Int32))] [])) (fun _ qk => XS.goto X5.here hx rfl (pc0 := 22) (pc' := 38) rfl (hb hby d10_22) (by decide) (by decide) qk) ?_
  subst e5
  have nr : a3 ≠ b := own_ne (Or.inr (by omega))
  exact own_retV X5 hx hret hlk (hb hby d10_38) ⟨a3, k3, rfl, N5, ((((Keep.refl h0 [b]).ext E3).wr W4 (Or.inl (List.mem_singleton.mpr rfl))).wr W5 (Or.inl (List.mem_singleton.mpr rfl))), by omega, ⟨E5, F4.other W5 (Or.inr (sb01 hw)), F5, ((Fn.ext E3).other W4 (Or.inr (sb20 hw))).other W5 (Or.inr (sb21 hw)), ((Fm.ext E3).other W4 (Or.inr (sb30 hw))).other W5 (Or.inr (sb31 hw)), (V3'.other W4 nr).other W5 nr, rfl⟩⟩ (by decide) (by decide)
theorem ef_si (m : MethodId) (b : Addr) : entryFrame m #[(.ref b)] 1 = mkF m 0 #[.val (.ref b)] [] := by first | (simp [entryFrame, mkF, argsToLocals, Value.category, maxLocals]; done) | rfl
theorem rmSi (l : Launch) (Z : State) (a0 : Array Value) (hw : ∀ d ∈ tables_1, d.before a0 Z = true) (ws : List Jvm.Cond) (b : Addr) (h0 : Heap) (Eb : Exa Z h0 b "java/lang/StringBuilder") (Fv : Fld Z h0 b "java/lang/AbstractStringBuilder" "value" "[B" .null) (Fc : Fld Z h0 b "java/lang/AbstractStringBuilder" "coder" "B" (.int 0)) (Fn : Fld Z h0 b "java/lang/AbstractStringBuilder" "count" "I" (.int 0)) (Fm : Fld Z h0 b "java/lang/AbstractStringBuilder" "maybeLatin1" "Z" (.int 0)) (n0 : Nat) (gb : n0 ≤ b) (OL0 : Old Z Z.heap.size h0) (G1 : Int32) (O2 : Sta Z Z.heap "java/lang/String" "COMPACT_STRINGS" "Z" (.int G1)) (P5 : ¬ (G1 = (0 : Int32))) (G3 : Value) (O4 : Sta Z Z.heap "jdk/internal/util/Preconditions" "SIOOBE_FORMATTER" "Ljava/util/function/BiFunction;" G3) (rG3 : G3.isRef = true) (SA1 : Sta Z Z.heap "java/lang/StringUTF16" "$assertionsDisabled" "Z" (.int 1)) (SA2 : Sta Z Z.heap "java/lang/StringUTF16" "HI_BYTE_SHIFT" "I" (.int 0)) (SA3 : Sta Z Z.heap "java/lang/StringUTF16" "LO_BYTE_SHIFT" "I" (.int 8)) :
    own_Met l Z (⟨"java/lang/StringBuilder", "<init>", "()V"⟩ : MethodName) jdk_67_method_1_code 1 none ws ⟨2, 1, 16, 25⟩ #[(.ref b)] h0 (fun v h L => ∃ (r : Addr) (kr : ClassId), v = none ∧ Fr n0 L ∧ Keep h0 h [b] ∧ h0.size ≤ r ∧ own_SBL Z h b r kr 16 []) := by
  refine own_enter (plainFor_of_name pn7) (fun m => ef_si m b) ?_
  intro p e s m below meth c T0 hx hby hml hZ hown hnm hret hlk X0 e0
  refine own_step (b := T0.setTop (mkF m 3 #[.val (.ref b)] [(.int (16 : Int32)), (.ref b)])) (fun _ qk => XS.aloadN X0.here hx rfl (hb hby d9_0) rfl rfl (XS.bipush X0.here hx rfl (hb hby d9_1) qk)) ?_
  refine own_special (a := b) (W := 0) (argsL := [(.int (16 : Int32))]) (st := []) X0 hx hZ hown rfl (own_w hw 45 rfl) (own_w hw 46 rfl) (own_w hw 50 rfl) (by decide) e0 (own_back (W := 0) (rmAi l Z a0 hw [] b h0 Eb Fv Fc Fn Fm n0 gb OL0 G1 O2 P5 G3 O4 rG3 SA1 SA2 SA3) hZ (own_w hw 50 rfl) (own_w hw 49 rfl) (by decide) (by decide)) (by decide) (by decide) (by rw [hml]; rfl) (lenOf pd16 rfl) rfl (Nat.le_of_ble_eq_true rfl) (hb hby d9_3) (fun v1 T1 L1 X1 hQ1 => ?_)
  obtain ⟨r1, kr1, rfl, M1, K1, g1, BB1⟩ := hQ1
  show own_G p e below _ (T1.setTop (mkF m 6 #[.val (.ref b)] []))
  exact own_retV X1 hx hret hlk (hb hby d9_6) ⟨r1, kr1, rfl, M1, K1, g1, BB1⟩ (by decide) (by decide)
theorem ef_gv (m : MethodId) (b : Addr) : entryFrame m #[(.ref b)] 1 = mkF m 0 #[.val (.ref b)] [] := by first | (simp [entryFrame, mkF, argsToLocals, Value.category, maxLocals]; done) | rfl
theorem rmGv (l : Launch) (Z : State) (a0 : Array Value) (hw : ∀ d ∈ tables_1, d.before a0 Z = true) (ws : List Jvm.Cond) (b t : Addr) (kt : ClassId) (cb : Int32) (n N : Nat) (vs : List Value) (h0 : Heap) (BB : own_SB Z h0 b t kt cb n N vs) :
    own_Met l Z (⟨"java/lang/AbstractStringBuilder", "getValue", "()[B"⟩ : MethodName) jdk_68_method_64_code 1 (some (.array .byte)) ws ⟨0, 0, 0, 0⟩ #[(.ref b)] h0 (own_P (some (.ref t)) h0) := by
  refine own_enter (plainFor_of_name pn2) (fun m => ef_gv m b) ?_
  intro p e s m below meth c T0 hx hby hml hZ hown hnm hret hlk X0 e0
  refine own_step (b := T0.setTop (mkF m 1 #[.val (.ref b)] [(.ref b)])) (fun _ qk => XS.aloadN X0.here hx rfl (hb hby d30_0) rfl rfl qk) ?_
  refine own_getF X0 hx hZ hown (own_w hw 53 rfl) e0 BB.2.1 (hb hby d30_1) (fun T1 X1 e1 => ?_)
  show own_G p e below _ (T1.setTop (mkF m 4 #[.val (.ref b)] [(.ref t)]))
  exact own_retR X1 hx hret rfl rfl rfl hlk (hb hby d30_4) ⟨rfl, rfl, e1⟩ (by decide) (by decide)
theorem ef_bl (m : MethodId) (b : Addr) : entryFrame m #[(.ref b)] 1 = mkF m 0 #[.val (.ref b)] [] := by first | (simp [entryFrame, mkF, argsToLocals, Value.category, maxLocals]; done) | rfl
theorem rmBl (l : Launch) (Z : State) (a0 : Array Value) (hw : ∀ d ∈ tables_1, d.before a0 Z = true) (ws : List Jvm.Cond) (b t : Addr) (kt : ClassId) (cb : Int32) (n N : Nat) (vs : List Value) (h0 : Heap) (BB : own_SB Z h0 b t kt cb n N vs) :
    own_Met l Z (⟨"java/lang/AbstractStringBuilder", "length", "()I"⟩ : MethodName) jdk_68_method_6_code 1 (some .int) ws ⟨0, 0, 0, 0⟩ #[(.ref b)] h0 (own_P (some (.int (Int32.ofNat n))) h0) := by
  refine own_enter (plainFor_of_name pn2) (fun m => ef_bl m b) ?_
  intro p e s m below meth c T0 hx hby hml hZ hown hnm hret hlk X0 e0
  refine own_step (b := T0.setTop (mkF m 1 #[.val (.ref b)] [(.ref b)])) (fun _ qk => XS.aloadN X0.here hx rfl (hb hby d32_0) rfl rfl qk) ?_
  refine own_getF X0 hx hZ hown (own_w hw 116 rfl) e0 BB.2.2.2.1 (hb hby d32_1) (fun T1 X1 e1 => ?_)
  show own_G p e below _ (T1.setTop (mkF m 4 #[.val (.ref b)] [(.int (Int32.ofNat n))]))
  exact own_retI X1 hx hret hlk (hb hby d32_4) ⟨rfl, rfl, e1⟩ (by decide) (by decide)
theorem ef_sbl (m : MethodId) (b : Addr) : entryFrame m #[(.ref b)] 1 = mkF m 0 #[.val (.ref b)] [] := by first | (simp [entryFrame, mkF, argsToLocals, Value.category, maxLocals]; done) | rfl
theorem rmSbl (l : Launch) (Z : State) (a0 : Array Value) (hw : ∀ d ∈ tables_1, d.before a0 Z = true) (ws : List Jvm.Cond) (b t : Addr) (kt : ClassId) (cb : Int32) (n N : Nat) (vs : List Value) (h0 : Heap) (BB : own_SB Z h0 b t kt cb n N vs) :
    own_Met l Z (⟨"java/lang/StringBuilder", "length", "()I"⟩ : MethodName) jdk_67_method_93_code 1 (some .int) ws ⟨1, 0, 0, 12⟩ #[(.ref b)] h0 (own_P (some (.int (Int32.ofNat n))) h0) := by
  refine own_enter (plainFor_of_name pn7) (fun m => ef_sbl m b) ?_
  intro p e s m below meth c T0 hx hby hml hZ hown hnm hret hlk X0 e0
  refine own_step (b := T0.setTop (mkF m 1 #[.val (.ref b)] [(.ref b)])) (fun _ qk => XS.aloadN X0.here hx rfl (hb hby d31_0) rfl rfl qk) ?_
  refine own_super (a := b) (W := 0) (argsL := []) (st := []) X0 hx hZ hown (own_w hw 168 rfl) (own_w hw 164 rfl) (own_w hw 103 rfl) (own_w hw 169 rfl) (own_nf (own_w hw 160 rfl) rfl) (by decide) (by decide) e0 BB.1 (own_back (W := 0) (rmBl l Z a0 hw [] b t kt cb n N vs h0 BB) hZ (own_w hw 169 rfl) (own_w hw 49 rfl) (by decide) (by decide)) (by decide) (by decide) (by rw [hml]; rfl) (lenOf pd15 rfl) rfl (Nat.le_of_ble_eq_true rfl) (hb hby d31_1) (fun v1 T1 L1 X1 hQ1 => ?_)
  obtain ⟨rfl, rfl, hh1⟩ := hQ1
  rw [List.append_nil] at X1
  show own_G p e below _ (T1.setTop (mkF m 4 #[.val (.ref b)] [(.int (Int32.ofNat n))]))
  exact own_retI X1 hx hret hlk (hb hby d31_4) ⟨rfl, rfl, hh1⟩ (by decide) (by decide)
theorem ef_ckl (m : MethodId) (x y : Int32) : entryFrame m #[(.int x), (.int y)] 2 = mkF m 0 #[.val (.int x), .val (.int y)] [] := by first | (simp [entryFrame, mkF, argsToLocals, Value.category, maxLocals]; done) | rfl
theorem rmCkl (l : Launch) (Z : State) (a0 : Array Value) (hw : ∀ d ∈ tables_1, d.before a0 Z = true) (ws : List Jvm.Cond) (x y : Int32) (h0 : Heap) (hxy : ¬ y < x) :
    own_Met l Z (⟨"java/util/Arrays", "checkLength", "(II)V"⟩ : MethodName) jdk_65_method_131_code 2 none ws ⟨0, 0, 0, 0⟩ #[(.int x), (.int y)] h0 (own_P none h0) := by
  refine own_enter (plainFor_of_name pn4) (fun m => ef_ckl m x y) ?_
  intro p e s m below meth c T0 hx hby hml hZ hown hnm hret hlk X0 e0
  refine own_step (b := T0.setTop (mkF m 2 #[.val (.int x), .val (.int y)] [(.int x), (.int y)])) (fun _ qk => XS.iloadN X0.here hx rfl (hb hby d36_0) rfl (XS.iloadN X0.here hx rfl (hb hby d36_1) rfl qk)) ?_
  refine own_icmp_ge X0 hx (hb hby d36_2) (pc' := 37) (by decide) (by decide) (fun c => ?_) (fun c => absurd c hxy)
  show own_G p e below _ (T0.setTop (mkF m 37 #[.val (.int x), .val (.int y)] []))
  exact own_retV X0 hx hret hlk (hb hby d36_37) ⟨rfl, rfl, e0⟩ (by decide) (by decide)
theorem ef_crb (m : MethodId) (t : Addr) (y : Int32) : entryFrame m #[(.ref t), (.int (0 : Int32)), (.int y)] 5 = mkF m 0 #[.val (.ref t), .val (.int (0 : Int32)), .val (.int y), .unset, .unset] [] := by first | (simp [entryFrame, mkF, argsToLocals, Value.category, maxLocals]; done) | rfl
theorem own_sub0 (x : Int32) : x - (0 : Int32) = x := by simp
theorem rmCrb (l : Launch) (Z : State) (a0 : Array Value) (hw : ∀ d ∈ tables_1, d.before a0 Z = true) (ws : List Jvm.Cond) (t : Addr) (kt : ClassId) (n ie : Nat) (vs : List Value) (h0 : Heap) (V : Arv Z h0 t kt .byte (Int32.ofNat n) vs (.int 0)) (hv : vs.length = n) (hn : n ≤ 72) (hen : ie < n) (n0 : Nat) (hn0 : n0 ≤ h0.size) :
    own_Met l Z (⟨"java/util/Arrays", "copyOfRangeByte", "([BII)[B"⟩ : MethodName) jdk_65_method_133_code 5 (some (.array .byte)) ws ⟨1, 1, 72, 18⟩ #[(.ref t), (.int (0 : Int32)), (.int (Int32.ofNat ie))] h0 (fun v h L => ∃ (r : Addr) (kr : ClassId), v = some (.ref r) ∧ Fr n0 L ∧ Ext h0 h ∧ h0.size ≤ r ∧ @LT.lt Nat instLTNat r h.size ∧ Arv Z h r kr .byte (Int32.ofNat ie) (vs.take ie) (.int 0)) := by
  refine own_enter (plainFor_of_name pn4) (fun m => ef_crb m t (Int32.ofNat ie)) ?_
  intro p e s m below meth c T0 hx hby hml hZ hown hnm hret hlk X0 e0
  have N0 := Fr.nil n0
  refine own_step (b := T0.setTop (mkF m 2 #[.val (.ref t), .val (.int (0 : Int32)), .val (.int (Int32.ofNat ie)), .unset, .unset] [(.int (Int32.ofNat ie)), (.int (0 : Int32))])) (fun _ qk => XS.iloadN X0.here hx rfl (hb hby d35_0) rfl (XS.iloadN X0.here hx rfl (hb hby d35_1) rfl qk)) ?_
  refine own_staticP (W := 0) (argsL := [(.int (0 : Int32)), (.int (Int32.ofNat ie))]) (st := []) X0 hx hZ hown (own_w hw 182 rfl) (own_w hw 183 rfl) (own_w hw 177 rfl) (own_w hw 184 rfl) (by decide) e0 (rmCkl l Z a0 hw [] (0 : Int32) (Int32.ofNat ie) h0 (own_nn (by omega))) (by decide) (by decide) (by decide) (by decide) (by rw [hml]; rfl) (lenOf pd19 rfl) rfl (Nat.le_of_ble_eq_true rfl) (hb hby d35_2) (fun T1 X1 e1 => ?_)
  refine own_step (b := T1.setTop (mkF m 8 #[.val (.ref t), .val (.int (0 : Int32)), .val (.int (Int32.ofNat ie)), .unset, .unset] [(.int ((Int32.ofNat ie) - (0 : Int32)))])) (fun _ qk => XS.iloadN X1.here hx rfl (hb hby d35_5) rfl (XS.iloadN X1.here hx rfl (hb hby d35_6) rfl (XS.isub X1.here hx rfl (hb hby d35_7) rfl qk))) ?_
  rw [own_sub0]
  refine own_step (b := T1.setTop (mkF m 10 #[.val (.ref t), .val (.int (0 : Int32)), .val (.int (Int32.ofNat ie)), .val (.int (Int32.ofNat ie)), .unset] [(.int (Int32.ofNat ie))])) (fun _ qk => XS.istoreN X1.here hx rfl (hb hby d35_8) rfl (l' := #[.val (.ref t), .val (.int (0 : Int32)), .val (.int (Int32.ofNat ie)), .val (.int (Int32.ofNat ie)), .unset]) rfl (XS.iloadN X1.here hx rfl (hb hby d35_9) rfl qk)) ?_
  refine own_newP X1 hx hZ (own_w hw 20 rfl) e1 (hb hby d35_10) (n := (Int32.ofNat ie)) (own_nn (by omega)) 72 (by rw [own_clamp (by omega)]; omega) (by decide) (by decide) (by decide) (fun T2 h2 a2 k2 X2 e2 g2 l2 E2 V2 => ?_)
  have VB2 : Arv Z h2 a2 k2 .byte (Int32.ofNat ie) (List.replicate ie (.int 0)) (.int 0) := by have q := V2; rw [own_clamp (by omega)] at q; exact q
  refine own_step (b := T2.setTop (mkF m 20 #[.val (.ref t), .val (.int (0 : Int32)), .val (.int (Int32.ofNat ie)), .val (.int (Int32.ofNat ie)), .val (.ref a2)] [(.ref t), (.int (0 : Int32)), (.ref a2), (.int (0 : Int32)), (.ref t)])) (fun _ qk => XS.astore X2.here hx rfl (hb hby d35_12) rfl rfl (l' := #[.val (.ref t), .val (.int (0 : Int32)), .val (.int (Int32.ofNat ie)), .val (.int (Int32.ofNat ie)), .val (.ref a2)]) rfl (XS.aloadN X2.here hx rfl (hb hby d35_14) rfl rfl (XS.iloadN X2.here hx rfl (hb hby d35_15) rfl (XS.aload X2.here hx rfl (hb hby d35_16) rfl rfl (XS.iconst X2.here hx rfl (hb hby d35_18) (XS.aloadN X2.here hx rfl (hb hby d35_19) rfl rfl qk)))))) ?_
  refine own_len X2 hx hZ e2 (V.ext E2) (hb hby d35_20) ?_
  refine own_step (b := T2.setTop (mkF m 23 #[.val (.ref t), .val (.int (0 : Int32)), .val (.int (Int32.ofNat ie)), .val (.int (Int32.ofNat ie)), .val (.ref a2)] [(.int ((Int32.ofNat n) - (0 : Int32))), (.int (0 : Int32)), (.ref a2), (.int (0 : Int32)), (.ref t)])) (fun _ qk => XS.iloadN X2.here hx rfl (hb hby d35_21) rfl (XS.isub X2.here hx rfl (hb hby d35_22) rfl qk)) ?_
  rw [own_sub0]
  refine own_step (b := T2.setTop (mkF m 24 #[.val (.ref t), .val (.int (0 : Int32)), .val (.int (Int32.ofNat ie)), .val (.int (Int32.ofNat ie)), .val (.ref a2)] [(.int (Int32.ofNat ie)), (.int (Int32.ofNat n)), (.int (0 : Int32)), (.ref a2), (.int (0 : Int32)), (.ref t)])) (fun _ qk => XS.iloadN X2.here hx rfl (hb hby d35_23) rfl qk) ?_
  refine own_staticP (W := 4) (argsL := [(.int (Int32.ofNat n)), (.int (Int32.ofNat ie))]) (st := [(.int (0 : Int32)), (.ref a2), (.int (0 : Int32)), (.ref t)]) X2 hx hZ hown (own_w hw 185 rfl) (own_w hw 186 rfl) (own_w hw 187 rfl) (own_w hw 188 rfl) (by decide) e2 (rmMin l Z a0 hw [] (Int32.ofNat n) (Int32.ofNat ie) h2) (by decide) (by decide) (by decide) (by decide) (by rw [hml]; rfl) (lenOf pd2 rfl) rfl (Nat.le_of_ble_eq_true rfl) (hb hby d35_24) (fun T3 X3 e3 => ?_)
  show own_G p e below _ (T3.setTop (mkF m 27 #[.val (.ref t), .val (.int (0 : Int32)), .val (.int (Int32.ofNat ie)), .val (.int (Int32.ofNat ie)), .val (.ref a2)] [(.int (own_min (Int32.ofNat n) (Int32.ofNat ie))), (.int (0 : Int32)), (.ref a2), (.int (0 : Int32)), (.ref t)]))
  rw [own_min_r (by omega) (by omega)]
  show own_G p e below _ (T3.setTop (mkF m 27 #[.val (.ref t), .val (.int (0 : Int32)), .val (.int (Int32.ofNat ie)), .val (.int (Int32.ofNat ie)), .val (.ref a2)] [(.int (Int32.ofNat ie)), (.int (0 : Int32)), (.ref a2), (.int (0 : Int32)), (.ref t)]))
  refine own_cpD (W := 0) (sp := 0) (dp := 0) (nn := ie) X3 hx hZ hown (own_w hw 189 rfl) (own_w hw 142 rfl) (own_w hw 140 rfl) (own_w hw 141 rfl) e3 (V.ext E2) VB2 hv (by simp) (by omega) (by omega) (by omega) (by omega) N0 (by omega) (by rw [hml]; rfl) (hb hby d35_27) (by decide) (Nat.le_of_ble_eq_true rfl) (by decide) (fun T4 h4 L4 X4 e4 N4 K4 z4 V4 => ?_)
  refine own_step (b := T4.setTop (mkF m 32 #[.val (.ref t), .val (.int (0 : Int32)), .val (.int (Int32.ofNat ie)), .val (.int (Int32.ofNat ie)), .val (.ref a2)] [(.ref a2)])) (fun _ qk => XS.aload X4.here hx rfl (hb hby d35_30) rfl rfl qk) ?_
  subst e4
  exact own_retR X4 hx hret rfl rfl rfl hlk (hb hby d35_32) ⟨_, _, rfl, N4, own_ext (((Keep.refl h0 []).ext E2).trans K4 (allS (Or.inr (by omega)) all0)), by omega, by omega, by have q := V4; rw [List.take_zero, List.drop_zero, List.nil_append, Nat.zero_add, List.drop_replicate, Nat.sub_self, List.replicate_zero, List.append_nil] at q; exact q⟩ (by decide) (by decide)
theorem ef_cr (m : MethodId) (t : Addr) (y : Int32) : entryFrame m #[(.ref t), (.int (0 : Int32)), (.int y)] 3 = mkF m 0 #[.val (.ref t), .val (.int (0 : Int32)), .val (.int y)] [] := by first | (simp [entryFrame, mkF, argsToLocals, Value.category, maxLocals]; done) | rfl
theorem rmCr (l : Launch) (Z : State) (a0 : Array Value) (hw : ∀ d ∈ tables_1, d.before a0 Z = true) (ws : List Jvm.Cond) (t : Addr) (kt : ClassId) (n ie : Nat) (vs : List Value) (h0 : Heap) (V : Arv Z h0 t kt .byte (Int32.ofNat n) vs (.int 0)) (hv : vs.length = n) (hn : n ≤ 72) (hen : ie < n) (n0 : Nat) (hn0 : n0 ≤ h0.size) :
    own_Met l Z (⟨"java/util/Arrays", "copyOfRange", "([BII)[B"⟩ : MethodName) jdk_65_method_132_code 3 (some (.array .byte)) ws ⟨2, 1, 72, 34⟩ #[(.ref t), (.int (0 : Int32)), (.int (Int32.ofNat ie))] h0 (fun v h L => ∃ (r : Addr) (kr : ClassId), v = some (.ref r) ∧ Fr n0 L ∧ Ext h0 h ∧ h0.size ≤ r ∧ @LT.lt Nat instLTNat r h.size ∧ Arv Z h r kr .byte (Int32.ofNat ie) (vs.take ie) (.int 0)) := by
  refine own_enter (plainFor_of_name pn4) (fun m => ef_cr m t (Int32.ofNat ie)) ?_
  intro p e s m below meth c T0 hx hby hml hZ hown hnm hret hlk X0 e0
  refine own_step (b := T0.setTop (mkF m 1 #[.val (.ref t), .val (.int (0 : Int32)), .val (.int (Int32.ofNat ie))] [(.int (0 : Int32))])) (fun _ qk => XS.iloadN X0.here hx rfl (hb hby d34_0) rfl qk) ?_
  refine own_if_ne X0 hx (hb hby d34_1) (pc' := 10) (by decide) (by decide) (fun c1_1 => absurd c1_1 (by decide)) (fun c1_1 => ?_)
  refine own_step (b := T0.setTop (mkF m 6 #[.val (.ref t), .val (.int (0 : Int32)), .val (.int (Int32.ofNat ie))] [(.ref t), (.int (Int32.ofNat ie))])) (fun _ qk => XS.iloadN X0.here hx rfl (hb hby d34_4) rfl (XS.aloadN X0.here hx rfl (hb hby d34_5) rfl rfl qk)) ?_
  refine own_len X0 hx hZ e0 V (hb hby d34_6) ?_
  show own_G p e below _ (T0.setTop (mkF m 7 #[.val (.ref t), .val (.int (0 : Int32)), .val (.int (Int32.ofNat ie))] [(.int (Int32.ofNat n)), (.int (Int32.ofNat ie))]))
  refine own_icmp_eq X0 hx (hb hby d34_7) (pc' := 17) (by decide) (by decide) (fun c7 => absurd ((own_ofNat_eq (by omega) (by omega)).mp c7) (by omega)) (fun c7 => ?_)
  refine own_step (b := T0.setTop (mkF m 13 #[.val (.ref t), .val (.int (0 : Int32)), .val (.int (Int32.ofNat ie))] [(.int (Int32.ofNat ie)), (.int (0 : Int32)), (.ref t)])) (fun _ qk => XS.aloadN X0.here hx rfl (hb hby d34_10) rfl rfl (XS.iloadN X0.here hx rfl (hb hby d34_11) rfl (XS.iloadN X0.here hx rfl (hb hby d34_12) rfl qk))) ?_
  refine own_static (W := 0) (argsL := [(.ref t), (.int (0 : Int32)), (.int (Int32.ofNat ie))]) (st := []) X0 hx hZ hown (own_w hw 179 rfl) (own_w hw 180 rfl) (own_w hw 177 rfl) (own_w hw 181 rfl) (by decide) e0 (own_back (W := 0) (rmCrb l Z a0 hw [] t kt n ie vs h0 V hv hn hen n0 hn0) hZ (own_w hw 181 rfl) (own_w hw 177 rfl) (by decide) (by decide)) (by decide) (by decide) (by rw [hml]; rfl) (lenOf pd20 rfl) rfl (Nat.le_of_ble_eq_true rfl) (hb hby d34_13) (fun v2 T2 L2 X2 hQ2 => ?_)
  obtain ⟨r2, kr2, rfl, M2, E2, g2, l2, V2⟩ := hQ2
  show own_G p e below _ (T2.setTop (mkF m 16 #[.val (.ref t), .val (.int (0 : Int32)), .val (.int (Int32.ofNat ie))] [(.ref r2)]))
  exact own_retR X2 hx hret rfl rfl rfl hlk (hb hby d34_16) ⟨_, _, rfl, M2, E2, g2, l2, V2⟩ (by decide) (by decide)
theorem sn_v {Z : State} {a0 : Array Value} (hw : ∀ d ∈ tables_1, d.before a0 Z = true) : Jvm.RoadKit.slotOf Z "java/lang/String" "value" "[B" ≠ Jvm.RoadKit.slotOf Z "java/lang/String" "coder" "B" := slot_ne (Or.inr (own_w hw 30 rfl)) (Or.inr (own_w hw 28 rfl)) (by decide) (t := (.array .byte)) (t' := .byte) (by decide) (by decide)
theorem ef_sia (m : MethodId) (x b : Addr) : entryFrame m #[(.ref x), (.ref b), .null] 5 = mkF m 0 #[.val (.ref x), .val (.ref b), .val .null, .unset, .unset] [] := by first | (simp [entryFrame, mkF, argsToLocals, Value.category, maxLocals]; done) | rfl
theorem ef_sis (m : MethodId) (x b : Addr) : entryFrame m #[(.ref x), (.ref b)] 2 = mkF m 0 #[.val (.ref x), .val (.ref b)] [] := by first | (simp [entryFrame, mkF, argsToLocals, Value.category, maxLocals]; done) | rfl
theorem ef_ts (m : MethodId) (b : Addr) : entryFrame m #[(.ref b)] 1 = mkF m 0 #[.val (.ref b)] [] := by first | (simp [entryFrame, mkF, argsToLocals, Value.category, maxLocals]; done) | rfl
theorem rmSiaL (l : Launch) (Z : State) (a0 : Array Value) (hw : ∀ d ∈ tables_1, d.before a0 Z = true) (ws : List Jvm.Cond) (x b t : Addr) (kt : ClassId) (N : Nat) (cs : List Int32) (h0 : Heap) (Ex : Exa Z h0 x "java/lang/String") (Fv : Fld Z h0 x "java/lang/String" "value" "[B" .null) (Fc : Fld Z h0 x "java/lang/String" "coder" "B" (.int 0)) (BB : own_SBL Z h0 b t kt N cs) (hcs : cs.length < N) (hN : N ≤ 36) (n0 : Nat) (hn0 : n0 ≤ h0.size) (gx : n0 ≤ x) (OL0 : Old Z Z.heap.size h0) (G1 : Int32) (O2 : Sta Z Z.heap "java/lang/String" "COMPACT_STRINGS" "Z" (.int G1)) (P5 : ¬ (G1 = (0 : Int32))) (G3 : Value) (O4 : Sta Z Z.heap "jdk/internal/util/Preconditions" "SIOOBE_FORMATTER" "Ljava/util/function/BiFunction;" G3) (rG3 : G3.isRef = true) (SA1 : Sta Z Z.heap "java/lang/StringUTF16" "$assertionsDisabled" "Z" (.int 1)) (SA2 : Sta Z Z.heap "java/lang/StringUTF16" "HI_BYTE_SHIFT" "I" (.int 0)) (SA3 : Sta Z Z.heap "java/lang/StringUTF16" "LO_BYTE_SHIFT" "I" (.int 8)) :
    own_Met l Z (⟨"java/lang/String", "<init>", "(Ljava/lang/AbstractStringBuilder;Ljava/lang/Void;)V"⟩ : MethodName) jdk_42_method_150_code 5 none ws ⟨3, 1, 72, 49⟩ #[(.ref x), (.ref b), .null] h0 (fun v h L => ∃ (r : Addr) (kr : ClassId), v = none ∧ Fr n0 L ∧ Keep h0 h [x] ∧ h0.size ≤ r ∧ own_STL Z h x r kr cs) := by
  refine own_enter (plainFor_of_name pn1) (fun m => ef_sia m x b) ?_
  intro p e s m below meth c T0 hx hby hml hZ hown hnm hret hlk X0 e0
  have lx : @LT.lt Nat instLTNat x h0.size := Ex.lt
  have nbx : b ≠ x := (Ex.ne BB.1 (by decide)).symm
  have ntx : t ≠ x := (Ex.neArv BB.2.2.2.2.2.1 (own_w hw 3 rfl)).symm
  have N0 := Fr.nil n0
  refine own_step (b := T0.setTop (mkF m 1 #[.val (.ref x), .val (.ref b), .val .null, .unset, .unset] [(.ref x)])) (fun _ qk => XS.aloadN X0.here hx rfl (hb hby d29_0) rfl rfl qk) ?_
  refine own_initO (W := 0) X0 hx hZ hown (own_w hw 12 rfl) (own_w hw 13 rfl) (own_w hw 14 rfl) e0 (by rw [hml]; rfl) (hb hby d29_1) (by decide) (Nat.le_of_ble_eq_true rfl) (by decide) (fun T1 X1 e1 => ?_)
  refine own_step (b := T1.setTop (mkF m 5 #[.val (.ref x), .val (.ref b), .val .null, .unset, .unset] [(.ref b)])) (fun _ qk => XS.aloadN X1.here hx rfl (hb hby d29_4) rfl rfl qk) ?_
  refine own_virtualP (a := b) (W := 0) (argsL := []) (st := []) X1 hx hZ hown (own_w hw 157 rfl) (own_w hw 158 rfl) (own_w hw 160 rfl) trivial (own_w hw 159 rfl) (by decide) e1 BB.1 (rmGv l Z a0 hw [] b t kt (0 : Int32) cs.length N (own_L cs ++ own_Z (N - cs.length)) h0 BB) (own_w hw 161 rfl) (own_w hw 49 rfl) (by decide) (by decide) (by decide) (by decide) (by rw [hml]; rfl) (lenOf pd21 rfl) rfl (Nat.le_of_ble_eq_true rfl) (hb hby d29_5) (fun T2 X2 e2 => ?_)
  refine own_step (b := T2.setTop (mkF m 10 #[.val (.ref x), .val (.ref b), .val .null, .val (.ref t), .unset] [(.ref b)])) (fun _ qk => XS.astoreN X2.here hx rfl (hb hby d29_8) rfl rfl (l' := #[.val (.ref x), .val (.ref b), .val .null, .val (.ref t), .unset]) rfl (XS.aloadN X2.here hx rfl (hb hby d29_9) rfl rfl qk)) ?_
  refine own_virtualZ (a := b) (W := 0) (argsL := []) (st := []) X2 hx hZ hown (own_w hw 162 rfl) (own_w hw 163 rfl) (own_w hw 165 rfl) (own_nfm hZ (own_nf (own_w hw 160 rfl) rfl)) (own_w hw 166 rfl) (by decide) e2 BB.1 (own_back (W := 0) (rmSbl l Z a0 hw [] b t kt (0 : Int32) cs.length N (own_L cs ++ own_Z (N - cs.length)) h0 BB) hZ (own_w hw 167 rfl) (own_w hw 41 rfl) (by decide) (by decide)) (by decide) (by decide) (by rw [hml]; rfl) (lenOf pd15 rfl) rfl (Nat.le_of_ble_eq_true rfl) (hb hby d29_10) (fun v3 T3 L3 X3 hQ3 => ?_)
  obtain ⟨rfl, rfl, hh3⟩ := hQ3
  rw [List.append_nil] at X3
  refine own_step (b := T3.setTop (mkF m 16 #[.val (.ref x), .val (.ref b), .val .null, .val (.ref t), .val (.int (Int32.ofNat cs.length))] [(.ref b)])) (fun _ qk => XS.istore X3.here hx rfl (hb hby d29_13) rfl (l' := #[.val (.ref x), .val (.ref b), .val .null, .val (.ref t), .val (.int (Int32.ofNat cs.length))]) rfl (XS.aloadN X3.here hx rfl (hb hby d29_15) rfl rfl qk)) ?_
  refine own_virtualP (a := b) (W := 0) (argsL := []) (st := []) X3 hx hZ hown (own_w hw 170 rfl) (own_w hw 171 rfl) (own_w hw 173 rfl) trivial (own_w hw 172 rfl) (by decide) hh3 BB.1 (rmBislL l Z a0 hw [] b t kt cs.length _ _ h0 BB OL0 G1 O2 P5 G3 O4 rG3 SA1 SA2 SA3) (own_w hw 174 rfl) (own_w hw 49 rfl) (by decide) (by decide) (by decide) (by decide) (by rw [hml]; rfl) (lenOf pd10 rfl) rfl (Nat.le_of_ble_eq_true rfl) (hb hby d29_16) (fun T4 X4 e4 => ?_)
  show own_G p e below _ (T4.setTop (mkF m 19 #[.val (.ref x), .val (.ref b), .val .null, .val (.ref t), .val (.int (Int32.ofNat cs.length))] [(.int (1 : Int32))]))
  refine own_if_eq X4 hx (hb hby d29_19) (pc' := 41) (by decide) (by decide) (fun c19_5 => absurd c19_5 (by decide)) (fun c19_5 => ?_)
  refine own_step (b := T4.setTop (mkF m 24 #[.val (.ref x), .val (.ref b), .val .null, .val (.ref t), .val (.int (Int32.ofNat cs.length))] [(.int (0 : Int32)), (.ref x)])) (fun _ qk => XS.aloadN X4.here hx rfl (hb hby d29_22) rfl rfl (XS.iconst X4.here hx rfl (hb hby d29_23) qk)) ?_
  refine own_putF X4 hx hZ hown (own_w hw 27 rfl) e4 Fc Ex (Or.inr ⟨(own_w hw 28 rfl), rfl, hnm⟩) (own_w hw 3 rfl) (ty := .byte) (by decide) rfl rfl N0 gx (hb hby d29_24) (fun T6 h6 X6 e6 N6 W6 z6 F6 E6 => ?_)
  refine own_step (b := T6.setTop (mkF m 32 #[.val (.ref x), .val (.ref b), .val .null, .val (.ref t), .val (.int (Int32.ofNat cs.length))] [(.int (Int32.ofNat cs.length)), (.int (0 : Int32)), (.ref t), (.ref x)])) (fun _ qk => XS.aloadN X6.here hx rfl (hb hby d29_27) rfl rfl (XS.aloadN X6.here hx rfl (hb hby d29_28) rfl rfl (XS.iconst X6.here hx rfl (hb hby d29_29) (XS.iload X6.here hx rfl (hb hby d29_30) rfl qk)))) ?_
  refine own_static (W := 1) (argsL := [(.ref t), (.int (0 : Int32)), (.int (Int32.ofNat cs.length))]) (st := [(.ref x)]) X6 hx hZ hown (own_w hw 175 rfl) (own_w hw 176 rfl) (own_w hw 177 rfl) (own_w hw 178 rfl) (by decide) e6 (own_back (W := 1) (rmCr l Z a0 hw [] t kt N cs.length _ h6 (BB.2.2.2.2.2.1.other W6 ntx) BB.2.2.2.2.2.2 (by omega) (by omega) n0 (by omega)) hZ (own_w hw 178 rfl) (own_w hw 177 rfl) (by decide) (by decide)) (by decide) (by decide) (by rw [hml]; rfl) (lenOf pd20 rfl) rfl (Nat.le_of_ble_eq_true rfl) (hb hby d29_32) (fun v7 T7 L7 X7 hQ7 => ?_)
  obtain ⟨r7, kr7, rfl, M7, E7, g7, l7, V7⟩ := hQ7
  have N7 := Fr.app N6 M7
  show own_G p e below _ (T7.setTop (mkF m 35 #[.val (.ref x), .val (.ref b), .val .null, .val (.ref t), .val (.int (Int32.ofNat cs.length))] [(.ref r7), (.ref x)]))
  refine own_putF X7 hx hZ hown (own_w hw 29 rfl) rfl ((Fv.other W6 (Or.inr (sn_v hw))).ext E7) (E6.ext E7) (Or.inr ⟨(own_w hw 30 rfl), rfl, hnm⟩) (own_w hw 3 rfl) (ty := (.array .byte)) (by decide) rfl rfl N7 gx (hb hby d29_35) (fun T8 h8 X8 e8 N8 W8 z8 F8 E8 => ?_)
  refine own_step (b := T8.setTop (mkF m 97 #[.val (.ref x), .val (.ref b), .val .null, .val (.ref t), .val (.int (Int32.ofNat cs.length))] [])) (fun _ qk => XS.goto X8.here hx rfl (pc0 := 38) (pc' := 97) rfl (hb hby d29_38) (by decide) (by decide) qk) ?_
  subst e8
  exact own_retV X8 hx hret hlk (hb hby d29_97) ⟨r7, kr7, rfl, N8, ((((Keep.refl h0 [x]).wr W6 (Or.inl (List.mem_singleton.mpr rfl))).ext E7).wr W8 (Or.inl (List.mem_singleton.mpr rfl))), by omega, ⟨E8, (F6.ext E7).other W8 (Or.inr (sn_v hw).symm), F8, by have q := V7.other W8 (own_ne (Or.inr (by omega))); rw [List.take_append_of_le_length (by simp), List.take_of_length_le (by simp)] at q; exact q, (by rw [List.length_map])⟩⟩ (by decide) (by decide)
theorem rmSisL (l : Launch) (Z : State) (a0 : Array Value) (hw : ∀ d ∈ tables_1, d.before a0 Z = true) (ws : List Jvm.Cond) (x b t : Addr) (kt : ClassId) (N : Nat) (cs : List Int32) (h0 : Heap) (Ex : Exa Z h0 x "java/lang/String") (Fv : Fld Z h0 x "java/lang/String" "value" "[B" .null) (Fc : Fld Z h0 x "java/lang/String" "coder" "B" (.int 0)) (BB : own_SBL Z h0 b t kt N cs) (hcs : cs.length < N) (hN : N ≤ 36) (n0 : Nat) (hn0 : n0 ≤ h0.size) (gx : n0 ≤ x) (OL0 : Old Z Z.heap.size h0) (G1 : Int32) (O2 : Sta Z Z.heap "java/lang/String" "COMPACT_STRINGS" "Z" (.int G1)) (P5 : ¬ (G1 = (0 : Int32))) (G3 : Value) (O4 : Sta Z Z.heap "jdk/internal/util/Preconditions" "SIOOBE_FORMATTER" "Ljava/util/function/BiFunction;" G3) (rG3 : G3.isRef = true) (SA1 : Sta Z Z.heap "java/lang/StringUTF16" "$assertionsDisabled" "Z" (.int 1)) (SA2 : Sta Z Z.heap "java/lang/StringUTF16" "HI_BYTE_SHIFT" "I" (.int 0)) (SA3 : Sta Z Z.heap "java/lang/StringUTF16" "LO_BYTE_SHIFT" "I" (.int 8)) :
    own_Met l Z (⟨"java/lang/String", "<init>", "(Ljava/lang/StringBuilder;)V"⟩ : MethodName) jdk_42_method_53_code 2 none ws ⟨4, 1, 72, 65⟩ #[(.ref x), (.ref b)] h0 (fun v h L => ∃ (r : Addr) (kr : ClassId), v = none ∧ Fr n0 L ∧ Keep h0 h [x] ∧ h0.size ≤ r ∧ own_STL Z h x r kr cs) := by
  refine own_enter (plainFor_of_name pn1) (fun m => ef_sis m x b) ?_
  intro p e s m below meth c T0 hx hby hml hZ hown hnm hret hlk X0 e0
  refine own_step (b := T0.setTop (mkF m 3 #[.val (.ref x), .val (.ref b)] [.null, (.ref b), (.ref x)])) (fun _ qk => XS.aloadN X0.here hx rfl (hb hby d28_0) rfl rfl (XS.aloadN X0.here hx rfl (hb hby d28_1) rfl rfl (XS.aconstNull X0.here hx rfl (hb hby d28_2) qk))) ?_
  refine own_special (a := x) (W := 0) (argsL := [(.ref b), .null]) (st := []) X0 hx hZ hown rfl (own_w hw 154 rfl) (own_w hw 155 rfl) (own_w hw 156 rfl) (by decide) e0 (own_back (W := 0) (rmSiaL l Z a0 hw [] x b t kt N cs h0 Ex Fv Fc BB hcs hN n0 hn0 gx OL0 G1 O2 P5 G3 O4 rG3 SA1 SA2 SA3) hZ (own_w hw 156 rfl) (own_w hw 4 rfl) (by decide) (by decide)) (by decide) (by decide) (by rw [hml]; rfl) (lenOf pd22 rfl) rfl (Nat.le_of_ble_eq_true rfl) (hb hby d28_3) (fun v1 T1 L1 X1 hQ1 => ?_)
  obtain ⟨r1, kr1, rfl, M1, K1, g1, SS1⟩ := hQ1
  show own_G p e below _ (T1.setTop (mkF m 6 #[.val (.ref x), .val (.ref b)] []))
  exact own_retV X1 hx hret hlk (hb hby d28_6) ⟨r1, kr1, rfl, M1, K1, g1, SS1⟩ (by decide) (by decide)
theorem rmTsL (l : Launch) (Z : State) (a0 : Array Value) (hw : ∀ d ∈ tables_1, d.before a0 Z = true) (ws : List Jvm.Cond) (b t : Addr) (kt : ClassId) (N : Nat) (cs : List Int32) (h0 : Heap) (BB : own_SBL Z h0 b t kt N cs) (hcs : cs.length < N) (hN : N ≤ 36) (n0 : Nat) (hn0 : n0 ≤ h0.size) (OL0 : Old Z Z.heap.size h0) (G1 : Int32) (O2 : Sta Z Z.heap "java/lang/String" "COMPACT_STRINGS" "Z" (.int G1)) (P5 : ¬ (G1 = (0 : Int32))) (G3 : Value) (O4 : Sta Z Z.heap "jdk/internal/util/Preconditions" "SIOOBE_FORMATTER" "Ljava/util/function/BiFunction;" G3) (rG3 : G3.isRef = true) (SA1 : Sta Z Z.heap "java/lang/StringUTF16" "$assertionsDisabled" "Z" (.int 1)) (SA2 : Sta Z Z.heap "java/lang/StringUTF16" "HI_BYTE_SHIFT" "I" (.int 0)) (SA3 : Sta Z Z.heap "java/lang/StringUTF16" "LO_BYTE_SHIFT" "I" (.int 8)) :
    own_Met l Z (⟨"java/lang/StringBuilder", "toString", "()Ljava/lang/String;"⟩ : MethodName) jdk_67_method_42_code 1 (some (.object "java/lang/String")) ws ⟨5, 2, 76, 79⟩ #[(.ref b)] h0 (fun v h L => ∃ (x r : Addr) (kr : ClassId), v = some (.ref x) ∧ Fr n0 L ∧ Ext h0 h ∧ h0.size ≤ x ∧ h0.size ≤ r ∧ own_STL Z h x r kr cs) := by
  refine own_enter (plainFor_of_name pn7) (fun m => ef_ts m b) ?_
  intro p e s m below meth c T0 hx hby hml hZ hown hnm hret hlk X0 e0
  have N0 := Fr.nil n0
  show own_G p e below _ (T0.setTop (mkF m 0 #[.val (.ref b)] []))
  refine own_newO X0 hx hZ hown (own_w hw 150 rfl) (own_w hw 3 rfl) (own_w hw 4 rfl) e0 (hb hby d27_0) (by decide) (by decide) (fun T1 h1 a1 X1 e1 g1 l1 E1 A1 D1 => ?_)
  show own_G p e below _ (T1.setTop (mkF m 3 #[.val (.ref b)] [(.ref a1)]))
  have OL1 := OL0.ext E1
  refine own_step (b := T1.setTop (mkF m 5 #[.val (.ref b)] [(.ref b), (.ref a1), (.ref a1)])) (fun _ qk => XS.dup X1.here hx rfl (hb hby d27_3) rfl rfl (XS.aloadN X1.here hx rfl (hb hby d27_4) rfl rfl qk)) ?_
  refine own_special (a := a1) (W := 1) (argsL := [(.ref b)]) (st := [(.ref a1)]) X1 hx hZ hown rfl (own_w hw 151 rfl) (own_w hw 152 rfl) (own_w hw 153 rfl) (by decide) e1 (own_back (W := 1) (rmSisL l Z a0 hw [] a1 b t kt N cs h1 A1 (D1 (Or.inr (own_w hw 30 rfl)) (ty := (.array .byte)) (by decide)) (D1 (Or.inr (own_w hw 28 rfl)) (ty := .byte) (by decide)) (BB.ext E1) hcs hN n0 (by omega) (by omega) OL1 G1 O2 P5 G3 O4 rG3 SA1 SA2 SA3) hZ (own_w hw 153 rfl) (own_w hw 4 rfl) (by decide) (by decide)) (by decide) (by decide) (by rw [hml]; rfl) (lenOf pd23 rfl) rfl (Nat.le_of_ble_eq_true rfl) (hb hby d27_5) (fun v2 T2 L2 X2 hQ2 => ?_)
  obtain ⟨r2, kr2, rfl, M2, K2, g2, SS2⟩ := hQ2
  show own_G p e below _ (T2.setTop (mkF m 8 #[.val (.ref b)] [(.ref a1)]))
  exact own_retR X2 hx hret rfl rfl rfl hlk (hb hby d27_8) ⟨a1, r2, kr2, rfl, Fr.app N0 M2, own_ext (((Keep.refl h0 []).ext E1).trans K2 (allS (Or.inr (by omega)) all0)), by omega, by omega, SS2⟩ (by decide) (by decide)
theorem rmSiaW (l : Launch) (Z : State) (a0 : Array Value) (hw : ∀ d ∈ tables_1, d.before a0 Z = true) (ws : List Jvm.Cond) (x b t : Addr) (kt : ClassId) (N : Nat) (cs : List Int32) (h0 : Heap) (Ex : Exa Z h0 x "java/lang/String") (Fv : Fld Z h0 x "java/lang/String" "value" "[B" .null) (Fc : Fld Z h0 x "java/lang/String" "coder" "B" (.int 0)) (BB : own_SBW Z h0 b t kt N cs) (hcs : cs.length < N) (hN : N ≤ 36) (n0 : Nat) (hn0 : n0 ≤ h0.size) (gx : n0 ≤ x) (OL0 : Old Z Z.heap.size h0) (G1 : Int32) (O2 : Sta Z Z.heap "java/lang/String" "COMPACT_STRINGS" "Z" (.int G1)) (P5 : ¬ (G1 = (0 : Int32))) (G3 : Value) (O4 : Sta Z Z.heap "jdk/internal/util/Preconditions" "SIOOBE_FORMATTER" "Ljava/util/function/BiFunction;" G3) (rG3 : G3.isRef = true) (SA1 : Sta Z Z.heap "java/lang/StringUTF16" "$assertionsDisabled" "Z" (.int 1)) (SA2 : Sta Z Z.heap "java/lang/StringUTF16" "HI_BYTE_SHIFT" "I" (.int 0)) (SA3 : Sta Z Z.heap "java/lang/StringUTF16" "LO_BYTE_SHIFT" "I" (.int 8)) :
    own_Met l Z (⟨"java/lang/String", "<init>", "(Ljava/lang/AbstractStringBuilder;Ljava/lang/Void;)V"⟩ : MethodName) jdk_42_method_150_code 5 none ws ⟨3, 1, 72, 49⟩ #[(.ref x), (.ref b), .null] h0 (fun v h L => ∃ (r : Addr) (kr : ClassId), v = none ∧ Fr n0 L ∧ Keep h0 h [x] ∧ h0.size ≤ r ∧ own_STW Z h x r kr cs) := by
  refine own_enter (plainFor_of_name pn1) (fun m => ef_sia m x b) ?_
  intro p e s m below meth c T0 hx hby hml hZ hown hnm hret hlk X0 e0
  have lx : @LT.lt Nat instLTNat x h0.size := Ex.lt
  have nbx : b ≠ x := (Ex.ne BB.1 (by decide)).symm
  have ntx : t ≠ x := (Ex.neArv BB.2.2.2.2.2.1 (own_w hw 3 rfl)).symm
  have N0 := Fr.nil n0
  refine own_step (b := T0.setTop (mkF m 1 #[.val (.ref x), .val (.ref b), .val .null, .unset, .unset] [(.ref x)])) (fun _ qk => XS.aloadN X0.here hx rfl (hb hby d29_0) rfl rfl qk) ?_
  refine own_initO (W := 0) X0 hx hZ hown (own_w hw 12 rfl) (own_w hw 13 rfl) (own_w hw 14 rfl) e0 (by rw [hml]; rfl) (hb hby d29_1) (by decide) (Nat.le_of_ble_eq_true rfl) (by decide) (fun T1 X1 e1 => ?_)
  refine own_step (b := T1.setTop (mkF m 5 #[.val (.ref x), .val (.ref b), .val .null, .unset, .unset] [(.ref b)])) (fun _ qk => XS.aloadN X1.here hx rfl (hb hby d29_4) rfl rfl qk) ?_
  refine own_virtualP (a := b) (W := 0) (argsL := []) (st := []) X1 hx hZ hown (own_w hw 157 rfl) (own_w hw 158 rfl) (own_w hw 160 rfl) trivial (own_w hw 159 rfl) (by decide) e1 BB.1 (rmGv l Z a0 hw [] b t kt (1 : Int32) cs.length (2 * N) (own_wb cs ++ own_Z (2 * N - 2 * cs.length)) h0 BB) (own_w hw 161 rfl) (own_w hw 49 rfl) (by decide) (by decide) (by decide) (by decide) (by rw [hml]; rfl) (lenOf pd21 rfl) rfl (Nat.le_of_ble_eq_true rfl) (hb hby d29_5) (fun T2 X2 e2 => ?_)
  refine own_step (b := T2.setTop (mkF m 10 #[.val (.ref x), .val (.ref b), .val .null, .val (.ref t), .unset] [(.ref b)])) (fun _ qk => XS.astoreN X2.here hx rfl (hb hby d29_8) rfl rfl (l' := #[.val (.ref x), .val (.ref b), .val .null, .val (.ref t), .unset]) rfl (XS.aloadN X2.here hx rfl (hb hby d29_9) rfl rfl qk)) ?_
  refine own_virtualZ (a := b) (W := 0) (argsL := []) (st := []) X2 hx hZ hown (own_w hw 162 rfl) (own_w hw 163 rfl) (own_w hw 165 rfl) (own_nfm hZ (own_nf (own_w hw 160 rfl) rfl)) (own_w hw 166 rfl) (by decide) e2 BB.1 (own_back (W := 0) (rmSbl l Z a0 hw [] b t kt (1 : Int32) cs.length (2 * N) (own_wb cs ++ own_Z (2 * N - 2 * cs.length)) h0 BB) hZ (own_w hw 167 rfl) (own_w hw 41 rfl) (by decide) (by decide)) (by decide) (by decide) (by rw [hml]; rfl) (lenOf pd15 rfl) rfl (Nat.le_of_ble_eq_true rfl) (hb hby d29_10) (fun v3 T3 L3 X3 hQ3 => ?_)
  obtain ⟨rfl, rfl, hh3⟩ := hQ3
  rw [List.append_nil] at X3
  refine own_step (b := T3.setTop (mkF m 16 #[.val (.ref x), .val (.ref b), .val .null, .val (.ref t), .val (.int (Int32.ofNat cs.length))] [(.ref b)])) (fun _ qk => XS.istore X3.here hx rfl (hb hby d29_13) rfl (l' := #[.val (.ref x), .val (.ref b), .val .null, .val (.ref t), .val (.int (Int32.ofNat cs.length))]) rfl (XS.aloadN X3.here hx rfl (hb hby d29_15) rfl rfl qk)) ?_
  refine own_virtualP (a := b) (W := 0) (argsL := []) (st := []) X3 hx hZ hown (own_w hw 170 rfl) (own_w hw 171 rfl) (own_w hw 173 rfl) trivial (own_w hw 172 rfl) (by decide) hh3 BB.1 (rmBislW l Z a0 hw [] b t kt cs.length _ _ h0 BB OL0 G1 O2 P5 G3 O4 rG3 SA1 SA2 SA3) (own_w hw 174 rfl) (own_w hw 49 rfl) (by decide) (by decide) (by decide) (by decide) (by rw [hml]; rfl) (lenOf pd10 rfl) rfl (Nat.le_of_ble_eq_true rfl) (hb hby d29_16) (fun T4 X4 e4 => ?_)
  show own_G p e below _ (T4.setTop (mkF m 19 #[.val (.ref x), .val (.ref b), .val .null, .val (.ref t), .val (.int (Int32.ofNat cs.length))] [(.int (0 : Int32))]))
  refine own_if_eq X4 hx (hb hby d29_19) (pc' := 41) (by decide) (by decide) (fun c19_5 => ?_) (fun c19_5 => absurd c19_5 (by decide))
  show own_G p e below _ (T4.setTop (mkF m 41 #[.val (.ref x), .val (.ref b), .val .null, .val (.ref t), .val (.int (Int32.ofNat cs.length))] []))
  refine own_getS X4 hx hZ hown (own_w hw 15 rfl) e4 (O2.ext OL0.2) (hb hby d29_41) (fun T6 X6 e6 => ?_)
  show own_G p e below _ (T6.setTop (mkF m 44 #[.val (.ref x), .val (.ref b), .val .null, .val (.ref t), .val (.int (Int32.ofNat cs.length))] [(.int G1)]))
  refine own_if_eq X6 hx (hb hby d29_44) (pc' := 79) (by decide) (by decide) (fun c44 => absurd c44 P5) (fun c44 => ?_)
  refine own_step (b := T6.setTop (mkF m 48 #[.val (.ref x), .val (.ref b), .val .null, .val (.ref t), .val (.int (Int32.ofNat cs.length))] [(.ref b)])) (fun _ qk => XS.aloadN X6.here hx rfl (hb hby d29_47) rfl rfl qk) ?_
  refine own_getF X6 hx hZ hown (own_w hw 269 rfl) e6 BB.2.2.2.2.1 (hb hby d29_48) (fun T7 X7 e7 => ?_)
  show own_G p e below _ (T7.setTop (mkF m 51 #[.val (.ref x), .val (.ref b), .val .null, .val (.ref t), .val (.int (Int32.ofNat cs.length))] [(.int (0 : Int32))]))
  refine own_if_eq X7 hx (hb hby d29_51) (pc' := 79) (by decide) (by decide) (fun c51_8 => ?_) (fun c51_8 => absurd c51_8 (by decide))
  refine own_step (b := T7.setTop (mkF m 81 #[.val (.ref x), .val (.ref b), .val .null, .val (.ref t), .val (.int (Int32.ofNat cs.length))] [(.int (1 : Int32)), (.ref x)])) (fun _ qk => XS.aloadN X7.here hx rfl (hb hby d29_79) rfl rfl (XS.iconst X7.here hx rfl (hb hby d29_80) qk)) ?_
  refine own_putF X7 hx hZ hown (own_w hw 27 rfl) e7 Fc Ex (Or.inr ⟨(own_w hw 28 rfl), rfl, hnm⟩) (own_w hw 3 rfl) (ty := .byte) (by decide) rfl rfl N0 gx (hb hby d29_81) (fun T9 h9 X9 e9 N9 W9 z9 F9 E9 => ?_)
  refine own_step (b := T9.setTop (mkF m 91 #[.val (.ref x), .val (.ref b), .val .null, .val (.ref t), .val (.int (Int32.ofNat cs.length))] [(.int ((Int32.ofNat cs.length) <<< ((1 : Int32) &&& 31))), (.int (0 : Int32)), (.ref t), (.ref x)])) (fun _ qk => XS.aloadN X9.here hx rfl (hb hby d29_84) rfl rfl (XS.aloadN X9.here hx rfl (hb hby d29_85) rfl rfl (XS.iconst X9.here hx rfl (hb hby d29_86) (XS.iload X9.here hx rfl (hb hby d29_87) rfl (XS.iconst X9.here hx rfl (hb hby d29_89) (XT.ishl X9.here hx rfl (hb hby d29_90) rfl qk)))))) ?_
  rw [own_shl1 (by omega)]
  show own_G p e below _ (T9.setTop (mkF m 91 #[.val (.ref x), .val (.ref b), .val .null, .val (.ref t), .val (.int (Int32.ofNat cs.length))] [(.int (Int32.ofNat (2 * cs.length))), (.int (0 : Int32)), (.ref t), (.ref x)]))
  refine own_static (W := 1) (argsL := [(.ref t), (.int (0 : Int32)), (.int (Int32.ofNat (2 * cs.length)))]) (st := [(.ref x)]) X9 hx hZ hown (own_w hw 175 rfl) (own_w hw 176 rfl) (own_w hw 177 rfl) (own_w hw 178 rfl) (by decide) e9 (own_back (W := 1) (rmCr l Z a0 hw [] t kt (2 * N) (2 * cs.length) _ h9 (BB.2.2.2.2.2.1.other W9 ntx) BB.2.2.2.2.2.2 (by omega) (by omega) n0 (by omega)) hZ (own_w hw 178 rfl) (own_w hw 177 rfl) (by decide) (by decide)) (by decide) (by decide) (by rw [hml]; rfl) (lenOf pd20 rfl) rfl (Nat.le_of_ble_eq_true rfl) (hb hby d29_91) (fun v10 T10 L10 X10 hQ10 => ?_)
  obtain ⟨r10, kr10, rfl, M10, E10, g10, l10, V10⟩ := hQ10
  have N10 := Fr.app N9 M10
  show own_G p e below _ (T10.setTop (mkF m 94 #[.val (.ref x), .val (.ref b), .val .null, .val (.ref t), .val (.int (Int32.ofNat cs.length))] [(.ref r10), (.ref x)]))
  refine own_putF X10 hx hZ hown (own_w hw 29 rfl) rfl ((Fv.other W9 (Or.inr (sn_v hw))).ext E10) (E9.ext E10) (Or.inr ⟨(own_w hw 30 rfl), rfl, hnm⟩) (own_w hw 3 rfl) (ty := (.array .byte)) (by decide) rfl rfl N10 gx (hb hby d29_94) (fun T11 h11 X11 e11 N11 W11 z11 F11 E11 => ?_)
  show own_G p e below _ (T11.setTop (mkF m 97 #[.val (.ref x), .val (.ref b), .val .null, .val (.ref t), .val (.int (Int32.ofNat cs.length))] []))
  subst e11
  exact own_retV X11 hx hret hlk (hb hby d29_97) ⟨r10, kr10, rfl, N11, ((((Keep.refl h0 [x]).wr W9 (Or.inl (List.mem_singleton.mpr rfl))).ext E10).wr W11 (Or.inl (List.mem_singleton.mpr rfl))), by omega, ⟨E11, (F9.ext E10).other W11 (Or.inr (sn_v hw).symm), F11, by have q := V10.other W11 (own_ne (Or.inr (by omega))); rw [List.take_append_of_le_length (by rw [own_wb_len]; exact Nat.le_refl _), List.take_of_length_le (by rw [own_wb_len]; exact Nat.le_refl _)] at q; exact q, (own_wb_len _)⟩⟩ (by decide) (by decide)
theorem rmSisW (l : Launch) (Z : State) (a0 : Array Value) (hw : ∀ d ∈ tables_1, d.before a0 Z = true) (ws : List Jvm.Cond) (x b t : Addr) (kt : ClassId) (N : Nat) (cs : List Int32) (h0 : Heap) (Ex : Exa Z h0 x "java/lang/String") (Fv : Fld Z h0 x "java/lang/String" "value" "[B" .null) (Fc : Fld Z h0 x "java/lang/String" "coder" "B" (.int 0)) (BB : own_SBW Z h0 b t kt N cs) (hcs : cs.length < N) (hN : N ≤ 36) (n0 : Nat) (hn0 : n0 ≤ h0.size) (gx : n0 ≤ x) (OL0 : Old Z Z.heap.size h0) (G1 : Int32) (O2 : Sta Z Z.heap "java/lang/String" "COMPACT_STRINGS" "Z" (.int G1)) (P5 : ¬ (G1 = (0 : Int32))) (G3 : Value) (O4 : Sta Z Z.heap "jdk/internal/util/Preconditions" "SIOOBE_FORMATTER" "Ljava/util/function/BiFunction;" G3) (rG3 : G3.isRef = true) (SA1 : Sta Z Z.heap "java/lang/StringUTF16" "$assertionsDisabled" "Z" (.int 1)) (SA2 : Sta Z Z.heap "java/lang/StringUTF16" "HI_BYTE_SHIFT" "I" (.int 0)) (SA3 : Sta Z Z.heap "java/lang/StringUTF16" "LO_BYTE_SHIFT" "I" (.int 8)) :
    own_Met l Z (⟨"java/lang/String", "<init>", "(Ljava/lang/StringBuilder;)V"⟩ : MethodName) jdk_42_method_53_code 2 none ws ⟨4, 1, 72, 65⟩ #[(.ref x), (.ref b)] h0 (fun v h L => ∃ (r : Addr) (kr : ClassId), v = none ∧ Fr n0 L ∧ Keep h0 h [x] ∧ h0.size ≤ r ∧ own_STW Z h x r kr cs) := by
  refine own_enter (plainFor_of_name pn1) (fun m => ef_sis m x b) ?_
  intro p e s m below meth c T0 hx hby hml hZ hown hnm hret hlk X0 e0
  refine own_step (b := T0.setTop (mkF m 3 #[.val (.ref x), .val (.ref b)] [.null, (.ref b), (.ref x)])) (fun _ qk => XS.aloadN X0.here hx rfl (hb hby d28_0) rfl rfl (XS.aloadN X0.here hx rfl (hb hby d28_1) rfl rfl (XS.aconstNull X0.here hx rfl (hb hby d28_2) qk))) ?_
  refine own_special (a := x) (W := 0) (argsL := [(.ref b), .null]) (st := []) X0 hx hZ hown rfl (own_w hw 154 rfl) (own_w hw 155 rfl) (own_w hw 156 rfl) (by decide) e0 (own_back (W := 0) (rmSiaW l Z a0 hw [] x b t kt N cs h0 Ex Fv Fc BB hcs hN n0 hn0 gx OL0 G1 O2 P5 G3 O4 rG3 SA1 SA2 SA3) hZ (own_w hw 156 rfl) (own_w hw 4 rfl) (by decide) (by decide)) (by decide) (by decide) (by rw [hml]; rfl) (lenOf pd22 rfl) rfl (Nat.le_of_ble_eq_true rfl) (hb hby d28_3) (fun v1 T1 L1 X1 hQ1 => ?_)
  obtain ⟨r1, kr1, rfl, M1, K1, g1, SS1⟩ := hQ1
  show own_G p e below _ (T1.setTop (mkF m 6 #[.val (.ref x), .val (.ref b)] []))
  exact own_retV X1 hx hret hlk (hb hby d28_6) ⟨r1, kr1, rfl, M1, K1, g1, SS1⟩ (by decide) (by decide)
theorem rmTsW (l : Launch) (Z : State) (a0 : Array Value) (hw : ∀ d ∈ tables_1, d.before a0 Z = true) (ws : List Jvm.Cond) (b t : Addr) (kt : ClassId) (N : Nat) (cs : List Int32) (h0 : Heap) (BB : own_SBW Z h0 b t kt N cs) (hcs : cs.length < N) (hN : N ≤ 36) (n0 : Nat) (hn0 : n0 ≤ h0.size) (OL0 : Old Z Z.heap.size h0) (G1 : Int32) (O2 : Sta Z Z.heap "java/lang/String" "COMPACT_STRINGS" "Z" (.int G1)) (P5 : ¬ (G1 = (0 : Int32))) (G3 : Value) (O4 : Sta Z Z.heap "jdk/internal/util/Preconditions" "SIOOBE_FORMATTER" "Ljava/util/function/BiFunction;" G3) (rG3 : G3.isRef = true) (SA1 : Sta Z Z.heap "java/lang/StringUTF16" "$assertionsDisabled" "Z" (.int 1)) (SA2 : Sta Z Z.heap "java/lang/StringUTF16" "HI_BYTE_SHIFT" "I" (.int 0)) (SA3 : Sta Z Z.heap "java/lang/StringUTF16" "LO_BYTE_SHIFT" "I" (.int 8)) :
    own_Met l Z (⟨"java/lang/StringBuilder", "toString", "()Ljava/lang/String;"⟩ : MethodName) jdk_67_method_42_code 1 (some (.object "java/lang/String")) ws ⟨5, 2, 76, 79⟩ #[(.ref b)] h0 (fun v h L => ∃ (x r : Addr) (kr : ClassId), v = some (.ref x) ∧ Fr n0 L ∧ Ext h0 h ∧ h0.size ≤ x ∧ h0.size ≤ r ∧ own_STW Z h x r kr cs) := by
  refine own_enter (plainFor_of_name pn7) (fun m => ef_ts m b) ?_
  intro p e s m below meth c T0 hx hby hml hZ hown hnm hret hlk X0 e0
  have N0 := Fr.nil n0
  show own_G p e below _ (T0.setTop (mkF m 0 #[.val (.ref b)] []))
  refine own_newO X0 hx hZ hown (own_w hw 150 rfl) (own_w hw 3 rfl) (own_w hw 4 rfl) e0 (hb hby d27_0) (by decide) (by decide) (fun T1 h1 a1 X1 e1 g1 l1 E1 A1 D1 => ?_)
  show own_G p e below _ (T1.setTop (mkF m 3 #[.val (.ref b)] [(.ref a1)]))
  have OL1 := OL0.ext E1
  refine own_step (b := T1.setTop (mkF m 5 #[.val (.ref b)] [(.ref b), (.ref a1), (.ref a1)])) (fun _ qk => XS.dup X1.here hx rfl (hb hby d27_3) rfl rfl (XS.aloadN X1.here hx rfl (hb hby d27_4) rfl rfl qk)) ?_
  refine own_special (a := a1) (W := 1) (argsL := [(.ref b)]) (st := [(.ref a1)]) X1 hx hZ hown rfl (own_w hw 151 rfl) (own_w hw 152 rfl) (own_w hw 153 rfl) (by decide) e1 (own_back (W := 1) (rmSisW l Z a0 hw [] a1 b t kt N cs h1 A1 (D1 (Or.inr (own_w hw 30 rfl)) (ty := (.array .byte)) (by decide)) (D1 (Or.inr (own_w hw 28 rfl)) (ty := .byte) (by decide)) (BB.ext E1) hcs hN n0 (by omega) (by omega) OL1 G1 O2 P5 G3 O4 rG3 SA1 SA2 SA3) hZ (own_w hw 153 rfl) (own_w hw 4 rfl) (by decide) (by decide)) (by decide) (by decide) (by rw [hml]; rfl) (lenOf pd23 rfl) rfl (Nat.le_of_ble_eq_true rfl) (hb hby d27_5) (fun v2 T2 L2 X2 hQ2 => ?_)
  obtain ⟨r2, kr2, rfl, M2, K2, g2, SS2⟩ := hQ2
  show own_G p e below _ (T2.setTop (mkF m 8 #[.val (.ref b)] [(.ref a1)]))
  exact own_retR X2 hx hret rfl rfl rfl hlk (hb hby d27_8) ⟨a1, r2, kr2, rfl, Fr.app N0 M2, own_ext (((Keep.refl h0 []).ext E1).trans K2 (allS (Or.inr (by omega)) all0)), by omega, by omega, SS2⟩ (by decide) (by decide)
abbrev own_C (c : Int32) : Prop := ¬ c < 0 ∧ ¬ (65535 : Int32) < c
theorem ef_c5 (m : MethodId) (a d : Addr) (x : Int32) : entryFrame m #[(.ref a), (.int (0 : Int32)), (.ref d), (.int (0 : Int32)), (.int x)] 7 = mkF m 0 #[.val (.ref a), .val (.int (0 : Int32)), .val (.ref d), .val (.int (0 : Int32)), .val (.int x), .unset, .unset] [] := by first | (simp [entryFrame, mkF, argsToLocals, Value.category, maxLocals]; done) | rfl
theorem rmC5L (l : Launch) (Z : State) (a0 : Array Value) (hw : ∀ d ∈ tables_1, d.before a0 Z = true) (ws : List Jvm.Cond) (a d : Addr) (ka kd : ClassId) (n : Nat) (cs : List Int32) (h0 : Heap) (Va : Arv Z h0 a ka .char (Int32.ofNat n) (cs.map Value.int) (.int 0)) (Vd : Arv Z h0 d kd .byte (Int32.ofNat n) (own_Z n) (.int 0)) (hl : cs.length = n) (hn : n ≤ 36) (had : a ≠ d) (n0 : Nat) (gd : n0 ≤ d) (hp : ∀ c ∈ cs, ¬ c < 0 ∧ ¬ (255 : Int32) < c) :
    own_Met l Z (⟨"java/lang/StringUTF16", "compress", "([CI[BII)I"⟩ : MethodName) jdk_52_method_21_code 7 (some .int) ws ⟨0, 0, 0, 0⟩ #[(.ref a), (.int (0 : Int32)), (.ref d), (.int (0 : Int32)), (.int (Int32.ofNat n))] h0 (fun v h L => v = some (.int (Int32.ofNat n)) ∧ Fr n0 L ∧ Keep h0 h [d] ∧ h.size = h0.size ∧ Arv Z h d kd .byte (Int32.ofNat n) (own_L cs) (.int 0)) := by
  refine own_enter (plainFor_of_name pn0) (fun m => ef_c5 m a d (Int32.ofNat n)) ?_
  intro p e s m below meth c T0 hx hby hml hZ hown hnm hret hlk X0 e0
  have N0 := Fr.nil n0
  refine own_step (b := T0.setTop (mkF m 3 #[.val (.ref a), .val (.int (0 : Int32)), .val (.ref d), .val (.int (0 : Int32)), .val (.int (Int32.ofNat n)), .val (.int (0 : Int32)), .unset] [])) (fun _ qk => XS.iconst X0.here hx rfl (hb hby d5_0) (XS.istore X0.here hx rfl (hb hby d5_1) rfl (l' := #[.val (.ref a), .val (.int (0 : Int32)), .val (.ref d), .val (.int (0 : Int32)), .val (.int (Int32.ofNat n)), .val (.int (0 : Int32)), .unset]) rfl qk)) ?_
  have loop : ∀ (j i : Nat) (_ : i + j = n) (s6 : Slot) (hs6 : s6 = .unset ∨ ∃ v : Value, s6 = .val v ∧ v.category = 1) (T : State) (h : Heap) (L : List Loc), Stand p l e ⟨0, 0, 0, 0⟩ s m #[(.ref a), (.int (0 : Int32)), (.ref d), (.int (0 : Int32)), (.int (Int32.ofNat n))] below meth c T L 0 0 → T.heap = h → Fr n0 L → Keep h0 h [d] → h.size = h0.size → Arv Z h d kd .byte (Int32.ofNat n) (own_L (cs.take i) ++ own_Z (n - i)) (.int 0) → own_G p e below (own_F s (fun v h L => v = some (.int (Int32.ofNat n)) ∧ Fr n0 L ∧ Keep h0 h [d] ∧ h.size = h0.size ∧ Arv Z h d kd .byte (Int32.ofNat n) (own_L cs) (.int 0)) 0 0) (T.setTop (mkF m 3 #[.val (.ref a), .val (.int (Int32.ofNat i)), .val (.ref d), .val (.int (Int32.ofNat i)), .val (.int (Int32.ofNat n)), .val (.int (Int32.ofNat i)), s6] [])) := by
    intro j
    induction j with
    | zero =>
      intro i hij s6 hs6 T h L X E N K z Vt
      obtain rfl : n = i := by omega
      refine own_step (b := T.setTop (mkF m 7 #[.val (.ref a), .val (.int (Int32.ofNat n)), .val (.ref d), .val (.int (Int32.ofNat n)), .val (.int (Int32.ofNat n)), .val (.int (Int32.ofNat n)), s6] [(.int (Int32.ofNat n)), (.int (Int32.ofNat n))])) (fun _ qk => XS.iload X.here hx rfl (hb hby d5_3) rfl (XS.iload X.here hx rfl (hb hby d5_5) rfl qk)) ?_
      refine own_icmp_ge X hx (hb hby d5_7) (pc' := 44) (by decide) (by decide) (fun c7 => ?_) (fun c7 => absurd c7 (by rw [own_ofNat_lt (by omega) (by omega)]; omega))
      refine own_step (b := T.setTop (mkF m 46 #[.val (.ref a), .val (.int (Int32.ofNat n)), .val (.ref d), .val (.int (Int32.ofNat n)), .val (.int (Int32.ofNat n)), .val (.int (Int32.ofNat n)), s6] [(.int (Int32.ofNat n))])) (fun _ qk => XS.iload X.here hx rfl (hb hby d5_44) rfl qk) ?_
      subst E
      exact own_retI X hx hret hlk (hb hby d5_46) ⟨rfl, N, K, z, by have q := Vt; rw [Nat.sub_self, show own_Z 0 = [] from rfl, List.append_nil, List.take_of_length_le (by omega)] at q; exact q⟩ (by decide) (by decide)
    | succ j ih =>
      intro i hij s6 hs6 T h L X E N K z Vt
      refine own_step (b := T.setTop (mkF m 7 #[.val (.ref a), .val (.int (Int32.ofNat i)), .val (.ref d), .val (.int (Int32.ofNat i)), .val (.int (Int32.ofNat n)), .val (.int (Int32.ofNat i)), s6] [(.int (Int32.ofNat n)), (.int (Int32.ofNat i))])) (fun _ qk => XS.iload X.here hx rfl (hb hby d5_3) rfl (XS.iload X.here hx rfl (hb hby d5_5) rfl qk)) ?_
      refine own_icmp_ge X hx (hb hby d5_7) (pc' := 44) (by decide) (by decide) (fun c7 => absurd ((own_ofNat_lt (by omega) (by omega)).mpr (by omega)) c7) (fun c7 => ?_)
      refine own_step (b := T.setTop (mkF m 12 #[.val (.ref a), .val (.int (Int32.ofNat i)), .val (.ref d), .val (.int (Int32.ofNat i)), .val (.int (Int32.ofNat n)), .val (.int (Int32.ofNat i)), s6] [(.int (Int32.ofNat i)), (.ref a)])) (fun _ qk => XS.aloadN X.here hx rfl (hb hby d5_10) rfl rfl (XS.iloadN X.here hx rfl (hb hby d5_11) rfl qk)) ?_
      refine own_ldC X hx hZ E (Va.keep K (ninS had nin0)) i (own_nn (by omega)) (own_clamp (by omega)) (by rw [own_clamp (by omega)]; omega) (v := (.int (cs.getD i 0))) (own_getM _ (by omega)) (hb hby d5_12) ?_
      refine own_step (b := T.setTop (mkF m 20 #[.val (.ref a), .val (.int (Int32.ofNat i)), .val (.ref d), .val (.int (Int32.ofNat i)), .val (.int (Int32.ofNat n)), .val (.int (Int32.ofNat i)), .val (.int (cs.getD i 0))] [(.int (255 : Int32)), (.int (cs.getD i 0))])) (fun _ qk => XS.istore X.here hx rfl (hb hby d5_13) rfl (l' := #[.val (.ref a), .val (.int (Int32.ofNat i)), .val (.ref d), .val (.int (Int32.ofNat i)), .val (.int (Int32.ofNat n)), .val (.int (Int32.ofNat i)), .val (.int (cs.getD i 0))]) (XS.store1 rfl hs6 rfl) (XS.iload X.here hx rfl (hb hby d5_15) rfl (XS.sipush X.here hx rfl (hb hby d5_17) qk))) ?_
      have hpi := hp _ (own_getD_mem (i := i) (by omega : i < cs.length))
      refine own_icmp_le X hx (hb hby d5_20) (pc' := 26) (by decide) (by decide) (fun c20 => ?_) (fun c20 => absurd c20 hpi.2)
      refine own_step (b := T.setTop (mkF m 31 #[.val (.ref a), .val (.int (Int32.ofNat i)), .val (.ref d), .val (.int (Int32.ofNat i)), .val (.int (Int32.ofNat n)), .val (.int (Int32.ofNat i)), .val (.int (cs.getD i 0))] [(.int ((cs.getD i 0).toInt8.toInt32)), (.int (Int32.ofNat i)), (.ref d)])) (fun _ qk => XS.aloadN X.here hx rfl (hb hby d5_26) rfl rfl (XS.iloadN X.here hx rfl (hb hby d5_27) rfl (XS.iload X.here hx rfl (hb hby d5_28) rfl (XT.i2b X.here hx rfl (hb hby d5_30) rfl qk)))) ?_
      refine own_stB X hx hZ E Vt i (own_nn (by omega)) (own_clamp (by omega)) (by rw [own_clamp (by omega)]; omega) (by simp; omega) N gd (hb hby d5_31) (fun T1 h1 X1 e1 N1 W1 z1 V1 => ?_)
      show own_G p e below _ (T1.setTop (mkF m 32 #[.val (.ref a), .val (.int (Int32.ofNat i)), .val (.ref d), .val (.int (Int32.ofNat i)), .val (.int (Int32.ofNat n)), .val (.int (Int32.ofNat i)), .val (.int (cs.getD i 0))] []))
      rw [own_narB] at V1
      rw [own_setL hl (by omega)] at V1
      refine own_step (b := T1.setTop (mkF m 3 #[.val (.ref a), .val (.int ((Int32.ofNat i) + (1 : Int32))), .val (.ref d), .val (.int ((Int32.ofNat i) + (1 : Int32))), .val (.int (Int32.ofNat n)), .val (.int ((Int32.ofNat i) + (1 : Int32))), .val (.int (cs.getD i 0))] [])) (fun _ qk => XS.iinc X1.here hx rfl (hb hby d5_32) rfl (l' := #[.val (.ref a), .val (.int ((Int32.ofNat i) + (1 : Int32))), .val (.ref d), .val (.int (Int32.ofNat i)), .val (.int (Int32.ofNat n)), .val (.int (Int32.ofNat i)), .val (.int (cs.getD i 0))]) rfl (XS.iinc X1.here hx rfl (hb hby d5_35) rfl (l' := #[.val (.ref a), .val (.int ((Int32.ofNat i) + (1 : Int32))), .val (.ref d), .val (.int ((Int32.ofNat i) + (1 : Int32))), .val (.int (Int32.ofNat n)), .val (.int (Int32.ofNat i)), .val (.int (cs.getD i 0))]) rfl (XS.iinc X1.here hx rfl (hb hby d5_38) rfl (l' := #[.val (.ref a), .val (.int ((Int32.ofNat i) + (1 : Int32))), .val (.ref d), .val (.int ((Int32.ofNat i) + (1 : Int32))), .val (.int (Int32.ofNat n)), .val (.int ((Int32.ofNat i) + (1 : Int32))), .val (.int (cs.getD i 0))]) rfl (XS.goto X1.here hx rfl (pc0 := 41) (pc' := 3) rfl (hb hby d5_41) (by decide) (by decide) qk)))) ?_
      simp only [own_ofNat_succ]
      exact ih (i + 1) (by omega) _ (Or.inr ⟨_, rfl, rfl⟩) _ _ _ X1 e1 N1 (K.wr W1 (Or.inl (List.mem_singleton.mpr rfl))) (by omega) V1
  exact loop n 0 (by omega) _ (Or.inl rfl) T0 h0 [] X0 e0 N0 (Keep.refl h0 [d]) rfl (by simpa using Vd)
theorem rmC5W (l : Launch) (Z : State) (a0 : Array Value) (hw : ∀ d ∈ tables_1, d.before a0 Z = true) (ws : List Jvm.Cond) (a d : Addr) (ka kd : ClassId) (n : Nat) (cs : List Int32) (h0 : Heap) (Va : Arv Z h0 a ka .char (Int32.ofNat n) (cs.map Value.int) (.int 0)) (Vd : Arv Z h0 d kd .byte (Int32.ofNat n) (own_Z n) (.int 0)) (hl : cs.length = n) (hn : n ≤ 36) (had : a ≠ d) (n0 : Nat) (gd : n0 ≤ d) (hex : ∃ c ∈ cs, (255 : Int32) < c) :
    own_Met l Z (⟨"java/lang/StringUTF16", "compress", "([CI[BII)I"⟩ : MethodName) jdk_52_method_21_code 7 (some .int) ws ⟨0, 0, 0, 0⟩ #[(.ref a), (.int (0 : Int32)), (.ref d), (.int (0 : Int32)), (.int (Int32.ofNat n))] h0 (fun v h L => ∃ i : Nat, i < n ∧ (255 : Int32) < cs.getD i 0 ∧ v = some (.int (Int32.ofNat i)) ∧ Fr n0 L ∧ Keep h0 h [d] ∧ h.size = h0.size) := by
  refine own_enter (plainFor_of_name pn0) (fun m => ef_c5 m a d (Int32.ofNat n)) ?_
  intro p e s m below meth c T0 hx hby hml hZ hown hnm hret hlk X0 e0
  have N0 := Fr.nil n0
  refine own_step (b := T0.setTop (mkF m 3 #[.val (.ref a), .val (.int (0 : Int32)), .val (.ref d), .val (.int (0 : Int32)), .val (.int (Int32.ofNat n)), .val (.int (0 : Int32)), .unset] [])) (fun _ qk => XS.iconst X0.here hx rfl (hb hby d5_0) (XS.istore X0.here hx rfl (hb hby d5_1) rfl (l' := #[.val (.ref a), .val (.int (0 : Int32)), .val (.ref d), .val (.int (0 : Int32)), .val (.int (Int32.ofNat n)), .val (.int (0 : Int32)), .unset]) rfl qk)) ?_
  have loop : ∀ (j i : Nat) (_ : i + j = n) (s6 : Slot) (hs6 : s6 = .unset ∨ ∃ v : Value, s6 = .val v ∧ v.category = 1) (T : State) (h : Heap) (L : List Loc), Stand p l e ⟨0, 0, 0, 0⟩ s m #[(.ref a), (.int (0 : Int32)), (.ref d), (.int (0 : Int32)), (.int (Int32.ofNat n))] below meth c T L 0 0 → T.heap = h → Fr n0 L → Keep h0 h [d] → h.size = h0.size → (∃ vs : List Value, vs.length = n ∧ Arv Z h d kd .byte (Int32.ofNat n) vs (.int 0)) → (∀ j, j < i → ¬ (255 : Int32) < cs.getD j 0) → own_G p e below (own_F s (fun v h L => ∃ i : Nat, i < n ∧ (255 : Int32) < cs.getD i 0 ∧ v = some (.int (Int32.ofNat i)) ∧ Fr n0 L ∧ Keep h0 h [d] ∧ h.size = h0.size) 0 0) (T.setTop (mkF m 3 #[.val (.ref a), .val (.int (Int32.ofNat i)), .val (.ref d), .val (.int (Int32.ofNat i)), .val (.int (Int32.ofNat n)), .val (.int (Int32.ofNat i)), s6] [])) := by
    intro j
    induction j with
    | zero =>
      intro i hij s6 hs6 T h L X E N K z Vt hno
      obtain rfl : n = i := by omega
      obtain ⟨c1, hc1, hc2⟩ := hex
      obtain ⟨j1, hj1, rfl⟩ := List.getElem_of_mem hc1
      exact absurd (by rw [List.getD_eq_getElem?_getD, List.getElem?_eq_getElem hj1]; exact hc2) (hno j1 (by omega))
    | succ j ih =>
      intro i hij s6 hs6 T h L X E N K z Vt hno
      refine own_step (b := T.setTop (mkF m 7 #[.val (.ref a), .val (.int (Int32.ofNat i)), .val (.ref d), .val (.int (Int32.ofNat i)), .val (.int (Int32.ofNat n)), .val (.int (Int32.ofNat i)), s6] [(.int (Int32.ofNat n)), (.int (Int32.ofNat i))])) (fun _ qk => XS.iload X.here hx rfl (hb hby d5_3) rfl (XS.iload X.here hx rfl (hb hby d5_5) rfl qk)) ?_
      refine own_icmp_ge X hx (hb hby d5_7) (pc' := 44) (by decide) (by decide) (fun c7 => absurd ((own_ofNat_lt (by omega) (by omega)).mpr (by omega)) c7) (fun c7 => ?_)
      refine own_step (b := T.setTop (mkF m 12 #[.val (.ref a), .val (.int (Int32.ofNat i)), .val (.ref d), .val (.int (Int32.ofNat i)), .val (.int (Int32.ofNat n)), .val (.int (Int32.ofNat i)), s6] [(.int (Int32.ofNat i)), (.ref a)])) (fun _ qk => XS.aloadN X.here hx rfl (hb hby d5_10) rfl rfl (XS.iloadN X.here hx rfl (hb hby d5_11) rfl qk)) ?_
      refine own_ldC X hx hZ E (Va.keep K (ninS had nin0)) i (own_nn (by omega)) (own_clamp (by omega)) (by rw [own_clamp (by omega)]; omega) (v := (.int (cs.getD i 0))) (own_getM _ (by omega)) (hb hby d5_12) ?_
      refine own_step (b := T.setTop (mkF m 20 #[.val (.ref a), .val (.int (Int32.ofNat i)), .val (.ref d), .val (.int (Int32.ofNat i)), .val (.int (Int32.ofNat n)), .val (.int (Int32.ofNat i)), .val (.int (cs.getD i 0))] [(.int (255 : Int32)), (.int (cs.getD i 0))])) (fun _ qk => XS.istore X.here hx rfl (hb hby d5_13) rfl (l' := #[.val (.ref a), .val (.int (Int32.ofNat i)), .val (.ref d), .val (.int (Int32.ofNat i)), .val (.int (Int32.ofNat n)), .val (.int (Int32.ofNat i)), .val (.int (cs.getD i 0))]) (XS.store1 rfl hs6 rfl) (XS.iload X.here hx rfl (hb hby d5_15) rfl (XS.sipush X.here hx rfl (hb hby d5_17) qk))) ?_
      obtain ⟨vs, hvs, Vt⟩ := Vt
      refine own_icmp_le X hx (hb hby d5_20) (pc' := 26) (by decide) (by decide) (fun c20 => ?_) (fun c20 => ?_)
      · show own_G p e below _ (T.setTop (mkF m 26 #[.val (.ref a), .val (.int (Int32.ofNat i)), .val (.ref d), .val (.int (Int32.ofNat i)), .val (.int (Int32.ofNat n)), .val (.int (Int32.ofNat i)), .val (.int (cs.getD i 0))] []))
        refine own_step (b := T.setTop (mkF m 31 #[.val (.ref a), .val (.int (Int32.ofNat i)), .val (.ref d), .val (.int (Int32.ofNat i)), .val (.int (Int32.ofNat n)), .val (.int (Int32.ofNat i)), .val (.int (cs.getD i 0))] [(.int ((cs.getD i 0).toInt8.toInt32)), (.int (Int32.ofNat i)), (.ref d)])) (fun _ qk => XS.aloadN X.here hx rfl (hb hby d5_26) rfl rfl (XS.iloadN X.here hx rfl (hb hby d5_27) rfl (XS.iload X.here hx rfl (hb hby d5_28) rfl (XT.i2b X.here hx rfl (hb hby d5_30) rfl qk)))) ?_
        refine own_stB X hx hZ E Vt i (own_nn (by omega)) (own_clamp (by omega)) (by rw [own_clamp (by omega)]; omega) (by omega) N gd (hb hby d5_31) (fun T1 h1 X1 e1 N1 W1 z1 V1 => ?_)
        show own_G p e below _ (T1.setTop (mkF m 32 #[.val (.ref a), .val (.int (Int32.ofNat i)), .val (.ref d), .val (.int (Int32.ofNat i)), .val (.int (Int32.ofNat n)), .val (.int (Int32.ofNat i)), .val (.int (cs.getD i 0))] []))
        rw [own_narB] at V1
        refine own_step (b := T1.setTop (mkF m 3 #[.val (.ref a), .val (.int ((Int32.ofNat i) + (1 : Int32))), .val (.ref d), .val (.int ((Int32.ofNat i) + (1 : Int32))), .val (.int (Int32.ofNat n)), .val (.int ((Int32.ofNat i) + (1 : Int32))), .val (.int (cs.getD i 0))] [])) (fun _ qk => XS.iinc X1.here hx rfl (hb hby d5_32) rfl (l' := #[.val (.ref a), .val (.int ((Int32.ofNat i) + (1 : Int32))), .val (.ref d), .val (.int (Int32.ofNat i)), .val (.int (Int32.ofNat n)), .val (.int (Int32.ofNat i)), .val (.int (cs.getD i 0))]) rfl (XS.iinc X1.here hx rfl (hb hby d5_35) rfl (l' := #[.val (.ref a), .val (.int ((Int32.ofNat i) + (1 : Int32))), .val (.ref d), .val (.int ((Int32.ofNat i) + (1 : Int32))), .val (.int (Int32.ofNat n)), .val (.int (Int32.ofNat i)), .val (.int (cs.getD i 0))]) rfl (XS.iinc X1.here hx rfl (hb hby d5_38) rfl (l' := #[.val (.ref a), .val (.int ((Int32.ofNat i) + (1 : Int32))), .val (.ref d), .val (.int ((Int32.ofNat i) + (1 : Int32))), .val (.int (Int32.ofNat n)), .val (.int ((Int32.ofNat i) + (1 : Int32))), .val (.int (cs.getD i 0))]) rfl (XS.goto X1.here hx rfl (pc0 := 41) (pc' := 3) rfl (hb hby d5_41) (by decide) (by decide) qk)))) ?_
        simp only [own_ofNat_succ]
        exact ih (i + 1) (by omega) _ (Or.inr ⟨_, rfl, rfl⟩) _ _ _ X1 e1 N1 (K.wr W1 (Or.inl (List.mem_singleton.mpr rfl))) (by omega) ⟨_, by rw [List.length_set]; exact hvs, V1⟩ (fun j1 hj1 => by rcases Nat.lt_succ_iff_lt_or_eq.mp hj1 with q1 | q1; exact hno j1 q1; subst q1; exact c20)
      · show own_G p e below _ (T.setTop (mkF m 23 #[.val (.ref a), .val (.int (Int32.ofNat i)), .val (.ref d), .val (.int (Int32.ofNat i)), .val (.int (Int32.ofNat n)), .val (.int (Int32.ofNat i)), .val (.int (cs.getD i 0))] []))
        refine own_step (b := T.setTop (mkF m 25 #[.val (.ref a), .val (.int (Int32.ofNat i)), .val (.ref d), .val (.int (Int32.ofNat i)), .val (.int (Int32.ofNat n)), .val (.int (Int32.ofNat i)), .val (.int (cs.getD i 0))] [(.int (Int32.ofNat i))])) (fun _ qk => XS.iload X.here hx rfl (hb hby d5_23) rfl qk) ?_
        subst E
        exact own_retI X hx hret hlk (hb hby d5_25) ⟨i, by omega, c20, rfl, N, K, z⟩ (by decide) (by decide)
  exact loop n 0 (by omega) _ (Or.inl rfl) T0 h0 [] X0 e0 N0 (Keep.refl h0 [d]) rfl ⟨_, by simp, Vd⟩ (fun _ q => absurd q (Nat.not_lt_zero _))
theorem ef_tb (m : MethodId) (a : Addr) (x : Int32) : entryFrame m #[(.ref a), (.int (0 : Int32)), (.int x)] 5 = mkF m 0 #[.val (.ref a), .val (.int (0 : Int32)), .val (.int x), .unset, .unset] [] := by first | (simp [entryFrame, mkF, argsToLocals, Value.category, maxLocals]; done) | rfl
theorem rmTb (l : Launch) (Z : State) (a0 : Array Value) (hw : ∀ d ∈ tables_1, d.before a0 Z = true) (ws : List Jvm.Cond) (a : Addr) (ka : ClassId) (n : Nat) (cs : List Int32) (h0 : Heap) (Va : Arv Z h0 a ka .char (Int32.ofNat n) (cs.map Value.int) (.int 0)) (hl : cs.length = n) (hn : n ≤ 36) (n0 : Nat) (zn : Z.heap.size ≤ n0) (hn0 : n0 ≤ h0.size) (OL0 : Old Z Z.heap.size h0) (G1 : Int32) (O2 : Sta Z Z.heap "java/lang/String" "COMPACT_STRINGS" "Z" (.int G1)) (P5 : ¬ (G1 = (0 : Int32))) (G3 : Value) (O4 : Sta Z Z.heap "jdk/internal/util/Preconditions" "SIOOBE_FORMATTER" "Ljava/util/function/BiFunction;" G3) (rG3 : G3.isRef = true) (SA1 : Sta Z Z.heap "java/lang/StringUTF16" "$assertionsDisabled" "Z" (.int 1)) (SA2 : Sta Z Z.heap "java/lang/StringUTF16" "HI_BYTE_SHIFT" "I" (.int 0)) (SA3 : Sta Z Z.heap "java/lang/StringUTF16" "LO_BYTE_SHIFT" "I" (.int 8)) :
    own_Met l Z (⟨"java/lang/StringUTF16", "toBytes", "([CII)[B"⟩ : MethodName) jdk_52_method_14_code 5 (some (.array .byte)) ws ⟨2, 1, 72, 24⟩ #[(.ref a), (.int (0 : Int32)), (.int (Int32.ofNat n))] h0 (fun v h L => ∃ (r : Addr) (kr : ClassId), v = some (.ref r) ∧ Fr n0 L ∧ Ext h0 h ∧ h0.size ≤ r ∧ @LT.lt Nat instLTNat r h.size ∧ Arv Z h r kr .byte (Int32.ofNat (2 * n)) (own_wb cs) (.int 0)) := by
  refine own_enter (plainFor_of_name pn0) (fun m => ef_tb m a (Int32.ofNat n)) ?_
  intro p e s m below meth c T0 hx hby hml hZ hown hnm hret hlk X0 e0
  have la : @LT.lt Nat instLTNat a h0.size := Va.lt
  have N0 := Fr.nil n0
  refine own_step (b := T0.setTop (mkF m 1 #[.val (.ref a), .val (.int (0 : Int32)), .val (.int (Int32.ofNat n)), .unset, .unset] [(.int (Int32.ofNat n))])) (fun _ qk => XS.iloadN X0.here hx rfl (hb hby d44_0) rfl qk) ?_
  refine own_static (W := 0) (argsL := [(.int (Int32.ofNat n))]) (st := []) X0 hx hZ hown (own_w hw 220 rfl) (own_w hw 221 rfl) (own_w hw 18 rfl) (own_w hw 222 rfl) (by decide) e0 (own_back (W := 0) (rmNbf l Z a0 hw [] n h0 hn) hZ (own_w hw 222 rfl) (own_w hw 18 rfl) (by decide) (by decide)) (by decide) (by decide) (by rw [hml]; rfl) (lenOf pd11 rfl) rfl (Nat.le_of_ble_eq_true rfl) (hb hby d44_1) (fun v1 T1 L1 X1 hQ1 => ?_)
  obtain ⟨r1, kr1, rfl, rfl, E1, g1, l1, V1⟩ := hQ1
  rw [List.append_nil] at X1
  refine own_step (b := T1.setTop (mkF m 8 #[.val (.ref a), .val (.int (0 : Int32)), .val (.int (Int32.ofNat n)), .val (.ref r1), .val (.int (0 : Int32))] [])) (fun _ qk => XS.astoreN X1.here hx rfl (hb hby d44_4) rfl rfl (l' := #[.val (.ref a), .val (.int (0 : Int32)), .val (.int (Int32.ofNat n)), .val (.ref r1), .unset]) rfl (XS.iconst X1.here hx rfl (hb hby d44_5) (XS.istore X1.here hx rfl (hb hby d44_6) rfl (l' := #[.val (.ref a), .val (.int (0 : Int32)), .val (.int (Int32.ofNat n)), .val (.ref r1), .val (.int (0 : Int32))]) rfl qk))) ?_
  have loop : ∀ (j i : Nat) (_ : i + j = n) (T : State) (h : Heap) (L : List Loc), Stand p l e ⟨2, 1, 72, 24⟩ s m #[(.ref a), (.int (0 : Int32)), (.int (Int32.ofNat n))] below meth c T L 1 72 → T.heap = h → Fr n0 L → Keep T1.heap h [r1] → h.size = T1.heap.size → Arv Z h r1 kr1 .byte (Int32.ofNat (2 * n)) ((own_Z (2 * n)).take (2 * 0) ++ own_wb (cs.take i) ++ (own_Z (2 * n)).drop (2 * 0 + 2 * i)) (.int 0) → own_G p e below (own_F s (fun v h L => ∃ (r : Addr) (kr : ClassId), v = some (.ref r) ∧ Fr n0 L ∧ Ext h0 h ∧ h0.size ≤ r ∧ @LT.lt Nat instLTNat r h.size ∧ Arv Z h r kr .byte (Int32.ofNat (2 * n)) (own_wb cs) (.int 0)) 1 72) (T.setTop (mkF m 8 #[.val (.ref a), .val (.int (Int32.ofNat i)), .val (.int (Int32.ofNat n)), .val (.ref r1), .val (.int (Int32.ofNat i))] [])) := by
    intro j
    induction j with
    | zero =>
      intro i hij T h L X E N K z Vt
      obtain rfl : n = i := by omega
      refine own_step (b := T.setTop (mkF m 11 #[.val (.ref a), .val (.int (Int32.ofNat n)), .val (.int (Int32.ofNat n)), .val (.ref r1), .val (.int (Int32.ofNat n))] [(.int (Int32.ofNat n)), (.int (Int32.ofNat n))])) (fun _ qk => XS.iload X.here hx rfl (hb hby d44_8) rfl (XS.iloadN X.here hx rfl (hb hby d44_10) rfl qk)) ?_
      refine own_icmp_ge X hx (hb hby d44_11) (pc' := 32) (by decide) (by decide) (fun c11 => ?_) (fun c11 => absurd c11 (by rw [own_ofNat_lt (by omega) (by omega)]; omega))
      refine own_step (b := T.setTop (mkF m 33 #[.val (.ref a), .val (.int (Int32.ofNat n)), .val (.int (Int32.ofNat n)), .val (.ref r1), .val (.int (Int32.ofNat n))] [(.ref r1)])) (fun _ qk => XS.aloadN X.here hx rfl (hb hby d44_32) rfl rfl qk) ?_
      subst E
      exact own_retR X hx hret rfl rfl rfl hlk (hb hby d44_33) ⟨_, _, rfl, N, own_ext (((Keep.refl h0 []).ext E1).trans K (allS (Or.inr (by omega)) all0)), by omega, by omega, by have q := Vt; rw [List.take_of_length_le (by omega : cs.length ≤ n), Nat.mul_zero, List.take_zero, List.nil_append, Nat.zero_add, List.drop_replicate, Nat.sub_self, List.replicate_zero, List.append_nil] at q; exact q⟩ (by decide) (by decide)
    | succ j ih =>
      intro i hij T h L X E N K z Vt
      refine own_step (b := T.setTop (mkF m 11 #[.val (.ref a), .val (.int (Int32.ofNat i)), .val (.int (Int32.ofNat n)), .val (.ref r1), .val (.int (Int32.ofNat i))] [(.int (Int32.ofNat n)), (.int (Int32.ofNat i))])) (fun _ qk => XS.iload X.here hx rfl (hb hby d44_8) rfl (XS.iloadN X.here hx rfl (hb hby d44_10) rfl qk)) ?_
      refine own_icmp_ge X hx (hb hby d44_11) (pc' := 32) (by decide) (by decide) (fun c11 => absurd ((own_ofNat_lt (by omega) (by omega)).mpr (by omega)) c11) (fun c11 => ?_)
      refine own_step (b := T.setTop (mkF m 19 #[.val (.ref a), .val (.int (Int32.ofNat i)), .val (.int (Int32.ofNat n)), .val (.ref r1), .val (.int (Int32.ofNat i))] [(.int (Int32.ofNat i)), (.ref a), (.int (Int32.ofNat i)), (.ref r1)])) (fun _ qk => XS.aloadN X.here hx rfl (hb hby d44_14) rfl rfl (XS.iload X.here hx rfl (hb hby d44_15) rfl (XS.aloadN X.here hx rfl (hb hby d44_17) rfl rfl (XS.iloadN X.here hx rfl (hb hby d44_18) rfl qk)))) ?_
      refine own_ldC X hx hZ E ((Va.ext E1).keep K (ninS (own_ne (Or.inl (by omega))) nin0)) i (own_nn (by omega)) (own_clamp (by omega)) (by rw [own_clamp (by omega)]; omega) (v := (.int (cs.getD i 0))) (own_getM _ (by omega)) (hb hby d44_19) ?_
      show own_G p e below _ (T.setTop (mkF m 20 #[.val (.ref a), .val (.int (Int32.ofNat i)), .val (.int (Int32.ofNat n)), .val (.ref r1), .val (.int (Int32.ofNat i))] [(.int (cs.getD i 0)), (.int (Int32.ofNat i)), (.ref r1)]))
      have OLk : Old Z Z.heap.size h := (OL0.ext E1).keep K (allS (by omega) all0)
      refine own_static (W := 0) (argsL := [(.ref r1), (.int (Int32.ofNat i)), (.int (cs.getD i 0))]) (st := []) X hx hZ hown (own_w hw 227 rfl) (own_w hw 228 rfl) (own_w hw 18 rfl) (own_w hw 229 rfl) (by decide) E (own_back (W := 0) (rmPut l Z a0 hw [] r1 kr1 (2 * n) i (cs.getD i 0) _ h Vt (by rw [List.length_append, List.length_append, own_wb_len, List.length_take, List.length_take, List.length_drop, List.length_replicate]; omega) (by omega) (by omega) n0 (by omega) OLk G1 O2 P5 G3 O4 rG3 SA1 SA2 SA3) hZ (own_w hw 229 rfl) (own_w hw 18 rfl) (by decide) (by decide)) (by decide) (by decide) (by rw [hml]; rfl) (lenOf pd8 rfl) rfl (Nat.le_of_ble_eq_true rfl) (hb hby d44_20) (fun v2 T2 L2 X2 hQ2 => ?_)
      obtain ⟨rfl, M2, K2, z2, V2⟩ := hQ2
      refine own_step (b := T2.setTop (mkF m 8 #[.val (.ref a), .val (.int ((Int32.ofNat i) + (1 : Int32))), .val (.int (Int32.ofNat n)), .val (.ref r1), .val (.int ((Int32.ofNat i) + (1 : Int32)))] [])) (fun _ qk => XS.iinc X2.here hx rfl (hb hby d44_23) rfl (l' := #[.val (.ref a), .val (.int ((Int32.ofNat i) + (1 : Int32))), .val (.int (Int32.ofNat n)), .val (.ref r1), .val (.int (Int32.ofNat i))]) rfl (XS.iinc X2.here hx rfl (hb hby d44_26) rfl (l' := #[.val (.ref a), .val (.int ((Int32.ofNat i) + (1 : Int32))), .val (.int (Int32.ofNat n)), .val (.ref r1), .val (.int ((Int32.ofNat i) + (1 : Int32)))]) rfl (XS.goto X2.here hx rfl (pc0 := 29) (pc' := 8) rfl (hb hby d44_29) (by decide) (by decide) qk))) ?_
      have hput := own_putL (vd := own_Z (2 * n)) (ds := cs) (n := 0) (i := i) (by simp; omega) (by omega)
      rw [Nat.zero_add i] at hput
      rw [hput] at V2
      simp only [own_ofNat_succ]
      exact ih (i + 1) (by omega) _ _ _ X2 rfl (Fr.app N M2) (K.trans K2 (allS (Or.inl (List.mem_singleton.mpr rfl)) all0)) (by omega) V2
  exact loop n 0 (by omega) T1 T1.heap [] X1 rfl N0 (Keep.refl _ [r1]) rfl (by have q := V1; simpa [own_wb, StrChars.Road.wideBytes] using q)
theorem ef_c3 (m : MethodId) (a : Addr) (x : Int32) : entryFrame m #[(.ref a), (.int (0 : Int32)), (.int x)] 6 = mkF m 0 #[.val (.ref a), .val (.int (0 : Int32)), .val (.int x), .unset, .unset, .unset] [] := by first | (simp [entryFrame, mkF, argsToLocals, Value.category, maxLocals]; done) | rfl
theorem rmC3L (l : Launch) (Z : State) (a0 : Array Value) (hw : ∀ d ∈ tables_1, d.before a0 Z = true) (ws : List Jvm.Cond) (a : Addr) (ka : ClassId) (n : Nat) (cs : List Int32) (h0 : Heap) (Va : Arv Z h0 a ka .char (Int32.ofNat n) (cs.map Value.int) (.int 0)) (hl : cs.length = n) (hn : n ≤ 36) (n0 : Nat) (zn : Z.heap.size ≤ n0) (hn0 : n0 ≤ h0.size) (OL0 : Old Z Z.heap.size h0) (G1 : Int32) (O2 : Sta Z Z.heap "java/lang/String" "COMPACT_STRINGS" "Z" (.int G1)) (P5 : ¬ (G1 = (0 : Int32))) (G3 : Value) (O4 : Sta Z Z.heap "jdk/internal/util/Preconditions" "SIOOBE_FORMATTER" "Ljava/util/function/BiFunction;" G3) (rG3 : G3.isRef = true) (SA1 : Sta Z Z.heap "java/lang/StringUTF16" "$assertionsDisabled" "Z" (.int 1)) (SA2 : Sta Z Z.heap "java/lang/StringUTF16" "HI_BYTE_SHIFT" "I" (.int 0)) (SA3 : Sta Z Z.heap "java/lang/StringUTF16" "LO_BYTE_SHIFT" "I" (.int 8)) (hp : ∀ c ∈ cs, ¬ c < 0 ∧ ¬ (255 : Int32) < c) :
    own_Met l Z (⟨"java/lang/StringUTF16", "compress", "([CII)[B"⟩ : MethodName) jdk_52_method_16_code 6 (some (.array .byte)) ws ⟨1, 1, 36, 18⟩ #[(.ref a), (.int (0 : Int32)), (.int (Int32.ofNat n))] h0 (fun v h L => ∃ (r : Addr) (kr : ClassId), v = some (.ref r) ∧ Fr n0 L ∧ Ext h0 h ∧ h0.size ≤ r ∧ @LT.lt Nat instLTNat r h.size ∧ Arv Z h r kr .byte (Int32.ofNat n) (own_L cs) (.int 0)) := by
  refine own_enter (plainFor_of_name pn0) (fun m => ef_c3 m a (Int32.ofNat n)) ?_
  intro p e s m below meth c T0 hx hby hml hZ hown hnm hret hlk X0 e0
  have la : @LT.lt Nat instLTNat a h0.size := Va.lt
  have N0 := Fr.nil n0
  refine own_step (b := T0.setTop (mkF m 1 #[.val (.ref a), .val (.int (0 : Int32)), .val (.int (Int32.ofNat n)), .unset, .unset, .unset] [(.int (Int32.ofNat n))])) (fun _ qk => XS.iloadN X0.here hx rfl (hb hby d4_0) rfl qk) ?_
  refine own_newP X0 hx hZ (own_w hw 20 rfl) e0 (hb hby d4_1) (n := (Int32.ofNat n)) (own_nn (by omega)) 36 (by rw [own_clamp (by omega)]; omega) (by decide) (by decide) (by decide) (fun T1 h1 a1 k1 X1 e1 g1 l1 E1 V1 => ?_)
  have VB1 : Arv Z h1 a1 k1 .byte (Int32.ofNat n) (List.replicate n (.int 0)) (.int 0) := by have q := V1; rw [own_clamp (by omega)] at q; exact q
  refine own_step (b := T1.setTop (mkF m 9 #[.val (.ref a), .val (.int (0 : Int32)), .val (.int (Int32.ofNat n)), .val (.ref a1), .unset, .unset] [(.int (Int32.ofNat n)), (.int (0 : Int32)), (.ref a1), (.int (0 : Int32)), (.ref a)])) (fun _ qk => XS.astoreN X1.here hx rfl (hb hby d4_3) rfl rfl (l' := #[.val (.ref a), .val (.int (0 : Int32)), .val (.int (Int32.ofNat n)), .val (.ref a1), .unset, .unset]) rfl (XS.aloadN X1.here hx rfl (hb hby d4_4) rfl rfl (XS.iloadN X1.here hx rfl (hb hby d4_5) rfl (XS.aloadN X1.here hx rfl (hb hby d4_6) rfl rfl (XS.iconst X1.here hx rfl (hb hby d4_7) (XS.iloadN X1.here hx rfl (hb hby d4_8) rfl qk)))))) ?_
  refine own_static (W := 0) (argsL := [(.ref a), (.int (0 : Int32)), (.ref a1), (.int (0 : Int32)), (.int (Int32.ofNat n))]) (st := []) X1 hx hZ hown (own_w hw 21 rfl) (own_w hw 22 rfl) (own_w hw 18 rfl) (own_w hw 23 rfl) (by decide) e1 (own_back (W := 0) (rmC5L l Z a0 hw [] a a1 ka k1 n cs h1 (Va.ext E1) VB1 hl hn (own_ne (Or.inl (by omega))) n0 (by omega) hp) hZ (own_w hw 23 rfl) (own_w hw 18 rfl) (by decide) (by decide)) (by decide) (by decide) (by rw [hml]; rfl) (lenOf pd24 rfl) rfl (Nat.le_of_ble_eq_true rfl) (hb hby d4_9) (fun v2 T2 L2 X2 hQ2 => ?_)
  obtain ⟨rfl, M2, K2, z2, V2⟩ := hQ2
  refine own_step (b := T2.setTop (mkF m 17 #[.val (.ref a), .val (.int (0 : Int32)), .val (.int (Int32.ofNat n)), .val (.ref a1), .val (.int (Int32.ofNat n)), .unset] [(.int (Int32.ofNat n)), (.int (Int32.ofNat n))])) (fun _ qk => XS.istore X2.here hx rfl (hb hby d4_12) rfl (l' := #[.val (.ref a), .val (.int (0 : Int32)), .val (.int (Int32.ofNat n)), .val (.ref a1), .val (.int (Int32.ofNat n)), .unset]) rfl (XS.iload X2.here hx rfl (hb hby d4_14) rfl (XS.iloadN X2.here hx rfl (hb hby d4_16) rfl qk))) ?_
  refine own_icmp_eq X2 hx (hb hby d4_17) (pc' := 57) (by decide) (by decide) (fun c17 => ?_) (fun c17 => absurd rfl c17)
  refine own_step (b := T2.setTop (mkF m 58 #[.val (.ref a), .val (.int (0 : Int32)), .val (.int (Int32.ofNat n)), .val (.ref a1), .val (.int (Int32.ofNat n)), .unset] [(.ref a1)])) (fun _ qk => XS.aloadN X2.here hx rfl (hb hby d4_57) rfl rfl qk) ?_
  exact own_retR X2 hx hret rfl rfl rfl hlk (hb hby d4_58) ⟨_, _, rfl, Fr.app N0 M2, own_ext (((Keep.refl h0 []).ext E1).trans K2 (allS (Or.inr (by omega)) all0)), by omega, by omega, V2⟩ (by decide) (by decide)
theorem rmC3W (l : Launch) (Z : State) (a0 : Array Value) (hw : ∀ d ∈ tables_1, d.before a0 Z = true) (ws : List Jvm.Cond) (a : Addr) (ka : ClassId) (n : Nat) (cs : List Int32) (h0 : Heap) (Va : Arv Z h0 a ka .char (Int32.ofNat n) (cs.map Value.int) (.int 0)) (hl : cs.length = n) (hn : n ≤ 36) (n0 : Nat) (zn : Z.heap.size ≤ n0) (hn0 : n0 ≤ h0.size) (OL0 : Old Z Z.heap.size h0) (G1 : Int32) (O2 : Sta Z Z.heap "java/lang/String" "COMPACT_STRINGS" "Z" (.int G1)) (P5 : ¬ (G1 = (0 : Int32))) (G3 : Value) (O4 : Sta Z Z.heap "jdk/internal/util/Preconditions" "SIOOBE_FORMATTER" "Ljava/util/function/BiFunction;" G3) (rG3 : G3.isRef = true) (SA1 : Sta Z Z.heap "java/lang/StringUTF16" "$assertionsDisabled" "Z" (.int 1)) (SA2 : Sta Z Z.heap "java/lang/StringUTF16" "HI_BYTE_SHIFT" "I" (.int 0)) (SA3 : Sta Z Z.heap "java/lang/StringUTF16" "LO_BYTE_SHIFT" "I" (.int 8)) (hch : ∀ c ∈ cs, own_C c) (hex : ∃ c ∈ cs, (255 : Int32) < c) :
    own_Met l Z (⟨"java/lang/StringUTF16", "compress", "([CII)[B"⟩ : MethodName) jdk_52_method_16_code 6 (some (.array .byte)) ws ⟨3, 2, 108, 40⟩ #[(.ref a), (.int (0 : Int32)), (.int (Int32.ofNat n))] h0 (fun v h L => ∃ (r : Addr) (kr : ClassId), v = some (.ref r) ∧ Fr n0 L ∧ Ext h0 h ∧ h0.size ≤ r ∧ @LT.lt Nat instLTNat r h.size ∧ Arv Z h r kr .byte (Int32.ofNat (2 * n)) (own_wb cs) (.int 0)) := by
  refine own_enter (plainFor_of_name pn0) (fun m => ef_c3 m a (Int32.ofNat n)) ?_
  intro p e s m below meth c T0 hx hby hml hZ hown hnm hret hlk X0 e0
  have la : @LT.lt Nat instLTNat a h0.size := Va.lt
  have N0 := Fr.nil n0
  refine own_step (b := T0.setTop (mkF m 1 #[.val (.ref a), .val (.int (0 : Int32)), .val (.int (Int32.ofNat n)), .unset, .unset, .unset] [(.int (Int32.ofNat n))])) (fun _ qk => XS.iloadN X0.here hx rfl (hb hby d4_0) rfl qk) ?_
  refine own_newP X0 hx hZ (own_w hw 20 rfl) e0 (hb hby d4_1) (n := (Int32.ofNat n)) (own_nn (by omega)) 36 (by rw [own_clamp (by omega)]; omega) (by decide) (by decide) (by decide) (fun T1 h1 a1 k1 X1 e1 g1 l1 E1 V1 => ?_)
  have VB1 : Arv Z h1 a1 k1 .byte (Int32.ofNat n) (List.replicate n (.int 0)) (.int 0) := by have q := V1; rw [own_clamp (by omega)] at q; exact q
  refine own_step (b := T1.setTop (mkF m 9 #[.val (.ref a), .val (.int (0 : Int32)), .val (.int (Int32.ofNat n)), .val (.ref a1), .unset, .unset] [(.int (Int32.ofNat n)), (.int (0 : Int32)), (.ref a1), (.int (0 : Int32)), (.ref a)])) (fun _ qk => XS.astoreN X1.here hx rfl (hb hby d4_3) rfl rfl (l' := #[.val (.ref a), .val (.int (0 : Int32)), .val (.int (Int32.ofNat n)), .val (.ref a1), .unset, .unset]) rfl (XS.aloadN X1.here hx rfl (hb hby d4_4) rfl rfl (XS.iloadN X1.here hx rfl (hb hby d4_5) rfl (XS.aloadN X1.here hx rfl (hb hby d4_6) rfl rfl (XS.iconst X1.here hx rfl (hb hby d4_7) (XS.iloadN X1.here hx rfl (hb hby d4_8) rfl qk)))))) ?_
  refine own_static (W := 0) (argsL := [(.ref a), (.int (0 : Int32)), (.ref a1), (.int (0 : Int32)), (.int (Int32.ofNat n))]) (st := []) X1 hx hZ hown (own_w hw 21 rfl) (own_w hw 22 rfl) (own_w hw 18 rfl) (own_w hw 23 rfl) (by decide) e1 (own_back (W := 0) (rmC5W l Z a0 hw [] a a1 ka k1 n cs h1 (Va.ext E1) VB1 hl hn (own_ne (Or.inl (by omega))) n0 (by omega) hex) hZ (own_w hw 23 rfl) (own_w hw 18 rfl) (by decide) (by decide)) (by decide) (by decide) (by rw [hml]; rfl) (lenOf pd24 rfl) rfl (Nat.le_of_ble_eq_true rfl) (hb hby d4_9) (fun v2 T2 L2 X2 hQ2 => ?_)
  obtain ⟨i2, li2, ci2, rfl, M2, K2, z2⟩ := hQ2
  refine own_step (b := T2.setTop (mkF m 17 #[.val (.ref a), .val (.int (0 : Int32)), .val (.int (Int32.ofNat n)), .val (.ref a1), .val (.int (Int32.ofNat i2)), .unset] [(.int (Int32.ofNat n)), (.int (Int32.ofNat i2))])) (fun _ qk => XS.istore X2.here hx rfl (hb hby d4_12) rfl (l' := #[.val (.ref a), .val (.int (0 : Int32)), .val (.int (Int32.ofNat n)), .val (.ref a1), .val (.int (Int32.ofNat i2)), .unset]) rfl (XS.iload X2.here hx rfl (hb hby d4_14) rfl (XS.iloadN X2.here hx rfl (hb hby d4_16) rfl qk))) ?_
  refine own_icmp_eq X2 hx (hb hby d4_17) (pc' := 57) (by decide) (by decide) (fun c17 => absurd ((own_ofNat_eq (by omega) (by omega)).mp c17) (by omega)) (fun c17 => ?_)
  refine own_step (b := T2.setTop (mkF m 23 #[.val (.ref a), .val (.int (0 : Int32)), .val (.int (Int32.ofNat n)), .val (.ref a1), .val (.int (Int32.ofNat i2)), .unset] [(.int (Int32.ofNat n)), (.int (0 : Int32)), (.ref a)])) (fun _ qk => XS.aloadN X2.here hx rfl (hb hby d4_20) rfl rfl (XS.iloadN X2.here hx rfl (hb hby d4_21) rfl (XS.iloadN X2.here hx rfl (hb hby d4_22) rfl qk))) ?_
  have KP2 := (((Keep.refl h0 []).ext E1).trans K2 (allS (Or.inr (by omega)) all0))
  have OL2 := OL0.ext (own_ext KP2)
  refine own_static (W := 0) (argsL := [(.ref a), (.int (0 : Int32)), (.int (Int32.ofNat n))]) (st := []) X2 hx hZ hown (own_w hw 217 rfl) (own_w hw 218 rfl) (own_w hw 18 rfl) (own_w hw 219 rfl) (by decide) rfl (own_back (W := 0) (rmTb l Z a0 hw [] a ka n cs T2.heap (Va.ext (own_ext KP2)) hl hn n0 zn (by omega) OL2 G1 O2 P5 G3 O4 rG3 SA1 SA2 SA3) hZ (own_w hw 219 rfl) (own_w hw 18 rfl) (by decide) (by decide)) (by decide) (by decide) (by rw [hml]; rfl) (lenOf pd25 rfl) rfl (Nat.le_of_ble_eq_true rfl) (hb hby d4_23) (fun v3 T3 L3 X3 hQ3 => ?_)
  obtain ⟨r3, kr3, rfl, M3, E3, g3, l3, V3⟩ := hQ3
  refine own_step (b := T3.setTop (mkF m 32 #[.val (.ref a), .val (.int (0 : Int32)), .val (.int (Int32.ofNat n)), .val (.ref a1), .val (.int (Int32.ofNat i2)), .val (.ref r3)] [(.int (Int32.ofNat i2)), (.ref r3)])) (fun _ qk => XS.astore X3.here hx rfl (hb hby d4_26) rfl rfl (l' := #[.val (.ref a), .val (.int (0 : Int32)), .val (.int (Int32.ofNat n)), .val (.ref a1), .val (.int (Int32.ofNat i2)), .val (.ref r3)]) rfl (XS.aload X3.here hx rfl (hb hby d4_28) rfl rfl (XS.iload X3.here hx rfl (hb hby d4_30) rfl qk))) ?_
  rw [← hl] at V3
  have OL3 := OL2.ext E3
  refine own_staticP (W := 0) (argsL := [(.ref r3), (.int (Int32.ofNat i2))]) (st := []) X3 hx hZ hown (own_w hw 233 rfl) (own_w hw 234 rfl) (own_w hw 18 rfl) (own_w hw 235 rfl) (by decide) rfl (rmGc l Z a0 hw [] r3 kr3 i2 cs T3.heap V3 (by omega) (by omega) (hch _ (own_getD_mem (by omega))) OL3 G1 O2 P5 G3 O4 rG3 SA1 SA2 SA3) (by decide) (by decide) (by decide) (by decide) (by rw [hml]; rfl) (lenOf pd26 rfl) rfl (Nat.le_of_ble_eq_true rfl) (hb hby d4_32) (fun T4 X4 e4 => ?_)
  refine own_step (b := T4.setTop (mkF m 38 #[.val (.ref a), .val (.int (0 : Int32)), .val (.int (Int32.ofNat n)), .val (.ref a1), .val (.int (Int32.ofNat i2)), .val (.ref r3)] [(.int (255 : Int32)), (.int (cs.getD i2 0))])) (fun _ qk => XS.sipush X4.here hx rfl (hb hby d4_35) qk) ?_
  refine own_icmp_gt X4 hx (hb hby d4_38) (pc' := 54) (by decide) (by decide) (fun c38 => ?_) (fun c38 => absurd ci2 c38)
  refine own_step (b := T4.setTop (mkF m 56 #[.val (.ref a), .val (.int (0 : Int32)), .val (.int (Int32.ofNat n)), .val (.ref a1), .val (.int (Int32.ofNat i2)), .val (.ref r3)] [(.ref r3)])) (fun _ qk => XS.aload X4.here hx rfl (hb hby d4_54) rfl rfl qk) ?_
  exact own_retR X4 hx hret rfl rfl rfl hlk (hb hby d4_56) (by rw [e4]; exact ⟨_, _, rfl, Fr.app (Fr.app N0 M2) M3, own_ext (KP2.ext E3), by omega, by omega, by have q := V3; rw [hl] at q; exact q⟩) (by decide) (by decide)
theorem ef_cfa (m : MethodId) (t : Addr) (x : Int32) : entryFrame m #[(.ref t), (.int x)] 2 = mkF m 0 #[.val (.ref t), .val (.int x)] [] := by first | (simp [entryFrame, mkF, argsToLocals, Value.category, maxLocals]; done) | rfl
theorem rmCfaL (l : Launch) (Z : State) (a0 : Array Value) (hw : ∀ d ∈ tables_1, d.before a0 Z = true) (ws : List Jvm.Cond) (t : Addr) (kt : ClassId) (n : Nat) (vs : List Value) (h0 : Heap) (V : Arv Z h0 t kt .byte (Int32.ofNat n) vs (.int 0)) (h1 : 0 < n) (hn : n ≤ 36) :
    own_Met l Z (⟨"java/lang/StringUTF16", "coderFromArrayLen", "([BI)B"⟩ : MethodName) jdk_52_method_15_code 2 (some .byte) ws ⟨0, 0, 0, 0⟩ #[(.ref t), (.int (Int32.ofNat n))] h0 (own_P (some (.int (0 : Int32))) h0) := by
  refine own_enter (plainFor_of_name pn0) (fun m => ef_cfa m t (Int32.ofNat n)) ?_
  intro p e s m below meth c T0 hx hby hml hZ hown hnm hret hlk X0 e0
  refine own_step (b := T0.setTop (mkF m 2 #[.val (.ref t), .val (.int (Int32.ofNat n))] [(.ref t), (.int (Int32.ofNat n))])) (fun _ qk => XS.iloadN X0.here hx rfl (hb hby d6_0) rfl (XS.aloadN X0.here hx rfl (hb hby d6_1) rfl rfl qk)) ?_
  refine own_len X0 hx hZ e0 V (hb hby d6_2) ?_
  refine own_step (b := T0.setTop (mkF m 8 #[.val (.ref t), .val (.int (Int32.ofNat n))] [(.int ((XT.ushr ((Int32.ofNat n) - (Int32.ofNat n)) (31 : Int32)).toInt8.toInt32))])) (fun _ qk => XS.isub X0.here hx rfl (hb hby d6_3) rfl (XS.bipush X0.here hx rfl (hb hby d6_4) (XT.iushr X0.here hx rfl (hb hby d6_6) rfl (XT.i2b X0.here hx rfl (hb hby d6_7) rfl qk)))) ?_
  exact own_retN X0 hx hret (by simp) hlk (hb hby d6_8) ⟨by rw [own_cfl]; rfl, rfl, e0⟩ (by decide) (by decide)
theorem rmCfaW (l : Launch) (Z : State) (a0 : Array Value) (hw : ∀ d ∈ tables_1, d.before a0 Z = true) (ws : List Jvm.Cond) (t : Addr) (kt : ClassId) (n : Nat) (vs : List Value) (h0 : Heap) (V : Arv Z h0 t kt .byte (Int32.ofNat (2 * n)) vs (.int 0)) (h1 : 0 < n) (hn : n ≤ 36) :
    own_Met l Z (⟨"java/lang/StringUTF16", "coderFromArrayLen", "([BI)B"⟩ : MethodName) jdk_52_method_15_code 2 (some .byte) ws ⟨0, 0, 0, 0⟩ #[(.ref t), (.int (Int32.ofNat n))] h0 (own_P (some (.int (1 : Int32))) h0) := by
  refine own_enter (plainFor_of_name pn0) (fun m => ef_cfa m t (Int32.ofNat n)) ?_
  intro p e s m below meth c T0 hx hby hml hZ hown hnm hret hlk X0 e0
  refine own_step (b := T0.setTop (mkF m 2 #[.val (.ref t), .val (.int (Int32.ofNat n))] [(.ref t), (.int (Int32.ofNat n))])) (fun _ qk => XS.iloadN X0.here hx rfl (hb hby d6_0) rfl (XS.aloadN X0.here hx rfl (hb hby d6_1) rfl rfl qk)) ?_
  refine own_len X0 hx hZ e0 V (hb hby d6_2) ?_
  refine own_step (b := T0.setTop (mkF m 8 #[.val (.ref t), .val (.int (Int32.ofNat n))] [(.int ((XT.ushr ((Int32.ofNat n) - (Int32.ofNat (2 * n))) (31 : Int32)).toInt8.toInt32))])) (fun _ qk => XS.isub X0.here hx rfl (hb hby d6_3) rfl (XS.bipush X0.here hx rfl (hb hby d6_4) (XT.iushr X0.here hx rfl (hb hby d6_6) rfl (XT.i2b X0.here hx rfl (hb hby d6_7) rfl qk)))) ?_
  exact own_retN X0 hx hret (by simp) hlk (hb hby d6_8) ⟨by rw [own_cfw h1 hn]; rfl, rfl, e0⟩ (by decide) (by decide)
theorem ef_n4 (m : MethodId) (x a : Addr) (y : Int32) : entryFrame m #[(.ref x), (.ref a), (.int (0 : Int32)), (.int y), .null] 6 = mkF m 0 #[.val (.ref x), .val (.ref a), .val (.int (0 : Int32)), .val (.int y), .val .null, .unset] [] := by first | (simp [entryFrame, mkF, argsToLocals, Value.category, maxLocals]; done) | rfl
theorem ef_n1 (m : MethodId) (x a : Addr) : entryFrame m #[(.ref x), (.ref a)] 2 = mkF m 0 #[.val (.ref x), .val (.ref a)] [] := by first | (simp [entryFrame, mkF, argsToLocals, Value.category, maxLocals]; done) | rfl
theorem rmN4L (l : Launch) (Z : State) (a0 : Array Value) (hw : ∀ d ∈ tables_1, d.before a0 Z = true) (ws : List Jvm.Cond) (x a : Addr) (ka : ClassId) (n : Nat) (cs : List Int32) (h0 : Heap) (Ex : Exa Z h0 x "java/lang/String") (Fv : Fld Z h0 x "java/lang/String" "value" "[B" .null) (Fc : Fld Z h0 x "java/lang/String" "coder" "B" (.int 0)) (Va : Arv Z h0 a ka .char (Int32.ofNat n) (cs.map Value.int) (.int 0)) (hl : cs.length = n) (h1 : 0 < n) (hn : n ≤ 36) (n0 : Nat) (zn : Z.heap.size ≤ n0) (hn0 : n0 ≤ h0.size) (gx : n0 ≤ x) (OL0 : Old Z Z.heap.size h0) (G1 : Int32) (O2 : Sta Z Z.heap "java/lang/String" "COMPACT_STRINGS" "Z" (.int G1)) (P5 : ¬ (G1 = (0 : Int32))) (G3 : Value) (O4 : Sta Z Z.heap "jdk/internal/util/Preconditions" "SIOOBE_FORMATTER" "Ljava/util/function/BiFunction;" G3) (rG3 : G3.isRef = true) (SA1 : Sta Z Z.heap "java/lang/StringUTF16" "$assertionsDisabled" "Z" (.int 1)) (SA2 : Sta Z Z.heap "java/lang/StringUTF16" "HI_BYTE_SHIFT" "I" (.int 0)) (SA3 : Sta Z Z.heap "java/lang/StringUTF16" "LO_BYTE_SHIFT" "I" (.int 8)) (hp : ∀ c ∈ cs, ¬ c < 0 ∧ ¬ (255 : Int32) < c) :
    own_Met l Z (⟨"java/lang/String", "<init>", "([CIILjava/lang/Void;)V"⟩ : MethodName) jdk_42_method_149_code 6 none ws ⟨2, 1, 36, 35⟩ #[(.ref x), (.ref a), (.int (0 : Int32)), (.int (Int32.ofNat n)), .null] h0 (fun v h L => ∃ (r : Addr) (kr : ClassId), v = none ∧ Fr n0 L ∧ Keep h0 h [x] ∧ h0.size ≤ r ∧ own_STL Z h x r kr cs) := by
  refine own_enter (plainFor_of_name pn1) (fun m => ef_n4 m x a (Int32.ofNat n)) ?_
  intro p e s m below meth c T0 hx hby hml hZ hown hnm hret hlk X0 e0
  have lx : @LT.lt Nat instLTNat x h0.size := Ex.lt
  have N0 := Fr.nil n0
  refine own_step (b := T0.setTop (mkF m 1 #[.val (.ref x), .val (.ref a), .val (.int (0 : Int32)), .val (.int (Int32.ofNat n)), .val .null, .unset] [(.ref x)])) (fun _ qk => XS.aloadN X0.here hx rfl (hb hby d2_0) rfl rfl qk) ?_
  refine own_initO (W := 0) X0 hx hZ hown (own_w hw 12 rfl) (own_w hw 13 rfl) (own_w hw 14 rfl) e0 (by rw [hml]; rfl) (hb hby d2_1) (by decide) (Nat.le_of_ble_eq_true rfl) (by decide) (fun T1 X1 e1 => ?_)
  refine own_step (b := T1.setTop (mkF m 5 #[.val (.ref x), .val (.ref a), .val (.int (0 : Int32)), .val (.int (Int32.ofNat n)), .val .null, .unset] [(.int (Int32.ofNat n))])) (fun _ qk => XS.iloadN X1.here hx rfl (hb hby d2_4) rfl qk) ?_
  refine own_if_ne X1 hx (hb hby d2_5) (pc' := 27) (by decide) (by decide) (fun c5 => ?_) (fun c5 => absurd ((own_ofNat_eq (n := 0) (by omega) (by decide)).mp c5) (by omega))
  show own_G p e below _ (T1.setTop (mkF m 27 #[.val (.ref x), .val (.ref a), .val (.int (0 : Int32)), .val (.int (Int32.ofNat n)), .val .null, .unset] []))
  refine own_getS X1 hx hZ hown (own_w hw 15 rfl) e1 (O2.ext OL0.2) (hb hby d2_27) (fun T2 X2 e2 => ?_)
  show own_G p e below _ (T2.setTop (mkF m 30 #[.val (.ref x), .val (.ref a), .val (.int (0 : Int32)), .val (.int (Int32.ofNat n)), .val .null, .unset] [(.int G1)]))
  refine own_if_eq X2 hx (hb hby d2_30) (pc' := 58) (by decide) (by decide) (fun c30 => absurd c30 P5) (fun c30 => ?_)
  refine own_step (b := T2.setTop (mkF m 36 #[.val (.ref x), .val (.ref a), .val (.int (0 : Int32)), .val (.int (Int32.ofNat n)), .val .null, .unset] [(.int (Int32.ofNat n)), (.int (0 : Int32)), (.ref a)])) (fun _ qk => XS.aloadN X2.here hx rfl (hb hby d2_33) rfl rfl (XS.iloadN X2.here hx rfl (hb hby d2_34) rfl (XS.iloadN X2.here hx rfl (hb hby d2_35) rfl qk))) ?_
  refine own_static (W := 0) (argsL := [(.ref a), (.int (0 : Int32)), (.int (Int32.ofNat n))]) (st := []) X2 hx hZ hown (own_w hw 16 rfl) (own_w hw 17 rfl) (own_w hw 18 rfl) (own_w hw 19 rfl) (by decide) e2 (own_back (W := 0) (rmC3L l Z a0 hw [] a ka n cs h0 Va hl hn n0 zn hn0 OL0 G1 O2 P5 G3 O4 rG3 SA1 SA2 SA3 hp) hZ (own_w hw 19 rfl) (own_w hw 18 rfl) (by decide) (by decide)) (by decide) (by decide) (by rw [hml]; rfl) (lenOf pd25 rfl) rfl (Nat.le_of_ble_eq_true rfl) (hb hby d2_36) (fun v3 T3 L3 X3 hQ3 => ?_)
  obtain ⟨r3, kr3, rfl, M3, E3, g3, l3, V3⟩ := hQ3
  have N3 := Fr.app N0 M3
  refine own_step (b := T3.setTop (mkF m 45 #[.val (.ref x), .val (.ref a), .val (.int (0 : Int32)), .val (.int (Int32.ofNat n)), .val .null, .val (.ref r3)] [(.int (Int32.ofNat n)), (.ref r3), (.ref x)])) (fun _ qk => XS.astore X3.here hx rfl (hb hby d2_39) rfl rfl (l' := #[.val (.ref x), .val (.ref a), .val (.int (0 : Int32)), .val (.int (Int32.ofNat n)), .val .null, .val (.ref r3)]) rfl (XS.aloadN X3.here hx rfl (hb hby d2_41) rfl rfl (XS.aload X3.here hx rfl (hb hby d2_42) rfl rfl (XS.iloadN X3.here hx rfl (hb hby d2_44) rfl qk)))) ?_
  refine own_staticP (W := 1) (argsL := [(.ref r3), (.int (Int32.ofNat n))]) (st := [(.ref x)]) X3 hx hZ hown (own_w hw 24 rfl) (own_w hw 25 rfl) (own_w hw 18 rfl) (own_w hw 26 rfl) (by decide) rfl (rmCfaL l Z a0 hw [] r3 kr3 n _ T3.heap V3 h1 hn) (by decide) (by decide) (by decide) (by decide) (by rw [hml]; rfl) (lenOf pd27 rfl) rfl (Nat.le_of_ble_eq_true rfl) (hb hby d2_45) (fun T4 X4 e4 => ?_)
  show own_G p e below _ (T4.setTop (mkF m 48 #[.val (.ref x), .val (.ref a), .val (.int (0 : Int32)), .val (.int (Int32.ofNat n)), .val .null, .val (.ref r3)] [(.int (0 : Int32)), (.ref x)]))
  refine own_putF X4 hx hZ hown (own_w hw 27 rfl) e4 (Fc.ext E3) (Ex.ext E3) (Or.inr ⟨(own_w hw 28 rfl), rfl, hnm⟩) (own_w hw 3 rfl) (ty := .byte) (by decide) rfl rfl N3 gx (hb hby d2_48) (fun T5 h5 X5 e5 N5 W5 z5 F5 E5 => ?_)
  refine own_step (b := T5.setTop (mkF m 54 #[.val (.ref x), .val (.ref a), .val (.int (0 : Int32)), .val (.int (Int32.ofNat n)), .val .null, .val (.ref r3)] [(.ref r3), (.ref x)])) (fun _ qk => XS.aloadN X5.here hx rfl (hb hby d2_51) rfl rfl (XS.aload X5.here hx rfl (hb hby d2_52) rfl rfl qk)) ?_
  refine own_putF X5 hx hZ hown (own_w hw 29 rfl) e5 ((Fv.ext E3).other W5 (Or.inr (sn_v hw))) E5 (Or.inr ⟨(own_w hw 30 rfl), rfl, hnm⟩) (own_w hw 3 rfl) (ty := (.array .byte)) (by decide) rfl rfl N5 gx (hb hby d2_54) (fun T6 h6 X6 e6 N6 W6 z6 F6 E6 => ?_)
  show own_G p e below _ (T6.setTop (mkF m 57 #[.val (.ref x), .val (.ref a), .val (.int (0 : Int32)), .val (.int (Int32.ofNat n)), .val .null, .val (.ref r3)] []))
  subst e6
  have nr : r3 ≠ x := own_ne (Or.inr (by omega))
  subst hl
  exact own_retV X6 hx hret hlk (hb hby d2_57) ⟨r3, kr3, rfl, N6, (((Keep.refl h0 [x]).ext E3).wr W5 (Or.inl (List.mem_singleton.mpr rfl))).wr W6 (Or.inl (List.mem_singleton.mpr rfl)), by omega, ⟨E6, F5.other W6 (Or.inr (sn_v hw).symm), F6, (V3.other W5 nr).other W6 nr, (by rw [List.length_map])⟩⟩ (by decide) (by decide)
theorem rmN1L (l : Launch) (Z : State) (a0 : Array Value) (hw : ∀ d ∈ tables_1, d.before a0 Z = true) (ws : List Jvm.Cond) (x a : Addr) (ka : ClassId) (n : Nat) (cs : List Int32) (h0 : Heap) (Ex : Exa Z h0 x "java/lang/String") (Fv : Fld Z h0 x "java/lang/String" "value" "[B" .null) (Fc : Fld Z h0 x "java/lang/String" "coder" "B" (.int 0)) (Va : Arv Z h0 a ka .char (Int32.ofNat n) (cs.map Value.int) (.int 0)) (hl : cs.length = n) (h1 : 0 < n) (hn : n ≤ 36) (n0 : Nat) (zn : Z.heap.size ≤ n0) (hn0 : n0 ≤ h0.size) (gx : n0 ≤ x) (OL0 : Old Z Z.heap.size h0) (G1 : Int32) (O2 : Sta Z Z.heap "java/lang/String" "COMPACT_STRINGS" "Z" (.int G1)) (P5 : ¬ (G1 = (0 : Int32))) (G3 : Value) (O4 : Sta Z Z.heap "jdk/internal/util/Preconditions" "SIOOBE_FORMATTER" "Ljava/util/function/BiFunction;" G3) (rG3 : G3.isRef = true) (SA1 : Sta Z Z.heap "java/lang/StringUTF16" "$assertionsDisabled" "Z" (.int 1)) (SA2 : Sta Z Z.heap "java/lang/StringUTF16" "HI_BYTE_SHIFT" "I" (.int 0)) (SA3 : Sta Z Z.heap "java/lang/StringUTF16" "LO_BYTE_SHIFT" "I" (.int 8)) (hp : ∀ c ∈ cs, ¬ c < 0 ∧ ¬ (255 : Int32) < c) :
    own_Met l Z (⟨"java/lang/String", "<init>", "([C)V"⟩ : MethodName) jdk_42_method_3_code 2 none ws ⟨3, 1, 36, 52⟩ #[(.ref x), (.ref a)] h0 (fun v h L => ∃ (r : Addr) (kr : ClassId), v = none ∧ Fr n0 L ∧ Keep h0 h [x] ∧ h0.size ≤ r ∧ own_STL Z h x r kr cs) := by
  refine own_enter (plainFor_of_name pn1) (fun m => ef_n1 m x a) ?_
  intro p e s m below meth c T0 hx hby hml hZ hown hnm hret hlk X0 e0
  refine own_step (b := T0.setTop (mkF m 4 #[.val (.ref x), .val (.ref a)] [(.ref a), (.int (0 : Int32)), (.ref a), (.ref x)])) (fun _ qk => XS.aloadN X0.here hx rfl (hb hby d1_0) rfl rfl (XS.aloadN X0.here hx rfl (hb hby d1_1) rfl rfl (XS.iconst X0.here hx rfl (hb hby d1_2) (XS.aloadN X0.here hx rfl (hb hby d1_3) rfl rfl qk)))) ?_
  refine own_len X0 hx hZ e0 Va (hb hby d1_4) ?_
  refine own_step (b := T0.setTop (mkF m 6 #[.val (.ref x), .val (.ref a)] [.null, (.int (Int32.ofNat n)), (.int (0 : Int32)), (.ref a), (.ref x)])) (fun _ qk => XS.aconstNull X0.here hx rfl (hb hby d1_5) qk) ?_
  refine own_special (a := x) (W := 0) (argsL := [(.ref a), (.int (0 : Int32)), (.int (Int32.ofNat n)), .null]) (st := []) X0 hx hZ hown rfl (own_w hw 8 rfl) (own_w hw 9 rfl) (own_w hw 11 rfl) (by decide) e0 (own_back (W := 0) (rmN4L l Z a0 hw [] x a ka n cs h0 Ex Fv Fc Va hl h1 hn n0 zn hn0 gx OL0 G1 O2 P5 G3 O4 rG3 SA1 SA2 SA3 hp) hZ (own_w hw 11 rfl) (own_w hw 4 rfl) (by decide) (by decide)) (by decide) (by decide) (by rw [hml]; rfl) (lenOf pd28 rfl) rfl (Nat.le_of_ble_eq_true rfl) (hb hby d1_6) (fun v1 T1 L1 X1 hQ1 => ?_)
  obtain ⟨r1, kr1, rfl, M1, K1, g1, SS1⟩ := hQ1
  show own_G p e below _ (T1.setTop (mkF m 9 #[.val (.ref x), .val (.ref a)] []))
  exact own_retV X1 hx hret hlk (hb hby d1_9) ⟨r1, kr1, rfl, M1, K1, g1, SS1⟩ (by decide) (by decide)
theorem rmN4W (l : Launch) (Z : State) (a0 : Array Value) (hw : ∀ d ∈ tables_1, d.before a0 Z = true) (ws : List Jvm.Cond) (x a : Addr) (ka : ClassId) (n : Nat) (cs : List Int32) (h0 : Heap) (Ex : Exa Z h0 x "java/lang/String") (Fv : Fld Z h0 x "java/lang/String" "value" "[B" .null) (Fc : Fld Z h0 x "java/lang/String" "coder" "B" (.int 0)) (Va : Arv Z h0 a ka .char (Int32.ofNat n) (cs.map Value.int) (.int 0)) (hl : cs.length = n) (h1 : 0 < n) (hn : n ≤ 36) (n0 : Nat) (zn : Z.heap.size ≤ n0) (hn0 : n0 ≤ h0.size) (gx : n0 ≤ x) (OL0 : Old Z Z.heap.size h0) (G1 : Int32) (O2 : Sta Z Z.heap "java/lang/String" "COMPACT_STRINGS" "Z" (.int G1)) (P5 : ¬ (G1 = (0 : Int32))) (G3 : Value) (O4 : Sta Z Z.heap "jdk/internal/util/Preconditions" "SIOOBE_FORMATTER" "Ljava/util/function/BiFunction;" G3) (rG3 : G3.isRef = true) (SA1 : Sta Z Z.heap "java/lang/StringUTF16" "$assertionsDisabled" "Z" (.int 1)) (SA2 : Sta Z Z.heap "java/lang/StringUTF16" "HI_BYTE_SHIFT" "I" (.int 0)) (SA3 : Sta Z Z.heap "java/lang/StringUTF16" "LO_BYTE_SHIFT" "I" (.int 8)) (hch : ∀ c ∈ cs, own_C c) (hex : ∃ c ∈ cs, (255 : Int32) < c) :
    own_Met l Z (⟨"java/lang/String", "<init>", "([CIILjava/lang/Void;)V"⟩ : MethodName) jdk_42_method_149_code 6 none ws ⟨4, 2, 108, 57⟩ #[(.ref x), (.ref a), (.int (0 : Int32)), (.int (Int32.ofNat n)), .null] h0 (fun v h L => ∃ (r : Addr) (kr : ClassId), v = none ∧ Fr n0 L ∧ Keep h0 h [x] ∧ h0.size ≤ r ∧ own_STW Z h x r kr cs) := by
  refine own_enter (plainFor_of_name pn1) (fun m => ef_n4 m x a (Int32.ofNat n)) ?_
  intro p e s m below meth c T0 hx hby hml hZ hown hnm hret hlk X0 e0
  have lx : @LT.lt Nat instLTNat x h0.size := Ex.lt
  have N0 := Fr.nil n0
  refine own_step (b := T0.setTop (mkF m 1 #[.val (.ref x), .val (.ref a), .val (.int (0 : Int32)), .val (.int (Int32.ofNat n)), .val .null, .unset] [(.ref x)])) (fun _ qk => XS.aloadN X0.here hx rfl (hb hby d2_0) rfl rfl qk) ?_
  refine own_initO (W := 0) X0 hx hZ hown (own_w hw 12 rfl) (own_w hw 13 rfl) (own_w hw 14 rfl) e0 (by rw [hml]; rfl) (hb hby d2_1) (by decide) (Nat.le_of_ble_eq_true rfl) (by decide) (fun T1 X1 e1 => ?_)
  refine own_step (b := T1.setTop (mkF m 5 #[.val (.ref x), .val (.ref a), .val (.int (0 : Int32)), .val (.int (Int32.ofNat n)), .val .null, .unset] [(.int (Int32.ofNat n))])) (fun _ qk => XS.iloadN X1.here hx rfl (hb hby d2_4) rfl qk) ?_
  refine own_if_ne X1 hx (hb hby d2_5) (pc' := 27) (by decide) (by decide) (fun c5 => ?_) (fun c5 => absurd ((own_ofNat_eq (n := 0) (by omega) (by decide)).mp c5) (by omega))
  show own_G p e below _ (T1.setTop (mkF m 27 #[.val (.ref x), .val (.ref a), .val (.int (0 : Int32)), .val (.int (Int32.ofNat n)), .val .null, .unset] []))
  refine own_getS X1 hx hZ hown (own_w hw 15 rfl) e1 (O2.ext OL0.2) (hb hby d2_27) (fun T2 X2 e2 => ?_)
  show own_G p e below _ (T2.setTop (mkF m 30 #[.val (.ref x), .val (.ref a), .val (.int (0 : Int32)), .val (.int (Int32.ofNat n)), .val .null, .unset] [(.int G1)]))
  refine own_if_eq X2 hx (hb hby d2_30) (pc' := 58) (by decide) (by decide) (fun c30 => absurd c30 P5) (fun c30 => ?_)
  refine own_step (b := T2.setTop (mkF m 36 #[.val (.ref x), .val (.ref a), .val (.int (0 : Int32)), .val (.int (Int32.ofNat n)), .val .null, .unset] [(.int (Int32.ofNat n)), (.int (0 : Int32)), (.ref a)])) (fun _ qk => XS.aloadN X2.here hx rfl (hb hby d2_33) rfl rfl (XS.iloadN X2.here hx rfl (hb hby d2_34) rfl (XS.iloadN X2.here hx rfl (hb hby d2_35) rfl qk))) ?_
  refine own_static (W := 0) (argsL := [(.ref a), (.int (0 : Int32)), (.int (Int32.ofNat n))]) (st := []) X2 hx hZ hown (own_w hw 16 rfl) (own_w hw 17 rfl) (own_w hw 18 rfl) (own_w hw 19 rfl) (by decide) e2 (own_back (W := 0) (rmC3W l Z a0 hw [] a ka n cs h0 Va hl hn n0 zn hn0 OL0 G1 O2 P5 G3 O4 rG3 SA1 SA2 SA3 hch hex) hZ (own_w hw 19 rfl) (own_w hw 18 rfl) (by decide) (by decide)) (by decide) (by decide) (by rw [hml]; rfl) (lenOf pd25 rfl) rfl (Nat.le_of_ble_eq_true rfl) (hb hby d2_36) (fun v3 T3 L3 X3 hQ3 => ?_)
  obtain ⟨r3, kr3, rfl, M3, E3, g3, l3, V3⟩ := hQ3
  have N3 := Fr.app N0 M3
  refine own_step (b := T3.setTop (mkF m 45 #[.val (.ref x), .val (.ref a), .val (.int (0 : Int32)), .val (.int (Int32.ofNat n)), .val .null, .val (.ref r3)] [(.int (Int32.ofNat n)), (.ref r3), (.ref x)])) (fun _ qk => XS.astore X3.here hx rfl (hb hby d2_39) rfl rfl (l' := #[.val (.ref x), .val (.ref a), .val (.int (0 : Int32)), .val (.int (Int32.ofNat n)), .val .null, .val (.ref r3)]) rfl (XS.aloadN X3.here hx rfl (hb hby d2_41) rfl rfl (XS.aload X3.here hx rfl (hb hby d2_42) rfl rfl (XS.iloadN X3.here hx rfl (hb hby d2_44) rfl qk)))) ?_
  refine own_staticP (W := 1) (argsL := [(.ref r3), (.int (Int32.ofNat n))]) (st := [(.ref x)]) X3 hx hZ hown (own_w hw 24 rfl) (own_w hw 25 rfl) (own_w hw 18 rfl) (own_w hw 26 rfl) (by decide) rfl (rmCfaW l Z a0 hw [] r3 kr3 n _ T3.heap V3 h1 hn) (by decide) (by decide) (by decide) (by decide) (by rw [hml]; rfl) (lenOf pd27 rfl) rfl (Nat.le_of_ble_eq_true rfl) (hb hby d2_45) (fun T4 X4 e4 => ?_)
  show own_G p e below _ (T4.setTop (mkF m 48 #[.val (.ref x), .val (.ref a), .val (.int (0 : Int32)), .val (.int (Int32.ofNat n)), .val .null, .val (.ref r3)] [(.int (1 : Int32)), (.ref x)]))
  refine own_putF X4 hx hZ hown (own_w hw 27 rfl) e4 (Fc.ext E3) (Ex.ext E3) (Or.inr ⟨(own_w hw 28 rfl), rfl, hnm⟩) (own_w hw 3 rfl) (ty := .byte) (by decide) rfl rfl N3 gx (hb hby d2_48) (fun T5 h5 X5 e5 N5 W5 z5 F5 E5 => ?_)
  refine own_step (b := T5.setTop (mkF m 54 #[.val (.ref x), .val (.ref a), .val (.int (0 : Int32)), .val (.int (Int32.ofNat n)), .val .null, .val (.ref r3)] [(.ref r3), (.ref x)])) (fun _ qk => XS.aloadN X5.here hx rfl (hb hby d2_51) rfl rfl (XS.aload X5.here hx rfl (hb hby d2_52) rfl rfl qk)) ?_
  refine own_putF X5 hx hZ hown (own_w hw 29 rfl) e5 ((Fv.ext E3).other W5 (Or.inr (sn_v hw))) E5 (Or.inr ⟨(own_w hw 30 rfl), rfl, hnm⟩) (own_w hw 3 rfl) (ty := (.array .byte)) (by decide) rfl rfl N5 gx (hb hby d2_54) (fun T6 h6 X6 e6 N6 W6 z6 F6 E6 => ?_)
  show own_G p e below _ (T6.setTop (mkF m 57 #[.val (.ref x), .val (.ref a), .val (.int (0 : Int32)), .val (.int (Int32.ofNat n)), .val .null, .val (.ref r3)] []))
  subst e6
  have nr : r3 ≠ x := own_ne (Or.inr (by omega))
  subst hl
  exact own_retV X6 hx hret hlk (hb hby d2_57) ⟨r3, kr3, rfl, N6, (((Keep.refl h0 [x]).ext E3).wr W5 (Or.inl (List.mem_singleton.mpr rfl))).wr W6 (Or.inl (List.mem_singleton.mpr rfl)), by omega, ⟨E6, F5.other W6 (Or.inr (sn_v hw).symm), F6, (V3.other W5 nr).other W6 nr, (own_wb_len _)⟩⟩ (by decide) (by decide)
theorem rmN1W (l : Launch) (Z : State) (a0 : Array Value) (hw : ∀ d ∈ tables_1, d.before a0 Z = true) (ws : List Jvm.Cond) (x a : Addr) (ka : ClassId) (n : Nat) (cs : List Int32) (h0 : Heap) (Ex : Exa Z h0 x "java/lang/String") (Fv : Fld Z h0 x "java/lang/String" "value" "[B" .null) (Fc : Fld Z h0 x "java/lang/String" "coder" "B" (.int 0)) (Va : Arv Z h0 a ka .char (Int32.ofNat n) (cs.map Value.int) (.int 0)) (hl : cs.length = n) (h1 : 0 < n) (hn : n ≤ 36) (n0 : Nat) (zn : Z.heap.size ≤ n0) (hn0 : n0 ≤ h0.size) (gx : n0 ≤ x) (OL0 : Old Z Z.heap.size h0) (G1 : Int32) (O2 : Sta Z Z.heap "java/lang/String" "COMPACT_STRINGS" "Z" (.int G1)) (P5 : ¬ (G1 = (0 : Int32))) (G3 : Value) (O4 : Sta Z Z.heap "jdk/internal/util/Preconditions" "SIOOBE_FORMATTER" "Ljava/util/function/BiFunction;" G3) (rG3 : G3.isRef = true) (SA1 : Sta Z Z.heap "java/lang/StringUTF16" "$assertionsDisabled" "Z" (.int 1)) (SA2 : Sta Z Z.heap "java/lang/StringUTF16" "HI_BYTE_SHIFT" "I" (.int 0)) (SA3 : Sta Z Z.heap "java/lang/StringUTF16" "LO_BYTE_SHIFT" "I" (.int 8)) (hch : ∀ c ∈ cs, own_C c) (hex : ∃ c ∈ cs, (255 : Int32) < c) :
    own_Met l Z (⟨"java/lang/String", "<init>", "([C)V"⟩ : MethodName) jdk_42_method_3_code 2 none ws ⟨5, 2, 108, 74⟩ #[(.ref x), (.ref a)] h0 (fun v h L => ∃ (r : Addr) (kr : ClassId), v = none ∧ Fr n0 L ∧ Keep h0 h [x] ∧ h0.size ≤ r ∧ own_STW Z h x r kr cs) := by
  refine own_enter (plainFor_of_name pn1) (fun m => ef_n1 m x a) ?_
  intro p e s m below meth c T0 hx hby hml hZ hown hnm hret hlk X0 e0
  refine own_step (b := T0.setTop (mkF m 4 #[.val (.ref x), .val (.ref a)] [(.ref a), (.int (0 : Int32)), (.ref a), (.ref x)])) (fun _ qk => XS.aloadN X0.here hx rfl (hb hby d1_0) rfl rfl (XS.aloadN X0.here hx rfl (hb hby d1_1) rfl rfl (XS.iconst X0.here hx rfl (hb hby d1_2) (XS.aloadN X0.here hx rfl (hb hby d1_3) rfl rfl qk)))) ?_
  refine own_len X0 hx hZ e0 Va (hb hby d1_4) ?_
  refine own_step (b := T0.setTop (mkF m 6 #[.val (.ref x), .val (.ref a)] [.null, (.int (Int32.ofNat n)), (.int (0 : Int32)), (.ref a), (.ref x)])) (fun _ qk => XS.aconstNull X0.here hx rfl (hb hby d1_5) qk) ?_
  refine own_special (a := x) (W := 0) (argsL := [(.ref a), (.int (0 : Int32)), (.int (Int32.ofNat n)), .null]) (st := []) X0 hx hZ hown rfl (own_w hw 8 rfl) (own_w hw 9 rfl) (own_w hw 11 rfl) (by decide) e0 (own_back (W := 0) (rmN4W l Z a0 hw [] x a ka n cs h0 Ex Fv Fc Va hl h1 hn n0 zn hn0 gx OL0 G1 O2 P5 G3 O4 rG3 SA1 SA2 SA3 hch hex) hZ (own_w hw 11 rfl) (own_w hw 4 rfl) (by decide) (by decide)) (by decide) (by decide) (by rw [hml]; rfl) (lenOf pd28 rfl) rfl (Nat.le_of_ble_eq_true rfl) (hb hby d1_6) (fun v1 T1 L1 X1 hQ1 => ?_)
  obtain ⟨r1, kr1, rfl, M1, K1, g1, SS1⟩ := hQ1
  show own_G p e below _ (T1.setTop (mkF m 9 #[.val (.ref x), .val (.ref a)] []))
  exact own_retV X1 hx hret hlk (hb hby d1_9) ⟨r1, kr1, rfl, M1, K1, g1, SS1⟩ (by decide) (by decide)
theorem ef_emp (m : MethodId) (x : Addr) : entryFrame m #[(.ref x)] 1 = mkF m 0 #[.val (.ref x)] [] := by first | (simp [entryFrame, mkF, argsToLocals, Value.category, maxLocals]; done) | rfl
theorem rmEmp (l : Launch) (Z : State) (a0 : Array Value) (hw : ∀ d ∈ tables_1, d.before a0 Z = true) (ws : List Jvm.Cond) (x tx : Addr) (kx : ClassId) (co : Int32) (Nx : Nat) (vx : List Value) (h0 : Heap) (SS : own_ST Z h0 x tx kx co Nx vx) (h1 : 0 < Nx) (h2 : Nx ≤ 1000) :
    own_Met l Z (⟨"java/lang/String", "isEmpty", "()Z"⟩ : MethodName) jdk_42_method_55_code 1 (some .boolean) ws ⟨0, 0, 0, 0⟩ #[(.ref x)] h0 (own_P (some (.int (0 : Int32))) h0) := by
  refine own_enter (plainFor_of_name pn1) (fun m => ef_emp m x) ?_
  intro p e s m below meth c T0 hx hby hml hZ hown hnm hret hlk X0 e0
  refine own_step (b := T0.setTop (mkF m 1 #[.val (.ref x)] [(.ref x)])) (fun _ qk => XS.aloadN X0.here hx rfl (hb hby d13_0) rfl rfl qk) ?_
  refine own_getF X0 hx hZ hown (own_w hw 29 rfl) e0 SS.2.2.1 (hb hby d13_1) (fun T1 X1 e1 => ?_)
  show own_G p e below _ (T1.setTop (mkF m 4 #[.val (.ref x)] [(.ref tx)]))
  refine own_len X1 hx hZ e1 SS.2.2.2.1 (hb hby d13_4) ?_
  show own_G p e below _ (T1.setTop (mkF m 5 #[.val (.ref x)] [(.int (Int32.ofNat Nx))]))
  refine own_if_ne X1 hx (hb hby d13_5) (pc' := 12) (by decide) (by decide) (fun c5 => ?_) (fun c5 => absurd ((own_ofNat_eq (n := 0) (by omega) (by decide)).mp c5) (by omega))
  refine own_step (b := T1.setTop (mkF m 13 #[.val (.ref x)] [(.int (0 : Int32))])) (fun _ qk => XS.iconst X1.here hx rfl (hb hby d13_12) qk) ?_
  exact own_retN X1 hx hret (by simp) hlk (hb hby d13_13) ⟨rfl, rfl, e1⟩ (by decide) (by decide)
theorem ef_ci (m : MethodId) (x y : Int32) (v : Value) (rv : v.isRef = true) : entryFrame m #[(.int x), (.int y), v] 3 = mkF m 0 #[.val (.int x), .val (.int y), .val v] [] := by
  rcases ref_cases rv with rfl | ⟨_, rfl⟩ <;> first | rfl | (simp [entryFrame, mkF, argsToLocals, Value.category]; done)
theorem rmCi (l : Launch) (Z : State) (a0 : Array Value) (hw : ∀ d ∈ tables_1, d.before a0 Z = true) (ws : List Jvm.Cond) (x y : Int32) (v : Value) (rv : v.isRef = true) (h0 : Heap) (h1 : ¬ x < 0) (h2 : x < y) :
    own_Met l Z (⟨"jdk/internal/util/Preconditions", "checkIndex", "(IILjava/util/function/BiFunction;)I"⟩ : MethodName) jdk_41_method_11_code 3 (some .int) ws ⟨0, 0, 0, 0⟩ #[(.int x), (.int y), v] h0 (own_P (some (.int x)) h0) := by
  refine own_enter (plainFor_of_name pn5) (fun m => ef_ci m x y v rv) ?_
  intro p e s m below meth c T0 hx hby hml hZ hown hnm hret hlk X0 e0
  refine own_step (b := T0.setTop (mkF m 1 #[.val (.int x), .val (.int y), .val v] [(.int x)])) (fun _ qk => XS.iloadN X0.here hx rfl (hb hby d18_0) rfl qk) ?_
  refine own_if_lt X0 hx (hb hby d18_1) (pc' := 9) (by decide) (by decide) (fun c1 => absurd c1 h1) (fun c1 => ?_)
  refine own_step (b := T0.setTop (mkF m 6 #[.val (.int x), .val (.int y), .val v] [(.int y), (.int x)])) (fun _ qk => XS.iloadN X0.here hx rfl (hb hby d18_4) rfl (XS.iloadN X0.here hx rfl (hb hby d18_5) rfl qk)) ?_
  refine own_icmp_lt X0 hx (hb hby d18_6) (pc' := 16) (by decide) (by decide) (fun c6 => ?_) (fun c6 => absurd h2 c6)
  refine own_step (b := T0.setTop (mkF m 17 #[.val (.int x), .val (.int y), .val v] [(.int x)])) (fun _ qk => XS.iloadN X0.here hx rfl (hb hby d18_16) rfl qk) ?_
  exact own_retI X0 hx hret hlk (hb hby d18_17) ⟨rfl, rfl, e0⟩ (by decide) (by decide)
theorem ef_sci (m : MethodId) (x y : Int32) : entryFrame m #[(.int x), (.int y)] 2 = mkF m 0 #[.val (.int x), .val (.int y)] [] := by first | (simp [entryFrame, mkF, argsToLocals, Value.category, maxLocals]; done) | rfl
theorem rmSci (l : Launch) (Z : State) (a0 : Array Value) (hw : ∀ d ∈ tables_1, d.before a0 Z = true) (ws : List Jvm.Cond) (x y : Int32) (h0 : Heap) (h1 : ¬ x < 0) (h2 : x < y) (OL0 : Old Z Z.heap.size h0) (G1 : Int32) (O2 : Sta Z Z.heap "java/lang/String" "COMPACT_STRINGS" "Z" (.int G1)) (P5 : ¬ (G1 = (0 : Int32))) (G3 : Value) (O4 : Sta Z Z.heap "jdk/internal/util/Preconditions" "SIOOBE_FORMATTER" "Ljava/util/function/BiFunction;" G3) (rG3 : G3.isRef = true) (SA1 : Sta Z Z.heap "java/lang/StringUTF16" "$assertionsDisabled" "Z" (.int 1)) (SA2 : Sta Z Z.heap "java/lang/StringUTF16" "HI_BYTE_SHIFT" "I" (.int 0)) (SA3 : Sta Z Z.heap "java/lang/StringUTF16" "LO_BYTE_SHIFT" "I" (.int 8)) :
    own_Met l Z (⟨"java/lang/String", "checkIndex", "(II)V"⟩ : MethodName) jdk_42_method_155_code 2 none ws ⟨1, 0, 0, 14⟩ #[(.int x), (.int y)] h0 (own_P none h0) := by
  refine own_enter (plainFor_of_name pn1) (fun m => ef_sci m x y) ?_
  intro p e s m below meth c T0 hx hby hml hZ hown hnm hret hlk X0 e0
  refine own_step (b := T0.setTop (mkF m 2 #[.val (.int x), .val (.int y)] [(.int y), (.int x)])) (fun _ qk => XS.iloadN X0.here hx rfl (hb hby d17_0) rfl (XS.iloadN X0.here hx rfl (hb hby d17_1) rfl qk)) ?_
  refine own_getS X0 hx hZ hown (own_w hw 90 rfl) e0 (O4.ext OL0.2) (hb hby d17_2) (fun T1 X1 e1 => ?_)
  show own_G p e below _ (T1.setTop (mkF m 5 #[.val (.int x), .val (.int y)] [G3, (.int y), (.int x)]))
  refine own_staticP (W := 0) (argsL := [(.int x), (.int y), G3]) (st := []) X1 hx hZ hown (own_w hw 92 rfl) (own_w hw 93 rfl) (own_w hw 91 rfl) (own_w hw 94 rfl) (by decide) e1 (rmCi l Z a0 hw [] x y G3 rG3 h0 h1 h2) (by decide) (by decide) (by decide) (by decide) (by rw [hml]; rfl) (lenOf pd29 rfl) rfl (Nat.le_of_ble_eq_true rfl) (hb hby d17_5) (fun T2 X2 e2 => ?_)
  refine own_step (b := T2.setTop (mkF m 9 #[.val (.int x), .val (.int y)] [])) (fun _ qk => XT.pop X2.here hx rfl (hb hby d17_8) rfl rfl qk) ?_
  exact own_retV X2 hx hret hlk (hb hby d17_9) ⟨rfl, rfl, e2⟩ (by decide) (by decide)
theorem ef_uci (m : MethodId) (x : Int32) (t : Addr) : entryFrame m #[(.int x), (.ref t)] 2 = mkF m 0 #[.val (.int x), .val (.ref t)] [] := by first | (simp [entryFrame, mkF, argsToLocals, Value.category, maxLocals]; done) | rfl
theorem rmUci (l : Launch) (Z : State) (a0 : Array Value) (hw : ∀ d ∈ tables_1, d.before a0 Z = true) (ws : List Jvm.Cond) (q : Nat) (t : Addr) (kt : ClassId) (vd : List Value) (h0 : Heap) (V : Arv Z h0 t kt .byte (Int32.ofNat (2 * q)) vd (.int 0)) (h1 : 0 < q) (h2 : q ≤ 36) (OL0 : Old Z Z.heap.size h0) (G1 : Int32) (O2 : Sta Z Z.heap "java/lang/String" "COMPACT_STRINGS" "Z" (.int G1)) (P5 : ¬ (G1 = (0 : Int32))) (G3 : Value) (O4 : Sta Z Z.heap "jdk/internal/util/Preconditions" "SIOOBE_FORMATTER" "Ljava/util/function/BiFunction;" G3) (rG3 : G3.isRef = true) (SA1 : Sta Z Z.heap "java/lang/StringUTF16" "$assertionsDisabled" "Z" (.int 1)) (SA2 : Sta Z Z.heap "java/lang/StringUTF16" "HI_BYTE_SHIFT" "I" (.int 0)) (SA3 : Sta Z Z.heap "java/lang/StringUTF16" "LO_BYTE_SHIFT" "I" (.int 8)) :
    own_Met l Z (⟨"java/lang/StringUTF16", "checkIndex", "(I[B)V"⟩ : MethodName) jdk_52_method_91_code 2 none ws ⟨2, 0, 0, 27⟩ #[(.int (0 : Int32)), (.ref t)] h0 (own_P none h0) := by
  refine own_enter (plainFor_of_name pn0) (fun m => ef_uci m (0 : Int32) t) ?_
  intro p e s m below meth c T0 hx hby hml hZ hown hnm hret hlk X0 e0
  refine own_step (b := T0.setTop (mkF m 2 #[.val (.int (0 : Int32)), .val (.ref t)] [(.ref t), (.int (0 : Int32))])) (fun _ qk => XS.iloadN X0.here hx rfl (hb hby d50_0) rfl (XS.aloadN X0.here hx rfl (hb hby d50_1) rfl rfl qk)) ?_
  refine own_staticP (W := 1) (argsL := [(.ref t)]) (st := [(.int (0 : Int32))]) X0 hx hZ hown (own_w hw 242 rfl) (own_w hw 243 rfl) (own_w hw 18 rfl) (own_w hw 244 rfl) (by decide) e0 (rmUl l Z a0 hw [] t kt q vd h0 V h2) (by decide) (by decide) (by decide) (by decide) (by rw [hml]; rfl) (lenOf pd6 rfl) rfl (Nat.le_of_ble_eq_true rfl) (hb hby d50_2) (fun T1 X1 e1 => ?_)
  show own_G p e below _ (T1.setTop (mkF m 5 #[.val (.int (0 : Int32)), .val (.ref t)] [(.int (Int32.ofNat q)), (.int (0 : Int32))]))
  refine own_staticP (W := 0) (argsL := [(.int (0 : Int32)), (.int (Int32.ofNat q))]) (st := []) X1 hx hZ hown (own_w hw 245 rfl) (own_w hw 88 rfl) (own_w hw 4 rfl) (own_w hw 89 rfl) (by decide) e1 (rmSci l Z a0 hw [] (0 : Int32) (Int32.ofNat q) h0 (by decide) ((own_ofNat_lt (i := 0) (by decide) (by omega)).mpr h1) OL0 G1 O2 P5 G3 O4 rG3 SA1 SA2 SA3) (by decide) (by decide) (by decide) (by decide) (by rw [hml]; rfl) (lenOf pd19 rfl) rfl (Nat.le_of_ble_eq_true rfl) (hb hby d50_5) (fun T2 X2 e2 => ?_)
  show own_G p e below _ (T2.setTop (mkF m 8 #[.val (.int (0 : Int32)), .val (.ref t)] []))
  exact own_retV X2 hx hret hlk (hb hby d50_8) ⟨rfl, rfl, e2⟩ (by decide) (by decide)
theorem ef_uch (m : MethodId) (t : Addr) (x : Int32) : entryFrame m #[(.ref t), (.int x)] 2 = mkF m 0 #[.val (.ref t), .val (.int x)] [] := by first | (simp [entryFrame, mkF, argsToLocals, Value.category, maxLocals]; done) | rfl
theorem rmUch (l : Launch) (Z : State) (a0 : Array Value) (hw : ∀ d ∈ tables_1, d.before a0 Z = true) (ws : List Jvm.Cond) (x tx : Addr) (kx : ClassId) (cs : List Int32) (h0 : Heap) (SS : own_STW Z h0 x tx kx cs) (h1 : 0 < cs.length) (hn : cs.length ≤ 36) (hc : own_ch (cs.getD 0 0)) (OL0 : Old Z Z.heap.size h0) (G1 : Int32) (O2 : Sta Z Z.heap "java/lang/String" "COMPACT_STRINGS" "Z" (.int G1)) (P5 : ¬ (G1 = (0 : Int32))) (G3 : Value) (O4 : Sta Z Z.heap "jdk/internal/util/Preconditions" "SIOOBE_FORMATTER" "Ljava/util/function/BiFunction;" G3) (rG3 : G3.isRef = true) (SA1 : Sta Z Z.heap "java/lang/StringUTF16" "$assertionsDisabled" "Z" (.int 1)) (SA2 : Sta Z Z.heap "java/lang/StringUTF16" "HI_BYTE_SHIFT" "I" (.int 0)) (SA3 : Sta Z Z.heap "java/lang/StringUTF16" "LO_BYTE_SHIFT" "I" (.int 8)) :
    own_Met l Z (⟨"java/lang/StringUTF16", "charAt", "([BI)C"⟩ : MethodName) jdk_52_method_83_code 2 (some .char) ws ⟨3, 0, 0, 40⟩ #[(.ref tx), (.int (0 : Int32))] h0 (own_P (some (.int (cs.getD 0 0))) h0) := by
  refine own_enter (plainFor_of_name pn0) (fun m => ef_uch m tx (0 : Int32)) ?_
  intro p e s m below meth c T0 hx hby hml hZ hown hnm hret hlk X0 e0
  refine own_step (b := T0.setTop (mkF m 2 #[.val (.ref tx), .val (.int (0 : Int32))] [(.ref tx), (.int (0 : Int32))])) (fun _ qk => XS.iloadN X0.here hx rfl (hb hby d49_0) rfl (XS.aloadN X0.here hx rfl (hb hby d49_1) rfl rfl qk)) ?_
  refine own_staticP (W := 0) (argsL := [(.int (0 : Int32)), (.ref tx)]) (st := []) X0 hx hZ hown (own_w hw 239 rfl) (own_w hw 240 rfl) (own_w hw 18 rfl) (own_w hw 241 rfl) (by decide) e0 (rmUci l Z a0 hw [] cs.length tx kx _ h0 SS.2.2.2.1 h1 hn OL0 G1 O2 P5 G3 O4 rG3 SA1 SA2 SA3) (by decide) (by decide) (by decide) (by decide) (by rw [hml]; rfl) (lenOf pd30 rfl) rfl (Nat.le_of_ble_eq_true rfl) (hb hby d49_2) (fun T1 X1 e1 => ?_)
  refine own_step (b := T1.setTop (mkF m 7 #[.val (.ref tx), .val (.int (0 : Int32))] [(.int (0 : Int32)), (.ref tx)])) (fun _ qk => XS.aloadN X1.here hx rfl (hb hby d49_5) rfl rfl (XS.iloadN X1.here hx rfl (hb hby d49_6) rfl qk)) ?_
  refine own_staticP (W := 0) (argsL := [(.ref tx), (.int (0 : Int32))]) (st := []) X1 hx hZ hown (own_w hw 233 rfl) (own_w hw 234 rfl) (own_w hw 18 rfl) (own_w hw 235 rfl) (by decide) e1 (rmGc l Z a0 hw [] tx kx 0 cs h0 SS.2.2.2.1 h1 hn hc OL0 G1 O2 P5 G3 O4 rG3 SA1 SA2 SA3) (by decide) (by decide) (by decide) (by decide) (by rw [hml]; rfl) (lenOf pd26 rfl) rfl (Nat.le_of_ble_eq_true rfl) (hb hby d49_7) (fun T2 X2 e2 => ?_)
  show own_G p e below _ (T2.setTop (mkF m 10 #[.val (.ref tx), .val (.int (0 : Int32))] [(.int (cs.getD 0 0))]))
  exact own_retN X2 hx hret (by simp) hlk (hb hby d49_10) ⟨by rw [own_narW hc], rfl, e2⟩ (by decide) (by decide)
theorem ef_isl (m : MethodId) (x : Addr) : entryFrame m #[(.ref x)] 1 = mkF m 0 #[.val (.ref x)] [] := by first | (simp [entryFrame, mkF, argsToLocals, Value.category, maxLocals]; done) | rfl
theorem rmIsl (l : Launch) (Z : State) (a0 : Array Value) (hw : ∀ d ∈ tables_1, d.before a0 Z = true) (ws : List Jvm.Cond) (x : Addr) (h0 : Heap) (Fc : Fld Z h0 x "java/lang/String" "coder" "B" (.int 1)) (OL0 : Old Z Z.heap.size h0) (G1 : Int32) (O2 : Sta Z Z.heap "java/lang/String" "COMPACT_STRINGS" "Z" (.int G1)) (P5 : ¬ (G1 = (0 : Int32))) (G3 : Value) (O4 : Sta Z Z.heap "jdk/internal/util/Preconditions" "SIOOBE_FORMATTER" "Ljava/util/function/BiFunction;" G3) (rG3 : G3.isRef = true) (SA1 : Sta Z Z.heap "java/lang/StringUTF16" "$assertionsDisabled" "Z" (.int 1)) (SA2 : Sta Z Z.heap "java/lang/StringUTF16" "HI_BYTE_SHIFT" "I" (.int 0)) (SA3 : Sta Z Z.heap "java/lang/StringUTF16" "LO_BYTE_SHIFT" "I" (.int 8)) :
    own_Met l Z (⟨"java/lang/String", "isLatin1", "()Z"⟩ : MethodName) jdk_42_method_154_code 1 (some .boolean) ws ⟨0, 0, 0, 0⟩ #[(.ref x)] h0 (own_P (some (.int (0 : Int32))) h0) := by
  refine own_enter (plainFor_of_name pn1) (fun m => ef_isl m x) ?_
  intro p e s m below meth c T0 hx hby hml hZ hown hnm hret hlk X0 e0
  show own_G p e below _ (T0.setTop (mkF m 0 #[.val (.ref x)] []))
  refine own_getS X0 hx hZ hown (own_w hw 15 rfl) e0 (O2.ext OL0.2) (hb hby d15_0) (fun T1 X1 e1 => ?_)
  show own_G p e below _ (T1.setTop (mkF m 3 #[.val (.ref x)] [(.int G1)]))
  refine own_if_eq X1 hx (hb hby d15_3) (pc' := 17) (by decide) (by decide) (fun c3 => absurd c3 P5) (fun c3 => ?_)
  refine own_step (b := T1.setTop (mkF m 7 #[.val (.ref x)] [(.ref x)])) (fun _ qk => XS.aloadN X1.here hx rfl (hb hby d15_6) rfl rfl qk) ?_
  refine own_getF X1 hx hZ hown (own_w hw 27 rfl) e1 Fc (hb hby d15_7) (fun T2 X2 e2 => ?_)
  show own_G p e below _ (T2.setTop (mkF m 10 #[.val (.ref x)] [(.int (1 : Int32))]))
  refine own_if_ne X2 hx (hb hby d15_10) (pc' := 17) (by decide) (by decide) (fun c10_3 => ?_) (fun c10_3 => absurd c10_3 (by decide))
  refine own_step (b := T2.setTop (mkF m 18 #[.val (.ref x)] [(.int (0 : Int32))])) (fun _ qk => XS.iconst X2.here hx rfl (hb hby d15_17) qk) ?_
  exact own_retN X2 hx hret (by simp) hlk (hb hby d15_18) ⟨rfl, rfl, e2⟩ (by decide) (by decide)
theorem ef_ch (m : MethodId) (x : Addr) (y : Int32) : entryFrame m #[(.ref x), (.int y)] 2 = mkF m 0 #[.val (.ref x), .val (.int y)] [] := by first | (simp [entryFrame, mkF, argsToLocals, Value.category, maxLocals]; done) | rfl
theorem rmChW (l : Launch) (Z : State) (a0 : Array Value) (hw : ∀ d ∈ tables_1, d.before a0 Z = true) (ws : List Jvm.Cond) (x tx : Addr) (kx : ClassId) (cs : List Int32) (h0 : Heap) (SS : own_STW Z h0 x tx kx cs) (h1 : 0 < cs.length) (hn : cs.length ≤ 36) (hc : own_ch (cs.getD 0 0)) (OL0 : Old Z Z.heap.size h0) (G1 : Int32) (O2 : Sta Z Z.heap "java/lang/String" "COMPACT_STRINGS" "Z" (.int G1)) (P5 : ¬ (G1 = (0 : Int32))) (G3 : Value) (O4 : Sta Z Z.heap "jdk/internal/util/Preconditions" "SIOOBE_FORMATTER" "Ljava/util/function/BiFunction;" G3) (rG3 : G3.isRef = true) (SA1 : Sta Z Z.heap "java/lang/StringUTF16" "$assertionsDisabled" "Z" (.int 1)) (SA2 : Sta Z Z.heap "java/lang/StringUTF16" "HI_BYTE_SHIFT" "I" (.int 0)) (SA3 : Sta Z Z.heap "java/lang/StringUTF16" "LO_BYTE_SHIFT" "I" (.int 8)) :
    own_Met l Z (⟨"java/lang/String", "charAt", "(I)C"⟩ : MethodName) jdk_42_method_56_code 2 (some .char) ws ⟨4, 0, 0, 53⟩ #[(.ref x), (.int (0 : Int32))] h0 (own_P (some (.int (cs.getD 0 0))) h0) := by
  refine own_enter (plainFor_of_name pn1) (fun m => ef_ch m x (0 : Int32)) ?_
  intro p e s m below meth c T0 hx hby hml hZ hown hnm hret hlk X0 e0
  refine own_step (b := T0.setTop (mkF m 1 #[.val (.ref x), .val (.int (0 : Int32))] [(.ref x)])) (fun _ qk => XS.aloadN X0.here hx rfl (hb hby d14_0) rfl rfl qk) ?_
  refine own_virtualP (a := x) (W := 0) (argsL := []) (st := []) X0 hx hZ hown (own_w hw 78 rfl) (own_w hw 79 rfl) (own_w hw 81 rfl) trivial (own_w hw 80 rfl) (by decide) e0 SS.1 (rmIsl l Z a0 hw [] x h0 SS.2.1 OL0 G1 O2 P5 G3 O4 rG3 SA1 SA2 SA3) (own_w hw 82 rfl) (own_w hw 4 rfl) (by decide) (by decide) (by decide) (by decide) (by rw [hml]; rfl) (lenOf pd10 rfl) rfl (Nat.le_of_ble_eq_true rfl) (hb hby d14_1) (fun T1 X1 e1 => ?_)
  show own_G p e below _ (T1.setTop (mkF m 4 #[.val (.ref x), .val (.int (0 : Int32))] [(.int (0 : Int32))]))
  refine own_if_eq X1 hx (hb hby d14_4) (pc' := 16) (by decide) (by decide) (fun c4_2 => ?_) (fun c4_2 => absurd c4_2 (by decide))
  refine own_step (b := T1.setTop (mkF m 17 #[.val (.ref x), .val (.int (0 : Int32))] [(.ref x)])) (fun _ qk => XS.aloadN X1.here hx rfl (hb hby d14_16) rfl rfl qk) ?_
  refine own_getF X1 hx hZ hown (own_w hw 29 rfl) e1 SS.2.2.1 (hb hby d14_17) (fun T3 X3 e3 => ?_)
  refine own_step (b := T3.setTop (mkF m 21 #[.val (.ref x), .val (.int (0 : Int32))] [(.int (0 : Int32)), (.ref tx)])) (fun _ qk => XS.iloadN X3.here hx rfl (hb hby d14_20) rfl qk) ?_
  refine own_staticP (W := 0) (argsL := [(.ref tx), (.int (0 : Int32))]) (st := []) X3 hx hZ hown (own_w hw 236 rfl) (own_w hw 237 rfl) (own_w hw 18 rfl) (own_w hw 238 rfl) (by decide) e3 (rmUch l Z a0 hw [] x tx kx cs h0 SS h1 hn hc OL0 G1 O2 P5 G3 O4 rG3 SA1 SA2 SA3) (by decide) (by decide) (by decide) (by decide) (by rw [hml]; rfl) (lenOf pd26 rfl) rfl (Nat.le_of_ble_eq_true rfl) (hb hby d14_21) (fun T4 X4 e4 => ?_)
  show own_G p e below _ (T4.setTop (mkF m 24 #[.val (.ref x), .val (.int (0 : Int32))] [(.int (cs.getD 0 0))]))
  exact own_retN X4 hx hret (by simp) hlk (hb hby d14_24) ⟨by rw [own_narW hc], rfl, e4⟩ (by decide) (by decide)
theorem own_chT {p : Program} {l : Launch} {e : Env} {R : Room} {s : State} {args : Array Value} {below : List Frame} {W : Nat} {Z : State} {a0 : Array Value} {h : Heap} (hZ : Z.Warmed39 s.vm) (hw : ∀ d ∈ tables_1, d.before a0 Z = true) {kI : Nat} (wi : (Jvm.Cond.instantiable "java/lang/String" kI).before a0 Z = true) {x tx : Addr} {kx : ClassId} {cs : List Int32} (SS : own_STL Z h x tx kx cs) (hp : ∀ c ∈ cs, ¬ c < 0 ∧ ¬ (255 : Int32) < c) (h1 : 0 < cs.length) (h2 : cs.length ≤ 36)
    {G1 : Int32} (O2 : Sta Z Z.heap "java/lang/String" "COMPACT_STRINGS" "Z" (.int G1)) (P5 : ¬ (G1 = (0 : Int32))) {G3 : Value} (O4 : Sta Z Z.heap "jdk/internal/util/Preconditions" "SIOOBE_FORMATTER" "Ljava/util/function/BiFunction;" G3) (rG3 : G3.isRef = true) (OL : Old Z Z.heap.size h) (hfr : 4 ≤ R.frames) (hlo : W + 53 ≤ R.locals) :
    own_B l R p e below s args (⟨"java/lang/String", "charAt", "(I)C"⟩ : MethodName) W #[.ref x, .int (0 : Int32)] h 0 0 (own_P (some (.int (cs.getD 0 0))) h) :=
  StrChars.Road.chN hZ (fun d hd => hw d ((by decide +kernel : ∀ d ∈ StrChars.Road.wordsChN, d ∈ tables_1) d hd)) wi SS.1 SS.2.2.1 SS.2.1 SS.2.2.2.1 (Or.inl ⟨rfl, rfl, rfl, fun c hc => (hp c hc).2⟩) (fun c hc => ⟨(hp c hc).1, fun q => (hp c hc).2 (by rw [Int32.lt_iff_toInt_lt] at q ⊢; have e1 : (65535 : Int32).toInt = 65535 := rfl; have e2 : (255 : Int32).toInt = 255 := rfl; omega)⟩) (O2.ext OL.2) P5 (O4.ext OL.2) rG3 (by omega) h1 rfl hfr hlo
section OwnLit
variable {p : Program} {l : Launch} {e : Env} {R : Room} {s : State} {m : MethodId} {args : Array Value} {below : List Frame} {meth : Method} {c : Code} {T : State} {locs : List Loc} {cells slots : Nat} {Z : State} {a0 : Array Value} {h : Heap} {F : Outcome → State → Prop} {pc pc' : Nat} {Ls : Array Slot} {st stk : List Value} {vm0 : Vm} {k0 : Nat}
/-- ldc of a Latin-1 String constant, its text read, and where its cells lie -/
theorem own_ldcD {Ts : List String} (X : Stand p l e R (s.setVm vm0) m args below meth c T locs cells slots) (hx : p.tables.exec = Jvm.exec) (hZ : Z.Warmed39 (s.setVm vm0).vm) {own text : String} {index : Nat} (hown : (s.setVm vm0).vm.findClass own = some m.cls) (w : (Jvm.Cond.stringLink own index text).before a0 Z = true) (wS : ∀ a ∈ Bundle.stringAtoms, a.before a0 Z = true)
    (eT : T.heap = h) (hS : s.Since vm0 k0) (hk : k0 ≤ h.size) (N : Fr s.heap.size locs) (hkeep : ∀ (b : Addr) (cl : Cell), Z.heap[b]? = some cl → s.heap[b]? = some cl) (IV : IB Z vm0 Ts) (hnot : text ∉ Ts) (hh : Jvm.Lit.constHeld Z own index) (hcw : Jvm.Lit.compactW.before a0 Z = true)
    {vs : List Value} {z : Int32} (ht : (∀ c ∈ text.toList, c.toNat < 256) ∧ text.toList.map (fun c => Value.int (Jvm.Lit.byteI c.toNat.toUInt16)) = vs) (hz : ¬ z < 0) (hl : z.toNatClampNeg = vs.length) (hd : decode c.code pc = .ok (.ldc index, 2)) (n : Nat) (hn : 4 * text.toList.length ≤ n) (hbig : n ≤ 536870912) (hc : cells + 2 ≤ R.cells) (hl' : slots + (n + 4) ≤ R.slots)
    (k : ∀ (a : Addr) (T' : State) (h' : Heap) (vm1 : Vm) (k1 : Nat) (b : Addr) (kb : ClassId), Stand p l e R (s.setVm vm1) m args below meth c T' locs (cells + 2) (slots + (n + 4)) → T'.heap = h' → Ext h h' → h.size ≤ h'.size → s.Since vm1 k1 → k1 ≤ h'.size → Z.Warmed39 (s.setVm vm1).vm → (s.setVm vm1).vm.findClass own = some m.cls →
      Exa Z h' a "java/lang/String" → Fld Z h' a "java/lang/String" "coder" "B" (.int 0) → Fld Z h' a "java/lang/String" "value" "[B" (.ref b) → Arv Z h' b kb .byte z vs (.int 0) → IB Z vm1 (text :: Ts) → ((@LT.lt Nat instLTNat a s.heap.size ∧ @LT.lt Nat instLTNat b s.heap.size) ∨ (h.size ≤ a ∧ h.size ≤ b)) →
      own_G p e below F (T'.setTop (mkF m (pc + 2) Ls (.ref a :: st)))) : own_G p e below F (T.setTop (mkF m pc Ls st)) := by
  obtain ⟨a, T', h', k1, b, kb, X', e', E', hS', hk', hZ', ho', f1, f2, f3, f4, -, -, f5, -, f7, st'⟩ := ldcSVd X hx hZ hown w wS eT hS hk N hkeep IV hnot hh hcw ht hz hl (g := mkF m pc Ls st) rfl hd hn hbig hc hl'
  exact own_step st' (k a T' h' T'.vm k1 b kb X' e' E' E'.1 hS' hk' hZ' ho' f1 f2 f3 f4 f5 f7)
end OwnLit

theorem ef_rnn (m : MethodId) (x y : Addr) : entryFrame m #[(.ref x), (.ref y)] 2 = mkF m 0 #[.val (.ref x), .val (.ref y)] [] := by first | (simp [entryFrame, mkF, argsToLocals, Value.category, maxLocals]; done) | rfl
theorem rmRnn (l : Launch) (Z : State) (a0 : Array Value) (hw : ∀ d ∈ tables_1, d.before a0 Z = true) (ws : List Jvm.Cond) (x y : Addr) (h0 : Heap) :
    own_Met l Z (⟨"java/util/Objects", "requireNonNull", "(Ljava/lang/Object;Ljava/lang/String;)Ljava/lang/Object;"⟩ : MethodName) jdk_31_method_11_code 2 (some (.object "java/lang/Object")) ws ⟨0, 0, 0, 0⟩ #[(.ref x), (.ref y)] h0 (own_P (some (.ref x)) h0) := by
  refine own_enter (plainFor_of_name pn8) (fun m => ef_rnn m x y) ?_
  intro p e s m below meth c T0 hx hby hml hZ hown hnm hret hlk X0 e0
  refine own_step (b := T0.setTop (mkF m 14 #[.val (.ref x), .val (.ref y)] [(.ref x)])) (fun _ qk => XS.aloadN X0.here hx rfl (hb hby d12_0) rfl rfl (XT.ifnonnullYes X0.here hx rfl (pc0 := 1) (pc' := 13) rfl (hb hby d12_1) rfl (by decide) (by decide) (XS.aloadN X0.here hx rfl (hb hby d12_13) rfl rfl qk))) ?_
  exact own_retR X0 hx hret rfl rfl rfl hlk (hb hby d12_14) ⟨rfl, rfl, e0⟩ (by decide) (by decide)
theorem ef_tag (m : MethodId) (y x : Addr) : entryFrame m #[(.ref y), (.ref x)] 2 = mkF m 0 #[.val (.ref y), .val (.ref x)] [] := by first | (simp [entryFrame, mkF, argsToLocals, Value.category, maxLocals]; done) | rfl
theorem ef_lkt (m : MethodId) (x : Addr) : entryFrame m #[(.ref x)] 1 = mkF m 0 #[.val (.ref x)] [] := by first | (simp [entryFrame, mkF, argsToLocals, Value.category, maxLocals]; done) | rfl
theorem rmTagL (l : Launch) (Z : State) (a0 : Array Value) (hw : ∀ d ∈ tables_1, d.before a0 Z = true) (ws : List Jvm.Cond) (y ty : Addr) (ky : ClassId) (x tx : Addr) (kx : ClassId) (cs : List Int32) (h0 : Heap) (SK : own_STL Z h0 y ty ky [108, 111, 99, 107]) (SS : own_STL Z h0 x tx kx cs) (hn1 : 0 < cs.length) (hn3 : cs.length ≤ 3) (hc0 : ¬ cs.getD 0 0 = (125 : Int32)) (hp : ∀ c ∈ cs, ¬ c < 0 ∧ ¬ (255 : Int32) < c) (OL0 : Old Z Z.heap.size h0) (G1 : Int32) (O2 : Sta Z Z.heap "java/lang/String" "COMPACT_STRINGS" "Z" (.int G1)) (P5 : ¬ (G1 = (0 : Int32))) (G3 : Value) (O4 : Sta Z Z.heap "jdk/internal/util/Preconditions" "SIOOBE_FORMATTER" "Ljava/util/function/BiFunction;" G3) (rG3 : G3.isRef = true) (SA1 : Sta Z Z.heap "java/lang/StringUTF16" "$assertionsDisabled" "Z" (.int 1)) (SA2 : Sta Z Z.heap "java/lang/StringUTF16" "HI_BYTE_SHIFT" "I" (.int 0)) (SA3 : Sta Z Z.heap "java/lang/StringUTF16" "LO_BYTE_SHIFT" "I" (.int 8)) (CH0 : Jvm.Lit.constHeld Z "com/example/tri3/tri3/RedisKeys" 7) (CH1 : Jvm.Lit.constHeld Z "com/example/tri3/tri3/RedisKeys" 28) (CH2 : Jvm.Lit.constHeld Z "com/example/tri3/tri3/RedisKeys" 36) (CH3 : Jvm.Lit.constHeld Z "com/example/tri3/tri3/RedisKeys" 65) (CH4 : Jvm.Lit.constHeld Z "com/example/tri3/tri3/RedisKeys" 67) (CH5 : Jvm.Lit.constHeld Z "com/example/tri3/tri3/RedisKeys" 69) (HC : Jvm.Lit.compactW.before a0 Z = true) :
    own_MetI l Z (⟨"com/example/tri3/tri3/RedisKeys", "tagged", "(Ljava/lang/String;Ljava/lang/String;)Ljava/lang/String;"⟩ : MethodName) prog_1_method_8_code 2 (some (.object "java/lang/String")) ws ⟨6, 12, 160, 91⟩ #[(.ref y), (.ref x)] h0 (fun vm => IB Z vm ["lock"]) (fun v vm h L => ∃ (r tr : Addr) (kr : ClassId), v = some (.ref r) ∧ Fr h0.size L ∧ Ext h0 h ∧ h0.size ≤ r ∧ h0.size ≤ tr ∧ own_STL Z h r tr kr ([116, 114, 105, 51, 58, 108, 111, 99, 107, 58, 123] ++ cs ++ [125]) ∧ IB Z vm ["}", ":{", "tri3:", "name", "lock"]) := by
  refine own_enterI (plainFor_of_name pn9) (fun m => ef_tag m y x) ?_
  intro p e s m below meth c T0 vm0 k0 hx hby hml hZ hown hnm hret hlk X0 e0 es0 hS hk hI
  have hSA : ∀ d ∈ Bundle.stringAtoms, d.before a0 Z = true := fun d hd => hw d ((by decide +kernel : ∀ d ∈ Bundle.stringAtoms, d ∈ tables_1) d hd)
  have zn : Z.heap.size ≤ h0.size := OL0.2.1
  have N0 := Fr.nil h0.size
  have KP0 : Keep h0 h0 [] := Keep.refl h0 []
  refine own_step (b := T0.setTop (mkF m 1 #[.val (.ref y), .val (.ref x)] [(.ref x)])) (fun _ qk => XS.aloadN X0.here hx rfl (hb hby d11_0) rfl rfl qk) ?_
  refine own_ldcD X0 hx hZ hown (own_w hw 63 rfl) hSA e0 hS (by omega) (by rw [es0]; exact N0) (fun q cl r => by rw [es0]; exact OL0.2.2 q cl r) hI (by decide) CH2 HC (vs := own_L [110, 97, 109, 101]) (z := Int32.ofNat 4) ⟨by decide, rfl⟩ (by decide) rfl (hb hby d11_1) 16 (by decide) (by decide) (by decide) (by decide) (fun a1 T1 h1 vm1 k1 b1 kb1 X1 e1 E1 z1 hS hk hZ hown A1 C1 F1 B1 IV1 WH1 => ?_)
  have SL1 : own_STL Z h1 a1 b1 kb1 [110, 97, 109, 101] := ⟨A1, C1, F1, B1, rfl⟩
  have KP1 : Keep h0 h1 [] := KP0.ext E1
  have OL1 := OL0.ext (own_ext KP1)
  show own_G p e below _ (T1.setTop (mkF m 3 #[.val (.ref y), .val (.ref x)] [(.ref a1), (.ref x)]))
  refine own_staticP (W := 0) (argsL := [(.ref x), (.ref a1)]) (st := []) X1 hx hZ hown (own_w hw 64 rfl) (own_w hw 65 rfl) (own_w hw 66 rfl) (own_w hw 67 rfl) (by decide) e1 (rmRnn l Z a0 hw [] x a1 h1) (by decide) (by decide) (by decide) (by decide) (by rw [hml]; rfl) (lenOf pd31 rfl) rfl (Nat.le_of_ble_eq_true rfl) (hb hby d11_3) (fun T2 X2 e2 => ?_)
  refine own_step (b := T2.setTop (mkF m 8 #[.val (.ref y), .val (.ref x)] [(.ref x)])) (fun _ qk => XT.pop X2.here hx rfl (hb hby d11_6) rfl rfl (XS.aloadN X2.here hx rfl (hb hby d11_7) rfl rfl qk)) ?_
  refine own_virtualP (a := x) (W := 0) (argsL := []) (st := []) X2 hx hZ hown (own_w hw 68 rfl) (own_w hw 69 rfl) (own_w hw 71 rfl) trivial (own_w hw 70 rfl) (by decide) e2 (SS.ext (own_ext KP1)).1 (rmEmp l Z a0 hw [] x tx kx _ _ _ h1 (SS.ext (own_ext KP1)) (by omega) (by omega)) (own_w hw 72 rfl) (own_w hw 4 rfl) (by decide) (by decide) (by decide) (by decide) (by rw [hml]; rfl) (lenOf pd10 rfl) rfl (Nat.le_of_ble_eq_true rfl) (hb hby d11_8) (fun T3 X3 e3 => ?_)
  show own_G p e below _ (T3.setTop (mkF m 11 #[.val (.ref y), .val (.ref x)] [(.int (0 : Int32))]))
  refine own_if_ne X3 hx (hb hby d11_11) (pc' := 24) (by decide) (by decide) (fun c11_4 => absurd c11_4 (by decide)) (fun c11_4 => ?_)
  refine own_step (b := T3.setTop (mkF m 16 #[.val (.ref y), .val (.ref x)] [(.int (0 : Int32)), (.ref x)])) (fun _ qk => XS.aloadN X3.here hx rfl (hb hby d11_14) rfl rfl (XS.iconst X3.here hx rfl (hb hby d11_15) qk)) ?_
  refine own_virtual (a := x) (W := 0) (argsL := [(.int (0 : Int32))]) (st := []) X3 hx hZ hown (own_w hw 73 rfl) (own_w hw 74 rfl) (own_w hw 76 rfl) trivial (own_w hw 75 rfl) (by decide) e3 (SS.ext (own_ext KP1)).1 (own_chT (W := 0) hZ hw (kI := 4) (own_w hw 3 rfl) (SS.ext (own_ext KP1)) hp hn1 (by omega) O2 P5 O4 rG3 OL1 (by decide) (by decide)) (by decide) (by decide) (by rw [hml]; rfl) (lenOf pd32 rfl) rfl (Nat.le_of_ble_eq_true rfl) (hb hby d11_16) (fun v5 T5 L5 X5 hQ5 => ?_)
  obtain ⟨rfl, rfl, hh5⟩ := hQ5
  rw [List.append_nil] at X5
  refine own_step (b := T5.setTop (mkF m 21 #[.val (.ref y), .val (.ref x)] [(.int (125 : Int32)), (.int (cs.getD 0 0))])) (fun _ qk => XS.bipush X5.here hx rfl (hb hby d11_19) qk) ?_
  refine own_icmp_ne X5 hx (hb hby d11_21) (pc' := 65) (by decide) (by decide) (fun c21 => ?_) (fun c21 => absurd c21 hc0)
  show own_G p e below _ (T5.setTop (mkF m 65 #[.val (.ref y), .val (.ref x)] []))
  refine own_newO X5 hx hZ hown (own_w hw 39 rfl) (own_w hw 40 rfl) (own_w hw 41 rfl) hh5 (hb hby d11_65) (by decide) (by decide) (fun T6 h6 a6 X6 e6 g6 l6 E6 A6 D6 => ?_)
  show own_G p e below _ (T6.setTop (mkF m 68 #[.val (.ref y), .val (.ref x)] [(.ref a6)]))
  have KP6 : Keep h0 h6 [] := KP1.ext E6
  have OL6 := OL0.ext (own_ext KP6)
  refine own_step (b := T6.setTop (mkF m 69 #[.val (.ref y), .val (.ref x)] [(.ref a6), (.ref a6)])) (fun _ qk => XS.dup X6.here hx rfl (hb hby d11_68) rfl rfl qk) ?_
  refine own_special (a := a6) (W := 1) (argsL := []) (st := [(.ref a6)]) X6 hx hZ hown rfl (own_w hw 42 rfl) (own_w hw 43 rfl) (own_w hw 44 rfl) (by decide) e6 (own_back (W := 1) (rmSi l Z a0 hw [] a6 h6 A6 (D6 (Or.inl (own_w hw 54 rfl)) (ty := (.array .byte)) (by decide)) (D6 (Or.inl (own_w hw 56 rfl)) (ty := .byte) (by decide)) (D6 (Or.inl (own_w hw 117 rfl)) (ty := .int) (by decide)) (D6 (Or.inl (own_w hw 270 rfl)) (ty := .boolean) (by decide)) h0.size (by omega) OL6 G1 O2 P5 G3 O4 rG3 SA1 SA2 SA3) hZ (own_w hw 44 rfl) (own_w hw 41 rfl) (by decide) (by decide)) (by decide) (by decide) (by rw [hml]; rfl) (lenOf pd12 rfl) rfl (Nat.le_of_ble_eq_true rfl) (hb hby d11_69) (fun v7 T7 L7 X7 hQ7 => ?_)
  obtain ⟨r7, kr7, rfl, M7, K7, g7, BB7⟩ := hQ7
  have zz7 : h6.size ≤ T7.heap.size := K7.1
  have N7 := Fr.app N0 M7
  have KP7 : Keep h0 T7.heap [] := KP6.trans K7 (allS (Or.inr (by omega)) all0)
  have OL7 := OL0.ext (own_ext KP7)
  have gr7 : h0.size ≤ r7 := by omega
  show own_G p e below _ (T7.setTop (mkF m 72 #[.val (.ref y), .val (.ref x)] [(.ref a6)]))
  refine own_ldcD X7 hx hZ hown (own_w hw 95 rfl) hSA rfl hS (by omega) (by rw [es0]; exact N7) (fun q cl r => by rw [es0]; exact OL0.2.2 q cl r) IV1 (by decide) CH3 HC (vs := own_L [116, 114, 105, 51, 58]) (z := Int32.ofNat 5) ⟨by decide, rfl⟩ (by decide) rfl (hb hby d11_72) 20 (by decide) (by decide) (by decide) (by decide) (fun a8 T8 h8 vm8 k8 b8 kb8 X8 e8 E8 z8 hS hk hZ hown A8 C8 F8 B8 IV8 WH8 => ?_)
  have SL8 : own_STL Z h8 a8 b8 kb8 [116, 114, 105, 51, 58] := ⟨A8, C8, F8, B8, rfl⟩
  have KP8 : Keep h0 h8 [] := KP7.ext E8
  have OL8 := OL0.ext (own_ext KP8)
  show own_G p e below _ (T8.setTop (mkF m 74 #[.val (.ref y), .val (.ref x)] [(.ref a8), (.ref a6)]))
  have BX9 := BB7.ext E8
  refine own_virtual (a := a6) (W := 0) (argsL := [(.ref a8)]) (st := []) X8 hx hZ hown (own_w hw 96 rfl) (own_w hw 97 rfl) (own_w hw 99 rfl) trivial (own_w hw 98 rfl) (by decide) e8 BX9.1 (own_back (W := 0) (rmSaLL l Z a0 hw [] a6 r7 kr7 16 [] a8 b8 kb8 [116, 114, 105, 51, 58] h8 BX9 SL8 (by simp only [List.length_append, List.length_cons, List.length_nil]; omega) (by decide) h0.size zn (by omega) (by omega) gr7 OL8 G1 O2 P5 G3 O4 rG3 SA1 SA2 SA3) hZ (own_w hw 100 rfl) (own_w hw 41 rfl) (by decide) (by decide)) (by decide) (by decide) (by rw [hml]; rfl) (lenOf pd33 rfl) rfl (Nat.le_of_ble_eq_true rfl) (hb hby d11_74) (fun v10 T10 L10 X10 hQ10 => ?_)
  obtain ⟨r10, kr10, rfl, M10, K10, g10, BB10⟩ := hQ10
  have zz10 : h8.size ≤ T10.heap.size := K10.1
  have N10 := Fr.app N7 M10
  have KP10 : Keep h0 T10.heap [] := KP8.trans K10 (allS (Or.inr (by omega)) (allS (Or.inr gr7) all0))
  have OL10 := OL0.ext (own_ext KP10)
  have BC10 : own_SBL Z T10.heap a6 r10 kr10 16 [116, 114, 105, 51, 58] := BB10
  refine own_step (b := T10.setTop (mkF m 78 #[.val (.ref y), .val (.ref x)] [(.ref y), (.ref a6)])) (fun _ qk => XS.aloadN X10.here hx rfl (hb hby d11_77) rfl rfl qk) ?_
  refine own_virtual (a := a6) (W := 0) (argsL := [(.ref y)]) (st := []) X10 hx hZ hown (own_w hw 96 rfl) (own_w hw 97 rfl) (own_w hw 99 rfl) trivial (own_w hw 98 rfl) (by decide) rfl BC10.1 (own_back (W := 0) (rmSaLL l Z a0 hw [] a6 r10 kr10 16 [116, 114, 105, 51, 58] y ty ky [108, 111, 99, 107] T10.heap BC10 (SK.ext (own_ext KP10)) (by simp only [List.length_append, List.length_cons, List.length_nil]; omega) (by decide) h0.size zn (by omega) (by omega) g10 OL10 G1 O2 P5 G3 O4 rG3 SA1 SA2 SA3) hZ (own_w hw 100 rfl) (own_w hw 41 rfl) (by decide) (by decide)) (by decide) (by decide) (by rw [hml]; rfl) (lenOf pd33 rfl) rfl (Nat.le_of_ble_eq_true rfl) (hb hby d11_78) (fun v11 T11 L11 X11 hQ11 => ?_)
  obtain ⟨r11, kr11, rfl, M11, K11, g11, BB11⟩ := hQ11
  have zz11 : T10.heap.size ≤ T11.heap.size := K11.1
  have N11 := Fr.app N10 M11
  have KP11 : Keep h0 T11.heap [] := KP10.trans K11 (allS (Or.inr (by omega)) (allS (Or.inr g10) all0))
  have OL11 := OL0.ext (own_ext KP11)
  have BC11 : own_SBL Z T11.heap a6 r11 kr11 16 [116, 114, 105, 51, 58, 108, 111, 99, 107] := BB11
  show own_G p e below _ (T11.setTop (mkF m 81 #[.val (.ref y), .val (.ref x)] [(.ref a6)]))
  refine own_ldcD X11 hx hZ hown (own_w hw 143 rfl) hSA rfl hS (by omega) (by rw [es0]; exact N11) (fun q cl r => by rw [es0]; exact OL0.2.2 q cl r) IV8 (by decide) CH4 HC (vs := own_L [58, 123]) (z := Int32.ofNat 2) ⟨by decide, rfl⟩ (by decide) rfl (hb hby d11_81) 8 (by decide) (by decide) (by decide) (by decide) (fun a12 T12 h12 vm12 k12 b12 kb12 X12 e12 E12 z12 hS hk hZ hown A12 C12 F12 B12 IV12 WH12 => ?_)
  have SL12 : own_STL Z h12 a12 b12 kb12 [58, 123] := ⟨A12, C12, F12, B12, rfl⟩
  have KP12 : Keep h0 h12 [] := KP11.ext E12
  have OL12 := OL0.ext (own_ext KP12)
  show own_G p e below _ (T12.setTop (mkF m 83 #[.val (.ref y), .val (.ref x)] [(.ref a12), (.ref a6)]))
  have BX13 := BC11.ext E12
  refine own_virtual (a := a6) (W := 0) (argsL := [(.ref a12)]) (st := []) X12 hx hZ hown (own_w hw 96 rfl) (own_w hw 97 rfl) (own_w hw 99 rfl) trivial (own_w hw 98 rfl) (by decide) e12 BX13.1 (own_back (W := 0) (rmSaLL l Z a0 hw [] a6 r11 kr11 16 [116, 114, 105, 51, 58, 108, 111, 99, 107] a12 b12 kb12 [58, 123] h12 BX13 SL12 (by simp only [List.length_append, List.length_cons, List.length_nil]; omega) (by decide) h0.size zn (by omega) (by omega) g11 OL12 G1 O2 P5 G3 O4 rG3 SA1 SA2 SA3) hZ (own_w hw 100 rfl) (own_w hw 41 rfl) (by decide) (by decide)) (by decide) (by decide) (by rw [hml]; rfl) (lenOf pd33 rfl) rfl (Nat.le_of_ble_eq_true rfl) (hb hby d11_83) (fun v14 T14 L14 X14 hQ14 => ?_)
  obtain ⟨r14, kr14, rfl, M14, K14, g14, BB14⟩ := hQ14
  have zz14 : h12.size ≤ T14.heap.size := K14.1
  have N14 := Fr.app N11 M14
  have KP14 : Keep h0 T14.heap [] := KP12.trans K14 (allS (Or.inr (by omega)) (allS (Or.inr g11) all0))
  have OL14 := OL0.ext (own_ext KP14)
  have BC14 : own_SBL Z T14.heap a6 r14 kr14 16 [116, 114, 105, 51, 58, 108, 111, 99, 107, 58, 123] := BB14
  refine own_step (b := T14.setTop (mkF m 87 #[.val (.ref y), .val (.ref x)] [(.ref x), (.ref a6)])) (fun _ qk => XS.aloadN X14.here hx rfl (hb hby d11_86) rfl rfl qk) ?_
  refine own_virtual (a := a6) (W := 0) (argsL := [(.ref x)]) (st := []) X14 hx hZ hown (own_w hw 96 rfl) (own_w hw 97 rfl) (own_w hw 99 rfl) trivial (own_w hw 98 rfl) (by decide) rfl BC14.1 (own_back (W := 0) (rmSaLL l Z a0 hw [] a6 r14 kr14 16 [116, 114, 105, 51, 58, 108, 111, 99, 107, 58, 123] x tx kx cs T14.heap BC14 (SS.ext (own_ext KP14)) (by simp only [List.length_append, List.length_cons, List.length_nil]; omega) (by decide) h0.size zn (by omega) (by omega) g14 OL14 G1 O2 P5 G3 O4 rG3 SA1 SA2 SA3) hZ (own_w hw 100 rfl) (own_w hw 41 rfl) (by decide) (by decide)) (by decide) (by decide) (by rw [hml]; rfl) (lenOf pd33 rfl) rfl (Nat.le_of_ble_eq_true rfl) (hb hby d11_87) (fun v15 T15 L15 X15 hQ15 => ?_)
  obtain ⟨r15, kr15, rfl, M15, K15, g15, BB15⟩ := hQ15
  have zz15 : T14.heap.size ≤ T15.heap.size := K15.1
  have N15 := Fr.app N14 M15
  have KP15 : Keep h0 T15.heap [] := KP14.trans K15 (allS (Or.inr (by omega)) (allS (Or.inr g14) all0))
  have OL15 := OL0.ext (own_ext KP15)
  have BC15 : own_SBL Z T15.heap a6 r15 kr15 16 ([116, 114, 105, 51, 58, 108, 111, 99, 107, 58, 123] ++ cs) := BB15
  show own_G p e below _ (T15.setTop (mkF m 90 #[.val (.ref y), .val (.ref x)] [(.ref a6)]))
  refine own_ldcD X15 hx hZ hown (own_w hw 144 rfl) hSA rfl hS (by omega) (by rw [es0]; exact N15) (fun q cl r => by rw [es0]; exact OL0.2.2 q cl r) IV12 (by decide) CH5 HC (vs := own_L [125]) (z := Int32.ofNat 1) ⟨by decide, rfl⟩ (by decide) rfl (hb hby d11_90) 4 (by decide) (by decide) (by decide) (by decide) (fun a16 T16 h16 vm16 k16 b16 kb16 X16 e16 E16 z16 hS hk hZ hown A16 C16 F16 B16 IV16 WH16 => ?_)
  have SL16 : own_STL Z h16 a16 b16 kb16 [125] := ⟨A16, C16, F16, B16, rfl⟩
  have KP16 : Keep h0 h16 [] := KP15.ext E16
  have OL16 := OL0.ext (own_ext KP16)
  show own_G p e below _ (T16.setTop (mkF m 92 #[.val (.ref y), .val (.ref x)] [(.ref a16), (.ref a6)]))
  have BX17 := BC15.ext E16
  refine own_virtual (a := a6) (W := 0) (argsL := [(.ref a16)]) (st := []) X16 hx hZ hown (own_w hw 96 rfl) (own_w hw 97 rfl) (own_w hw 99 rfl) trivial (own_w hw 98 rfl) (by decide) e16 BX17.1 (own_back (W := 0) (rmSaLL l Z a0 hw [] a6 r15 kr15 16 ([116, 114, 105, 51, 58, 108, 111, 99, 107, 58, 123] ++ cs) a16 b16 kb16 [125] h16 BX17 SL16 (by simp only [List.length_append, List.length_cons, List.length_nil]; omega) (by decide) h0.size zn (by omega) (by omega) g15 OL16 G1 O2 P5 G3 O4 rG3 SA1 SA2 SA3) hZ (own_w hw 100 rfl) (own_w hw 41 rfl) (by decide) (by decide)) (by decide) (by decide) (by rw [hml]; rfl) (lenOf pd33 rfl) rfl (Nat.le_of_ble_eq_true rfl) (hb hby d11_92) (fun v18 T18 L18 X18 hQ18 => ?_)
  obtain ⟨r18, kr18, rfl, M18, K18, g18, BB18⟩ := hQ18
  have zz18 : h16.size ≤ T18.heap.size := K18.1
  have N18 := Fr.app N15 M18
  have KP18 : Keep h0 T18.heap [] := KP16.trans K18 (allS (Or.inr (by omega)) (allS (Or.inr g15) all0))
  have OL18 := OL0.ext (own_ext KP18)
  have BC18 : own_SBL Z T18.heap a6 r18 kr18 16 ([116, 114, 105, 51, 58, 108, 111, 99, 107, 58, 123] ++ cs ++ [125]) := BB18
  show own_G p e below _ (T18.setTop (mkF m 95 #[.val (.ref y), .val (.ref x)] [(.ref a6)]))
  refine own_virtual (a := a6) (W := 0) (argsL := []) (st := []) X18 hx hZ hown (own_w hw 145 rfl) (own_w hw 146 rfl) (own_w hw 148 rfl) trivial (own_w hw 147 rfl) (by decide) rfl BC18.1 (own_back (W := 0) (rmTsL l Z a0 hw [] a6 r18 kr18 16 ([116, 114, 105, 51, 58, 108, 111, 99, 107, 58, 123] ++ cs ++ [125]) T18.heap BC18 (by simp only [List.length_append, List.length_cons, List.length_nil]; omega) (by decide) h0.size (by omega) OL18 G1 O2 P5 G3 O4 rG3 SA1 SA2 SA3) hZ (own_w hw 149 rfl) (own_w hw 41 rfl) (by decide) (by decide)) (by decide) (by decide) (by rw [hml]; rfl) (lenOf pd34 rfl) rfl (Nat.le_of_ble_eq_true rfl) (hb hby d11_95) (fun v19 T19 L19 X19 hQ19 => ?_)
  obtain ⟨x19, r19, kr19, rfl, M19, E19, g19, gg19, SS19⟩ := hQ19
  have zz19 : T18.heap.size ≤ T19.heap.size := E19.1
  show own_G p e below _ (T19.setTop (mkF m 98 #[.val (.ref y), .val (.ref x)] [(.ref x19)]))
  exact own_retXR X19 hx hS (by omega) hret rfl rfl rfl hlk (hb hby d11_98) ⟨x19, r19, kr19, rfl, Fr.app N18 M19, own_ext (KP18.ext E19), by omega, by omega, SS19, own_IBw IV16 X19.warmed⟩ (by decide) (by decide)
theorem rmLkL (l : Launch) (Z : State) (a0 : Array Value) (hw : ∀ d ∈ tables_1, d.before a0 Z = true) (ws : List Jvm.Cond) (x tx : Addr) (kx : ClassId) (cs : List Int32) (h0 : Heap) (SS : own_STL Z h0 x tx kx cs) (hn1 : 0 < cs.length) (hn3 : cs.length ≤ 3) (hc0 : ¬ cs.getD 0 0 = (125 : Int32)) (hp : ∀ c ∈ cs, ¬ c < 0 ∧ ¬ (255 : Int32) < c) (OL0 : Old Z Z.heap.size h0) (G1 : Int32) (O2 : Sta Z Z.heap "java/lang/String" "COMPACT_STRINGS" "Z" (.int G1)) (P5 : ¬ (G1 = (0 : Int32))) (G3 : Value) (O4 : Sta Z Z.heap "jdk/internal/util/Preconditions" "SIOOBE_FORMATTER" "Ljava/util/function/BiFunction;" G3) (rG3 : G3.isRef = true) (SA1 : Sta Z Z.heap "java/lang/StringUTF16" "$assertionsDisabled" "Z" (.int 1)) (SA2 : Sta Z Z.heap "java/lang/StringUTF16" "HI_BYTE_SHIFT" "I" (.int 0)) (SA3 : Sta Z Z.heap "java/lang/StringUTF16" "LO_BYTE_SHIFT" "I" (.int 8)) (CH0 : Jvm.Lit.constHeld Z "com/example/tri3/tri3/RedisKeys" 7) (CH1 : Jvm.Lit.constHeld Z "com/example/tri3/tri3/RedisKeys" 28) (CH2 : Jvm.Lit.constHeld Z "com/example/tri3/tri3/RedisKeys" 36) (CH3 : Jvm.Lit.constHeld Z "com/example/tri3/tri3/RedisKeys" 65) (CH4 : Jvm.Lit.constHeld Z "com/example/tri3/tri3/RedisKeys" 67) (CH5 : Jvm.Lit.constHeld Z "com/example/tri3/tri3/RedisKeys" 69) (HC : Jvm.Lit.compactW.before a0 Z = true) :
    own_MetI l Z (⟨"com/example/tri3/tri3/RedisKeys", "lockToken", "(Ljava/lang/String;)Ljava/lang/String;"⟩ : MethodName) prog_1_method_4_code 1 (some (.object "java/lang/String")) ws ⟨7, 21, 376, 105⟩ #[(.ref x)] h0 (fun vm => IB Z vm []) (fun v vm h L => ∃ (r tr : Addr) (kr : ClassId), v = some (.ref r) ∧ Fr h0.size L ∧ Ext h0 h ∧ own_STL Z h r tr kr ([116, 114, 105, 51, 58, 108, 111, 99, 107, 58, 123] ++ cs ++ [125] ++ [58, 116, 111, 107, 101, 110])) := by
  refine own_enterI (plainFor_of_name pn9) (fun m => ef_lkt m x) ?_
  intro p e s m below meth c T0 vm0 k0 hx hby hml hZ hown hnm hret hlk X0 e0 es0 hS hk hI
  have hSA : ∀ d ∈ Bundle.stringAtoms, d.before a0 Z = true := fun d hd => hw d ((by decide +kernel : ∀ d ∈ Bundle.stringAtoms, d ∈ tables_1) d hd)
  have zn : Z.heap.size ≤ h0.size := OL0.2.1
  have N0 := Fr.nil h0.size
  have KP0 : Keep h0 h0 [] := Keep.refl h0 []
  show own_G p e below _ (T0.setTop (mkF m 0 #[.val (.ref x)] []))
  refine own_newO X0 hx hZ hown (own_w hw 39 rfl) (own_w hw 40 rfl) (own_w hw 41 rfl) e0 (hb hby d8_0) (by decide) (by decide) (fun T1 h1 a1 X1 e1 g1 l1 E1 A1 D1 => ?_)
  show own_G p e below _ (T1.setTop (mkF m 3 #[.val (.ref x)] [(.ref a1)]))
  have KP1 : Keep h0 h1 [] := KP0.ext E1
  have OL1 := OL0.ext (own_ext KP1)
  refine own_step (b := T1.setTop (mkF m 4 #[.val (.ref x)] [(.ref a1), (.ref a1)])) (fun _ qk => XS.dup X1.here hx rfl (hb hby d8_3) rfl rfl qk) ?_
  refine own_special (a := a1) (W := 1) (argsL := []) (st := [(.ref a1)]) X1 hx hZ hown rfl (own_w hw 42 rfl) (own_w hw 43 rfl) (own_w hw 44 rfl) (by decide) e1 (own_back (W := 1) (rmSi l Z a0 hw [] a1 h1 A1 (D1 (Or.inl (own_w hw 54 rfl)) (ty := (.array .byte)) (by decide)) (D1 (Or.inl (own_w hw 56 rfl)) (ty := .byte) (by decide)) (D1 (Or.inl (own_w hw 117 rfl)) (ty := .int) (by decide)) (D1 (Or.inl (own_w hw 270 rfl)) (ty := .boolean) (by decide)) h0.size (by omega) OL1 G1 O2 P5 G3 O4 rG3 SA1 SA2 SA3) hZ (own_w hw 44 rfl) (own_w hw 41 rfl) (by decide) (by decide)) (by decide) (by decide) (by rw [hml]; rfl) (lenOf pd12 rfl) rfl (Nat.le_of_ble_eq_true rfl) (hb hby d8_4) (fun v2 T2 L2 X2 hQ2 => ?_)
  obtain ⟨r2, kr2, rfl, M2, K2, g2, BB2⟩ := hQ2
  have zz2 : h1.size ≤ T2.heap.size := K2.1
  have N2 := Fr.app N0 M2
  have KP2 : Keep h0 T2.heap [] := KP1.trans K2 (allS (Or.inr (by omega)) all0)
  have OL2 := OL0.ext (own_ext KP2)
  have gr2 : h0.size ≤ r2 := by omega
  show own_G p e below _ (T2.setTop (mkF m 7 #[.val (.ref x)] [(.ref a1)]))
  refine own_ldcD X2 hx hZ hown (own_w hw 57 rfl) hSA rfl hS (by omega) (by rw [es0]; exact N2) (fun q cl r => by rw [es0]; exact OL0.2.2 q cl r) hI (by decide) CH0 HC (vs := own_L [108, 111, 99, 107]) (z := Int32.ofNat 4) ⟨by decide, rfl⟩ (by decide) rfl (hb hby d8_7) 16 (by decide) (by decide) (by decide) (by decide) (fun a3 T3 h3 vm3 k3 b3 kb3 X3 e3 E3 z3 hS hk hZ hown A3 C3 F3 B3 IV3 WH3 => ?_)
  have SL3 : own_STL Z h3 a3 b3 kb3 [108, 111, 99, 107] := ⟨A3, C3, F3, B3, rfl⟩
  have KP3 : Keep h0 h3 [] := KP2.ext E3
  have OL3 := OL0.ext (own_ext KP3)
  show own_G p e below _ (T3.setTop (mkF m 9 #[.val (.ref x)] [(.ref a3), (.ref a1)]))
  have BX4 := BB2.ext E3
  refine own_step (b := T3.setTop (mkF m 10 #[.val (.ref x)] [(.ref x), (.ref a3), (.ref a1)])) (fun _ qk => XS.aloadN X3.here hx rfl (hb hby d8_9) rfl rfl qk) ?_
  refine own_staticI (W := 1) (argsL := [(.ref a3), (.ref x)]) (st := [(.ref a1)]) X3 hx hZ hown (own_w hw 60 rfl) (own_w hw 61 rfl) (own_w hw 37 rfl) (own_w hw 62 rfl) (by decide) e3 hS (by omega) (rmTagL l Z a0 hw [] a3 b3 kb3 x tx kx cs h3 SL3 (SS.ext (own_ext KP3)) hn1 hn3 hc0 hp OL3 G1 O2 P5 G3 O4 rG3 SA1 SA2 SA3 CH0 CH1 CH2 CH3 CH4 CH5 HC) (fun _ hW => own_IBw IV3 hW) (by decide) (by decide) (by decide) (by decide) (by rw [hml]; rfl) (lenOf pd35 rfl) rfl (Nat.le_of_ble_eq_true rfl) (hb hby d8_10) (fun v5 T5 L5 vm5 k5 X5 ev5 z5 hS hk hZ hown hQ5 => ?_)
  obtain ⟨r5, tr5, kr5, rfl, M5, E5, g5, gg5, ST5, IV5⟩ := hQ5
  have N5 := Fr.app N2 (fun y hy => Nat.le_trans (by omega : h0.size ≤ h3.size) (M5 y hy))
  have KP5 : Keep h0 T5.heap [] := KP3.ext E5
  have OL5 := OL0.ext (own_ext KP5)
  have BX6 := BX4.ext E5
  show own_G p e below _ (T5.setTop (mkF m 13 #[.val (.ref x)] [(.ref r5), (.ref a1)]))
  refine own_virtual (a := a1) (W := 0) (argsL := [(.ref r5)]) (st := []) X5 hx hZ hown (own_w hw 96 rfl) (own_w hw 97 rfl) (own_w hw 99 rfl) trivial (own_w hw 98 rfl) (by decide) rfl BX6.1 (own_back (W := 0) (rmSaLL l Z a0 hw [] a1 r2 kr2 16 [] r5 tr5 kr5 ([116, 114, 105, 51, 58, 108, 111, 99, 107, 58, 123] ++ cs ++ [125]) T5.heap BX6 ST5 (by simp only [List.length_append, List.length_cons, List.length_nil]; omega) (by decide) h0.size zn (by omega) (by omega) gr2 OL5 G1 O2 P5 G3 O4 rG3 SA1 SA2 SA3) hZ (own_w hw 100 rfl) (own_w hw 41 rfl) (by decide) (by decide)) (by decide) (by decide) (by rw [hml]; rfl) (lenOf pd33 rfl) rfl (Nat.le_of_ble_eq_true rfl) (hb hby d8_13) (fun v7 T7 L7 X7 hQ7 => ?_)
  obtain ⟨r7, kr7, rfl, M7, K7, g7, BB7⟩ := hQ7
  have zz7 : T5.heap.size ≤ T7.heap.size := K7.1
  have N7 := Fr.app N5 M7
  have KP7 : Keep h0 T7.heap [] := KP5.trans K7 (allS (Or.inr (by omega)) (allS (Or.inr gr2) all0))
  have OL7 := OL0.ext (own_ext KP7)
  have BC7 : own_SBL Z T7.heap a1 r7 kr7 16 ([116, 114, 105, 51, 58, 108, 111, 99, 107, 58, 123] ++ cs ++ [125]) := BB7
  show own_G p e below _ (T7.setTop (mkF m 16 #[.val (.ref x)] [(.ref a1)]))
  refine own_ldcD X7 hx hZ hown (own_w hw 190 rfl) hSA rfl hS (by omega) (by rw [es0]; exact N7) (fun q cl r => by rw [es0]; exact OL0.2.2 q cl r) IV5 (by decide) CH1 HC (vs := own_L [58, 116, 111, 107, 101, 110]) (z := Int32.ofNat 6) ⟨by decide, rfl⟩ (by decide) rfl (hb hby d8_16) 24 (by decide) (by decide) (by decide) (by decide) (fun a8 T8 h8 vm8 k8 b8 kb8 X8 e8 E8 z8 hS hk hZ hown A8 C8 F8 B8 IV8 WH8 => ?_)
  have SL8 : own_STL Z h8 a8 b8 kb8 [58, 116, 111, 107, 101, 110] := ⟨A8, C8, F8, B8, rfl⟩
  have KP8 : Keep h0 h8 [] := KP7.ext E8
  have OL8 := OL0.ext (own_ext KP8)
  show own_G p e below _ (T8.setTop (mkF m 18 #[.val (.ref x)] [(.ref a8), (.ref a1)]))
  have BX9 := BC7.ext E8
  refine own_virtual (a := a1) (W := 0) (argsL := [(.ref a8)]) (st := []) X8 hx hZ hown (own_w hw 96 rfl) (own_w hw 97 rfl) (own_w hw 99 rfl) trivial (own_w hw 98 rfl) (by decide) e8 BX9.1 (own_back (W := 0) (rmSaLLg l Z a0 hw [] a1 r7 kr7 ([116, 114, 105, 51, 58, 108, 111, 99, 107, 58, 123] ++ cs ++ [125]) a8 b8 kb8 [58, 116, 111, 107, 101, 110] h8 BX9 SL8 (by simp only [List.length_append, List.length_cons, List.length_nil]; omega) (by simp only [List.length_append, List.length_cons, List.length_nil]; omega) (by simp only [List.length_append, List.length_cons, List.length_nil]; omega) h0.size zn (by omega) (by omega) g7 OL8 G1 O2 P5 G3 O4 rG3 SA1 SA2 SA3) hZ (own_w hw 100 rfl) (own_w hw 41 rfl) (by decide) (by decide)) (by decide) (by decide) (by rw [hml]; rfl) (lenOf pd33 rfl) rfl (Nat.le_of_ble_eq_true rfl) (hb hby d8_18) (fun v10 T10 L10 X10 hQ10 => ?_)
  obtain ⟨r10, kr10, rfl, M10, K10, g10, BB10⟩ := hQ10
  have zz10 : h8.size ≤ T10.heap.size := K10.1
  have N10 := Fr.app N7 M10
  have KP10 : Keep h0 T10.heap [] := KP8.trans K10 (allS (Or.inr (by omega)) (allS (Or.inr g7) all0))
  have OL10 := OL0.ext (own_ext KP10)
  have BC10 : own_SBL Z T10.heap a1 r10 kr10 34 (([116, 114, 105, 51, 58, 108, 111, 99, 107, 58, 123] ++ cs ++ [125]) ++ [58, 116, 111, 107, 101, 110]) := BB10
  show own_G p e below _ (T10.setTop (mkF m 21 #[.val (.ref x)] [(.ref a1)]))
  refine own_virtual (a := a1) (W := 0) (argsL := []) (st := []) X10 hx hZ hown (own_w hw 145 rfl) (own_w hw 146 rfl) (own_w hw 148 rfl) trivial (own_w hw 147 rfl) (by decide) rfl BC10.1 (own_back (W := 0) (rmTsL l Z a0 hw [] a1 r10 kr10 34 (([116, 114, 105, 51, 58, 108, 111, 99, 107, 58, 123] ++ cs ++ [125]) ++ [58, 116, 111, 107, 101, 110]) T10.heap BC10 (by simp only [List.length_append, List.length_cons, List.length_nil]; omega) (by decide) h0.size (by omega) OL10 G1 O2 P5 G3 O4 rG3 SA1 SA2 SA3) hZ (own_w hw 149 rfl) (own_w hw 41 rfl) (by decide) (by decide)) (by decide) (by decide) (by rw [hml]; rfl) (lenOf pd34 rfl) rfl (Nat.le_of_ble_eq_true rfl) (hb hby d8_21) (fun v11 T11 L11 X11 hQ11 => ?_)
  obtain ⟨x11, r11, kr11, rfl, M11, E11, g11, gg11, SS11⟩ := hQ11
  have zz11 : T10.heap.size ≤ T11.heap.size := E11.1
  show own_G p e below _ (T11.setTop (mkF m 24 #[.val (.ref x)] [(.ref x11)]))
  exact own_retXR X11 hx hS (by omega) hret rfl rfl rfl hlk (hb hby d8_24) ⟨x11, r11, kr11, rfl, Fr.app N10 M11, own_ext (KP10.ext E11), SS11⟩ (by decide) (by decide)
theorem rmTagW (l : Launch) (Z : State) (a0 : Array Value) (hw : ∀ d ∈ tables_1, d.before a0 Z = true) (ws : List Jvm.Cond) (y ty : Addr) (ky : ClassId) (x tx : Addr) (kx : ClassId) (cs : List Int32) (h0 : Heap) (SK : own_STL Z h0 y ty ky [108, 111, 99, 107]) (SS : own_STW Z h0 x tx kx cs) (hn1 : 0 < cs.length) (hn3 : cs.length ≤ 3) (hc0 : ¬ cs.getD 0 0 = (125 : Int32)) (hch : ∀ c ∈ cs, own_C c) (hex : ∃ c ∈ cs, (255 : Int32) < c) (OL0 : Old Z Z.heap.size h0) (G1 : Int32) (O2 : Sta Z Z.heap "java/lang/String" "COMPACT_STRINGS" "Z" (.int G1)) (P5 : ¬ (G1 = (0 : Int32))) (G3 : Value) (O4 : Sta Z Z.heap "jdk/internal/util/Preconditions" "SIOOBE_FORMATTER" "Ljava/util/function/BiFunction;" G3) (rG3 : G3.isRef = true) (SA1 : Sta Z Z.heap "java/lang/StringUTF16" "$assertionsDisabled" "Z" (.int 1)) (SA2 : Sta Z Z.heap "java/lang/StringUTF16" "HI_BYTE_SHIFT" "I" (.int 0)) (SA3 : Sta Z Z.heap "java/lang/StringUTF16" "LO_BYTE_SHIFT" "I" (.int 8)) (CH0 : Jvm.Lit.constHeld Z "com/example/tri3/tri3/RedisKeys" 7) (CH1 : Jvm.Lit.constHeld Z "com/example/tri3/tri3/RedisKeys" 28) (CH2 : Jvm.Lit.constHeld Z "com/example/tri3/tri3/RedisKeys" 36) (CH3 : Jvm.Lit.constHeld Z "com/example/tri3/tri3/RedisKeys" 65) (CH4 : Jvm.Lit.constHeld Z "com/example/tri3/tri3/RedisKeys" 67) (CH5 : Jvm.Lit.constHeld Z "com/example/tri3/tri3/RedisKeys" 69) (HC : Jvm.Lit.compactW.before a0 Z = true) :
    own_MetI l Z (⟨"com/example/tri3/tri3/RedisKeys", "tagged", "(Ljava/lang/String;Ljava/lang/String;)Ljava/lang/String;"⟩ : MethodName) prog_1_method_8_code 2 (some (.object "java/lang/String")) ws ⟨10, 13, 232, 143⟩ #[(.ref y), (.ref x)] h0 (fun vm => IB Z vm ["lock"]) (fun v vm h L => ∃ (r tr : Addr) (kr : ClassId), v = some (.ref r) ∧ Fr h0.size L ∧ Ext h0 h ∧ h0.size ≤ r ∧ h0.size ≤ tr ∧ own_STW Z h r tr kr ([116, 114, 105, 51, 58, 108, 111, 99, 107, 58, 123] ++ cs ++ [125]) ∧ IB Z vm ["}", ":{", "tri3:", "name", "lock"]) := by
  refine own_enterI (plainFor_of_name pn9) (fun m => ef_tag m y x) ?_
  intro p e s m below meth c T0 vm0 k0 hx hby hml hZ hown hnm hret hlk X0 e0 es0 hS hk hI
  have hSA : ∀ d ∈ Bundle.stringAtoms, d.before a0 Z = true := fun d hd => hw d ((by decide +kernel : ∀ d ∈ Bundle.stringAtoms, d ∈ tables_1) d hd)
  have zn : Z.heap.size ≤ h0.size := OL0.2.1
  have N0 := Fr.nil h0.size
  have KP0 : Keep h0 h0 [] := Keep.refl h0 []
  refine own_step (b := T0.setTop (mkF m 1 #[.val (.ref y), .val (.ref x)] [(.ref x)])) (fun _ qk => XS.aloadN X0.here hx rfl (hb hby d11_0) rfl rfl qk) ?_
  refine own_ldcD X0 hx hZ hown (own_w hw 63 rfl) hSA e0 hS (by omega) (by rw [es0]; exact N0) (fun q cl r => by rw [es0]; exact OL0.2.2 q cl r) hI (by decide) CH2 HC (vs := own_L [110, 97, 109, 101]) (z := Int32.ofNat 4) ⟨by decide, rfl⟩ (by decide) rfl (hb hby d11_1) 16 (by decide) (by decide) (by decide) (by decide) (fun a1 T1 h1 vm1 k1 b1 kb1 X1 e1 E1 z1 hS hk hZ hown A1 C1 F1 B1 IV1 WH1 => ?_)
  have SL1 : own_STL Z h1 a1 b1 kb1 [110, 97, 109, 101] := ⟨A1, C1, F1, B1, rfl⟩
  have KP1 : Keep h0 h1 [] := KP0.ext E1
  have OL1 := OL0.ext (own_ext KP1)
  show own_G p e below _ (T1.setTop (mkF m 3 #[.val (.ref y), .val (.ref x)] [(.ref a1), (.ref x)]))
  refine own_staticP (W := 0) (argsL := [(.ref x), (.ref a1)]) (st := []) X1 hx hZ hown (own_w hw 64 rfl) (own_w hw 65 rfl) (own_w hw 66 rfl) (own_w hw 67 rfl) (by decide) e1 (rmRnn l Z a0 hw [] x a1 h1) (by decide) (by decide) (by decide) (by decide) (by rw [hml]; rfl) (lenOf pd31 rfl) rfl (Nat.le_of_ble_eq_true rfl) (hb hby d11_3) (fun T2 X2 e2 => ?_)
  refine own_step (b := T2.setTop (mkF m 8 #[.val (.ref y), .val (.ref x)] [(.ref x)])) (fun _ qk => XT.pop X2.here hx rfl (hb hby d11_6) rfl rfl (XS.aloadN X2.here hx rfl (hb hby d11_7) rfl rfl qk)) ?_
  refine own_virtualP (a := x) (W := 0) (argsL := []) (st := []) X2 hx hZ hown (own_w hw 68 rfl) (own_w hw 69 rfl) (own_w hw 71 rfl) trivial (own_w hw 70 rfl) (by decide) e2 (SS.ext (own_ext KP1)).1 (rmEmp l Z a0 hw [] x tx kx _ _ _ h1 (SS.ext (own_ext KP1)) (by omega) (by omega)) (own_w hw 72 rfl) (own_w hw 4 rfl) (by decide) (by decide) (by decide) (by decide) (by rw [hml]; rfl) (lenOf pd10 rfl) rfl (Nat.le_of_ble_eq_true rfl) (hb hby d11_8) (fun T3 X3 e3 => ?_)
  show own_G p e below _ (T3.setTop (mkF m 11 #[.val (.ref y), .val (.ref x)] [(.int (0 : Int32))]))
  refine own_if_ne X3 hx (hb hby d11_11) (pc' := 24) (by decide) (by decide) (fun c11_4 => absurd c11_4 (by decide)) (fun c11_4 => ?_)
  refine own_step (b := T3.setTop (mkF m 16 #[.val (.ref y), .val (.ref x)] [(.int (0 : Int32)), (.ref x)])) (fun _ qk => XS.aloadN X3.here hx rfl (hb hby d11_14) rfl rfl (XS.iconst X3.here hx rfl (hb hby d11_15) qk)) ?_
  refine own_virtualP (a := x) (W := 0) (argsL := [(.int (0 : Int32))]) (st := []) X3 hx hZ hown (own_w hw 73 rfl) (own_w hw 74 rfl) (own_w hw 76 rfl) trivial (own_w hw 75 rfl) (by decide) e3 (SS.ext (own_ext KP1)).1 (rmChW l Z a0 hw [] x tx kx cs h1 (SS.ext (own_ext KP1)) hn1 (by omega) (hch _ (own_getD_mem hn1)) OL1 G1 O2 P5 G3 O4 rG3 SA1 SA2 SA3) (own_w hw 77 rfl) (own_w hw 4 rfl) (by decide) (by decide) (by decide) (by decide) (by rw [hml]; rfl) (lenOf pd32 rfl) rfl (Nat.le_of_ble_eq_true rfl) (hb hby d11_16) (fun T5 X5 e5 => ?_)
  refine own_step (b := T5.setTop (mkF m 21 #[.val (.ref y), .val (.ref x)] [(.int (125 : Int32)), (.int (cs.getD 0 0))])) (fun _ qk => XS.bipush X5.here hx rfl (hb hby d11_19) qk) ?_
  refine own_icmp_ne X5 hx (hb hby d11_21) (pc' := 65) (by decide) (by decide) (fun c21 => ?_) (fun c21 => absurd c21 hc0)
  show own_G p e below _ (T5.setTop (mkF m 65 #[.val (.ref y), .val (.ref x)] []))
  refine own_newO X5 hx hZ hown (own_w hw 39 rfl) (own_w hw 40 rfl) (own_w hw 41 rfl) e5 (hb hby d11_65) (by decide) (by decide) (fun T6 h6 a6 X6 e6 g6 l6 E6 A6 D6 => ?_)
  show own_G p e below _ (T6.setTop (mkF m 68 #[.val (.ref y), .val (.ref x)] [(.ref a6)]))
  have KP6 : Keep h0 h6 [] := KP1.ext E6
  have OL6 := OL0.ext (own_ext KP6)
  refine own_step (b := T6.setTop (mkF m 69 #[.val (.ref y), .val (.ref x)] [(.ref a6), (.ref a6)])) (fun _ qk => XS.dup X6.here hx rfl (hb hby d11_68) rfl rfl qk) ?_
  refine own_special (a := a6) (W := 1) (argsL := []) (st := [(.ref a6)]) X6 hx hZ hown rfl (own_w hw 42 rfl) (own_w hw 43 rfl) (own_w hw 44 rfl) (by decide) e6 (own_back (W := 1) (rmSi l Z a0 hw [] a6 h6 A6 (D6 (Or.inl (own_w hw 54 rfl)) (ty := (.array .byte)) (by decide)) (D6 (Or.inl (own_w hw 56 rfl)) (ty := .byte) (by decide)) (D6 (Or.inl (own_w hw 117 rfl)) (ty := .int) (by decide)) (D6 (Or.inl (own_w hw 270 rfl)) (ty := .boolean) (by decide)) h0.size (by omega) OL6 G1 O2 P5 G3 O4 rG3 SA1 SA2 SA3) hZ (own_w hw 44 rfl) (own_w hw 41 rfl) (by decide) (by decide)) (by decide) (by decide) (by rw [hml]; rfl) (lenOf pd12 rfl) rfl (Nat.le_of_ble_eq_true rfl) (hb hby d11_69) (fun v7 T7 L7 X7 hQ7 => ?_)
  obtain ⟨r7, kr7, rfl, M7, K7, g7, BB7⟩ := hQ7
  have zz7 : h6.size ≤ T7.heap.size := K7.1
  have N7 := Fr.app N0 M7
  have KP7 : Keep h0 T7.heap [] := KP6.trans K7 (allS (Or.inr (by omega)) all0)
  have OL7 := OL0.ext (own_ext KP7)
  have gr7 : h0.size ≤ r7 := by omega
  show own_G p e below _ (T7.setTop (mkF m 72 #[.val (.ref y), .val (.ref x)] [(.ref a6)]))
  refine own_ldcD X7 hx hZ hown (own_w hw 95 rfl) hSA rfl hS (by omega) (by rw [es0]; exact N7) (fun q cl r => by rw [es0]; exact OL0.2.2 q cl r) IV1 (by decide) CH3 HC (vs := own_L [116, 114, 105, 51, 58]) (z := Int32.ofNat 5) ⟨by decide, rfl⟩ (by decide) rfl (hb hby d11_72) 20 (by decide) (by decide) (by decide) (by decide) (fun a8 T8 h8 vm8 k8 b8 kb8 X8 e8 E8 z8 hS hk hZ hown A8 C8 F8 B8 IV8 WH8 => ?_)
  have SL8 : own_STL Z h8 a8 b8 kb8 [116, 114, 105, 51, 58] := ⟨A8, C8, F8, B8, rfl⟩
  have KP8 : Keep h0 h8 [] := KP7.ext E8
  have OL8 := OL0.ext (own_ext KP8)
  show own_G p e below _ (T8.setTop (mkF m 74 #[.val (.ref y), .val (.ref x)] [(.ref a8), (.ref a6)]))
  have BX9 := BB7.ext E8
  refine own_virtual (a := a6) (W := 0) (argsL := [(.ref a8)]) (st := []) X8 hx hZ hown (own_w hw 96 rfl) (own_w hw 97 rfl) (own_w hw 99 rfl) trivial (own_w hw 98 rfl) (by decide) e8 BX9.1 (own_back (W := 0) (rmSaLL l Z a0 hw [] a6 r7 kr7 16 [] a8 b8 kb8 [116, 114, 105, 51, 58] h8 BX9 SL8 (by simp only [List.length_append, List.length_cons, List.length_nil]; omega) (by decide) h0.size zn (by omega) (by omega) gr7 OL8 G1 O2 P5 G3 O4 rG3 SA1 SA2 SA3) hZ (own_w hw 100 rfl) (own_w hw 41 rfl) (by decide) (by decide)) (by decide) (by decide) (by rw [hml]; rfl) (lenOf pd33 rfl) rfl (Nat.le_of_ble_eq_true rfl) (hb hby d11_74) (fun v10 T10 L10 X10 hQ10 => ?_)
  obtain ⟨r10, kr10, rfl, M10, K10, g10, BB10⟩ := hQ10
  have zz10 : h8.size ≤ T10.heap.size := K10.1
  have N10 := Fr.app N7 M10
  have KP10 : Keep h0 T10.heap [] := KP8.trans K10 (allS (Or.inr (by omega)) (allS (Or.inr gr7) all0))
  have OL10 := OL0.ext (own_ext KP10)
  have BC10 : own_SBL Z T10.heap a6 r10 kr10 16 [116, 114, 105, 51, 58] := BB10
  refine own_step (b := T10.setTop (mkF m 78 #[.val (.ref y), .val (.ref x)] [(.ref y), (.ref a6)])) (fun _ qk => XS.aloadN X10.here hx rfl (hb hby d11_77) rfl rfl qk) ?_
  refine own_virtual (a := a6) (W := 0) (argsL := [(.ref y)]) (st := []) X10 hx hZ hown (own_w hw 96 rfl) (own_w hw 97 rfl) (own_w hw 99 rfl) trivial (own_w hw 98 rfl) (by decide) rfl BC10.1 (own_back (W := 0) (rmSaLL l Z a0 hw [] a6 r10 kr10 16 [116, 114, 105, 51, 58] y ty ky [108, 111, 99, 107] T10.heap BC10 (SK.ext (own_ext KP10)) (by simp only [List.length_append, List.length_cons, List.length_nil]; omega) (by decide) h0.size zn (by omega) (by omega) g10 OL10 G1 O2 P5 G3 O4 rG3 SA1 SA2 SA3) hZ (own_w hw 100 rfl) (own_w hw 41 rfl) (by decide) (by decide)) (by decide) (by decide) (by rw [hml]; rfl) (lenOf pd33 rfl) rfl (Nat.le_of_ble_eq_true rfl) (hb hby d11_78) (fun v11 T11 L11 X11 hQ11 => ?_)
  obtain ⟨r11, kr11, rfl, M11, K11, g11, BB11⟩ := hQ11
  have zz11 : T10.heap.size ≤ T11.heap.size := K11.1
  have N11 := Fr.app N10 M11
  have KP11 : Keep h0 T11.heap [] := KP10.trans K11 (allS (Or.inr (by omega)) (allS (Or.inr g10) all0))
  have OL11 := OL0.ext (own_ext KP11)
  have BC11 : own_SBL Z T11.heap a6 r11 kr11 16 [116, 114, 105, 51, 58, 108, 111, 99, 107] := BB11
  show own_G p e below _ (T11.setTop (mkF m 81 #[.val (.ref y), .val (.ref x)] [(.ref a6)]))
  refine own_ldcD X11 hx hZ hown (own_w hw 143 rfl) hSA rfl hS (by omega) (by rw [es0]; exact N11) (fun q cl r => by rw [es0]; exact OL0.2.2 q cl r) IV8 (by decide) CH4 HC (vs := own_L [58, 123]) (z := Int32.ofNat 2) ⟨by decide, rfl⟩ (by decide) rfl (hb hby d11_81) 8 (by decide) (by decide) (by decide) (by decide) (fun a12 T12 h12 vm12 k12 b12 kb12 X12 e12 E12 z12 hS hk hZ hown A12 C12 F12 B12 IV12 WH12 => ?_)
  have SL12 : own_STL Z h12 a12 b12 kb12 [58, 123] := ⟨A12, C12, F12, B12, rfl⟩
  have KP12 : Keep h0 h12 [] := KP11.ext E12
  have OL12 := OL0.ext (own_ext KP12)
  show own_G p e below _ (T12.setTop (mkF m 83 #[.val (.ref y), .val (.ref x)] [(.ref a12), (.ref a6)]))
  have BX13 := BC11.ext E12
  refine own_virtual (a := a6) (W := 0) (argsL := [(.ref a12)]) (st := []) X12 hx hZ hown (own_w hw 96 rfl) (own_w hw 97 rfl) (own_w hw 99 rfl) trivial (own_w hw 98 rfl) (by decide) e12 BX13.1 (own_back (W := 0) (rmSaLL l Z a0 hw [] a6 r11 kr11 16 [116, 114, 105, 51, 58, 108, 111, 99, 107] a12 b12 kb12 [58, 123] h12 BX13 SL12 (by simp only [List.length_append, List.length_cons, List.length_nil]; omega) (by decide) h0.size zn (by omega) (by omega) g11 OL12 G1 O2 P5 G3 O4 rG3 SA1 SA2 SA3) hZ (own_w hw 100 rfl) (own_w hw 41 rfl) (by decide) (by decide)) (by decide) (by decide) (by rw [hml]; rfl) (lenOf pd33 rfl) rfl (Nat.le_of_ble_eq_true rfl) (hb hby d11_83) (fun v14 T14 L14 X14 hQ14 => ?_)
  obtain ⟨r14, kr14, rfl, M14, K14, g14, BB14⟩ := hQ14
  have zz14 : h12.size ≤ T14.heap.size := K14.1
  have N14 := Fr.app N11 M14
  have KP14 : Keep h0 T14.heap [] := KP12.trans K14 (allS (Or.inr (by omega)) (allS (Or.inr g11) all0))
  have OL14 := OL0.ext (own_ext KP14)
  have BC14 : own_SBL Z T14.heap a6 r14 kr14 16 [116, 114, 105, 51, 58, 108, 111, 99, 107, 58, 123] := BB14
  refine own_step (b := T14.setTop (mkF m 87 #[.val (.ref y), .val (.ref x)] [(.ref x), (.ref a6)])) (fun _ qk => XS.aloadN X14.here hx rfl (hb hby d11_86) rfl rfl qk) ?_
  refine own_virtual (a := a6) (W := 0) (argsL := [(.ref x)]) (st := []) X14 hx hZ hown (own_w hw 96 rfl) (own_w hw 97 rfl) (own_w hw 99 rfl) trivial (own_w hw 98 rfl) (by decide) rfl BC14.1 (own_back (W := 0) (rmSaLW l Z a0 hw [] a6 r14 kr14 16 [116, 114, 105, 51, 58, 108, 111, 99, 107, 58, 123] x tx kx cs T14.heap BC14 (SS.ext (own_ext KP14)) (by simp only [List.length_append, List.length_cons, List.length_nil]; omega) (by decide) (by decide) h0.size zn (by omega) (by omega) g14 OL14 G1 O2 P5 G3 O4 rG3 SA1 SA2 SA3) hZ (own_w hw 100 rfl) (own_w hw 41 rfl) (by decide) (by decide)) (by decide) (by decide) (by rw [hml]; rfl) (lenOf pd33 rfl) rfl (Nat.le_of_ble_eq_true rfl) (hb hby d11_87) (fun v15 T15 L15 X15 hQ15 => ?_)
  obtain ⟨r15, kr15, rfl, M15, K15, g15, BB15⟩ := hQ15
  have zz15 : T14.heap.size ≤ T15.heap.size := K15.1
  have N15 := Fr.app N14 M15
  have KP15 : Keep h0 T15.heap [] := KP14.trans K15 (allS (Or.inr (by omega)) (allS (Or.inr g14) all0))
  have OL15 := OL0.ext (own_ext KP15)
  have BC15 : own_SBW Z T15.heap a6 r15 kr15 16 ([116, 114, 105, 51, 58, 108, 111, 99, 107, 58, 123] ++ cs) := BB15
  show own_G p e below _ (T15.setTop (mkF m 90 #[.val (.ref y), .val (.ref x)] [(.ref a6)]))
  refine own_ldcD X15 hx hZ hown (own_w hw 144 rfl) hSA rfl hS (by omega) (by rw [es0]; exact N15) (fun q cl r => by rw [es0]; exact OL0.2.2 q cl r) IV12 (by decide) CH5 HC (vs := own_L [125]) (z := Int32.ofNat 1) ⟨by decide, rfl⟩ (by decide) rfl (hb hby d11_90) 4 (by decide) (by decide) (by decide) (by decide) (fun a16 T16 h16 vm16 k16 b16 kb16 X16 e16 E16 z16 hS hk hZ hown A16 C16 F16 B16 IV16 WH16 => ?_)
  have SL16 : own_STL Z h16 a16 b16 kb16 [125] := ⟨A16, C16, F16, B16, rfl⟩
  have KP16 : Keep h0 h16 [] := KP15.ext E16
  have OL16 := OL0.ext (own_ext KP16)
  show own_G p e below _ (T16.setTop (mkF m 92 #[.val (.ref y), .val (.ref x)] [(.ref a16), (.ref a6)]))
  have lt16 : @LT.lt Nat instLTNat r15 T15.heap.size := BC15.2.2.2.2.2.1.lt
  have gt16 : h0.size ≤ r15 := g15
  have ne16 : b16 ≠ r15 := own_ne (by rw [es0] at WH16; rcases WH16 with ⟨_, q⟩ | ⟨_, q⟩; exact Or.inl (by omega); exact Or.inr (by omega))
  have BX17 := BC15.ext E16
  refine own_virtual (a := a6) (W := 0) (argsL := [(.ref a16)]) (st := []) X16 hx hZ hown (own_w hw 96 rfl) (own_w hw 97 rfl) (own_w hw 99 rfl) trivial (own_w hw 98 rfl) (by decide) e16 BX17.1 (own_back (W := 0) (rmSaWL l Z a0 hw [] a6 r15 kr15 16 ([116, 114, 105, 51, 58, 108, 111, 99, 107, 58, 123] ++ cs) a16 b16 kb16 [125] h16 BX17 SL16 (by simp only [List.length_append, List.length_cons, List.length_nil]; omega) (by decide) (by decide) ne16 h0.size zn (by omega) (by omega) g15 OL16 G1 O2 P5 G3 O4 rG3 SA1 SA2 SA3) hZ (own_w hw 100 rfl) (own_w hw 41 rfl) (by decide) (by decide)) (by decide) (by decide) (by rw [hml]; rfl) (lenOf pd33 rfl) rfl (Nat.le_of_ble_eq_true rfl) (hb hby d11_92) (fun v18 T18 L18 X18 hQ18 => ?_)
  obtain ⟨r18, kr18, rfl, M18, K18, g18, BB18⟩ := hQ18
  have zz18 : h16.size ≤ T18.heap.size := K18.1
  have N18 := Fr.app N15 M18
  have KP18 : Keep h0 T18.heap [] := KP16.trans K18 (allS (Or.inr (by omega)) (allS (Or.inr g15) all0))
  have OL18 := OL0.ext (own_ext KP18)
  have BC18 : own_SBW Z T18.heap a6 r18 kr18 16 ([116, 114, 105, 51, 58, 108, 111, 99, 107, 58, 123] ++ cs ++ [125]) := BB18
  show own_G p e below _ (T18.setTop (mkF m 95 #[.val (.ref y), .val (.ref x)] [(.ref a6)]))
  refine own_virtual (a := a6) (W := 0) (argsL := []) (st := []) X18 hx hZ hown (own_w hw 145 rfl) (own_w hw 146 rfl) (own_w hw 148 rfl) trivial (own_w hw 147 rfl) (by decide) rfl BC18.1 (own_back (W := 0) (rmTsW l Z a0 hw [] a6 r18 kr18 16 ([116, 114, 105, 51, 58, 108, 111, 99, 107, 58, 123] ++ cs ++ [125]) T18.heap BC18 (by simp only [List.length_append, List.length_cons, List.length_nil]; omega) (by decide) h0.size (by omega) OL18 G1 O2 P5 G3 O4 rG3 SA1 SA2 SA3) hZ (own_w hw 149 rfl) (own_w hw 41 rfl) (by decide) (by decide)) (by decide) (by decide) (by rw [hml]; rfl) (lenOf pd34 rfl) rfl (Nat.le_of_ble_eq_true rfl) (hb hby d11_95) (fun v19 T19 L19 X19 hQ19 => ?_)
  obtain ⟨x19, r19, kr19, rfl, M19, E19, g19, gg19, SS19⟩ := hQ19
  have zz19 : T18.heap.size ≤ T19.heap.size := E19.1
  show own_G p e below _ (T19.setTop (mkF m 98 #[.val (.ref y), .val (.ref x)] [(.ref x19)]))
  exact own_retXR X19 hx hS (by omega) hret rfl rfl rfl hlk (hb hby d11_98) ⟨x19, r19, kr19, rfl, Fr.app N18 M19, own_ext (KP18.ext E19), by omega, by omega, SS19, own_IBw IV16 X19.warmed⟩ (by decide) (by decide)
theorem rmLkW (l : Launch) (Z : State) (a0 : Array Value) (hw : ∀ d ∈ tables_1, d.before a0 Z = true) (ws : List Jvm.Cond) (x tx : Addr) (kx : ClassId) (cs : List Int32) (h0 : Heap) (SS : own_STW Z h0 x tx kx cs) (hn1 : 0 < cs.length) (hn3 : cs.length ≤ 3) (hc0 : ¬ cs.getD 0 0 = (125 : Int32)) (hch : ∀ c ∈ cs, own_C c) (hex : ∃ c ∈ cs, (255 : Int32) < c) (OL0 : Old Z Z.heap.size h0) (G1 : Int32) (O2 : Sta Z Z.heap "java/lang/String" "COMPACT_STRINGS" "Z" (.int G1)) (P5 : ¬ (G1 = (0 : Int32))) (G3 : Value) (O4 : Sta Z Z.heap "jdk/internal/util/Preconditions" "SIOOBE_FORMATTER" "Ljava/util/function/BiFunction;" G3) (rG3 : G3.isRef = true) (SA1 : Sta Z Z.heap "java/lang/StringUTF16" "$assertionsDisabled" "Z" (.int 1)) (SA2 : Sta Z Z.heap "java/lang/StringUTF16" "HI_BYTE_SHIFT" "I" (.int 0)) (SA3 : Sta Z Z.heap "java/lang/StringUTF16" "LO_BYTE_SHIFT" "I" (.int 8)) (CH0 : Jvm.Lit.constHeld Z "com/example/tri3/tri3/RedisKeys" 7) (CH1 : Jvm.Lit.constHeld Z "com/example/tri3/tri3/RedisKeys" 28) (CH2 : Jvm.Lit.constHeld Z "com/example/tri3/tri3/RedisKeys" 36) (CH3 : Jvm.Lit.constHeld Z "com/example/tri3/tri3/RedisKeys" 65) (CH4 : Jvm.Lit.constHeld Z "com/example/tri3/tri3/RedisKeys" 67) (CH5 : Jvm.Lit.constHeld Z "com/example/tri3/tri3/RedisKeys" 69) (HC : Jvm.Lit.compactW.before a0 Z = true) :
    own_MetI l Z (⟨"com/example/tri3/tri3/RedisKeys", "lockToken", "(Ljava/lang/String;)Ljava/lang/String;"⟩ : MethodName) prog_1_method_4_code 1 (some (.object "java/lang/String")) ws ⟨11, 23, 520, 157⟩ #[(.ref x)] h0 (fun vm => IB Z vm []) (fun v vm h L => ∃ (r tr : Addr) (kr : ClassId), v = some (.ref r) ∧ Fr h0.size L ∧ Ext h0 h ∧ own_STW Z h r tr kr ([116, 114, 105, 51, 58, 108, 111, 99, 107, 58, 123] ++ cs ++ [125] ++ [58, 116, 111, 107, 101, 110])) := by
  refine own_enterI (plainFor_of_name pn9) (fun m => ef_lkt m x) ?_
  intro p e s m below meth c T0 vm0 k0 hx hby hml hZ hown hnm hret hlk X0 e0 es0 hS hk hI
  have hSA : ∀ d ∈ Bundle.stringAtoms, d.before a0 Z = true := fun d hd => hw d ((by decide +kernel : ∀ d ∈ Bundle.stringAtoms, d ∈ tables_1) d hd)
  have zn : Z.heap.size ≤ h0.size := OL0.2.1
  have N0 := Fr.nil h0.size
  have KP0 : Keep h0 h0 [] := Keep.refl h0 []
  show own_G p e below _ (T0.setTop (mkF m 0 #[.val (.ref x)] []))
  refine own_newO X0 hx hZ hown (own_w hw 39 rfl) (own_w hw 40 rfl) (own_w hw 41 rfl) e0 (hb hby d8_0) (by decide) (by decide) (fun T1 h1 a1 X1 e1 g1 l1 E1 A1 D1 => ?_)
  show own_G p e below _ (T1.setTop (mkF m 3 #[.val (.ref x)] [(.ref a1)]))
  have KP1 : Keep h0 h1 [] := KP0.ext E1
  have OL1 := OL0.ext (own_ext KP1)
  refine own_step (b := T1.setTop (mkF m 4 #[.val (.ref x)] [(.ref a1), (.ref a1)])) (fun _ qk => XS.dup X1.here hx rfl (hb hby d8_3) rfl rfl qk) ?_
  refine own_special (a := a1) (W := 1) (argsL := []) (st := [(.ref a1)]) X1 hx hZ hown rfl (own_w hw 42 rfl) (own_w hw 43 rfl) (own_w hw 44 rfl) (by decide) e1 (own_back (W := 1) (rmSi l Z a0 hw [] a1 h1 A1 (D1 (Or.inl (own_w hw 54 rfl)) (ty := (.array .byte)) (by decide)) (D1 (Or.inl (own_w hw 56 rfl)) (ty := .byte) (by decide)) (D1 (Or.inl (own_w hw 117 rfl)) (ty := .int) (by decide)) (D1 (Or.inl (own_w hw 270 rfl)) (ty := .boolean) (by decide)) h0.size (by omega) OL1 G1 O2 P5 G3 O4 rG3 SA1 SA2 SA3) hZ (own_w hw 44 rfl) (own_w hw 41 rfl) (by decide) (by decide)) (by decide) (by decide) (by rw [hml]; rfl) (lenOf pd12 rfl) rfl (Nat.le_of_ble_eq_true rfl) (hb hby d8_4) (fun v2 T2 L2 X2 hQ2 => ?_)
  obtain ⟨r2, kr2, rfl, M2, K2, g2, BB2⟩ := hQ2
  have zz2 : h1.size ≤ T2.heap.size := K2.1
  have N2 := Fr.app N0 M2
  have KP2 : Keep h0 T2.heap [] := KP1.trans K2 (allS (Or.inr (by omega)) all0)
  have OL2 := OL0.ext (own_ext KP2)
  have gr2 : h0.size ≤ r2 := by omega
  show own_G p e below _ (T2.setTop (mkF m 7 #[.val (.ref x)] [(.ref a1)]))
  refine own_ldcD X2 hx hZ hown (own_w hw 57 rfl) hSA rfl hS (by omega) (by rw [es0]; exact N2) (fun q cl r => by rw [es0]; exact OL0.2.2 q cl r) hI (by decide) CH0 HC (vs := own_L [108, 111, 99, 107]) (z := Int32.ofNat 4) ⟨by decide, rfl⟩ (by decide) rfl (hb hby d8_7) 16 (by decide) (by decide) (by decide) (by decide) (fun a3 T3 h3 vm3 k3 b3 kb3 X3 e3 E3 z3 hS hk hZ hown A3 C3 F3 B3 IV3 WH3 => ?_)
  have SL3 : own_STL Z h3 a3 b3 kb3 [108, 111, 99, 107] := ⟨A3, C3, F3, B3, rfl⟩
  have KP3 : Keep h0 h3 [] := KP2.ext E3
  have OL3 := OL0.ext (own_ext KP3)
  show own_G p e below _ (T3.setTop (mkF m 9 #[.val (.ref x)] [(.ref a3), (.ref a1)]))
  have BX4 := BB2.ext E3
  refine own_step (b := T3.setTop (mkF m 10 #[.val (.ref x)] [(.ref x), (.ref a3), (.ref a1)])) (fun _ qk => XS.aloadN X3.here hx rfl (hb hby d8_9) rfl rfl qk) ?_
  refine own_staticI (W := 1) (argsL := [(.ref a3), (.ref x)]) (st := [(.ref a1)]) X3 hx hZ hown (own_w hw 60 rfl) (own_w hw 61 rfl) (own_w hw 37 rfl) (own_w hw 62 rfl) (by decide) e3 hS (by omega) (rmTagW l Z a0 hw [] a3 b3 kb3 x tx kx cs h3 SL3 (SS.ext (own_ext KP3)) hn1 hn3 hc0 hch hex OL3 G1 O2 P5 G3 O4 rG3 SA1 SA2 SA3 CH0 CH1 CH2 CH3 CH4 CH5 HC) (fun _ hW => own_IBw IV3 hW) (by decide) (by decide) (by decide) (by decide) (by rw [hml]; rfl) (lenOf pd35 rfl) rfl (Nat.le_of_ble_eq_true rfl) (hb hby d8_10) (fun v5 T5 L5 vm5 k5 X5 ev5 z5 hS hk hZ hown hQ5 => ?_)
  obtain ⟨r5, tr5, kr5, rfl, M5, E5, g5, gg5, ST5, IV5⟩ := hQ5
  have N5 := Fr.app N2 (fun y hy => Nat.le_trans (by omega : h0.size ≤ h3.size) (M5 y hy))
  have KP5 : Keep h0 T5.heap [] := KP3.ext E5
  have OL5 := OL0.ext (own_ext KP5)
  have BX6 := BX4.ext E5
  show own_G p e below _ (T5.setTop (mkF m 13 #[.val (.ref x)] [(.ref r5), (.ref a1)]))
  refine own_virtual (a := a1) (W := 0) (argsL := [(.ref r5)]) (st := []) X5 hx hZ hown (own_w hw 96 rfl) (own_w hw 97 rfl) (own_w hw 99 rfl) trivial (own_w hw 98 rfl) (by decide) rfl BX6.1 (own_back (W := 0) (rmSaLW l Z a0 hw [] a1 r2 kr2 16 [] r5 tr5 kr5 ([116, 114, 105, 51, 58, 108, 111, 99, 107, 58, 123] ++ cs ++ [125]) T5.heap BX6 ST5 (by simp only [List.length_append, List.length_cons, List.length_nil]; omega) (by decide) (by decide) h0.size zn (by omega) (by omega) gr2 OL5 G1 O2 P5 G3 O4 rG3 SA1 SA2 SA3) hZ (own_w hw 100 rfl) (own_w hw 41 rfl) (by decide) (by decide)) (by decide) (by decide) (by rw [hml]; rfl) (lenOf pd33 rfl) rfl (Nat.le_of_ble_eq_true rfl) (hb hby d8_13) (fun v7 T7 L7 X7 hQ7 => ?_)
  obtain ⟨r7, kr7, rfl, M7, K7, g7, BB7⟩ := hQ7
  have zz7 : T5.heap.size ≤ T7.heap.size := K7.1
  have N7 := Fr.app N5 M7
  have KP7 : Keep h0 T7.heap [] := KP5.trans K7 (allS (Or.inr (by omega)) (allS (Or.inr gr2) all0))
  have OL7 := OL0.ext (own_ext KP7)
  have BC7 : own_SBW Z T7.heap a1 r7 kr7 16 ([116, 114, 105, 51, 58, 108, 111, 99, 107, 58, 123] ++ cs ++ [125]) := BB7
  show own_G p e below _ (T7.setTop (mkF m 16 #[.val (.ref x)] [(.ref a1)]))
  refine own_ldcD X7 hx hZ hown (own_w hw 190 rfl) hSA rfl hS (by omega) (by rw [es0]; exact N7) (fun q cl r => by rw [es0]; exact OL0.2.2 q cl r) IV5 (by decide) CH1 HC (vs := own_L [58, 116, 111, 107, 101, 110]) (z := Int32.ofNat 6) ⟨by decide, rfl⟩ (by decide) rfl (hb hby d8_16) 24 (by decide) (by decide) (by decide) (by decide) (fun a8 T8 h8 vm8 k8 b8 kb8 X8 e8 E8 z8 hS hk hZ hown A8 C8 F8 B8 IV8 WH8 => ?_)
  have SL8 : own_STL Z h8 a8 b8 kb8 [58, 116, 111, 107, 101, 110] := ⟨A8, C8, F8, B8, rfl⟩
  have KP8 : Keep h0 h8 [] := KP7.ext E8
  have OL8 := OL0.ext (own_ext KP8)
  show own_G p e below _ (T8.setTop (mkF m 18 #[.val (.ref x)] [(.ref a8), (.ref a1)]))
  have lt8 : @LT.lt Nat instLTNat r7 T7.heap.size := BC7.2.2.2.2.2.1.lt
  have gt8 : h0.size ≤ r7 := g7
  have ne8 : b8 ≠ r7 := own_ne (by rw [es0] at WH8; rcases WH8 with ⟨_, q⟩ | ⟨_, q⟩; exact Or.inl (by omega); exact Or.inr (by omega))
  have BX9 := BC7.ext E8
  refine own_virtual (a := a1) (W := 0) (argsL := [(.ref a8)]) (st := []) X8 hx hZ hown (own_w hw 96 rfl) (own_w hw 97 rfl) (own_w hw 99 rfl) trivial (own_w hw 98 rfl) (by decide) e8 BX9.1 (own_back (W := 0) (rmSaWLg l Z a0 hw [] a1 r7 kr7 ([116, 114, 105, 51, 58, 108, 111, 99, 107, 58, 123] ++ cs ++ [125]) a8 b8 kb8 [58, 116, 111, 107, 101, 110] h8 BX9 SL8 (by simp only [List.length_append, List.length_cons, List.length_nil]; omega) (by simp only [List.length_append, List.length_cons, List.length_nil]; omega) (by simp only [List.length_append, List.length_cons, List.length_nil]; omega) (by decide) ne8 h0.size zn (by omega) (by omega) g7 OL8 G1 O2 P5 G3 O4 rG3 SA1 SA2 SA3) hZ (own_w hw 100 rfl) (own_w hw 41 rfl) (by decide) (by decide)) (by decide) (by decide) (by rw [hml]; rfl) (lenOf pd33 rfl) rfl (Nat.le_of_ble_eq_true rfl) (hb hby d8_18) (fun v10 T10 L10 X10 hQ10 => ?_)
  obtain ⟨r10, kr10, rfl, M10, K10, g10, BB10⟩ := hQ10
  have zz10 : h8.size ≤ T10.heap.size := K10.1
  have N10 := Fr.app N7 M10
  have KP10 : Keep h0 T10.heap [] := KP8.trans K10 (allS (Or.inr (by omega)) (allS (Or.inr g7) all0))
  have OL10 := OL0.ext (own_ext KP10)
  have BC10 : own_SBW Z T10.heap a1 r10 kr10 34 (([116, 114, 105, 51, 58, 108, 111, 99, 107, 58, 123] ++ cs ++ [125]) ++ [58, 116, 111, 107, 101, 110]) := BB10
  show own_G p e below _ (T10.setTop (mkF m 21 #[.val (.ref x)] [(.ref a1)]))
  refine own_virtual (a := a1) (W := 0) (argsL := []) (st := []) X10 hx hZ hown (own_w hw 145 rfl) (own_w hw 146 rfl) (own_w hw 148 rfl) trivial (own_w hw 147 rfl) (by decide) rfl BC10.1 (own_back (W := 0) (rmTsW l Z a0 hw [] a1 r10 kr10 34 (([116, 114, 105, 51, 58, 108, 111, 99, 107, 58, 123] ++ cs ++ [125]) ++ [58, 116, 111, 107, 101, 110]) T10.heap BC10 (by simp only [List.length_append, List.length_cons, List.length_nil]; omega) (by decide) h0.size (by omega) OL10 G1 O2 P5 G3 O4 rG3 SA1 SA2 SA3) hZ (own_w hw 149 rfl) (own_w hw 41 rfl) (by decide) (by decide)) (by decide) (by decide) (by rw [hml]; rfl) (lenOf pd34 rfl) rfl (Nat.le_of_ble_eq_true rfl) (hb hby d8_21) (fun v11 T11 L11 X11 hQ11 => ?_)
  obtain ⟨x11, r11, kr11, rfl, M11, E11, g11, gg11, SS11⟩ := hQ11
  have zz11 : T10.heap.size ≤ T11.heap.size := E11.1
  show own_G p e below _ (T11.setTop (mkF m 24 #[.val (.ref x)] [(.ref x11)]))
  exact own_retXR X11 hx hS (by omega) hret rfl rfl rfl hlk (hb hby d8_24) ⟨x11, r11, kr11, rfl, Fr.app N10 M11, own_ext (KP10.ext E11), SS11⟩ (by decide) (by decide)
theorem own_n3 (x : Int32) : ((x &&& (2147483647 : Int32)) % (3 : Int32)) + (1 : Int32) = 1 ∨ ((x &&& (2147483647 : Int32)) % (3 : Int32)) + (1 : Int32) = 2 ∨ ((x &&& (2147483647 : Int32)) % (3 : Int32)) + (1 : Int32) = 3 := by
  have h : (x &&& (2147483647 : Int32)).toBitVec.toNat < 2 ^ 31 := by
    simp only [Int32.toBitVec_and, BitVec.toNat_and]
    exact Nat.lt_of_le_of_lt Nat.and_le_right (by decide)
  have e : (x &&& (2147483647 : Int32)) = Int32.ofNat (x &&& (2147483647 : Int32)).toBitVec.toNat := by
    apply Int32.toBitVec_inj.mp
    show _ = BitVec.ofNat 32 _
    rw [BitVec.ofNat_toNat]; simp
  rw [e]
  generalize (x &&& (2147483647 : Int32)).toBitVec.toNat = k at h
  have r : Int32.ofNat k % (3 : Int32) = Int32.ofNat (k % 3) := by
    apply Int32.toInt_inj.mp
    rw [Int32.toInt_mod, Int32.toInt_ofNat_small h, Int32.toInt_ofNat_small (by omega)]
    have e3 : (3 : Int32).toInt = 3 := rfl
    rw [e3]
    exact (Int.ofNat_tmod k 3).symm
  rw [r]
  have q : k % 3 = 0 ∨ k % 3 = 1 ∨ k % 3 = 2 := by omega
  rcases q with q | q | q <;> rw [q]
  · exact Or.inl (by decide)
  · exact Or.inr (Or.inl (by decide))
  · exact Or.inr (Or.inr (by decide))
theorem own_i2c (x : Int32) : own_C (x.toUInt32.toUInt16.toUInt32.toInt32) := by
  have e : x.toUInt32.toUInt16.toUInt32.toInt32 = Int32.ofNat x.toUInt32.toUInt16.toNat := by
    apply Int32.toBitVec_inj.mp
    apply BitVec.eq_of_toNat_eq
    show x.toUInt32.toUInt16.toUInt32.toNat = (BitVec.ofNat 32 x.toUInt32.toUInt16.toNat).toNat
    rw [UInt16.toNat_toUInt32, BitVec.toNat_ofNat]
    have := x.toUInt32.toUInt16.toNat_lt
    omega
  have h := x.toUInt32.toUInt16.toNat_lt
  rw [e]
  exact ⟨own_nn (by omega), by rw [show (65535 : Int32) = Int32.ofNat 65535 from rfl, own_ofNat_lt (by decide) (by omega)]; omega⟩
theorem own_all {P : Int32 → Prop} {A cs B D : List Int32} (hA : ∀ c ∈ A, P c) (hc : ∀ c ∈ cs, P c) (hB : ∀ c ∈ B, P c) (hD : ∀ c ∈ D, P c) : ∀ c ∈ A ++ cs ++ B ++ D, P c := fun c h => by
  rcases List.mem_append.mp h with h | h
  · rcases List.mem_append.mp h with h | h
    · rcases List.mem_append.mp h with h | h
      · exact hA c h
      · exact hc c h
    · exact hB c h
  · exact hD c h
theorem own_exi {P : Int32 → Prop} {A cs B D : List Int32} (h : ∃ c ∈ cs, P c) : ∃ c ∈ A ++ cs ++ B ++ D, P c := by
  obtain ⟨c, hc, q⟩ := h
  exact ⟨c, by simp [hc], q⟩
theorem own_w1 {c : Int32} (h : ¬ c < 0 ∧ ¬ (255 : Int32) < c) : own_C c := ⟨h.1, fun q => h.2 (by rw [Int32.lt_iff_toInt_lt] at q ⊢; have e1 : (65535 : Int32).toInt = 65535 := rfl; have e2 : (255 : Int32).toInt = 255 := rfl; omega)⟩
theorem own_a0 {P : Int32 → Prop} : ∀ x ∈ ([] : List Int32), P x := fun _ q => nomatch q
theorem own_aS {P : Int32 → Prop} {y : Int32} {L : List Int32} (q : P y) (r : ∀ x ∈ L, P x) : ∀ x ∈ y :: L, P x := fun x z => (List.mem_cons.mp z).elim (fun u => u ▸ q) (r x)
theorem own_eqT {p : Program} {l : Launch} {e : Env} {R : Room} {s : State} {args : Array Value} {below : List Frame} {W : Nat} {Z : State} {a0 : Array Value} {h : Heap} (hZ : Z.Warmed39 s.vm) (hw : ∀ d ∈ tables_1, d.before a0 Z = true) {kI : Nat} (wi : (Jvm.Cond.instantiable "java/lang/String" kI).before a0 Z = true) {x t y t' : Addr} {kb kb' : ClassId} {co : Int32} {N : Nat} {vs : List Value} {cs : List Int32} (S1 : own_ST Z h x t kb co N vs) (S2 : own_ST Z h y t' kb' co N vs) (hc : StrChars.Road.CodA cs co (Int32.ofNat N) vs) (hb : ∀ c ∈ cs, own_C c) (hl : cs.length ≤ 4000)
    {G1 : Int32} (O2 : Sta Z Z.heap "java/lang/String" "COMPACT_STRINGS" "Z" (.int G1)) (P5 : ¬ (G1 = (0 : Int32))) (OL : Old Z Z.heap.size h) (hfr : 2 ≤ R.frames) (hlo : W + 28 ≤ R.locals) :
    own_B l R p e below s args (⟨"java/lang/String", "equals", "(Ljava/lang/Object;)Z"⟩ : MethodName) W #[.ref x, .ref y] h 0 0 (own_P (some (.int (1 : Int32))) h) := by
  refine Back.mono (StrChars.Road.eqW (p := p) (l := l) (e := e) (R := R) (s := s) (args := args) (below := below) (len := 3) (W := W) hZ (fun d hd => hw d ((by decide +kernel : ∀ d ∈ StrChars.Road.wordsEq, d ∈ tables_1) d hd)) wi S1.1 S1.2.2.1 S1.2.1 S1.2.2.2.1 hc hb hl S2.1 S2.2.2.1 S2.2.1 S2.2.2.2.1 hc hb hl (O2.ext OL.2) P5 hfr hlo) (fun _ _ q => q) ?_
  rintro A a v B - ⟨L, ⟨hv, hL, hh⟩, r⟩
  refine ⟨L, ⟨?_, hL, hh⟩, r⟩
  rcases hv with ⟨rfl, q⟩ | ⟨rfl, q⟩
  · rfl
  · exact absurd rfl q

theorem ef_exp (m : MethodId) (x y z n : Int32) : entryFrame m #[(.int x), (.int y), (.int z), (.int n)] 5 = mkF m 0 #[.val (.int x), .val (.int y), .val (.int z), .val (.int n), .unset] [] := by first | (simp [entryFrame, mkF, argsToLocals, Value.category, maxLocals]; done) | rfl
theorem rmExp1 (l : Launch) (Z : State) (a0 : Array Value) (hw : ∀ d ∈ tables_1, d.before a0 Z = true) (ws : List Jvm.Cond) (c0 c1 c2 : Int32) (h0 : Heap) (hc0 : own_C c0) (hc1 : own_C c1) (hc2 : own_C c2) :
    own_Met l Z (⟨"com/example/tri3/tri3/RedisKeysLockTokenPinLaw", "expected", "(CCCI)[C"⟩ : MethodName) method_3_code 5 (some (.array .char)) ws ⟨0, 1, 19, 0⟩ #[(.int c0), (.int c1), (.int c2), (.int (1 : Int32))] h0 (fun v h L => ∃ (r : Addr) (kr : ClassId), v = some (.ref r) ∧ Fr h0.size L ∧ Ext h0 h ∧ h0.size ≤ r ∧ Arv Z h r kr .char (Int32.ofNat 19) (([116, 114, 105, 51, 58, 108, 111, 99, 107, 58, 123] ++ [c0] ++ [125] ++ [58, 116, 111, 107, 101, 110]).map Value.int) (.int 0)) := by
  refine own_enter (plainFor_of_name pn10) (fun m => ef_exp m c0 c1 c2 (1 : Int32)) ?_
  intro p e s m below meth c T0 hx hby hml hZ hown hnm hret hlk X0 e0
  have N0 := Fr.nil h0.size
  refine own_step (b := T0.setTop (mkF m 4 #[.val (.int c0), .val (.int c1), .val (.int c2), .val (.int (1 : Int32)), .unset] [(.int (19 : Int32))])) (fun _ qk => XS.bipush X0.here hx rfl (hb hby d7_0) (XS.iloadN X0.here hx rfl (hb hby d7_2) rfl (XS.iadd X0.here hx rfl (hb hby d7_3) rfl qk))) ?_
  refine own_newP X0 hx hZ (own_w hw 1 rfl) e0 (hb hby d7_4) (n := (19 : Int32)) (by decide) 19 (by decide) (by decide) (by decide) (by decide) (fun T1 h1 a1 k1 X1 e1 g1 l1 E1 V1 => ?_)
  have V1' : Arv Z h1 a1 k1 .char (19 : Int32) [.int 0, .int 0, .int 0, .int 0, .int 0, .int 0, .int 0, .int 0, .int 0, .int 0, .int 0, .int 0, .int 0, .int 0, .int 0, .int 0, .int 0, .int 0, .int 0] (.int 0) := V1
  show own_G p e below _ (T1.setTop (mkF m 6 #[.val (.int c0), .val (.int c1), .val (.int c2), .val (.int (1 : Int32)), .unset] [(.ref a1)]))
  have KQ1 := (Keep.refl h0 []).ext E1
  refine own_step (b := T1.setTop (mkF m 13 #[.val (.int c0), .val (.int c1), .val (.int c2), .val (.int (1 : Int32)), .val (.ref a1)] [(.int (116 : Int32)), (.int (0 : Int32)), (.ref a1)])) (fun _ qk => XS.astore X1.here hx rfl (hb hby d7_6) rfl rfl (l' := #[.val (.int c0), .val (.int c1), .val (.int c2), .val (.int (1 : Int32)), .val (.ref a1)]) rfl (XS.aload X1.here hx rfl (hb hby d7_8) rfl rfl (XS.iconst X1.here hx rfl (hb hby d7_10) (XS.bipush X1.here hx rfl (hb hby d7_11) qk)))) ?_
  refine own_stC X1 hx hZ e1 V1' 0 (by decide) (by decide) (by decide) (Nat.le_of_ble_eq_true rfl) N0 (by omega) (hb hby d7_13) (fun T2 h2 X2 e2 N2 W2 z2 V2 => ?_)
  have V2' : Arv Z h2 a1 k1 .char (19 : Int32) [.int (nar .char (116 : Int32)), .int 0, .int 0, .int 0, .int 0, .int 0, .int 0, .int 0, .int 0, .int 0, .int 0, .int 0, .int 0, .int 0, .int 0, .int 0, .int 0, .int 0, .int 0] (.int 0) := V2
  show own_G p e below _ (T2.setTop (mkF m 14 #[.val (.int c0), .val (.int c1), .val (.int c2), .val (.int (1 : Int32)), .val (.ref a1)] []))
  have KQ2 := KQ1.wr W2 (Or.inr (by omega))
  refine own_step (b := T2.setTop (mkF m 19 #[.val (.int c0), .val (.int c1), .val (.int c2), .val (.int (1 : Int32)), .val (.ref a1)] [(.int (114 : Int32)), (.int (1 : Int32)), (.ref a1)])) (fun _ qk => XS.aload X2.here hx rfl (hb hby d7_14) rfl rfl (XS.iconst X2.here hx rfl (hb hby d7_16) (XS.bipush X2.here hx rfl (hb hby d7_17) qk))) ?_
  refine own_stC X2 hx hZ e2 V2' 1 (by decide) (by decide) (by decide) (Nat.le_of_ble_eq_true rfl) N2 (by omega) (hb hby d7_19) (fun T3 h3 X3 e3 N3 W3 z3 V3 => ?_)
  have V3' : Arv Z h3 a1 k1 .char (19 : Int32) [.int (nar .char (116 : Int32)), .int (nar .char (114 : Int32)), .int 0, .int 0, .int 0, .int 0, .int 0, .int 0, .int 0, .int 0, .int 0, .int 0, .int 0, .int 0, .int 0, .int 0, .int 0, .int 0, .int 0] (.int 0) := V3
  show own_G p e below _ (T3.setTop (mkF m 20 #[.val (.int c0), .val (.int c1), .val (.int c2), .val (.int (1 : Int32)), .val (.ref a1)] []))
  have KQ3 := KQ2.wr W3 (Or.inr (by omega))
  refine own_step (b := T3.setTop (mkF m 25 #[.val (.int c0), .val (.int c1), .val (.int c2), .val (.int (1 : Int32)), .val (.ref a1)] [(.int (105 : Int32)), (.int (2 : Int32)), (.ref a1)])) (fun _ qk => XS.aload X3.here hx rfl (hb hby d7_20) rfl rfl (XS.iconst X3.here hx rfl (hb hby d7_22) (XS.bipush X3.here hx rfl (hb hby d7_23) qk))) ?_
  refine own_stC X3 hx hZ e3 V3' 2 (by decide) (by decide) (by decide) (Nat.le_of_ble_eq_true rfl) N3 (by omega) (hb hby d7_25) (fun T4 h4 X4 e4 N4 W4 z4 V4 => ?_)
  have V4' : Arv Z h4 a1 k1 .char (19 : Int32) [.int (nar .char (116 : Int32)), .int (nar .char (114 : Int32)), .int (nar .char (105 : Int32)), .int 0, .int 0, .int 0, .int 0, .int 0, .int 0, .int 0, .int 0, .int 0, .int 0, .int 0, .int 0, .int 0, .int 0, .int 0, .int 0] (.int 0) := V4
  show own_G p e below _ (T4.setTop (mkF m 26 #[.val (.int c0), .val (.int c1), .val (.int c2), .val (.int (1 : Int32)), .val (.ref a1)] []))
  have KQ4 := KQ3.wr W4 (Or.inr (by omega))
  refine own_step (b := T4.setTop (mkF m 31 #[.val (.int c0), .val (.int c1), .val (.int c2), .val (.int (1 : Int32)), .val (.ref a1)] [(.int (51 : Int32)), (.int (3 : Int32)), (.ref a1)])) (fun _ qk => XS.aload X4.here hx rfl (hb hby d7_26) rfl rfl (XS.iconst X4.here hx rfl (hb hby d7_28) (XS.bipush X4.here hx rfl (hb hby d7_29) qk))) ?_
  refine own_stC X4 hx hZ e4 V4' 3 (by decide) (by decide) (by decide) (Nat.le_of_ble_eq_true rfl) N4 (by omega) (hb hby d7_31) (fun T5 h5 X5 e5 N5 W5 z5 V5 => ?_)
  have V5' : Arv Z h5 a1 k1 .char (19 : Int32) [.int (nar .char (116 : Int32)), .int (nar .char (114 : Int32)), .int (nar .char (105 : Int32)), .int (nar .char (51 : Int32)), .int 0, .int 0, .int 0, .int 0, .int 0, .int 0, .int 0, .int 0, .int 0, .int 0, .int 0, .int 0, .int 0, .int 0, .int 0] (.int 0) := V5
  show own_G p e below _ (T5.setTop (mkF m 32 #[.val (.int c0), .val (.int c1), .val (.int c2), .val (.int (1 : Int32)), .val (.ref a1)] []))
  have KQ5 := KQ4.wr W5 (Or.inr (by omega))
  refine own_step (b := T5.setTop (mkF m 37 #[.val (.int c0), .val (.int c1), .val (.int c2), .val (.int (1 : Int32)), .val (.ref a1)] [(.int (58 : Int32)), (.int (4 : Int32)), (.ref a1)])) (fun _ qk => XS.aload X5.here hx rfl (hb hby d7_32) rfl rfl (XS.iconst X5.here hx rfl (hb hby d7_34) (XS.bipush X5.here hx rfl (hb hby d7_35) qk))) ?_
  refine own_stC X5 hx hZ e5 V5' 4 (by decide) (by decide) (by decide) (Nat.le_of_ble_eq_true rfl) N5 (by omega) (hb hby d7_37) (fun T6 h6 X6 e6 N6 W6 z6 V6 => ?_)
  have V6' : Arv Z h6 a1 k1 .char (19 : Int32) [.int (nar .char (116 : Int32)), .int (nar .char (114 : Int32)), .int (nar .char (105 : Int32)), .int (nar .char (51 : Int32)), .int (nar .char (58 : Int32)), .int 0, .int 0, .int 0, .int 0, .int 0, .int 0, .int 0, .int 0, .int 0, .int 0, .int 0, .int 0, .int 0, .int 0] (.int 0) := V6
  show own_G p e below _ (T6.setTop (mkF m 38 #[.val (.int c0), .val (.int c1), .val (.int c2), .val (.int (1 : Int32)), .val (.ref a1)] []))
  have KQ6 := KQ5.wr W6 (Or.inr (by omega))
  refine own_step (b := T6.setTop (mkF m 43 #[.val (.int c0), .val (.int c1), .val (.int c2), .val (.int (1 : Int32)), .val (.ref a1)] [(.int (108 : Int32)), (.int (5 : Int32)), (.ref a1)])) (fun _ qk => XS.aload X6.here hx rfl (hb hby d7_38) rfl rfl (XS.iconst X6.here hx rfl (hb hby d7_40) (XS.bipush X6.here hx rfl (hb hby d7_41) qk))) ?_
  refine own_stC X6 hx hZ e6 V6' 5 (by decide) (by decide) (by decide) (Nat.le_of_ble_eq_true rfl) N6 (by omega) (hb hby d7_43) (fun T7 h7 X7 e7 N7 W7 z7 V7 => ?_)
  have V7' : Arv Z h7 a1 k1 .char (19 : Int32) [.int (nar .char (116 : Int32)), .int (nar .char (114 : Int32)), .int (nar .char (105 : Int32)), .int (nar .char (51 : Int32)), .int (nar .char (58 : Int32)), .int (nar .char (108 : Int32)), .int 0, .int 0, .int 0, .int 0, .int 0, .int 0, .int 0, .int 0, .int 0, .int 0, .int 0, .int 0, .int 0] (.int 0) := V7
  show own_G p e below _ (T7.setTop (mkF m 44 #[.val (.int c0), .val (.int c1), .val (.int c2), .val (.int (1 : Int32)), .val (.ref a1)] []))
  have KQ7 := KQ6.wr W7 (Or.inr (by omega))
  refine own_step (b := T7.setTop (mkF m 50 #[.val (.int c0), .val (.int c1), .val (.int c2), .val (.int (1 : Int32)), .val (.ref a1)] [(.int (111 : Int32)), (.int (6 : Int32)), (.ref a1)])) (fun _ qk => XS.aload X7.here hx rfl (hb hby d7_44) rfl rfl (XS.bipush X7.here hx rfl (hb hby d7_46) (XS.bipush X7.here hx rfl (hb hby d7_48) qk))) ?_
  refine own_stC X7 hx hZ e7 V7' 6 (by decide) (by decide) (by decide) (Nat.le_of_ble_eq_true rfl) N7 (by omega) (hb hby d7_50) (fun T8 h8 X8 e8 N8 W8 z8 V8 => ?_)
  have V8' : Arv Z h8 a1 k1 .char (19 : Int32) [.int (nar .char (116 : Int32)), .int (nar .char (114 : Int32)), .int (nar .char (105 : Int32)), .int (nar .char (51 : Int32)), .int (nar .char (58 : Int32)), .int (nar .char (108 : Int32)), .int (nar .char (111 : Int32)), .int 0, .int 0, .int 0, .int 0, .int 0, .int 0, .int 0, .int 0, .int 0, .int 0, .int 0, .int 0] (.int 0) := V8
  show own_G p e below _ (T8.setTop (mkF m 51 #[.val (.int c0), .val (.int c1), .val (.int c2), .val (.int (1 : Int32)), .val (.ref a1)] []))
  have KQ8 := KQ7.wr W8 (Or.inr (by omega))
  refine own_step (b := T8.setTop (mkF m 57 #[.val (.int c0), .val (.int c1), .val (.int c2), .val (.int (1 : Int32)), .val (.ref a1)] [(.int (99 : Int32)), (.int (7 : Int32)), (.ref a1)])) (fun _ qk => XS.aload X8.here hx rfl (hb hby d7_51) rfl rfl (XS.bipush X8.here hx rfl (hb hby d7_53) (XS.bipush X8.here hx rfl (hb hby d7_55) qk))) ?_
  refine own_stC X8 hx hZ e8 V8' 7 (by decide) (by decide) (by decide) (Nat.le_of_ble_eq_true rfl) N8 (by omega) (hb hby d7_57) (fun T9 h9 X9 e9 N9 W9 z9 V9 => ?_)
  have V9' : Arv Z h9 a1 k1 .char (19 : Int32) [.int (nar .char (116 : Int32)), .int (nar .char (114 : Int32)), .int (nar .char (105 : Int32)), .int (nar .char (51 : Int32)), .int (nar .char (58 : Int32)), .int (nar .char (108 : Int32)), .int (nar .char (111 : Int32)), .int (nar .char (99 : Int32)), .int 0, .int 0, .int 0, .int 0, .int 0, .int 0, .int 0, .int 0, .int 0, .int 0, .int 0] (.int 0) := V9
  show own_G p e below _ (T9.setTop (mkF m 58 #[.val (.int c0), .val (.int c1), .val (.int c2), .val (.int (1 : Int32)), .val (.ref a1)] []))
  have KQ9 := KQ8.wr W9 (Or.inr (by omega))
  refine own_step (b := T9.setTop (mkF m 64 #[.val (.int c0), .val (.int c1), .val (.int c2), .val (.int (1 : Int32)), .val (.ref a1)] [(.int (107 : Int32)), (.int (8 : Int32)), (.ref a1)])) (fun _ qk => XS.aload X9.here hx rfl (hb hby d7_58) rfl rfl (XS.bipush X9.here hx rfl (hb hby d7_60) (XS.bipush X9.here hx rfl (hb hby d7_62) qk))) ?_
  refine own_stC X9 hx hZ e9 V9' 8 (by decide) (by decide) (by decide) (Nat.le_of_ble_eq_true rfl) N9 (by omega) (hb hby d7_64) (fun T10 h10 X10 e10 N10 W10 z10 V10 => ?_)
  have V10' : Arv Z h10 a1 k1 .char (19 : Int32) [.int (nar .char (116 : Int32)), .int (nar .char (114 : Int32)), .int (nar .char (105 : Int32)), .int (nar .char (51 : Int32)), .int (nar .char (58 : Int32)), .int (nar .char (108 : Int32)), .int (nar .char (111 : Int32)), .int (nar .char (99 : Int32)), .int (nar .char (107 : Int32)), .int 0, .int 0, .int 0, .int 0, .int 0, .int 0, .int 0, .int 0, .int 0, .int 0] (.int 0) := V10
  show own_G p e below _ (T10.setTop (mkF m 65 #[.val (.int c0), .val (.int c1), .val (.int c2), .val (.int (1 : Int32)), .val (.ref a1)] []))
  have KQ10 := KQ9.wr W10 (Or.inr (by omega))
  refine own_step (b := T10.setTop (mkF m 71 #[.val (.int c0), .val (.int c1), .val (.int c2), .val (.int (1 : Int32)), .val (.ref a1)] [(.int (58 : Int32)), (.int (9 : Int32)), (.ref a1)])) (fun _ qk => XS.aload X10.here hx rfl (hb hby d7_65) rfl rfl (XS.bipush X10.here hx rfl (hb hby d7_67) (XS.bipush X10.here hx rfl (hb hby d7_69) qk))) ?_
  refine own_stC X10 hx hZ e10 V10' 9 (by decide) (by decide) (by decide) (Nat.le_of_ble_eq_true rfl) N10 (by omega) (hb hby d7_71) (fun T11 h11 X11 e11 N11 W11 z11 V11 => ?_)
  have V11' : Arv Z h11 a1 k1 .char (19 : Int32) [.int (nar .char (116 : Int32)), .int (nar .char (114 : Int32)), .int (nar .char (105 : Int32)), .int (nar .char (51 : Int32)), .int (nar .char (58 : Int32)), .int (nar .char (108 : Int32)), .int (nar .char (111 : Int32)), .int (nar .char (99 : Int32)), .int (nar .char (107 : Int32)), .int (nar .char (58 : Int32)), .int 0, .int 0, .int 0, .int 0, .int 0, .int 0, .int 0, .int 0, .int 0] (.int 0) := V11
  show own_G p e below _ (T11.setTop (mkF m 72 #[.val (.int c0), .val (.int c1), .val (.int c2), .val (.int (1 : Int32)), .val (.ref a1)] []))
  have KQ11 := KQ10.wr W11 (Or.inr (by omega))
  refine own_step (b := T11.setTop (mkF m 78 #[.val (.int c0), .val (.int c1), .val (.int c2), .val (.int (1 : Int32)), .val (.ref a1)] [(.int (123 : Int32)), (.int (10 : Int32)), (.ref a1)])) (fun _ qk => XS.aload X11.here hx rfl (hb hby d7_72) rfl rfl (XS.bipush X11.here hx rfl (hb hby d7_74) (XS.bipush X11.here hx rfl (hb hby d7_76) qk))) ?_
  refine own_stC X11 hx hZ e11 V11' 10 (by decide) (by decide) (by decide) (Nat.le_of_ble_eq_true rfl) N11 (by omega) (hb hby d7_78) (fun T12 h12 X12 e12 N12 W12 z12 V12 => ?_)
  have V12' : Arv Z h12 a1 k1 .char (19 : Int32) [.int (nar .char (116 : Int32)), .int (nar .char (114 : Int32)), .int (nar .char (105 : Int32)), .int (nar .char (51 : Int32)), .int (nar .char (58 : Int32)), .int (nar .char (108 : Int32)), .int (nar .char (111 : Int32)), .int (nar .char (99 : Int32)), .int (nar .char (107 : Int32)), .int (nar .char (58 : Int32)), .int (nar .char (123 : Int32)), .int 0, .int 0, .int 0, .int 0, .int 0, .int 0, .int 0, .int 0] (.int 0) := V12
  show own_G p e below _ (T12.setTop (mkF m 79 #[.val (.int c0), .val (.int c1), .val (.int c2), .val (.int (1 : Int32)), .val (.ref a1)] []))
  have KQ12 := KQ11.wr W12 (Or.inr (by omega))
  refine own_step (b := T12.setTop (mkF m 84 #[.val (.int c0), .val (.int c1), .val (.int c2), .val (.int (1 : Int32)), .val (.ref a1)] [(.int c0), (.int (11 : Int32)), (.ref a1)])) (fun _ qk => XS.aload X12.here hx rfl (hb hby d7_79) rfl rfl (XS.bipush X12.here hx rfl (hb hby d7_81) (XS.iloadN X12.here hx rfl (hb hby d7_83) rfl qk))) ?_
  refine own_stC X12 hx hZ e12 V12' 11 (by decide) (by decide) (by decide) (Nat.le_of_ble_eq_true rfl) N12 (by omega) (hb hby d7_84) (fun T13 h13 X13 e13 N13 W13 z13 V13 => ?_)
  have V13' : Arv Z h13 a1 k1 .char (19 : Int32) [.int (nar .char (116 : Int32)), .int (nar .char (114 : Int32)), .int (nar .char (105 : Int32)), .int (nar .char (51 : Int32)), .int (nar .char (58 : Int32)), .int (nar .char (108 : Int32)), .int (nar .char (111 : Int32)), .int (nar .char (99 : Int32)), .int (nar .char (107 : Int32)), .int (nar .char (58 : Int32)), .int (nar .char (123 : Int32)), .int (nar .char c0), .int 0, .int 0, .int 0, .int 0, .int 0, .int 0, .int 0] (.int 0) := V13
  show own_G p e below _ (T13.setTop (mkF m 85 #[.val (.int c0), .val (.int c1), .val (.int c2), .val (.int (1 : Int32)), .val (.ref a1)] []))
  have KQ13 := KQ12.wr W13 (Or.inr (by omega))
  refine own_step (b := T13.setTop (mkF m 87 #[.val (.int c0), .val (.int c1), .val (.int c2), .val (.int (1 : Int32)), .val (.ref a1)] [(.int (2 : Int32)), (.int (1 : Int32))])) (fun _ qk => XS.iloadN X13.here hx rfl (hb hby d7_85) rfl (XS.iconst X13.here hx rfl (hb hby d7_86) qk)) ?_
  refine own_icmp_lt X13 hx (hb hby d7_87) (pc' := 96) (by decide) (by decide) (fun c87_14 => ?_) (fun c87_14 => absurd c87_14 (by decide))
  refine own_step (b := T13.setTop (mkF m 98 #[.val (.int c0), .val (.int c1), .val (.int c2), .val (.int (1 : Int32)), .val (.ref a1)] [(.int (3 : Int32)), (.int (1 : Int32))])) (fun _ qk => XS.iloadN X13.here hx rfl (hb hby d7_96) rfl (XS.iconst X13.here hx rfl (hb hby d7_97) qk)) ?_
  refine own_icmp_lt X13 hx (hb hby d7_98) (pc' := 107) (by decide) (by decide) (fun c98_15 => ?_) (fun c98_15 => absurd c98_15 (by decide))
  refine own_step (b := T13.setTop (mkF m 115 #[.val (.int c0), .val (.int c1), .val (.int c2), .val (.int (1 : Int32)), .val (.ref a1)] [(.int (125 : Int32)), (.int (12 : Int32)), (.ref a1)])) (fun _ qk => XS.aload X13.here hx rfl (hb hby d7_107) rfl rfl (XS.bipush X13.here hx rfl (hb hby d7_109) (XS.iloadN X13.here hx rfl (hb hby d7_111) rfl (XS.iadd X13.here hx rfl (hb hby d7_112) rfl (XS.bipush X13.here hx rfl (hb hby d7_113) qk))))) ?_
  refine own_stC X13 hx hZ e13 V13' 12 (by decide) (by decide) (by decide) (Nat.le_of_ble_eq_true rfl) N13 (by omega) (hb hby d7_115) (fun T16 h16 X16 e16 N16 W16 z16 V16 => ?_)
  have V16' : Arv Z h16 a1 k1 .char (19 : Int32) [.int (nar .char (116 : Int32)), .int (nar .char (114 : Int32)), .int (nar .char (105 : Int32)), .int (nar .char (51 : Int32)), .int (nar .char (58 : Int32)), .int (nar .char (108 : Int32)), .int (nar .char (111 : Int32)), .int (nar .char (99 : Int32)), .int (nar .char (107 : Int32)), .int (nar .char (58 : Int32)), .int (nar .char (123 : Int32)), .int (nar .char c0), .int (nar .char (125 : Int32)), .int 0, .int 0, .int 0, .int 0, .int 0, .int 0] (.int 0) := V16
  show own_G p e below _ (T16.setTop (mkF m 116 #[.val (.int c0), .val (.int c1), .val (.int c2), .val (.int (1 : Int32)), .val (.ref a1)] []))
  have KQ16 := KQ13.wr W16 (Or.inr (by omega))
  refine own_step (b := T16.setTop (mkF m 124 #[.val (.int c0), .val (.int c1), .val (.int c2), .val (.int (1 : Int32)), .val (.ref a1)] [(.int (58 : Int32)), (.int (13 : Int32)), (.ref a1)])) (fun _ qk => XS.aload X16.here hx rfl (hb hby d7_116) rfl rfl (XS.bipush X16.here hx rfl (hb hby d7_118) (XS.iloadN X16.here hx rfl (hb hby d7_120) rfl (XS.iadd X16.here hx rfl (hb hby d7_121) rfl (XS.bipush X16.here hx rfl (hb hby d7_122) qk))))) ?_
  refine own_stC X16 hx hZ e16 V16' 13 (by decide) (by decide) (by decide) (Nat.le_of_ble_eq_true rfl) N16 (by omega) (hb hby d7_124) (fun T17 h17 X17 e17 N17 W17 z17 V17 => ?_)
  have V17' : Arv Z h17 a1 k1 .char (19 : Int32) [.int (nar .char (116 : Int32)), .int (nar .char (114 : Int32)), .int (nar .char (105 : Int32)), .int (nar .char (51 : Int32)), .int (nar .char (58 : Int32)), .int (nar .char (108 : Int32)), .int (nar .char (111 : Int32)), .int (nar .char (99 : Int32)), .int (nar .char (107 : Int32)), .int (nar .char (58 : Int32)), .int (nar .char (123 : Int32)), .int (nar .char c0), .int (nar .char (125 : Int32)), .int (nar .char (58 : Int32)), .int 0, .int 0, .int 0, .int 0, .int 0] (.int 0) := V17
  show own_G p e below _ (T17.setTop (mkF m 125 #[.val (.int c0), .val (.int c1), .val (.int c2), .val (.int (1 : Int32)), .val (.ref a1)] []))
  have KQ17 := KQ16.wr W17 (Or.inr (by omega))
  refine own_step (b := T17.setTop (mkF m 133 #[.val (.int c0), .val (.int c1), .val (.int c2), .val (.int (1 : Int32)), .val (.ref a1)] [(.int (116 : Int32)), (.int (14 : Int32)), (.ref a1)])) (fun _ qk => XS.aload X17.here hx rfl (hb hby d7_125) rfl rfl (XS.bipush X17.here hx rfl (hb hby d7_127) (XS.iloadN X17.here hx rfl (hb hby d7_129) rfl (XS.iadd X17.here hx rfl (hb hby d7_130) rfl (XS.bipush X17.here hx rfl (hb hby d7_131) qk))))) ?_
  refine own_stC X17 hx hZ e17 V17' 14 (by decide) (by decide) (by decide) (Nat.le_of_ble_eq_true rfl) N17 (by omega) (hb hby d7_133) (fun T18 h18 X18 e18 N18 W18 z18 V18 => ?_)
  have V18' : Arv Z h18 a1 k1 .char (19 : Int32) [.int (nar .char (116 : Int32)), .int (nar .char (114 : Int32)), .int (nar .char (105 : Int32)), .int (nar .char (51 : Int32)), .int (nar .char (58 : Int32)), .int (nar .char (108 : Int32)), .int (nar .char (111 : Int32)), .int (nar .char (99 : Int32)), .int (nar .char (107 : Int32)), .int (nar .char (58 : Int32)), .int (nar .char (123 : Int32)), .int (nar .char c0), .int (nar .char (125 : Int32)), .int (nar .char (58 : Int32)), .int (nar .char (116 : Int32)), .int 0, .int 0, .int 0, .int 0] (.int 0) := V18
  show own_G p e below _ (T18.setTop (mkF m 134 #[.val (.int c0), .val (.int c1), .val (.int c2), .val (.int (1 : Int32)), .val (.ref a1)] []))
  have KQ18 := KQ17.wr W18 (Or.inr (by omega))
  refine own_step (b := T18.setTop (mkF m 142 #[.val (.int c0), .val (.int c1), .val (.int c2), .val (.int (1 : Int32)), .val (.ref a1)] [(.int (111 : Int32)), (.int (15 : Int32)), (.ref a1)])) (fun _ qk => XS.aload X18.here hx rfl (hb hby d7_134) rfl rfl (XS.bipush X18.here hx rfl (hb hby d7_136) (XS.iloadN X18.here hx rfl (hb hby d7_138) rfl (XS.iadd X18.here hx rfl (hb hby d7_139) rfl (XS.bipush X18.here hx rfl (hb hby d7_140) qk))))) ?_
  refine own_stC X18 hx hZ e18 V18' 15 (by decide) (by decide) (by decide) (Nat.le_of_ble_eq_true rfl) N18 (by omega) (hb hby d7_142) (fun T19 h19 X19 e19 N19 W19 z19 V19 => ?_)
  have V19' : Arv Z h19 a1 k1 .char (19 : Int32) [.int (nar .char (116 : Int32)), .int (nar .char (114 : Int32)), .int (nar .char (105 : Int32)), .int (nar .char (51 : Int32)), .int (nar .char (58 : Int32)), .int (nar .char (108 : Int32)), .int (nar .char (111 : Int32)), .int (nar .char (99 : Int32)), .int (nar .char (107 : Int32)), .int (nar .char (58 : Int32)), .int (nar .char (123 : Int32)), .int (nar .char c0), .int (nar .char (125 : Int32)), .int (nar .char (58 : Int32)), .int (nar .char (116 : Int32)), .int (nar .char (111 : Int32)), .int 0, .int 0, .int 0] (.int 0) := V19
  show own_G p e below _ (T19.setTop (mkF m 143 #[.val (.int c0), .val (.int c1), .val (.int c2), .val (.int (1 : Int32)), .val (.ref a1)] []))
  have KQ19 := KQ18.wr W19 (Or.inr (by omega))
  refine own_step (b := T19.setTop (mkF m 151 #[.val (.int c0), .val (.int c1), .val (.int c2), .val (.int (1 : Int32)), .val (.ref a1)] [(.int (107 : Int32)), (.int (16 : Int32)), (.ref a1)])) (fun _ qk => XS.aload X19.here hx rfl (hb hby d7_143) rfl rfl (XS.bipush X19.here hx rfl (hb hby d7_145) (XS.iloadN X19.here hx rfl (hb hby d7_147) rfl (XS.iadd X19.here hx rfl (hb hby d7_148) rfl (XS.bipush X19.here hx rfl (hb hby d7_149) qk))))) ?_
  refine own_stC X19 hx hZ e19 V19' 16 (by decide) (by decide) (by decide) (Nat.le_of_ble_eq_true rfl) N19 (by omega) (hb hby d7_151) (fun T20 h20 X20 e20 N20 W20 z20 V20 => ?_)
  have V20' : Arv Z h20 a1 k1 .char (19 : Int32) [.int (nar .char (116 : Int32)), .int (nar .char (114 : Int32)), .int (nar .char (105 : Int32)), .int (nar .char (51 : Int32)), .int (nar .char (58 : Int32)), .int (nar .char (108 : Int32)), .int (nar .char (111 : Int32)), .int (nar .char (99 : Int32)), .int (nar .char (107 : Int32)), .int (nar .char (58 : Int32)), .int (nar .char (123 : Int32)), .int (nar .char c0), .int (nar .char (125 : Int32)), .int (nar .char (58 : Int32)), .int (nar .char (116 : Int32)), .int (nar .char (111 : Int32)), .int (nar .char (107 : Int32)), .int 0, .int 0] (.int 0) := V20
  show own_G p e below _ (T20.setTop (mkF m 152 #[.val (.int c0), .val (.int c1), .val (.int c2), .val (.int (1 : Int32)), .val (.ref a1)] []))
  have KQ20 := KQ19.wr W20 (Or.inr (by omega))
  refine own_step (b := T20.setTop (mkF m 160 #[.val (.int c0), .val (.int c1), .val (.int c2), .val (.int (1 : Int32)), .val (.ref a1)] [(.int (101 : Int32)), (.int (17 : Int32)), (.ref a1)])) (fun _ qk => XS.aload X20.here hx rfl (hb hby d7_152) rfl rfl (XS.bipush X20.here hx rfl (hb hby d7_154) (XS.iloadN X20.here hx rfl (hb hby d7_156) rfl (XS.iadd X20.here hx rfl (hb hby d7_157) rfl (XS.bipush X20.here hx rfl (hb hby d7_158) qk))))) ?_
  refine own_stC X20 hx hZ e20 V20' 17 (by decide) (by decide) (by decide) (Nat.le_of_ble_eq_true rfl) N20 (by omega) (hb hby d7_160) (fun T21 h21 X21 e21 N21 W21 z21 V21 => ?_)
  have V21' : Arv Z h21 a1 k1 .char (19 : Int32) [.int (nar .char (116 : Int32)), .int (nar .char (114 : Int32)), .int (nar .char (105 : Int32)), .int (nar .char (51 : Int32)), .int (nar .char (58 : Int32)), .int (nar .char (108 : Int32)), .int (nar .char (111 : Int32)), .int (nar .char (99 : Int32)), .int (nar .char (107 : Int32)), .int (nar .char (58 : Int32)), .int (nar .char (123 : Int32)), .int (nar .char c0), .int (nar .char (125 : Int32)), .int (nar .char (58 : Int32)), .int (nar .char (116 : Int32)), .int (nar .char (111 : Int32)), .int (nar .char (107 : Int32)), .int (nar .char (101 : Int32)), .int 0] (.int 0) := V21
  show own_G p e below _ (T21.setTop (mkF m 161 #[.val (.int c0), .val (.int c1), .val (.int c2), .val (.int (1 : Int32)), .val (.ref a1)] []))
  have KQ21 := KQ20.wr W21 (Or.inr (by omega))
  refine own_step (b := T21.setTop (mkF m 169 #[.val (.int c0), .val (.int c1), .val (.int c2), .val (.int (1 : Int32)), .val (.ref a1)] [(.int (110 : Int32)), (.int (18 : Int32)), (.ref a1)])) (fun _ qk => XS.aload X21.here hx rfl (hb hby d7_161) rfl rfl (XS.bipush X21.here hx rfl (hb hby d7_163) (XS.iloadN X21.here hx rfl (hb hby d7_165) rfl (XS.iadd X21.here hx rfl (hb hby d7_166) rfl (XS.bipush X21.here hx rfl (hb hby d7_167) qk))))) ?_
  refine own_stC X21 hx hZ e21 V21' 18 (by decide) (by decide) (by decide) (Nat.le_of_ble_eq_true rfl) N21 (by omega) (hb hby d7_169) (fun T22 h22 X22 e22 N22 W22 z22 V22 => ?_)
  have V22' : Arv Z h22 a1 k1 .char (19 : Int32) [.int (nar .char (116 : Int32)), .int (nar .char (114 : Int32)), .int (nar .char (105 : Int32)), .int (nar .char (51 : Int32)), .int (nar .char (58 : Int32)), .int (nar .char (108 : Int32)), .int (nar .char (111 : Int32)), .int (nar .char (99 : Int32)), .int (nar .char (107 : Int32)), .int (nar .char (58 : Int32)), .int (nar .char (123 : Int32)), .int (nar .char c0), .int (nar .char (125 : Int32)), .int (nar .char (58 : Int32)), .int (nar .char (116 : Int32)), .int (nar .char (111 : Int32)), .int (nar .char (107 : Int32)), .int (nar .char (101 : Int32)), .int (nar .char (110 : Int32))] (.int 0) := V22
  show own_G p e below _ (T22.setTop (mkF m 170 #[.val (.int c0), .val (.int c1), .val (.int c2), .val (.int (1 : Int32)), .val (.ref a1)] []))
  have KQ22 := KQ21.wr W22 (Or.inr (by omega))
  refine own_step (b := T22.setTop (mkF m 172 #[.val (.int c0), .val (.int c1), .val (.int c2), .val (.int (1 : Int32)), .val (.ref a1)] [(.ref a1)])) (fun _ qk => XS.aload X22.here hx rfl (hb hby d7_170) rfl rfl qk) ?_
  subst e22
  exact own_retR X22 hx hret rfl rfl rfl hlk (hb hby d7_172) ⟨a1, k1, rfl, N22, own_ext KQ22, by omega, by have q := V22'; rw [own_narW hc0] at q; exact q⟩ (by decide) (by decide)
theorem rmExp2 (l : Launch) (Z : State) (a0 : Array Value) (hw : ∀ d ∈ tables_1, d.before a0 Z = true) (ws : List Jvm.Cond) (c0 c1 c2 : Int32) (h0 : Heap) (hc0 : own_C c0) (hc1 : own_C c1) (hc2 : own_C c2) :
    own_Met l Z (⟨"com/example/tri3/tri3/RedisKeysLockTokenPinLaw", "expected", "(CCCI)[C"⟩ : MethodName) method_3_code 5 (some (.array .char)) ws ⟨0, 1, 20, 0⟩ #[(.int c0), (.int c1), (.int c2), (.int (2 : Int32))] h0 (fun v h L => ∃ (r : Addr) (kr : ClassId), v = some (.ref r) ∧ Fr h0.size L ∧ Ext h0 h ∧ h0.size ≤ r ∧ Arv Z h r kr .char (Int32.ofNat 20) (([116, 114, 105, 51, 58, 108, 111, 99, 107, 58, 123] ++ [c0, c1] ++ [125] ++ [58, 116, 111, 107, 101, 110]).map Value.int) (.int 0)) := by
  refine own_enter (plainFor_of_name pn10) (fun m => ef_exp m c0 c1 c2 (2 : Int32)) ?_
  intro p e s m below meth c T0 hx hby hml hZ hown hnm hret hlk X0 e0
  have N0 := Fr.nil h0.size
  refine own_step (b := T0.setTop (mkF m 4 #[.val (.int c0), .val (.int c1), .val (.int c2), .val (.int (2 : Int32)), .unset] [(.int (20 : Int32))])) (fun _ qk => XS.bipush X0.here hx rfl (hb hby d7_0) (XS.iloadN X0.here hx rfl (hb hby d7_2) rfl (XS.iadd X0.here hx rfl (hb hby d7_3) rfl qk))) ?_
  refine own_newP X0 hx hZ (own_w hw 1 rfl) e0 (hb hby d7_4) (n := (20 : Int32)) (by decide) 20 (by decide) (by decide) (by decide) (by decide) (fun T1 h1 a1 k1 X1 e1 g1 l1 E1 V1 => ?_)
  have V1' : Arv Z h1 a1 k1 .char (20 : Int32) [.int 0, .int 0, .int 0, .int 0, .int 0, .int 0, .int 0, .int 0, .int 0, .int 0, .int 0, .int 0, .int 0, .int 0, .int 0, .int 0, .int 0, .int 0, .int 0, .int 0] (.int 0) := V1
  show own_G p e below _ (T1.setTop (mkF m 6 #[.val (.int c0), .val (.int c1), .val (.int c2), .val (.int (2 : Int32)), .unset] [(.ref a1)]))
  have KQ1 := (Keep.refl h0 []).ext E1
  refine own_step (b := T1.setTop (mkF m 13 #[.val (.int c0), .val (.int c1), .val (.int c2), .val (.int (2 : Int32)), .val (.ref a1)] [(.int (116 : Int32)), (.int (0 : Int32)), (.ref a1)])) (fun _ qk => XS.astore X1.here hx rfl (hb hby d7_6) rfl rfl (l' := #[.val (.int c0), .val (.int c1), .val (.int c2), .val (.int (2 : Int32)), .val (.ref a1)]) rfl (XS.aload X1.here hx rfl (hb hby d7_8) rfl rfl (XS.iconst X1.here hx rfl (hb hby d7_10) (XS.bipush X1.here hx rfl (hb hby d7_11) qk)))) ?_
  refine own_stC X1 hx hZ e1 V1' 0 (by decide) (by decide) (by decide) (Nat.le_of_ble_eq_true rfl) N0 (by omega) (hb hby d7_13) (fun T2 h2 X2 e2 N2 W2 z2 V2 => ?_)
  have V2' : Arv Z h2 a1 k1 .char (20 : Int32) [.int (nar .char (116 : Int32)), .int 0, .int 0, .int 0, .int 0, .int 0, .int 0, .int 0, .int 0, .int 0, .int 0, .int 0, .int 0, .int 0, .int 0, .int 0, .int 0, .int 0, .int 0, .int 0] (.int 0) := V2
  show own_G p e below _ (T2.setTop (mkF m 14 #[.val (.int c0), .val (.int c1), .val (.int c2), .val (.int (2 : Int32)), .val (.ref a1)] []))
  have KQ2 := KQ1.wr W2 (Or.inr (by omega))
  refine own_step (b := T2.setTop (mkF m 19 #[.val (.int c0), .val (.int c1), .val (.int c2), .val (.int (2 : Int32)), .val (.ref a1)] [(.int (114 : Int32)), (.int (1 : Int32)), (.ref a1)])) (fun _ qk => XS.aload X2.here hx rfl (hb hby d7_14) rfl rfl (XS.iconst X2.here hx rfl (hb hby d7_16) (XS.bipush X2.here hx rfl (hb hby d7_17) qk))) ?_
  refine own_stC X2 hx hZ e2 V2' 1 (by decide) (by decide) (by decide) (Nat.le_of_ble_eq_true rfl) N2 (by omega) (hb hby d7_19) (fun T3 h3 X3 e3 N3 W3 z3 V3 => ?_)
  have V3' : Arv Z h3 a1 k1 .char (20 : Int32) [.int (nar .char (116 : Int32)), .int (nar .char (114 : Int32)), .int 0, .int 0, .int 0, .int 0, .int 0, .int 0, .int 0, .int 0, .int 0, .int 0, .int 0, .int 0, .int 0, .int 0, .int 0, .int 0, .int 0, .int 0] (.int 0) := V3
  show own_G p e below _ (T3.setTop (mkF m 20 #[.val (.int c0), .val (.int c1), .val (.int c2), .val (.int (2 : Int32)), .val (.ref a1)] []))
  have KQ3 := KQ2.wr W3 (Or.inr (by omega))
  refine own_step (b := T3.setTop (mkF m 25 #[.val (.int c0), .val (.int c1), .val (.int c2), .val (.int (2 : Int32)), .val (.ref a1)] [(.int (105 : Int32)), (.int (2 : Int32)), (.ref a1)])) (fun _ qk => XS.aload X3.here hx rfl (hb hby d7_20) rfl rfl (XS.iconst X3.here hx rfl (hb hby d7_22) (XS.bipush X3.here hx rfl (hb hby d7_23) qk))) ?_
  refine own_stC X3 hx hZ e3 V3' 2 (by decide) (by decide) (by decide) (Nat.le_of_ble_eq_true rfl) N3 (by omega) (hb hby d7_25) (fun T4 h4 X4 e4 N4 W4 z4 V4 => ?_)
  have V4' : Arv Z h4 a1 k1 .char (20 : Int32) [.int (nar .char (116 : Int32)), .int (nar .char (114 : Int32)), .int (nar .char (105 : Int32)), .int 0, .int 0, .int 0, .int 0, .int 0, .int 0, .int 0, .int 0, .int 0, .int 0, .int 0, .int 0, .int 0, .int 0, .int 0, .int 0, .int 0] (.int 0) := V4
  show own_G p e below _ (T4.setTop (mkF m 26 #[.val (.int c0), .val (.int c1), .val (.int c2), .val (.int (2 : Int32)), .val (.ref a1)] []))
  have KQ4 := KQ3.wr W4 (Or.inr (by omega))
  refine own_step (b := T4.setTop (mkF m 31 #[.val (.int c0), .val (.int c1), .val (.int c2), .val (.int (2 : Int32)), .val (.ref a1)] [(.int (51 : Int32)), (.int (3 : Int32)), (.ref a1)])) (fun _ qk => XS.aload X4.here hx rfl (hb hby d7_26) rfl rfl (XS.iconst X4.here hx rfl (hb hby d7_28) (XS.bipush X4.here hx rfl (hb hby d7_29) qk))) ?_
  refine own_stC X4 hx hZ e4 V4' 3 (by decide) (by decide) (by decide) (Nat.le_of_ble_eq_true rfl) N4 (by omega) (hb hby d7_31) (fun T5 h5 X5 e5 N5 W5 z5 V5 => ?_)
  have V5' : Arv Z h5 a1 k1 .char (20 : Int32) [.int (nar .char (116 : Int32)), .int (nar .char (114 : Int32)), .int (nar .char (105 : Int32)), .int (nar .char (51 : Int32)), .int 0, .int 0, .int 0, .int 0, .int 0, .int 0, .int 0, .int 0, .int 0, .int 0, .int 0, .int 0, .int 0, .int 0, .int 0, .int 0] (.int 0) := V5
  show own_G p e below _ (T5.setTop (mkF m 32 #[.val (.int c0), .val (.int c1), .val (.int c2), .val (.int (2 : Int32)), .val (.ref a1)] []))
  have KQ5 := KQ4.wr W5 (Or.inr (by omega))
  refine own_step (b := T5.setTop (mkF m 37 #[.val (.int c0), .val (.int c1), .val (.int c2), .val (.int (2 : Int32)), .val (.ref a1)] [(.int (58 : Int32)), (.int (4 : Int32)), (.ref a1)])) (fun _ qk => XS.aload X5.here hx rfl (hb hby d7_32) rfl rfl (XS.iconst X5.here hx rfl (hb hby d7_34) (XS.bipush X5.here hx rfl (hb hby d7_35) qk))) ?_
  refine own_stC X5 hx hZ e5 V5' 4 (by decide) (by decide) (by decide) (Nat.le_of_ble_eq_true rfl) N5 (by omega) (hb hby d7_37) (fun T6 h6 X6 e6 N6 W6 z6 V6 => ?_)
  have V6' : Arv Z h6 a1 k1 .char (20 : Int32) [.int (nar .char (116 : Int32)), .int (nar .char (114 : Int32)), .int (nar .char (105 : Int32)), .int (nar .char (51 : Int32)), .int (nar .char (58 : Int32)), .int 0, .int 0, .int 0, .int 0, .int 0, .int 0, .int 0, .int 0, .int 0, .int 0, .int 0, .int 0, .int 0, .int 0, .int 0] (.int 0) := V6
  show own_G p e below _ (T6.setTop (mkF m 38 #[.val (.int c0), .val (.int c1), .val (.int c2), .val (.int (2 : Int32)), .val (.ref a1)] []))
  have KQ6 := KQ5.wr W6 (Or.inr (by omega))
  refine own_step (b := T6.setTop (mkF m 43 #[.val (.int c0), .val (.int c1), .val (.int c2), .val (.int (2 : Int32)), .val (.ref a1)] [(.int (108 : Int32)), (.int (5 : Int32)), (.ref a1)])) (fun _ qk => XS.aload X6.here hx rfl (hb hby d7_38) rfl rfl (XS.iconst X6.here hx rfl (hb hby d7_40) (XS.bipush X6.here hx rfl (hb hby d7_41) qk))) ?_
  refine own_stC X6 hx hZ e6 V6' 5 (by decide) (by decide) (by decide) (Nat.le_of_ble_eq_true rfl) N6 (by omega) (hb hby d7_43) (fun T7 h7 X7 e7 N7 W7 z7 V7 => ?_)
  have V7' : Arv Z h7 a1 k1 .char (20 : Int32) [.int (nar .char (116 : Int32)), .int (nar .char (114 : Int32)), .int (nar .char (105 : Int32)), .int (nar .char (51 : Int32)), .int (nar .char (58 : Int32)), .int (nar .char (108 : Int32)), .int 0, .int 0, .int 0, .int 0, .int 0, .int 0, .int 0, .int 0, .int 0, .int 0, .int 0, .int 0, .int 0, .int 0] (.int 0) := V7
  show own_G p e below _ (T7.setTop (mkF m 44 #[.val (.int c0), .val (.int c1), .val (.int c2), .val (.int (2 : Int32)), .val (.ref a1)] []))
  have KQ7 := KQ6.wr W7 (Or.inr (by omega))
  refine own_step (b := T7.setTop (mkF m 50 #[.val (.int c0), .val (.int c1), .val (.int c2), .val (.int (2 : Int32)), .val (.ref a1)] [(.int (111 : Int32)), (.int (6 : Int32)), (.ref a1)])) (fun _ qk => XS.aload X7.here hx rfl (hb hby d7_44) rfl rfl (XS.bipush X7.here hx rfl (hb hby d7_46) (XS.bipush X7.here hx rfl (hb hby d7_48) qk))) ?_
  refine own_stC X7 hx hZ e7 V7' 6 (by decide) (by decide) (by decide) (Nat.le_of_ble_eq_true rfl) N7 (by omega) (hb hby d7_50) (fun T8 h8 X8 e8 N8 W8 z8 V8 => ?_)
  have V8' : Arv Z h8 a1 k1 .char (20 : Int32) [.int (nar .char (116 : Int32)), .int (nar .char (114 : Int32)), .int (nar .char (105 : Int32)), .int (nar .char (51 : Int32)), .int (nar .char (58 : Int32)), .int (nar .char (108 : Int32)), .int (nar .char (111 : Int32)), .int 0, .int 0, .int 0, .int 0, .int 0, .int 0, .int 0, .int 0, .int 0, .int 0, .int 0, .int 0, .int 0] (.int 0) := V8
  show own_G p e below _ (T8.setTop (mkF m 51 #[.val (.int c0), .val (.int c1), .val (.int c2), .val (.int (2 : Int32)), .val (.ref a1)] []))
  have KQ8 := KQ7.wr W8 (Or.inr (by omega))
  refine own_step (b := T8.setTop (mkF m 57 #[.val (.int c0), .val (.int c1), .val (.int c2), .val (.int (2 : Int32)), .val (.ref a1)] [(.int (99 : Int32)), (.int (7 : Int32)), (.ref a1)])) (fun _ qk => XS.aload X8.here hx rfl (hb hby d7_51) rfl rfl (XS.bipush X8.here hx rfl (hb hby d7_53) (XS.bipush X8.here hx rfl (hb hby d7_55) qk))) ?_
  refine own_stC X8 hx hZ e8 V8' 7 (by decide) (by decide) (by decide) (Nat.le_of_ble_eq_true rfl) N8 (by omega) (hb hby d7_57) (fun T9 h9 X9 e9 N9 W9 z9 V9 => ?_)
  have V9' : Arv Z h9 a1 k1 .char (20 : Int32) [.int (nar .char (116 : Int32)), .int (nar .char (114 : Int32)), .int (nar .char (105 : Int32)), .int (nar .char (51 : Int32)), .int (nar .char (58 : Int32)), .int (nar .char (108 : Int32)), .int (nar .char (111 : Int32)), .int (nar .char (99 : Int32)), .int 0, .int 0, .int 0, .int 0, .int 0, .int 0, .int 0, .int 0, .int 0, .int 0, .int 0, .int 0] (.int 0) := V9
  show own_G p e below _ (T9.setTop (mkF m 58 #[.val (.int c0), .val (.int c1), .val (.int c2), .val (.int (2 : Int32)), .val (.ref a1)] []))
  have KQ9 := KQ8.wr W9 (Or.inr (by omega))
  refine own_step (b := T9.setTop (mkF m 64 #[.val (.int c0), .val (.int c1), .val (.int c2), .val (.int (2 : Int32)), .val (.ref a1)] [(.int (107 : Int32)), (.int (8 : Int32)), (.ref a1)])) (fun _ qk => XS.aload X9.here hx rfl (hb hby d7_58) rfl rfl (XS.bipush X9.here hx rfl (hb hby d7_60) (XS.bipush X9.here hx rfl (hb hby d7_62) qk))) ?_
  refine own_stC X9 hx hZ e9 V9' 8 (by decide) (by decide) (by decide) (Nat.le_of_ble_eq_true rfl) N9 (by omega) (hb hby d7_64) (fun T10 h10 X10 e10 N10 W10 z10 V10 => ?_)
  have V10' : Arv Z h10 a1 k1 .char (20 : Int32) [.int (nar .char (116 : Int32)), .int (nar .char (114 : Int32)), .int (nar .char (105 : Int32)), .int (nar .char (51 : Int32)), .int (nar .char (58 : Int32)), .int (nar .char (108 : Int32)), .int (nar .char (111 : Int32)), .int (nar .char (99 : Int32)), .int (nar .char (107 : Int32)), .int 0, .int 0, .int 0, .int 0, .int 0, .int 0, .int 0, .int 0, .int 0, .int 0, .int 0] (.int 0) := V10
  show own_G p e below _ (T10.setTop (mkF m 65 #[.val (.int c0), .val (.int c1), .val (.int c2), .val (.int (2 : Int32)), .val (.ref a1)] []))
  have KQ10 := KQ9.wr W10 (Or.inr (by omega))
  refine own_step (b := T10.setTop (mkF m 71 #[.val (.int c0), .val (.int c1), .val (.int c2), .val (.int (2 : Int32)), .val (.ref a1)] [(.int (58 : Int32)), (.int (9 : Int32)), (.ref a1)])) (fun _ qk => XS.aload X10.here hx rfl (hb hby d7_65) rfl rfl (XS.bipush X10.here hx rfl (hb hby d7_67) (XS.bipush X10.here hx rfl (hb hby d7_69) qk))) ?_
  refine own_stC X10 hx hZ e10 V10' 9 (by decide) (by decide) (by decide) (Nat.le_of_ble_eq_true rfl) N10 (by omega) (hb hby d7_71) (fun T11 h11 X11 e11 N11 W11 z11 V11 => ?_)
  have V11' : Arv Z h11 a1 k1 .char (20 : Int32) [.int (nar .char (116 : Int32)), .int (nar .char (114 : Int32)), .int (nar .char (105 : Int32)), .int (nar .char (51 : Int32)), .int (nar .char (58 : Int32)), .int (nar .char (108 : Int32)), .int (nar .char (111 : Int32)), .int (nar .char (99 : Int32)), .int (nar .char (107 : Int32)), .int (nar .char (58 : Int32)), .int 0, .int 0, .int 0, .int 0, .int 0, .int 0, .int 0, .int 0, .int 0, .int 0] (.int 0) := V11
  show own_G p e below _ (T11.setTop (mkF m 72 #[.val (.int c0), .val (.int c1), .val (.int c2), .val (.int (2 : Int32)), .val (.ref a1)] []))
  have KQ11 := KQ10.wr W11 (Or.inr (by omega))
  refine own_step (b := T11.setTop (mkF m 78 #[.val (.int c0), .val (.int c1), .val (.int c2), .val (.int (2 : Int32)), .val (.ref a1)] [(.int (123 : Int32)), (.int (10 : Int32)), (.ref a1)])) (fun _ qk => XS.aload X11.here hx rfl (hb hby d7_72) rfl rfl (XS.bipush X11.here hx rfl (hb hby d7_74) (XS.bipush X11.here hx rfl (hb hby d7_76) qk))) ?_
  refine own_stC X11 hx hZ e11 V11' 10 (by decide) (by decide) (by decide) (Nat.le_of_ble_eq_true rfl) N11 (by omega) (hb hby d7_78) (fun T12 h12 X12 e12 N12 W12 z12 V12 => ?_)
  have V12' : Arv Z h12 a1 k1 .char (20 : Int32) [.int (nar .char (116 : Int32)), .int (nar .char (114 : Int32)), .int (nar .char (105 : Int32)), .int (nar .char (51 : Int32)), .int (nar .char (58 : Int32)), .int (nar .char (108 : Int32)), .int (nar .char (111 : Int32)), .int (nar .char (99 : Int32)), .int (nar .char (107 : Int32)), .int (nar .char (58 : Int32)), .int (nar .char (123 : Int32)), .int 0, .int 0, .int 0, .int 0, .int 0, .int 0, .int 0, .int 0, .int 0] (.int 0) := V12
  show own_G p e below _ (T12.setTop (mkF m 79 #[.val (.int c0), .val (.int c1), .val (.int c2), .val (.int (2 : Int32)), .val (.ref a1)] []))
  have KQ12 := KQ11.wr W12 (Or.inr (by omega))
  refine own_step (b := T12.setTop (mkF m 84 #[.val (.int c0), .val (.int c1), .val (.int c2), .val (.int (2 : Int32)), .val (.ref a1)] [(.int c0), (.int (11 : Int32)), (.ref a1)])) (fun _ qk => XS.aload X12.here hx rfl (hb hby d7_79) rfl rfl (XS.bipush X12.here hx rfl (hb hby d7_81) (XS.iloadN X12.here hx rfl (hb hby d7_83) rfl qk))) ?_
  refine own_stC X12 hx hZ e12 V12' 11 (by decide) (by decide) (by decide) (Nat.le_of_ble_eq_true rfl) N12 (by omega) (hb hby d7_84) (fun T13 h13 X13 e13 N13 W13 z13 V13 => ?_)
  have V13' : Arv Z h13 a1 k1 .char (20 : Int32) [.int (nar .char (116 : Int32)), .int (nar .char (114 : Int32)), .int (nar .char (105 : Int32)), .int (nar .char (51 : Int32)), .int (nar .char (58 : Int32)), .int (nar .char (108 : Int32)), .int (nar .char (111 : Int32)), .int (nar .char (99 : Int32)), .int (nar .char (107 : Int32)), .int (nar .char (58 : Int32)), .int (nar .char (123 : Int32)), .int (nar .char c0), .int 0, .int 0, .int 0, .int 0, .int 0, .int 0, .int 0, .int 0] (.int 0) := V13
  show own_G p e below _ (T13.setTop (mkF m 85 #[.val (.int c0), .val (.int c1), .val (.int c2), .val (.int (2 : Int32)), .val (.ref a1)] []))
  have KQ13 := KQ12.wr W13 (Or.inr (by omega))
  refine own_step (b := T13.setTop (mkF m 87 #[.val (.int c0), .val (.int c1), .val (.int c2), .val (.int (2 : Int32)), .val (.ref a1)] [(.int (2 : Int32)), (.int (2 : Int32))])) (fun _ qk => XS.iloadN X13.here hx rfl (hb hby d7_85) rfl (XS.iconst X13.here hx rfl (hb hby d7_86) qk)) ?_
  refine own_icmp_lt X13 hx (hb hby d7_87) (pc' := 96) (by decide) (by decide) (fun c87_14 => absurd c87_14 (by decide)) (fun c87_14 => ?_)
  refine own_step (b := T13.setTop (mkF m 95 #[.val (.int c0), .val (.int c1), .val (.int c2), .val (.int (2 : Int32)), .val (.ref a1)] [(.int c1), (.int (12 : Int32)), (.ref a1)])) (fun _ qk => XS.aload X13.here hx rfl (hb hby d7_90) rfl rfl (XS.bipush X13.here hx rfl (hb hby d7_92) (XS.iloadN X13.here hx rfl (hb hby d7_94) rfl qk))) ?_
  refine own_stC X13 hx hZ e13 V13' 12 (by decide) (by decide) (by decide) (Nat.le_of_ble_eq_true rfl) N13 (by omega) (hb hby d7_95) (fun T15 h15 X15 e15 N15 W15 z15 V15 => ?_)
  have V15' : Arv Z h15 a1 k1 .char (20 : Int32) [.int (nar .char (116 : Int32)), .int (nar .char (114 : Int32)), .int (nar .char (105 : Int32)), .int (nar .char (51 : Int32)), .int (nar .char (58 : Int32)), .int (nar .char (108 : Int32)), .int (nar .char (111 : Int32)), .int (nar .char (99 : Int32)), .int (nar .char (107 : Int32)), .int (nar .char (58 : Int32)), .int (nar .char (123 : Int32)), .int (nar .char c0), .int (nar .char c1), .int 0, .int 0, .int 0, .int 0, .int 0, .int 0, .int 0] (.int 0) := V15
  show own_G p e below _ (T15.setTop (mkF m 96 #[.val (.int c0), .val (.int c1), .val (.int c2), .val (.int (2 : Int32)), .val (.ref a1)] []))
  have KQ15 := KQ13.wr W15 (Or.inr (by omega))
  refine own_step (b := T15.setTop (mkF m 98 #[.val (.int c0), .val (.int c1), .val (.int c2), .val (.int (2 : Int32)), .val (.ref a1)] [(.int (3 : Int32)), (.int (2 : Int32))])) (fun _ qk => XS.iloadN X15.here hx rfl (hb hby d7_96) rfl (XS.iconst X15.here hx rfl (hb hby d7_97) qk)) ?_
  refine own_icmp_lt X15 hx (hb hby d7_98) (pc' := 107) (by decide) (by decide) (fun c98_16 => ?_) (fun c98_16 => absurd c98_16 (by decide))
  refine own_step (b := T15.setTop (mkF m 115 #[.val (.int c0), .val (.int c1), .val (.int c2), .val (.int (2 : Int32)), .val (.ref a1)] [(.int (125 : Int32)), (.int (13 : Int32)), (.ref a1)])) (fun _ qk => XS.aload X15.here hx rfl (hb hby d7_107) rfl rfl (XS.bipush X15.here hx rfl (hb hby d7_109) (XS.iloadN X15.here hx rfl (hb hby d7_111) rfl (XS.iadd X15.here hx rfl (hb hby d7_112) rfl (XS.bipush X15.here hx rfl (hb hby d7_113) qk))))) ?_
  refine own_stC X15 hx hZ e15 V15' 13 (by decide) (by decide) (by decide) (Nat.le_of_ble_eq_true rfl) N15 (by omega) (hb hby d7_115) (fun T17 h17 X17 e17 N17 W17 z17 V17 => ?_)
  have V17' : Arv Z h17 a1 k1 .char (20 : Int32) [.int (nar .char (116 : Int32)), .int (nar .char (114 : Int32)), .int (nar .char (105 : Int32)), .int (nar .char (51 : Int32)), .int (nar .char (58 : Int32)), .int (nar .char (108 : Int32)), .int (nar .char (111 : Int32)), .int (nar .char (99 : Int32)), .int (nar .char (107 : Int32)), .int (nar .char (58 : Int32)), .int (nar .char (123 : Int32)), .int (nar .char c0), .int (nar .char c1), .int (nar .char (125 : Int32)), .int 0, .int 0, .int 0, .int 0, .int 0, .int 0] (.int 0) := V17
  show own_G p e below _ (T17.setTop (mkF m 116 #[.val (.int c0), .val (.int c1), .val (.int c2), .val (.int (2 : Int32)), .val (.ref a1)] []))
  have KQ17 := KQ15.wr W17 (Or.inr (by omega))
  refine own_step (b := T17.setTop (mkF m 124 #[.val (.int c0), .val (.int c1), .val (.int c2), .val (.int (2 : Int32)), .val (.ref a1)] [(.int (58 : Int32)), (.int (14 : Int32)), (.ref a1)])) (fun _ qk => XS.aload X17.here hx rfl (hb hby d7_116) rfl rfl (XS.bipush X17.here hx rfl (hb hby d7_118) (XS.iloadN X17.here hx rfl (hb hby d7_120) rfl (XS.iadd X17.here hx rfl (hb hby d7_121) rfl (XS.bipush X17.here hx rfl (hb hby d7_122) qk))))) ?_
  refine own_stC X17 hx hZ e17 V17' 14 (by decide) (by decide) (by decide) (Nat.le_of_ble_eq_true rfl) N17 (by omega) (hb hby d7_124) (fun T18 h18 X18 e18 N18 W18 z18 V18 => ?_)
  have V18' : Arv Z h18 a1 k1 .char (20 : Int32) [.int (nar .char (116 : Int32)), .int (nar .char (114 : Int32)), .int (nar .char (105 : Int32)), .int (nar .char (51 : Int32)), .int (nar .char (58 : Int32)), .int (nar .char (108 : Int32)), .int (nar .char (111 : Int32)), .int (nar .char (99 : Int32)), .int (nar .char (107 : Int32)), .int (nar .char (58 : Int32)), .int (nar .char (123 : Int32)), .int (nar .char c0), .int (nar .char c1), .int (nar .char (125 : Int32)), .int (nar .char (58 : Int32)), .int 0, .int 0, .int 0, .int 0, .int 0] (.int 0) := V18
  show own_G p e below _ (T18.setTop (mkF m 125 #[.val (.int c0), .val (.int c1), .val (.int c2), .val (.int (2 : Int32)), .val (.ref a1)] []))
  have KQ18 := KQ17.wr W18 (Or.inr (by omega))
  refine own_step (b := T18.setTop (mkF m 133 #[.val (.int c0), .val (.int c1), .val (.int c2), .val (.int (2 : Int32)), .val (.ref a1)] [(.int (116 : Int32)), (.int (15 : Int32)), (.ref a1)])) (fun _ qk => XS.aload X18.here hx rfl (hb hby d7_125) rfl rfl (XS.bipush X18.here hx rfl (hb hby d7_127) (XS.iloadN X18.here hx rfl (hb hby d7_129) rfl (XS.iadd X18.here hx rfl (hb hby d7_130) rfl (XS.bipush X18.here hx rfl (hb hby d7_131) qk))))) ?_
  refine own_stC X18 hx hZ e18 V18' 15 (by decide) (by decide) (by decide) (Nat.le_of_ble_eq_true rfl) N18 (by omega) (hb hby d7_133) (fun T19 h19 X19 e19 N19 W19 z19 V19 => ?_)
  have V19' : Arv Z h19 a1 k1 .char (20 : Int32) [.int (nar .char (116 : Int32)), .int (nar .char (114 : Int32)), .int (nar .char (105 : Int32)), .int (nar .char (51 : Int32)), .int (nar .char (58 : Int32)), .int (nar .char (108 : Int32)), .int (nar .char (111 : Int32)), .int (nar .char (99 : Int32)), .int (nar .char (107 : Int32)), .int (nar .char (58 : Int32)), .int (nar .char (123 : Int32)), .int (nar .char c0), .int (nar .char c1), .int (nar .char (125 : Int32)), .int (nar .char (58 : Int32)), .int (nar .char (116 : Int32)), .int 0, .int 0, .int 0, .int 0] (.int 0) := V19
  show own_G p e below _ (T19.setTop (mkF m 134 #[.val (.int c0), .val (.int c1), .val (.int c2), .val (.int (2 : Int32)), .val (.ref a1)] []))
  have KQ19 := KQ18.wr W19 (Or.inr (by omega))
  refine own_step (b := T19.setTop (mkF m 142 #[.val (.int c0), .val (.int c1), .val (.int c2), .val (.int (2 : Int32)), .val (.ref a1)] [(.int (111 : Int32)), (.int (16 : Int32)), (.ref a1)])) (fun _ qk => XS.aload X19.here hx rfl (hb hby d7_134) rfl rfl (XS.bipush X19.here hx rfl (hb hby d7_136) (XS.iloadN X19.here hx rfl (hb hby d7_138) rfl (XS.iadd X19.here hx rfl (hb hby d7_139) rfl (XS.bipush X19.here hx rfl (hb hby d7_140) qk))))) ?_
  refine own_stC X19 hx hZ e19 V19' 16 (by decide) (by decide) (by decide) (Nat.le_of_ble_eq_true rfl) N19 (by omega) (hb hby d7_142) (fun T20 h20 X20 e20 N20 W20 z20 V20 => ?_)
  have V20' : Arv Z h20 a1 k1 .char (20 : Int32) [.int (nar .char (116 : Int32)), .int (nar .char (114 : Int32)), .int (nar .char (105 : Int32)), .int (nar .char (51 : Int32)), .int (nar .char (58 : Int32)), .int (nar .char (108 : Int32)), .int (nar .char (111 : Int32)), .int (nar .char (99 : Int32)), .int (nar .char (107 : Int32)), .int (nar .char (58 : Int32)), .int (nar .char (123 : Int32)), .int (nar .char c0), .int (nar .char c1), .int (nar .char (125 : Int32)), .int (nar .char (58 : Int32)), .int (nar .char (116 : Int32)), .int (nar .char (111 : Int32)), .int 0, .int 0, .int 0] (.int 0) := V20
  show own_G p e below _ (T20.setTop (mkF m 143 #[.val (.int c0), .val (.int c1), .val (.int c2), .val (.int (2 : Int32)), .val (.ref a1)] []))
  have KQ20 := KQ19.wr W20 (Or.inr (by omega))
  refine own_step (b := T20.setTop (mkF m 151 #[.val (.int c0), .val (.int c1), .val (.int c2), .val (.int (2 : Int32)), .val (.ref a1)] [(.int (107 : Int32)), (.int (17 : Int32)), (.ref a1)])) (fun _ qk => XS.aload X20.here hx rfl (hb hby d7_143) rfl rfl (XS.bipush X20.here hx rfl (hb hby d7_145) (XS.iloadN X20.here hx rfl (hb hby d7_147) rfl (XS.iadd X20.here hx rfl (hb hby d7_148) rfl (XS.bipush X20.here hx rfl (hb hby d7_149) qk))))) ?_
  refine own_stC X20 hx hZ e20 V20' 17 (by decide) (by decide) (by decide) (Nat.le_of_ble_eq_true rfl) N20 (by omega) (hb hby d7_151) (fun T21 h21 X21 e21 N21 W21 z21 V21 => ?_)
  have V21' : Arv Z h21 a1 k1 .char (20 : Int32) [.int (nar .char (116 : Int32)), .int (nar .char (114 : Int32)), .int (nar .char (105 : Int32)), .int (nar .char (51 : Int32)), .int (nar .char (58 : Int32)), .int (nar .char (108 : Int32)), .int (nar .char (111 : Int32)), .int (nar .char (99 : Int32)), .int (nar .char (107 : Int32)), .int (nar .char (58 : Int32)), .int (nar .char (123 : Int32)), .int (nar .char c0), .int (nar .char c1), .int (nar .char (125 : Int32)), .int (nar .char (58 : Int32)), .int (nar .char (116 : Int32)), .int (nar .char (111 : Int32)), .int (nar .char (107 : Int32)), .int 0, .int 0] (.int 0) := V21
  show own_G p e below _ (T21.setTop (mkF m 152 #[.val (.int c0), .val (.int c1), .val (.int c2), .val (.int (2 : Int32)), .val (.ref a1)] []))
  have KQ21 := KQ20.wr W21 (Or.inr (by omega))
  refine own_step (b := T21.setTop (mkF m 160 #[.val (.int c0), .val (.int c1), .val (.int c2), .val (.int (2 : Int32)), .val (.ref a1)] [(.int (101 : Int32)), (.int (18 : Int32)), (.ref a1)])) (fun _ qk => XS.aload X21.here hx rfl (hb hby d7_152) rfl rfl (XS.bipush X21.here hx rfl (hb hby d7_154) (XS.iloadN X21.here hx rfl (hb hby d7_156) rfl (XS.iadd X21.here hx rfl (hb hby d7_157) rfl (XS.bipush X21.here hx rfl (hb hby d7_158) qk))))) ?_
  refine own_stC X21 hx hZ e21 V21' 18 (by decide) (by decide) (by decide) (Nat.le_of_ble_eq_true rfl) N21 (by omega) (hb hby d7_160) (fun T22 h22 X22 e22 N22 W22 z22 V22 => ?_)
  have V22' : Arv Z h22 a1 k1 .char (20 : Int32) [.int (nar .char (116 : Int32)), .int (nar .char (114 : Int32)), .int (nar .char (105 : Int32)), .int (nar .char (51 : Int32)), .int (nar .char (58 : Int32)), .int (nar .char (108 : Int32)), .int (nar .char (111 : Int32)), .int (nar .char (99 : Int32)), .int (nar .char (107 : Int32)), .int (nar .char (58 : Int32)), .int (nar .char (123 : Int32)), .int (nar .char c0), .int (nar .char c1), .int (nar .char (125 : Int32)), .int (nar .char (58 : Int32)), .int (nar .char (116 : Int32)), .int (nar .char (111 : Int32)), .int (nar .char (107 : Int32)), .int (nar .char (101 : Int32)), .int 0] (.int 0) := V22
  show own_G p e below _ (T22.setTop (mkF m 161 #[.val (.int c0), .val (.int c1), .val (.int c2), .val (.int (2 : Int32)), .val (.ref a1)] []))
  have KQ22 := KQ21.wr W22 (Or.inr (by omega))
  refine own_step (b := T22.setTop (mkF m 169 #[.val (.int c0), .val (.int c1), .val (.int c2), .val (.int (2 : Int32)), .val (.ref a1)] [(.int (110 : Int32)), (.int (19 : Int32)), (.ref a1)])) (fun _ qk => XS.aload X22.here hx rfl (hb hby d7_161) rfl rfl (XS.bipush X22.here hx rfl (hb hby d7_163) (XS.iloadN X22.here hx rfl (hb hby d7_165) rfl (XS.iadd X22.here hx rfl (hb hby d7_166) rfl (XS.bipush X22.here hx rfl (hb hby d7_167) qk))))) ?_
  refine own_stC X22 hx hZ e22 V22' 19 (by decide) (by decide) (by decide) (Nat.le_of_ble_eq_true rfl) N22 (by omega) (hb hby d7_169) (fun T23 h23 X23 e23 N23 W23 z23 V23 => ?_)
  have V23' : Arv Z h23 a1 k1 .char (20 : Int32) [.int (nar .char (116 : Int32)), .int (nar .char (114 : Int32)), .int (nar .char (105 : Int32)), .int (nar .char (51 : Int32)), .int (nar .char (58 : Int32)), .int (nar .char (108 : Int32)), .int (nar .char (111 : Int32)), .int (nar .char (99 : Int32)), .int (nar .char (107 : Int32)), .int (nar .char (58 : Int32)), .int (nar .char (123 : Int32)), .int (nar .char c0), .int (nar .char c1), .int (nar .char (125 : Int32)), .int (nar .char (58 : Int32)), .int (nar .char (116 : Int32)), .int (nar .char (111 : Int32)), .int (nar .char (107 : Int32)), .int (nar .char (101 : Int32)), .int (nar .char (110 : Int32))] (.int 0) := V23
  show own_G p e below _ (T23.setTop (mkF m 170 #[.val (.int c0), .val (.int c1), .val (.int c2), .val (.int (2 : Int32)), .val (.ref a1)] []))
  have KQ23 := KQ22.wr W23 (Or.inr (by omega))
  refine own_step (b := T23.setTop (mkF m 172 #[.val (.int c0), .val (.int c1), .val (.int c2), .val (.int (2 : Int32)), .val (.ref a1)] [(.ref a1)])) (fun _ qk => XS.aload X23.here hx rfl (hb hby d7_170) rfl rfl qk) ?_
  subst e23
  exact own_retR X23 hx hret rfl rfl rfl hlk (hb hby d7_172) ⟨a1, k1, rfl, N23, own_ext KQ23, by omega, by have q := V23'; rw [own_narW hc0, own_narW hc1] at q; exact q⟩ (by decide) (by decide)
theorem rmExp3 (l : Launch) (Z : State) (a0 : Array Value) (hw : ∀ d ∈ tables_1, d.before a0 Z = true) (ws : List Jvm.Cond) (c0 c1 c2 : Int32) (h0 : Heap) (hc0 : own_C c0) (hc1 : own_C c1) (hc2 : own_C c2) :
    own_Met l Z (⟨"com/example/tri3/tri3/RedisKeysLockTokenPinLaw", "expected", "(CCCI)[C"⟩ : MethodName) method_3_code 5 (some (.array .char)) ws ⟨0, 1, 21, 0⟩ #[(.int c0), (.int c1), (.int c2), (.int (3 : Int32))] h0 (fun v h L => ∃ (r : Addr) (kr : ClassId), v = some (.ref r) ∧ Fr h0.size L ∧ Ext h0 h ∧ h0.size ≤ r ∧ Arv Z h r kr .char (Int32.ofNat 21) (([116, 114, 105, 51, 58, 108, 111, 99, 107, 58, 123] ++ [c0, c1, c2] ++ [125] ++ [58, 116, 111, 107, 101, 110]).map Value.int) (.int 0)) := by
  refine own_enter (plainFor_of_name pn10) (fun m => ef_exp m c0 c1 c2 (3 : Int32)) ?_
  intro p e s m below meth c T0 hx hby hml hZ hown hnm hret hlk X0 e0
  have N0 := Fr.nil h0.size
  refine own_step (b := T0.setTop (mkF m 4 #[.val (.int c0), .val (.int c1), .val (.int c2), .val (.int (3 : Int32)), .unset] [(.int (21 : Int32))])) (fun _ qk => XS.bipush X0.here hx rfl (hb hby d7_0) (XS.iloadN X0.here hx rfl (hb hby d7_2) rfl (XS.iadd X0.here hx rfl (hb hby d7_3) rfl qk))) ?_
  refine own_newP X0 hx hZ (own_w hw 1 rfl) e0 (hb hby d7_4) (n := (21 : Int32)) (by decide) 21 (by decide) (by decide) (by decide) (by decide) (fun T1 h1 a1 k1 X1 e1 g1 l1 E1 V1 => ?_)
  have V1' : Arv Z h1 a1 k1 .char (21 : Int32) [.int 0, .int 0, .int 0, .int 0, .int 0, .int 0, .int 0, .int 0, .int 0, .int 0, .int 0, .int 0, .int 0, .int 0, .int 0, .int 0, .int 0, .int 0, .int 0, .int 0, .int 0] (.int 0) := V1
  show own_G p e below _ (T1.setTop (mkF m 6 #[.val (.int c0), .val (.int c1), .val (.int c2), .val (.int (3 : Int32)), .unset] [(.ref a1)]))
  have KQ1 := (Keep.refl h0 []).ext E1
  refine own_step (b := T1.setTop (mkF m 13 #[.val (.int c0), .val (.int c1), .val (.int c2), .val (.int (3 : Int32)), .val (.ref a1)] [(.int (116 : Int32)), (.int (0 : Int32)), (.ref a1)])) (fun _ qk => XS.astore X1.here hx rfl (hb hby d7_6) rfl rfl (l' := #[.val (.int c0), .val (.int c1), .val (.int c2), .val (.int (3 : Int32)), .val (.ref a1)]) rfl (XS.aload X1.here hx rfl (hb hby d7_8) rfl rfl (XS.iconst X1.here hx rfl (hb hby d7_10) (XS.bipush X1.here hx rfl (hb hby d7_11) qk)))) ?_
  refine own_stC X1 hx hZ e1 V1' 0 (by decide) (by decide) (by decide) (Nat.le_of_ble_eq_true rfl) N0 (by omega) (hb hby d7_13) (fun T2 h2 X2 e2 N2 W2 z2 V2 => ?_)
  have V2' : Arv Z h2 a1 k1 .char (21 : Int32) [.int (nar .char (116 : Int32)), .int 0, .int 0, .int 0, .int 0, .int 0, .int 0, .int 0, .int 0, .int 0, .int 0, .int 0, .int 0, .int 0, .int 0, .int 0, .int 0, .int 0, .int 0, .int 0, .int 0] (.int 0) := V2
  show own_G p e below _ (T2.setTop (mkF m 14 #[.val (.int c0), .val (.int c1), .val (.int c2), .val (.int (3 : Int32)), .val (.ref a1)] []))
  have KQ2 := KQ1.wr W2 (Or.inr (by omega))
  refine own_step (b := T2.setTop (mkF m 19 #[.val (.int c0), .val (.int c1), .val (.int c2), .val (.int (3 : Int32)), .val (.ref a1)] [(.int (114 : Int32)), (.int (1 : Int32)), (.ref a1)])) (fun _ qk => XS.aload X2.here hx rfl (hb hby d7_14) rfl rfl (XS.iconst X2.here hx rfl (hb hby d7_16) (XS.bipush X2.here hx rfl (hb hby d7_17) qk))) ?_
  refine own_stC X2 hx hZ e2 V2' 1 (by decide) (by decide) (by decide) (Nat.le_of_ble_eq_true rfl) N2 (by omega) (hb hby d7_19) (fun T3 h3 X3 e3 N3 W3 z3 V3 => ?_)
  have V3' : Arv Z h3 a1 k1 .char (21 : Int32) [.int (nar .char (116 : Int32)), .int (nar .char (114 : Int32)), .int 0, .int 0, .int 0, .int 0, .int 0, .int 0, .int 0, .int 0, .int 0, .int 0, .int 0, .int 0, .int 0, .int 0, .int 0, .int 0, .int 0, .int 0, .int 0] (.int 0) := V3
  show own_G p e below _ (T3.setTop (mkF m 20 #[.val (.int c0), .val (.int c1), .val (.int c2), .val (.int (3 : Int32)), .val (.ref a1)] []))
  have KQ3 := KQ2.wr W3 (Or.inr (by omega))
  refine own_step (b := T3.setTop (mkF m 25 #[.val (.int c0), .val (.int c1), .val (.int c2), .val (.int (3 : Int32)), .val (.ref a1)] [(.int (105 : Int32)), (.int (2 : Int32)), (.ref a1)])) (fun _ qk => XS.aload X3.here hx rfl (hb hby d7_20) rfl rfl (XS.iconst X3.here hx rfl (hb hby d7_22) (XS.bipush X3.here hx rfl (hb hby d7_23) qk))) ?_
  refine own_stC X3 hx hZ e3 V3' 2 (by decide) (by decide) (by decide) (Nat.le_of_ble_eq_true rfl) N3 (by omega) (hb hby d7_25) (fun T4 h4 X4 e4 N4 W4 z4 V4 => ?_)
  have V4' : Arv Z h4 a1 k1 .char (21 : Int32) [.int (nar .char (116 : Int32)), .int (nar .char (114 : Int32)), .int (nar .char (105 : Int32)), .int 0, .int 0, .int 0, .int 0, .int 0, .int 0, .int 0, .int 0, .int 0, .int 0, .int 0, .int 0, .int 0, .int 0, .int 0, .int 0, .int 0, .int 0] (.int 0) := V4
  show own_G p e below _ (T4.setTop (mkF m 26 #[.val (.int c0), .val (.int c1), .val (.int c2), .val (.int (3 : Int32)), .val (.ref a1)] []))
  have KQ4 := KQ3.wr W4 (Or.inr (by omega))
  refine own_step (b := T4.setTop (mkF m 31 #[.val (.int c0), .val (.int c1), .val (.int c2), .val (.int (3 : Int32)), .val (.ref a1)] [(.int (51 : Int32)), (.int (3 : Int32)), (.ref a1)])) (fun _ qk => XS.aload X4.here hx rfl (hb hby d7_26) rfl rfl (XS.iconst X4.here hx rfl (hb hby d7_28) (XS.bipush X4.here hx rfl (hb hby d7_29) qk))) ?_
  refine own_stC X4 hx hZ e4 V4' 3 (by decide) (by decide) (by decide) (Nat.le_of_ble_eq_true rfl) N4 (by omega) (hb hby d7_31) (fun T5 h5 X5 e5 N5 W5 z5 V5 => ?_)
  have V5' : Arv Z h5 a1 k1 .char (21 : Int32) [.int (nar .char (116 : Int32)), .int (nar .char (114 : Int32)), .int (nar .char (105 : Int32)), .int (nar .char (51 : Int32)), .int 0, .int 0, .int 0, .int 0, .int 0, .int 0, .int 0, .int 0, .int 0, .int 0, .int 0, .int 0, .int 0, .int 0, .int 0, .int 0, .int 0] (.int 0) := V5
  show own_G p e below _ (T5.setTop (mkF m 32 #[.val (.int c0), .val (.int c1), .val (.int c2), .val (.int (3 : Int32)), .val (.ref a1)] []))
  have KQ5 := KQ4.wr W5 (Or.inr (by omega))
  refine own_step (b := T5.setTop (mkF m 37 #[.val (.int c0), .val (.int c1), .val (.int c2), .val (.int (3 : Int32)), .val (.ref a1)] [(.int (58 : Int32)), (.int (4 : Int32)), (.ref a1)])) (fun _ qk => XS.aload X5.here hx rfl (hb hby d7_32) rfl rfl (XS.iconst X5.here hx rfl (hb hby d7_34) (XS.bipush X5.here hx rfl (hb hby d7_35) qk))) ?_
  refine own_stC X5 hx hZ e5 V5' 4 (by decide) (by decide) (by decide) (Nat.le_of_ble_eq_true rfl) N5 (by omega) (hb hby d7_37) (fun T6 h6 X6 e6 N6 W6 z6 V6 => ?_)
  have V6' : Arv Z h6 a1 k1 .char (21 : Int32) [.int (nar .char (116 : Int32)), .int (nar .char (114 : Int32)), .int (nar .char (105 : Int32)), .int (nar .char (51 : Int32)), .int (nar .char (58 : Int32)), .int 0, .int 0, .int 0, .int 0, .int 0, .int 0, .int 0, .int 0, .int 0, .int 0, .int 0, .int 0, .int 0, .int 0, .int 0, .int 0] (.int 0) := V6
  show own_G p e below _ (T6.setTop (mkF m 38 #[.val (.int c0), .val (.int c1), .val (.int c2), .val (.int (3 : Int32)), .val (.ref a1)] []))
  have KQ6 := KQ5.wr W6 (Or.inr (by omega))
  refine own_step (b := T6.setTop (mkF m 43 #[.val (.int c0), .val (.int c1), .val (.int c2), .val (.int (3 : Int32)), .val (.ref a1)] [(.int (108 : Int32)), (.int (5 : Int32)), (.ref a1)])) (fun _ qk => XS.aload X6.here hx rfl (hb hby d7_38) rfl rfl (XS.iconst X6.here hx rfl (hb hby d7_40) (XS.bipush X6.here hx rfl (hb hby d7_41) qk))) ?_
  refine own_stC X6 hx hZ e6 V6' 5 (by decide) (by decide) (by decide) (Nat.le_of_ble_eq_true rfl) N6 (by omega) (hb hby d7_43) (fun T7 h7 X7 e7 N7 W7 z7 V7 => ?_)
  have V7' : Arv Z h7 a1 k1 .char (21 : Int32) [.int (nar .char (116 : Int32)), .int (nar .char (114 : Int32)), .int (nar .char (105 : Int32)), .int (nar .char (51 : Int32)), .int (nar .char (58 : Int32)), .int (nar .char (108 : Int32)), .int 0, .int 0, .int 0, .int 0, .int 0, .int 0, .int 0, .int 0, .int 0, .int 0, .int 0, .int 0, .int 0, .int 0, .int 0] (.int 0) := V7
  show own_G p e below _ (T7.setTop (mkF m 44 #[.val (.int c0), .val (.int c1), .val (.int c2), .val (.int (3 : Int32)), .val (.ref a1)] []))
  have KQ7 := KQ6.wr W7 (Or.inr (by omega))
  refine own_step (b := T7.setTop (mkF m 50 #[.val (.int c0), .val (.int c1), .val (.int c2), .val (.int (3 : Int32)), .val (.ref a1)] [(.int (111 : Int32)), (.int (6 : Int32)), (.ref a1)])) (fun _ qk => XS.aload X7.here hx rfl (hb hby d7_44) rfl rfl (XS.bipush X7.here hx rfl (hb hby d7_46) (XS.bipush X7.here hx rfl (hb hby d7_48) qk))) ?_
  refine own_stC X7 hx hZ e7 V7' 6 (by decide) (by decide) (by decide) (Nat.le_of_ble_eq_true rfl) N7 (by omega) (hb hby d7_50) (fun T8 h8 X8 e8 N8 W8 z8 V8 => ?_)
  have V8' : Arv Z h8 a1 k1 .char (21 : Int32) [.int (nar .char (116 : Int32)), .int (nar .char (114 : Int32)), .int (nar .char (105 : Int32)), .int (nar .char (51 : Int32)), .int (nar .char (58 : Int32)), .int (nar .char (108 : Int32)), .int (nar .char (111 : Int32)), .int 0, .int 0, .int 0, .int 0, .int 0, .int 0, .int 0, .int 0, .int 0, .int 0, .int 0, .int 0, .int 0, .int 0] (.int 0) := V8
  show own_G p e below _ (T8.setTop (mkF m 51 #[.val (.int c0), .val (.int c1), .val (.int c2), .val (.int (3 : Int32)), .val (.ref a1)] []))
  have KQ8 := KQ7.wr W8 (Or.inr (by omega))
  refine own_step (b := T8.setTop (mkF m 57 #[.val (.int c0), .val (.int c1), .val (.int c2), .val (.int (3 : Int32)), .val (.ref a1)] [(.int (99 : Int32)), (.int (7 : Int32)), (.ref a1)])) (fun _ qk => XS.aload X8.here hx rfl (hb hby d7_51) rfl rfl (XS.bipush X8.here hx rfl (hb hby d7_53) (XS.bipush X8.here hx rfl (hb hby d7_55) qk))) ?_
  refine own_stC X8 hx hZ e8 V8' 7 (by decide) (by decide) (by decide) (Nat.le_of_ble_eq_true rfl) N8 (by omega) (hb hby d7_57) (fun T9 h9 X9 e9 N9 W9 z9 V9 => ?_)
  have V9' : Arv Z h9 a1 k1 .char (21 : Int32) [.int (nar .char (116 : Int32)), .int (nar .char (114 : Int32)), .int (nar .char (105 : Int32)), .int (nar .char (51 : Int32)), .int (nar .char (58 : Int32)), .int (nar .char (108 : Int32)), .int (nar .char (111 : Int32)), .int (nar .char (99 : Int32)), .int 0, .int 0, .int 0, .int 0, .int 0, .int 0, .int 0, .int 0, .int 0, .int 0, .int 0, .int 0, .int 0] (.int 0) := V9
  show own_G p e below _ (T9.setTop (mkF m 58 #[.val (.int c0), .val (.int c1), .val (.int c2), .val (.int (3 : Int32)), .val (.ref a1)] []))
  have KQ9 := KQ8.wr W9 (Or.inr (by omega))
  refine own_step (b := T9.setTop (mkF m 64 #[.val (.int c0), .val (.int c1), .val (.int c2), .val (.int (3 : Int32)), .val (.ref a1)] [(.int (107 : Int32)), (.int (8 : Int32)), (.ref a1)])) (fun _ qk => XS.aload X9.here hx rfl (hb hby d7_58) rfl rfl (XS.bipush X9.here hx rfl (hb hby d7_60) (XS.bipush X9.here hx rfl (hb hby d7_62) qk))) ?_
  refine own_stC X9 hx hZ e9 V9' 8 (by decide) (by decide) (by decide) (Nat.le_of_ble_eq_true rfl) N9 (by omega) (hb hby d7_64) (fun T10 h10 X10 e10 N10 W10 z10 V10 => ?_)
  have V10' : Arv Z h10 a1 k1 .char (21 : Int32) [.int (nar .char (116 : Int32)), .int (nar .char (114 : Int32)), .int (nar .char (105 : Int32)), .int (nar .char (51 : Int32)), .int (nar .char (58 : Int32)), .int (nar .char (108 : Int32)), .int (nar .char (111 : Int32)), .int (nar .char (99 : Int32)), .int (nar .char (107 : Int32)), .int 0, .int 0, .int 0, .int 0, .int 0, .int 0, .int 0, .int 0, .int 0, .int 0, .int 0, .int 0] (.int 0) := V10
  show own_G p e below _ (T10.setTop (mkF m 65 #[.val (.int c0), .val (.int c1), .val (.int c2), .val (.int (3 : Int32)), .val (.ref a1)] []))
  have KQ10 := KQ9.wr W10 (Or.inr (by omega))
  refine own_step (b := T10.setTop (mkF m 71 #[.val (.int c0), .val (.int c1), .val (.int c2), .val (.int (3 : Int32)), .val (.ref a1)] [(.int (58 : Int32)), (.int (9 : Int32)), (.ref a1)])) (fun _ qk => XS.aload X10.here hx rfl (hb hby d7_65) rfl rfl (XS.bipush X10.here hx rfl (hb hby d7_67) (XS.bipush X10.here hx rfl (hb hby d7_69) qk))) ?_
  refine own_stC X10 hx hZ e10 V10' 9 (by decide) (by decide) (by decide) (Nat.le_of_ble_eq_true rfl) N10 (by omega) (hb hby d7_71) (fun T11 h11 X11 e11 N11 W11 z11 V11 => ?_)
  have V11' : Arv Z h11 a1 k1 .char (21 : Int32) [.int (nar .char (116 : Int32)), .int (nar .char (114 : Int32)), .int (nar .char (105 : Int32)), .int (nar .char (51 : Int32)), .int (nar .char (58 : Int32)), .int (nar .char (108 : Int32)), .int (nar .char (111 : Int32)), .int (nar .char (99 : Int32)), .int (nar .char (107 : Int32)), .int (nar .char (58 : Int32)), .int 0, .int 0, .int 0, .int 0, .int 0, .int 0, .int 0, .int 0, .int 0, .int 0, .int 0] (.int 0) := V11
  show own_G p e below _ (T11.setTop (mkF m 72 #[.val (.int c0), .val (.int c1), .val (.int c2), .val (.int (3 : Int32)), .val (.ref a1)] []))
  have KQ11 := KQ10.wr W11 (Or.inr (by omega))
  refine own_step (b := T11.setTop (mkF m 78 #[.val (.int c0), .val (.int c1), .val (.int c2), .val (.int (3 : Int32)), .val (.ref a1)] [(.int (123 : Int32)), (.int (10 : Int32)), (.ref a1)])) (fun _ qk => XS.aload X11.here hx rfl (hb hby d7_72) rfl rfl (XS.bipush X11.here hx rfl (hb hby d7_74) (XS.bipush X11.here hx rfl (hb hby d7_76) qk))) ?_
  refine own_stC X11 hx hZ e11 V11' 10 (by decide) (by decide) (by decide) (Nat.le_of_ble_eq_true rfl) N11 (by omega) (hb hby d7_78) (fun T12 h12 X12 e12 N12 W12 z12 V12 => ?_)
  have V12' : Arv Z h12 a1 k1 .char (21 : Int32) [.int (nar .char (116 : Int32)), .int (nar .char (114 : Int32)), .int (nar .char (105 : Int32)), .int (nar .char (51 : Int32)), .int (nar .char (58 : Int32)), .int (nar .char (108 : Int32)), .int (nar .char (111 : Int32)), .int (nar .char (99 : Int32)), .int (nar .char (107 : Int32)), .int (nar .char (58 : Int32)), .int (nar .char (123 : Int32)), .int 0, .int 0, .int 0, .int 0, .int 0, .int 0, .int 0, .int 0, .int 0, .int 0] (.int 0) := V12
  show own_G p e below _ (T12.setTop (mkF m 79 #[.val (.int c0), .val (.int c1), .val (.int c2), .val (.int (3 : Int32)), .val (.ref a1)] []))
  have KQ12 := KQ11.wr W12 (Or.inr (by omega))
  refine own_step (b := T12.setTop (mkF m 84 #[.val (.int c0), .val (.int c1), .val (.int c2), .val (.int (3 : Int32)), .val (.ref a1)] [(.int c0), (.int (11 : Int32)), (.ref a1)])) (fun _ qk => XS.aload X12.here hx rfl (hb hby d7_79) rfl rfl (XS.bipush X12.here hx rfl (hb hby d7_81) (XS.iloadN X12.here hx rfl (hb hby d7_83) rfl qk))) ?_
  refine own_stC X12 hx hZ e12 V12' 11 (by decide) (by decide) (by decide) (Nat.le_of_ble_eq_true rfl) N12 (by omega) (hb hby d7_84) (fun T13 h13 X13 e13 N13 W13 z13 V13 => ?_)
  have V13' : Arv Z h13 a1 k1 .char (21 : Int32) [.int (nar .char (116 : Int32)), .int (nar .char (114 : Int32)), .int (nar .char (105 : Int32)), .int (nar .char (51 : Int32)), .int (nar .char (58 : Int32)), .int (nar .char (108 : Int32)), .int (nar .char (111 : Int32)), .int (nar .char (99 : Int32)), .int (nar .char (107 : Int32)), .int (nar .char (58 : Int32)), .int (nar .char (123 : Int32)), .int (nar .char c0), .int 0, .int 0, .int 0, .int 0, .int 0, .int 0, .int 0, .int 0, .int 0] (.int 0) := V13
  show own_G p e below _ (T13.setTop (mkF m 85 #[.val (.int c0), .val (.int c1), .val (.int c2), .val (.int (3 : Int32)), .val (.ref a1)] []))
  have KQ13 := KQ12.wr W13 (Or.inr (by omega))
  refine own_step (b := T13.setTop (mkF m 87 #[.val (.int c0), .val (.int c1), .val (.int c2), .val (.int (3 : Int32)), .val (.ref a1)] [(.int (2 : Int32)), (.int (3 : Int32))])) (fun _ qk => XS.iloadN X13.here hx rfl (hb hby d7_85) rfl (XS.iconst X13.here hx rfl (hb hby d7_86) qk)) ?_
  refine own_icmp_lt X13 hx (hb hby d7_87) (pc' := 96) (by decide) (by decide) (fun c87_14 => absurd c87_14 (by decide)) (fun c87_14 => ?_)
  refine own_step (b := T13.setTop (mkF m 95 #[.val (.int c0), .val (.int c1), .val (.int c2), .val (.int (3 : Int32)), .val (.ref a1)] [(.int c1), (.int (12 : Int32)), (.ref a1)])) (fun _ qk => XS.aload X13.here hx rfl (hb hby d7_90) rfl rfl (XS.bipush X13.here hx rfl (hb hby d7_92) (XS.iloadN X13.here hx rfl (hb hby d7_94) rfl qk))) ?_
  refine own_stC X13 hx hZ e13 V13' 12 (by decide) (by decide) (by decide) (Nat.le_of_ble_eq_true rfl) N13 (by omega) (hb hby d7_95) (fun T15 h15 X15 e15 N15 W15 z15 V15 => ?_)
  have V15' : Arv Z h15 a1 k1 .char (21 : Int32) [.int (nar .char (116 : Int32)), .int (nar .char (114 : Int32)), .int (nar .char (105 : Int32)), .int (nar .char (51 : Int32)), .int (nar .char (58 : Int32)), .int (nar .char (108 : Int32)), .int (nar .char (111 : Int32)), .int (nar .char (99 : Int32)), .int (nar .char (107 : Int32)), .int (nar .char (58 : Int32)), .int (nar .char (123 : Int32)), .int (nar .char c0), .int (nar .char c1), .int 0, .int 0, .int 0, .int 0, .int 0, .int 0, .int 0, .int 0] (.int 0) := V15
  show own_G p e below _ (T15.setTop (mkF m 96 #[.val (.int c0), .val (.int c1), .val (.int c2), .val (.int (3 : Int32)), .val (.ref a1)] []))
  have KQ15 := KQ13.wr W15 (Or.inr (by omega))
  refine own_step (b := T15.setTop (mkF m 98 #[.val (.int c0), .val (.int c1), .val (.int c2), .val (.int (3 : Int32)), .val (.ref a1)] [(.int (3 : Int32)), (.int (3 : Int32))])) (fun _ qk => XS.iloadN X15.here hx rfl (hb hby d7_96) rfl (XS.iconst X15.here hx rfl (hb hby d7_97) qk)) ?_
  refine own_icmp_lt X15 hx (hb hby d7_98) (pc' := 107) (by decide) (by decide) (fun c98_16 => absurd c98_16 (by decide)) (fun c98_16 => ?_)
  refine own_step (b := T15.setTop (mkF m 106 #[.val (.int c0), .val (.int c1), .val (.int c2), .val (.int (3 : Int32)), .val (.ref a1)] [(.int c2), (.int (13 : Int32)), (.ref a1)])) (fun _ qk => XS.aload X15.here hx rfl (hb hby d7_101) rfl rfl (XS.bipush X15.here hx rfl (hb hby d7_103) (XS.iloadN X15.here hx rfl (hb hby d7_105) rfl qk))) ?_
  refine own_stC X15 hx hZ e15 V15' 13 (by decide) (by decide) (by decide) (Nat.le_of_ble_eq_true rfl) N15 (by omega) (hb hby d7_106) (fun T17 h17 X17 e17 N17 W17 z17 V17 => ?_)
  have V17' : Arv Z h17 a1 k1 .char (21 : Int32) [.int (nar .char (116 : Int32)), .int (nar .char (114 : Int32)), .int (nar .char (105 : Int32)), .int (nar .char (51 : Int32)), .int (nar .char (58 : Int32)), .int (nar .char (108 : Int32)), .int (nar .char (111 : Int32)), .int (nar .char (99 : Int32)), .int (nar .char (107 : Int32)), .int (nar .char (58 : Int32)), .int (nar .char (123 : Int32)), .int (nar .char c0), .int (nar .char c1), .int (nar .char c2), .int 0, .int 0, .int 0, .int 0, .int 0, .int 0, .int 0] (.int 0) := V17
  show own_G p e below _ (T17.setTop (mkF m 107 #[.val (.int c0), .val (.int c1), .val (.int c2), .val (.int (3 : Int32)), .val (.ref a1)] []))
  have KQ17 := KQ15.wr W17 (Or.inr (by omega))
  refine own_step (b := T17.setTop (mkF m 115 #[.val (.int c0), .val (.int c1), .val (.int c2), .val (.int (3 : Int32)), .val (.ref a1)] [(.int (125 : Int32)), (.int (14 : Int32)), (.ref a1)])) (fun _ qk => XS.aload X17.here hx rfl (hb hby d7_107) rfl rfl (XS.bipush X17.here hx rfl (hb hby d7_109) (XS.iloadN X17.here hx rfl (hb hby d7_111) rfl (XS.iadd X17.here hx rfl (hb hby d7_112) rfl (XS.bipush X17.here hx rfl (hb hby d7_113) qk))))) ?_
  refine own_stC X17 hx hZ e17 V17' 14 (by decide) (by decide) (by decide) (Nat.le_of_ble_eq_true rfl) N17 (by omega) (hb hby d7_115) (fun T18 h18 X18 e18 N18 W18 z18 V18 => ?_)
  have V18' : Arv Z h18 a1 k1 .char (21 : Int32) [.int (nar .char (116 : Int32)), .int (nar .char (114 : Int32)), .int (nar .char (105 : Int32)), .int (nar .char (51 : Int32)), .int (nar .char (58 : Int32)), .int (nar .char (108 : Int32)), .int (nar .char (111 : Int32)), .int (nar .char (99 : Int32)), .int (nar .char (107 : Int32)), .int (nar .char (58 : Int32)), .int (nar .char (123 : Int32)), .int (nar .char c0), .int (nar .char c1), .int (nar .char c2), .int (nar .char (125 : Int32)), .int 0, .int 0, .int 0, .int 0, .int 0, .int 0] (.int 0) := V18
  show own_G p e below _ (T18.setTop (mkF m 116 #[.val (.int c0), .val (.int c1), .val (.int c2), .val (.int (3 : Int32)), .val (.ref a1)] []))
  have KQ18 := KQ17.wr W18 (Or.inr (by omega))
  refine own_step (b := T18.setTop (mkF m 124 #[.val (.int c0), .val (.int c1), .val (.int c2), .val (.int (3 : Int32)), .val (.ref a1)] [(.int (58 : Int32)), (.int (15 : Int32)), (.ref a1)])) (fun _ qk => XS.aload X18.here hx rfl (hb hby d7_116) rfl rfl (XS.bipush X18.here hx rfl (hb hby d7_118) (XS.iloadN X18.here hx rfl (hb hby d7_120) rfl (XS.iadd X18.here hx rfl (hb hby d7_121) rfl (XS.bipush X18.here hx rfl (hb hby d7_122) qk))))) ?_
  refine own_stC X18 hx hZ e18 V18' 15 (by decide) (by decide) (by decide) (Nat.le_of_ble_eq_true rfl) N18 (by omega) (hb hby d7_124) (fun T19 h19 X19 e19 N19 W19 z19 V19 => ?_)
  have V19' : Arv Z h19 a1 k1 .char (21 : Int32) [.int (nar .char (116 : Int32)), .int (nar .char (114 : Int32)), .int (nar .char (105 : Int32)), .int (nar .char (51 : Int32)), .int (nar .char (58 : Int32)), .int (nar .char (108 : Int32)), .int (nar .char (111 : Int32)), .int (nar .char (99 : Int32)), .int (nar .char (107 : Int32)), .int (nar .char (58 : Int32)), .int (nar .char (123 : Int32)), .int (nar .char c0), .int (nar .char c1), .int (nar .char c2), .int (nar .char (125 : Int32)), .int (nar .char (58 : Int32)), .int 0, .int 0, .int 0, .int 0, .int 0] (.int 0) := V19
  show own_G p e below _ (T19.setTop (mkF m 125 #[.val (.int c0), .val (.int c1), .val (.int c2), .val (.int (3 : Int32)), .val (.ref a1)] []))
  have KQ19 := KQ18.wr W19 (Or.inr (by omega))
  refine own_step (b := T19.setTop (mkF m 133 #[.val (.int c0), .val (.int c1), .val (.int c2), .val (.int (3 : Int32)), .val (.ref a1)] [(.int (116 : Int32)), (.int (16 : Int32)), (.ref a1)])) (fun _ qk => XS.aload X19.here hx rfl (hb hby d7_125) rfl rfl (XS.bipush X19.here hx rfl (hb hby d7_127) (XS.iloadN X19.here hx rfl (hb hby d7_129) rfl (XS.iadd X19.here hx rfl (hb hby d7_130) rfl (XS.bipush X19.here hx rfl (hb hby d7_131) qk))))) ?_
  refine own_stC X19 hx hZ e19 V19' 16 (by decide) (by decide) (by decide) (Nat.le_of_ble_eq_true rfl) N19 (by omega) (hb hby d7_133) (fun T20 h20 X20 e20 N20 W20 z20 V20 => ?_)
  have V20' : Arv Z h20 a1 k1 .char (21 : Int32) [.int (nar .char (116 : Int32)), .int (nar .char (114 : Int32)), .int (nar .char (105 : Int32)), .int (nar .char (51 : Int32)), .int (nar .char (58 : Int32)), .int (nar .char (108 : Int32)), .int (nar .char (111 : Int32)), .int (nar .char (99 : Int32)), .int (nar .char (107 : Int32)), .int (nar .char (58 : Int32)), .int (nar .char (123 : Int32)), .int (nar .char c0), .int (nar .char c1), .int (nar .char c2), .int (nar .char (125 : Int32)), .int (nar .char (58 : Int32)), .int (nar .char (116 : Int32)), .int 0, .int 0, .int 0, .int 0] (.int 0) := V20
  show own_G p e below _ (T20.setTop (mkF m 134 #[.val (.int c0), .val (.int c1), .val (.int c2), .val (.int (3 : Int32)), .val (.ref a1)] []))
  have KQ20 := KQ19.wr W20 (Or.inr (by omega))
  refine own_step (b := T20.setTop (mkF m 142 #[.val (.int c0), .val (.int c1), .val (.int c2), .val (.int (3 : Int32)), .val (.ref a1)] [(.int (111 : Int32)), (.int (17 : Int32)), (.ref a1)])) (fun _ qk => XS.aload X20.here hx rfl (hb hby d7_134) rfl rfl (XS.bipush X20.here hx rfl (hb hby d7_136) (XS.iloadN X20.here hx rfl (hb hby d7_138) rfl (XS.iadd X20.here hx rfl (hb hby d7_139) rfl (XS.bipush X20.here hx rfl (hb hby d7_140) qk))))) ?_
  refine own_stC X20 hx hZ e20 V20' 17 (by decide) (by decide) (by decide) (Nat.le_of_ble_eq_true rfl) N20 (by omega) (hb hby d7_142) (fun T21 h21 X21 e21 N21 W21 z21 V21 => ?_)
  have V21' : Arv Z h21 a1 k1 .char (21 : Int32) [.int (nar .char (116 : Int32)), .int (nar .char (114 : Int32)), .int (nar .char (105 : Int32)), .int (nar .char (51 : Int32)), .int (nar .char (58 : Int32)), .int (nar .char (108 : Int32)), .int (nar .char (111 : Int32)), .int (nar .char (99 : Int32)), .int (nar .char (107 : Int32)), .int (nar .char (58 : Int32)), .int (nar .char (123 : Int32)), .int (nar .char c0), .int (nar .char c1), .int (nar .char c2), .int (nar .char (125 : Int32)), .int (nar .char (58 : Int32)), .int (nar .char (116 : Int32)), .int (nar .char (111 : Int32)), .int 0, .int 0, .int 0] (.int 0) := V21
  show own_G p e below _ (T21.setTop (mkF m 143 #[.val (.int c0), .val (.int c1), .val (.int c2), .val (.int (3 : Int32)), .val (.ref a1)] []))
  have KQ21 := KQ20.wr W21 (Or.inr (by omega))
  refine own_step (b := T21.setTop (mkF m 151 #[.val (.int c0), .val (.int c1), .val (.int c2), .val (.int (3 : Int32)), .val (.ref a1)] [(.int (107 : Int32)), (.int (18 : Int32)), (.ref a1)])) (fun _ qk => XS.aload X21.here hx rfl (hb hby d7_143) rfl rfl (XS.bipush X21.here hx rfl (hb hby d7_145) (XS.iloadN X21.here hx rfl (hb hby d7_147) rfl (XS.iadd X21.here hx rfl (hb hby d7_148) rfl (XS.bipush X21.here hx rfl (hb hby d7_149) qk))))) ?_
  refine own_stC X21 hx hZ e21 V21' 18 (by decide) (by decide) (by decide) (Nat.le_of_ble_eq_true rfl) N21 (by omega) (hb hby d7_151) (fun T22 h22 X22 e22 N22 W22 z22 V22 => ?_)
  have V22' : Arv Z h22 a1 k1 .char (21 : Int32) [.int (nar .char (116 : Int32)), .int (nar .char (114 : Int32)), .int (nar .char (105 : Int32)), .int (nar .char (51 : Int32)), .int (nar .char (58 : Int32)), .int (nar .char (108 : Int32)), .int (nar .char (111 : Int32)), .int (nar .char (99 : Int32)), .int (nar .char (107 : Int32)), .int (nar .char (58 : Int32)), .int (nar .char (123 : Int32)), .int (nar .char c0), .int (nar .char c1), .int (nar .char c2), .int (nar .char (125 : Int32)), .int (nar .char (58 : Int32)), .int (nar .char (116 : Int32)), .int (nar .char (111 : Int32)), .int (nar .char (107 : Int32)), .int 0, .int 0] (.int 0) := V22
  show own_G p e below _ (T22.setTop (mkF m 152 #[.val (.int c0), .val (.int c1), .val (.int c2), .val (.int (3 : Int32)), .val (.ref a1)] []))
  have KQ22 := KQ21.wr W22 (Or.inr (by omega))
  refine own_step (b := T22.setTop (mkF m 160 #[.val (.int c0), .val (.int c1), .val (.int c2), .val (.int (3 : Int32)), .val (.ref a1)] [(.int (101 : Int32)), (.int (19 : Int32)), (.ref a1)])) (fun _ qk => XS.aload X22.here hx rfl (hb hby d7_152) rfl rfl (XS.bipush X22.here hx rfl (hb hby d7_154) (XS.iloadN X22.here hx rfl (hb hby d7_156) rfl (XS.iadd X22.here hx rfl (hb hby d7_157) rfl (XS.bipush X22.here hx rfl (hb hby d7_158) qk))))) ?_
  refine own_stC X22 hx hZ e22 V22' 19 (by decide) (by decide) (by decide) (Nat.le_of_ble_eq_true rfl) N22 (by omega) (hb hby d7_160) (fun T23 h23 X23 e23 N23 W23 z23 V23 => ?_)
  have V23' : Arv Z h23 a1 k1 .char (21 : Int32) [.int (nar .char (116 : Int32)), .int (nar .char (114 : Int32)), .int (nar .char (105 : Int32)), .int (nar .char (51 : Int32)), .int (nar .char (58 : Int32)), .int (nar .char (108 : Int32)), .int (nar .char (111 : Int32)), .int (nar .char (99 : Int32)), .int (nar .char (107 : Int32)), .int (nar .char (58 : Int32)), .int (nar .char (123 : Int32)), .int (nar .char c0), .int (nar .char c1), .int (nar .char c2), .int (nar .char (125 : Int32)), .int (nar .char (58 : Int32)), .int (nar .char (116 : Int32)), .int (nar .char (111 : Int32)), .int (nar .char (107 : Int32)), .int (nar .char (101 : Int32)), .int 0] (.int 0) := V23
  show own_G p e below _ (T23.setTop (mkF m 161 #[.val (.int c0), .val (.int c1), .val (.int c2), .val (.int (3 : Int32)), .val (.ref a1)] []))
  have KQ23 := KQ22.wr W23 (Or.inr (by omega))
  refine own_step (b := T23.setTop (mkF m 169 #[.val (.int c0), .val (.int c1), .val (.int c2), .val (.int (3 : Int32)), .val (.ref a1)] [(.int (110 : Int32)), (.int (20 : Int32)), (.ref a1)])) (fun _ qk => XS.aload X23.here hx rfl (hb hby d7_161) rfl rfl (XS.bipush X23.here hx rfl (hb hby d7_163) (XS.iloadN X23.here hx rfl (hb hby d7_165) rfl (XS.iadd X23.here hx rfl (hb hby d7_166) rfl (XS.bipush X23.here hx rfl (hb hby d7_167) qk))))) ?_
  refine own_stC X23 hx hZ e23 V23' 20 (by decide) (by decide) (by decide) (Nat.le_of_ble_eq_true rfl) N23 (by omega) (hb hby d7_169) (fun T24 h24 X24 e24 N24 W24 z24 V24 => ?_)
  have V24' : Arv Z h24 a1 k1 .char (21 : Int32) [.int (nar .char (116 : Int32)), .int (nar .char (114 : Int32)), .int (nar .char (105 : Int32)), .int (nar .char (51 : Int32)), .int (nar .char (58 : Int32)), .int (nar .char (108 : Int32)), .int (nar .char (111 : Int32)), .int (nar .char (99 : Int32)), .int (nar .char (107 : Int32)), .int (nar .char (58 : Int32)), .int (nar .char (123 : Int32)), .int (nar .char c0), .int (nar .char c1), .int (nar .char c2), .int (nar .char (125 : Int32)), .int (nar .char (58 : Int32)), .int (nar .char (116 : Int32)), .int (nar .char (111 : Int32)), .int (nar .char (107 : Int32)), .int (nar .char (101 : Int32)), .int (nar .char (110 : Int32))] (.int 0) := V24
  show own_G p e below _ (T24.setTop (mkF m 170 #[.val (.int c0), .val (.int c1), .val (.int c2), .val (.int (3 : Int32)), .val (.ref a1)] []))
  have KQ24 := KQ23.wr W24 (Or.inr (by omega))
  refine own_step (b := T24.setTop (mkF m 172 #[.val (.int c0), .val (.int c1), .val (.int c2), .val (.int (3 : Int32)), .val (.ref a1)] [(.ref a1)])) (fun _ qk => XS.aload X24.here hx rfl (hb hby d7_170) rfl rfl qk) ?_
  subst e24
  exact own_retR X24 hx hret rfl rfl rfl hlk (hb hby d7_172) ⟨a1, k1, rfl, N24, own_ext KQ24, by omega, by have q := V24'; rw [own_narW hc0, own_narW hc1, own_narW hc2] at q; exact q⟩ (by decide) (by decide)
theorem ef_0 (m : MethodId) (p0 p1 p2 p3 : Int32) : entryFrame m #[(.int p0), (.int p1), (.int p2), (.int p3)] maxLocals = mkF m 0 #[.val (.int p0), .val (.int p1), .val (.int p2), .val (.int p3), .unset, .unset, .unset, .unset, .unset, .unset, .unset, .unset] [] := by first | (simp [entryFrame, mkF, argsToLocals, Value.category, maxLocals]; done) | rfl
theorem rm0 (l : Launch) (Z : State) (a0 : Array Value) (hw : ∀ d ∈ tables_1, d.before a0 Z = true) (ws : List Jvm.Cond) (p0 p1 p2 p3 : Int32) (h0 : Heap) (G1 : Int32) (O2 : Sta Z Z.heap "java/lang/String" "COMPACT_STRINGS" "Z" (.int G1)) (P5 : ¬ (G1 = (0 : Int32))) (G3 : Value) (O4 : Sta Z Z.heap "jdk/internal/util/Preconditions" "SIOOBE_FORMATTER" "Ljava/util/function/BiFunction;" G3) (rG3 : G3.isRef = true) (SA1 : Sta Z Z.heap "java/lang/StringUTF16" "$assertionsDisabled" "Z" (.int 1)) (SA2 : Sta Z Z.heap "java/lang/StringUTF16" "HI_BYTE_SHIFT" "I" (.int 0)) (SA3 : Sta Z Z.heap "java/lang/StringUTF16" "LO_BYTE_SHIFT" "I" (.int 8)) (OL0 : Old Z Z.heap.size h0) (CH0 : Jvm.Lit.constHeld Z "com/example/tri3/tri3/RedisKeys" 7) (CH1 : Jvm.Lit.constHeld Z "com/example/tri3/tri3/RedisKeys" 28) (CH2 : Jvm.Lit.constHeld Z "com/example/tri3/tri3/RedisKeys" 36) (CH3 : Jvm.Lit.constHeld Z "com/example/tri3/tri3/RedisKeys" 65) (CH4 : Jvm.Lit.constHeld Z "com/example/tri3/tri3/RedisKeys" 67) (CH5 : Jvm.Lit.constHeld Z "com/example/tri3/tri3/RedisKeys" 69) (HC : Jvm.Lit.compactW.before a0 Z = true) :
    own_MetI l Z x code maxLocals ret ws room_1 #[(.int p0), (.int p1), (.int p2), (.int p3)] h0 (fun vm => IB Z vm []) (fun v vm h L => v = some (.int 1) ∧ Fr Z.heap.size L) := by
  refine own_enterI (plainFor_of_name pn10) (fun m => ef_0 m p0 p1 p2 p3) ?_
  intro p e s m below meth c T0 vm0 k0 hx hby hml hZ hown hnm hret hlk X0 e0 es0 hS hk hI
  have zn : Z.heap.size ≤ h0.size := OL0.2.1
  have N0 := Fr.nil h0.size
  have KP0 : Keep h0 h0 [] := Keep.refl h0 []
  refine own_step (b := T0.setTop (mkF m 1 #[.val (.int p0), .val (.int p1), .val (.int p2), .val (.int p3), .unset, .unset, .unset, .unset, .unset, .unset, .unset, .unset] [(.int p3)])) (fun _ qk => XS.iloadN X0.here hx rfl (hb hby at_0) rfl qk) ?_
  refine own_step (b := T0.setTop (mkF m 3 #[.val (.int p0), .val (.int p1), .val (.int p2), .val (.int p3), .unset, .unset, .unset, .unset, .unset, .unset, .unset, .unset] [(.int (2147483647 : Int32)), (.int p3)])) (X0.ldcInt hx hown (mvT hZ (own_w hw 0 rfl)) (g := (mkF m 1 #[.val (.int p0), .val (.int p1), .val (.int p2), .val (.int p3), .unset, .unset, .unset, .unset, .unset, .unset, .unset, .unset] [(.int p3)])) rfl (hb hby at_1)) ?_
  refine own_step (b := T0.setTop (mkF m 8 #[.val (.int p0), .val (.int p1), .val (.int p2), .val (.int p3), .unset, .unset, .unset, .unset, .unset, .unset, .unset, .unset] [(.int (((p3 &&& (2147483647 : Int32)) % (3 : Int32)) + (1 : Int32)))])) (fun _ qk => XS.iand X0.here hx rfl (hb hby at_3) rfl (XS.iconst X0.here hx rfl (hb hby at_4) (iremM X0 hx rfl (hb hby at_5) rfl (by decide) (XS.iconst X0.here hx rfl (hb hby at_6) (XS.iadd X0.here hx rfl (hb hby at_7) rfl qk))))) ?_
  rcases own_n3 p3 with qn | qn | qn
  · show own_G p e below _ (T0.setTop (mkF m 8 #[.val (.int p0), .val (.int p1), .val (.int p2), .val (.int p3), .unset, .unset, .unset, .unset, .unset, .unset, .unset, .unset] [(.int (((p3 &&& (2147483647 : Int32)) % (3 : Int32)) + (1 : Int32)))]))
    rw [qn]
    refine own_step (b := T0.setTop (mkF m 18 #[.val (.int p0), .val (.int p1), .val (.int p2), .val (.int p3), .val (.int (1 : Int32)), .val (.int (p0.toUInt32.toUInt16.toUInt32.toInt32)), .unset, .unset, .unset, .unset, .unset, .unset] [(.int (125 : Int32)), (.int (p0.toUInt32.toUInt16.toUInt32.toInt32))])) (fun _ qk => XS.istore X0.here hx rfl (hb hby at_8) rfl (l' := #[.val (.int p0), .val (.int p1), .val (.int p2), .val (.int p3), .val (.int (1 : Int32)), .unset, .unset, .unset, .unset, .unset, .unset, .unset]) rfl (XS.iloadN X0.here hx rfl (hb hby at_10) rfl (XT.i2c X0.here hx rfl (hb hby at_11) rfl (XS.istore X0.here hx rfl (hb hby at_12) rfl (l' := #[.val (.int p0), .val (.int p1), .val (.int p2), .val (.int p3), .val (.int (1 : Int32)), .val (.int (p0.toUInt32.toUInt16.toUInt32.toInt32)), .unset, .unset, .unset, .unset, .unset, .unset]) rfl (XS.iload X0.here hx rfl (hb hby at_14) rfl (XS.bipush X0.here hx rfl (hb hby at_16) qk)))))) ?_
    have tail : ∀ (c0 : Int32), own_C c0 → ¬ c0 = (125 : Int32) → own_G p e below (own_FI s (fun v vm h L => v = some (.int 1) ∧ Fr Z.heap.size L) room_1.cells room_1.slots) (T0.setTop (mkF m 25 #[.val (.int p0), .val (.int p1), .val (.int p2), .val (.int p3), .val (.int (1 : Int32)), .val (.int c0), .unset, .unset, .unset, .unset, .unset, .unset] [])) := by
      intro c0 hc0 hne
      have hch : ∀ c ∈ ([c0] : List Int32), own_C c := (own_aS hc0 own_a0)
      rcases Classical.em (∃ c ∈ ([c0] : List Int32), (255 : Int32) < c) with hex | hno
      · show own_G p e below _ (T0.setTop (mkF m 25 #[.val (.int p0), .val (.int p1), .val (.int p2), .val (.int p3), .val (.int (1 : Int32)), .val (.int c0), .unset, .unset, .unset, .unset, .unset, .unset] []))
        have hchx : ∀ c ∈ ([116, 114, 105, 51, 58, 108, 111, 99, 107, 58, 123] ++ [c0] ++ [125] ++ [58, 116, 111, 107, 101, 110]), own_C c := own_all (by decide) hch (by decide) (by decide)
        have hexx : ∃ c ∈ ([116, 114, 105, 51, 58, 108, 111, 99, 107, 58, 123] ++ [c0] ++ [125] ++ [58, 116, 111, 107, 101, 110]), (255 : Int32) < c := own_exi hex
        refine own_step (b := T0.setTop (mkF m 35 #[.val (.int p0), .val (.int p1), .val (.int p2), .val (.int p3), .val (.int (1 : Int32)), .val (.int c0), .val (.int (p1.toUInt32.toUInt16.toUInt32.toInt32)), .val (.int (p2.toUInt32.toUInt16.toUInt32.toInt32)), .unset, .unset, .unset, .unset] [(.int (1 : Int32))])) (fun _ qk => XS.iloadN X0.here hx rfl (hb hby at_25) rfl (XT.i2c X0.here hx rfl (hb hby at_26) rfl (XS.istore X0.here hx rfl (hb hby at_27) rfl (l' := #[.val (.int p0), .val (.int p1), .val (.int p2), .val (.int p3), .val (.int (1 : Int32)), .val (.int c0), .val (.int (p1.toUInt32.toUInt16.toUInt32.toInt32)), .unset, .unset, .unset, .unset, .unset]) rfl (XS.iloadN X0.here hx rfl (hb hby at_29) rfl (XT.i2c X0.here hx rfl (hb hby at_30) rfl (XS.istore X0.here hx rfl (hb hby at_31) rfl (l' := #[.val (.int p0), .val (.int p1), .val (.int p2), .val (.int p3), .val (.int (1 : Int32)), .val (.int c0), .val (.int (p1.toUInt32.toUInt16.toUInt32.toInt32)), .val (.int (p2.toUInt32.toUInt16.toUInt32.toInt32)), .unset, .unset, .unset, .unset]) rfl (XS.iload X0.here hx rfl (hb hby at_33) rfl qk))))))) ?_
        refine own_newP X0 hx hZ (own_w hw 1 rfl) e0 (hb hby at_35) (n := (1 : Int32)) (by decide) 1 (by decide) (by decide) (by decide) (by decide) (fun T1 h1 a1 k1 X1 e1 g1 l1 E1 V1 => ?_)
        have V1' : Arv Z h1 a1 k1 .char (1 : Int32) [.int 0] (.int 0) := V1
        show own_G p e below _ (T1.setTop (mkF m 37 #[.val (.int p0), .val (.int p1), .val (.int p2), .val (.int p3), .val (.int (1 : Int32)), .val (.int c0), .val (.int (p1.toUInt32.toUInt16.toUInt32.toInt32)), .val (.int (p2.toUInt32.toUInt16.toUInt32.toInt32)), .unset, .unset, .unset, .unset] [(.ref a1)]))
        have KP1 : Keep h0 h1 [] := KP0.ext E1
        have OL1 := OL0.ext (own_ext KP1)
        refine own_step (b := T1.setTop (mkF m 44 #[.val (.int p0), .val (.int p1), .val (.int p2), .val (.int p3), .val (.int (1 : Int32)), .val (.int c0), .val (.int (p1.toUInt32.toUInt16.toUInt32.toInt32)), .val (.int (p2.toUInt32.toUInt16.toUInt32.toInt32)), .val (.ref a1), .unset, .unset, .unset] [(.int c0), (.int (0 : Int32)), (.ref a1)])) (fun _ qk => XS.astore X1.here hx rfl (hb hby at_37) rfl rfl (l' := #[.val (.int p0), .val (.int p1), .val (.int p2), .val (.int p3), .val (.int (1 : Int32)), .val (.int c0), .val (.int (p1.toUInt32.toUInt16.toUInt32.toInt32)), .val (.int (p2.toUInt32.toUInt16.toUInt32.toInt32)), .val (.ref a1), .unset, .unset, .unset]) rfl (XS.aload X1.here hx rfl (hb hby at_39) rfl rfl (XS.iconst X1.here hx rfl (hb hby at_41) (XS.iload X1.here hx rfl (hb hby at_42) rfl qk)))) ?_
        refine own_stC X1 hx hZ e1 V1' 0 (by decide) (by decide) (by decide) (Nat.le_of_ble_eq_true rfl) N0 (by omega) (hb hby at_44) (fun T2 h2 X2 e2 N2 W2 z2 V2 => ?_)
        have V2' : Arv Z h2 a1 k1 .char (1 : Int32) [.int (nar .char c0)] (.int 0) := V2
        show own_G p e below _ (T2.setTop (mkF m 45 #[.val (.int p0), .val (.int p1), .val (.int p2), .val (.int p3), .val (.int (1 : Int32)), .val (.int c0), .val (.int (p1.toUInt32.toUInt16.toUInt32.toInt32)), .val (.int (p2.toUInt32.toUInt16.toUInt32.toInt32)), .val (.ref a1), .unset, .unset, .unset] []))
        have KP2 : Keep h0 h2 [] := KP1.wr W2 (Or.inr (by omega))
        have OL2 := OL0.ext (own_ext KP2)
        refine own_step (b := T2.setTop (mkF m 48 #[.val (.int p0), .val (.int p1), .val (.int p2), .val (.int p3), .val (.int (1 : Int32)), .val (.int c0), .val (.int (p1.toUInt32.toUInt16.toUInt32.toInt32)), .val (.int (p2.toUInt32.toUInt16.toUInt32.toInt32)), .val (.ref a1), .unset, .unset, .unset] [(.int (2 : Int32)), (.int (1 : Int32))])) (fun _ qk => XS.iload X2.here hx rfl (hb hby at_45) rfl (XS.iconst X2.here hx rfl (hb hby at_47) qk)) ?_
        refine own_icmp_lt X2 hx (hb hby at_48) (pc' := 57) (by decide) (by decide) (fun c48_3 => ?_) (fun c48_3 => absurd c48_3 (by decide))
        refine own_step (b := T2.setTop (mkF m 60 #[.val (.int p0), .val (.int p1), .val (.int p2), .val (.int p3), .val (.int (1 : Int32)), .val (.int c0), .val (.int (p1.toUInt32.toUInt16.toUInt32.toInt32)), .val (.int (p2.toUInt32.toUInt16.toUInt32.toInt32)), .val (.ref a1), .unset, .unset, .unset] [(.int (3 : Int32)), (.int (1 : Int32))])) (fun _ qk => XS.iload X2.here hx rfl (hb hby at_57) rfl (XS.iconst X2.here hx rfl (hb hby at_59) qk)) ?_
        refine own_icmp_lt X2 hx (hb hby at_60) (pc' := 69) (by decide) (by decide) (fun c60_4 => ?_) (fun c60_4 => absurd c60_4 (by decide))
        show own_G p e below _ (T2.setTop (mkF m 69 #[.val (.int p0), .val (.int p1), .val (.int p2), .val (.int p3), .val (.int (1 : Int32)), .val (.int c0), .val (.int (p1.toUInt32.toUInt16.toUInt32.toInt32)), .val (.int (p2.toUInt32.toUInt16.toUInt32.toInt32)), .val (.ref a1), .unset, .unset, .unset] []))
        have VN : Arv Z h2 a1 k1 .char (Int32.ofNat 1) ([c0].map Value.int) (.int 0) := by have q := V2'; rw [own_narW hc0] at q; exact q
        refine own_newO X2 hx hZ hown (own_w hw 2 rfl) (own_w hw 3 rfl) (own_w hw 4 rfl) e2 (hb hby at_69) (by decide) (by decide) (fun T5 h5 a5 X5 e5 g5 l5 E5 A5 D5 => ?_)
        show own_G p e below _ (T5.setTop (mkF m 72 #[.val (.int p0), .val (.int p1), .val (.int p2), .val (.int p3), .val (.int (1 : Int32)), .val (.int c0), .val (.int (p1.toUInt32.toUInt16.toUInt32.toInt32)), .val (.int (p2.toUInt32.toUInt16.toUInt32.toInt32)), .val (.ref a1), .unset, .unset, .unset] [(.ref a5)]))
        have KP5 : Keep h0 h5 [] := KP2.ext E5
        have OL5 := OL0.ext (own_ext KP5)
        refine own_step (b := T5.setTop (mkF m 75 #[.val (.int p0), .val (.int p1), .val (.int p2), .val (.int p3), .val (.int (1 : Int32)), .val (.int c0), .val (.int (p1.toUInt32.toUInt16.toUInt32.toInt32)), .val (.int (p2.toUInt32.toUInt16.toUInt32.toInt32)), .val (.ref a1), .unset, .unset, .unset] [(.ref a1), (.ref a5), (.ref a5)])) (fun _ qk => XS.dup X5.here hx rfl (hb hby at_72) rfl rfl (XS.aload X5.here hx rfl (hb hby at_73) rfl rfl qk)) ?_
        refine own_special (a := a5) (W := 1) (argsL := [(.ref a1)]) (st := [(.ref a5)]) X5 hx hZ hown rfl (own_w hw 5 rfl) (own_w hw 6 rfl) (own_w hw 7 rfl) (by decide) e5 (own_back (W := 1) (rmN1W l Z a0 hw [] a5 a1 k1 1 [c0] h5 (A5) ((D5 (Or.inr (own_w hw 30 rfl)) (ty := (.array .byte)) (by decide))) ((D5 (Or.inr (own_w hw 28 rfl)) (ty := .byte) (by decide))) (VN.ext E5) rfl (by decide) (by decide) h0.size zn (by omega) (by omega) OL5 G1 O2 P5 G3 O4 rG3 SA1 SA2 SA3 hch hex) hZ (own_w hw 7 rfl) (own_w hw 4 rfl) (by decide) (by decide)) (by decide) (by decide) (by rw [hml]; rfl) (lenOf pd36 rfl) rfl (Nat.le_of_ble_eq_true rfl) (hb hby at_75) (fun v6 T6 L6 X6 hQ6 => ?_)
        obtain ⟨r6, kr6, rfl, M6, K6, g6, SS6⟩ := hQ6
        have zz6 : h5.size ≤ T6.heap.size := K6.1
        have N6 := Fr.app N2 M6
        have KP6 : Keep h0 T6.heap [] := KP5.trans K6 (allS (Or.inr (by omega)) all0)
        have OL6 := OL0.ext (own_ext KP6)
        refine own_step (b := T6.setTop (mkF m 80 #[.val (.int p0), .val (.int p1), .val (.int p2), .val (.int p3), .val (.int (1 : Int32)), .val (.int c0), .val (.int (p1.toUInt32.toUInt16.toUInt32.toInt32)), .val (.int (p2.toUInt32.toUInt16.toUInt32.toInt32)), .val (.ref a1), .val (.ref a5), .unset, .unset] [])) (fun _ qk => XS.astore X6.here hx rfl (hb hby at_78) rfl rfl (l' := #[.val (.int p0), .val (.int p1), .val (.int p2), .val (.int p3), .val (.int (1 : Int32)), .val (.int c0), .val (.int (p1.toUInt32.toUInt16.toUInt32.toInt32)), .val (.int (p2.toUInt32.toUInt16.toUInt32.toInt32)), .val (.ref a1), .val (.ref a5), .unset, .unset]) rfl qk) ?_
        refine own_newO X6 hx hZ hown (own_w hw 2 rfl) (own_w hw 3 rfl) (own_w hw 4 rfl) rfl (hb hby at_80) (by decide) (by decide) (fun T7 h7 a7 X7 e7 g7 l7 E7 A7 D7 => ?_)
        show own_G p e below _ (T7.setTop (mkF m 83 #[.val (.int p0), .val (.int p1), .val (.int p2), .val (.int p3), .val (.int (1 : Int32)), .val (.int c0), .val (.int (p1.toUInt32.toUInt16.toUInt32.toInt32)), .val (.int (p2.toUInt32.toUInt16.toUInt32.toInt32)), .val (.ref a1), .val (.ref a5), .unset, .unset] [(.ref a7)]))
        have KP7 : Keep h0 h7 [] := KP6.ext E7
        have OL7 := OL0.ext (own_ext KP7)
        show own_G p e below _ (T7.setTop (mkF m 83 #[.val (.int p0), .val (.int p1), .val (.int p2), .val (.int p3), .val (.int (1 : Int32)), .val (.int c0), .val (.int (p1.toUInt32.toUInt16.toUInt32.toInt32)), .val (.int (p2.toUInt32.toUInt16.toUInt32.toInt32)), .val (.ref a1), .val (.ref a5), .unset, .unset] [(.ref a7)]))
        have SN7 := SS6.ext E7
        refine own_step (b := T7.setTop (mkF m 92 #[.val (.int p0), .val (.int p1), .val (.int p2), .val (.int p3), .val (.int (1 : Int32)), .val (.int c0), .val (.int (p1.toUInt32.toUInt16.toUInt32.toInt32)), .val (.int (p2.toUInt32.toUInt16.toUInt32.toInt32)), .val (.ref a1), .val (.ref a5), .unset, .unset] [(.int (1 : Int32)), (.int (p2.toUInt32.toUInt16.toUInt32.toInt32)), (.int (p1.toUInt32.toUInt16.toUInt32.toInt32)), (.int c0), (.ref a7), (.ref a7)])) (fun _ qk => XS.dup X7.here hx rfl (hb hby at_83) rfl rfl (XS.iload X7.here hx rfl (hb hby at_84) rfl (XS.iload X7.here hx rfl (hb hby at_86) rfl (XS.iload X7.here hx rfl (hb hby at_88) rfl (XS.iload X7.here hx rfl (hb hby at_90) rfl qk))))) ?_
        refine own_static (W := 2) (argsL := [(.int c0), (.int (p1.toUInt32.toUInt16.toUInt32.toInt32)), (.int (p2.toUInt32.toUInt16.toUInt32.toInt32)), (.int (1 : Int32))]) (st := [(.ref a7), (.ref a7)]) X7 hx hZ hown (own_w hw 31 rfl) (own_w hw 32 rfl) (own_w hw 33 rfl) (own_w hw 34 rfl) (by decide) e7 (own_back (W := 2) (rmExp1 l Z a0 hw [] c0 (p1.toUInt32.toUInt16.toUInt32.toInt32) (p2.toUInt32.toUInt16.toUInt32.toInt32) h7 hc0 (own_i2c p1) (own_i2c p2)) hZ (own_w hw 34 rfl) (own_w hw 33 rfl) (by decide) (by decide)) (by decide) (by decide) (by rw [hml]; rfl) (lenOf pd37 rfl) rfl (Nat.le_of_ble_eq_true rfl) (hb hby at_92) (fun v8 T8 L8 X8 hQ8 => ?_)
        obtain ⟨r8, kr8, rfl, M8, E8, g8, V8⟩ := hQ8
        have zz8 : h7.size ≤ T8.heap.size := E8.1
        have N8 := Fr.app N6 (fun y hy => Nat.le_trans (by omega : h0.size ≤ h7.size) (M8 y hy))
        have KP8 : Keep h0 T8.heap [] := KP7.ext E8
        have OL8 := OL0.ext (own_ext KP8)
        have SN8 := SN7.ext E8
        show own_G p e below _ (T8.setTop (mkF m 95 #[.val (.int p0), .val (.int p1), .val (.int p2), .val (.int p3), .val (.int (1 : Int32)), .val (.int c0), .val (.int (p1.toUInt32.toUInt16.toUInt32.toInt32)), .val (.int (p2.toUInt32.toUInt16.toUInt32.toInt32)), .val (.ref a1), .val (.ref a5), .unset, .unset] [(.ref r8), (.ref a7), (.ref a7)]))
        refine own_special (a := a7) (W := 1) (argsL := [(.ref r8)]) (st := [(.ref a7)]) X8 hx hZ hown rfl (own_w hw 5 rfl) (own_w hw 6 rfl) (own_w hw 7 rfl) (by decide) rfl (own_back (W := 1) (rmN1W l Z a0 hw [] a7 r8 kr8 19 ([116, 114, 105, 51, 58, 108, 111, 99, 107, 58, 123] ++ [c0] ++ [125] ++ [58, 116, 111, 107, 101, 110]) T8.heap (A7.ext E8) ((D7 (Or.inr (own_w hw 30 rfl)) (ty := (.array .byte)) (by decide)).ext E8) ((D7 (Or.inr (own_w hw 28 rfl)) (ty := .byte) (by decide)).ext E8) V8 rfl (by decide) (by decide) h0.size zn (by omega) (by omega) OL8 G1 O2 P5 G3 O4 rG3 SA1 SA2 SA3 hchx hexx) hZ (own_w hw 7 rfl) (own_w hw 4 rfl) (by decide) (by decide)) (by decide) (by decide) (by rw [hml]; rfl) (lenOf pd36 rfl) rfl (Nat.le_of_ble_eq_true rfl) (hb hby at_95) (fun v9 T9 L9 X9 hQ9 => ?_)
        obtain ⟨r9, kr9, rfl, M9, K9, g9, SE9⟩ := hQ9
        have zz9 : T8.heap.size ≤ T9.heap.size := K9.1
        have N9 := Fr.app N8 M9
        have KP9 : Keep h0 T9.heap [] := KP8.trans K9 (allS (Or.inr (by omega)) all0)
        have OL9 := OL0.ext (own_ext KP9)
        have lS1 : @LT.lt Nat instLTNat a5 h7.size := (SN7).1.lt
        have lS2 : @LT.lt Nat instLTNat a5 a7 := by have q : @LT.lt Nat instLTNat a5 T6.heap.size := SS6.1.lt; omega
        have lS3 : @LT.lt Nat instLTNat r6 a7 := by have q : @LT.lt Nat instLTNat r6 T6.heap.size := SS6.2.2.2.1.lt; omega
        have SN9 := SN8.keep K9 (ninS (own_ne (Or.inl lS2)) nin0) (ninS (own_ne (Or.inl lS3)) nin0)
        refine own_step (b := T9.setTop (mkF m 102 #[.val (.int p0), .val (.int p1), .val (.int p2), .val (.int p3), .val (.int (1 : Int32)), .val (.int c0), .val (.int (p1.toUInt32.toUInt16.toUInt32.toInt32)), .val (.int (p2.toUInt32.toUInt16.toUInt32.toInt32)), .val (.ref a1), .val (.ref a5), .val (.ref a7), .unset] [(.ref a5)])) (fun _ qk => XS.astore X9.here hx rfl (hb hby at_98) rfl rfl (l' := #[.val (.int p0), .val (.int p1), .val (.int p2), .val (.int p3), .val (.int (1 : Int32)), .val (.int c0), .val (.int (p1.toUInt32.toUInt16.toUInt32.toInt32)), .val (.int (p2.toUInt32.toUInt16.toUInt32.toInt32)), .val (.ref a1), .val (.ref a5), .val (.ref a7), .unset]) rfl (XS.aload X9.here hx rfl (hb hby at_100) rfl rfl qk)) ?_
        refine own_staticI (W := 0) (argsL := [(.ref a5)]) (st := []) X9 hx hZ hown (own_w hw 35 rfl) (own_w hw 36 rfl) (own_w hw 37 rfl) (own_w hw 38 rfl) (by decide) rfl hS (by omega) (rmLkW l Z a0 hw [] a5 r6 kr6 [c0] T9.heap SN9 (Nat.le_of_ble_eq_true rfl) (Nat.le_of_ble_eq_true rfl) hne hch hex OL9 G1 O2 P5 G3 O4 rG3 SA1 SA2 SA3 CH0 CH1 CH2 CH3 CH4 CH5 HC) (fun _ hW => own_IBw hI hW) (by decide) (by decide) (by decide) (by decide) (by rw [hml]; rfl) (lenOf pd38 rfl) rfl (Nat.le_of_ble_eq_true rfl) (hb hby at_102) (fun v10 T10 L10 vm10 k10 X10 ev10 z10 hS hk hZ hown hQ10 => ?_)
        obtain ⟨r10, tr10, kr10, rfl, M10, E10, ST10⟩ := hQ10
        have N10 := Fr.app N9 (fun y hy => Nat.le_trans (by omega : h0.size ≤ T9.heap.size) (M10 y hy))
        have KP10 : Keep h0 T10.heap [] := KP9.ext E10
        have OL10 := OL0.ext (own_ext KP10)
        have SF := SE9.ext E10
        refine own_step (b := T10.setTop (mkF m 111 #[.val (.int p0), .val (.int p1), .val (.int p2), .val (.int p3), .val (.int (1 : Int32)), .val (.int c0), .val (.int (p1.toUInt32.toUInt16.toUInt32.toInt32)), .val (.int (p2.toUInt32.toUInt16.toUInt32.toInt32)), .val (.ref a1), .val (.ref a5), .val (.ref a7), .val (.ref r10)] [(.ref a7), (.ref r10)])) (fun _ qk => XS.astore X10.here hx rfl (hb hby at_105) rfl rfl (l' := #[.val (.int p0), .val (.int p1), .val (.int p2), .val (.int p3), .val (.int (1 : Int32)), .val (.int c0), .val (.int (p1.toUInt32.toUInt16.toUInt32.toInt32)), .val (.int (p2.toUInt32.toUInt16.toUInt32.toInt32)), .val (.ref a1), .val (.ref a5), .val (.ref a7), .val (.ref r10)]) rfl (XS.aload X10.here hx rfl (hb hby at_107) rfl rfl (XS.aload X10.here hx rfl (hb hby at_109) rfl rfl qk))) ?_
        refine own_virtual (a := r10) (W := 0) (argsL := [(.ref a7)]) (st := []) X10 hx hZ hown (own_w hw 208 rfl) (own_w hw 209 rfl) (own_w hw 211 rfl) trivial (own_w hw 210 rfl) (by decide) rfl ST10.1 (own_eqT (W := 0) hZ hw (kI := 4) (own_w hw 3 rfl) (cs := ([116, 114, 105, 51, 58, 108, 111, 99, 107, 58, 123] ++ [c0] ++ [125] ++ [58, 116, 111, 107, 101, 110])) ST10 SF (Or.inr ⟨rfl, rfl, rfl, hexx⟩) hchx (by simp only [List.length_append, List.length_cons, List.length_nil]; omega) O2 P5 OL10 (by decide) (by decide)) (by decide) (by decide) (by rw [hml]; rfl) (lenOf pd39 rfl) rfl (Nat.le_of_ble_eq_true rfl) (hb hby at_111) (fun v11 T11 L11 X11 hQ11 => ?_)
        obtain ⟨rfl, rfl, hh11⟩ := hQ11
        rw [List.append_nil] at X11
        show own_G p e below _ (T11.setTop (mkF m 114 #[.val (.int p0), .val (.int p1), .val (.int p2), .val (.int p3), .val (.int (1 : Int32)), .val (.int c0), .val (.int (p1.toUInt32.toUInt16.toUInt32.toInt32)), .val (.int (p2.toUInt32.toUInt16.toUInt32.toInt32)), .val (.ref a1), .val (.ref a5), .val (.ref a7), .val (.ref r10)] [(.int (1 : Int32))]))
        exact own_retXN X11 hx hS (by rw [show T11.heap = T10.heap from hh11]; omega) hret (by simp) hlk (hb hby at_114) ⟨rfl, fun y hy => Nat.le_trans zn (N10 y hy)⟩ (by decide) (by decide)
      · show own_G p e below _ (T0.setTop (mkF m 25 #[.val (.int p0), .val (.int p1), .val (.int p2), .val (.int p3), .val (.int (1 : Int32)), .val (.int c0), .unset, .unset, .unset, .unset, .unset, .unset] []))
        have hp : ∀ c ∈ ([c0] : List Int32), ¬ c < 0 ∧ ¬ (255 : Int32) < c := fun c hc => ⟨(hch c hc).1, fun q => hno ⟨c, hc, q⟩⟩
        have hpx : ∀ c ∈ ([116, 114, 105, 51, 58, 108, 111, 99, 107, 58, 123] ++ [c0] ++ [125] ++ [58, 116, 111, 107, 101, 110]), ¬ c < 0 ∧ ¬ (255 : Int32) < c := own_all (by decide) hp (by decide) (by decide)
        refine own_step (b := T0.setTop (mkF m 35 #[.val (.int p0), .val (.int p1), .val (.int p2), .val (.int p3), .val (.int (1 : Int32)), .val (.int c0), .val (.int (p1.toUInt32.toUInt16.toUInt32.toInt32)), .val (.int (p2.toUInt32.toUInt16.toUInt32.toInt32)), .unset, .unset, .unset, .unset] [(.int (1 : Int32))])) (fun _ qk => XS.iloadN X0.here hx rfl (hb hby at_25) rfl (XT.i2c X0.here hx rfl (hb hby at_26) rfl (XS.istore X0.here hx rfl (hb hby at_27) rfl (l' := #[.val (.int p0), .val (.int p1), .val (.int p2), .val (.int p3), .val (.int (1 : Int32)), .val (.int c0), .val (.int (p1.toUInt32.toUInt16.toUInt32.toInt32)), .unset, .unset, .unset, .unset, .unset]) rfl (XS.iloadN X0.here hx rfl (hb hby at_29) rfl (XT.i2c X0.here hx rfl (hb hby at_30) rfl (XS.istore X0.here hx rfl (hb hby at_31) rfl (l' := #[.val (.int p0), .val (.int p1), .val (.int p2), .val (.int p3), .val (.int (1 : Int32)), .val (.int c0), .val (.int (p1.toUInt32.toUInt16.toUInt32.toInt32)), .val (.int (p2.toUInt32.toUInt16.toUInt32.toInt32)), .unset, .unset, .unset, .unset]) rfl (XS.iload X0.here hx rfl (hb hby at_33) rfl qk))))))) ?_
        refine own_newP X0 hx hZ (own_w hw 1 rfl) e0 (hb hby at_35) (n := (1 : Int32)) (by decide) 1 (by decide) (by decide) (by decide) (by decide) (fun T12 h12 a12 k12 X12 e12 g12 l12 E12 V12 => ?_)
        have V12' : Arv Z h12 a12 k12 .char (1 : Int32) [.int 0] (.int 0) := V12
        show own_G p e below _ (T12.setTop (mkF m 37 #[.val (.int p0), .val (.int p1), .val (.int p2), .val (.int p3), .val (.int (1 : Int32)), .val (.int c0), .val (.int (p1.toUInt32.toUInt16.toUInt32.toInt32)), .val (.int (p2.toUInt32.toUInt16.toUInt32.toInt32)), .unset, .unset, .unset, .unset] [(.ref a12)]))
        have KP12 : Keep h0 h12 [] := KP0.ext E12
        have OL12 := OL0.ext (own_ext KP12)
        refine own_step (b := T12.setTop (mkF m 44 #[.val (.int p0), .val (.int p1), .val (.int p2), .val (.int p3), .val (.int (1 : Int32)), .val (.int c0), .val (.int (p1.toUInt32.toUInt16.toUInt32.toInt32)), .val (.int (p2.toUInt32.toUInt16.toUInt32.toInt32)), .val (.ref a12), .unset, .unset, .unset] [(.int c0), (.int (0 : Int32)), (.ref a12)])) (fun _ qk => XS.astore X12.here hx rfl (hb hby at_37) rfl rfl (l' := #[.val (.int p0), .val (.int p1), .val (.int p2), .val (.int p3), .val (.int (1 : Int32)), .val (.int c0), .val (.int (p1.toUInt32.toUInt16.toUInt32.toInt32)), .val (.int (p2.toUInt32.toUInt16.toUInt32.toInt32)), .val (.ref a12), .unset, .unset, .unset]) rfl (XS.aload X12.here hx rfl (hb hby at_39) rfl rfl (XS.iconst X12.here hx rfl (hb hby at_41) (XS.iload X12.here hx rfl (hb hby at_42) rfl qk)))) ?_
        refine own_stC X12 hx hZ e12 V12' 0 (by decide) (by decide) (by decide) (Nat.le_of_ble_eq_true rfl) N0 (by omega) (hb hby at_44) (fun T13 h13 X13 e13 N13 W13 z13 V13 => ?_)
        have V13' : Arv Z h13 a12 k12 .char (1 : Int32) [.int (nar .char c0)] (.int 0) := V13
        show own_G p e below _ (T13.setTop (mkF m 45 #[.val (.int p0), .val (.int p1), .val (.int p2), .val (.int p3), .val (.int (1 : Int32)), .val (.int c0), .val (.int (p1.toUInt32.toUInt16.toUInt32.toInt32)), .val (.int (p2.toUInt32.toUInt16.toUInt32.toInt32)), .val (.ref a12), .unset, .unset, .unset] []))
        have KP13 : Keep h0 h13 [] := KP12.wr W13 (Or.inr (by omega))
        have OL13 := OL0.ext (own_ext KP13)
        refine own_step (b := T13.setTop (mkF m 48 #[.val (.int p0), .val (.int p1), .val (.int p2), .val (.int p3), .val (.int (1 : Int32)), .val (.int c0), .val (.int (p1.toUInt32.toUInt16.toUInt32.toInt32)), .val (.int (p2.toUInt32.toUInt16.toUInt32.toInt32)), .val (.ref a12), .unset, .unset, .unset] [(.int (2 : Int32)), (.int (1 : Int32))])) (fun _ qk => XS.iload X13.here hx rfl (hb hby at_45) rfl (XS.iconst X13.here hx rfl (hb hby at_47) qk)) ?_
        refine own_icmp_lt X13 hx (hb hby at_48) (pc' := 57) (by decide) (by decide) (fun c48_14 => ?_) (fun c48_14 => absurd c48_14 (by decide))
        refine own_step (b := T13.setTop (mkF m 60 #[.val (.int p0), .val (.int p1), .val (.int p2), .val (.int p3), .val (.int (1 : Int32)), .val (.int c0), .val (.int (p1.toUInt32.toUInt16.toUInt32.toInt32)), .val (.int (p2.toUInt32.toUInt16.toUInt32.toInt32)), .val (.ref a12), .unset, .unset, .unset] [(.int (3 : Int32)), (.int (1 : Int32))])) (fun _ qk => XS.iload X13.here hx rfl (hb hby at_57) rfl (XS.iconst X13.here hx rfl (hb hby at_59) qk)) ?_
        refine own_icmp_lt X13 hx (hb hby at_60) (pc' := 69) (by decide) (by decide) (fun c60_15 => ?_) (fun c60_15 => absurd c60_15 (by decide))
        show own_G p e below _ (T13.setTop (mkF m 69 #[.val (.int p0), .val (.int p1), .val (.int p2), .val (.int p3), .val (.int (1 : Int32)), .val (.int c0), .val (.int (p1.toUInt32.toUInt16.toUInt32.toInt32)), .val (.int (p2.toUInt32.toUInt16.toUInt32.toInt32)), .val (.ref a12), .unset, .unset, .unset] []))
        have VN : Arv Z h13 a12 k12 .char (Int32.ofNat 1) ([c0].map Value.int) (.int 0) := by have q := V13'; rw [own_narW hc0] at q; exact q
        refine own_newO X13 hx hZ hown (own_w hw 2 rfl) (own_w hw 3 rfl) (own_w hw 4 rfl) e13 (hb hby at_69) (by decide) (by decide) (fun T16 h16 a16 X16 e16 g16 l16 E16 A16 D16 => ?_)
        show own_G p e below _ (T16.setTop (mkF m 72 #[.val (.int p0), .val (.int p1), .val (.int p2), .val (.int p3), .val (.int (1 : Int32)), .val (.int c0), .val (.int (p1.toUInt32.toUInt16.toUInt32.toInt32)), .val (.int (p2.toUInt32.toUInt16.toUInt32.toInt32)), .val (.ref a12), .unset, .unset, .unset] [(.ref a16)]))
        have KP16 : Keep h0 h16 [] := KP13.ext E16
        have OL16 := OL0.ext (own_ext KP16)
        refine own_step (b := T16.setTop (mkF m 75 #[.val (.int p0), .val (.int p1), .val (.int p2), .val (.int p3), .val (.int (1 : Int32)), .val (.int c0), .val (.int (p1.toUInt32.toUInt16.toUInt32.toInt32)), .val (.int (p2.toUInt32.toUInt16.toUInt32.toInt32)), .val (.ref a12), .unset, .unset, .unset] [(.ref a12), (.ref a16), (.ref a16)])) (fun _ qk => XS.dup X16.here hx rfl (hb hby at_72) rfl rfl (XS.aload X16.here hx rfl (hb hby at_73) rfl rfl qk)) ?_
        refine own_special (a := a16) (W := 1) (argsL := [(.ref a12)]) (st := [(.ref a16)]) X16 hx hZ hown rfl (own_w hw 5 rfl) (own_w hw 6 rfl) (own_w hw 7 rfl) (by decide) e16 (own_back (W := 1) (rmN1L l Z a0 hw [] a16 a12 k12 1 [c0] h16 (A16) ((D16 (Or.inr (own_w hw 30 rfl)) (ty := (.array .byte)) (by decide))) ((D16 (Or.inr (own_w hw 28 rfl)) (ty := .byte) (by decide))) (VN.ext E16) rfl (by decide) (by decide) h0.size zn (by omega) (by omega) OL16 G1 O2 P5 G3 O4 rG3 SA1 SA2 SA3 hp) hZ (own_w hw 7 rfl) (own_w hw 4 rfl) (by decide) (by decide)) (by decide) (by decide) (by rw [hml]; rfl) (lenOf pd36 rfl) rfl (Nat.le_of_ble_eq_true rfl) (hb hby at_75) (fun v17 T17 L17 X17 hQ17 => ?_)
        obtain ⟨r17, kr17, rfl, M17, K17, g17, SS17⟩ := hQ17
        have zz17 : h16.size ≤ T17.heap.size := K17.1
        have N17 := Fr.app N13 M17
        have KP17 : Keep h0 T17.heap [] := KP16.trans K17 (allS (Or.inr (by omega)) all0)
        have OL17 := OL0.ext (own_ext KP17)
        refine own_step (b := T17.setTop (mkF m 80 #[.val (.int p0), .val (.int p1), .val (.int p2), .val (.int p3), .val (.int (1 : Int32)), .val (.int c0), .val (.int (p1.toUInt32.toUInt16.toUInt32.toInt32)), .val (.int (p2.toUInt32.toUInt16.toUInt32.toInt32)), .val (.ref a12), .val (.ref a16), .unset, .unset] [])) (fun _ qk => XS.astore X17.here hx rfl (hb hby at_78) rfl rfl (l' := #[.val (.int p0), .val (.int p1), .val (.int p2), .val (.int p3), .val (.int (1 : Int32)), .val (.int c0), .val (.int (p1.toUInt32.toUInt16.toUInt32.toInt32)), .val (.int (p2.toUInt32.toUInt16.toUInt32.toInt32)), .val (.ref a12), .val (.ref a16), .unset, .unset]) rfl qk) ?_
        refine own_newO X17 hx hZ hown (own_w hw 2 rfl) (own_w hw 3 rfl) (own_w hw 4 rfl) rfl (hb hby at_80) (by decide) (by decide) (fun T18 h18 a18 X18 e18 g18 l18 E18 A18 D18 => ?_)
        show own_G p e below _ (T18.setTop (mkF m 83 #[.val (.int p0), .val (.int p1), .val (.int p2), .val (.int p3), .val (.int (1 : Int32)), .val (.int c0), .val (.int (p1.toUInt32.toUInt16.toUInt32.toInt32)), .val (.int (p2.toUInt32.toUInt16.toUInt32.toInt32)), .val (.ref a12), .val (.ref a16), .unset, .unset] [(.ref a18)]))
        have KP18 : Keep h0 h18 [] := KP17.ext E18
        have OL18 := OL0.ext (own_ext KP18)
        show own_G p e below _ (T18.setTop (mkF m 83 #[.val (.int p0), .val (.int p1), .val (.int p2), .val (.int p3), .val (.int (1 : Int32)), .val (.int c0), .val (.int (p1.toUInt32.toUInt16.toUInt32.toInt32)), .val (.int (p2.toUInt32.toUInt16.toUInt32.toInt32)), .val (.ref a12), .val (.ref a16), .unset, .unset] [(.ref a18)]))
        have SN18 := SS17.ext E18
        refine own_step (b := T18.setTop (mkF m 92 #[.val (.int p0), .val (.int p1), .val (.int p2), .val (.int p3), .val (.int (1 : Int32)), .val (.int c0), .val (.int (p1.toUInt32.toUInt16.toUInt32.toInt32)), .val (.int (p2.toUInt32.toUInt16.toUInt32.toInt32)), .val (.ref a12), .val (.ref a16), .unset, .unset] [(.int (1 : Int32)), (.int (p2.toUInt32.toUInt16.toUInt32.toInt32)), (.int (p1.toUInt32.toUInt16.toUInt32.toInt32)), (.int c0), (.ref a18), (.ref a18)])) (fun _ qk => XS.dup X18.here hx rfl (hb hby at_83) rfl rfl (XS.iload X18.here hx rfl (hb hby at_84) rfl (XS.iload X18.here hx rfl (hb hby at_86) rfl (XS.iload X18.here hx rfl (hb hby at_88) rfl (XS.iload X18.here hx rfl (hb hby at_90) rfl qk))))) ?_
        refine own_static (W := 2) (argsL := [(.int c0), (.int (p1.toUInt32.toUInt16.toUInt32.toInt32)), (.int (p2.toUInt32.toUInt16.toUInt32.toInt32)), (.int (1 : Int32))]) (st := [(.ref a18), (.ref a18)]) X18 hx hZ hown (own_w hw 31 rfl) (own_w hw 32 rfl) (own_w hw 33 rfl) (own_w hw 34 rfl) (by decide) e18 (own_back (W := 2) (rmExp1 l Z a0 hw [] c0 (p1.toUInt32.toUInt16.toUInt32.toInt32) (p2.toUInt32.toUInt16.toUInt32.toInt32) h18 hc0 (own_i2c p1) (own_i2c p2)) hZ (own_w hw 34 rfl) (own_w hw 33 rfl) (by decide) (by decide)) (by decide) (by decide) (by rw [hml]; rfl) (lenOf pd37 rfl) rfl (Nat.le_of_ble_eq_true rfl) (hb hby at_92) (fun v19 T19 L19 X19 hQ19 => ?_)
        obtain ⟨r19, kr19, rfl, M19, E19, g19, V19⟩ := hQ19
        have zz19 : h18.size ≤ T19.heap.size := E19.1
        have N19 := Fr.app N17 (fun y hy => Nat.le_trans (by omega : h0.size ≤ h18.size) (M19 y hy))
        have KP19 : Keep h0 T19.heap [] := KP18.ext E19
        have OL19 := OL0.ext (own_ext KP19)
        have SN19 := SN18.ext E19
        show own_G p e below _ (T19.setTop (mkF m 95 #[.val (.int p0), .val (.int p1), .val (.int p2), .val (.int p3), .val (.int (1 : Int32)), .val (.int c0), .val (.int (p1.toUInt32.toUInt16.toUInt32.toInt32)), .val (.int (p2.toUInt32.toUInt16.toUInt32.toInt32)), .val (.ref a12), .val (.ref a16), .unset, .unset] [(.ref r19), (.ref a18), (.ref a18)]))
        refine own_special (a := a18) (W := 1) (argsL := [(.ref r19)]) (st := [(.ref a18)]) X19 hx hZ hown rfl (own_w hw 5 rfl) (own_w hw 6 rfl) (own_w hw 7 rfl) (by decide) rfl (own_back (W := 1) (rmN1L l Z a0 hw [] a18 r19 kr19 19 ([116, 114, 105, 51, 58, 108, 111, 99, 107, 58, 123] ++ [c0] ++ [125] ++ [58, 116, 111, 107, 101, 110]) T19.heap (A18.ext E19) ((D18 (Or.inr (own_w hw 30 rfl)) (ty := (.array .byte)) (by decide)).ext E19) ((D18 (Or.inr (own_w hw 28 rfl)) (ty := .byte) (by decide)).ext E19) V19 rfl (by decide) (by decide) h0.size zn (by omega) (by omega) OL19 G1 O2 P5 G3 O4 rG3 SA1 SA2 SA3 hpx) hZ (own_w hw 7 rfl) (own_w hw 4 rfl) (by decide) (by decide)) (by decide) (by decide) (by rw [hml]; rfl) (lenOf pd36 rfl) rfl (Nat.le_of_ble_eq_true rfl) (hb hby at_95) (fun v20 T20 L20 X20 hQ20 => ?_)
        obtain ⟨r20, kr20, rfl, M20, K20, g20, SE20⟩ := hQ20
        have zz20 : T19.heap.size ≤ T20.heap.size := K20.1
        have N20 := Fr.app N19 M20
        have KP20 : Keep h0 T20.heap [] := KP19.trans K20 (allS (Or.inr (by omega)) all0)
        have OL20 := OL0.ext (own_ext KP20)
        have lS1 : @LT.lt Nat instLTNat a16 h18.size := (SN18).1.lt
        have lS2 : @LT.lt Nat instLTNat a16 a18 := by have q : @LT.lt Nat instLTNat a16 T17.heap.size := SS17.1.lt; omega
        have lS3 : @LT.lt Nat instLTNat r17 a18 := by have q : @LT.lt Nat instLTNat r17 T17.heap.size := SS17.2.2.2.1.lt; omega
        have SN20 := SN19.keep K20 (ninS (own_ne (Or.inl lS2)) nin0) (ninS (own_ne (Or.inl lS3)) nin0)
        refine own_step (b := T20.setTop (mkF m 102 #[.val (.int p0), .val (.int p1), .val (.int p2), .val (.int p3), .val (.int (1 : Int32)), .val (.int c0), .val (.int (p1.toUInt32.toUInt16.toUInt32.toInt32)), .val (.int (p2.toUInt32.toUInt16.toUInt32.toInt32)), .val (.ref a12), .val (.ref a16), .val (.ref a18), .unset] [(.ref a16)])) (fun _ qk => XS.astore X20.here hx rfl (hb hby at_98) rfl rfl (l' := #[.val (.int p0), .val (.int p1), .val (.int p2), .val (.int p3), .val (.int (1 : Int32)), .val (.int c0), .val (.int (p1.toUInt32.toUInt16.toUInt32.toInt32)), .val (.int (p2.toUInt32.toUInt16.toUInt32.toInt32)), .val (.ref a12), .val (.ref a16), .val (.ref a18), .unset]) rfl (XS.aload X20.here hx rfl (hb hby at_100) rfl rfl qk)) ?_
        refine own_staticI (W := 0) (argsL := [(.ref a16)]) (st := []) X20 hx hZ hown (own_w hw 35 rfl) (own_w hw 36 rfl) (own_w hw 37 rfl) (own_w hw 38 rfl) (by decide) rfl hS (by omega) (rmLkL l Z a0 hw [] a16 r17 kr17 [c0] T20.heap SN20 (Nat.le_of_ble_eq_true rfl) (Nat.le_of_ble_eq_true rfl) hne hp OL20 G1 O2 P5 G3 O4 rG3 SA1 SA2 SA3 CH0 CH1 CH2 CH3 CH4 CH5 HC) (fun _ hW => own_IBw hI hW) (by decide) (by decide) (by decide) (by decide) (by rw [hml]; rfl) (lenOf pd38 rfl) rfl (Nat.le_of_ble_eq_true rfl) (hb hby at_102) (fun v21 T21 L21 vm21 k21 X21 ev21 z21 hS hk hZ hown hQ21 => ?_)
        obtain ⟨r21, tr21, kr21, rfl, M21, E21, ST21⟩ := hQ21
        have N21 := Fr.app N20 (fun y hy => Nat.le_trans (by omega : h0.size ≤ T20.heap.size) (M21 y hy))
        have KP21 : Keep h0 T21.heap [] := KP20.ext E21
        have OL21 := OL0.ext (own_ext KP21)
        have SF := SE20.ext E21
        refine own_step (b := T21.setTop (mkF m 111 #[.val (.int p0), .val (.int p1), .val (.int p2), .val (.int p3), .val (.int (1 : Int32)), .val (.int c0), .val (.int (p1.toUInt32.toUInt16.toUInt32.toInt32)), .val (.int (p2.toUInt32.toUInt16.toUInt32.toInt32)), .val (.ref a12), .val (.ref a16), .val (.ref a18), .val (.ref r21)] [(.ref a18), (.ref r21)])) (fun _ qk => XS.astore X21.here hx rfl (hb hby at_105) rfl rfl (l' := #[.val (.int p0), .val (.int p1), .val (.int p2), .val (.int p3), .val (.int (1 : Int32)), .val (.int c0), .val (.int (p1.toUInt32.toUInt16.toUInt32.toInt32)), .val (.int (p2.toUInt32.toUInt16.toUInt32.toInt32)), .val (.ref a12), .val (.ref a16), .val (.ref a18), .val (.ref r21)]) rfl (XS.aload X21.here hx rfl (hb hby at_107) rfl rfl (XS.aload X21.here hx rfl (hb hby at_109) rfl rfl qk))) ?_
        refine own_virtual (a := r21) (W := 0) (argsL := [(.ref a18)]) (st := []) X21 hx hZ hown (own_w hw 208 rfl) (own_w hw 209 rfl) (own_w hw 211 rfl) trivial (own_w hw 210 rfl) (by decide) rfl ST21.1 (own_eqT (W := 0) hZ hw (kI := 4) (own_w hw 3 rfl) (cs := ([116, 114, 105, 51, 58, 108, 111, 99, 107, 58, 123] ++ [c0] ++ [125] ++ [58, 116, 111, 107, 101, 110])) ST21 SF (Or.inl ⟨rfl, rfl, rfl, fun c hc => (hpx c hc).2⟩) (fun c hc => own_w1 (hpx c hc)) (by simp only [List.length_append, List.length_cons, List.length_nil]; omega) O2 P5 OL21 (by decide) (by decide)) (by decide) (by decide) (by rw [hml]; rfl) (lenOf pd39 rfl) rfl (Nat.le_of_ble_eq_true rfl) (hb hby at_111) (fun v22 T22 L22 X22 hQ22 => ?_)
        obtain ⟨rfl, rfl, hh22⟩ := hQ22
        rw [List.append_nil] at X22
        show own_G p e below _ (T22.setTop (mkF m 114 #[.val (.int p0), .val (.int p1), .val (.int p2), .val (.int p3), .val (.int (1 : Int32)), .val (.int c0), .val (.int (p1.toUInt32.toUInt16.toUInt32.toInt32)), .val (.int (p2.toUInt32.toUInt16.toUInt32.toInt32)), .val (.ref a12), .val (.ref a16), .val (.ref a18), .val (.ref r21)] [(.int (1 : Int32))]))
        exact own_retXN X22 hx hS (by rw [show T22.heap = T21.heap from hh22]; omega) hret (by simp) hlk (hb hby at_114) ⟨rfl, fun y hy => Nat.le_trans zn (N21 y hy)⟩ (by decide) (by decide)
    show own_G p e below _ (T0.setTop (mkF m 18 #[.val (.int p0), .val (.int p1), .val (.int p2), .val (.int p3), .val (.int (1 : Int32)), .val (.int (p0.toUInt32.toUInt16.toUInt32.toInt32)), .unset, .unset, .unset, .unset, .unset, .unset] [(.int (125 : Int32)), (.int (p0.toUInt32.toUInt16.toUInt32.toInt32))]))
    refine own_icmp_ne X0 hx (hb hby at_18) (pc' := 25) (by decide) (by decide) (fun c18 => ?_) (fun c18 => ?_)
    · show own_G p e below _ (T0.setTop (mkF m 25 #[.val (.int p0), .val (.int p1), .val (.int p2), .val (.int p3), .val (.int (1 : Int32)), .val (.int (p0.toUInt32.toUInt16.toUInt32.toInt32)), .unset, .unset, .unset, .unset, .unset, .unset] []))
      exact tail _ (own_i2c p0) c18
    · show own_G p e below _ (T0.setTop (mkF m 21 #[.val (.int p0), .val (.int p1), .val (.int p2), .val (.int p3), .val (.int (1 : Int32)), .val (.int (p0.toUInt32.toUInt16.toUInt32.toInt32)), .unset, .unset, .unset, .unset, .unset, .unset] []))
      refine own_step (b := T0.setTop (mkF m 25 #[.val (.int p0), .val (.int p1), .val (.int p2), .val (.int p3), .val (.int (1 : Int32)), .val (.int (124 : Int32)), .unset, .unset, .unset, .unset, .unset, .unset] [])) (fun _ qk => XS.bipush X0.here hx rfl (hb hby at_21) (XS.istore X0.here hx rfl (hb hby at_23) rfl (l' := #[.val (.int p0), .val (.int p1), .val (.int p2), .val (.int p3), .val (.int (1 : Int32)), .val (.int (124 : Int32)), .unset, .unset, .unset, .unset, .unset, .unset]) rfl qk)) ?_
      exact tail 124 (by decide) (by decide)
  · show own_G p e below _ (T0.setTop (mkF m 8 #[.val (.int p0), .val (.int p1), .val (.int p2), .val (.int p3), .unset, .unset, .unset, .unset, .unset, .unset, .unset, .unset] [(.int (((p3 &&& (2147483647 : Int32)) % (3 : Int32)) + (1 : Int32)))]))
    rw [qn]
    refine own_step (b := T0.setTop (mkF m 18 #[.val (.int p0), .val (.int p1), .val (.int p2), .val (.int p3), .val (.int (2 : Int32)), .val (.int (p0.toUInt32.toUInt16.toUInt32.toInt32)), .unset, .unset, .unset, .unset, .unset, .unset] [(.int (125 : Int32)), (.int (p0.toUInt32.toUInt16.toUInt32.toInt32))])) (fun _ qk => XS.istore X0.here hx rfl (hb hby at_8) rfl (l' := #[.val (.int p0), .val (.int p1), .val (.int p2), .val (.int p3), .val (.int (2 : Int32)), .unset, .unset, .unset, .unset, .unset, .unset, .unset]) rfl (XS.iloadN X0.here hx rfl (hb hby at_10) rfl (XT.i2c X0.here hx rfl (hb hby at_11) rfl (XS.istore X0.here hx rfl (hb hby at_12) rfl (l' := #[.val (.int p0), .val (.int p1), .val (.int p2), .val (.int p3), .val (.int (2 : Int32)), .val (.int (p0.toUInt32.toUInt16.toUInt32.toInt32)), .unset, .unset, .unset, .unset, .unset, .unset]) rfl (XS.iload X0.here hx rfl (hb hby at_14) rfl (XS.bipush X0.here hx rfl (hb hby at_16) qk)))))) ?_
    have tail : ∀ (c0 : Int32), own_C c0 → ¬ c0 = (125 : Int32) → own_G p e below (own_FI s (fun v vm h L => v = some (.int 1) ∧ Fr Z.heap.size L) room_1.cells room_1.slots) (T0.setTop (mkF m 25 #[.val (.int p0), .val (.int p1), .val (.int p2), .val (.int p3), .val (.int (2 : Int32)), .val (.int c0), .unset, .unset, .unset, .unset, .unset, .unset] [])) := by
      intro c0 hc0 hne
      have hch : ∀ c ∈ ([c0, (p1.toUInt32.toUInt16.toUInt32.toInt32)] : List Int32), own_C c := (own_aS hc0 (own_aS (own_i2c p1) own_a0))
      rcases Classical.em (∃ c ∈ ([c0, (p1.toUInt32.toUInt16.toUInt32.toInt32)] : List Int32), (255 : Int32) < c) with hex | hno
      · show own_G p e below _ (T0.setTop (mkF m 25 #[.val (.int p0), .val (.int p1), .val (.int p2), .val (.int p3), .val (.int (2 : Int32)), .val (.int c0), .unset, .unset, .unset, .unset, .unset, .unset] []))
        have hchx : ∀ c ∈ ([116, 114, 105, 51, 58, 108, 111, 99, 107, 58, 123] ++ [c0, (p1.toUInt32.toUInt16.toUInt32.toInt32)] ++ [125] ++ [58, 116, 111, 107, 101, 110]), own_C c := own_all (by decide) hch (by decide) (by decide)
        have hexx : ∃ c ∈ ([116, 114, 105, 51, 58, 108, 111, 99, 107, 58, 123] ++ [c0, (p1.toUInt32.toUInt16.toUInt32.toInt32)] ++ [125] ++ [58, 116, 111, 107, 101, 110]), (255 : Int32) < c := own_exi hex
        refine own_step (b := T0.setTop (mkF m 35 #[.val (.int p0), .val (.int p1), .val (.int p2), .val (.int p3), .val (.int (2 : Int32)), .val (.int c0), .val (.int (p1.toUInt32.toUInt16.toUInt32.toInt32)), .val (.int (p2.toUInt32.toUInt16.toUInt32.toInt32)), .unset, .unset, .unset, .unset] [(.int (2 : Int32))])) (fun _ qk => XS.iloadN X0.here hx rfl (hb hby at_25) rfl (XT.i2c X0.here hx rfl (hb hby at_26) rfl (XS.istore X0.here hx rfl (hb hby at_27) rfl (l' := #[.val (.int p0), .val (.int p1), .val (.int p2), .val (.int p3), .val (.int (2 : Int32)), .val (.int c0), .val (.int (p1.toUInt32.toUInt16.toUInt32.toInt32)), .unset, .unset, .unset, .unset, .unset]) rfl (XS.iloadN X0.here hx rfl (hb hby at_29) rfl (XT.i2c X0.here hx rfl (hb hby at_30) rfl (XS.istore X0.here hx rfl (hb hby at_31) rfl (l' := #[.val (.int p0), .val (.int p1), .val (.int p2), .val (.int p3), .val (.int (2 : Int32)), .val (.int c0), .val (.int (p1.toUInt32.toUInt16.toUInt32.toInt32)), .val (.int (p2.toUInt32.toUInt16.toUInt32.toInt32)), .unset, .unset, .unset, .unset]) rfl (XS.iload X0.here hx rfl (hb hby at_33) rfl qk))))))) ?_
        refine own_newP X0 hx hZ (own_w hw 1 rfl) e0 (hb hby at_35) (n := (2 : Int32)) (by decide) 2 (by decide) (by decide) (by decide) (by decide) (fun T23 h23 a23 k23 X23 e23 g23 l23 E23 V23 => ?_)
        have V23' : Arv Z h23 a23 k23 .char (2 : Int32) [.int 0, .int 0] (.int 0) := V23
        show own_G p e below _ (T23.setTop (mkF m 37 #[.val (.int p0), .val (.int p1), .val (.int p2), .val (.int p3), .val (.int (2 : Int32)), .val (.int c0), .val (.int (p1.toUInt32.toUInt16.toUInt32.toInt32)), .val (.int (p2.toUInt32.toUInt16.toUInt32.toInt32)), .unset, .unset, .unset, .unset] [(.ref a23)]))
        have KP23 : Keep h0 h23 [] := KP0.ext E23
        have OL23 := OL0.ext (own_ext KP23)
        refine own_step (b := T23.setTop (mkF m 44 #[.val (.int p0), .val (.int p1), .val (.int p2), .val (.int p3), .val (.int (2 : Int32)), .val (.int c0), .val (.int (p1.toUInt32.toUInt16.toUInt32.toInt32)), .val (.int (p2.toUInt32.toUInt16.toUInt32.toInt32)), .val (.ref a23), .unset, .unset, .unset] [(.int c0), (.int (0 : Int32)), (.ref a23)])) (fun _ qk => XS.astore X23.here hx rfl (hb hby at_37) rfl rfl (l' := #[.val (.int p0), .val (.int p1), .val (.int p2), .val (.int p3), .val (.int (2 : Int32)), .val (.int c0), .val (.int (p1.toUInt32.toUInt16.toUInt32.toInt32)), .val (.int (p2.toUInt32.toUInt16.toUInt32.toInt32)), .val (.ref a23), .unset, .unset, .unset]) rfl (XS.aload X23.here hx rfl (hb hby at_39) rfl rfl (XS.iconst X23.here hx rfl (hb hby at_41) (XS.iload X23.here hx rfl (hb hby at_42) rfl qk)))) ?_
        refine own_stC X23 hx hZ e23 V23' 0 (by decide) (by decide) (by decide) (Nat.le_of_ble_eq_true rfl) N0 (by omega) (hb hby at_44) (fun T24 h24 X24 e24 N24 W24 z24 V24 => ?_)
        have V24' : Arv Z h24 a23 k23 .char (2 : Int32) [.int (nar .char c0), .int 0] (.int 0) := V24
        show own_G p e below _ (T24.setTop (mkF m 45 #[.val (.int p0), .val (.int p1), .val (.int p2), .val (.int p3), .val (.int (2 : Int32)), .val (.int c0), .val (.int (p1.toUInt32.toUInt16.toUInt32.toInt32)), .val (.int (p2.toUInt32.toUInt16.toUInt32.toInt32)), .val (.ref a23), .unset, .unset, .unset] []))
        have KP24 : Keep h0 h24 [] := KP23.wr W24 (Or.inr (by omega))
        have OL24 := OL0.ext (own_ext KP24)
        refine own_step (b := T24.setTop (mkF m 48 #[.val (.int p0), .val (.int p1), .val (.int p2), .val (.int p3), .val (.int (2 : Int32)), .val (.int c0), .val (.int (p1.toUInt32.toUInt16.toUInt32.toInt32)), .val (.int (p2.toUInt32.toUInt16.toUInt32.toInt32)), .val (.ref a23), .unset, .unset, .unset] [(.int (2 : Int32)), (.int (2 : Int32))])) (fun _ qk => XS.iload X24.here hx rfl (hb hby at_45) rfl (XS.iconst X24.here hx rfl (hb hby at_47) qk)) ?_
        refine own_icmp_lt X24 hx (hb hby at_48) (pc' := 57) (by decide) (by decide) (fun c48_25 => absurd c48_25 (by decide)) (fun c48_25 => ?_)
        refine own_step (b := T24.setTop (mkF m 56 #[.val (.int p0), .val (.int p1), .val (.int p2), .val (.int p3), .val (.int (2 : Int32)), .val (.int c0), .val (.int (p1.toUInt32.toUInt16.toUInt32.toInt32)), .val (.int (p2.toUInt32.toUInt16.toUInt32.toInt32)), .val (.ref a23), .unset, .unset, .unset] [(.int (p1.toUInt32.toUInt16.toUInt32.toInt32)), (.int (1 : Int32)), (.ref a23)])) (fun _ qk => XS.aload X24.here hx rfl (hb hby at_51) rfl rfl (XS.iconst X24.here hx rfl (hb hby at_53) (XS.iload X24.here hx rfl (hb hby at_54) rfl qk))) ?_
        refine own_stC X24 hx hZ e24 V24' 1 (by decide) (by decide) (by decide) (Nat.le_of_ble_eq_true rfl) N24 (by omega) (hb hby at_56) (fun T26 h26 X26 e26 N26 W26 z26 V26 => ?_)
        have V26' : Arv Z h26 a23 k23 .char (2 : Int32) [.int (nar .char c0), .int (nar .char (p1.toUInt32.toUInt16.toUInt32.toInt32))] (.int 0) := V26
        show own_G p e below _ (T26.setTop (mkF m 57 #[.val (.int p0), .val (.int p1), .val (.int p2), .val (.int p3), .val (.int (2 : Int32)), .val (.int c0), .val (.int (p1.toUInt32.toUInt16.toUInt32.toInt32)), .val (.int (p2.toUInt32.toUInt16.toUInt32.toInt32)), .val (.ref a23), .unset, .unset, .unset] []))
        have KP26 : Keep h0 h26 [] := KP24.wr W26 (Or.inr (by omega))
        have OL26 := OL0.ext (own_ext KP26)
        refine own_step (b := T26.setTop (mkF m 60 #[.val (.int p0), .val (.int p1), .val (.int p2), .val (.int p3), .val (.int (2 : Int32)), .val (.int c0), .val (.int (p1.toUInt32.toUInt16.toUInt32.toInt32)), .val (.int (p2.toUInt32.toUInt16.toUInt32.toInt32)), .val (.ref a23), .unset, .unset, .unset] [(.int (3 : Int32)), (.int (2 : Int32))])) (fun _ qk => XS.iload X26.here hx rfl (hb hby at_57) rfl (XS.iconst X26.here hx rfl (hb hby at_59) qk)) ?_
        refine own_icmp_lt X26 hx (hb hby at_60) (pc' := 69) (by decide) (by decide) (fun c60_27 => ?_) (fun c60_27 => absurd c60_27 (by decide))
        show own_G p e below _ (T26.setTop (mkF m 69 #[.val (.int p0), .val (.int p1), .val (.int p2), .val (.int p3), .val (.int (2 : Int32)), .val (.int c0), .val (.int (p1.toUInt32.toUInt16.toUInt32.toInt32)), .val (.int (p2.toUInt32.toUInt16.toUInt32.toInt32)), .val (.ref a23), .unset, .unset, .unset] []))
        have VN : Arv Z h26 a23 k23 .char (Int32.ofNat 2) ([c0, (p1.toUInt32.toUInt16.toUInt32.toInt32)].map Value.int) (.int 0) := by have q := V26'; rw [own_narW hc0, own_narW (own_i2c p1)] at q; exact q
        refine own_newO X26 hx hZ hown (own_w hw 2 rfl) (own_w hw 3 rfl) (own_w hw 4 rfl) e26 (hb hby at_69) (by decide) (by decide) (fun T28 h28 a28 X28 e28 g28 l28 E28 A28 D28 => ?_)
        show own_G p e below _ (T28.setTop (mkF m 72 #[.val (.int p0), .val (.int p1), .val (.int p2), .val (.int p3), .val (.int (2 : Int32)), .val (.int c0), .val (.int (p1.toUInt32.toUInt16.toUInt32.toInt32)), .val (.int (p2.toUInt32.toUInt16.toUInt32.toInt32)), .val (.ref a23), .unset, .unset, .unset] [(.ref a28)]))
        have KP28 : Keep h0 h28 [] := KP26.ext E28
        have OL28 := OL0.ext (own_ext KP28)
        refine own_step (b := T28.setTop (mkF m 75 #[.val (.int p0), .val (.int p1), .val (.int p2), .val (.int p3), .val (.int (2 : Int32)), .val (.int c0), .val (.int (p1.toUInt32.toUInt16.toUInt32.toInt32)), .val (.int (p2.toUInt32.toUInt16.toUInt32.toInt32)), .val (.ref a23), .unset, .unset, .unset] [(.ref a23), (.ref a28), (.ref a28)])) (fun _ qk => XS.dup X28.here hx rfl (hb hby at_72) rfl rfl (XS.aload X28.here hx rfl (hb hby at_73) rfl rfl qk)) ?_
        refine own_special (a := a28) (W := 1) (argsL := [(.ref a23)]) (st := [(.ref a28)]) X28 hx hZ hown rfl (own_w hw 5 rfl) (own_w hw 6 rfl) (own_w hw 7 rfl) (by decide) e28 (own_back (W := 1) (rmN1W l Z a0 hw [] a28 a23 k23 2 [c0, (p1.toUInt32.toUInt16.toUInt32.toInt32)] h28 (A28) ((D28 (Or.inr (own_w hw 30 rfl)) (ty := (.array .byte)) (by decide))) ((D28 (Or.inr (own_w hw 28 rfl)) (ty := .byte) (by decide))) (VN.ext E28) rfl (by decide) (by decide) h0.size zn (by omega) (by omega) OL28 G1 O2 P5 G3 O4 rG3 SA1 SA2 SA3 hch hex) hZ (own_w hw 7 rfl) (own_w hw 4 rfl) (by decide) (by decide)) (by decide) (by decide) (by rw [hml]; rfl) (lenOf pd36 rfl) rfl (Nat.le_of_ble_eq_true rfl) (hb hby at_75) (fun v29 T29 L29 X29 hQ29 => ?_)
        obtain ⟨r29, kr29, rfl, M29, K29, g29, SS29⟩ := hQ29
        have zz29 : h28.size ≤ T29.heap.size := K29.1
        have N29 := Fr.app N26 M29
        have KP29 : Keep h0 T29.heap [] := KP28.trans K29 (allS (Or.inr (by omega)) all0)
        have OL29 := OL0.ext (own_ext KP29)
        refine own_step (b := T29.setTop (mkF m 80 #[.val (.int p0), .val (.int p1), .val (.int p2), .val (.int p3), .val (.int (2 : Int32)), .val (.int c0), .val (.int (p1.toUInt32.toUInt16.toUInt32.toInt32)), .val (.int (p2.toUInt32.toUInt16.toUInt32.toInt32)), .val (.ref a23), .val (.ref a28), .unset, .unset] [])) (fun _ qk => XS.astore X29.here hx rfl (hb hby at_78) rfl rfl (l' := #[.val (.int p0), .val (.int p1), .val (.int p2), .val (.int p3), .val (.int (2 : Int32)), .val (.int c0), .val (.int (p1.toUInt32.toUInt16.toUInt32.toInt32)), .val (.int (p2.toUInt32.toUInt16.toUInt32.toInt32)), .val (.ref a23), .val (.ref a28), .unset, .unset]) rfl qk) ?_
        refine own_newO X29 hx hZ hown (own_w hw 2 rfl) (own_w hw 3 rfl) (own_w hw 4 rfl) rfl (hb hby at_80) (by decide) (by decide) (fun T30 h30 a30 X30 e30 g30 l30 E30 A30 D30 => ?_)
        show own_G p e below _ (T30.setTop (mkF m 83 #[.val (.int p0), .val (.int p1), .val (.int p2), .val (.int p3), .val (.int (2 : Int32)), .val (.int c0), .val (.int (p1.toUInt32.toUInt16.toUInt32.toInt32)), .val (.int (p2.toUInt32.toUInt16.toUInt32.toInt32)), .val (.ref a23), .val (.ref a28), .unset, .unset] [(.ref a30)]))
        have KP30 : Keep h0 h30 [] := KP29.ext E30
        have OL30 := OL0.ext (own_ext KP30)
        show own_G p e below _ (T30.setTop (mkF m 83 #[.val (.int p0), .val (.int p1), .val (.int p2), .val (.int p3), .val (.int (2 : Int32)), .val (.int c0), .val (.int (p1.toUInt32.toUInt16.toUInt32.toInt32)), .val (.int (p2.toUInt32.toUInt16.toUInt32.toInt32)), .val (.ref a23), .val (.ref a28), .unset, .unset] [(.ref a30)]))
        have SN30 := SS29.ext E30
        refine own_step (b := T30.setTop (mkF m 92 #[.val (.int p0), .val (.int p1), .val (.int p2), .val (.int p3), .val (.int (2 : Int32)), .val (.int c0), .val (.int (p1.toUInt32.toUInt16.toUInt32.toInt32)), .val (.int (p2.toUInt32.toUInt16.toUInt32.toInt32)), .val (.ref a23), .val (.ref a28), .unset, .unset] [(.int (2 : Int32)), (.int (p2.toUInt32.toUInt16.toUInt32.toInt32)), (.int (p1.toUInt32.toUInt16.toUInt32.toInt32)), (.int c0), (.ref a30), (.ref a30)])) (fun _ qk => XS.dup X30.here hx rfl (hb hby at_83) rfl rfl (XS.iload X30.here hx rfl (hb hby at_84) rfl (XS.iload X30.here hx rfl (hb hby at_86) rfl (XS.iload X30.here hx rfl (hb hby at_88) rfl (XS.iload X30.here hx rfl (hb hby at_90) rfl qk))))) ?_
        refine own_static (W := 2) (argsL := [(.int c0), (.int (p1.toUInt32.toUInt16.toUInt32.toInt32)), (.int (p2.toUInt32.toUInt16.toUInt32.toInt32)), (.int (2 : Int32))]) (st := [(.ref a30), (.ref a30)]) X30 hx hZ hown (own_w hw 31 rfl) (own_w hw 32 rfl) (own_w hw 33 rfl) (own_w hw 34 rfl) (by decide) e30 (own_back (W := 2) (rmExp2 l Z a0 hw [] c0 (p1.toUInt32.toUInt16.toUInt32.toInt32) (p2.toUInt32.toUInt16.toUInt32.toInt32) h30 hc0 (own_i2c p1) (own_i2c p2)) hZ (own_w hw 34 rfl) (own_w hw 33 rfl) (by decide) (by decide)) (by decide) (by decide) (by rw [hml]; rfl) (lenOf pd37 rfl) rfl (Nat.le_of_ble_eq_true rfl) (hb hby at_92) (fun v31 T31 L31 X31 hQ31 => ?_)
        obtain ⟨r31, kr31, rfl, M31, E31, g31, V31⟩ := hQ31
        have zz31 : h30.size ≤ T31.heap.size := E31.1
        have N31 := Fr.app N29 (fun y hy => Nat.le_trans (by omega : h0.size ≤ h30.size) (M31 y hy))
        have KP31 : Keep h0 T31.heap [] := KP30.ext E31
        have OL31 := OL0.ext (own_ext KP31)
        have SN31 := SN30.ext E31
        show own_G p e below _ (T31.setTop (mkF m 95 #[.val (.int p0), .val (.int p1), .val (.int p2), .val (.int p3), .val (.int (2 : Int32)), .val (.int c0), .val (.int (p1.toUInt32.toUInt16.toUInt32.toInt32)), .val (.int (p2.toUInt32.toUInt16.toUInt32.toInt32)), .val (.ref a23), .val (.ref a28), .unset, .unset] [(.ref r31), (.ref a30), (.ref a30)]))
        refine own_special (a := a30) (W := 1) (argsL := [(.ref r31)]) (st := [(.ref a30)]) X31 hx hZ hown rfl (own_w hw 5 rfl) (own_w hw 6 rfl) (own_w hw 7 rfl) (by decide) rfl (own_back (W := 1) (rmN1W l Z a0 hw [] a30 r31 kr31 20 ([116, 114, 105, 51, 58, 108, 111, 99, 107, 58, 123] ++ [c0, (p1.toUInt32.toUInt16.toUInt32.toInt32)] ++ [125] ++ [58, 116, 111, 107, 101, 110]) T31.heap (A30.ext E31) ((D30 (Or.inr (own_w hw 30 rfl)) (ty := (.array .byte)) (by decide)).ext E31) ((D30 (Or.inr (own_w hw 28 rfl)) (ty := .byte) (by decide)).ext E31) V31 rfl (by decide) (by decide) h0.size zn (by omega) (by omega) OL31 G1 O2 P5 G3 O4 rG3 SA1 SA2 SA3 hchx hexx) hZ (own_w hw 7 rfl) (own_w hw 4 rfl) (by decide) (by decide)) (by decide) (by decide) (by rw [hml]; rfl) (lenOf pd36 rfl) rfl (Nat.le_of_ble_eq_true rfl) (hb hby at_95) (fun v32 T32 L32 X32 hQ32 => ?_)
        obtain ⟨r32, kr32, rfl, M32, K32, g32, SE32⟩ := hQ32
        have zz32 : T31.heap.size ≤ T32.heap.size := K32.1
        have N32 := Fr.app N31 M32
        have KP32 : Keep h0 T32.heap [] := KP31.trans K32 (allS (Or.inr (by omega)) all0)
        have OL32 := OL0.ext (own_ext KP32)
        have lS1 : @LT.lt Nat instLTNat a28 h30.size := (SN30).1.lt
        have lS2 : @LT.lt Nat instLTNat a28 a30 := by have q : @LT.lt Nat instLTNat a28 T29.heap.size := SS29.1.lt; omega
        have lS3 : @LT.lt Nat instLTNat r29 a30 := by have q : @LT.lt Nat instLTNat r29 T29.heap.size := SS29.2.2.2.1.lt; omega
        have SN32 := SN31.keep K32 (ninS (own_ne (Or.inl lS2)) nin0) (ninS (own_ne (Or.inl lS3)) nin0)
        refine own_step (b := T32.setTop (mkF m 102 #[.val (.int p0), .val (.int p1), .val (.int p2), .val (.int p3), .val (.int (2 : Int32)), .val (.int c0), .val (.int (p1.toUInt32.toUInt16.toUInt32.toInt32)), .val (.int (p2.toUInt32.toUInt16.toUInt32.toInt32)), .val (.ref a23), .val (.ref a28), .val (.ref a30), .unset] [(.ref a28)])) (fun _ qk => XS.astore X32.here hx rfl (hb hby at_98) rfl rfl (l' := #[.val (.int p0), .val (.int p1), .val (.int p2), .val (.int p3), .val (.int (2 : Int32)), .val (.int c0), .val (.int (p1.toUInt32.toUInt16.toUInt32.toInt32)), .val (.int (p2.toUInt32.toUInt16.toUInt32.toInt32)), .val (.ref a23), .val (.ref a28), .val (.ref a30), .unset]) rfl (XS.aload X32.here hx rfl (hb hby at_100) rfl rfl qk)) ?_
        refine own_staticI (W := 0) (argsL := [(.ref a28)]) (st := []) X32 hx hZ hown (own_w hw 35 rfl) (own_w hw 36 rfl) (own_w hw 37 rfl) (own_w hw 38 rfl) (by decide) rfl hS (by omega) (rmLkW l Z a0 hw [] a28 r29 kr29 [c0, (p1.toUInt32.toUInt16.toUInt32.toInt32)] T32.heap SN32 (Nat.le_of_ble_eq_true rfl) (Nat.le_of_ble_eq_true rfl) hne hch hex OL32 G1 O2 P5 G3 O4 rG3 SA1 SA2 SA3 CH0 CH1 CH2 CH3 CH4 CH5 HC) (fun _ hW => own_IBw hI hW) (by decide) (by decide) (by decide) (by decide) (by rw [hml]; rfl) (lenOf pd38 rfl) rfl (Nat.le_of_ble_eq_true rfl) (hb hby at_102) (fun v33 T33 L33 vm33 k33 X33 ev33 z33 hS hk hZ hown hQ33 => ?_)
        obtain ⟨r33, tr33, kr33, rfl, M33, E33, ST33⟩ := hQ33
        have N33 := Fr.app N32 (fun y hy => Nat.le_trans (by omega : h0.size ≤ T32.heap.size) (M33 y hy))
        have KP33 : Keep h0 T33.heap [] := KP32.ext E33
        have OL33 := OL0.ext (own_ext KP33)
        have SF := SE32.ext E33
        refine own_step (b := T33.setTop (mkF m 111 #[.val (.int p0), .val (.int p1), .val (.int p2), .val (.int p3), .val (.int (2 : Int32)), .val (.int c0), .val (.int (p1.toUInt32.toUInt16.toUInt32.toInt32)), .val (.int (p2.toUInt32.toUInt16.toUInt32.toInt32)), .val (.ref a23), .val (.ref a28), .val (.ref a30), .val (.ref r33)] [(.ref a30), (.ref r33)])) (fun _ qk => XS.astore X33.here hx rfl (hb hby at_105) rfl rfl (l' := #[.val (.int p0), .val (.int p1), .val (.int p2), .val (.int p3), .val (.int (2 : Int32)), .val (.int c0), .val (.int (p1.toUInt32.toUInt16.toUInt32.toInt32)), .val (.int (p2.toUInt32.toUInt16.toUInt32.toInt32)), .val (.ref a23), .val (.ref a28), .val (.ref a30), .val (.ref r33)]) rfl (XS.aload X33.here hx rfl (hb hby at_107) rfl rfl (XS.aload X33.here hx rfl (hb hby at_109) rfl rfl qk))) ?_
        refine own_virtual (a := r33) (W := 0) (argsL := [(.ref a30)]) (st := []) X33 hx hZ hown (own_w hw 208 rfl) (own_w hw 209 rfl) (own_w hw 211 rfl) trivial (own_w hw 210 rfl) (by decide) rfl ST33.1 (own_eqT (W := 0) hZ hw (kI := 4) (own_w hw 3 rfl) (cs := ([116, 114, 105, 51, 58, 108, 111, 99, 107, 58, 123] ++ [c0, (p1.toUInt32.toUInt16.toUInt32.toInt32)] ++ [125] ++ [58, 116, 111, 107, 101, 110])) ST33 SF (Or.inr ⟨rfl, rfl, rfl, hexx⟩) hchx (by simp only [List.length_append, List.length_cons, List.length_nil]; omega) O2 P5 OL33 (by decide) (by decide)) (by decide) (by decide) (by rw [hml]; rfl) (lenOf pd39 rfl) rfl (Nat.le_of_ble_eq_true rfl) (hb hby at_111) (fun v34 T34 L34 X34 hQ34 => ?_)
        obtain ⟨rfl, rfl, hh34⟩ := hQ34
        rw [List.append_nil] at X34
        show own_G p e below _ (T34.setTop (mkF m 114 #[.val (.int p0), .val (.int p1), .val (.int p2), .val (.int p3), .val (.int (2 : Int32)), .val (.int c0), .val (.int (p1.toUInt32.toUInt16.toUInt32.toInt32)), .val (.int (p2.toUInt32.toUInt16.toUInt32.toInt32)), .val (.ref a23), .val (.ref a28), .val (.ref a30), .val (.ref r33)] [(.int (1 : Int32))]))
        exact own_retXN X34 hx hS (by rw [show T34.heap = T33.heap from hh34]; omega) hret (by simp) hlk (hb hby at_114) ⟨rfl, fun y hy => Nat.le_trans zn (N33 y hy)⟩ (by decide) (by decide)
      · show own_G p e below _ (T0.setTop (mkF m 25 #[.val (.int p0), .val (.int p1), .val (.int p2), .val (.int p3), .val (.int (2 : Int32)), .val (.int c0), .unset, .unset, .unset, .unset, .unset, .unset] []))
        have hp : ∀ c ∈ ([c0, (p1.toUInt32.toUInt16.toUInt32.toInt32)] : List Int32), ¬ c < 0 ∧ ¬ (255 : Int32) < c := fun c hc => ⟨(hch c hc).1, fun q => hno ⟨c, hc, q⟩⟩
        have hpx : ∀ c ∈ ([116, 114, 105, 51, 58, 108, 111, 99, 107, 58, 123] ++ [c0, (p1.toUInt32.toUInt16.toUInt32.toInt32)] ++ [125] ++ [58, 116, 111, 107, 101, 110]), ¬ c < 0 ∧ ¬ (255 : Int32) < c := own_all (by decide) hp (by decide) (by decide)
        refine own_step (b := T0.setTop (mkF m 35 #[.val (.int p0), .val (.int p1), .val (.int p2), .val (.int p3), .val (.int (2 : Int32)), .val (.int c0), .val (.int (p1.toUInt32.toUInt16.toUInt32.toInt32)), .val (.int (p2.toUInt32.toUInt16.toUInt32.toInt32)), .unset, .unset, .unset, .unset] [(.int (2 : Int32))])) (fun _ qk => XS.iloadN X0.here hx rfl (hb hby at_25) rfl (XT.i2c X0.here hx rfl (hb hby at_26) rfl (XS.istore X0.here hx rfl (hb hby at_27) rfl (l' := #[.val (.int p0), .val (.int p1), .val (.int p2), .val (.int p3), .val (.int (2 : Int32)), .val (.int c0), .val (.int (p1.toUInt32.toUInt16.toUInt32.toInt32)), .unset, .unset, .unset, .unset, .unset]) rfl (XS.iloadN X0.here hx rfl (hb hby at_29) rfl (XT.i2c X0.here hx rfl (hb hby at_30) rfl (XS.istore X0.here hx rfl (hb hby at_31) rfl (l' := #[.val (.int p0), .val (.int p1), .val (.int p2), .val (.int p3), .val (.int (2 : Int32)), .val (.int c0), .val (.int (p1.toUInt32.toUInt16.toUInt32.toInt32)), .val (.int (p2.toUInt32.toUInt16.toUInt32.toInt32)), .unset, .unset, .unset, .unset]) rfl (XS.iload X0.here hx rfl (hb hby at_33) rfl qk))))))) ?_
        refine own_newP X0 hx hZ (own_w hw 1 rfl) e0 (hb hby at_35) (n := (2 : Int32)) (by decide) 2 (by decide) (by decide) (by decide) (by decide) (fun T35 h35 a35 k35 X35 e35 g35 l35 E35 V35 => ?_)
        have V35' : Arv Z h35 a35 k35 .char (2 : Int32) [.int 0, .int 0] (.int 0) := V35
        show own_G p e below _ (T35.setTop (mkF m 37 #[.val (.int p0), .val (.int p1), .val (.int p2), .val (.int p3), .val (.int (2 : Int32)), .val (.int c0), .val (.int (p1.toUInt32.toUInt16.toUInt32.toInt32)), .val (.int (p2.toUInt32.toUInt16.toUInt32.toInt32)), .unset, .unset, .unset, .unset] [(.ref a35)]))
        have KP35 : Keep h0 h35 [] := KP0.ext E35
        have OL35 := OL0.ext (own_ext KP35)
        refine own_step (b := T35.setTop (mkF m 44 #[.val (.int p0), .val (.int p1), .val (.int p2), .val (.int p3), .val (.int (2 : Int32)), .val (.int c0), .val (.int (p1.toUInt32.toUInt16.toUInt32.toInt32)), .val (.int (p2.toUInt32.toUInt16.toUInt32.toInt32)), .val (.ref a35), .unset, .unset, .unset] [(.int c0), (.int (0 : Int32)), (.ref a35)])) (fun _ qk => XS.astore X35.here hx rfl (hb hby at_37) rfl rfl (l' := #[.val (.int p0), .val (.int p1), .val (.int p2), .val (.int p3), .val (.int (2 : Int32)), .val (.int c0), .val (.int (p1.toUInt32.toUInt16.toUInt32.toInt32)), .val (.int (p2.toUInt32.toUInt16.toUInt32.toInt32)), .val (.ref a35), .unset, .unset, .unset]) rfl (XS.aload X35.here hx rfl (hb hby at_39) rfl rfl (XS.iconst X35.here hx rfl (hb hby at_41) (XS.iload X35.here hx rfl (hb hby at_42) rfl qk)))) ?_
        refine own_stC X35 hx hZ e35 V35' 0 (by decide) (by decide) (by decide) (Nat.le_of_ble_eq_true rfl) N0 (by omega) (hb hby at_44) (fun T36 h36 X36 e36 N36 W36 z36 V36 => ?_)
        have V36' : Arv Z h36 a35 k35 .char (2 : Int32) [.int (nar .char c0), .int 0] (.int 0) := V36
        show own_G p e below _ (T36.setTop (mkF m 45 #[.val (.int p0), .val (.int p1), .val (.int p2), .val (.int p3), .val (.int (2 : Int32)), .val (.int c0), .val (.int (p1.toUInt32.toUInt16.toUInt32.toInt32)), .val (.int (p2.toUInt32.toUInt16.toUInt32.toInt32)), .val (.ref a35), .unset, .unset, .unset] []))
        have KP36 : Keep h0 h36 [] := KP35.wr W36 (Or.inr (by omega))
        have OL36 := OL0.ext (own_ext KP36)
        refine own_step (b := T36.setTop (mkF m 48 #[.val (.int p0), .val (.int p1), .val (.int p2), .val (.int p3), .val (.int (2 : Int32)), .val (.int c0), .val (.int (p1.toUInt32.toUInt16.toUInt32.toInt32)), .val (.int (p2.toUInt32.toUInt16.toUInt32.toInt32)), .val (.ref a35), .unset, .unset, .unset] [(.int (2 : Int32)), (.int (2 : Int32))])) (fun _ qk => XS.iload X36.here hx rfl (hb hby at_45) rfl (XS.iconst X36.here hx rfl (hb hby at_47) qk)) ?_
        refine own_icmp_lt X36 hx (hb hby at_48) (pc' := 57) (by decide) (by decide) (fun c48_37 => absurd c48_37 (by decide)) (fun c48_37 => ?_)
        refine own_step (b := T36.setTop (mkF m 56 #[.val (.int p0), .val (.int p1), .val (.int p2), .val (.int p3), .val (.int (2 : Int32)), .val (.int c0), .val (.int (p1.toUInt32.toUInt16.toUInt32.toInt32)), .val (.int (p2.toUInt32.toUInt16.toUInt32.toInt32)), .val (.ref a35), .unset, .unset, .unset] [(.int (p1.toUInt32.toUInt16.toUInt32.toInt32)), (.int (1 : Int32)), (.ref a35)])) (fun _ qk => XS.aload X36.here hx rfl (hb hby at_51) rfl rfl (XS.iconst X36.here hx rfl (hb hby at_53) (XS.iload X36.here hx rfl (hb hby at_54) rfl qk))) ?_
        refine own_stC X36 hx hZ e36 V36' 1 (by decide) (by decide) (by decide) (Nat.le_of_ble_eq_true rfl) N36 (by omega) (hb hby at_56) (fun T38 h38 X38 e38 N38 W38 z38 V38 => ?_)
        have V38' : Arv Z h38 a35 k35 .char (2 : Int32) [.int (nar .char c0), .int (nar .char (p1.toUInt32.toUInt16.toUInt32.toInt32))] (.int 0) := V38
        show own_G p e below _ (T38.setTop (mkF m 57 #[.val (.int p0), .val (.int p1), .val (.int p2), .val (.int p3), .val (.int (2 : Int32)), .val (.int c0), .val (.int (p1.toUInt32.toUInt16.toUInt32.toInt32)), .val (.int (p2.toUInt32.toUInt16.toUInt32.toInt32)), .val (.ref a35), .unset, .unset, .unset] []))
        have KP38 : Keep h0 h38 [] := KP36.wr W38 (Or.inr (by omega))
        have OL38 := OL0.ext (own_ext KP38)
        refine own_step (b := T38.setTop (mkF m 60 #[.val (.int p0), .val (.int p1), .val (.int p2), .val (.int p3), .val (.int (2 : Int32)), .val (.int c0), .val (.int (p1.toUInt32.toUInt16.toUInt32.toInt32)), .val (.int (p2.toUInt32.toUInt16.toUInt32.toInt32)), .val (.ref a35), .unset, .unset, .unset] [(.int (3 : Int32)), (.int (2 : Int32))])) (fun _ qk => XS.iload X38.here hx rfl (hb hby at_57) rfl (XS.iconst X38.here hx rfl (hb hby at_59) qk)) ?_
        refine own_icmp_lt X38 hx (hb hby at_60) (pc' := 69) (by decide) (by decide) (fun c60_39 => ?_) (fun c60_39 => absurd c60_39 (by decide))
        show own_G p e below _ (T38.setTop (mkF m 69 #[.val (.int p0), .val (.int p1), .val (.int p2), .val (.int p3), .val (.int (2 : Int32)), .val (.int c0), .val (.int (p1.toUInt32.toUInt16.toUInt32.toInt32)), .val (.int (p2.toUInt32.toUInt16.toUInt32.toInt32)), .val (.ref a35), .unset, .unset, .unset] []))
        have VN : Arv Z h38 a35 k35 .char (Int32.ofNat 2) ([c0, (p1.toUInt32.toUInt16.toUInt32.toInt32)].map Value.int) (.int 0) := by have q := V38'; rw [own_narW hc0, own_narW (own_i2c p1)] at q; exact q
        refine own_newO X38 hx hZ hown (own_w hw 2 rfl) (own_w hw 3 rfl) (own_w hw 4 rfl) e38 (hb hby at_69) (by decide) (by decide) (fun T40 h40 a40 X40 e40 g40 l40 E40 A40 D40 => ?_)
        show own_G p e below _ (T40.setTop (mkF m 72 #[.val (.int p0), .val (.int p1), .val (.int p2), .val (.int p3), .val (.int (2 : Int32)), .val (.int c0), .val (.int (p1.toUInt32.toUInt16.toUInt32.toInt32)), .val (.int (p2.toUInt32.toUInt16.toUInt32.toInt32)), .val (.ref a35), .unset, .unset, .unset] [(.ref a40)]))
        have KP40 : Keep h0 h40 [] := KP38.ext E40
        have OL40 := OL0.ext (own_ext KP40)
        refine own_step (b := T40.setTop (mkF m 75 #[.val (.int p0), .val (.int p1), .val (.int p2), .val (.int p3), .val (.int (2 : Int32)), .val (.int c0), .val (.int (p1.toUInt32.toUInt16.toUInt32.toInt32)), .val (.int (p2.toUInt32.toUInt16.toUInt32.toInt32)), .val (.ref a35), .unset, .unset, .unset] [(.ref a35), (.ref a40), (.ref a40)])) (fun _ qk => XS.dup X40.here hx rfl (hb hby at_72) rfl rfl (XS.aload X40.here hx rfl (hb hby at_73) rfl rfl qk)) ?_
        refine own_special (a := a40) (W := 1) (argsL := [(.ref a35)]) (st := [(.ref a40)]) X40 hx hZ hown rfl (own_w hw 5 rfl) (own_w hw 6 rfl) (own_w hw 7 rfl) (by decide) e40 (own_back (W := 1) (rmN1L l Z a0 hw [] a40 a35 k35 2 [c0, (p1.toUInt32.toUInt16.toUInt32.toInt32)] h40 (A40) ((D40 (Or.inr (own_w hw 30 rfl)) (ty := (.array .byte)) (by decide))) ((D40 (Or.inr (own_w hw 28 rfl)) (ty := .byte) (by decide))) (VN.ext E40) rfl (by decide) (by decide) h0.size zn (by omega) (by omega) OL40 G1 O2 P5 G3 O4 rG3 SA1 SA2 SA3 hp) hZ (own_w hw 7 rfl) (own_w hw 4 rfl) (by decide) (by decide)) (by decide) (by decide) (by rw [hml]; rfl) (lenOf pd36 rfl) rfl (Nat.le_of_ble_eq_true rfl) (hb hby at_75) (fun v41 T41 L41 X41 hQ41 => ?_)
        obtain ⟨r41, kr41, rfl, M41, K41, g41, SS41⟩ := hQ41
        have zz41 : h40.size ≤ T41.heap.size := K41.1
        have N41 := Fr.app N38 M41
        have KP41 : Keep h0 T41.heap [] := KP40.trans K41 (allS (Or.inr (by omega)) all0)
        have OL41 := OL0.ext (own_ext KP41)
        refine own_step (b := T41.setTop (mkF m 80 #[.val (.int p0), .val (.int p1), .val (.int p2), .val (.int p3), .val (.int (2 : Int32)), .val (.int c0), .val (.int (p1.toUInt32.toUInt16.toUInt32.toInt32)), .val (.int (p2.toUInt32.toUInt16.toUInt32.toInt32)), .val (.ref a35), .val (.ref a40), .unset, .unset] [])) (fun _ qk => XS.astore X41.here hx rfl (hb hby at_78) rfl rfl (l' := #[.val (.int p0), .val (.int p1), .val (.int p2), .val (.int p3), .val (.int (2 : Int32)), .val (.int c0), .val (.int (p1.toUInt32.toUInt16.toUInt32.toInt32)), .val (.int (p2.toUInt32.toUInt16.toUInt32.toInt32)), .val (.ref a35), .val (.ref a40), .unset, .unset]) rfl qk) ?_
        refine own_newO X41 hx hZ hown (own_w hw 2 rfl) (own_w hw 3 rfl) (own_w hw 4 rfl) rfl (hb hby at_80) (by decide) (by decide) (fun T42 h42 a42 X42 e42 g42 l42 E42 A42 D42 => ?_)
        show own_G p e below _ (T42.setTop (mkF m 83 #[.val (.int p0), .val (.int p1), .val (.int p2), .val (.int p3), .val (.int (2 : Int32)), .val (.int c0), .val (.int (p1.toUInt32.toUInt16.toUInt32.toInt32)), .val (.int (p2.toUInt32.toUInt16.toUInt32.toInt32)), .val (.ref a35), .val (.ref a40), .unset, .unset] [(.ref a42)]))
        have KP42 : Keep h0 h42 [] := KP41.ext E42
        have OL42 := OL0.ext (own_ext KP42)
        show own_G p e below _ (T42.setTop (mkF m 83 #[.val (.int p0), .val (.int p1), .val (.int p2), .val (.int p3), .val (.int (2 : Int32)), .val (.int c0), .val (.int (p1.toUInt32.toUInt16.toUInt32.toInt32)), .val (.int (p2.toUInt32.toUInt16.toUInt32.toInt32)), .val (.ref a35), .val (.ref a40), .unset, .unset] [(.ref a42)]))
        have SN42 := SS41.ext E42
        refine own_step (b := T42.setTop (mkF m 92 #[.val (.int p0), .val (.int p1), .val (.int p2), .val (.int p3), .val (.int (2 : Int32)), .val (.int c0), .val (.int (p1.toUInt32.toUInt16.toUInt32.toInt32)), .val (.int (p2.toUInt32.toUInt16.toUInt32.toInt32)), .val (.ref a35), .val (.ref a40), .unset, .unset] [(.int (2 : Int32)), (.int (p2.toUInt32.toUInt16.toUInt32.toInt32)), (.int (p1.toUInt32.toUInt16.toUInt32.toInt32)), (.int c0), (.ref a42), (.ref a42)])) (fun _ qk => XS.dup X42.here hx rfl (hb hby at_83) rfl rfl (XS.iload X42.here hx rfl (hb hby at_84) rfl (XS.iload X42.here hx rfl (hb hby at_86) rfl (XS.iload X42.here hx rfl (hb hby at_88) rfl (XS.iload X42.here hx rfl (hb hby at_90) rfl qk))))) ?_
        refine own_static (W := 2) (argsL := [(.int c0), (.int (p1.toUInt32.toUInt16.toUInt32.toInt32)), (.int (p2.toUInt32.toUInt16.toUInt32.toInt32)), (.int (2 : Int32))]) (st := [(.ref a42), (.ref a42)]) X42 hx hZ hown (own_w hw 31 rfl) (own_w hw 32 rfl) (own_w hw 33 rfl) (own_w hw 34 rfl) (by decide) e42 (own_back (W := 2) (rmExp2 l Z a0 hw [] c0 (p1.toUInt32.toUInt16.toUInt32.toInt32) (p2.toUInt32.toUInt16.toUInt32.toInt32) h42 hc0 (own_i2c p1) (own_i2c p2)) hZ (own_w hw 34 rfl) (own_w hw 33 rfl) (by decide) (by decide)) (by decide) (by decide) (by rw [hml]; rfl) (lenOf pd37 rfl) rfl (Nat.le_of_ble_eq_true rfl) (hb hby at_92) (fun v43 T43 L43 X43 hQ43 => ?_)
        obtain ⟨r43, kr43, rfl, M43, E43, g43, V43⟩ := hQ43
        have zz43 : h42.size ≤ T43.heap.size := E43.1
        have N43 := Fr.app N41 (fun y hy => Nat.le_trans (by omega : h0.size ≤ h42.size) (M43 y hy))
        have KP43 : Keep h0 T43.heap [] := KP42.ext E43
        have OL43 := OL0.ext (own_ext KP43)
        have SN43 := SN42.ext E43
        show own_G p e below _ (T43.setTop (mkF m 95 #[.val (.int p0), .val (.int p1), .val (.int p2), .val (.int p3), .val (.int (2 : Int32)), .val (.int c0), .val (.int (p1.toUInt32.toUInt16.toUInt32.toInt32)), .val (.int (p2.toUInt32.toUInt16.toUInt32.toInt32)), .val (.ref a35), .val (.ref a40), .unset, .unset] [(.ref r43), (.ref a42), (.ref a42)]))
        refine own_special (a := a42) (W := 1) (argsL := [(.ref r43)]) (st := [(.ref a42)]) X43 hx hZ hown rfl (own_w hw 5 rfl) (own_w hw 6 rfl) (own_w hw 7 rfl) (by decide) rfl (own_back (W := 1) (rmN1L l Z a0 hw [] a42 r43 kr43 20 ([116, 114, 105, 51, 58, 108, 111, 99, 107, 58, 123] ++ [c0, (p1.toUInt32.toUInt16.toUInt32.toInt32)] ++ [125] ++ [58, 116, 111, 107, 101, 110]) T43.heap (A42.ext E43) ((D42 (Or.inr (own_w hw 30 rfl)) (ty := (.array .byte)) (by decide)).ext E43) ((D42 (Or.inr (own_w hw 28 rfl)) (ty := .byte) (by decide)).ext E43) V43 rfl (by decide) (by decide) h0.size zn (by omega) (by omega) OL43 G1 O2 P5 G3 O4 rG3 SA1 SA2 SA3 hpx) hZ (own_w hw 7 rfl) (own_w hw 4 rfl) (by decide) (by decide)) (by decide) (by decide) (by rw [hml]; rfl) (lenOf pd36 rfl) rfl (Nat.le_of_ble_eq_true rfl) (hb hby at_95) (fun v44 T44 L44 X44 hQ44 => ?_)
        obtain ⟨r44, kr44, rfl, M44, K44, g44, SE44⟩ := hQ44
        have zz44 : T43.heap.size ≤ T44.heap.size := K44.1
        have N44 := Fr.app N43 M44
        have KP44 : Keep h0 T44.heap [] := KP43.trans K44 (allS (Or.inr (by omega)) all0)
        have OL44 := OL0.ext (own_ext KP44)
        have lS1 : @LT.lt Nat instLTNat a40 h42.size := (SN42).1.lt
        have lS2 : @LT.lt Nat instLTNat a40 a42 := by have q : @LT.lt Nat instLTNat a40 T41.heap.size := SS41.1.lt; omega
        have lS3 : @LT.lt Nat instLTNat r41 a42 := by have q : @LT.lt Nat instLTNat r41 T41.heap.size := SS41.2.2.2.1.lt; omega
        have SN44 := SN43.keep K44 (ninS (own_ne (Or.inl lS2)) nin0) (ninS (own_ne (Or.inl lS3)) nin0)
        refine own_step (b := T44.setTop (mkF m 102 #[.val (.int p0), .val (.int p1), .val (.int p2), .val (.int p3), .val (.int (2 : Int32)), .val (.int c0), .val (.int (p1.toUInt32.toUInt16.toUInt32.toInt32)), .val (.int (p2.toUInt32.toUInt16.toUInt32.toInt32)), .val (.ref a35), .val (.ref a40), .val (.ref a42), .unset] [(.ref a40)])) (fun _ qk => XS.astore X44.here hx rfl (hb hby at_98) rfl rfl (l' := #[.val (.int p0), .val (.int p1), .val (.int p2), .val (.int p3), .val (.int (2 : Int32)), .val (.int c0), .val (.int (p1.toUInt32.toUInt16.toUInt32.toInt32)), .val (.int (p2.toUInt32.toUInt16.toUInt32.toInt32)), .val (.ref a35), .val (.ref a40), .val (.ref a42), .unset]) rfl (XS.aload X44.here hx rfl (hb hby at_100) rfl rfl qk)) ?_
        refine own_staticI (W := 0) (argsL := [(.ref a40)]) (st := []) X44 hx hZ hown (own_w hw 35 rfl) (own_w hw 36 rfl) (own_w hw 37 rfl) (own_w hw 38 rfl) (by decide) rfl hS (by omega) (rmLkL l Z a0 hw [] a40 r41 kr41 [c0, (p1.toUInt32.toUInt16.toUInt32.toInt32)] T44.heap SN44 (Nat.le_of_ble_eq_true rfl) (Nat.le_of_ble_eq_true rfl) hne hp OL44 G1 O2 P5 G3 O4 rG3 SA1 SA2 SA3 CH0 CH1 CH2 CH3 CH4 CH5 HC) (fun _ hW => own_IBw hI hW) (by decide) (by decide) (by decide) (by decide) (by rw [hml]; rfl) (lenOf pd38 rfl) rfl (Nat.le_of_ble_eq_true rfl) (hb hby at_102) (fun v45 T45 L45 vm45 k45 X45 ev45 z45 hS hk hZ hown hQ45 => ?_)
        obtain ⟨r45, tr45, kr45, rfl, M45, E45, ST45⟩ := hQ45
        have N45 := Fr.app N44 (fun y hy => Nat.le_trans (by omega : h0.size ≤ T44.heap.size) (M45 y hy))
        have KP45 : Keep h0 T45.heap [] := KP44.ext E45
        have OL45 := OL0.ext (own_ext KP45)
        have SF := SE44.ext E45
        refine own_step (b := T45.setTop (mkF m 111 #[.val (.int p0), .val (.int p1), .val (.int p2), .val (.int p3), .val (.int (2 : Int32)), .val (.int c0), .val (.int (p1.toUInt32.toUInt16.toUInt32.toInt32)), .val (.int (p2.toUInt32.toUInt16.toUInt32.toInt32)), .val (.ref a35), .val (.ref a40), .val (.ref a42), .val (.ref r45)] [(.ref a42), (.ref r45)])) (fun _ qk => XS.astore X45.here hx rfl (hb hby at_105) rfl rfl (l' := #[.val (.int p0), .val (.int p1), .val (.int p2), .val (.int p3), .val (.int (2 : Int32)), .val (.int c0), .val (.int (p1.toUInt32.toUInt16.toUInt32.toInt32)), .val (.int (p2.toUInt32.toUInt16.toUInt32.toInt32)), .val (.ref a35), .val (.ref a40), .val (.ref a42), .val (.ref r45)]) rfl (XS.aload X45.here hx rfl (hb hby at_107) rfl rfl (XS.aload X45.here hx rfl (hb hby at_109) rfl rfl qk))) ?_
        refine own_virtual (a := r45) (W := 0) (argsL := [(.ref a42)]) (st := []) X45 hx hZ hown (own_w hw 208 rfl) (own_w hw 209 rfl) (own_w hw 211 rfl) trivial (own_w hw 210 rfl) (by decide) rfl ST45.1 (own_eqT (W := 0) hZ hw (kI := 4) (own_w hw 3 rfl) (cs := ([116, 114, 105, 51, 58, 108, 111, 99, 107, 58, 123] ++ [c0, (p1.toUInt32.toUInt16.toUInt32.toInt32)] ++ [125] ++ [58, 116, 111, 107, 101, 110])) ST45 SF (Or.inl ⟨rfl, rfl, rfl, fun c hc => (hpx c hc).2⟩) (fun c hc => own_w1 (hpx c hc)) (by simp only [List.length_append, List.length_cons, List.length_nil]; omega) O2 P5 OL45 (by decide) (by decide)) (by decide) (by decide) (by rw [hml]; rfl) (lenOf pd39 rfl) rfl (Nat.le_of_ble_eq_true rfl) (hb hby at_111) (fun v46 T46 L46 X46 hQ46 => ?_)
        obtain ⟨rfl, rfl, hh46⟩ := hQ46
        rw [List.append_nil] at X46
        show own_G p e below _ (T46.setTop (mkF m 114 #[.val (.int p0), .val (.int p1), .val (.int p2), .val (.int p3), .val (.int (2 : Int32)), .val (.int c0), .val (.int (p1.toUInt32.toUInt16.toUInt32.toInt32)), .val (.int (p2.toUInt32.toUInt16.toUInt32.toInt32)), .val (.ref a35), .val (.ref a40), .val (.ref a42), .val (.ref r45)] [(.int (1 : Int32))]))
        exact own_retXN X46 hx hS (by rw [show T46.heap = T45.heap from hh46]; omega) hret (by simp) hlk (hb hby at_114) ⟨rfl, fun y hy => Nat.le_trans zn (N45 y hy)⟩ (by decide) (by decide)
    show own_G p e below _ (T0.setTop (mkF m 18 #[.val (.int p0), .val (.int p1), .val (.int p2), .val (.int p3), .val (.int (2 : Int32)), .val (.int (p0.toUInt32.toUInt16.toUInt32.toInt32)), .unset, .unset, .unset, .unset, .unset, .unset] [(.int (125 : Int32)), (.int (p0.toUInt32.toUInt16.toUInt32.toInt32))]))
    refine own_icmp_ne X0 hx (hb hby at_18) (pc' := 25) (by decide) (by decide) (fun c18 => ?_) (fun c18 => ?_)
    · show own_G p e below _ (T0.setTop (mkF m 25 #[.val (.int p0), .val (.int p1), .val (.int p2), .val (.int p3), .val (.int (2 : Int32)), .val (.int (p0.toUInt32.toUInt16.toUInt32.toInt32)), .unset, .unset, .unset, .unset, .unset, .unset] []))
      exact tail _ (own_i2c p0) c18
    · show own_G p e below _ (T0.setTop (mkF m 21 #[.val (.int p0), .val (.int p1), .val (.int p2), .val (.int p3), .val (.int (2 : Int32)), .val (.int (p0.toUInt32.toUInt16.toUInt32.toInt32)), .unset, .unset, .unset, .unset, .unset, .unset] []))
      refine own_step (b := T0.setTop (mkF m 25 #[.val (.int p0), .val (.int p1), .val (.int p2), .val (.int p3), .val (.int (2 : Int32)), .val (.int (124 : Int32)), .unset, .unset, .unset, .unset, .unset, .unset] [])) (fun _ qk => XS.bipush X0.here hx rfl (hb hby at_21) (XS.istore X0.here hx rfl (hb hby at_23) rfl (l' := #[.val (.int p0), .val (.int p1), .val (.int p2), .val (.int p3), .val (.int (2 : Int32)), .val (.int (124 : Int32)), .unset, .unset, .unset, .unset, .unset, .unset]) rfl qk)) ?_
      exact tail 124 (by decide) (by decide)
  · show own_G p e below _ (T0.setTop (mkF m 8 #[.val (.int p0), .val (.int p1), .val (.int p2), .val (.int p3), .unset, .unset, .unset, .unset, .unset, .unset, .unset, .unset] [(.int (((p3 &&& (2147483647 : Int32)) % (3 : Int32)) + (1 : Int32)))]))
    rw [qn]
    refine own_step (b := T0.setTop (mkF m 18 #[.val (.int p0), .val (.int p1), .val (.int p2), .val (.int p3), .val (.int (3 : Int32)), .val (.int (p0.toUInt32.toUInt16.toUInt32.toInt32)), .unset, .unset, .unset, .unset, .unset, .unset] [(.int (125 : Int32)), (.int (p0.toUInt32.toUInt16.toUInt32.toInt32))])) (fun _ qk => XS.istore X0.here hx rfl (hb hby at_8) rfl (l' := #[.val (.int p0), .val (.int p1), .val (.int p2), .val (.int p3), .val (.int (3 : Int32)), .unset, .unset, .unset, .unset, .unset, .unset, .unset]) rfl (XS.iloadN X0.here hx rfl (hb hby at_10) rfl (XT.i2c X0.here hx rfl (hb hby at_11) rfl (XS.istore X0.here hx rfl (hb hby at_12) rfl (l' := #[.val (.int p0), .val (.int p1), .val (.int p2), .val (.int p3), .val (.int (3 : Int32)), .val (.int (p0.toUInt32.toUInt16.toUInt32.toInt32)), .unset, .unset, .unset, .unset, .unset, .unset]) rfl (XS.iload X0.here hx rfl (hb hby at_14) rfl (XS.bipush X0.here hx rfl (hb hby at_16) qk)))))) ?_
    have tail : ∀ (c0 : Int32), own_C c0 → ¬ c0 = (125 : Int32) → own_G p e below (own_FI s (fun v vm h L => v = some (.int 1) ∧ Fr Z.heap.size L) room_1.cells room_1.slots) (T0.setTop (mkF m 25 #[.val (.int p0), .val (.int p1), .val (.int p2), .val (.int p3), .val (.int (3 : Int32)), .val (.int c0), .unset, .unset, .unset, .unset, .unset, .unset] [])) := by
      intro c0 hc0 hne
      have hch : ∀ c ∈ ([c0, (p1.toUInt32.toUInt16.toUInt32.toInt32), (p2.toUInt32.toUInt16.toUInt32.toInt32)] : List Int32), own_C c := (own_aS hc0 (own_aS (own_i2c p1) (own_aS (own_i2c p2) own_a0)))
      rcases Classical.em (∃ c ∈ ([c0, (p1.toUInt32.toUInt16.toUInt32.toInt32), (p2.toUInt32.toUInt16.toUInt32.toInt32)] : List Int32), (255 : Int32) < c) with hex | hno
      · show own_G p e below _ (T0.setTop (mkF m 25 #[.val (.int p0), .val (.int p1), .val (.int p2), .val (.int p3), .val (.int (3 : Int32)), .val (.int c0), .unset, .unset, .unset, .unset, .unset, .unset] []))
        have hchx : ∀ c ∈ ([116, 114, 105, 51, 58, 108, 111, 99, 107, 58, 123] ++ [c0, (p1.toUInt32.toUInt16.toUInt32.toInt32), (p2.toUInt32.toUInt16.toUInt32.toInt32)] ++ [125] ++ [58, 116, 111, 107, 101, 110]), own_C c := own_all (by decide) hch (by decide) (by decide)
        have hexx : ∃ c ∈ ([116, 114, 105, 51, 58, 108, 111, 99, 107, 58, 123] ++ [c0, (p1.toUInt32.toUInt16.toUInt32.toInt32), (p2.toUInt32.toUInt16.toUInt32.toInt32)] ++ [125] ++ [58, 116, 111, 107, 101, 110]), (255 : Int32) < c := own_exi hex
        refine own_step (b := T0.setTop (mkF m 35 #[.val (.int p0), .val (.int p1), .val (.int p2), .val (.int p3), .val (.int (3 : Int32)), .val (.int c0), .val (.int (p1.toUInt32.toUInt16.toUInt32.toInt32)), .val (.int (p2.toUInt32.toUInt16.toUInt32.toInt32)), .unset, .unset, .unset, .unset] [(.int (3 : Int32))])) (fun _ qk => XS.iloadN X0.here hx rfl (hb hby at_25) rfl (XT.i2c X0.here hx rfl (hb hby at_26) rfl (XS.istore X0.here hx rfl (hb hby at_27) rfl (l' := #[.val (.int p0), .val (.int p1), .val (.int p2), .val (.int p3), .val (.int (3 : Int32)), .val (.int c0), .val (.int (p1.toUInt32.toUInt16.toUInt32.toInt32)), .unset, .unset, .unset, .unset, .unset]) rfl (XS.iloadN X0.here hx rfl (hb hby at_29) rfl (XT.i2c X0.here hx rfl (hb hby at_30) rfl (XS.istore X0.here hx rfl (hb hby at_31) rfl (l' := #[.val (.int p0), .val (.int p1), .val (.int p2), .val (.int p3), .val (.int (3 : Int32)), .val (.int c0), .val (.int (p1.toUInt32.toUInt16.toUInt32.toInt32)), .val (.int (p2.toUInt32.toUInt16.toUInt32.toInt32)), .unset, .unset, .unset, .unset]) rfl (XS.iload X0.here hx rfl (hb hby at_33) rfl qk))))))) ?_
        refine own_newP X0 hx hZ (own_w hw 1 rfl) e0 (hb hby at_35) (n := (3 : Int32)) (by decide) 3 (by decide) (by decide) (by decide) (by decide) (fun T47 h47 a47 k47 X47 e47 g47 l47 E47 V47 => ?_)
        have V47' : Arv Z h47 a47 k47 .char (3 : Int32) [.int 0, .int 0, .int 0] (.int 0) := V47
        show own_G p e below _ (T47.setTop (mkF m 37 #[.val (.int p0), .val (.int p1), .val (.int p2), .val (.int p3), .val (.int (3 : Int32)), .val (.int c0), .val (.int (p1.toUInt32.toUInt16.toUInt32.toInt32)), .val (.int (p2.toUInt32.toUInt16.toUInt32.toInt32)), .unset, .unset, .unset, .unset] [(.ref a47)]))
        have KP47 : Keep h0 h47 [] := KP0.ext E47
        have OL47 := OL0.ext (own_ext KP47)
        refine own_step (b := T47.setTop (mkF m 44 #[.val (.int p0), .val (.int p1), .val (.int p2), .val (.int p3), .val (.int (3 : Int32)), .val (.int c0), .val (.int (p1.toUInt32.toUInt16.toUInt32.toInt32)), .val (.int (p2.toUInt32.toUInt16.toUInt32.toInt32)), .val (.ref a47), .unset, .unset, .unset] [(.int c0), (.int (0 : Int32)), (.ref a47)])) (fun _ qk => XS.astore X47.here hx rfl (hb hby at_37) rfl rfl (l' := #[.val (.int p0), .val (.int p1), .val (.int p2), .val (.int p3), .val (.int (3 : Int32)), .val (.int c0), .val (.int (p1.toUInt32.toUInt16.toUInt32.toInt32)), .val (.int (p2.toUInt32.toUInt16.toUInt32.toInt32)), .val (.ref a47), .unset, .unset, .unset]) rfl (XS.aload X47.here hx rfl (hb hby at_39) rfl rfl (XS.iconst X47.here hx rfl (hb hby at_41) (XS.iload X47.here hx rfl (hb hby at_42) rfl qk)))) ?_
        refine own_stC X47 hx hZ e47 V47' 0 (by decide) (by decide) (by decide) (Nat.le_of_ble_eq_true rfl) N0 (by omega) (hb hby at_44) (fun T48 h48 X48 e48 N48 W48 z48 V48 => ?_)
        have V48' : Arv Z h48 a47 k47 .char (3 : Int32) [.int (nar .char c0), .int 0, .int 0] (.int 0) := V48
        show own_G p e below _ (T48.setTop (mkF m 45 #[.val (.int p0), .val (.int p1), .val (.int p2), .val (.int p3), .val (.int (3 : Int32)), .val (.int c0), .val (.int (p1.toUInt32.toUInt16.toUInt32.toInt32)), .val (.int (p2.toUInt32.toUInt16.toUInt32.toInt32)), .val (.ref a47), .unset, .unset, .unset] []))
        have KP48 : Keep h0 h48 [] := KP47.wr W48 (Or.inr (by omega))
        have OL48 := OL0.ext (own_ext KP48)
        refine own_step (b := T48.setTop (mkF m 48 #[.val (.int p0), .val (.int p1), .val (.int p2), .val (.int p3), .val (.int (3 : Int32)), .val (.int c0), .val (.int (p1.toUInt32.toUInt16.toUInt32.toInt32)), .val (.int (p2.toUInt32.toUInt16.toUInt32.toInt32)), .val (.ref a47), .unset, .unset, .unset] [(.int (2 : Int32)), (.int (3 : Int32))])) (fun _ qk => XS.iload X48.here hx rfl (hb hby at_45) rfl (XS.iconst X48.here hx rfl (hb hby at_47) qk)) ?_
        refine own_icmp_lt X48 hx (hb hby at_48) (pc' := 57) (by decide) (by decide) (fun c48_49 => absurd c48_49 (by decide)) (fun c48_49 => ?_)
        refine own_step (b := T48.setTop (mkF m 56 #[.val (.int p0), .val (.int p1), .val (.int p2), .val (.int p3), .val (.int (3 : Int32)), .val (.int c0), .val (.int (p1.toUInt32.toUInt16.toUInt32.toInt32)), .val (.int (p2.toUInt32.toUInt16.toUInt32.toInt32)), .val (.ref a47), .unset, .unset, .unset] [(.int (p1.toUInt32.toUInt16.toUInt32.toInt32)), (.int (1 : Int32)), (.ref a47)])) (fun _ qk => XS.aload X48.here hx rfl (hb hby at_51) rfl rfl (XS.iconst X48.here hx rfl (hb hby at_53) (XS.iload X48.here hx rfl (hb hby at_54) rfl qk))) ?_
        refine own_stC X48 hx hZ e48 V48' 1 (by decide) (by decide) (by decide) (Nat.le_of_ble_eq_true rfl) N48 (by omega) (hb hby at_56) (fun T50 h50 X50 e50 N50 W50 z50 V50 => ?_)
        have V50' : Arv Z h50 a47 k47 .char (3 : Int32) [.int (nar .char c0), .int (nar .char (p1.toUInt32.toUInt16.toUInt32.toInt32)), .int 0] (.int 0) := V50
        show own_G p e below _ (T50.setTop (mkF m 57 #[.val (.int p0), .val (.int p1), .val (.int p2), .val (.int p3), .val (.int (3 : Int32)), .val (.int c0), .val (.int (p1.toUInt32.toUInt16.toUInt32.toInt32)), .val (.int (p2.toUInt32.toUInt16.toUInt32.toInt32)), .val (.ref a47), .unset, .unset, .unset] []))
        have KP50 : Keep h0 h50 [] := KP48.wr W50 (Or.inr (by omega))
        have OL50 := OL0.ext (own_ext KP50)
        refine own_step (b := T50.setTop (mkF m 60 #[.val (.int p0), .val (.int p1), .val (.int p2), .val (.int p3), .val (.int (3 : Int32)), .val (.int c0), .val (.int (p1.toUInt32.toUInt16.toUInt32.toInt32)), .val (.int (p2.toUInt32.toUInt16.toUInt32.toInt32)), .val (.ref a47), .unset, .unset, .unset] [(.int (3 : Int32)), (.int (3 : Int32))])) (fun _ qk => XS.iload X50.here hx rfl (hb hby at_57) rfl (XS.iconst X50.here hx rfl (hb hby at_59) qk)) ?_
        refine own_icmp_lt X50 hx (hb hby at_60) (pc' := 69) (by decide) (by decide) (fun c60_51 => absurd c60_51 (by decide)) (fun c60_51 => ?_)
        refine own_step (b := T50.setTop (mkF m 68 #[.val (.int p0), .val (.int p1), .val (.int p2), .val (.int p3), .val (.int (3 : Int32)), .val (.int c0), .val (.int (p1.toUInt32.toUInt16.toUInt32.toInt32)), .val (.int (p2.toUInt32.toUInt16.toUInt32.toInt32)), .val (.ref a47), .unset, .unset, .unset] [(.int (p2.toUInt32.toUInt16.toUInt32.toInt32)), (.int (2 : Int32)), (.ref a47)])) (fun _ qk => XS.aload X50.here hx rfl (hb hby at_63) rfl rfl (XS.iconst X50.here hx rfl (hb hby at_65) (XS.iload X50.here hx rfl (hb hby at_66) rfl qk))) ?_
        refine own_stC X50 hx hZ e50 V50' 2 (by decide) (by decide) (by decide) (Nat.le_of_ble_eq_true rfl) N50 (by omega) (hb hby at_68) (fun T52 h52 X52 e52 N52 W52 z52 V52 => ?_)
        have V52' : Arv Z h52 a47 k47 .char (3 : Int32) [.int (nar .char c0), .int (nar .char (p1.toUInt32.toUInt16.toUInt32.toInt32)), .int (nar .char (p2.toUInt32.toUInt16.toUInt32.toInt32))] (.int 0) := V52
        show own_G p e below _ (T52.setTop (mkF m 69 #[.val (.int p0), .val (.int p1), .val (.int p2), .val (.int p3), .val (.int (3 : Int32)), .val (.int c0), .val (.int (p1.toUInt32.toUInt16.toUInt32.toInt32)), .val (.int (p2.toUInt32.toUInt16.toUInt32.toInt32)), .val (.ref a47), .unset, .unset, .unset] []))
        have KP52 : Keep h0 h52 [] := KP50.wr W52 (Or.inr (by omega))
        have OL52 := OL0.ext (own_ext KP52)
        have VN : Arv Z h52 a47 k47 .char (Int32.ofNat 3) ([c0, (p1.toUInt32.toUInt16.toUInt32.toInt32), (p2.toUInt32.toUInt16.toUInt32.toInt32)].map Value.int) (.int 0) := by have q := V52'; rw [own_narW hc0, own_narW (own_i2c p1), own_narW (own_i2c p2)] at q; exact q
        refine own_newO X52 hx hZ hown (own_w hw 2 rfl) (own_w hw 3 rfl) (own_w hw 4 rfl) e52 (hb hby at_69) (by decide) (by decide) (fun T53 h53 a53 X53 e53 g53 l53 E53 A53 D53 => ?_)
        show own_G p e below _ (T53.setTop (mkF m 72 #[.val (.int p0), .val (.int p1), .val (.int p2), .val (.int p3), .val (.int (3 : Int32)), .val (.int c0), .val (.int (p1.toUInt32.toUInt16.toUInt32.toInt32)), .val (.int (p2.toUInt32.toUInt16.toUInt32.toInt32)), .val (.ref a47), .unset, .unset, .unset] [(.ref a53)]))
        have KP53 : Keep h0 h53 [] := KP52.ext E53
        have OL53 := OL0.ext (own_ext KP53)
        refine own_step (b := T53.setTop (mkF m 75 #[.val (.int p0), .val (.int p1), .val (.int p2), .val (.int p3), .val (.int (3 : Int32)), .val (.int c0), .val (.int (p1.toUInt32.toUInt16.toUInt32.toInt32)), .val (.int (p2.toUInt32.toUInt16.toUInt32.toInt32)), .val (.ref a47), .unset, .unset, .unset] [(.ref a47), (.ref a53), (.ref a53)])) (fun _ qk => XS.dup X53.here hx rfl (hb hby at_72) rfl rfl (XS.aload X53.here hx rfl (hb hby at_73) rfl rfl qk)) ?_
        refine own_special (a := a53) (W := 1) (argsL := [(.ref a47)]) (st := [(.ref a53)]) X53 hx hZ hown rfl (own_w hw 5 rfl) (own_w hw 6 rfl) (own_w hw 7 rfl) (by decide) e53 (own_back (W := 1) (rmN1W l Z a0 hw [] a53 a47 k47 3 [c0, (p1.toUInt32.toUInt16.toUInt32.toInt32), (p2.toUInt32.toUInt16.toUInt32.toInt32)] h53 (A53) ((D53 (Or.inr (own_w hw 30 rfl)) (ty := (.array .byte)) (by decide))) ((D53 (Or.inr (own_w hw 28 rfl)) (ty := .byte) (by decide))) (VN.ext E53) rfl (by decide) (by decide) h0.size zn (by omega) (by omega) OL53 G1 O2 P5 G3 O4 rG3 SA1 SA2 SA3 hch hex) hZ (own_w hw 7 rfl) (own_w hw 4 rfl) (by decide) (by decide)) (by decide) (by decide) (by rw [hml]; rfl) (lenOf pd36 rfl) rfl (Nat.le_of_ble_eq_true rfl) (hb hby at_75) (fun v54 T54 L54 X54 hQ54 => ?_)
        obtain ⟨r54, kr54, rfl, M54, K54, g54, SS54⟩ := hQ54
        have zz54 : h53.size ≤ T54.heap.size := K54.1
        have N54 := Fr.app N52 M54
        have KP54 : Keep h0 T54.heap [] := KP53.trans K54 (allS (Or.inr (by omega)) all0)
        have OL54 := OL0.ext (own_ext KP54)
        refine own_step (b := T54.setTop (mkF m 80 #[.val (.int p0), .val (.int p1), .val (.int p2), .val (.int p3), .val (.int (3 : Int32)), .val (.int c0), .val (.int (p1.toUInt32.toUInt16.toUInt32.toInt32)), .val (.int (p2.toUInt32.toUInt16.toUInt32.toInt32)), .val (.ref a47), .val (.ref a53), .unset, .unset] [])) (fun _ qk => XS.astore X54.here hx rfl (hb hby at_78) rfl rfl (l' := #[.val (.int p0), .val (.int p1), .val (.int p2), .val (.int p3), .val (.int (3 : Int32)), .val (.int c0), .val (.int (p1.toUInt32.toUInt16.toUInt32.toInt32)), .val (.int (p2.toUInt32.toUInt16.toUInt32.toInt32)), .val (.ref a47), .val (.ref a53), .unset, .unset]) rfl qk) ?_
        refine own_newO X54 hx hZ hown (own_w hw 2 rfl) (own_w hw 3 rfl) (own_w hw 4 rfl) rfl (hb hby at_80) (by decide) (by decide) (fun T55 h55 a55 X55 e55 g55 l55 E55 A55 D55 => ?_)
        show own_G p e below _ (T55.setTop (mkF m 83 #[.val (.int p0), .val (.int p1), .val (.int p2), .val (.int p3), .val (.int (3 : Int32)), .val (.int c0), .val (.int (p1.toUInt32.toUInt16.toUInt32.toInt32)), .val (.int (p2.toUInt32.toUInt16.toUInt32.toInt32)), .val (.ref a47), .val (.ref a53), .unset, .unset] [(.ref a55)]))
        have KP55 : Keep h0 h55 [] := KP54.ext E55
        have OL55 := OL0.ext (own_ext KP55)
        show own_G p e below _ (T55.setTop (mkF m 83 #[.val (.int p0), .val (.int p1), .val (.int p2), .val (.int p3), .val (.int (3 : Int32)), .val (.int c0), .val (.int (p1.toUInt32.toUInt16.toUInt32.toInt32)), .val (.int (p2.toUInt32.toUInt16.toUInt32.toInt32)), .val (.ref a47), .val (.ref a53), .unset, .unset] [(.ref a55)]))
        have SN55 := SS54.ext E55
        refine own_step (b := T55.setTop (mkF m 92 #[.val (.int p0), .val (.int p1), .val (.int p2), .val (.int p3), .val (.int (3 : Int32)), .val (.int c0), .val (.int (p1.toUInt32.toUInt16.toUInt32.toInt32)), .val (.int (p2.toUInt32.toUInt16.toUInt32.toInt32)), .val (.ref a47), .val (.ref a53), .unset, .unset] [(.int (3 : Int32)), (.int (p2.toUInt32.toUInt16.toUInt32.toInt32)), (.int (p1.toUInt32.toUInt16.toUInt32.toInt32)), (.int c0), (.ref a55), (.ref a55)])) (fun _ qk => XS.dup X55.here hx rfl (hb hby at_83) rfl rfl (XS.iload X55.here hx rfl (hb hby at_84) rfl (XS.iload X55.here hx rfl (hb hby at_86) rfl (XS.iload X55.here hx rfl (hb hby at_88) rfl (XS.iload X55.here hx rfl (hb hby at_90) rfl qk))))) ?_
        refine own_static (W := 2) (argsL := [(.int c0), (.int (p1.toUInt32.toUInt16.toUInt32.toInt32)), (.int (p2.toUInt32.toUInt16.toUInt32.toInt32)), (.int (3 : Int32))]) (st := [(.ref a55), (.ref a55)]) X55 hx hZ hown (own_w hw 31 rfl) (own_w hw 32 rfl) (own_w hw 33 rfl) (own_w hw 34 rfl) (by decide) e55 (own_back (W := 2) (rmExp3 l Z a0 hw [] c0 (p1.toUInt32.toUInt16.toUInt32.toInt32) (p2.toUInt32.toUInt16.toUInt32.toInt32) h55 hc0 (own_i2c p1) (own_i2c p2)) hZ (own_w hw 34 rfl) (own_w hw 33 rfl) (by decide) (by decide)) (by decide) (by decide) (by rw [hml]; rfl) (lenOf pd37 rfl) rfl (Nat.le_of_ble_eq_true rfl) (hb hby at_92) (fun v56 T56 L56 X56 hQ56 => ?_)
        obtain ⟨r56, kr56, rfl, M56, E56, g56, V56⟩ := hQ56
        have zz56 : h55.size ≤ T56.heap.size := E56.1
        have N56 := Fr.app N54 (fun y hy => Nat.le_trans (by omega : h0.size ≤ h55.size) (M56 y hy))
        have KP56 : Keep h0 T56.heap [] := KP55.ext E56
        have OL56 := OL0.ext (own_ext KP56)
        have SN56 := SN55.ext E56
        show own_G p e below _ (T56.setTop (mkF m 95 #[.val (.int p0), .val (.int p1), .val (.int p2), .val (.int p3), .val (.int (3 : Int32)), .val (.int c0), .val (.int (p1.toUInt32.toUInt16.toUInt32.toInt32)), .val (.int (p2.toUInt32.toUInt16.toUInt32.toInt32)), .val (.ref a47), .val (.ref a53), .unset, .unset] [(.ref r56), (.ref a55), (.ref a55)]))
        refine own_special (a := a55) (W := 1) (argsL := [(.ref r56)]) (st := [(.ref a55)]) X56 hx hZ hown rfl (own_w hw 5 rfl) (own_w hw 6 rfl) (own_w hw 7 rfl) (by decide) rfl (own_back (W := 1) (rmN1W l Z a0 hw [] a55 r56 kr56 21 ([116, 114, 105, 51, 58, 108, 111, 99, 107, 58, 123] ++ [c0, (p1.toUInt32.toUInt16.toUInt32.toInt32), (p2.toUInt32.toUInt16.toUInt32.toInt32)] ++ [125] ++ [58, 116, 111, 107, 101, 110]) T56.heap (A55.ext E56) ((D55 (Or.inr (own_w hw 30 rfl)) (ty := (.array .byte)) (by decide)).ext E56) ((D55 (Or.inr (own_w hw 28 rfl)) (ty := .byte) (by decide)).ext E56) V56 rfl (by decide) (by decide) h0.size zn (by omega) (by omega) OL56 G1 O2 P5 G3 O4 rG3 SA1 SA2 SA3 hchx hexx) hZ (own_w hw 7 rfl) (own_w hw 4 rfl) (by decide) (by decide)) (by decide) (by decide) (by rw [hml]; rfl) (lenOf pd36 rfl) rfl (Nat.le_of_ble_eq_true rfl) (hb hby at_95) (fun v57 T57 L57 X57 hQ57 => ?_)
        obtain ⟨r57, kr57, rfl, M57, K57, g57, SE57⟩ := hQ57
        have zz57 : T56.heap.size ≤ T57.heap.size := K57.1
        have N57 := Fr.app N56 M57
        have KP57 : Keep h0 T57.heap [] := KP56.trans K57 (allS (Or.inr (by omega)) all0)
        have OL57 := OL0.ext (own_ext KP57)
        have lS1 : @LT.lt Nat instLTNat a53 h55.size := (SN55).1.lt
        have lS2 : @LT.lt Nat instLTNat a53 a55 := by have q : @LT.lt Nat instLTNat a53 T54.heap.size := SS54.1.lt; omega
        have lS3 : @LT.lt Nat instLTNat r54 a55 := by have q : @LT.lt Nat instLTNat r54 T54.heap.size := SS54.2.2.2.1.lt; omega
        have SN57 := SN56.keep K57 (ninS (own_ne (Or.inl lS2)) nin0) (ninS (own_ne (Or.inl lS3)) nin0)
        refine own_step (b := T57.setTop (mkF m 102 #[.val (.int p0), .val (.int p1), .val (.int p2), .val (.int p3), .val (.int (3 : Int32)), .val (.int c0), .val (.int (p1.toUInt32.toUInt16.toUInt32.toInt32)), .val (.int (p2.toUInt32.toUInt16.toUInt32.toInt32)), .val (.ref a47), .val (.ref a53), .val (.ref a55), .unset] [(.ref a53)])) (fun _ qk => XS.astore X57.here hx rfl (hb hby at_98) rfl rfl (l' := #[.val (.int p0), .val (.int p1), .val (.int p2), .val (.int p3), .val (.int (3 : Int32)), .val (.int c0), .val (.int (p1.toUInt32.toUInt16.toUInt32.toInt32)), .val (.int (p2.toUInt32.toUInt16.toUInt32.toInt32)), .val (.ref a47), .val (.ref a53), .val (.ref a55), .unset]) rfl (XS.aload X57.here hx rfl (hb hby at_100) rfl rfl qk)) ?_
        refine own_staticI (W := 0) (argsL := [(.ref a53)]) (st := []) X57 hx hZ hown (own_w hw 35 rfl) (own_w hw 36 rfl) (own_w hw 37 rfl) (own_w hw 38 rfl) (by decide) rfl hS (by omega) (rmLkW l Z a0 hw [] a53 r54 kr54 [c0, (p1.toUInt32.toUInt16.toUInt32.toInt32), (p2.toUInt32.toUInt16.toUInt32.toInt32)] T57.heap SN57 (Nat.le_of_ble_eq_true rfl) (Nat.le_of_ble_eq_true rfl) hne hch hex OL57 G1 O2 P5 G3 O4 rG3 SA1 SA2 SA3 CH0 CH1 CH2 CH3 CH4 CH5 HC) (fun _ hW => own_IBw hI hW) (by decide) (by decide) (by decide) (by decide) (by rw [hml]; rfl) (lenOf pd38 rfl) rfl (Nat.le_of_ble_eq_true rfl) (hb hby at_102) (fun v58 T58 L58 vm58 k58 X58 ev58 z58 hS hk hZ hown hQ58 => ?_)
        obtain ⟨r58, tr58, kr58, rfl, M58, E58, ST58⟩ := hQ58
        have N58 := Fr.app N57 (fun y hy => Nat.le_trans (by omega : h0.size ≤ T57.heap.size) (M58 y hy))
        have KP58 : Keep h0 T58.heap [] := KP57.ext E58
        have OL58 := OL0.ext (own_ext KP58)
        have SF := SE57.ext E58
        refine own_step (b := T58.setTop (mkF m 111 #[.val (.int p0), .val (.int p1), .val (.int p2), .val (.int p3), .val (.int (3 : Int32)), .val (.int c0), .val (.int (p1.toUInt32.toUInt16.toUInt32.toInt32)), .val (.int (p2.toUInt32.toUInt16.toUInt32.toInt32)), .val (.ref a47), .val (.ref a53), .val (.ref a55), .val (.ref r58)] [(.ref a55), (.ref r58)])) (fun _ qk => XS.astore X58.here hx rfl (hb hby at_105) rfl rfl (l' := #[.val (.int p0), .val (.int p1), .val (.int p2), .val (.int p3), .val (.int (3 : Int32)), .val (.int c0), .val (.int (p1.toUInt32.toUInt16.toUInt32.toInt32)), .val (.int (p2.toUInt32.toUInt16.toUInt32.toInt32)), .val (.ref a47), .val (.ref a53), .val (.ref a55), .val (.ref r58)]) rfl (XS.aload X58.here hx rfl (hb hby at_107) rfl rfl (XS.aload X58.here hx rfl (hb hby at_109) rfl rfl qk))) ?_
        refine own_virtual (a := r58) (W := 0) (argsL := [(.ref a55)]) (st := []) X58 hx hZ hown (own_w hw 208 rfl) (own_w hw 209 rfl) (own_w hw 211 rfl) trivial (own_w hw 210 rfl) (by decide) rfl ST58.1 (own_eqT (W := 0) hZ hw (kI := 4) (own_w hw 3 rfl) (cs := ([116, 114, 105, 51, 58, 108, 111, 99, 107, 58, 123] ++ [c0, (p1.toUInt32.toUInt16.toUInt32.toInt32), (p2.toUInt32.toUInt16.toUInt32.toInt32)] ++ [125] ++ [58, 116, 111, 107, 101, 110])) ST58 SF (Or.inr ⟨rfl, rfl, rfl, hexx⟩) hchx (by simp only [List.length_append, List.length_cons, List.length_nil]; omega) O2 P5 OL58 (by decide) (by decide)) (by decide) (by decide) (by rw [hml]; rfl) (lenOf pd39 rfl) rfl (Nat.le_of_ble_eq_true rfl) (hb hby at_111) (fun v59 T59 L59 X59 hQ59 => ?_)
        obtain ⟨rfl, rfl, hh59⟩ := hQ59
        rw [List.append_nil] at X59
        show own_G p e below _ (T59.setTop (mkF m 114 #[.val (.int p0), .val (.int p1), .val (.int p2), .val (.int p3), .val (.int (3 : Int32)), .val (.int c0), .val (.int (p1.toUInt32.toUInt16.toUInt32.toInt32)), .val (.int (p2.toUInt32.toUInt16.toUInt32.toInt32)), .val (.ref a47), .val (.ref a53), .val (.ref a55), .val (.ref r58)] [(.int (1 : Int32))]))
        exact own_retXN X59 hx hS (by rw [show T59.heap = T58.heap from hh59]; omega) hret (by simp) hlk (hb hby at_114) ⟨rfl, fun y hy => Nat.le_trans zn (N58 y hy)⟩ (by decide) (by decide)
      · show own_G p e below _ (T0.setTop (mkF m 25 #[.val (.int p0), .val (.int p1), .val (.int p2), .val (.int p3), .val (.int (3 : Int32)), .val (.int c0), .unset, .unset, .unset, .unset, .unset, .unset] []))
        have hp : ∀ c ∈ ([c0, (p1.toUInt32.toUInt16.toUInt32.toInt32), (p2.toUInt32.toUInt16.toUInt32.toInt32)] : List Int32), ¬ c < 0 ∧ ¬ (255 : Int32) < c := fun c hc => ⟨(hch c hc).1, fun q => hno ⟨c, hc, q⟩⟩
        have hpx : ∀ c ∈ ([116, 114, 105, 51, 58, 108, 111, 99, 107, 58, 123] ++ [c0, (p1.toUInt32.toUInt16.toUInt32.toInt32), (p2.toUInt32.toUInt16.toUInt32.toInt32)] ++ [125] ++ [58, 116, 111, 107, 101, 110]), ¬ c < 0 ∧ ¬ (255 : Int32) < c := own_all (by decide) hp (by decide) (by decide)
        refine own_step (b := T0.setTop (mkF m 35 #[.val (.int p0), .val (.int p1), .val (.int p2), .val (.int p3), .val (.int (3 : Int32)), .val (.int c0), .val (.int (p1.toUInt32.toUInt16.toUInt32.toInt32)), .val (.int (p2.toUInt32.toUInt16.toUInt32.toInt32)), .unset, .unset, .unset, .unset] [(.int (3 : Int32))])) (fun _ qk => XS.iloadN X0.here hx rfl (hb hby at_25) rfl (XT.i2c X0.here hx rfl (hb hby at_26) rfl (XS.istore X0.here hx rfl (hb hby at_27) rfl (l' := #[.val (.int p0), .val (.int p1), .val (.int p2), .val (.int p3), .val (.int (3 : Int32)), .val (.int c0), .val (.int (p1.toUInt32.toUInt16.toUInt32.toInt32)), .unset, .unset, .unset, .unset, .unset]) rfl (XS.iloadN X0.here hx rfl (hb hby at_29) rfl (XT.i2c X0.here hx rfl (hb hby at_30) rfl (XS.istore X0.here hx rfl (hb hby at_31) rfl (l' := #[.val (.int p0), .val (.int p1), .val (.int p2), .val (.int p3), .val (.int (3 : Int32)), .val (.int c0), .val (.int (p1.toUInt32.toUInt16.toUInt32.toInt32)), .val (.int (p2.toUInt32.toUInt16.toUInt32.toInt32)), .unset, .unset, .unset, .unset]) rfl (XS.iload X0.here hx rfl (hb hby at_33) rfl qk))))))) ?_
        refine own_newP X0 hx hZ (own_w hw 1 rfl) e0 (hb hby at_35) (n := (3 : Int32)) (by decide) 3 (by decide) (by decide) (by decide) (by decide) (fun T60 h60 a60 k60 X60 e60 g60 l60 E60 V60 => ?_)
        have V60' : Arv Z h60 a60 k60 .char (3 : Int32) [.int 0, .int 0, .int 0] (.int 0) := V60
        show own_G p e below _ (T60.setTop (mkF m 37 #[.val (.int p0), .val (.int p1), .val (.int p2), .val (.int p3), .val (.int (3 : Int32)), .val (.int c0), .val (.int (p1.toUInt32.toUInt16.toUInt32.toInt32)), .val (.int (p2.toUInt32.toUInt16.toUInt32.toInt32)), .unset, .unset, .unset, .unset] [(.ref a60)]))
        have KP60 : Keep h0 h60 [] := KP0.ext E60
        have OL60 := OL0.ext (own_ext KP60)
        refine own_step (b := T60.setTop (mkF m 44 #[.val (.int p0), .val (.int p1), .val (.int p2), .val (.int p3), .val (.int (3 : Int32)), .val (.int c0), .val (.int (p1.toUInt32.toUInt16.toUInt32.toInt32)), .val (.int (p2.toUInt32.toUInt16.toUInt32.toInt32)), .val (.ref a60), .unset, .unset, .unset] [(.int c0), (.int (0 : Int32)), (.ref a60)])) (fun _ qk => XS.astore X60.here hx rfl (hb hby at_37) rfl rfl (l' := #[.val (.int p0), .val (.int p1), .val (.int p2), .val (.int p3), .val (.int (3 : Int32)), .val (.int c0), .val (.int (p1.toUInt32.toUInt16.toUInt32.toInt32)), .val (.int (p2.toUInt32.toUInt16.toUInt32.toInt32)), .val (.ref a60), .unset, .unset, .unset]) rfl (XS.aload X60.here hx rfl (hb hby at_39) rfl rfl (XS.iconst X60.here hx rfl (hb hby at_41) (XS.iload X60.here hx rfl (hb hby at_42) rfl qk)))) ?_
        refine own_stC X60 hx hZ e60 V60' 0 (by decide) (by decide) (by decide) (Nat.le_of_ble_eq_true rfl) N0 (by omega) (hb hby at_44) (fun T61 h61 X61 e61 N61 W61 z61 V61 => ?_)
        have V61' : Arv Z h61 a60 k60 .char (3 : Int32) [.int (nar .char c0), .int 0, .int 0] (.int 0) := V61
        show own_G p e below _ (T61.setTop (mkF m 45 #[.val (.int p0), .val (.int p1), .val (.int p2), .val (.int p3), .val (.int (3 : Int32)), .val (.int c0), .val (.int (p1.toUInt32.toUInt16.toUInt32.toInt32)), .val (.int (p2.toUInt32.toUInt16.toUInt32.toInt32)), .val (.ref a60), .unset, .unset, .unset] []))
        have KP61 : Keep h0 h61 [] := KP60.wr W61 (Or.inr (by omega))
        have OL61 := OL0.ext (own_ext KP61)
        refine own_step (b := T61.setTop (mkF m 48 #[.val (.int p0), .val (.int p1), .val (.int p2), .val (.int p3), .val (.int (3 : Int32)), .val (.int c0), .val (.int (p1.toUInt32.toUInt16.toUInt32.toInt32)), .val (.int (p2.toUInt32.toUInt16.toUInt32.toInt32)), .val (.ref a60), .unset, .unset, .unset] [(.int (2 : Int32)), (.int (3 : Int32))])) (fun _ qk => XS.iload X61.here hx rfl (hb hby at_45) rfl (XS.iconst X61.here hx rfl (hb hby at_47) qk)) ?_
        refine own_icmp_lt X61 hx (hb hby at_48) (pc' := 57) (by decide) (by decide) (fun c48_62 => absurd c48_62 (by decide)) (fun c48_62 => ?_)
        refine own_step (b := T61.setTop (mkF m 56 #[.val (.int p0), .val (.int p1), .val (.int p2), .val (.int p3), .val (.int (3 : Int32)), .val (.int c0), .val (.int (p1.toUInt32.toUInt16.toUInt32.toInt32)), .val (.int (p2.toUInt32.toUInt16.toUInt32.toInt32)), .val (.ref a60), .unset, .unset, .unset] [(.int (p1.toUInt32.toUInt16.toUInt32.toInt32)), (.int (1 : Int32)), (.ref a60)])) (fun _ qk => XS.aload X61.here hx rfl (hb hby at_51) rfl rfl (XS.iconst X61.here hx rfl (hb hby at_53) (XS.iload X61.here hx rfl (hb hby at_54) rfl qk))) ?_
        refine own_stC X61 hx hZ e61 V61' 1 (by decide) (by decide) (by decide) (Nat.le_of_ble_eq_true rfl) N61 (by omega) (hb hby at_56) (fun T63 h63 X63 e63 N63 W63 z63 V63 => ?_)
        have V63' : Arv Z h63 a60 k60 .char (3 : Int32) [.int (nar .char c0), .int (nar .char (p1.toUInt32.toUInt16.toUInt32.toInt32)), .int 0] (.int 0) := V63
        show own_G p e below _ (T63.setTop (mkF m 57 #[.val (.int p0), .val (.int p1), .val (.int p2), .val (.int p3), .val (.int (3 : Int32)), .val (.int c0), .val (.int (p1.toUInt32.toUInt16.toUInt32.toInt32)), .val (.int (p2.toUInt32.toUInt16.toUInt32.toInt32)), .val (.ref a60), .unset, .unset, .unset] []))
        have KP63 : Keep h0 h63 [] := KP61.wr W63 (Or.inr (by omega))
        have OL63 := OL0.ext (own_ext KP63)
        refine own_step (b := T63.setTop (mkF m 60 #[.val (.int p0), .val (.int p1), .val (.int p2), .val (.int p3), .val (.int (3 : Int32)), .val (.int c0), .val (.int (p1.toUInt32.toUInt16.toUInt32.toInt32)), .val (.int (p2.toUInt32.toUInt16.toUInt32.toInt32)), .val (.ref a60), .unset, .unset, .unset] [(.int (3 : Int32)), (.int (3 : Int32))])) (fun _ qk => XS.iload X63.here hx rfl (hb hby at_57) rfl (XS.iconst X63.here hx rfl (hb hby at_59) qk)) ?_
        refine own_icmp_lt X63 hx (hb hby at_60) (pc' := 69) (by decide) (by decide) (fun c60_64 => absurd c60_64 (by decide)) (fun c60_64 => ?_)
        refine own_step (b := T63.setTop (mkF m 68 #[.val (.int p0), .val (.int p1), .val (.int p2), .val (.int p3), .val (.int (3 : Int32)), .val (.int c0), .val (.int (p1.toUInt32.toUInt16.toUInt32.toInt32)), .val (.int (p2.toUInt32.toUInt16.toUInt32.toInt32)), .val (.ref a60), .unset, .unset, .unset] [(.int (p2.toUInt32.toUInt16.toUInt32.toInt32)), (.int (2 : Int32)), (.ref a60)])) (fun _ qk => XS.aload X63.here hx rfl (hb hby at_63) rfl rfl (XS.iconst X63.here hx rfl (hb hby at_65) (XS.iload X63.here hx rfl (hb hby at_66) rfl qk))) ?_
        refine own_stC X63 hx hZ e63 V63' 2 (by decide) (by decide) (by decide) (Nat.le_of_ble_eq_true rfl) N63 (by omega) (hb hby at_68) (fun T65 h65 X65 e65 N65 W65 z65 V65 => ?_)
        have V65' : Arv Z h65 a60 k60 .char (3 : Int32) [.int (nar .char c0), .int (nar .char (p1.toUInt32.toUInt16.toUInt32.toInt32)), .int (nar .char (p2.toUInt32.toUInt16.toUInt32.toInt32))] (.int 0) := V65
        show own_G p e below _ (T65.setTop (mkF m 69 #[.val (.int p0), .val (.int p1), .val (.int p2), .val (.int p3), .val (.int (3 : Int32)), .val (.int c0), .val (.int (p1.toUInt32.toUInt16.toUInt32.toInt32)), .val (.int (p2.toUInt32.toUInt16.toUInt32.toInt32)), .val (.ref a60), .unset, .unset, .unset] []))
        have KP65 : Keep h0 h65 [] := KP63.wr W65 (Or.inr (by omega))
        have OL65 := OL0.ext (own_ext KP65)
        have VN : Arv Z h65 a60 k60 .char (Int32.ofNat 3) ([c0, (p1.toUInt32.toUInt16.toUInt32.toInt32), (p2.toUInt32.toUInt16.toUInt32.toInt32)].map Value.int) (.int 0) := by have q := V65'; rw [own_narW hc0, own_narW (own_i2c p1), own_narW (own_i2c p2)] at q; exact q
        refine own_newO X65 hx hZ hown (own_w hw 2 rfl) (own_w hw 3 rfl) (own_w hw 4 rfl) e65 (hb hby at_69) (by decide) (by decide) (fun T66 h66 a66 X66 e66 g66 l66 E66 A66 D66 => ?_)
        show own_G p e below _ (T66.setTop (mkF m 72 #[.val (.int p0), .val (.int p1), .val (.int p2), .val (.int p3), .val (.int (3 : Int32)), .val (.int c0), .val (.int (p1.toUInt32.toUInt16.toUInt32.toInt32)), .val (.int (p2.toUInt32.toUInt16.toUInt32.toInt32)), .val (.ref a60), .unset, .unset, .unset] [(.ref a66)]))
        have KP66 : Keep h0 h66 [] := KP65.ext E66
        have OL66 := OL0.ext (own_ext KP66)
        refine own_step (b := T66.setTop (mkF m 75 #[.val (.int p0), .val (.int p1), .val (.int p2), .val (.int p3), .val (.int (3 : Int32)), .val (.int c0), .val (.int (p1.toUInt32.toUInt16.toUInt32.toInt32)), .val (.int (p2.toUInt32.toUInt16.toUInt32.toInt32)), .val (.ref a60), .unset, .unset, .unset] [(.ref a60), (.ref a66), (.ref a66)])) (fun _ qk => XS.dup X66.here hx rfl (hb hby at_72) rfl rfl (XS.aload X66.here hx rfl (hb hby at_73) rfl rfl qk)) ?_
        refine own_special (a := a66) (W := 1) (argsL := [(.ref a60)]) (st := [(.ref a66)]) X66 hx hZ hown rfl (own_w hw 5 rfl) (own_w hw 6 rfl) (own_w hw 7 rfl) (by decide) e66 (own_back (W := 1) (rmN1L l Z a0 hw [] a66 a60 k60 3 [c0, (p1.toUInt32.toUInt16.toUInt32.toInt32), (p2.toUInt32.toUInt16.toUInt32.toInt32)] h66 (A66) ((D66 (Or.inr (own_w hw 30 rfl)) (ty := (.array .byte)) (by decide))) ((D66 (Or.inr (own_w hw 28 rfl)) (ty := .byte) (by decide))) (VN.ext E66) rfl (by decide) (by decide) h0.size zn (by omega) (by omega) OL66 G1 O2 P5 G3 O4 rG3 SA1 SA2 SA3 hp) hZ (own_w hw 7 rfl) (own_w hw 4 rfl) (by decide) (by decide)) (by decide) (by decide) (by rw [hml]; rfl) (lenOf pd36 rfl) rfl (Nat.le_of_ble_eq_true rfl) (hb hby at_75) (fun v67 T67 L67 X67 hQ67 => ?_)
        obtain ⟨r67, kr67, rfl, M67, K67, g67, SS67⟩ := hQ67
        have zz67 : h66.size ≤ T67.heap.size := K67.1
        have N67 := Fr.app N65 M67
        have KP67 : Keep h0 T67.heap [] := KP66.trans K67 (allS (Or.inr (by omega)) all0)
        have OL67 := OL0.ext (own_ext KP67)
        refine own_step (b := T67.setTop (mkF m 80 #[.val (.int p0), .val (.int p1), .val (.int p2), .val (.int p3), .val (.int (3 : Int32)), .val (.int c0), .val (.int (p1.toUInt32.toUInt16.toUInt32.toInt32)), .val (.int (p2.toUInt32.toUInt16.toUInt32.toInt32)), .val (.ref a60), .val (.ref a66), .unset, .unset] [])) (fun _ qk => XS.astore X67.here hx rfl (hb hby at_78) rfl rfl (l' := #[.val (.int p0), .val (.int p1), .val (.int p2), .val (.int p3), .val (.int (3 : Int32)), .val (.int c0), .val (.int (p1.toUInt32.toUInt16.toUInt32.toInt32)), .val (.int (p2.toUInt32.toUInt16.toUInt32.toInt32)), .val (.ref a60), .val (.ref a66), .unset, .unset]) rfl qk) ?_
        refine own_newO X67 hx hZ hown (own_w hw 2 rfl) (own_w hw 3 rfl) (own_w hw 4 rfl) rfl (hb hby at_80) (by decide) (by decide) (fun T68 h68 a68 X68 e68 g68 l68 E68 A68 D68 => ?_)
        show own_G p e below _ (T68.setTop (mkF m 83 #[.val (.int p0), .val (.int p1), .val (.int p2), .val (.int p3), .val (.int (3 : Int32)), .val (.int c0), .val (.int (p1.toUInt32.toUInt16.toUInt32.toInt32)), .val (.int (p2.toUInt32.toUInt16.toUInt32.toInt32)), .val (.ref a60), .val (.ref a66), .unset, .unset] [(.ref a68)]))
        have KP68 : Keep h0 h68 [] := KP67.ext E68
        have OL68 := OL0.ext (own_ext KP68)
        show own_G p e below _ (T68.setTop (mkF m 83 #[.val (.int p0), .val (.int p1), .val (.int p2), .val (.int p3), .val (.int (3 : Int32)), .val (.int c0), .val (.int (p1.toUInt32.toUInt16.toUInt32.toInt32)), .val (.int (p2.toUInt32.toUInt16.toUInt32.toInt32)), .val (.ref a60), .val (.ref a66), .unset, .unset] [(.ref a68)]))
        have SN68 := SS67.ext E68
        refine own_step (b := T68.setTop (mkF m 92 #[.val (.int p0), .val (.int p1), .val (.int p2), .val (.int p3), .val (.int (3 : Int32)), .val (.int c0), .val (.int (p1.toUInt32.toUInt16.toUInt32.toInt32)), .val (.int (p2.toUInt32.toUInt16.toUInt32.toInt32)), .val (.ref a60), .val (.ref a66), .unset, .unset] [(.int (3 : Int32)), (.int (p2.toUInt32.toUInt16.toUInt32.toInt32)), (.int (p1.toUInt32.toUInt16.toUInt32.toInt32)), (.int c0), (.ref a68), (.ref a68)])) (fun _ qk => XS.dup X68.here hx rfl (hb hby at_83) rfl rfl (XS.iload X68.here hx rfl (hb hby at_84) rfl (XS.iload X68.here hx rfl (hb hby at_86) rfl (XS.iload X68.here hx rfl (hb hby at_88) rfl (XS.iload X68.here hx rfl (hb hby at_90) rfl qk))))) ?_
        refine own_static (W := 2) (argsL := [(.int c0), (.int (p1.toUInt32.toUInt16.toUInt32.toInt32)), (.int (p2.toUInt32.toUInt16.toUInt32.toInt32)), (.int (3 : Int32))]) (st := [(.ref a68), (.ref a68)]) X68 hx hZ hown (own_w hw 31 rfl) (own_w hw 32 rfl) (own_w hw 33 rfl) (own_w hw 34 rfl) (by decide) e68 (own_back (W := 2) (rmExp3 l Z a0 hw [] c0 (p1.toUInt32.toUInt16.toUInt32.toInt32) (p2.toUInt32.toUInt16.toUInt32.toInt32) h68 hc0 (own_i2c p1) (own_i2c p2)) hZ (own_w hw 34 rfl) (own_w hw 33 rfl) (by decide) (by decide)) (by decide) (by decide) (by rw [hml]; rfl) (lenOf pd37 rfl) rfl (Nat.le_of_ble_eq_true rfl) (hb hby at_92) (fun v69 T69 L69 X69 hQ69 => ?_)
        obtain ⟨r69, kr69, rfl, M69, E69, g69, V69⟩ := hQ69
        have zz69 : h68.size ≤ T69.heap.size := E69.1
        have N69 := Fr.app N67 (fun y hy => Nat.le_trans (by omega : h0.size ≤ h68.size) (M69 y hy))
        have KP69 : Keep h0 T69.heap [] := KP68.ext E69
        have OL69 := OL0.ext (own_ext KP69)
        have SN69 := SN68.ext E69
        show own_G p e below _ (T69.setTop (mkF m 95 #[.val (.int p0), .val (.int p1), .val (.int p2), .val (.int p3), .val (.int (3 : Int32)), .val (.int c0), .val (.int (p1.toUInt32.toUInt16.toUInt32.toInt32)), .val (.int (p2.toUInt32.toUInt16.toUInt32.toInt32)), .val (.ref a60), .val (.ref a66), .unset, .unset] [(.ref r69), (.ref a68), (.ref a68)]))
        refine own_special (a := a68) (W := 1) (argsL := [(.ref r69)]) (st := [(.ref a68)]) X69 hx hZ hown rfl (own_w hw 5 rfl) (own_w hw 6 rfl) (own_w hw 7 rfl) (by decide) rfl (own_back (W := 1) (rmN1L l Z a0 hw [] a68 r69 kr69 21 ([116, 114, 105, 51, 58, 108, 111, 99, 107, 58, 123] ++ [c0, (p1.toUInt32.toUInt16.toUInt32.toInt32), (p2.toUInt32.toUInt16.toUInt32.toInt32)] ++ [125] ++ [58, 116, 111, 107, 101, 110]) T69.heap (A68.ext E69) ((D68 (Or.inr (own_w hw 30 rfl)) (ty := (.array .byte)) (by decide)).ext E69) ((D68 (Or.inr (own_w hw 28 rfl)) (ty := .byte) (by decide)).ext E69) V69 rfl (by decide) (by decide) h0.size zn (by omega) (by omega) OL69 G1 O2 P5 G3 O4 rG3 SA1 SA2 SA3 hpx) hZ (own_w hw 7 rfl) (own_w hw 4 rfl) (by decide) (by decide)) (by decide) (by decide) (by rw [hml]; rfl) (lenOf pd36 rfl) rfl (Nat.le_of_ble_eq_true rfl) (hb hby at_95) (fun v70 T70 L70 X70 hQ70 => ?_)
        obtain ⟨r70, kr70, rfl, M70, K70, g70, SE70⟩ := hQ70
        have zz70 : T69.heap.size ≤ T70.heap.size := K70.1
        have N70 := Fr.app N69 M70
        have KP70 : Keep h0 T70.heap [] := KP69.trans K70 (allS (Or.inr (by omega)) all0)
        have OL70 := OL0.ext (own_ext KP70)
        have lS1 : @LT.lt Nat instLTNat a66 h68.size := (SN68).1.lt
        have lS2 : @LT.lt Nat instLTNat a66 a68 := by have q : @LT.lt Nat instLTNat a66 T67.heap.size := SS67.1.lt; omega
        have lS3 : @LT.lt Nat instLTNat r67 a68 := by have q : @LT.lt Nat instLTNat r67 T67.heap.size := SS67.2.2.2.1.lt; omega
        have SN70 := SN69.keep K70 (ninS (own_ne (Or.inl lS2)) nin0) (ninS (own_ne (Or.inl lS3)) nin0)
        refine own_step (b := T70.setTop (mkF m 102 #[.val (.int p0), .val (.int p1), .val (.int p2), .val (.int p3), .val (.int (3 : Int32)), .val (.int c0), .val (.int (p1.toUInt32.toUInt16.toUInt32.toInt32)), .val (.int (p2.toUInt32.toUInt16.toUInt32.toInt32)), .val (.ref a60), .val (.ref a66), .val (.ref a68), .unset] [(.ref a66)])) (fun _ qk => XS.astore X70.here hx rfl (hb hby at_98) rfl rfl (l' := #[.val (.int p0), .val (.int p1), .val (.int p2), .val (.int p3), .val (.int (3 : Int32)), .val (.int c0), .val (.int (p1.toUInt32.toUInt16.toUInt32.toInt32)), .val (.int (p2.toUInt32.toUInt16.toUInt32.toInt32)), .val (.ref a60), .val (.ref a66), .val (.ref a68), .unset]) rfl (XS.aload X70.here hx rfl (hb hby at_100) rfl rfl qk)) ?_
        refine own_staticI (W := 0) (argsL := [(.ref a66)]) (st := []) X70 hx hZ hown (own_w hw 35 rfl) (own_w hw 36 rfl) (own_w hw 37 rfl) (own_w hw 38 rfl) (by decide) rfl hS (by omega) (rmLkL l Z a0 hw [] a66 r67 kr67 [c0, (p1.toUInt32.toUInt16.toUInt32.toInt32), (p2.toUInt32.toUInt16.toUInt32.toInt32)] T70.heap SN70 (Nat.le_of_ble_eq_true rfl) (Nat.le_of_ble_eq_true rfl) hne hp OL70 G1 O2 P5 G3 O4 rG3 SA1 SA2 SA3 CH0 CH1 CH2 CH3 CH4 CH5 HC) (fun _ hW => own_IBw hI hW) (by decide) (by decide) (by decide) (by decide) (by rw [hml]; rfl) (lenOf pd38 rfl) rfl (Nat.le_of_ble_eq_true rfl) (hb hby at_102) (fun v71 T71 L71 vm71 k71 X71 ev71 z71 hS hk hZ hown hQ71 => ?_)
        obtain ⟨r71, tr71, kr71, rfl, M71, E71, ST71⟩ := hQ71
        have N71 := Fr.app N70 (fun y hy => Nat.le_trans (by omega : h0.size ≤ T70.heap.size) (M71 y hy))
        have KP71 : Keep h0 T71.heap [] := KP70.ext E71
        have OL71 := OL0.ext (own_ext KP71)
        have SF := SE70.ext E71
        refine own_step (b := T71.setTop (mkF m 111 #[.val (.int p0), .val (.int p1), .val (.int p2), .val (.int p3), .val (.int (3 : Int32)), .val (.int c0), .val (.int (p1.toUInt32.toUInt16.toUInt32.toInt32)), .val (.int (p2.toUInt32.toUInt16.toUInt32.toInt32)), .val (.ref a60), .val (.ref a66), .val (.ref a68), .val (.ref r71)] [(.ref a68), (.ref r71)])) (fun _ qk => XS.astore X71.here hx rfl (hb hby at_105) rfl rfl (l' := #[.val (.int p0), .val (.int p1), .val (.int p2), .val (.int p3), .val (.int (3 : Int32)), .val (.int c0), .val (.int (p1.toUInt32.toUInt16.toUInt32.toInt32)), .val (.int (p2.toUInt32.toUInt16.toUInt32.toInt32)), .val (.ref a60), .val (.ref a66), .val (.ref a68), .val (.ref r71)]) rfl (XS.aload X71.here hx rfl (hb hby at_107) rfl rfl (XS.aload X71.here hx rfl (hb hby at_109) rfl rfl qk))) ?_
        refine own_virtual (a := r71) (W := 0) (argsL := [(.ref a68)]) (st := []) X71 hx hZ hown (own_w hw 208 rfl) (own_w hw 209 rfl) (own_w hw 211 rfl) trivial (own_w hw 210 rfl) (by decide) rfl ST71.1 (own_eqT (W := 0) hZ hw (kI := 4) (own_w hw 3 rfl) (cs := ([116, 114, 105, 51, 58, 108, 111, 99, 107, 58, 123] ++ [c0, (p1.toUInt32.toUInt16.toUInt32.toInt32), (p2.toUInt32.toUInt16.toUInt32.toInt32)] ++ [125] ++ [58, 116, 111, 107, 101, 110])) ST71 SF (Or.inl ⟨rfl, rfl, rfl, fun c hc => (hpx c hc).2⟩) (fun c hc => own_w1 (hpx c hc)) (by simp only [List.length_append, List.length_cons, List.length_nil]; omega) O2 P5 OL71 (by decide) (by decide)) (by decide) (by decide) (by rw [hml]; rfl) (lenOf pd39 rfl) rfl (Nat.le_of_ble_eq_true rfl) (hb hby at_111) (fun v72 T72 L72 X72 hQ72 => ?_)
        obtain ⟨rfl, rfl, hh72⟩ := hQ72
        rw [List.append_nil] at X72
        show own_G p e below _ (T72.setTop (mkF m 114 #[.val (.int p0), .val (.int p1), .val (.int p2), .val (.int p3), .val (.int (3 : Int32)), .val (.int c0), .val (.int (p1.toUInt32.toUInt16.toUInt32.toInt32)), .val (.int (p2.toUInt32.toUInt16.toUInt32.toInt32)), .val (.ref a60), .val (.ref a66), .val (.ref a68), .val (.ref r71)] [(.int (1 : Int32))]))
        exact own_retXN X72 hx hS (by rw [show T72.heap = T71.heap from hh72]; omega) hret (by simp) hlk (hb hby at_114) ⟨rfl, fun y hy => Nat.le_trans zn (N71 y hy)⟩ (by decide) (by decide)
    show own_G p e below _ (T0.setTop (mkF m 18 #[.val (.int p0), .val (.int p1), .val (.int p2), .val (.int p3), .val (.int (3 : Int32)), .val (.int (p0.toUInt32.toUInt16.toUInt32.toInt32)), .unset, .unset, .unset, .unset, .unset, .unset] [(.int (125 : Int32)), (.int (p0.toUInt32.toUInt16.toUInt32.toInt32))]))
    refine own_icmp_ne X0 hx (hb hby at_18) (pc' := 25) (by decide) (by decide) (fun c18 => ?_) (fun c18 => ?_)
    · show own_G p e below _ (T0.setTop (mkF m 25 #[.val (.int p0), .val (.int p1), .val (.int p2), .val (.int p3), .val (.int (3 : Int32)), .val (.int (p0.toUInt32.toUInt16.toUInt32.toInt32)), .unset, .unset, .unset, .unset, .unset, .unset] []))
      exact tail _ (own_i2c p0) c18
    · show own_G p e below _ (T0.setTop (mkF m 21 #[.val (.int p0), .val (.int p1), .val (.int p2), .val (.int p3), .val (.int (3 : Int32)), .val (.int (p0.toUInt32.toUInt16.toUInt32.toInt32)), .unset, .unset, .unset, .unset, .unset, .unset] []))
      refine own_step (b := T0.setTop (mkF m 25 #[.val (.int p0), .val (.int p1), .val (.int p2), .val (.int p3), .val (.int (3 : Int32)), .val (.int (124 : Int32)), .unset, .unset, .unset, .unset, .unset, .unset] [])) (fun _ qk => XS.bipush X0.here hx rfl (hb hby at_21) (XS.istore X0.here hx rfl (hb hby at_23) rfl (l' := #[.val (.int p0), .val (.int p1), .val (.int p2), .val (.int p3), .val (.int (3 : Int32)), .val (.int (124 : Int32)), .unset, .unset, .unset, .unset, .unset, .unset]) rfl qk)) ?_
      exact tail 124 (by decide) (by decide)
theorem kn_int {u : Value} {z : Int32} (h : Kin u (.int z)) : ∃ c, u = .int c := by cases u <;> simp [Kin, Value.isRef] at h ⊢
theorem comes_1 {Post : Tables → Env → Array Value → State → Outcome → State → Prop} (hpost : ∀ tb e args s v u, (limb_1_1.after args s (.returned v) u = true ∧ limb_1_2.after args s (.returned v) u = true ∧ True) → ReturnedEndW s (.returned v) u (Jvm.fieldLocs frame_1_writes args s ++ Jvm.arrayLocs frame_1_arrays args s ++ Jvm.staticLocs frame_1_statics s) 64 6976 → Post tb e args s (.returned v) u) :
    ArmFor flags0 classFile x code maxLocals ret World_1 tables_1 room_1 Calls_1 rest_1 Pre_1 Post := by
  intro l hfl _ _ p e ha hc hk s m args below hf hA hF happ hP
  obtain ⟨hcalls, hrest, hpre⟩ := hP
  obtain ⟨-, -, -, hnamed, -, -, -, hat⟩ := (Spec.applies_iff hf).mp happ
  obtain ⟨hg, hn⟩ := and_e (Cond.before_iff.mp (show (Jvm.Cond.and given_1 narrow_1).before args s = true from hpre))
  obtain ⟨hcnt, q0⟩ := and_e hg
  obtain ⟨i0, q1⟩ := and_e q0
  obtain ⟨i1, q2⟩ := and_e q1
  obtain ⟨i2, q3⟩ := and_e q2
  have i3 := q3
  obtain ⟨w0, w1, w2, w3, rfl⟩ : ∃ w0 w1 w2 w3 : Value, args = #[w0, w1, w2, w3] := by
    have hs : args.size = 4 := by simpa [Cond.value, given_1] using hcnt
    obtain ⟨L⟩ := args
    match L, hs with
    | [w0, w1, w2, w3], _ => exact ⟨w0, w1, w2, w3, rfl⟩
  have hw := fun d (hd : d ∈ tables_1) => atoms_spec (ws := Jvm.Cond.code x code maxLocals ret :: tables_1) hat d (List.mem_cons_of_mem _ hd)
  obtain ⟨hsets, hown0⟩ := atoms_of _ (rest_1_c_eq ▸ (show rest_1_c.before _ s = true from hrest))
  have hfit : Fit s := fun {y c} hc i hi => by
    obtain ⟨ha, rfl⟩ := Array.getElem?_eq_some_iff.mp hc
    have q := List.all_eq_true.mp ((Array.all_eq_true_iff_forall_mem.mp hF) _ (Array.getElem_mem ha)) i (List.mem_range.mpr hi)
    simpa [Array.getElem?_eq_getElem hi] using q
  obtain ⟨j0, e0⟩ := is_v i0
  obtain rfl : w0 = (.int j0) := Option.some.inj e0
  obtain ⟨j1, e1⟩ := is_v i1
  obtain rfl : w1 = (.int j1) := Option.some.inj e1
  obtain ⟨j2, e2⟩ := is_v i2
  obtain rfl : w2 = (.int j2) := Option.some.inj e2
  obtain ⟨j3, e3⟩ := is_v i3
  obtain rfl : w3 = (.int j3) := Option.some.inj e3
  have n5 := not_v (Cond.before_iff.mp (hsets _ (List.mem_of_getElem? (i := 2) rfl)))
  obtain ⟨G1, eG1⟩ := is_v (Cond.before_iff.mp (hsets _ (List.mem_of_getElem? (i := 1) rfl)))
  have O2 : Sta s s.heap "java/lang/String" "COMPACT_STRINGS" "Z" (.int G1) := Sta.start eG1 (Or.inl (hsets _ (List.mem_of_getElem? (i := 0) rfl)))
  have P5 : ¬ (G1 = (0 : Int32)) := gotF (Cond.eq_ints eG1 (Term.int_eval (0))) n5
  obtain ⟨G3, eG3, rG3⟩ := isR_v (Cond.before_iff.mp (hsets _ (List.mem_of_getElem? (i := 8) rfl)))
  have O4 : Sta s s.heap "jdk/internal/util/Preconditions" "SIOOBE_FORMATTER" "Ljava/util/function/BiFunction;" G3 := Sta.start eG3 (Or.inl (hsets _ (List.mem_of_getElem? (i := 7) rfl)))
  have HC : Jvm.Lit.compactW.before _ s = true := hsets _ (List.mem_of_getElem? (i := 2) rfl)
  obtain ⟨su1, sv1, sfu1, sfv1, skn1, -⟩ := cmp_v (Or.inl (Cond.before_iff.mp (hsets _ (List.mem_of_getElem? (i := 12) rfl))))
  obtain rfl : (.int 1) = sv1 := Option.some.inj sfv1
  obtain ⟨sc1, rfl⟩ := kn_int skn1
  have sh1 : sc1 = 1 := gotT (Cond.eq_ints sfu1 (Term.int_eval 1)) (Cond.before_iff.mp (hsets _ (List.mem_of_getElem? (i := 12) rfl)))
  have SA1 : Sta s s.heap "java/lang/StringUTF16" "$assertionsDisabled" "Z" (.int 1) := by have q := Sta.start sfu1 (Or.inl (hsets _ (List.mem_of_getElem? (i := 11) rfl))); rw [sh1] at q; exact q
  obtain ⟨su2, sv2, sfu2, sfv2, skn2, -⟩ := cmp_v (Or.inl (Cond.before_iff.mp (hsets _ (List.mem_of_getElem? (i := 15) rfl))))
  obtain rfl : (.int 0) = sv2 := Option.some.inj sfv2
  obtain ⟨sc2, rfl⟩ := kn_int skn2
  have sh2 : sc2 = 0 := gotT (Cond.eq_ints sfu2 (Term.int_eval 0)) (Cond.before_iff.mp (hsets _ (List.mem_of_getElem? (i := 15) rfl)))
  have SA2 : Sta s s.heap "java/lang/StringUTF16" "HI_BYTE_SHIFT" "I" (.int 0) := by have q := Sta.start sfu2 (Or.inl (hsets _ (List.mem_of_getElem? (i := 14) rfl))); rw [sh2] at q; exact q
  obtain ⟨su3, sv3, sfu3, sfv3, skn3, -⟩ := cmp_v (Or.inl (Cond.before_iff.mp (hsets _ (List.mem_of_getElem? (i := 18) rfl))))
  obtain rfl : (.int 8) = sv3 := Option.some.inj sfv3
  obtain ⟨sc3, rfl⟩ := kn_int skn3
  have sh3 : sc3 = 8 := gotT (Cond.eq_ints sfu3 (Term.int_eval 8)) (Cond.before_iff.mp (hsets _ (List.mem_of_getElem? (i := 18) rfl)))
  have SA3 : Sta s s.heap "java/lang/StringUTF16" "LO_BYTE_SHIFT" "I" (.int 8) := by have q := Sta.start sfu3 (Or.inl (hsets _ (List.mem_of_getElem? (i := 17) rfl))); rw [sh3] at q; exact q
  have CH0 : Jvm.Lit.constHeld s "com/example/tri3/tri3/RedisKeys" 7 := hcalls.1 _ (List.mem_of_getElem? (i := 0) rfl)
  have CH1 : Jvm.Lit.constHeld s "com/example/tri3/tri3/RedisKeys" 28 := hcalls.1 _ (List.mem_of_getElem? (i := 1) rfl)
  have CH2 : Jvm.Lit.constHeld s "com/example/tri3/tri3/RedisKeys" 36 := hcalls.1 _ (List.mem_of_getElem? (i := 2) rfl)
  have CH3 : Jvm.Lit.constHeld s "com/example/tri3/tri3/RedisKeys" 65 := hcalls.1 _ (List.mem_of_getElem? (i := 3) rfl)
  have CH4 : Jvm.Lit.constHeld s "com/example/tri3/tri3/RedisKeys" 67 := hcalls.1 _ (List.mem_of_getElem? (i := 4) rfl)
  have CH5 : Jvm.Lit.constHeld s "com/example/tri3/tri3/RedisKeys" 69 := hcalls.1 _ (List.mem_of_getElem? (i := 5) rfl)
  obtain ⟨n, o, h1, h2, h3, _, L, rfl, ⟨rfl, N⟩, hq⟩ := rm0 l s _ hw tables_1 j0 j1 j2 j3 s.heap G1 O2 P5 G3 O4 rG3 SA1 SA2 SA3 (Old.start s) CH0 CH1 CH2 CH3 CH4 CH5 HC p e ha hc hk s m _ below hf ((Spec.applies_iff_loose hf).mp happ).1 ⟨rfl, State.Warmed39.refl s, rfl, IB.start⟩ trivial
  refine ⟨n, _, h1, h2, h3, hpost _ _ _ _ _ _ ⟨Cond.after_iff.mpr rfl, Cond.after_iff.mpr (eq_i res_at (Term.int_eval (1)) rfl), trivial⟩ ⟨hq.1, hq.2.1, hq.2.2.1, (hq.2.2.2.sift fun y hy => Or.inr (N y hy)).mono (by decide) (by decide)⟩⟩
theorem main_1_1 : Claimed_1_1 := comes_1 fun _ _ _ _ _ _ h hF => ⟨h.1, hF⟩
theorem main_1_2 : Claimed_1_2 := comes_1 fun _ _ _ _ _ _ h hF => ⟨h.2.1, hF⟩
end Jvm.Pilot.@@N@@
namespace Jvm.Pilot.@@N@@
open Jvm Jvm.ClassFile Sem Op Lib Jvm.Free Jvm.Stand Jvm.Pilot.@@N@@.Jvm.D
/-! MADE BY PROGRAM (witnessworld.py) out of the Statement's table words and the real class files: 27 classes; the members and pool entries that the words name. The judged class is class 1, her method 1. -/
namespace start1
open Jvm.ClassFile
def u (s : String) : CpInfo := .utf8 (stringToUtf16 s)
/-- a pool by its gaps: so many unusable entries, then the entry; so many at the end -/
def gap : Nat → List CpInfo → List CpInfo
  | 0, r => r
  | n + 1, r => .unusable :: gap n r
def poolList (es : List (Nat × CpInfo)) (last : Nat) : List CpInfo := es.foldr (fun e r => gap e.1 (e.2 :: r)) (gap last [])
def pool (es : List (Nat × CpInfo)) (last : Nat) : Array CpInfo := ⟨poolList es last⟩
def fileOf (pool : Array CpInfo) (this : Nat) (attrs : Array Attribute := #[]) (ms : Array MethodInfo := #[]) (fl : Nat := 33) (sup : Nat := 0) (ifs : Array Nat := #[]) (fds : Array FieldInfo := #[]) : ClassFile where
  minorVersion := 0
  majorVersion := 65
  constantPool := pool
  accessFlags := fl
  thisClass := this
  superClass := sup
  interfaces := ifs
  fields := fds
  methods := ms
  attributes := attrs
def plain (name : String) (sup : Option ClassId) : Class where
  name := name
  kind := .ordinary
  loader := none
  accessFlags := 33
  super := sup
  interfaces := #[]
  cf := none
  fields := #[]
  methods := #[]
  instanceTypes := #[]
  staticTypes := #[]
  resolved := #[]
  callSites := []
  init := .initialized
  statics := none
  mirror := none

def pool0 : Array CpInfo := pool [(5, u "<init>"), (0, u "()V"), (1, .class_ 10), (1, u "java/lang/Object")] 113

def k0c0 : Code := { maxStack := 0, maxLocals := 1, code := object_method_1_code, exceptionTable := #[], attributes := #[] }
def k0m0 : Method := { name := "<init>", desc := "()V", sig := { parameters := [], returnType := none }, accessFlags := 1, code := some k0c0 }
/-- java/lang/Object -/
def k0 : Class := { plain "java/lang/Object" none with
  accessFlags := 33
  interfaces := #[]
  cf := some (fileOf pool0 8 #[] #[{ accessFlags := 1, nameIndex := 5, descriptorIndex := 6, attributes := #[] }] 33 0 #[] #[])
  fields := #[]
  methods := #[k0m0]
  instanceTypes := #[]
  staticTypes := #[]
  resolved := Array.replicate 124 none
  statics := none }

def pool1 : Array CpInfo := pool [(2, .class_ 4), (1, u "java/lang/Object"), (0, u "<init>"), (0, u "()V"), (0, .integer 2147483647), (0, .class_ 9), (0, u "java/lang/String"), (0, .methodref 8 11), (0, .nameAndType 5 12), (0, u "([C)V"), (0, .methodref 14 15), (0, .class_ 16), (0, .nameAndType 17 18), (0, u "com/example/tri3/tri3/RedisKeysLockTokenPinLaw"), (0, u "expected"), (0, u "(CCCI)[C"), (0, .methodref 20 21), (0, .class_ 22), (0, .nameAndType 23 24), (0, u "com/example/tri3/tri3/RedisKeys"), (0, u "lockToken"), (0, u "(Ljava/lang/String;)Ljava/lang/String;"), (0, .methodref 8 26), (0, .nameAndType 27 28), (0, u "equals"), (0, u "(Ljava/lang/Object;)Z"), (2, u "law"), (0, u "(IIII)Z")] 5

def k1m0 : Method := { name := "<init>", desc := "()V", sig := { parameters := [], returnType := none }, accessFlags := 2, code := none }
def k1c1 : Code := { maxStack := 6, maxLocals := 12, code := code, exceptionTable := #[], attributes := #[] }
def k1m1 : Method := { name := "law", desc := "(IIII)Z", sig := { parameters := [.int, .int, .int, .int], returnType := some .boolean }, accessFlags := 9, code := some k1c1 }
def k1c2 : Code := { maxStack := 3, maxLocals := 5, code := method_3_code, exceptionTable := #[], attributes := #[] }
def k1m2 : Method := { name := "expected", desc := "(CCCI)[C", sig := { parameters := [.char, .char, .char, .int], returnType := some (.array .char) }, accessFlags := 10, code := some k1c2 }
/-- com/example/tri3/tri3/RedisKeysLockTokenPinLaw -/
def k1 : Class := { plain "com/example/tri3/tri3/RedisKeysLockTokenPinLaw" (some 0) with
  accessFlags := 49
  interfaces := #[]
  cf := some (fileOf pool1 14 #[] #[{ accessFlags := 2, nameIndex := 5, descriptorIndex := 6, attributes := #[] }, { accessFlags := 9, nameIndex := 31, descriptorIndex := 32, attributes := #[] }, { accessFlags := 10, nameIndex := 17, descriptorIndex := 18, attributes := #[] }] 49 2 #[] #[])
  fields := #[]
  methods := #[k1m0, k1m1, k1m2]
  instanceTypes := #[]
  staticTypes := #[]
  resolved := Array.replicate 38 none
  statics := none }

def pool2 : Array CpInfo := pool [(1, .class_ 2), (0, u "java/io/Serializable"), (0, .class_ 4), (0, u "java/lang/Object")] 2

/-- java/io/Serializable -/
def k2 : Class := { plain "java/io/Serializable" (some 0) with
  accessFlags := 1537
  interfaces := #[]
  cf := some (fileOf pool2 1 #[] #[] 1537 3 #[] #[])
  fields := #[]
  methods := #[]
  instanceTypes := #[]
  staticTypes := #[]
  resolved := Array.replicate 7 none
  statics := none }

def pool3 : Array CpInfo := pool [(1, .class_ 2), (0, u "java/lang/Comparable"), (0, .class_ 4), (0, u "java/lang/Object")] 7

/-- java/lang/Comparable -/
def k3 : Class := { plain "java/lang/Comparable" (some 0) with
  accessFlags := 1537
  interfaces := #[]
  cf := some (fileOf pool3 1 #[] #[] 1537 3 #[] #[])
  fields := #[]
  methods := #[]
  instanceTypes := #[]
  staticTypes := #[]
  resolved := Array.replicate 12 none
  statics := none }

def pool4 : Array CpInfo := pool [(2, .class_ 4), (1, u "java/lang/CharSequence"), (42, .class_ 48), (0, u "java/lang/CharSequence$1CodePointIterator"), (10, .class_ 60), (0, u "java/lang/CharSequence$1CharIterator"), (5, .class_ 67), (0, u "java/lang/Object")] 63

/-- java/lang/CharSequence -/
def k4 : Class := { plain "java/lang/CharSequence" (some 0) with
  accessFlags := 1537
  interfaces := #[]
  cf := some (fileOf pool4 2 #[.nestMembers #[47, 59]] #[] 1537 66 #[] #[])
  fields := #[]
  methods := #[]
  instanceTypes := #[]
  staticTypes := #[]
  resolved := Array.replicate 131 none
  statics := none }

def pool5 : Array CpInfo := pool [(1, .class_ 2), (0, u "java/lang/constant/Constable"), (0, .class_ 4), (0, u "java/lang/Object")] 6

/-- java/lang/constant/Constable -/
def k5 : Class := { plain "java/lang/constant/Constable" (some 0) with
  accessFlags := 1537
  interfaces := #[]
  cf := some (fileOf pool5 1 #[] #[] 1537 3 #[] #[])
  fields := #[]
  methods := #[]
  instanceTypes := #[]
  staticTypes := #[]
  resolved := Array.replicate 11 none
  statics := none }

def pool6 : Array CpInfo := pool [(1, .class_ 2), (0, u "java/lang/constant/ConstantDesc"), (0, .class_ 4), (0, u "java/lang/Object")] 32

/-- java/lang/constant/ConstantDesc -/
def k6 : Class := { plain "java/lang/constant/ConstantDesc" (some 0) with
  accessFlags := 1537
  interfaces := #[]
  cf := some (fileOf pool6 1 #[] #[] 1537 3 #[] #[])
  fields := #[]
  methods := #[]
  instanceTypes := #[]
  staticTypes := #[]
  resolved := Array.replicate 37 none
  statics := none }

def pool7 : Array CpInfo := pool [(1, .methodref 2 3), (0, .class_ 4), (0, .nameAndType 5 6), (0, u "java/lang/Object"), (0, u "<init>"), (0, u "()V"), (2, .fieldref 10 11), (0, .class_ 12), (0, .nameAndType 13 14), (0, u "java/lang/String"), (0, u "value"), (0, u "[B"), (0, .fieldref 10 16), (0, .nameAndType 17 18), (0, u "coder"), (0, u "B"), (2, u "hash"), (0, u "I"), (2, u "hashIsZero"), (0, u "Z"), (0, .methodref 10 28), (0, .nameAndType 5 29), (0, u "([CIILjava/lang/Void;)V"), (6, u "checkBoundsOffCount"), (0, u "(III)I"), (0, .fieldref 10 39), (0, .nameAndType 40 26), (0, u "COMPACT_STRINGS"), (1, .class_ 44), (1, u "java/lang/StringUTF16"), (0, u "compress"), (1, .methodref 42 48), (0, .nameAndType 49 50), (0, u "coderFromArrayLen"), (0, u "([BI)B"), (3, .methodref 55 56), (0, .class_ 57), (0, .nameAndType 58 59), (0, u "java/util/Arrays"), (0, u "copyOfRange"), (0, u "([BII)[B"), (46, .methodref 107 108), (0, .class_ 109), (0, .nameAndType 110 111), (0, u "java/lang/StringLatin1"), (0, u "inflate"), (0, u "([BI[BII)V"), (30, u "()Z"), (34, .methodref 42 178), (0, .nameAndType 45 179), (0, u "([CII)[B"), (13, .class_ 195), (1, u "java/lang/System"), (16, .methodref 193 213), (0, .nameAndType 214 215), (0, u "arraycopy"), (0, u "(Ljava/lang/Object;ILjava/lang/Object;II)V"), (118, u "()I"), (0, .methodref 10 336), (0, .nameAndType 17 337), (0, u "()B"), (2, u "()[B"), (22, u "([BI)C"), (27, u "(II)V"), (35, u "(I)C"), (61, .methodref 10 490), (0, .nameAndType 5 491), (0, u "(Ljava/lang/AbstractStringBuilder;Ljava/lang/Void;)V"), (0, .methodref 10 493), (0, .nameAndType 494 142), (0, u "isLatin1"), (0, .methodref 107 496), (0, .nameAndType 497 363), (0, u "charAt"), (0, .methodref 42 496), (2, u "checkIndex"), (4, .nameAndType 507 334), (0, u "length"), (24, u "getBytes"), (8, .methodref 107 542), (0, .nameAndType 543 544), (0, u "equals"), (0, u "([B[B)Z"), (4, .methodref 550 506), (0, .class_ 551), (0, u "java/lang/AbstractStringBuilder"), (0, .methodref 550 553), (0, .nameAndType 554 340), (0, u "getValue"), (18, u "(Ljava/lang/Object;)Z"), (1, .class_ 576), (0, u "java/lang/CharSequence"), (22, u "CASE_INSENSITIVE_ORDER"), (0, u "Ljava/util/Comparator;"), (91, u "isEmpty"), (128, u "([BIB)V"), (188, u "([C)V"), (36, .methodref 550 493), (0, .fieldref 550 1049), (0, .nameAndType 1050 26), (0, u "maybeLatin1"), (2, .fieldref 1054 1055), (0, .class_ 1056), (0, .nameAndType 1057 1058), (0, u "jdk/internal/util/Preconditions"), (0, u "SIOOBE_FORMATTER"), (0, u "Ljava/util/function/BiFunction;"), (0, .methodref 1054 1060), (0, .nameAndType 501 1061), (0, u "(IILjava/util/function/BiFunction;)I"), (2, u "(IIILjava/util/function/BiFunction;)I"), (0, .methodref 1054 1066), (0, .nameAndType 1067 1064), (0, u "checkFromIndexSize"), (33, u "serialPersistentFields"), (0, u "[Ljava/io/ObjectStreamField;"), (0, .class_ 1104), (0, u "java/lang/String$CaseInsensitiveComparator"), (1, .class_ 1107), (0, u "java/io/Serializable"), (0, .class_ 1109), (0, u "java/lang/Comparable"), (0, .class_ 1111), (0, u "java/lang/constant/Constable"), (0, .class_ 1113), (0, u "java/lang/constant/ConstantDesc"), (2, u "serialVersionUID"), (0, u "J"), (3, u "REPL"), (0, u "C"), (2, u "LATIN1"), (1, u "UTF16"), (105, u "(Ljava/lang/StringBuilder;)V")] 217

def k7m0 : Method := { name := "<init>", desc := "()V", sig := { parameters := [], returnType := none }, accessFlags := 1, code := none }
def k7c1 : Code := { maxStack := 5, maxLocals := 2, code := jdk_42_method_3_code, exceptionTable := #[], attributes := #[] }
def k7m1 : Method := { name := "<init>", desc := "([C)V", sig := { parameters := [(.array .char)], returnType := none }, accessFlags := 1, code := some k7c1 }
def k7c2 : Code := { maxStack := 3, maxLocals := 2, code := jdk_42_method_53_code, exceptionTable := #[], attributes := #[] }
def k7m2 : Method := { name := "<init>", desc := "(Ljava/lang/StringBuilder;)V", sig := { parameters := [(.object "java/lang/StringBuilder")], returnType := none }, accessFlags := 1, code := some k7c2 }
def k7c3 : Code := { maxStack := 2, maxLocals := 1, code := jdk_42_method_54_code, exceptionTable := #[], attributes := #[] }
def k7m3 : Method := { name := "length", desc := "()I", sig := { parameters := [], returnType := some .int }, accessFlags := 1, code := some k7c3 }
def k7c4 : Code := { maxStack := 1, maxLocals := 1, code := jdk_42_method_55_code, exceptionTable := #[], attributes := #[] }
def k7m4 : Method := { name := "isEmpty", desc := "()Z", sig := { parameters := [], returnType := some .boolean }, accessFlags := 1, code := some k7c4 }
def k7c5 : Code := { maxStack := 2, maxLocals := 2, code := jdk_42_method_56_code, exceptionTable := #[], attributes := #[] }
def k7m5 : Method := { name := "charAt", desc := "(I)C", sig := { parameters := [.int], returnType := some .char }, accessFlags := 1, code := some k7c5 }
def k7c6 : Code := { maxStack := 2, maxLocals := 3, code := jdk_42_method_66_code, exceptionTable := #[], attributes := #[] }
def k7m6 : Method := { name := "equals", desc := "(Ljava/lang/Object;)Z", sig := { parameters := [(.object "java/lang/Object")], returnType := some .boolean }, accessFlags := 1, code := some k7c6 }
def k7c7 : Code := { maxStack := 5, maxLocals := 4, code := jdk_42_method_147_code, exceptionTable := #[], attributes := #[] }
def k7m7 : Method := { name := "getBytes", desc := "([BIB)V", sig := { parameters := [(.array .byte), .int, .byte], returnType := none }, accessFlags := 0, code := some k7c7 }
def k7c8 : Code := { maxStack := 4, maxLocals := 6, code := jdk_42_method_149_code, exceptionTable := #[], attributes := #[] }
def k7m8 : Method := { name := "<init>", desc := "([CIILjava/lang/Void;)V", sig := { parameters := [(.array .char), .int, .int, (.object "java/lang/Void")], returnType := none }, accessFlags := 2, code := some k7c8 }
def k7c9 : Code := { maxStack := 5, maxLocals := 5, code := jdk_42_method_150_code, exceptionTable := #[], attributes := #[] }
def k7m9 : Method := { name := "<init>", desc := "(Ljava/lang/AbstractStringBuilder;Ljava/lang/Void;)V", sig := { parameters := [(.object "java/lang/AbstractStringBuilder"), (.object "java/lang/Void")], returnType := none }, accessFlags := 0, code := some k7c9 }
def k7c10 : Code := { maxStack := 1, maxLocals := 1, code := jdk_42_method_152_code, exceptionTable := #[], attributes := #[] }
def k7m10 : Method := { name := "coder", desc := "()B", sig := { parameters := [], returnType := some .byte }, accessFlags := 0, code := some k7c10 }
def k7c11 : Code := { maxStack := 1, maxLocals := 1, code := jdk_42_method_154_code, exceptionTable := #[], attributes := #[] }
def k7m11 : Method := { name := "isLatin1", desc := "()Z", sig := { parameters := [], returnType := some .boolean }, accessFlags := 0, code := some k7c11 }
def k7c12 : Code := { maxStack := 3, maxLocals := 2, code := jdk_42_method_155_code, exceptionTable := #[], attributes := #[] }
def k7m12 : Method := { name := "checkIndex", desc := "(II)V", sig := { parameters := [.int, .int], returnType := none }, accessFlags := 8, code := some k7c12 }
def k7c13 : Code := { maxStack := 4, maxLocals := 3, code := jdk_42_method_157_code, exceptionTable := #[], attributes := #[] }
def k7m13 : Method := { name := "checkBoundsOffCount", desc := "(III)I", sig := { parameters := [.int, .int, .int], returnType := some .int }, accessFlags := 8, code := some k7c13 }
/-- java/lang/String -/
def k7 : Class := { plain "java/lang/String" (some 0) with
  accessFlags := 49
  interfaces := #[2, 3, 4, 5, 6]
  cf := some (fileOf pool7 10 #[.nestMembers #[1103]] #[{ accessFlags := 1, nameIndex := 5, descriptorIndex := 6, attributes := #[] }, { accessFlags := 1, nameIndex := 5, descriptorIndex := 1010, attributes := #[] }, { accessFlags := 1, nameIndex := 5, descriptorIndex := 1233, attributes := #[] }, { accessFlags := 1, nameIndex := 507, descriptorIndex := 334, attributes := #[] }, { accessFlags := 1, nameIndex := 692, descriptorIndex := 142, attributes := #[] }, { accessFlags := 1, nameIndex := 497, descriptorIndex := 427, attributes := #[] }, { accessFlags := 1, nameIndex := 543, descriptorIndex := 573, attributes := #[] }, { accessFlags := 0, nameIndex := 532, descriptorIndex := 821, attributes := #[] }, { accessFlags := 2, nameIndex := 5, descriptorIndex := 29, attributes := #[] }, { accessFlags := 0, nameIndex := 5, descriptorIndex := 491, attributes := #[] }, { accessFlags := 0, nameIndex := 17, descriptorIndex := 337, attributes := #[] }, { accessFlags := 0, nameIndex := 494, descriptorIndex := 142, attributes := #[] }, { accessFlags := 8, nameIndex := 501, descriptorIndex := 391, attributes := #[] }, { accessFlags := 8, nameIndex := 36, descriptorIndex := 37, attributes := #[] }] 49 2 #[1106, 1108, 575, 1110, 1112] #[{ accessFlags := 18, nameIndex := 13, descriptorIndex := 14, attributes := #[] }, { accessFlags := 18, nameIndex := 17, descriptorIndex := 18, attributes := #[] }, { accessFlags := 2, nameIndex := 21, descriptorIndex := 22, attributes := #[] }, { accessFlags := 2, nameIndex := 25, descriptorIndex := 26, attributes := #[] }, { accessFlags := 26, nameIndex := 1116, descriptorIndex := 1117, attributes := #[] }, { accessFlags := 24, nameIndex := 40, descriptorIndex := 26, attributes := #[] }, { accessFlags := 26, nameIndex := 1101, descriptorIndex := 1102, attributes := #[] }, { accessFlags := 26, nameIndex := 1121, descriptorIndex := 1122, attributes := #[] }, { accessFlags := 25, nameIndex := 599, descriptorIndex := 600, attributes := #[] }, { accessFlags := 24, nameIndex := 1125, descriptorIndex := 18, attributes := #[] }, { accessFlags := 24, nameIndex := 1127, descriptorIndex := 18, attributes := #[] }])
  fields := #[{ name := "value", type := (.array .byte), accessFlags := 18, slot := 0, constantValue := 0 }, { name := "coder", type := .byte, accessFlags := 18, slot := 1, constantValue := 0 }, { name := "hash", type := .int, accessFlags := 2, slot := 2, constantValue := 0 }, { name := "hashIsZero", type := .boolean, accessFlags := 2, slot := 3, constantValue := 0 }, { name := "serialVersionUID", type := .long, accessFlags := 26, slot := 0, constantValue := 0 }, { name := "COMPACT_STRINGS", type := .boolean, accessFlags := 24, slot := 1, constantValue := 0 }, { name := "serialPersistentFields", type := (.array (.object "java/io/ObjectStreamField")), accessFlags := 26, slot := 2, constantValue := 0 }, { name := "REPL", type := .char, accessFlags := 26, slot := 3, constantValue := 0 }, { name := "CASE_INSENSITIVE_ORDER", type := (.object "java/util/Comparator"), accessFlags := 25, slot := 4, constantValue := 0 }, { name := "LATIN1", type := .byte, accessFlags := 24, slot := 5, constantValue := 0 }, { name := "UTF16", type := .byte, accessFlags := 24, slot := 6, constantValue := 0 }]
  methods := #[k7m0, k7m1, k7m2, k7m3, k7m4, k7m5, k7m6, k7m7, k7m8, k7m9, k7m10, k7m11, k7m12, k7m13]
  instanceTypes := #[(.array .byte), .byte, .int, .boolean]
  staticTypes := #[.long, .boolean, (.array (.object "java/io/ObjectStreamField")), .char, (.object "java/util/Comparator"), .byte, .byte]
  resolved := Array.replicate 1451 none
  statics := some 0 }

def pool8 : Array CpInfo := pool [(3, .class_ 4), (0, u "java/lang/String"), (1, .class_ 8), (1, u "java/lang/Object"), (0, u "<init>"), (0, u "()V"), (0, .methodref 12 13), (0, .class_ 14), (0, .nameAndType 15 16), (0, u "java/lang/StringUTF16"), (0, u "newBytesLength"), (0, u "(I)I"), (3, .integer 1073741823), (23, .fieldref 12 45), (0, .nameAndType 46 47), (0, u "$assertionsDisabled"), (0, u "Z"), (0, .methodref 12 49), (0, .nameAndType 50 51), (0, u "length"), (0, u "([B)I"), (7, .fieldref 12 60), (0, .nameAndType 61 62), (0, u "HI_BYTE_SHIFT"), (0, u "I"), (0, .fieldref 12 64), (0, .nameAndType 65 62), (0, u "LO_BYTE_SHIFT"), (1, .methodref 12 68), (0, .nameAndType 69 70), (0, u "checkIndex"), (0, u "(I[B)V"), (0, .methodref 12 72), (0, .nameAndType 73 74), (0, u "getChar"), (0, u "([BI)C"), (24, u "(II[B)V"), (7, .methodref 12 108), (0, .nameAndType 109 110), (0, u "newBytesFor"), (0, u "(I)[B"), (0, .methodref 12 112), (0, .nameAndType 113 114), (0, u "putChar"), (0, u "([BII)V"), (0, .methodref 12 116), (0, .nameAndType 117 118), (0, u "compress"), (0, u "([CI[BII)I"), (0, .methodref 12 120), (0, .nameAndType 121 122), (0, u "toBytes"), (0, u "([CII)[B"), (17, u "inflate"), (0, u "([BI[BII)V"), (31, .methodref 12 174), (0, .nameAndType 175 99), (0, u "checkBoundsOffCount"), (85, u "coderFromArrayLen"), (0, u "([BI)B"), (18, u "(III)I"), (87, .class_ 371), (1, u "java/lang/StringUTF16$LinesSpliterator"), (20, u "charAt"), (21, .methodref 3 415), (0, .nameAndType 69 416), (0, u "(II)V"), (2, .methodref 3 420), (0, .nameAndType 175 281), (9, u "MAX_LENGTH"), (196, .class_ 628), (0, u "java/lang/StringUTF16$CodePointsSpliterator"), (0, .class_ 630), (0, u "java/lang/StringUTF16$CharsSpliterator")] 4

def k8m0 : Method := { name := "<init>", desc := "()V", sig := { parameters := [], returnType := none }, accessFlags := 0, code := none }
def k8c1 : Code := { maxStack := 1, maxLocals := 1, code := jdk_52_method_2_code, exceptionTable := #[], attributes := #[] }
def k8m1 : Method := { name := "newBytesFor", desc := "(I)[B", sig := { parameters := [.int], returnType := some (.array .byte) }, accessFlags := 9, code := some k8c1 }
def k8c2 : Code := { maxStack := 4, maxLocals := 1, code := jdk_52_method_3_code, exceptionTable := #[], attributes := #[] }
def k8m2 : Method := { name := "newBytesLength", desc := "(I)I", sig := { parameters := [.int], returnType := some .int }, accessFlags := 9, code := some k8c2 }
def k8c3 : Code := { maxStack := 4, maxLocals := 3, code := jdk_52_method_4_code, exceptionTable := #[], attributes := #[] }
def k8m3 : Method := { name := "putChar", desc := "([BII)V", sig := { parameters := [(.array .byte), .int, .int], returnType := none }, accessFlags := 8, code := some k8c3 }
def k8c4 : Code := { maxStack := 3, maxLocals := 2, code := jdk_52_method_5_code, exceptionTable := #[], attributes := #[] }
def k8m4 : Method := { name := "getChar", desc := "([BI)C", sig := { parameters := [(.array .byte), .int], returnType := some .char }, accessFlags := 8, code := some k8c4 }
def k8c5 : Code := { maxStack := 2, maxLocals := 1, code := jdk_52_method_6_code, exceptionTable := #[], attributes := #[] }
def k8m5 : Method := { name := "length", desc := "([B)I", sig := { parameters := [(.array .byte)], returnType := some .int }, accessFlags := 9, code := some k8c5 }
def k8c6 : Code := { maxStack := 4, maxLocals := 5, code := jdk_52_method_14_code, exceptionTable := #[], attributes := #[] }
def k8m6 : Method := { name := "toBytes", desc := "([CII)[B", sig := { parameters := [(.array .char), .int, .int], returnType := some (.array .byte) }, accessFlags := 9, code := some k8c6 }
def k8c7 : Code := { maxStack := 2, maxLocals := 2, code := jdk_52_method_15_code, exceptionTable := #[], attributes := #[] }
def k8m7 : Method := { name := "coderFromArrayLen", desc := "([BI)B", sig := { parameters := [(.array .byte), .int], returnType := some .byte }, accessFlags := 8, code := some k8c7 }
def k8c8 : Code := { maxStack := 5, maxLocals := 6, code := jdk_52_method_16_code, exceptionTable := #[], attributes := #[] }
def k8m8 : Method := { name := "compress", desc := "([CII)[B", sig := { parameters := [(.array .char), .int, .int], returnType := some (.array .byte) }, accessFlags := 9, code := some k8c8 }
def k8c9 : Code := { maxStack := 3, maxLocals := 7, code := jdk_52_method_21_code, exceptionTable := #[], attributes := #[] }
def k8m9 : Method := { name := "compress", desc := "([CI[BII)I", sig := { parameters := [(.array .char), .int, (.array .byte), .int, .int], returnType := some .int }, accessFlags := 9, code := some k8c9 }
def k8c10 : Code := { maxStack := 2, maxLocals := 2, code := jdk_52_method_83_code, exceptionTable := #[], attributes := #[] }
def k8m10 : Method := { name := "charAt", desc := "([BI)C", sig := { parameters := [(.array .byte), .int], returnType := some .char }, accessFlags := 9, code := some k8c10 }
def k8c11 : Code := { maxStack := 4, maxLocals := 6, code := jdk_52_method_86_code, exceptionTable := #[], attributes := #[] }
def k8m11 : Method := { name := "inflate", desc := "([BI[BII)V", sig := { parameters := [(.array .byte), .int, (.array .byte), .int, .int], returnType := none }, accessFlags := 9, code := some k8c11 }
def k8c12 : Code := { maxStack := 2, maxLocals := 2, code := jdk_52_method_91_code, exceptionTable := #[], attributes := #[] }
def k8m12 : Method := { name := "checkIndex", desc := "(I[B)V", sig := { parameters := [.int, (.array .byte)], returnType := none }, accessFlags := 9, code := some k8c12 }
def k8c13 : Code := { maxStack := 3, maxLocals := 3, code := jdk_52_method_94_code, exceptionTable := #[], attributes := #[] }
def k8m13 : Method := { name := "checkBoundsOffCount", desc := "(II[B)V", sig := { parameters := [.int, .int, (.array .byte)], returnType := none }, accessFlags := 9, code := some k8c13 }
/-- java/lang/StringUTF16 -/
def k8 : Class := { plain "java/lang/StringUTF16" (some 0) with
  accessFlags := 48
  interfaces := #[]
  cf := some (fileOf pool8 12 #[.nestMembers #[627, 629, 369]] #[{ accessFlags := 0, nameIndex := 9, descriptorIndex := 10, attributes := #[] }, { accessFlags := 9, nameIndex := 109, descriptorIndex := 110, attributes := #[] }, { accessFlags := 9, nameIndex := 15, descriptorIndex := 16, attributes := #[] }, { accessFlags := 8, nameIndex := 113, descriptorIndex := 114, attributes := #[] }, { accessFlags := 8, nameIndex := 73, descriptorIndex := 74, attributes := #[] }, { accessFlags := 9, nameIndex := 50, descriptorIndex := 51, attributes := #[] }, { accessFlags := 9, nameIndex := 121, descriptorIndex := 122, attributes := #[] }, { accessFlags := 8, nameIndex := 261, descriptorIndex := 262, attributes := #[] }, { accessFlags := 9, nameIndex := 117, descriptorIndex := 122, attributes := #[] }, { accessFlags := 9, nameIndex := 117, descriptorIndex := 118, attributes := #[] }, { accessFlags := 9, nameIndex := 392, descriptorIndex := 74, attributes := #[] }, { accessFlags := 9, nameIndex := 140, descriptorIndex := 141, attributes := #[] }, { accessFlags := 9, nameIndex := 69, descriptorIndex := 70, attributes := #[] }, { accessFlags := 9, nameIndex := 175, descriptorIndex := 99, attributes := #[] }] 48 6 #[] #[{ accessFlags := 26, nameIndex := 61, descriptorIndex := 62, attributes := #[] }, { accessFlags := 26, nameIndex := 65, descriptorIndex := 62, attributes := #[] }, { accessFlags := 24, nameIndex := 430, descriptorIndex := 62, attributes := #[] }, { accessFlags := 4120, nameIndex := 46, descriptorIndex := 47, attributes := #[] }])
  fields := #[{ name := "HI_BYTE_SHIFT", type := .int, accessFlags := 26, slot := 0, constantValue := 0 }, { name := "LO_BYTE_SHIFT", type := .int, accessFlags := 26, slot := 1, constantValue := 0 }, { name := "MAX_LENGTH", type := .int, accessFlags := 24, slot := 2, constantValue := 0 }, { name := "$assertionsDisabled", type := .boolean, accessFlags := 4120, slot := 3, constantValue := 0 }]
  methods := #[k8m0, k8m1, k8m2, k8m3, k8m4, k8m5, k8m6, k8m7, k8m8, k8m9, k8m10, k8m11, k8m12, k8m13]
  instanceTypes := #[]
  staticTypes := #[.int, .int, .int, .boolean]
  resolved := Array.replicate 635 none
  statics := some 1 }

def pool9 : Array CpInfo := pool [(2, .class_ 4), (0, .nameAndType 5 6), (0, u "java/lang/Object"), (0, u "<init>"), (0, u "()V"), (0, .string 8), (0, u "lock"), (0, .methodref 10 11), (0, .class_ 12), (0, .nameAndType 13 14), (0, u "com/example/tri3/tri3/RedisKeys"), (0, u "tagged"), (0, u "(Ljava/lang/String;Ljava/lang/String;)Ljava/lang/String;"), (0, .class_ 16), (0, u "java/lang/StringBuilder"), (0, .methodref 15 3), (0, .methodref 15 19), (0, .nameAndType 20 21), (0, u "append"), (0, u "(Ljava/lang/String;)Ljava/lang/StringBuilder;"), (2, .methodref 15 25), (0, .nameAndType 26 27), (0, u "toString"), (0, u "()Ljava/lang/String;"), (0, .string 29), (0, u ":token"), (6, .string 37), (0, u "name"), (0, .methodref 39 40), (0, .class_ 41), (0, .nameAndType 42 43), (0, u "java/util/Objects"), (0, u "requireNonNull"), (0, u "(Ljava/lang/Object;Ljava/lang/String;)Ljava/lang/Object;"), (0, .methodref 45 46), (0, .class_ 47), (0, .nameAndType 48 49), (0, u "java/lang/String"), (0, u "isEmpty"), (0, u "()Z"), (0, .methodref 45 51), (0, .nameAndType 52 53), (0, u "charAt"), (0, u "(I)C"), (11, .string 66), (0, u "tri3:"), (0, .string 68), (0, u ":{"), (0, .string 70), (0, u "}"), (0, u "PREFIX"), (0, u "Ljava/lang/String;"), (3, u "(Ljava/lang/String;)Ljava/lang/String;"), (1, u "lockToken")] 4

def k9m0 : Method := { name := "<init>", desc := "()V", sig := { parameters := [], returnType := none }, accessFlags := 2, code := none }
def k9c1 : Code := { maxStack := 3, maxLocals := 1, code := prog_1_method_4_code, exceptionTable := #[], attributes := #[] }
def k9m1 : Method := { name := "lockToken", desc := "(Ljava/lang/String;)Ljava/lang/String;", sig := { parameters := [(.object "java/lang/String")], returnType := some (.object "java/lang/String") }, accessFlags := 8, code := some k9c1 }
def k9c2 : Code := { maxStack := 4, maxLocals := 2, code := prog_1_method_8_code, exceptionTable := #[], attributes := #[] }
def k9m2 : Method := { name := "tagged", desc := "(Ljava/lang/String;Ljava/lang/String;)Ljava/lang/String;", sig := { parameters := [(.object "java/lang/String"), (.object "java/lang/String")], returnType := some (.object "java/lang/String") }, accessFlags := 10, code := some k9c2 }
/-- com/example/tri3/tri3/RedisKeys -/
def k9 : Class := { plain "com/example/tri3/tri3/RedisKeys" (some 0) with
  accessFlags := 48
  interfaces := #[]
  cf := some (fileOf pool9 10 #[] #[{ accessFlags := 2, nameIndex := 5, descriptorIndex := 6, attributes := #[] }, { accessFlags := 8, nameIndex := 78, descriptorIndex := 76, attributes := #[] }, { accessFlags := 10, nameIndex := 13, descriptorIndex := 14, attributes := #[] }] 48 2 #[] #[{ accessFlags := 24, nameIndex := 71, descriptorIndex := 72, attributes := #[] }])
  fields := #[{ name := "PREFIX", type := (.object "java/lang/String"), accessFlags := 24, slot := 0, constantValue := 0 }]
  methods := #[k9m0, k9m1, k9m2]
  instanceTypes := #[]
  staticTypes := #[(.object "java/lang/String")]
  resolved := Array.replicate 83 none
  statics := none }

def pool10 : Array CpInfo := pool [(1, .class_ 2), (0, u "java/lang/Appendable"), (0, .class_ 4), (0, u "java/lang/Object")] 9

/-- java/lang/Appendable -/
def k10 : Class := { plain "java/lang/Appendable" (some 0) with
  accessFlags := 1537
  interfaces := #[]
  cf := some (fileOf pool10 1 #[] #[] 1537 3 #[] #[])
  fields := #[]
  methods := #[]
  instanceTypes := #[]
  staticTypes := #[]
  resolved := Array.replicate 14 none
  statics := none }

def pool11 : Array CpInfo := pool [(1, .class_ 2), (0, u "java/lang/String"), (0, .methodref 4 5), (0, .class_ 6), (0, .nameAndType 7 8), (0, u "java/lang/Object"), (0, u "<init>"), (0, u "()V"), (1, .class_ 12), (1, u "java/lang/AbstractStringBuilder"), (0, u "EMPTYVALUE"), (0, u "[B"), (0, .fieldref 10 16), (0, .nameAndType 17 14), (0, u "value"), (0, .fieldref 1 19), (0, .nameAndType 20 21), (0, u "COMPACT_STRINGS"), (0, u "Z"), (0, .fieldref 10 23), (0, .nameAndType 24 25), (0, u "coder"), (0, u "B"), (0, .methodref 27 28), (0, .class_ 29), (0, .nameAndType 30 31), (0, u "java/lang/StringUTF16"), (0, u "newBytesFor"), (0, u "(I)[B"), (0, .methodref 1 33), (0, .nameAndType 34 35), (0, u "length"), (0, u "()I"), (3, .integer 2147483647), (0, .methodref 1 41), (0, .nameAndType 24 42), (0, u "()B"), (2, u "append"), (0, u "(Ljava/lang/String;)Ljava/lang/AbstractStringBuilder;"), (1, .class_ 49), (0, u "java/lang/CharSequence"), (19, u "(Ljava/lang/String;)V"), (5, u "maybeLatin1"), (3, .fieldref 10 80), (0, .nameAndType 81 82), (0, u "count"), (0, u "I"), (0, .methodref 10 84), (0, .nameAndType 85 86), (0, u "isLatin1"), (0, u "()Z"), (1, .class_ 90), (1, u "java/lang/StringLatin1"), (9, .methodref 10 101), (0, .nameAndType 102 103), (0, u "ensureCapacityInternal"), (0, u "(I)V"), (0, .methodref 10 105), (0, .nameAndType 106 107), (0, u "newCapacity"), (0, u "(I)I"), (0, .methodref 109 110), (0, .class_ 111), (0, .nameAndType 112 113), (0, u "java/util/Arrays"), (0, u "copyOf"), (0, u "([BI)[B"), (0, .methodref 115 116), (0, .class_ 117), (0, .nameAndType 118 119), (0, u "jdk/internal/util/ArraysSupport"), (0, u "newLength"), (0, u "(III)I"), (5, .methodref 88 126), (0, .nameAndType 127 128), (0, u "inflate"), (0, u "([BI[BII)V"), (66, .methodref 10 196), (0, .nameAndType 127 8), (11, .methodref 10 209), (0, .nameAndType 210 211), (0, u "putStringAt"), (0, u "(ILjava/lang/String;)V"), (5, u "inflateIfNeededFor"), (2, .nameAndType 221 222), (0, u "getBytes"), (0, u "([BIB)V"), (174, .methodref 10 398), (0, .nameAndType 217 69), (0, .methodref 1 220), (3, u "()[B"), (40, .class_ 445), (0, u "java/lang/Appendable"), (106, u "getValue")] 56

def k11m0 : Method := { name := "<init>", desc := "()V", sig := { parameters := [], returnType := none }, accessFlags := 0, code := none }
def k11c1 : Code := { maxStack := 2, maxLocals := 2, code := jdk_68_method_2_code, exceptionTable := #[], attributes := #[] }
def k11m1 : Method := { name := "<init>", desc := "(I)V", sig := { parameters := [.int], returnType := none }, accessFlags := 0, code := some k11c1 }
def k11c2 : Code := { maxStack := 1, maxLocals := 1, code := jdk_68_method_6_code, exceptionTable := #[], attributes := #[] }
def k11m2 : Method := { name := "length", desc := "()I", sig := { parameters := [], returnType := some .int }, accessFlags := 1, code := some k11c2 }
def k11c3 : Code := { maxStack := 4, maxLocals := 3, code := jdk_68_method_9_code, exceptionTable := #[], attributes := #[] }
def k11m3 : Method := { name := "ensureCapacityInternal", desc := "(I)V", sig := { parameters := [.int], returnType := none }, accessFlags := 2, code := some k11c3 }
def k11c4 : Code := { maxStack := 5, maxLocals := 6, code := jdk_68_method_10_code, exceptionTable := #[], attributes := #[] }
def k11m4 : Method := { name := "newCapacity", desc := "(I)I", sig := { parameters := [.int], returnType := some .int }, accessFlags := 2, code := some k11c4 }
def k11c5 : Code := { maxStack := 5, maxLocals := 2, code := jdk_68_method_11_code, exceptionTable := #[], attributes := #[] }
def k11m5 : Method := { name := "inflate", desc := "()V", sig := { parameters := [], returnType := none }, accessFlags := 2, code := some k11c5 }
def k11c6 : Code := { maxStack := 3, maxLocals := 3, code := jdk_68_method_22_code, exceptionTable := #[], attributes := #[] }
def k11m6 : Method := { name := "append", desc := "(Ljava/lang/String;)Ljava/lang/AbstractStringBuilder;", sig := { parameters := [(.object "java/lang/String")], returnType := some (.object "java/lang/AbstractStringBuilder") }, accessFlags := 1, code := some k11c6 }
def k11c7 : Code := { maxStack := 1, maxLocals := 1, code := jdk_68_method_64_code, exceptionTable := #[], attributes := #[] }
def k11m7 : Method := { name := "getValue", desc := "()[B", sig := { parameters := [], returnType := some (.array .byte) }, accessFlags := 16, code := some k11c7 }
def k11c8 : Code := { maxStack := 1, maxLocals := 1, code := jdk_68_method_68_code, exceptionTable := #[], attributes := #[] }
def k11m8 : Method := { name := "isLatin1", desc := "()Z", sig := { parameters := [], returnType := some .boolean }, accessFlags := 16, code := some k11c8 }
def k11c9 : Code := { maxStack := 2, maxLocals := 2, code := jdk_68_method_71_code, exceptionTable := #[], attributes := #[] }
def k11m9 : Method := { name := "inflateIfNeededFor", desc := "(Ljava/lang/String;)V", sig := { parameters := [(.object "java/lang/String")], returnType := none }, accessFlags := 2, code := some k11c9 }
def k11c10 : Code := { maxStack := 4, maxLocals := 3, code := jdk_68_method_73_code, exceptionTable := #[], attributes := #[] }
def k11m10 : Method := { name := "putStringAt", desc := "(ILjava/lang/String;)V", sig := { parameters := [.int, (.object "java/lang/String")], returnType := none }, accessFlags := 2, code := some k11c10 }
/-- java/lang/AbstractStringBuilder -/
def k11 : Class := { plain "java/lang/AbstractStringBuilder" (some 0) with
  accessFlags := 1056
  interfaces := #[10, 4]
  cf := some (fileOf pool11 10 #[] #[{ accessFlags := 0, nameIndex := 7, descriptorIndex := 8, attributes := #[] }, { accessFlags := 0, nameIndex := 7, descriptorIndex := 103, attributes := #[] }, { accessFlags := 1, nameIndex := 34, descriptorIndex := 35, attributes := #[] }, { accessFlags := 2, nameIndex := 102, descriptorIndex := 103, attributes := #[] }, { accessFlags := 2, nameIndex := 106, descriptorIndex := 107, attributes := #[] }, { accessFlags := 2, nameIndex := 127, descriptorIndex := 8, attributes := #[] }, { accessFlags := 1, nameIndex := 45, descriptorIndex := 46, attributes := #[] }, { accessFlags := 16, nameIndex := 552, descriptorIndex := 403, attributes := #[] }, { accessFlags := 16, nameIndex := 85, descriptorIndex := 86, attributes := #[] }, { accessFlags := 2, nameIndex := 217, descriptorIndex := 69, attributes := #[] }, { accessFlags := 2, nameIndex := 210, descriptorIndex := 211, attributes := #[] }] 1056 4 #[444, 48] #[{ accessFlags := 0, nameIndex := 17, descriptorIndex := 14, attributes := #[] }, { accessFlags := 0, nameIndex := 24, descriptorIndex := 25, attributes := #[] }, { accessFlags := 0, nameIndex := 75, descriptorIndex := 21, attributes := #[] }, { accessFlags := 0, nameIndex := 81, descriptorIndex := 82, attributes := #[] }, { accessFlags := 26, nameIndex := 13, descriptorIndex := 14, attributes := #[] }])
  fields := #[{ name := "value", type := (.array .byte), accessFlags := 0, slot := 0, constantValue := 0 }, { name := "coder", type := .byte, accessFlags := 0, slot := 1, constantValue := 0 }, { name := "maybeLatin1", type := .boolean, accessFlags := 0, slot := 2, constantValue := 0 }, { name := "count", type := .int, accessFlags := 0, slot := 3, constantValue := 0 }, { name := "EMPTYVALUE", type := (.array .byte), accessFlags := 26, slot := 0, constantValue := 0 }]
  methods := #[k11m0, k11m1, k11m2, k11m3, k11m4, k11m5, k11m6, k11m7, k11m8, k11m9, k11m10]
  instanceTypes := #[(.array .byte), .byte, .boolean, .int]
  staticTypes := #[(.array .byte)]
  resolved := Array.replicate 609 none
  statics := none }

def pool12 : Array CpInfo := pool [(1, .methodref 2 3), (0, .class_ 4), (0, .nameAndType 5 6), (0, u "java/lang/AbstractStringBuilder"), (0, u "<init>"), (0, u "(I)V"), (11, .class_ 20), (1, u "java/lang/String"), (3, .class_ 26), (1, u "java/lang/StringBuilder"), (0, u "append"), (0, u "(Ljava/lang/String;)Ljava/lang/StringBuilder;"), (0, .methodref 2 30), (0, .nameAndType 27 31), (0, u "(Ljava/lang/String;)Ljava/lang/AbstractStringBuilder;"), (105, .methodref 18 138), (0, .nameAndType 5 139), (0, u "(Ljava/lang/StringBuilder;)V"), (5, u "()V"), (10, u "()I"), (186, .methodref 2 344), (0, .nameAndType 345 156), (0, u "length"), (3, .class_ 350), (0, u "java/lang/Appendable"), (0, .class_ 352), (0, u "java/io/Serializable"), (0, .class_ 354), (0, u "java/lang/Comparable"), (0, .class_ 356), (0, u "java/lang/CharSequence"), (0, u "serialVersionUID"), (0, u "J"), (40, u "toString"), (0, u "()Ljava/lang/String;")] 21

def k12c0 : Code := { maxStack := 2, maxLocals := 1, code := jdk_67_method_1_code, exceptionTable := #[], attributes := #[] }
def k12m0 : Method := { name := "<init>", desc := "()V", sig := { parameters := [], returnType := none }, accessFlags := 1, code := some k12c0 }
def k12c1 : Code := { maxStack := 2, maxLocals := 2, code := jdk_67_method_7_code, exceptionTable := #[], attributes := #[] }
def k12m1 : Method := { name := "append", desc := "(Ljava/lang/String;)Ljava/lang/StringBuilder;", sig := { parameters := [(.object "java/lang/String")], returnType := some (.object "java/lang/StringBuilder") }, accessFlags := 1, code := some k12c1 }
def k12c2 : Code := { maxStack := 3, maxLocals := 1, code := jdk_67_method_42_code, exceptionTable := #[], attributes := #[] }
def k12m2 : Method := { name := "toString", desc := "()Ljava/lang/String;", sig := { parameters := [], returnType := some (.object "java/lang/String") }, accessFlags := 1, code := some k12c2 }
def k12c3 : Code := { maxStack := 1, maxLocals := 1, code := jdk_67_method_93_code, exceptionTable := #[], attributes := #[] }
def k12m3 : Method := { name := "length", desc := "()I", sig := { parameters := [], returnType := some .int }, accessFlags := 4161, code := some k12c3 }
/-- java/lang/StringBuilder -/
def k12 : Class := { plain "java/lang/StringBuilder" (some 11) with
  accessFlags := 49
  interfaces := #[10, 2, 3, 4]
  cf := some (fileOf pool12 24 #[] #[{ accessFlags := 1, nameIndex := 5, descriptorIndex := 145, attributes := #[] }, { accessFlags := 1, nameIndex := 27, descriptorIndex := 28, attributes := #[] }, { accessFlags := 1, nameIndex := 399, descriptorIndex := 400, attributes := #[] }, { accessFlags := 4161, nameIndex := 345, descriptorIndex := 156, attributes := #[] }] 49 2 #[349, 351, 353, 355] #[{ accessFlags := 24, nameIndex := 357, descriptorIndex := 358, attributes := #[] }])
  fields := #[{ name := "serialVersionUID", type := .long, accessFlags := 24, slot := 0, constantValue := 0 }]
  methods := #[k12m0, k12m1, k12m2, k12m3]
  instanceTypes := #[(.array .byte), .byte, .boolean, .int]
  staticTypes := #[.long]
  resolved := Array.replicate 422 none
  statics := none }

def pool13 : Array CpInfo := pool [(2, .class_ 4), (1, u "java/lang/Object"), (0, u "<init>"), (0, u "()V"), (35, .class_ 44), (1, u "java/util/Objects"), (0, u "requireNonNull"), (48, u "(Ljava/lang/Object;Ljava/lang/String;)Ljava/lang/Object;")] 89

def k13m0 : Method := { name := "<init>", desc := "()V", sig := { parameters := [], returnType := none }, accessFlags := 2, code := none }
def k13c1 : Code := { maxStack := 3, maxLocals := 2, code := jdk_31_method_11_code, exceptionTable := #[], attributes := #[] }
def k13m1 : Method := { name := "requireNonNull", desc := "(Ljava/lang/Object;Ljava/lang/String;)Ljava/lang/Object;", sig := { parameters := [(.object "java/lang/Object"), (.object "java/lang/String")], returnType := some (.object "java/lang/Object") }, accessFlags := 9, code := some k13c1 }
/-- java/util/Objects -/
def k13 : Class := { plain "java/util/Objects" (some 0) with
  accessFlags := 49
  interfaces := #[]
  cf := some (fileOf pool13 42 #[] #[{ accessFlags := 2, nameIndex := 5, descriptorIndex := 6, attributes := #[] }, { accessFlags := 9, nameIndex := 45, descriptorIndex := 94, attributes := #[] }] 49 2 #[] #[])
  fields := #[]
  methods := #[k13m0, k13m1]
  instanceTypes := #[]
  staticTypes := #[]
  resolved := Array.replicate 184 none
  statics := none }

def pool14 : Array CpInfo := pool [(1, .class_ 2), (0, u "java/lang/String"), (1, .class_ 6), (1, u "java/lang/Object"), (0, u "<init>"), (0, u "()V"), (0, .methodref 1 10), (0, .nameAndType 11 12), (0, u "checkIndex"), (0, u "(II)V"), (1, .class_ 16), (1, u "java/lang/StringLatin1"), (0, u "inflate"), (2, .class_ 22), (1, u "java/lang/StringUTF16"), (3, .nameAndType 17 27), (0, u "([BI[BII)V"), (25, u "([BI)C"), (67, u "$assertionsDisabled"), (0, u "Z"), (98, .class_ 223), (1, u "java/lang/StringLatin1$LinesSpliterator"), (16, .methodref 20 26), (11, u "charAt"), (28, u "equals"), (0, u "([B[B)Z"), (107, .class_ 391), (0, u "java/lang/StringLatin1$CharsSpliterator")] 3

def k14m0 : Method := { name := "<init>", desc := "()V", sig := { parameters := [], returnType := none }, accessFlags := 0, code := none }
def k14c1 : Code := { maxStack := 2, maxLocals := 2, code := jdk_43_method_2_code, exceptionTable := #[], attributes := #[] }
def k14m1 : Method := { name := "charAt", desc := "([BI)C", sig := { parameters := [(.array .byte), .int], returnType := some .char }, accessFlags := 9, code := some k14c1 }
def k14c2 : Code := { maxStack := 3, maxLocals := 3, code := jdk_43_method_13_code, exceptionTable := #[], attributes := #[] }
def k14m2 : Method := { name := "equals", desc := "([B[B)Z", sig := { parameters := [(.array .byte), (.array .byte)], returnType := some .boolean }, accessFlags := 9, code := some k14c2 }
def k14c3 : Code := { maxStack := 5, maxLocals := 5, code := jdk_43_method_50_code, exceptionTable := #[], attributes := #[] }
def k14m3 : Method := { name := "inflate", desc := "([BI[BII)V", sig := { parameters := [(.array .byte), .int, (.array .byte), .int, .int], returnType := none }, accessFlags := 9, code := some k14c3 }
/-- java/lang/StringLatin1 -/
def k14 : Class := { plain "java/lang/StringLatin1" (some 0) with
  accessFlags := 48
  interfaces := #[]
  cf := some (fileOf pool14 14 #[.nestMembers #[390, 221]] #[{ accessFlags := 0, nameIndex := 7, descriptorIndex := 8, attributes := #[] }, { accessFlags := 9, nameIndex := 252, descriptorIndex := 53, attributes := #[] }, { accessFlags := 9, nameIndex := 281, descriptorIndex := 282, attributes := #[] }, { accessFlags := 9, nameIndex := 17, descriptorIndex := 27, attributes := #[] }] 48 4 #[] #[{ accessFlags := 4120, nameIndex := 121, descriptorIndex := 122, attributes := #[] }])
  fields := #[{ name := "$assertionsDisabled", type := .boolean, accessFlags := 4120, slot := 0, constantValue := 0 }]
  methods := #[k14m0, k14m1, k14m2, k14m3]
  instanceTypes := #[]
  staticTypes := #[.boolean]
  resolved := Array.replicate 395 none
  statics := none }

def pool15 : Array CpInfo := pool [(2, .class_ 4), (1, u "java/lang/Object"), (0, u "<init>"), (0, u "()V"), (17, .class_ 26), (1, u "jdk/internal/util/Preconditions"), (6, u "checkIndex"), (15, u "checkFromIndexSize"), (5, .class_ 56), (0, u "jdk/internal/util/Preconditions$4"), (57, .class_ 115), (0, u "jdk/internal/util/Preconditions$1"), (7, u "SIOOBE_FORMATTER"), (0, u "Ljava/util/function/BiFunction;"), (0, .class_ 126), (0, u "jdk/internal/util/Preconditions$2"), (3, u "AIOOBE_FORMATTER"), (0, .class_ 132), (0, u "jdk/internal/util/Preconditions$3"), (3, u "IOOBE_FORMATTER"), (41, u "(IILjava/util/function/BiFunction;)I"), (4, u "(IIILjava/util/function/BiFunction;)I")] 10

def k15m0 : Method := { name := "<init>", desc := "()V", sig := { parameters := [], returnType := none }, accessFlags := 1, code := none }
def k15c1 : Code := { maxStack := 3, maxLocals := 3, code := jdk_41_method_11_code, exceptionTable := #[], attributes := #[] }
def k15m1 : Method := { name := "checkIndex", desc := "(IILjava/util/function/BiFunction;)I", sig := { parameters := [.int, .int, (.object "java/util/function/BiFunction")], returnType := some .int }, accessFlags := 9, code := some k15c1 }
def k15c2 : Code := { maxStack := 4, maxLocals := 4, code := jdk_41_method_13_code, exceptionTable := #[], attributes := #[] }
def k15m2 : Method := { name := "checkFromIndexSize", desc := "(IIILjava/util/function/BiFunction;)I", sig := { parameters := [.int, .int, .int, (.object "java/util/function/BiFunction")], returnType := some .int }, accessFlags := 9, code := some k15c2 }
/-- jdk/internal/util/Preconditions -/
def k15 : Class := { plain "jdk/internal/util/Preconditions" (some 0) with
  accessFlags := 33
  interfaces := #[]
  cf := some (fileOf pool15 24 #[.nestMembers #[55, 131, 125, 114]] #[{ accessFlags := 1, nameIndex := 5, descriptorIndex := 6, attributes := #[] }, { accessFlags := 9, nameIndex := 33, descriptorIndex := 178, attributes := #[] }, { accessFlags := 9, nameIndex := 49, descriptorIndex := 183, attributes := #[] }] 33 2 #[] #[{ accessFlags := 25, nameIndex := 123, descriptorIndex := 124, attributes := #[] }, { accessFlags := 25, nameIndex := 130, descriptorIndex := 124, attributes := #[] }, { accessFlags := 25, nameIndex := 136, descriptorIndex := 124, attributes := #[] }])
  fields := #[{ name := "SIOOBE_FORMATTER", type := (.object "java/util/function/BiFunction"), accessFlags := 25, slot := 0, constantValue := 0 }, { name := "AIOOBE_FORMATTER", type := (.object "java/util/function/BiFunction"), accessFlags := 25, slot := 1, constantValue := 0 }, { name := "IOOBE_FORMATTER", type := (.object "java/util/function/BiFunction"), accessFlags := 25, slot := 2, constantValue := 0 }]
  methods := #[k15m0, k15m1, k15m2]
  instanceTypes := #[]
  staticTypes := #[(.object "java/util/function/BiFunction"), (.object "java/util/function/BiFunction"), (.object "java/util/function/BiFunction")]
  resolved := Array.replicate 194 none
  statics := some 2 }

def pool16 : Array CpInfo := pool [(2, .class_ 4), (1, u "java/lang/Object"), (0, u "<init>"), (0, u "()V"), (1, .class_ 10), (1, u "java/lang/System"), (0, u "allowSecurityManager"), (0, u "I"), (16, u "cons"), (0, u "Ljava/io/Console;"), (77, .class_ 110), (1, u "java/lang/System$CallersHolder"), (43, u "initialErrStream"), (0, u "Ljava/io/PrintStream;"), (19, u "security"), (0, u "Ljava/lang/SecurityManager;"), (31, .class_ 209), (0, u "java/lang/System$1"), (7, u "props"), (0, u "Ljava/util/Properties;"), (2, u "lineSeparator"), (0, u "Ljava/lang/String;"), (96, .class_ 321), (1, u "java/lang/System$LoggerFinder"), (5, .class_ 328), (0, u "java/lang/System$Logger"), (67, u "err"), (2, u "out"), (91, u "notSupportedJnuEncoding"), (15, u "in"), (17, u "initialIn"), (0, u "Ljava/io/InputStream;"), (35, u "bootLayer"), (0, u "Ljava/lang/ModuleLayer;"), (99, .class_ 664), (0, u "java/lang/System$2"), (9, u "NEVER"), (2, u "MAYBE"), (49, u "arraycopy"), (0, u "(Ljava/lang/Object;ILjava/lang/Object;II)V"), (72, .class_ 802), (0, u "java/lang/System$Logger$Level")] 31

def k16m0 : Method := { name := "<init>", desc := "()V", sig := { parameters := [], returnType := none }, accessFlags := 2, code := none }
def k16m1 : Method := { name := "arraycopy", desc := "(Ljava/lang/Object;ILjava/lang/Object;II)V", sig := { parameters := [(.object "java/lang/Object"), .int, (.object "java/lang/Object"), .int, .int], returnType := none }, accessFlags := 265, code := none }
/-- java/lang/System -/
def k16 : Class := { plain "java/lang/System" (some 0) with
  accessFlags := 49
  interfaces := #[]
  cf := some (fileOf pool16 8 #[.nestMembers #[319, 327, 801, 108, 663, 208]] #[{ accessFlags := 2, nameIndex := 5, descriptorIndex := 6, attributes := #[] }, { accessFlags := 265, nameIndex := 727, descriptorIndex := 728, attributes := #[] }] 49 2 #[] #[{ accessFlags := 25, nameIndex := 507, descriptorIndex := 526, attributes := #[] }, { accessFlags := 25, nameIndex := 399, descriptorIndex := 155, attributes := #[] }, { accessFlags := 25, nameIndex := 396, descriptorIndex := 155, attributes := #[] }, { accessFlags := 10, nameIndex := 525, descriptorIndex := 526, attributes := #[] }, { accessFlags := 26, nameIndex := 674, descriptorIndex := 12, attributes := #[] }, { accessFlags := 26, nameIndex := 677, descriptorIndex := 12, attributes := #[] }, { accessFlags := 10, nameIndex := 11, descriptorIndex := 12, attributes := #[] }, { accessFlags := 74, nameIndex := 175, descriptorIndex := 176, attributes := #[] }, { accessFlags := 10, nameIndex := 491, descriptorIndex := 222, attributes := #[] }, { accessFlags := 74, nameIndex := 29, descriptorIndex := 30, attributes := #[] }, { accessFlags := 74, nameIndex := 154, descriptorIndex := 155, attributes := #[] }, { accessFlags := 10, nameIndex := 217, descriptorIndex := 218, attributes := #[] }, { accessFlags := 10, nameIndex := 221, descriptorIndex := 222, attributes := #[] }, { accessFlags := 8, nameIndex := 562, descriptorIndex := 563, attributes := #[] }])
  fields := #[{ name := "in", type := (.object "java/io/InputStream"), accessFlags := 25, slot := 0, constantValue := 0 }, { name := "out", type := (.object "java/io/PrintStream"), accessFlags := 25, slot := 1, constantValue := 0 }, { name := "err", type := (.object "java/io/PrintStream"), accessFlags := 25, slot := 2, constantValue := 0 }, { name := "initialIn", type := (.object "java/io/InputStream"), accessFlags := 10, slot := 3, constantValue := 0 }, { name := "NEVER", type := .int, accessFlags := 26, slot := 4, constantValue := 0 }, { name := "MAYBE", type := .int, accessFlags := 26, slot := 5, constantValue := 0 }, { name := "allowSecurityManager", type := .int, accessFlags := 10, slot := 6, constantValue := 0 }, { name := "security", type := (.object "java/lang/SecurityManager"), accessFlags := 74, slot := 7, constantValue := 0 }, { name := "notSupportedJnuEncoding", type := (.object "java/lang/String"), accessFlags := 10, slot := 8, constantValue := 0 }, { name := "cons", type := (.object "java/io/Console"), accessFlags := 74, slot := 9, constantValue := 0 }, { name := "initialErrStream", type := (.object "java/io/PrintStream"), accessFlags := 74, slot := 10, constantValue := 0 }, { name := "props", type := (.object "java/util/Properties"), accessFlags := 10, slot := 11, constantValue := 0 }, { name := "lineSeparator", type := (.object "java/lang/String"), accessFlags := 10, slot := 12, constantValue := 0 }, { name := "bootLayer", type := (.object "java/lang/ModuleLayer"), accessFlags := 8, slot := 13, constantValue := 0 }]
  methods := #[k16m0, k16m1]
  instanceTypes := #[]
  staticTypes := #[(.object "java/io/InputStream"), (.object "java/io/PrintStream"), (.object "java/io/PrintStream"), (.object "java/io/InputStream"), .int, .int, .int, (.object "java/lang/SecurityManager"), (.object "java/lang/String"), (.object "java/io/Console"), (.object "java/io/PrintStream"), (.object "java/util/Properties"), (.object "java/lang/String"), (.object "java/lang/ModuleLayer")]
  resolved := Array.replicate 834 none
  statics := none }

def pool17 : Array CpInfo := pool [(2, .class_ 4), (1, u "java/lang/Object"), (0, u "<init>"), (0, u "()V"), (7, .class_ 16), (1, u "java/util/Arrays"), (57, .class_ 76), (1, u "java/util/Arrays$NaturalOrder"), (36, .class_ 115), (1, u "java/util/Arrays$LegacyMergeSort"), (1, u "Z"), (21, u "copyOfRange"), (10, .methodref 151 152), (0, .class_ 153), (0, .nameAndType 154 155), (0, u "java/lang/System"), (0, u "arraycopy"), (0, u "(Ljava/lang/Object;ILjava/lang/Object;II)V"), (146, u "copyOf"), (1, .methodref 305 306), (0, .class_ 307), (0, .nameAndType 308 309), (0, u "java/lang/Math"), (0, u "min"), (0, u "(II)I"), (29, .methodref 14 340), (0, .nameAndType 341 342), (0, u "copyOfRangeByte"), (0, u "([BII)[B"), (0, .methodref 14 344), (0, .nameAndType 345 346), (0, u "checkLength"), (0, u "(II)V"), (28, .class_ 376), (0, u "java/util/Arrays$ArrayList"), (68, u "$assertionsDisabled"), (269, u "MIN_ARRAY_SORT_GRAN"), (0, u "I"), (2, u "INSERTIONSORT_THRESHOLD"), (149, u "([BI)[B"), (105, .class_ 976), (0, u "java/util/Arrays$ArrayItr")] 52

def k17m0 : Method := { name := "<init>", desc := "()V", sig := { parameters := [], returnType := none }, accessFlags := 2, code := none }
def k17c1 : Code := { maxStack := 6, maxLocals := 3, code := jdk_65_method_121_code, exceptionTable := #[], attributes := #[] }
def k17m1 : Method := { name := "copyOf", desc := "([BI)[B", sig := { parameters := [(.array .byte), .int], returnType := some (.array .byte) }, accessFlags := 9, code := some k17c1 }
def k17c2 : Code := { maxStack := 4, maxLocals := 2, code := jdk_65_method_131_code, exceptionTable := #[], attributes := #[] }
def k17m2 : Method := { name := "checkLength", desc := "(II)V", sig := { parameters := [.int, .int], returnType := none }, accessFlags := 10, code := some k17c2 }
def k17c3 : Code := { maxStack := 3, maxLocals := 3, code := jdk_65_method_132_code, exceptionTable := #[], attributes := #[] }
def k17m3 : Method := { name := "copyOfRange", desc := "([BII)[B", sig := { parameters := [(.array .byte), .int, .int], returnType := some (.array .byte) }, accessFlags := 9, code := some k17c3 }
def k17c4 : Code := { maxStack := 6, maxLocals := 5, code := jdk_65_method_133_code, exceptionTable := #[], attributes := #[] }
def k17m4 : Method := { name := "copyOfRangeByte", desc := "([BII)[B", sig := { parameters := [(.array .byte), .int, .int], returnType := some (.array .byte) }, accessFlags := 10, code := some k17c4 }
/-- java/util/Arrays -/
def k17 : Class := { plain "java/util/Arrays" (some 0) with
  accessFlags := 49
  interfaces := #[]
  cf := some (fileOf pool17 14 #[.nestMembers #[975, 375, 113, 74]] #[{ accessFlags := 2, nameIndex := 5, descriptorIndex := 6, attributes := #[] }, { accessFlags := 9, nameIndex := 302, descriptorIndex := 869, attributes := #[] }, { accessFlags := 10, nameIndex := 345, descriptorIndex := 346, attributes := #[] }, { accessFlags := 9, nameIndex := 139, descriptorIndex := 342, attributes := #[] }, { accessFlags := 10, nameIndex := 341, descriptorIndex := 342, attributes := #[] }] 49 2 #[] #[{ accessFlags := 26, nameIndex := 715, descriptorIndex := 716, attributes := #[] }, { accessFlags := 26, nameIndex := 719, descriptorIndex := 716, attributes := #[] }, { accessFlags := 4120, nameIndex := 445, descriptorIndex := 117, attributes := #[] }])
  fields := #[{ name := "MIN_ARRAY_SORT_GRAN", type := .int, accessFlags := 26, slot := 0, constantValue := 0 }, { name := "INSERTIONSORT_THRESHOLD", type := .int, accessFlags := 26, slot := 1, constantValue := 0 }, { name := "$assertionsDisabled", type := .boolean, accessFlags := 4120, slot := 2, constantValue := 0 }]
  methods := #[k17m0, k17m1, k17m2, k17m3, k17m4]
  instanceTypes := #[]
  staticTypes := #[.int, .int, .boolean]
  resolved := Array.replicate 1029 none
  statics := none }

def pool18 : Array CpInfo := pool [(1, .class_ 2), (0, u "java/lang/Math"), (1, .class_ 6), (1, u "java/lang/Object"), (0, u "<init>"), (0, u "()V"), (89, .class_ 100), (1, u "java/lang/Math$RandomNumberGeneratorHolder"), (71, u "negativeZeroFloatBits"), (0, u "J"), (2, u "negativeZeroDoubleBits"), (21, u "max"), (2, u "min"), (43, u "$assertionsDisabled"), (0, u "Z"), (88, u "(II)I"), (2, u "twoToTheDoubleScaleDown"), (0, u "D"), (4, u "twoToTheDoubleScaleUp"), (9, u "E"), (3, u "PI"), (2, u "TAU"), (2, u "DEGREES_TO_RADIANS"), (0, u "RADIANS_TO_DEGREES")] 94

def k18m0 : Method := { name := "<init>", desc := "()V", sig := { parameters := [], returnType := none }, accessFlags := 2, code := none }
def k18c1 : Code := { maxStack := 2, maxLocals := 2, code := jdk_29_method_65_code, exceptionTable := #[], attributes := #[] }
def k18m1 : Method := { name := "max", desc := "(II)I", sig := { parameters := [.int, .int], returnType := some .int }, accessFlags := 9, code := some k18c1 }
def k18c2 : Code := { maxStack := 2, maxLocals := 2, code := jdk_29_method_69_code, exceptionTable := #[], attributes := #[] }
def k18m2 : Method := { name := "min", desc := "(II)I", sig := { parameters := [.int, .int], returnType := some .int }, accessFlags := 9, code := some k18c2 }
/-- java/lang/Math -/
def k18 : Class := { plain "java/lang/Math" (some 0) with
  accessFlags := 49
  interfaces := #[]
  cf := some (fileOf pool18 1 #[.nestMembers #[98]] #[{ accessFlags := 2, nameIndex := 7, descriptorIndex := 8, attributes := #[] }, { accessFlags := 9, nameIndex := 198, descriptorIndex := 335, attributes := #[] }, { accessFlags := 9, nameIndex := 201, descriptorIndex := 335, attributes := #[] }] 49 4 #[] #[{ accessFlags := 25, nameIndex := 354, descriptorIndex := 339, attributes := #[] }, { accessFlags := 25, nameIndex := 358, descriptorIndex := 339, attributes := #[] }, { accessFlags := 25, nameIndex := 361, descriptorIndex := 339, attributes := #[] }, { accessFlags := 26, nameIndex := 364, descriptorIndex := 339, attributes := #[] }, { accessFlags := 26, nameIndex := 365, descriptorIndex := 339, attributes := #[] }, { accessFlags := 26, nameIndex := 172, descriptorIndex := 173, attributes := #[] }, { accessFlags := 26, nameIndex := 176, descriptorIndex := 173, attributes := #[] }, { accessFlags := 8, nameIndex := 344, descriptorIndex := 339, attributes := #[] }, { accessFlags := 8, nameIndex := 338, descriptorIndex := 339, attributes := #[] }, { accessFlags := 4120, nameIndex := 245, descriptorIndex := 246, attributes := #[] }])
  fields := #[{ name := "E", type := .double, accessFlags := 25, slot := 0, constantValue := 0 }, { name := "PI", type := .double, accessFlags := 25, slot := 1, constantValue := 0 }, { name := "TAU", type := .double, accessFlags := 25, slot := 2, constantValue := 0 }, { name := "DEGREES_TO_RADIANS", type := .double, accessFlags := 26, slot := 3, constantValue := 0 }, { name := "RADIANS_TO_DEGREES", type := .double, accessFlags := 26, slot := 4, constantValue := 0 }, { name := "negativeZeroFloatBits", type := .long, accessFlags := 26, slot := 5, constantValue := 0 }, { name := "negativeZeroDoubleBits", type := .long, accessFlags := 26, slot := 6, constantValue := 0 }, { name := "twoToTheDoubleScaleUp", type := .double, accessFlags := 8, slot := 7, constantValue := 0 }, { name := "twoToTheDoubleScaleDown", type := .double, accessFlags := 8, slot := 8, constantValue := 0 }, { name := "$assertionsDisabled", type := .boolean, accessFlags := 4120, slot := 9, constantValue := 0 }]
  methods := #[k18m0, k18m1, k18m2]
  instanceTypes := #[]
  staticTypes := #[.double, .double, .double, .double, .double, .long, .long, .double, .double, .boolean]
  resolved := Array.replicate 460 none
  statics := none }

def pool19 : Array CpInfo := pool [(9, u "<init>"), (6, .class_ 18), (1, u "java/lang/Object"), (0, u "()V"), (1, .class_ 23), (1, u "jdk/internal/util/ArraysSupport"), (0, u "LOG2_ARRAY_LONG_INDEX_SCALE"), (0, u "I"), (2, u "U"), (0, u "Ljdk/internal/misc/Unsafe;"), (8, u "BIG_ENDIAN"), (0, u "Z"), (8, u "LOG2_BYTE_BIT_SIZE"), (4, u "LOG2_ARRAY_INT_INDEX_SCALE"), (54, u "JLA"), (0, u "Ljdk/internal/access/JavaLangAccess;"), (11, u "LOG2_ARRAY_BOOLEAN_INDEX_SCALE"), (9, u "LOG2_ARRAY_BYTE_INDEX_SCALE"), (5, u "LOG2_ARRAY_CHAR_INDEX_SCALE"), (5, u "LOG2_ARRAY_SHORT_INDEX_SCALE"), (18, u "LOG2_ARRAY_FLOAT_INDEX_SCALE"), (24, u "LOG2_ARRAY_DOUBLE_INDEX_SCALE"), (6, .methodref 195 196), (0, .class_ 197), (0, .nameAndType 198 199), (0, u "java/lang/Math"), (0, u "max"), (0, u "(II)I"), (0, .integer 2147483639), (76, u "T_BOOLEAN"), (2, u "T_CHAR"), (1, u "T_FLOAT"), (1, u "T_DOUBLE"), (1, u "T_BYTE"), (1, u "T_SHORT"), (1, u "T_INT"), (1, u "T_LONG"), (1, u "SOFT_MAX_ARRAY_LENGTH"), (56, u "newLength"), (0, u "(III)I")] 25

def k19m0 : Method := { name := "<init>", desc := "()V", sig := { parameters := [], returnType := none }, accessFlags := 2, code := none }
def k19c1 : Code := { maxStack := 3, maxLocals := 4, code := jdk_48_method_27_code, exceptionTable := #[], attributes := #[] }
def k19m1 : Method := { name := "newLength", desc := "(III)I", sig := { parameters := [.int, .int, .int], returnType := some .int }, accessFlags := 9, code := some k19c1 }
/-- jdk/internal/util/ArraysSupport -/
def k19 : Class := { plain "jdk/internal/util/ArraysSupport" (some 0) with
  accessFlags := 33
  interfaces := #[]
  cf := some (fileOf pool19 21 #[] #[{ accessFlags := 2, nameIndex := 9, descriptorIndex := 19, attributes := #[] }, { accessFlags := 9, nameIndex := 351, descriptorIndex := 352, attributes := #[] }] 33 16 #[] #[{ accessFlags := 24, nameIndex := 28, descriptorIndex := 29, attributes := #[] }, { accessFlags := 26, nameIndex := 38, descriptorIndex := 39, attributes := #[] }, { accessFlags := 25, nameIndex := 121, descriptorIndex := 25, attributes := #[] }, { accessFlags := 25, nameIndex := 131, descriptorIndex := 25, attributes := #[] }, { accessFlags := 25, nameIndex := 137, descriptorIndex := 25, attributes := #[] }, { accessFlags := 25, nameIndex := 143, descriptorIndex := 25, attributes := #[] }, { accessFlags := 25, nameIndex := 53, descriptorIndex := 25, attributes := #[] }, { accessFlags := 25, nameIndex := 24, descriptorIndex := 25, attributes := #[] }, { accessFlags := 25, nameIndex := 162, descriptorIndex := 25, attributes := #[] }, { accessFlags := 25, nameIndex := 187, descriptorIndex := 25, attributes := #[] }, { accessFlags := 26, nameIndex := 48, descriptorIndex := 25, attributes := #[] }, { accessFlags := 25, nameIndex := 277, descriptorIndex := 25, attributes := #[] }, { accessFlags := 25, nameIndex := 280, descriptorIndex := 25, attributes := #[] }, { accessFlags := 25, nameIndex := 282, descriptorIndex := 25, attributes := #[] }, { accessFlags := 25, nameIndex := 284, descriptorIndex := 25, attributes := #[] }, { accessFlags := 25, nameIndex := 286, descriptorIndex := 25, attributes := #[] }, { accessFlags := 25, nameIndex := 288, descriptorIndex := 25, attributes := #[] }, { accessFlags := 25, nameIndex := 290, descriptorIndex := 25, attributes := #[] }, { accessFlags := 25, nameIndex := 292, descriptorIndex := 25, attributes := #[] }, { accessFlags := 26, nameIndex := 108, descriptorIndex := 109, attributes := #[] }, { accessFlags := 25, nameIndex := 294, descriptorIndex := 25, attributes := #[] }])
  fields := #[{ name := "U", type := (.object "jdk/internal/misc/Unsafe"), accessFlags := 24, slot := 0, constantValue := 0 }, { name := "BIG_ENDIAN", type := .boolean, accessFlags := 26, slot := 1, constantValue := 0 }, { name := "LOG2_ARRAY_BOOLEAN_INDEX_SCALE", type := .int, accessFlags := 25, slot := 2, constantValue := 0 }, { name := "LOG2_ARRAY_BYTE_INDEX_SCALE", type := .int, accessFlags := 25, slot := 3, constantValue := 0 }, { name := "LOG2_ARRAY_CHAR_INDEX_SCALE", type := .int, accessFlags := 25, slot := 4, constantValue := 0 }, { name := "LOG2_ARRAY_SHORT_INDEX_SCALE", type := .int, accessFlags := 25, slot := 5, constantValue := 0 }, { name := "LOG2_ARRAY_INT_INDEX_SCALE", type := .int, accessFlags := 25, slot := 6, constantValue := 0 }, { name := "LOG2_ARRAY_LONG_INDEX_SCALE", type := .int, accessFlags := 25, slot := 7, constantValue := 0 }, { name := "LOG2_ARRAY_FLOAT_INDEX_SCALE", type := .int, accessFlags := 25, slot := 8, constantValue := 0 }, { name := "LOG2_ARRAY_DOUBLE_INDEX_SCALE", type := .int, accessFlags := 25, slot := 9, constantValue := 0 }, { name := "LOG2_BYTE_BIT_SIZE", type := .int, accessFlags := 26, slot := 10, constantValue := 0 }, { name := "T_BOOLEAN", type := .int, accessFlags := 25, slot := 11, constantValue := 0 }, { name := "T_CHAR", type := .int, accessFlags := 25, slot := 12, constantValue := 0 }, { name := "T_FLOAT", type := .int, accessFlags := 25, slot := 13, constantValue := 0 }, { name := "T_DOUBLE", type := .int, accessFlags := 25, slot := 14, constantValue := 0 }, { name := "T_BYTE", type := .int, accessFlags := 25, slot := 15, constantValue := 0 }, { name := "T_SHORT", type := .int, accessFlags := 25, slot := 16, constantValue := 0 }, { name := "T_INT", type := .int, accessFlags := 25, slot := 17, constantValue := 0 }, { name := "T_LONG", type := .int, accessFlags := 25, slot := 18, constantValue := 0 }, { name := "JLA", type := (.object "jdk/internal/access/JavaLangAccess"), accessFlags := 26, slot := 19, constantValue := 0 }, { name := "SOFT_MAX_ARRAY_LENGTH", type := .int, accessFlags := 25, slot := 20, constantValue := 0 }]
  methods := #[k19m0, k19m1]
  instanceTypes := #[]
  staticTypes := #[(.object "jdk/internal/misc/Unsafe"), .boolean, .int, .int, .int, .int, .int, .int, .int, .int, .int, .int, .int, .int, .int, .int, .int, .int, .int, (.object "jdk/internal/access/JavaLangAccess"), .int]
  resolved := Array.replicate 378 none
  statics := none }

def pool20 : Array CpInfo := pool [(1, u "java/lang/Cloneable"), (0, .class_ 1), (0, u "java/lang/Object"), (0, .class_ 3)] 3

/-- java/lang/Cloneable -/
def k20 : Class := { plain "java/lang/Cloneable" (some 0) with
  accessFlags := 1537
  interfaces := #[]
  cf := some (fileOf pool20 2 #[] #[] 1537 4 #[] #[])
  fields := #[]
  methods := #[]
  instanceTypes := #[]
  staticTypes := #[]
  resolved := Array.replicate 8 none
  statics := none }

/-- the primitive byte -/
def k21 : Class := { plain "byte" none with kind := .primitive 'B', accessFlags := 0x411 }
/-- [B -/
def k22 : Class := { plain "[B" (some 0) with kind := .array 21 .byte, interfaces := #[20, 2], accessFlags := 1041 }

/-- the primitive char -/
def k23 : Class := { plain "char" none with kind := .primitive 'C', accessFlags := 0x411 }
/-- [C -/
def k24 : Class := { plain "[C" (some 0) with kind := .array 23 .char, interfaces := #[20, 2], accessFlags := 1041 }

/-- the primitive int -/
def k25 : Class := { plain "int" none with kind := .primitive 'I', accessFlags := 0x411 }
/-- [I -/
def k26 : Class := { plain "[I" (some 0) with kind := .array 25 .int, interfaces := #[20, 2], accessFlags := 1041 }

def heap : Heap := #[{ cls := 7, slots := #[.long 0, .int 1, .null, .int 0, .null, .int 0, .int 0], vm := .statics 7 },
  { cls := 8, slots := #[.int 0, .int 8, .int 0, .int 1], vm := .statics 8 },
  { cls := 15, slots := #[.null, .null, .null], vm := .statics 15 }]
def classes : Array Class := #[k0, k1, k2, k3, k4, k5, k6, k7, k8, k9, k10, k11, k12, k13, k14, k15, k16, k17, k18, k19, k20, k21, k22, k23, k24, k25, k26]
def interned : List (Array UInt16 × Addr) := []
def slotsUsed : Nat := 14
def theMethod : MethodId := ⟨1, 1⟩
def args0 : Array Value := #[.int 5, .int 7, .int 9, .int 3]
def aboutOver (below : List Frame) : State where
  vm := { classes := classes, interned := interned.toArray }
  heap := heap
  slotsUsed := slotsUsed
  threads := #[{ frames := .invoking theMethod args0 :: below }]
def below0 : List Frame := [.native { method := ⟨0, 0⟩, args := #[] }]
def about1 : State := aboutOver below0
def p0 : Program := .bare "" "" ""
def e0 : Env := launch0.env 0 0 0
theorem w_frames : about1.frames = Frame.invoking theMethod args0 :: below0 := rfl
set_option maxRecDepth 65536 in
theorem w_args : argsFit about1.vm theMethod args0 = true := by decide +kernel
set_option maxRecDepth 65536 in
theorem w_heap : heapFits about1 = true := by decide +kernel
set_option maxRecDepth 65536 in
theorem w_runnable : about1.curStatus? = some .runnable := by decide +kernel
set_option maxRecDepth 65536 in
theorem w_alone : about1.alone = true := by decide +kernel
set_option maxRecDepth 65536 in
theorem w_named : about1.methodNamed? x = some theMethod := by decide +kernel
set_option maxRecDepth 65536 in
theorem w_hears : about1.hears theMethod below0 = true := by decide +kernel
set_option maxRecDepth 65536 in
theorem w_ripe : about1.ripe theMethod args0 below0 = true := by decide +kernel
theorem w_running : about1.status = .running := rfl
set_option maxRecDepth 65536 in
theorem w_room : about1.hasRoom e0.platform room_1 = true :=
  launch0.hasRoom_least _ room_1 (by decide +kernel) (by decide +kernel) (by decide +kernel) (by decide +kernel) (by decide +kernel) (by decide +kernel)
theorem allAtoms_all (ts : List Jvm.Cond) (a : Array Jvm.Value) (st : Jvm.State) : (allAtoms ts).before a st = ts.all (fun c => c.before a st) := by
  induction ts with
  | nil => rfl
  | cons c t ih =>
    show (Jvm.Cond.and c (allAtoms t)).before a st = _
    rw [Jvm.Cond.before_and, ih, List.all_cons]
def words1 : List Jvm.Cond := Jvm.Cond.code x code maxLocals ret :: tables_1
/-- a 'code' word, met by the world's own term for the bytes: nothing is compared byte by byte -/
theorem code_word {y : MethodName} {bytes : ByteArray} {mx : Nat} {rt : Option FieldType} {a : Array Value} {s : State} {m : MethodId} {meth : Method} {c : Code} (h1 : s.methodNamed? y = some m) (h2 : s.vm.method? m = some meth) (h3 : meth.code = some c) (h4 : c.code = bytes)
    (h5 : (c.maxLocals == mx && c.exceptionTable.isEmpty && decide (c.maxStack ≤ mostOperands) && decide (meth.sig.returnType = rt) && !meth.locks && decide (parseMethodDescriptor y.desc = some meth.sig)) = true) : (Jvm.Cond.code y bytes mx rt).before a s = true := by
  simp only [Bool.and_eq_true, beq_iff_eq, Bool.not_eq_true', decide_eq_true_eq] at h5
  obtain ⟨⟨⟨⟨⟨g1, g2⟩, g3⟩, g4⟩, g5⟩, g6⟩ := h5
  simp [Cond.before, Cond.holds, Cond.value, h1, h2, h3, h4, g1, g2, g3, g4, g5, g6]
def isCode : Jvm.Cond → Bool
  | .code _ _ _ _ => true
  | _ => false
theorem all_split {L : List Jvm.Cond} {P : Jvm.Cond → Bool} (h1 : L.all (fun c => isCode c || P c) = true) (h2 : ∀ c ∈ L.filter isCode, P c = true) : L.all P = true := by
  refine List.all_eq_true.mpr fun c hc => ?_
  have h := List.all_eq_true.mp h1 c hc
  rcases Bool.eq_false_or_eq_true (isCode c) with hi | hi
  · exact h2 c (List.mem_filter.mpr ⟨hc, hi⟩)
  · simpa [hi] using h
set_option maxRecDepth 65536 in
theorem w_c0 : (Jvm.Cond.code x code maxLocals ret).before args0 about1 = true := code_word (m := ⟨1, 1⟩) (meth := k1m1) (c := k1c1) (by decide +kernel) rfl rfl rfl (by decide +kernel)
set_option maxRecDepth 65536 in
theorem w_c1 : (Jvm.Cond.code ({ cls := "java/lang/String", name := "<init>", desc := "([C)V" } : Jvm.MethodName) jdk_42_method_3_code (2 : Nat) (Option.none : Option Jvm.ClassFile.FieldType)).before args0 about1 = true := code_word (m := ⟨7, 1⟩) (meth := k7m1) (c := k7c1) (by decide +kernel) rfl rfl rfl (by decide +kernel)
set_option maxRecDepth 65536 in
theorem w_c2 : (Jvm.Cond.code ({ cls := "java/lang/String", name := "<init>", desc := "([CIILjava/lang/Void;)V" } : Jvm.MethodName) jdk_42_method_149_code (6 : Nat) (Option.none : Option Jvm.ClassFile.FieldType)).before args0 about1 = true := code_word (m := ⟨7, 8⟩) (meth := k7m8) (c := k7c8) (by decide +kernel) rfl rfl rfl (by decide +kernel)
set_option maxRecDepth 65536 in
theorem w_c3 : (Jvm.Cond.code ({ cls := "java/lang/Object", name := "<init>", desc := "()V" } : Jvm.MethodName) object_method_1_code (1 : Nat) (Option.none : Option Jvm.ClassFile.FieldType)).before args0 about1 = true := code_word (m := ⟨0, 0⟩) (meth := k0m0) (c := k0c0) (by decide +kernel) rfl rfl rfl (by decide +kernel)
set_option maxRecDepth 65536 in
theorem w_c4 : (Jvm.Cond.code ({ cls := "java/lang/StringUTF16", name := "compress", desc := "([CII)[B" } : Jvm.MethodName) jdk_52_method_16_code (6 : Nat) (Option.some (Jvm.ClassFile.FieldType.array Jvm.ClassFile.FieldType.byte))).before args0 about1 = true := code_word (m := ⟨8, 8⟩) (meth := k8m8) (c := k8c8) (by decide +kernel) rfl rfl rfl (by decide +kernel)
set_option maxRecDepth 65536 in
theorem w_c5 : (Jvm.Cond.code ({ cls := "java/lang/StringUTF16", name := "compress", desc := "([CI[BII)I" } : Jvm.MethodName) jdk_52_method_21_code (7 : Nat) (Option.some Jvm.ClassFile.FieldType.int)).before args0 about1 = true := code_word (m := ⟨8, 9⟩) (meth := k8m9) (c := k8c9) (by decide +kernel) rfl rfl rfl (by decide +kernel)
set_option maxRecDepth 65536 in
theorem w_c6 : (Jvm.Cond.code ({ cls := "java/lang/StringUTF16", name := "coderFromArrayLen", desc := "([BI)B" } : Jvm.MethodName) jdk_52_method_15_code (2 : Nat) (Option.some Jvm.ClassFile.FieldType.byte)).before args0 about1 = true := code_word (m := ⟨8, 7⟩) (meth := k8m7) (c := k8c7) (by decide +kernel) rfl rfl rfl (by decide +kernel)
set_option maxRecDepth 65536 in
theorem w_c7 : (Jvm.Cond.code ({ cls := "com/example/tri3/tri3/RedisKeysLockTokenPinLaw", name := "expected", desc := "(CCCI)[C" } : Jvm.MethodName) method_3_code (5 : Nat) (Option.some (Jvm.ClassFile.FieldType.array Jvm.ClassFile.FieldType.char))).before args0 about1 = true := code_word (m := ⟨1, 2⟩) (meth := k1m2) (c := k1c2) (by decide +kernel) rfl rfl rfl (by decide +kernel)
set_option maxRecDepth 65536 in
theorem w_c8 : (Jvm.Cond.code ({ cls := "com/example/tri3/tri3/RedisKeys", name := "lockToken", desc := "(Ljava/lang/String;)Ljava/lang/String;" } : Jvm.MethodName) prog_1_method_4_code (1 : Nat) (Option.some (Jvm.ClassFile.FieldType.object "java/lang/String"))).before args0 about1 = true := code_word (m := ⟨9, 1⟩) (meth := k9m1) (c := k9c1) (by decide +kernel) rfl rfl rfl (by decide +kernel)
set_option maxRecDepth 65536 in
theorem w_c9 : (Jvm.Cond.code ({ cls := "java/lang/StringBuilder", name := "<init>", desc := "()V" } : Jvm.MethodName) jdk_67_method_1_code (1 : Nat) (Option.none : Option Jvm.ClassFile.FieldType)).before args0 about1 = true := code_word (m := ⟨12, 0⟩) (meth := k12m0) (c := k12c0) (by decide +kernel) rfl rfl rfl (by decide +kernel)
set_option maxRecDepth 65536 in
theorem w_c10 : (Jvm.Cond.code ({ cls := "java/lang/AbstractStringBuilder", name := "<init>", desc := "(I)V" } : Jvm.MethodName) jdk_68_method_2_code (2 : Nat) (Option.none : Option Jvm.ClassFile.FieldType)).before args0 about1 = true := code_word (m := ⟨11, 1⟩) (meth := k11m1) (c := k11c1) (by decide +kernel) rfl rfl rfl (by decide +kernel)
set_option maxRecDepth 65536 in
theorem w_c11 : (Jvm.Cond.code ({ cls := "com/example/tri3/tri3/RedisKeys", name := "tagged", desc := "(Ljava/lang/String;Ljava/lang/String;)Ljava/lang/String;" } : Jvm.MethodName) prog_1_method_8_code (2 : Nat) (Option.some (Jvm.ClassFile.FieldType.object "java/lang/String"))).before args0 about1 = true := code_word (m := ⟨9, 2⟩) (meth := k9m2) (c := k9c2) (by decide +kernel) rfl rfl rfl (by decide +kernel)
set_option maxRecDepth 65536 in
theorem w_c12 : (Jvm.Cond.code ({ cls := "java/util/Objects", name := "requireNonNull", desc := "(Ljava/lang/Object;Ljava/lang/String;)Ljava/lang/Object;" } : Jvm.MethodName) jdk_31_method_11_code (2 : Nat) (Option.some (Jvm.ClassFile.FieldType.object "java/lang/Object"))).before args0 about1 = true := code_word (m := ⟨13, 1⟩) (meth := k13m1) (c := k13c1) (by decide +kernel) rfl rfl rfl (by decide +kernel)
set_option maxRecDepth 65536 in
theorem w_c13 : (Jvm.Cond.code ({ cls := "java/lang/String", name := "isEmpty", desc := "()Z" } : Jvm.MethodName) jdk_42_method_55_code (1 : Nat) (Option.some Jvm.ClassFile.FieldType.boolean)).before args0 about1 = true := code_word (m := ⟨7, 4⟩) (meth := k7m4) (c := k7c4) (by decide +kernel) rfl rfl rfl (by decide +kernel)
set_option maxRecDepth 65536 in
theorem w_c14 : (Jvm.Cond.code ({ cls := "java/lang/String", name := "charAt", desc := "(I)C" } : Jvm.MethodName) jdk_42_method_56_code (2 : Nat) (Option.some Jvm.ClassFile.FieldType.char)).before args0 about1 = true := code_word (m := ⟨7, 5⟩) (meth := k7m5) (c := k7c5) (by decide +kernel) rfl rfl rfl (by decide +kernel)
set_option maxRecDepth 65536 in
theorem w_c15 : (Jvm.Cond.code ({ cls := "java/lang/String", name := "isLatin1", desc := "()Z" } : Jvm.MethodName) jdk_42_method_154_code (1 : Nat) (Option.some Jvm.ClassFile.FieldType.boolean)).before args0 about1 = true := code_word (m := ⟨7, 11⟩) (meth := k7m11) (c := k7c11) (by decide +kernel) rfl rfl rfl (by decide +kernel)
set_option maxRecDepth 65536 in
theorem w_c16 : (Jvm.Cond.code ({ cls := "java/lang/StringLatin1", name := "charAt", desc := "([BI)C" } : Jvm.MethodName) jdk_43_method_2_code (2 : Nat) (Option.some Jvm.ClassFile.FieldType.char)).before args0 about1 = true := code_word (m := ⟨14, 1⟩) (meth := k14m1) (c := k14c1) (by decide +kernel) rfl rfl rfl (by decide +kernel)
set_option maxRecDepth 65536 in
theorem w_c17 : (Jvm.Cond.code ({ cls := "java/lang/String", name := "checkIndex", desc := "(II)V" } : Jvm.MethodName) jdk_42_method_155_code (2 : Nat) (Option.none : Option Jvm.ClassFile.FieldType)).before args0 about1 = true := code_word (m := ⟨7, 12⟩) (meth := k7m12) (c := k7c12) (by decide +kernel) rfl rfl rfl (by decide +kernel)
set_option maxRecDepth 65536 in
theorem w_c18 : (Jvm.Cond.code ({ cls := "jdk/internal/util/Preconditions", name := "checkIndex", desc := "(IILjava/util/function/BiFunction;)I" } : Jvm.MethodName) jdk_41_method_11_code (3 : Nat) (Option.some Jvm.ClassFile.FieldType.int)).before args0 about1 = true := code_word (m := ⟨15, 1⟩) (meth := k15m1) (c := k15c1) (by decide +kernel) rfl rfl rfl (by decide +kernel)
set_option maxRecDepth 65536 in
theorem w_c19 : (Jvm.Cond.code ({ cls := "java/lang/StringBuilder", name := "append", desc := "(Ljava/lang/String;)Ljava/lang/StringBuilder;" } : Jvm.MethodName) jdk_67_method_7_code (2 : Nat) (Option.some (Jvm.ClassFile.FieldType.object "java/lang/StringBuilder"))).before args0 about1 = true := code_word (m := ⟨12, 1⟩) (meth := k12m1) (c := k12c1) (by decide +kernel) rfl rfl rfl (by decide +kernel)
set_option maxRecDepth 65536 in
theorem w_c20 : (Jvm.Cond.code ({ cls := "java/lang/AbstractStringBuilder", name := "append", desc := "(Ljava/lang/String;)Ljava/lang/AbstractStringBuilder;" } : Jvm.MethodName) jdk_68_method_22_code (3 : Nat) (Option.some (Jvm.ClassFile.FieldType.object "java/lang/AbstractStringBuilder"))).before args0 about1 = true := code_word (m := ⟨11, 6⟩) (meth := k11m6) (c := k11c6) (by decide +kernel) rfl rfl rfl (by decide +kernel)
set_option maxRecDepth 65536 in
theorem w_c21 : (Jvm.Cond.code ({ cls := "java/lang/String", name := "length", desc := "()I" } : Jvm.MethodName) jdk_42_method_54_code (1 : Nat) (Option.some Jvm.ClassFile.FieldType.int)).before args0 about1 = true := code_word (m := ⟨7, 3⟩) (meth := k7m3) (c := k7c3) (by decide +kernel) rfl rfl rfl (by decide +kernel)
set_option maxRecDepth 65536 in
theorem w_c22 : (Jvm.Cond.code ({ cls := "java/lang/String", name := "coder", desc := "()B" } : Jvm.MethodName) jdk_42_method_152_code (1 : Nat) (Option.some Jvm.ClassFile.FieldType.byte)).before args0 about1 = true := code_word (m := ⟨7, 10⟩) (meth := k7m10) (c := k7c10) (by decide +kernel) rfl rfl rfl (by decide +kernel)
set_option maxRecDepth 65536 in
theorem w_c23 : (Jvm.Cond.code ({ cls := "java/lang/AbstractStringBuilder", name := "ensureCapacityInternal", desc := "(I)V" } : Jvm.MethodName) jdk_68_method_9_code (3 : Nat) (Option.none : Option Jvm.ClassFile.FieldType)).before args0 about1 = true := code_word (m := ⟨11, 3⟩) (meth := k11m3) (c := k11c3) (by decide +kernel) rfl rfl rfl (by decide +kernel)
set_option maxRecDepth 65536 in
theorem w_c24 : (Jvm.Cond.code ({ cls := "java/lang/AbstractStringBuilder", name := "putStringAt", desc := "(ILjava/lang/String;)V" } : Jvm.MethodName) jdk_68_method_73_code (3 : Nat) (Option.none : Option Jvm.ClassFile.FieldType)).before args0 about1 = true := code_word (m := ⟨11, 10⟩) (meth := k11m10) (c := k11c10) (by decide +kernel) rfl rfl rfl (by decide +kernel)
set_option maxRecDepth 65536 in
theorem w_c25 : (Jvm.Cond.code ({ cls := "java/lang/AbstractStringBuilder", name := "inflateIfNeededFor", desc := "(Ljava/lang/String;)V" } : Jvm.MethodName) jdk_68_method_71_code (2 : Nat) (Option.none : Option Jvm.ClassFile.FieldType)).before args0 about1 = true := code_word (m := ⟨11, 9⟩) (meth := k11m9) (c := k11c9) (by decide +kernel) rfl rfl rfl (by decide +kernel)
set_option maxRecDepth 65536 in
theorem w_c26 : (Jvm.Cond.code ({ cls := "java/lang/String", name := "getBytes", desc := "([BIB)V" } : Jvm.MethodName) jdk_42_method_147_code (4 : Nat) (Option.none : Option Jvm.ClassFile.FieldType)).before args0 about1 = true := code_word (m := ⟨7, 7⟩) (meth := k7m7) (c := k7c7) (by decide +kernel) rfl rfl rfl (by decide +kernel)
set_option maxRecDepth 65536 in
theorem w_c27 : (Jvm.Cond.code ({ cls := "java/lang/StringBuilder", name := "toString", desc := "()Ljava/lang/String;" } : Jvm.MethodName) jdk_67_method_42_code (1 : Nat) (Option.some (Jvm.ClassFile.FieldType.object "java/lang/String"))).before args0 about1 = true := code_word (m := ⟨12, 2⟩) (meth := k12m2) (c := k12c2) (by decide +kernel) rfl rfl rfl (by decide +kernel)
set_option maxRecDepth 65536 in
theorem w_c28 : (Jvm.Cond.code ({ cls := "java/lang/String", name := "<init>", desc := "(Ljava/lang/StringBuilder;)V" } : Jvm.MethodName) jdk_42_method_53_code (2 : Nat) (Option.none : Option Jvm.ClassFile.FieldType)).before args0 about1 = true := code_word (m := ⟨7, 2⟩) (meth := k7m2) (c := k7c2) (by decide +kernel) rfl rfl rfl (by decide +kernel)
set_option maxRecDepth 65536 in
theorem w_c29 : (Jvm.Cond.code ({ cls := "java/lang/String", name := "<init>", desc := "(Ljava/lang/AbstractStringBuilder;Ljava/lang/Void;)V" } : Jvm.MethodName) jdk_42_method_150_code (5 : Nat) (Option.none : Option Jvm.ClassFile.FieldType)).before args0 about1 = true := code_word (m := ⟨7, 9⟩) (meth := k7m9) (c := k7c9) (by decide +kernel) rfl rfl rfl (by decide +kernel)
set_option maxRecDepth 65536 in
theorem w_c30 : (Jvm.Cond.code ({ cls := "java/lang/AbstractStringBuilder", name := "getValue", desc := "()[B" } : Jvm.MethodName) jdk_68_method_64_code (1 : Nat) (Option.some (Jvm.ClassFile.FieldType.array Jvm.ClassFile.FieldType.byte))).before args0 about1 = true := code_word (m := ⟨11, 7⟩) (meth := k11m7) (c := k11c7) (by decide +kernel) rfl rfl rfl (by decide +kernel)
set_option maxRecDepth 65536 in
theorem w_c31 : (Jvm.Cond.code ({ cls := "java/lang/StringBuilder", name := "length", desc := "()I" } : Jvm.MethodName) jdk_67_method_93_code (1 : Nat) (Option.some Jvm.ClassFile.FieldType.int)).before args0 about1 = true := code_word (m := ⟨12, 3⟩) (meth := k12m3) (c := k12c3) (by decide +kernel) rfl rfl rfl (by decide +kernel)
set_option maxRecDepth 65536 in
theorem w_c32 : (Jvm.Cond.code ({ cls := "java/lang/AbstractStringBuilder", name := "length", desc := "()I" } : Jvm.MethodName) jdk_68_method_6_code (1 : Nat) (Option.some Jvm.ClassFile.FieldType.int)).before args0 about1 = true := code_word (m := ⟨11, 2⟩) (meth := k11m2) (c := k11c2) (by decide +kernel) rfl rfl rfl (by decide +kernel)
set_option maxRecDepth 65536 in
theorem w_c33 : (Jvm.Cond.code ({ cls := "java/lang/AbstractStringBuilder", name := "isLatin1", desc := "()Z" } : Jvm.MethodName) jdk_68_method_68_code (1 : Nat) (Option.some Jvm.ClassFile.FieldType.boolean)).before args0 about1 = true := code_word (m := ⟨11, 8⟩) (meth := k11m8) (c := k11c8) (by decide +kernel) rfl rfl rfl (by decide +kernel)
set_option maxRecDepth 65536 in
theorem w_c34 : (Jvm.Cond.code ({ cls := "java/util/Arrays", name := "copyOfRange", desc := "([BII)[B" } : Jvm.MethodName) jdk_65_method_132_code (3 : Nat) (Option.some (Jvm.ClassFile.FieldType.array Jvm.ClassFile.FieldType.byte))).before args0 about1 = true := code_word (m := ⟨17, 3⟩) (meth := k17m3) (c := k17c3) (by decide +kernel) rfl rfl rfl (by decide +kernel)
set_option maxRecDepth 65536 in
theorem w_c35 : (Jvm.Cond.code ({ cls := "java/util/Arrays", name := "copyOfRangeByte", desc := "([BII)[B" } : Jvm.MethodName) jdk_65_method_133_code (5 : Nat) (Option.some (Jvm.ClassFile.FieldType.array Jvm.ClassFile.FieldType.byte))).before args0 about1 = true := code_word (m := ⟨17, 4⟩) (meth := k17m4) (c := k17c4) (by decide +kernel) rfl rfl rfl (by decide +kernel)
set_option maxRecDepth 65536 in
theorem w_c36 : (Jvm.Cond.code ({ cls := "java/util/Arrays", name := "checkLength", desc := "(II)V" } : Jvm.MethodName) jdk_65_method_131_code (2 : Nat) (Option.none : Option Jvm.ClassFile.FieldType)).before args0 about1 = true := code_word (m := ⟨17, 2⟩) (meth := k17m2) (c := k17c2) (by decide +kernel) rfl rfl rfl (by decide +kernel)
set_option maxRecDepth 65536 in
theorem w_c37 : (Jvm.Cond.code ({ cls := "java/lang/Math", name := "min", desc := "(II)I" } : Jvm.MethodName) jdk_29_method_69_code (2 : Nat) (Option.some Jvm.ClassFile.FieldType.int)).before args0 about1 = true := code_word (m := ⟨18, 2⟩) (meth := k18m2) (c := k18c2) (by decide +kernel) rfl rfl rfl (by decide +kernel)
set_option maxRecDepth 65536 in
theorem w_c38 : (Jvm.Cond.code ({ cls := "java/lang/AbstractStringBuilder", name := "newCapacity", desc := "(I)I" } : Jvm.MethodName) jdk_68_method_10_code (6 : Nat) (Option.some Jvm.ClassFile.FieldType.int)).before args0 about1 = true := code_word (m := ⟨11, 4⟩) (meth := k11m4) (c := k11c4) (by decide +kernel) rfl rfl rfl (by decide +kernel)
set_option maxRecDepth 65536 in
theorem w_c39 : (Jvm.Cond.code ({ cls := "jdk/internal/util/ArraysSupport", name := "newLength", desc := "(III)I" } : Jvm.MethodName) jdk_48_method_27_code (4 : Nat) (Option.some Jvm.ClassFile.FieldType.int)).before args0 about1 = true := code_word (m := ⟨19, 1⟩) (meth := k19m1) (c := k19c1) (by decide +kernel) rfl rfl rfl (by decide +kernel)
set_option maxRecDepth 65536 in
theorem w_c40 : (Jvm.Cond.code ({ cls := "java/lang/Math", name := "max", desc := "(II)I" } : Jvm.MethodName) jdk_29_method_65_code (2 : Nat) (Option.some Jvm.ClassFile.FieldType.int)).before args0 about1 = true := code_word (m := ⟨18, 1⟩) (meth := k18m1) (c := k18c1) (by decide +kernel) rfl rfl rfl (by decide +kernel)
set_option maxRecDepth 65536 in
theorem w_c41 : (Jvm.Cond.code ({ cls := "java/util/Arrays", name := "copyOf", desc := "([BI)[B" } : Jvm.MethodName) jdk_65_method_121_code (3 : Nat) (Option.some (Jvm.ClassFile.FieldType.array Jvm.ClassFile.FieldType.byte))).before args0 about1 = true := code_word (m := ⟨17, 1⟩) (meth := k17m1) (c := k17c1) (by decide +kernel) rfl rfl rfl (by decide +kernel)
set_option maxRecDepth 65536 in
theorem w_c42 : (Jvm.Cond.code ({ cls := "java/lang/String", name := "equals", desc := "(Ljava/lang/Object;)Z" } : Jvm.MethodName) jdk_42_method_66_code (3 : Nat) (Option.some Jvm.ClassFile.FieldType.boolean)).before args0 about1 = true := code_word (m := ⟨7, 6⟩) (meth := k7m6) (c := k7c6) (by decide +kernel) rfl rfl rfl (by decide +kernel)
set_option maxRecDepth 65536 in
theorem w_c43 : (Jvm.Cond.code ({ cls := "java/lang/StringLatin1", name := "equals", desc := "([B[B)Z" } : Jvm.MethodName) jdk_43_method_13_code (3 : Nat) (Option.some Jvm.ClassFile.FieldType.boolean)).before args0 about1 = true := code_word (m := ⟨14, 2⟩) (meth := k14m2) (c := k14c2) (by decide +kernel) rfl rfl rfl (by decide +kernel)
set_option maxRecDepth 65536 in
theorem w_c44 : (Jvm.Cond.code ({ cls := "java/lang/StringUTF16", name := "toBytes", desc := "([CII)[B" } : Jvm.MethodName) jdk_52_method_14_code (5 : Nat) (Option.some (Jvm.ClassFile.FieldType.array Jvm.ClassFile.FieldType.byte))).before args0 about1 = true := code_word (m := ⟨8, 6⟩) (meth := k8m6) (c := k8c6) (by decide +kernel) rfl rfl rfl (by decide +kernel)
set_option maxRecDepth 65536 in
theorem w_c45 : (Jvm.Cond.code ({ cls := "java/lang/StringUTF16", name := "newBytesFor", desc := "(I)[B" } : Jvm.MethodName) jdk_52_method_2_code (1 : Nat) (Option.some (Jvm.ClassFile.FieldType.array Jvm.ClassFile.FieldType.byte))).before args0 about1 = true := code_word (m := ⟨8, 1⟩) (meth := k8m1) (c := k8c1) (by decide +kernel) rfl rfl rfl (by decide +kernel)
set_option maxRecDepth 65536 in
theorem w_c46 : (Jvm.Cond.code ({ cls := "java/lang/StringUTF16", name := "newBytesLength", desc := "(I)I" } : Jvm.MethodName) jdk_52_method_3_code (1 : Nat) (Option.some Jvm.ClassFile.FieldType.int)).before args0 about1 = true := code_word (m := ⟨8, 2⟩) (meth := k8m2) (c := k8c2) (by decide +kernel) rfl rfl rfl (by decide +kernel)
set_option maxRecDepth 65536 in
theorem w_c47 : (Jvm.Cond.code ({ cls := "java/lang/StringUTF16", name := "putChar", desc := "([BII)V" } : Jvm.MethodName) jdk_52_method_4_code (3 : Nat) (Option.none : Option Jvm.ClassFile.FieldType)).before args0 about1 = true := code_word (m := ⟨8, 3⟩) (meth := k8m3) (c := k8c3) (by decide +kernel) rfl rfl rfl (by decide +kernel)
set_option maxRecDepth 65536 in
theorem w_c48 : (Jvm.Cond.code ({ cls := "java/lang/StringUTF16", name := "getChar", desc := "([BI)C" } : Jvm.MethodName) jdk_52_method_5_code (2 : Nat) (Option.some Jvm.ClassFile.FieldType.char)).before args0 about1 = true := code_word (m := ⟨8, 4⟩) (meth := k8m4) (c := k8c4) (by decide +kernel) rfl rfl rfl (by decide +kernel)
set_option maxRecDepth 65536 in
theorem w_c49 : (Jvm.Cond.code ({ cls := "java/lang/StringUTF16", name := "charAt", desc := "([BI)C" } : Jvm.MethodName) jdk_52_method_83_code (2 : Nat) (Option.some Jvm.ClassFile.FieldType.char)).before args0 about1 = true := code_word (m := ⟨8, 10⟩) (meth := k8m10) (c := k8c10) (by decide +kernel) rfl rfl rfl (by decide +kernel)
set_option maxRecDepth 65536 in
theorem w_c50 : (Jvm.Cond.code ({ cls := "java/lang/StringUTF16", name := "checkIndex", desc := "(I[B)V" } : Jvm.MethodName) jdk_52_method_91_code (2 : Nat) (Option.none : Option Jvm.ClassFile.FieldType)).before args0 about1 = true := code_word (m := ⟨8, 12⟩) (meth := k8m12) (c := k8c12) (by decide +kernel) rfl rfl rfl (by decide +kernel)
set_option maxRecDepth 65536 in
theorem w_c51 : (Jvm.Cond.code ({ cls := "java/lang/StringUTF16", name := "length", desc := "([B)I" } : Jvm.MethodName) jdk_52_method_6_code (1 : Nat) (Option.some Jvm.ClassFile.FieldType.int)).before args0 about1 = true := code_word (m := ⟨8, 5⟩) (meth := k8m5) (c := k8c5) (by decide +kernel) rfl rfl rfl (by decide +kernel)
set_option maxRecDepth 65536 in
theorem w_c52 : (Jvm.Cond.code ({ cls := "java/lang/AbstractStringBuilder", name := "inflate", desc := "()V" } : Jvm.MethodName) jdk_68_method_11_code (2 : Nat) (Option.none : Option Jvm.ClassFile.FieldType)).before args0 about1 = true := code_word (m := ⟨11, 5⟩) (meth := k11m5) (c := k11c5) (by decide +kernel) rfl rfl rfl (by decide +kernel)
set_option maxRecDepth 65536 in
theorem w_c53 : (Jvm.Cond.code ({ cls := "java/lang/StringLatin1", name := "inflate", desc := "([BI[BII)V" } : Jvm.MethodName) jdk_43_method_50_code (5 : Nat) (Option.none : Option Jvm.ClassFile.FieldType)).before args0 about1 = true := code_word (m := ⟨14, 3⟩) (meth := k14m3) (c := k14c3) (by decide +kernel) rfl rfl rfl (by decide +kernel)
set_option maxRecDepth 65536 in
theorem w_c54 : (Jvm.Cond.code ({ cls := "java/lang/StringUTF16", name := "inflate", desc := "([BI[BII)V" } : Jvm.MethodName) jdk_52_method_86_code (6 : Nat) (Option.none : Option Jvm.ClassFile.FieldType)).before args0 about1 = true := code_word (m := ⟨8, 11⟩) (meth := k8m11) (c := k8c11) (by decide +kernel) rfl rfl rfl (by decide +kernel)
set_option maxRecDepth 65536 in
theorem w_c55 : (Jvm.Cond.code ({ cls := "java/lang/StringUTF16", name := "checkBoundsOffCount", desc := "(II[B)V" } : Jvm.MethodName) jdk_52_method_94_code (3 : Nat) (Option.none : Option Jvm.ClassFile.FieldType)).before args0 about1 = true := code_word (m := ⟨8, 13⟩) (meth := k8m13) (c := k8c13) (by decide +kernel) rfl rfl rfl (by decide +kernel)
set_option maxRecDepth 65536 in
theorem w_c56 : (Jvm.Cond.code ({ cls := "java/lang/String", name := "checkBoundsOffCount", desc := "(III)I" } : Jvm.MethodName) jdk_42_method_157_code (3 : Nat) (Option.some Jvm.ClassFile.FieldType.int)).before args0 about1 = true := code_word (m := ⟨7, 13⟩) (meth := k7m13) (c := k7c13) (by decide +kernel) rfl rfl rfl (by decide +kernel)
set_option maxRecDepth 65536 in
theorem w_c57 : (Jvm.Cond.code ({ cls := "jdk/internal/util/Preconditions", name := "checkFromIndexSize", desc := "(IIILjava/util/function/BiFunction;)I" } : Jvm.MethodName) jdk_41_method_13_code (4 : Nat) (Option.some Jvm.ClassFile.FieldType.int)).before args0 about1 = true := code_word (m := ⟨15, 2⟩) (meth := k15m2) (c := k15c2) (by decide +kernel) rfl rfl rfl (by decide +kernel)
def codes1 : List Jvm.Cond := [Jvm.Cond.code x code maxLocals ret, Jvm.Cond.code ({ cls := "java/lang/String", name := "<init>", desc := "([C)V" } : Jvm.MethodName) jdk_42_method_3_code (2 : Nat) (Option.none : Option Jvm.ClassFile.FieldType), Jvm.Cond.code ({ cls := "java/lang/String", name := "<init>", desc := "([CIILjava/lang/Void;)V" } : Jvm.MethodName) jdk_42_method_149_code (6 : Nat) (Option.none : Option Jvm.ClassFile.FieldType), Jvm.Cond.code ({ cls := "java/lang/Object", name := "<init>", desc := "()V" } : Jvm.MethodName) object_method_1_code (1 : Nat) (Option.none : Option Jvm.ClassFile.FieldType), Jvm.Cond.code ({ cls := "java/lang/StringUTF16", name := "compress", desc := "([CII)[B" } : Jvm.MethodName) jdk_52_method_16_code (6 : Nat) (Option.some (Jvm.ClassFile.FieldType.array Jvm.ClassFile.FieldType.byte)), Jvm.Cond.code ({ cls := "java/lang/StringUTF16", name := "compress", desc := "([CI[BII)I" } : Jvm.MethodName) jdk_52_method_21_code (7 : Nat) (Option.some Jvm.ClassFile.FieldType.int), Jvm.Cond.code ({ cls := "java/lang/StringUTF16", name := "coderFromArrayLen", desc := "([BI)B" } : Jvm.MethodName) jdk_52_method_15_code (2 : Nat) (Option.some Jvm.ClassFile.FieldType.byte), Jvm.Cond.code ({ cls := "com/example/tri3/tri3/RedisKeysLockTokenPinLaw", name := "expected", desc := "(CCCI)[C" } : Jvm.MethodName) method_3_code (5 : Nat) (Option.some (Jvm.ClassFile.FieldType.array Jvm.ClassFile.FieldType.char)), Jvm.Cond.code ({ cls := "com/example/tri3/tri3/RedisKeys", name := "lockToken", desc := "(Ljava/lang/String;)Ljava/lang/String;" } : Jvm.MethodName) prog_1_method_4_code (1 : Nat) (Option.some (Jvm.ClassFile.FieldType.object "java/lang/String")), Jvm.Cond.code ({ cls := "java/lang/StringBuilder", name := "<init>", desc := "()V" } : Jvm.MethodName) jdk_67_method_1_code (1 : Nat) (Option.none : Option Jvm.ClassFile.FieldType), Jvm.Cond.code ({ cls := "java/lang/AbstractStringBuilder", name := "<init>", desc := "(I)V" } : Jvm.MethodName) jdk_68_method_2_code (2 : Nat) (Option.none : Option Jvm.ClassFile.FieldType), Jvm.Cond.code ({ cls := "com/example/tri3/tri3/RedisKeys", name := "tagged", desc := "(Ljava/lang/String;Ljava/lang/String;)Ljava/lang/String;" } : Jvm.MethodName) prog_1_method_8_code (2 : Nat) (Option.some (Jvm.ClassFile.FieldType.object "java/lang/String")), Jvm.Cond.code ({ cls := "java/util/Objects", name := "requireNonNull", desc := "(Ljava/lang/Object;Ljava/lang/String;)Ljava/lang/Object;" } : Jvm.MethodName) jdk_31_method_11_code (2 : Nat) (Option.some (Jvm.ClassFile.FieldType.object "java/lang/Object")), Jvm.Cond.code ({ cls := "java/lang/String", name := "isEmpty", desc := "()Z" } : Jvm.MethodName) jdk_42_method_55_code (1 : Nat) (Option.some Jvm.ClassFile.FieldType.boolean), Jvm.Cond.code ({ cls := "java/lang/String", name := "charAt", desc := "(I)C" } : Jvm.MethodName) jdk_42_method_56_code (2 : Nat) (Option.some Jvm.ClassFile.FieldType.char), Jvm.Cond.code ({ cls := "java/lang/String", name := "isLatin1", desc := "()Z" } : Jvm.MethodName) jdk_42_method_154_code (1 : Nat) (Option.some Jvm.ClassFile.FieldType.boolean), Jvm.Cond.code ({ cls := "java/lang/StringLatin1", name := "charAt", desc := "([BI)C" } : Jvm.MethodName) jdk_43_method_2_code (2 : Nat) (Option.some Jvm.ClassFile.FieldType.char), Jvm.Cond.code ({ cls := "java/lang/String", name := "checkIndex", desc := "(II)V" } : Jvm.MethodName) jdk_42_method_155_code (2 : Nat) (Option.none : Option Jvm.ClassFile.FieldType), Jvm.Cond.code ({ cls := "jdk/internal/util/Preconditions", name := "checkIndex", desc := "(IILjava/util/function/BiFunction;)I" } : Jvm.MethodName) jdk_41_method_11_code (3 : Nat) (Option.some Jvm.ClassFile.FieldType.int), Jvm.Cond.code ({ cls := "java/lang/StringBuilder", name := "append", desc := "(Ljava/lang/String;)Ljava/lang/StringBuilder;" } : Jvm.MethodName) jdk_67_method_7_code (2 : Nat) (Option.some (Jvm.ClassFile.FieldType.object "java/lang/StringBuilder")), Jvm.Cond.code ({ cls := "java/lang/AbstractStringBuilder", name := "append", desc := "(Ljava/lang/String;)Ljava/lang/AbstractStringBuilder;" } : Jvm.MethodName) jdk_68_method_22_code (3 : Nat) (Option.some (Jvm.ClassFile.FieldType.object "java/lang/AbstractStringBuilder")), Jvm.Cond.code ({ cls := "java/lang/String", name := "length", desc := "()I" } : Jvm.MethodName) jdk_42_method_54_code (1 : Nat) (Option.some Jvm.ClassFile.FieldType.int), Jvm.Cond.code ({ cls := "java/lang/String", name := "coder", desc := "()B" } : Jvm.MethodName) jdk_42_method_152_code (1 : Nat) (Option.some Jvm.ClassFile.FieldType.byte), Jvm.Cond.code ({ cls := "java/lang/AbstractStringBuilder", name := "ensureCapacityInternal", desc := "(I)V" } : Jvm.MethodName) jdk_68_method_9_code (3 : Nat) (Option.none : Option Jvm.ClassFile.FieldType), Jvm.Cond.code ({ cls := "java/lang/AbstractStringBuilder", name := "putStringAt", desc := "(ILjava/lang/String;)V" } : Jvm.MethodName) jdk_68_method_73_code (3 : Nat) (Option.none : Option Jvm.ClassFile.FieldType), Jvm.Cond.code ({ cls := "java/lang/AbstractStringBuilder", name := "inflateIfNeededFor", desc := "(Ljava/lang/String;)V" } : Jvm.MethodName) jdk_68_method_71_code (2 : Nat) (Option.none : Option Jvm.ClassFile.FieldType), Jvm.Cond.code ({ cls := "java/lang/String", name := "getBytes", desc := "([BIB)V" } : Jvm.MethodName) jdk_42_method_147_code (4 : Nat) (Option.none : Option Jvm.ClassFile.FieldType), Jvm.Cond.code ({ cls := "java/lang/StringBuilder", name := "toString", desc := "()Ljava/lang/String;" } : Jvm.MethodName) jdk_67_method_42_code (1 : Nat) (Option.some (Jvm.ClassFile.FieldType.object "java/lang/String")), Jvm.Cond.code ({ cls := "java/lang/String", name := "<init>", desc := "(Ljava/lang/StringBuilder;)V" } : Jvm.MethodName) jdk_42_method_53_code (2 : Nat) (Option.none : Option Jvm.ClassFile.FieldType), Jvm.Cond.code ({ cls := "java/lang/String", name := "<init>", desc := "(Ljava/lang/AbstractStringBuilder;Ljava/lang/Void;)V" } : Jvm.MethodName) jdk_42_method_150_code (5 : Nat) (Option.none : Option Jvm.ClassFile.FieldType), Jvm.Cond.code ({ cls := "java/lang/AbstractStringBuilder", name := "getValue", desc := "()[B" } : Jvm.MethodName) jdk_68_method_64_code (1 : Nat) (Option.some (Jvm.ClassFile.FieldType.array Jvm.ClassFile.FieldType.byte)), Jvm.Cond.code ({ cls := "java/lang/StringBuilder", name := "length", desc := "()I" } : Jvm.MethodName) jdk_67_method_93_code (1 : Nat) (Option.some Jvm.ClassFile.FieldType.int), Jvm.Cond.code ({ cls := "java/lang/AbstractStringBuilder", name := "length", desc := "()I" } : Jvm.MethodName) jdk_68_method_6_code (1 : Nat) (Option.some Jvm.ClassFile.FieldType.int), Jvm.Cond.code ({ cls := "java/lang/AbstractStringBuilder", name := "isLatin1", desc := "()Z" } : Jvm.MethodName) jdk_68_method_68_code (1 : Nat) (Option.some Jvm.ClassFile.FieldType.boolean), Jvm.Cond.code ({ cls := "java/util/Arrays", name := "copyOfRange", desc := "([BII)[B" } : Jvm.MethodName) jdk_65_method_132_code (3 : Nat) (Option.some (Jvm.ClassFile.FieldType.array Jvm.ClassFile.FieldType.byte)), Jvm.Cond.code ({ cls := "java/util/Arrays", name := "copyOfRangeByte", desc := "([BII)[B" } : Jvm.MethodName) jdk_65_method_133_code (5 : Nat) (Option.some (Jvm.ClassFile.FieldType.array Jvm.ClassFile.FieldType.byte)), Jvm.Cond.code ({ cls := "java/util/Arrays", name := "checkLength", desc := "(II)V" } : Jvm.MethodName) jdk_65_method_131_code (2 : Nat) (Option.none : Option Jvm.ClassFile.FieldType), Jvm.Cond.code ({ cls := "java/lang/Math", name := "min", desc := "(II)I" } : Jvm.MethodName) jdk_29_method_69_code (2 : Nat) (Option.some Jvm.ClassFile.FieldType.int), Jvm.Cond.code ({ cls := "java/lang/AbstractStringBuilder", name := "newCapacity", desc := "(I)I" } : Jvm.MethodName) jdk_68_method_10_code (6 : Nat) (Option.some Jvm.ClassFile.FieldType.int), Jvm.Cond.code ({ cls := "jdk/internal/util/ArraysSupport", name := "newLength", desc := "(III)I" } : Jvm.MethodName) jdk_48_method_27_code (4 : Nat) (Option.some Jvm.ClassFile.FieldType.int), Jvm.Cond.code ({ cls := "java/lang/Math", name := "max", desc := "(II)I" } : Jvm.MethodName) jdk_29_method_65_code (2 : Nat) (Option.some Jvm.ClassFile.FieldType.int), Jvm.Cond.code ({ cls := "java/util/Arrays", name := "copyOf", desc := "([BI)[B" } : Jvm.MethodName) jdk_65_method_121_code (3 : Nat) (Option.some (Jvm.ClassFile.FieldType.array Jvm.ClassFile.FieldType.byte)), Jvm.Cond.code ({ cls := "java/lang/String", name := "equals", desc := "(Ljava/lang/Object;)Z" } : Jvm.MethodName) jdk_42_method_66_code (3 : Nat) (Option.some Jvm.ClassFile.FieldType.boolean), Jvm.Cond.code ({ cls := "java/lang/StringLatin1", name := "equals", desc := "([B[B)Z" } : Jvm.MethodName) jdk_43_method_13_code (3 : Nat) (Option.some Jvm.ClassFile.FieldType.boolean), Jvm.Cond.code ({ cls := "java/lang/StringUTF16", name := "toBytes", desc := "([CII)[B" } : Jvm.MethodName) jdk_52_method_14_code (5 : Nat) (Option.some (Jvm.ClassFile.FieldType.array Jvm.ClassFile.FieldType.byte)), Jvm.Cond.code ({ cls := "java/lang/StringUTF16", name := "newBytesFor", desc := "(I)[B" } : Jvm.MethodName) jdk_52_method_2_code (1 : Nat) (Option.some (Jvm.ClassFile.FieldType.array Jvm.ClassFile.FieldType.byte)), Jvm.Cond.code ({ cls := "java/lang/StringUTF16", name := "newBytesLength", desc := "(I)I" } : Jvm.MethodName) jdk_52_method_3_code (1 : Nat) (Option.some Jvm.ClassFile.FieldType.int), Jvm.Cond.code ({ cls := "java/lang/StringUTF16", name := "putChar", desc := "([BII)V" } : Jvm.MethodName) jdk_52_method_4_code (3 : Nat) (Option.none : Option Jvm.ClassFile.FieldType), Jvm.Cond.code ({ cls := "java/lang/StringUTF16", name := "getChar", desc := "([BI)C" } : Jvm.MethodName) jdk_52_method_5_code (2 : Nat) (Option.some Jvm.ClassFile.FieldType.char), Jvm.Cond.code ({ cls := "java/lang/StringUTF16", name := "charAt", desc := "([BI)C" } : Jvm.MethodName) jdk_52_method_83_code (2 : Nat) (Option.some Jvm.ClassFile.FieldType.char), Jvm.Cond.code ({ cls := "java/lang/StringUTF16", name := "checkIndex", desc := "(I[B)V" } : Jvm.MethodName) jdk_52_method_91_code (2 : Nat) (Option.none : Option Jvm.ClassFile.FieldType), Jvm.Cond.code ({ cls := "java/lang/StringUTF16", name := "length", desc := "([B)I" } : Jvm.MethodName) jdk_52_method_6_code (1 : Nat) (Option.some Jvm.ClassFile.FieldType.int), Jvm.Cond.code ({ cls := "java/lang/AbstractStringBuilder", name := "inflate", desc := "()V" } : Jvm.MethodName) jdk_68_method_11_code (2 : Nat) (Option.none : Option Jvm.ClassFile.FieldType), Jvm.Cond.code ({ cls := "java/lang/StringLatin1", name := "inflate", desc := "([BI[BII)V" } : Jvm.MethodName) jdk_43_method_50_code (5 : Nat) (Option.none : Option Jvm.ClassFile.FieldType), Jvm.Cond.code ({ cls := "java/lang/StringUTF16", name := "inflate", desc := "([BI[BII)V" } : Jvm.MethodName) jdk_52_method_86_code (6 : Nat) (Option.none : Option Jvm.ClassFile.FieldType), Jvm.Cond.code ({ cls := "java/lang/StringUTF16", name := "checkBoundsOffCount", desc := "(II[B)V" } : Jvm.MethodName) jdk_52_method_94_code (3 : Nat) (Option.none : Option Jvm.ClassFile.FieldType), Jvm.Cond.code ({ cls := "java/lang/String", name := "checkBoundsOffCount", desc := "(III)I" } : Jvm.MethodName) jdk_42_method_157_code (3 : Nat) (Option.some Jvm.ClassFile.FieldType.int), Jvm.Cond.code ({ cls := "jdk/internal/util/Preconditions", name := "checkFromIndexSize", desc := "(IIILjava/util/function/BiFunction;)I" } : Jvm.MethodName) jdk_41_method_13_code (4 : Nat) (Option.some Jvm.ClassFile.FieldType.int)]
set_option maxRecDepth 65536 in
theorem codes_eq : words1.filter isCode = codes1 := rfl
theorem w_codes : ∀ c ∈ words1.filter isCode, c.before args0 about1 = true := by
  rw [codes_eq]
  intro c hc
  simp only [codes1, List.mem_cons, List.not_mem_nil, or_false] at hc
  rcases hc with rfl | rfl | rfl | rfl | rfl | rfl | rfl | rfl | rfl | rfl | rfl | rfl | rfl | rfl | rfl | rfl | rfl | rfl | rfl | rfl | rfl | rfl | rfl | rfl | rfl | rfl | rfl | rfl | rfl | rfl | rfl | rfl | rfl | rfl | rfl | rfl | rfl | rfl | rfl | rfl | rfl | rfl | rfl | rfl | rfl | rfl | rfl | rfl | rfl | rfl | rfl | rfl | rfl | rfl | rfl | rfl | rfl | rfl
  · exact w_c0
  · exact w_c1
  · exact w_c2
  · exact w_c3
  · exact w_c4
  · exact w_c5
  · exact w_c6
  · exact w_c7
  · exact w_c8
  · exact w_c9
  · exact w_c10
  · exact w_c11
  · exact w_c12
  · exact w_c13
  · exact w_c14
  · exact w_c15
  · exact w_c16
  · exact w_c17
  · exact w_c18
  · exact w_c19
  · exact w_c20
  · exact w_c21
  · exact w_c22
  · exact w_c23
  · exact w_c24
  · exact w_c25
  · exact w_c26
  · exact w_c27
  · exact w_c28
  · exact w_c29
  · exact w_c30
  · exact w_c31
  · exact w_c32
  · exact w_c33
  · exact w_c34
  · exact w_c35
  · exact w_c36
  · exact w_c37
  · exact w_c38
  · exact w_c39
  · exact w_c40
  · exact w_c41
  · exact w_c42
  · exact w_c43
  · exact w_c44
  · exact w_c45
  · exact w_c46
  · exact w_c47
  · exact w_c48
  · exact w_c49
  · exact w_c50
  · exact w_c51
  · exact w_c52
  · exact w_c53
  · exact w_c54
  · exact w_c55
  · exact w_c56
  · exact w_c57
set_option maxRecDepth 65536 in
theorem w_t1 : (words1.take 24).all (fun c => isCode c || c.before args0 about1) = true := by decide +kernel
set_option maxRecDepth 65536 in
theorem w_t2 : ((words1.drop 24).take 24).all (fun c => isCode c || c.before args0 about1) = true := by decide +kernel
set_option maxRecDepth 65536 in
theorem w_t3 : (((words1.drop 24).drop 24).take 24).all (fun c => isCode c || c.before args0 about1) = true := by decide +kernel
set_option maxRecDepth 65536 in
theorem w_t4 : ((((words1.drop 24).drop 24).drop 24).take 24).all (fun c => isCode c || c.before args0 about1) = true := by decide +kernel
set_option maxRecDepth 65536 in
theorem w_t5 : (((((words1.drop 24).drop 24).drop 24).drop 24).take 24).all (fun c => isCode c || c.before args0 about1) = true := by decide +kernel
set_option maxRecDepth 65536 in
theorem w_t6 : ((((((words1.drop 24).drop 24).drop 24).drop 24).drop 24).take 24).all (fun c => isCode c || c.before args0 about1) = true := by decide +kernel
set_option maxRecDepth 65536 in
theorem w_t7 : (((((((words1.drop 24).drop 24).drop 24).drop 24).drop 24).drop 24).take 24).all (fun c => isCode c || c.before args0 about1) = true := by decide +kernel
set_option maxRecDepth 65536 in
theorem w_t8 : ((((((((words1.drop 24).drop 24).drop 24).drop 24).drop 24).drop 24).drop 24).take 24).all (fun c => isCode c || c.before args0 about1) = true := by decide +kernel
set_option maxRecDepth 65536 in
theorem w_t9 : (((((((((words1.drop 24).drop 24).drop 24).drop 24).drop 24).drop 24).drop 24).drop 24).take 24).all (fun c => isCode c || c.before args0 about1) = true := by decide +kernel
set_option maxRecDepth 65536 in
theorem w_t10 : ((((((((((words1.drop 24).drop 24).drop 24).drop 24).drop 24).drop 24).drop 24).drop 24).drop 24).take 24).all (fun c => isCode c || c.before args0 about1) = true := by decide +kernel
set_option maxRecDepth 65536 in
theorem w_t11 : (((((((((((words1.drop 24).drop 24).drop 24).drop 24).drop 24).drop 24).drop 24).drop 24).drop 24).drop 24).take 24).all (fun c => isCode c || c.before args0 about1) = true := by decide +kernel
set_option maxRecDepth 65536 in
theorem w_t12 : (((((((((((words1.drop 24).drop 24).drop 24).drop 24).drop 24).drop 24).drop 24).drop 24).drop 24).drop 24).drop 24).all (fun c => isCode c || c.before args0 about1) = true := by decide +kernel
theorem w_tables : (allAtoms (Jvm.Cond.code x code maxLocals ret :: tables_1)).before args0 about1 = true := by
  rw [allAtoms_all]
  show words1.all (fun c => c.before args0 about1) = true
  refine all_split ?_ w_codes
  rw [← List.take_append_drop 24 words1, List.all_append, w_t1, ← List.take_append_drop 24 (words1.drop 24), List.all_append, w_t2, ← List.take_append_drop 24 ((words1.drop 24).drop 24), List.all_append, w_t3, ← List.take_append_drop 24 (((words1.drop 24).drop 24).drop 24), List.all_append, w_t4, ← List.take_append_drop 24 ((((words1.drop 24).drop 24).drop 24).drop 24), List.all_append, w_t5, ← List.take_append_drop 24 (((((words1.drop 24).drop 24).drop 24).drop 24).drop 24), List.all_append, w_t6, ← List.take_append_drop 24 ((((((words1.drop 24).drop 24).drop 24).drop 24).drop 24).drop 24), List.all_append, w_t7, ← List.take_append_drop 24 (((((((words1.drop 24).drop 24).drop 24).drop 24).drop 24).drop 24).drop 24), List.all_append, w_t8, ← List.take_append_drop 24 ((((((((words1.drop 24).drop 24).drop 24).drop 24).drop 24).drop 24).drop 24).drop 24), List.all_append, w_t9, ← List.take_append_drop 24 (((((((((words1.drop 24).drop 24).drop 24).drop 24).drop 24).drop 24).drop 24).drop 24).drop 24), List.all_append, w_t10, ← List.take_append_drop 24 ((((((((((words1.drop 24).drop 24).drop 24).drop 24).drop 24).drop 24).drop 24).drop 24).drop 24).drop 24), List.all_append, w_t11, w_t12]
  rfl
set_option maxRecDepth 65536 in
theorem w_rest : rest_1_c.before args0 about1 = true := by decide +kernel
set_option maxRecDepth 65536 in
theorem w_case : (Jvm.Cond.and given_1 narrow_1).before args0 about1 = true := by decide +kernel
set_option maxRecDepth 65536 in
theorem w_consts : constsHeld consts_1 about1 := Jvm.Lit.constsHeldB_iff.mp (by decide +kernel)
theorem w_applies : (headSpec (Jvm.Cond.code x code maxLocals ret :: tables_1) room_1).applies x e0.platform about1 = true :=
  (Spec.applies_iff w_frames).mpr ⟨w_running, w_runnable, w_alone, w_named, w_hears, w_ripe, w_room, w_tables⟩
theorem atStart : AtStart classFile x code maxLocals ret World_1 tables_1 room_1 Calls_1 rest_1 Pre_1 launch0 p0 e0 about1 theMethod args0 below0 :=
  ⟨lists_1, trivial, launch0.admits_env _ _ _, launch0.least_env, fairChoices_fair.cas, fairChoices_fair.clock, w_frames, w_args, w_heap, w_applies, ⟨w_consts, trivial⟩, w_rest, w_case⟩
end start1
theorem witness_1 : WitnessClaimed_1 := ⟨start1.p0, start1.e0, start1.about1, start1.theMethod, start1.args0, start1.below0, start1.atStart⟩
end Jvm.Pilot.@@N@@

