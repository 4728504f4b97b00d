import JvmDerived
import JvmDerived.Pilot.@@N@@Statement
import JvmDerived.Pilot.@@N@@Code
set_option linter.unusedVariables false
set_option linter.unusedSimpArgs false

/- laws to paste: Road.backV, Road.lenW, Road.chN, Road.codOf (cut by pick.py; bodies as the Statement names them) -/
namespace Jvm.Pilot.@@N@@
namespace StrChars
open Jvm Sem ClassFile Op Lib Jvm.Stand Jvm.Free.XT Jvm.Free.ALB Jvm.Free.JM Jvm.Free
open Jvm.Lib.Cold (StaticIs)
/-- a char array whose places are chars -/
def Ch (a : Addr) (A : Cell) (U : State) : Prop := Arr .char a A U ∧ Typed .char A
theorem Ch.mv {a : Addr} {A : Cell} {U U' : State} (h : Ch a A U) (hal : U.vm.Alike U'.vm) (hh : U'.heap = U.heap) : Ch a A U' := ⟨h.1.mv hal hh, h.2⟩
theorem Ch.keep {a : Addr} {A : Cell} {U U' : State} (h : Ch a A U) (hal : U.vm.Alike U'.vm) (hk : U'.heap[a]? = some A) : Ch a A U' := ⟨h.1.keep hal hk, h.2⟩
/-- what place i of a char[]'s cell holds -/
def cv (A : Cell) (i : Nat) : Int32 := match A.slots[i]? with | some (.int x) => x | _ => 0
theorem Ch.get {a : Addr} {A : Cell} {U : State} (h : Ch a A U) {i : Nat} (hi : i < A.slots.size) : A.slots[i]? = some (.int (cv A i)) := by
  have e := Array.getElem?_eq_getElem hi
  have f := h.2 i _ e
  unfold cv; rw [e]
  generalize A.slots[i] = v at f
  cases v <;> simp [fits] at f ⊢
/-- the byte that i2b leaves of a char -/
def lo8 (x : Int32) : Int32 := x.toInt8.toInt32
theorem fits_lo8 (y : Int32) : fits .byte (.int (lo8 y)) = true := by
  have h1 := y.toInt8.le_toInt
  have h2 := y.toInt8.toInt_lt
  simp only [lo8, fits, Bool.and_eq_true, decide_eq_true_eq, Int32.le_iff_toInt_le, Int8.toInt_toInt32, show (-128 : Int32).toInt = -128 from by decide, show (127 : Int32).toInt = 127 from by decide]
  omega
/-- A' is A but that each place j of lo .. hi - 1 holds f j -/
def Laid (A A' : Cell) (lo hi : Nat) (f : Nat → Value) : Prop := A'.cls = A.cls ∧ A'.vm = A.vm ∧ A'.slots.size = A.slots.size ∧ ∀ i, A'.slots[i]? = if lo ≤ i ∧ i < hi then some (f i) else A.slots[i]?
theorem Laid.zero (A : Cell) (lo : Nat) (f : Nat → Value) : Laid A A lo (lo + 0) f := ⟨rfl, rfl, rfl, fun i => by rw [if_neg (by omega)]⟩
theorem Laid.step {A Ak : Cell} {lo k : Nat} {f : Nat → Value} {v : Value} (h : Laid A Ak lo k f) (hlo : lo ≤ k) (hk : k < Ak.slots.size) (hv : v = f k) : Laid A (Ak.setSlot k v) lo (k + 1) f := by
  refine ⟨h.1, h.2.1, by simpa [Cell.setSlot] using h.2.2.1, fun i => ?_⟩
  by_cases e : k = i
  · subst e; rw [Cell.slots_setSlot_self v hk, if_pos (by omega), hv]
  · rw [Cell.slots_setSlot_ne v e, h.2.2.2 i]
    by_cases q : lo ≤ i ∧ i < k
    · rw [if_pos q, if_pos (by omega)]
    · rw [if_neg q, if_neg (by omega)]
def U16 : String := "java/lang/StringUTF16"
namespace Cmp5
def yN : MethodName := ⟨"java/lang/StringUTF16", "compress", "([CI[BII)I"⟩
abbrev yB : ByteArray := jdk_52_method_21_code
theorem d0 : decode yB 0 = .ok (.iconst 0, 1) := by decide +kernel
theorem d1 : decode yB 1 = .ok (.istore 5, 2) := by decide +kernel
theorem d3 : decode yB 3 = .ok (.iload 5, 2) := by decide +kernel
theorem d5 : decode yB 5 = .ok (.iload 4, 2) := by decide +kernel
theorem d7 : decode yB 7 = .ok (.if_icmp (.ge) 37, 3) := by decide +kernel
theorem d10 : decode yB 10 = .ok (.aload_n 0, 1) := by decide +kernel
theorem d11 : decode yB 11 = .ok (.iload_n 1, 1) := by decide +kernel
theorem d12 : decode yB 12 = .ok (.caload, 1) := by decide +kernel
theorem d13 : decode yB 13 = .ok (.istore 6, 2) := by decide +kernel
theorem d15 : decode yB 15 = .ok (.iload 6, 2) := by decide +kernel
theorem d17 : decode yB 17 = .ok (.sipush 255, 3) := by decide +kernel
theorem d20 : decode yB 20 = .ok (.if_icmp (.le) 6, 3) := by decide +kernel
theorem d26 : decode yB 26 = .ok (.aload_n 2, 1) := by decide +kernel
theorem d27 : decode yB 27 = .ok (.iload_n 3, 1) := by decide +kernel
theorem d28 : decode yB 28 = .ok (.iload 6, 2) := by decide +kernel
theorem d30 : decode yB 30 = .ok (.i2b, 1) := by decide +kernel
theorem d31 : decode yB 31 = .ok (.bastore, 1) := by decide +kernel
theorem d32 : decode yB 32 = .ok (.iinc 1 1, 3) := by decide +kernel
theorem d35 : decode yB 35 = .ok (.iinc 3 1, 3) := by decide +kernel
theorem d38 : decode yB 38 = .ok (.iinc 5 1, 3) := by decide +kernel
theorem d41 : decode yB 41 = .ok (.goto (-38), 3) := by decide +kernel
theorem d44 : decode yB 44 = .ok (.iload 4, 2) := by decide +kernel
theorem d46 : decode yB 46 = .ok (.ireturn, 1) := by decide +kernel
def site : List Cond := []
def tab : Cond := tabOf yN yB 7 (some .int) site
def P (b : Addr) (A : Cell) (d : Addr) (B : Cell) (o q len : Nat) (args : Array Value) (s : State) : Prop := args = #[.ref b, .int (Int32.ofNat o), .ref d, .int (Int32.ofNat q), .int (Int32.ofNat len)] ∧ Ch b A s ∧ Arr .byte d B s ∧ b ≠ d ∧ o + len ≤ A.slots.size ∧ q + len ≤ B.slots.size ∧ ∀ i, i < len → ¬ 255 < cv A (o + i)
def E (b : Addr) (A : Cell) (d : Addr) (B : Cell) (o q len : Nat) (r : Option Value) (s u : State) : Prop := r = some (.int (Int32.ofNat len)) ∧ ∃ B', Put d B' s u ∧ Laid B B' q (q + len) (fun j => Value.int (lo8 (cv A (o + (j - q)))))
/-- no char of the range above 255: len; the places written hold each char's low byte -/
theorem law (l : Launch) (b : Addr) (A : Cell) (d : Addr) (B : Cell) (o q len : Nat) : Law l yN 5 5 0 0 yB 7 (some .int) site (P b A d B o q len) (E b A d B o q len) (copyLocs d q len) 0 0 := by
  refine Law.of_walk (plainFor_of_name (by decide +kernel)) (by decide +kernel) (by decide +kernel) (by decide) (fun _ _ h => by rw [h.1]; rfl) (fun _ U U' hal hh h => ⟨h.1, h.2.1.mv hal hh, h.2.2.1.mv hal hh, h.2.2.2⟩) (fun r U U' V V' h1 hal h2 h => ⟨h.1, h.2.elim fun B' q => ⟨B', q.1.mv h1 h2, q.2⟩⟩) ?_
  intro p e s m args below meth c s₁ X0 hexec hbytes hml hret hlk hnm hown hh0 W hP
  obtain ⟨rfl, hA, hB, hne, l1, l2, hp⟩ := hP
  have c1 : Steps p.tables e below (s₁.setTop (entryFrame m #[.ref b, .int (Int32.ofNat o), .ref d, .int (Int32.ofNat q), .int (Int32.ofNat len)] 7)) (s₁.setTop (mkF m 0 #[.val (.ref b), .val (.int (Int32.ofNat o)), .val (.ref d), .val (.int (Int32.ofNat q)), .val (.int (Int32.ofNat len)), .unset, .unset] [])) := entry rfl
  have hA0 := hA.1.mv X0.warmed.alike hh0
  have hB0 := hB.mv X0.warmed.alike hh0
  have a31 := hA.1.2.2.2
  have c2 : Steps p.tables e below (s₁.setTop (entryFrame m #[.ref b, .int (Int32.ofNat o), .ref d, .int (Int32.ofNat q), .int (Int32.ofNat len)] 7)) (s₁.setTop (mkF m 3 #[.val (.ref b), .val (.int (Int32.ofNat o)), .val (.ref d), .val (.int (Int32.ofNat q)), .val (.int (Int32.ofNat len)), .val (.int 0), .unset] [])) := c1.trans (by
    refine iconstV X0.here hexec rfl 0 (hb hbytes d0) (by decide) ?_
    refine XS.istore X0.here hexec rfl (hb hbytes d1) rfl rfl ?_
    exact Steps.refl _)
  have loop : ∀ (r i : Nat), i + r = len → ∀ (z : Slot), (z = .unset ∨ ∃ w, z = .val w ∧ w.category = 1) → ∀ (Tl : State) (Bk : Cell), Stand p l e { frames := 0, locals := 0, cells := 0, slots := 0 } s m #[.ref b, .int (Int32.ofNat o), .ref d, .int (Int32.ofNat q), .int (Int32.ofNat len)] below meth c Tl ([] ++ copyLocs d q i) 0 0 → Put d Bk s₁ Tl → Laid B Bk q (q + i) (fun j => Value.int (lo8 (cv A (o + (j - q))))) →
      Steps p.tables e below (s₁.setTop (entryFrame m #[.ref b, .int (Int32.ofNat o), .ref d, .int (Int32.ofNat q), .int (Int32.ofNat len)] 7)) (Tl.setTop (mkF m 3 #[.val (.ref b), .val (.int (Int32.ofNat (o + i))), .val (.ref d), .val (.int (Int32.ofNat (q + i))), .val (.int (Int32.ofNat len)), .val (.int (Int32.ofNat i)), z] [])) → ∃ (T' : State) (B' : Cell) (z' : Slot), Stand p l e { frames := 0, locals := 0, cells := 0, slots := 0 } s m #[.ref b, .int (Int32.ofNat o), .ref d, .int (Int32.ofNat q), .int (Int32.ofNat len)] below meth c T' ([] ++ copyLocs d q len) 0 0 ∧ Put d B' s₁ T' ∧ Laid B B' q (q + len) (fun j => Value.int (lo8 (cv A (o + (j - q))))) ∧
      Steps p.tables e below (s₁.setTop (entryFrame m #[.ref b, .int (Int32.ofNat o), .ref d, .int (Int32.ofNat q), .int (Int32.ofNat len)] 7)) (T'.setTop (mkF m 3 #[.val (.ref b), .val (.int (Int32.ofNat (o + len))), .val (.ref d), .val (.int (Int32.ofNat (q + len))), .val (.int (Int32.ofNat len)), .val (.int (Int32.ofNat len)), z'] [])) := by
    intro r
    induction r with
    | zero =>
      intro i hi z hz Tl Bk Xl pl fl cl
      have hil : i = len := by omega
      rw [hil] at Xl fl cl
      exact ⟨Tl, Bk, z, Xl, pl, fl, cl⟩
    | succ r ih =>
      intro i hi z hz Tl Bk Xl pl fl cl
      have all := X0.warmed.alike.symm.trans Xl.warmed.alike
      have hAl := hA0.keep all (pl.other hne hA0.1)
      have hBk := hB0.like all pl.1 fl.1 fl.2.1 fl.2.2.1
      have hlt : q + i < Bk.slots.size := by rw [fl.2.2.1]; omega
      have c3 : Steps p.tables e below (s₁.setTop (entryFrame m #[.ref b, .int (Int32.ofNat o), .ref d, .int (Int32.ofNat q), .int (Int32.ofNat len)] 7)) (Tl.setTop (mkF m 12 #[.val (.ref b), .val (.int (Int32.ofNat (o + i))), .val (.ref d), .val (.int (Int32.ofNat (q + i))), .val (.int (Int32.ofNat len)), .val (.int (Int32.ofNat i)), z] [.int (Int32.ofNat (o + i)), .ref b])) := cl.trans (by
        refine XS.iload Xl.here hexec rfl (hb hbytes d3) rfl ?_
        refine XS.iload Xl.here hexec rfl (hb hbytes d5) rfl ?_
        refine XS.icmpNo Xl.here hexec rfl (hb hbytes d7) rfl (ii_ge_f (lt32 (by omega) (by omega))) ?_
        refine XS.aloadN Xl.here hexec rfl (hb hbytes d10) rfl rfl ?_
        refine XS.iloadN Xl.here hexec rfl (hb hbytes d11) rfl ?_
        exact Steps.refl _)
      have c4 : Steps p.tables e below (s₁.setTop (entryFrame m #[.ref b, .int (Int32.ofNat o), .ref d, .int (Int32.ofNat q), .int (Int32.ofNat len)] 7)) (Tl.setTop (mkF m 13 #[.val (.ref b), .val (.int (Int32.ofNat (o + i))), .val (.ref d), .val (.int (Int32.ofNat (q + i))), .val (.int (Int32.ofNat len)), .val (.int (Int32.ofNat i)), z] [.int (cv A (o + i))])) := c3.trans (by
        refine Xl.aget hexec hAl rfl (hA.get (i := o + i) (by omega)) rfl rfl (hb hbytes d12) ?_
        exact Steps.refl _)
      have c5 : Steps p.tables e below (s₁.setTop (entryFrame m #[.ref b, .int (Int32.ofNat o), .ref d, .int (Int32.ofNat q), .int (Int32.ofNat len)] 7)) (Tl.setTop (mkF m 15 #[.val (.ref b), .val (.int (Int32.ofNat (o + i))), .val (.ref d), .val (.int (Int32.ofNat (q + i))), .val (.int (Int32.ofNat len)), .val (.int (Int32.ofNat i)), .val (.int (cv A (o + i)))] [])) := c4.trans (by
        refine XS.istoreS Xl.here hexec rfl (hb hbytes d13) rfl rfl hz ?_
        exact Steps.refl _)
      have c6 : Steps p.tables e below (s₁.setTop (entryFrame m #[.ref b, .int (Int32.ofNat o), .ref d, .int (Int32.ofNat q), .int (Int32.ofNat len)] 7)) (Tl.setTop (mkF m 31 #[.val (.ref b), .val (.int (Int32.ofNat (o + i))), .val (.ref d), .val (.int (Int32.ofNat (q + i))), .val (.int (Int32.ofNat len)), .val (.int (Int32.ofNat i)), .val (.int (cv A (o + i)))] [.int (lo8 (cv A (o + i))), .int (Int32.ofNat (q + i)), .ref d])) := c5.trans (by
        refine XS.iload Xl.here hexec rfl (hb hbytes d15) rfl ?_
        refine sipushV Xl.here hexec rfl 255 (hb hbytes d17) (by decide) ?_
        refine XS.icmpYes Xl.here hexec rfl (pc0 := 20) rfl (hb hbytes d20) rfl (ii_le_t (hp i (by omega))) (by decide) rfl ?_
        refine XS.aloadN Xl.here hexec rfl (hb hbytes d26) rfl rfl ?_
        refine XS.iloadN Xl.here hexec rfl (hb hbytes d27) rfl ?_
        refine XS.iload Xl.here hexec rfl (hb hbytes d28) rfl ?_
        refine i2b Xl.here hexec rfl (hb hbytes d30) rfl ?_
        exact Steps.refl _)
      obtain ⟨T7, X7, p7, st7⟩ := Xl.aput hexec hBk rfl hlt rfl (fits_lo8 (cv A (o + i))) (g := (mkF m 31 #[.val (.ref b), .val (.int (Int32.ofNat (o + i))), .val (.ref d), .val (.int (Int32.ofNat (q + i))), .val (.int (Int32.ofNat len)), .val (.int (Int32.ofNat i)), .val (.int (cv A (o + i)))] [.int (lo8 (cv A (o + i))), .int (Int32.ofNat (q + i)), .ref d])) rfl (rest := []) rfl (hb hbytes d31)
      have c8 : Steps p.tables e below (s₁.setTop (entryFrame m #[.ref b, .int (Int32.ofNat o), .ref d, .int (Int32.ofNat q), .int (Int32.ofNat len)] 7)) (T7.setTop (mkF m 32 #[.val (.ref b), .val (.int (Int32.ofNat (o + i))), .val (.ref d), .val (.int (Int32.ofNat (q + i))), .val (.int (Int32.ofNat len)), .val (.int (Int32.ofNat i)), .val (.int (cv A (o + i)))] [])) := c6.trans (st7 _ (Steps.refl _))
      have c9 : Steps p.tables e below (s₁.setTop (entryFrame m #[.ref b, .int (Int32.ofNat o), .ref d, .int (Int32.ofNat q), .int (Int32.ofNat len)] 7)) (T7.setTop (mkF m 3 #[.val (.ref b), .val (.int (Int32.ofNat (o + i) + 1)), .val (.ref d), .val (.int (Int32.ofNat (q + i) + 1)), .val (.int (Int32.ofNat len)), .val (.int (Int32.ofNat i + 1)), .val (.int (cv A (o + i)))] [])) := c8.trans (by
        refine iincV X7.here hexec rfl 1 (hb hbytes d32) (by decide) rfl rfl ?_
        refine iincV X7.here hexec rfl 1 (hb hbytes d35) (by decide) rfl rfl ?_
        refine iincV X7.here hexec rfl 1 (hb hbytes d38) (by decide) rfl rfl ?_
        refine XS.goto X7.here hexec rfl (pc0 := 41) rfl (hb hbytes d41) (by decide) rfl ?_
        exact Steps.refl _)
      have c10 : Steps p.tables e below (s₁.setTop (entryFrame m #[.ref b, .int (Int32.ofNat o), .ref d, .int (Int32.ofNat q), .int (Int32.ofNat len)] 7)) (T7.setTop (mkF m 3 #[.val (.ref b), .val (.int (Int32.ofNat (o + (i + 1)))), .val (.ref d), .val (.int (Int32.ofNat (q + (i + 1)))), .val (.int (Int32.ofNat len)), .val (.int (Int32.ofNat (i + 1))), .val (.int (cv A (o + i)))] [])) := by
        have := c9
        rw [succ32, succ32, succ32] at this
        exact this
      exact ih (i + 1) (by omega) _ (Or.inr ⟨_, rfl, rfl⟩) T7 _ (by rw [copyLocs_step, ← List.append_assoc]; exact X7) (pl.trans p7) (fl.step (by omega) hlt (by simp)) c10
  obtain ⟨T9, B9, z9, X9, p9, f9, g9⟩ := loop len 0 (by omega) .unset (Or.inl rfl) s₁ B (by simpa [copyLocs] using X0) ⟨hB0.1, fun _ _ => rfl, rfl⟩ (Laid.zero _ _ _) c2
  have c11 : Steps p.tables e below (s₁.setTop (entryFrame m #[.ref b, .int (Int32.ofNat o), .ref d, .int (Int32.ofNat q), .int (Int32.ofNat len)] 7)) (T9.setTop (mkF m 46 #[.val (.ref b), .val (.int (Int32.ofNat (o + len))), .val (.ref d), .val (.int (Int32.ofNat (q + len))), .val (.int (Int32.ofNat len)), .val (.int (Int32.ofNat len)), z9] [.int (Int32.ofNat len)])) := g9.trans (by
    refine XS.iload X9.here hexec rfl (hb hbytes d3) rfl ?_
    refine XS.iload X9.here hexec rfl (hb hbytes d5) rfl ?_
    refine XS.icmpYes X9.here hexec rfl (pc0 := 7) rfl (hb hbytes d7) rfl (ii_ge_t (nlt32 (by omega) (Nat.le_refl _))) (by decide) rfl ?_
    refine XS.iload X9.here hexec rfl (hb hbytes d44) rfl ?_
    exact Steps.refl _)
  exact ⟨T9, some (.int (Int32.ofNat len)), _, _, _, X9, by simp, rfl, rfl, (fun h => by cases h), ⟨rfl, B9, p9.from hh0, f9⟩, fun fs hl => c11.trans (X9.ireturnOut hexec hret rfl (Or.inl rfl) (hb hbytes d46) hl)⟩
end Cmp5
namespace Cmp3
def yN : MethodName := ⟨"java/lang/StringUTF16", "compress", "([CII)[B"⟩
abbrev yB : ByteArray := jdk_52_method_16_code
theorem d0 : decode yB 0 = .ok (.iload_n 2, 1) := by decide +kernel
theorem d1 : decode yB 1 = .ok (.newarray .byte, 2) := by decide +kernel
theorem d3 : decode yB 3 = .ok (.astore_n 3, 1) := by decide +kernel
theorem d4 : decode yB 4 = .ok (.aload_n 0, 1) := by decide +kernel
theorem d5 : decode yB 5 = .ok (.iload_n 1, 1) := by decide +kernel
theorem d6 : decode yB 6 = .ok (.aload_n 3, 1) := by decide +kernel
theorem d7 : decode yB 7 = .ok (.iconst 0, 1) := by decide +kernel
theorem d8 : decode yB 8 = .ok (.iload_n 2, 1) := by decide +kernel
theorem d9 : decode yB 9 = .ok (.invokestatic 115, 3) := by decide +kernel
theorem d12 : decode yB 12 = .ok (.istore 4, 2) := by decide +kernel
theorem d14 : decode yB 14 = .ok (.iload 4, 2) := by decide +kernel
theorem d16 : decode yB 16 = .ok (.iload_n 2, 1) := by decide +kernel
theorem d17 : decode yB 17 = .ok (.if_icmp (.eq) 40, 3) := by decide +kernel
theorem d57 : decode yB 57 = .ok (.aload_n 3, 1) := by decide +kernel
theorem d58 : decode yB 58 = .ok (.areturn, 1) := by decide +kernel
def site : List Cond := [.arrayClass .byte, Cmp5.tab] ++ staticW U16 115 Cmp5.yN
def tab : Cond := tabOf yN yB 6 (some (.array .byte)) site
def P (b : Addr) (A : Cell) (o len : Nat) (args : Array Value) (s : State) : Prop := args = #[.ref b, .int (Int32.ofNat o), .int (Int32.ofNat len)] ∧ Ch b A s ∧ o + len ≤ A.slots.size ∧ len ≤ 536870912 ∧ ∀ i, i < len → ¬ 255 < cv A (o + i)
def E (b : Addr) (A : Cell) (o len : Nat) (r : Option Value) (s u : State) : Prop := NewArr .byte "[B" len (fun j => .int (lo8 (cv A (o + j)))) r s u ∧ u.heap.size = s.heap.size + 1
/-- no char of the range above 255: a new byte[] of their low bytes -/
theorem law (l : Launch) (b : Addr) (A : Cell) (o len : Nat) : Law l yN 3 3 1 18 yB 6 (some (.array .byte)) site (P b A o len) (E b A o len) [] 1 len := by
  refine Law.of_walk (plainFor_of_name (by decide +kernel)) (by decide +kernel) (by decide +kernel) (by decide) (fun _ _ h => by rw [h.1]; rfl) (fun _ U U' hal hh h => ⟨h.1, h.2.1.mv hal hh, h.2.2⟩) (fun r U U' V V' h1 hal h2 h => ⟨NewArr.mv r U U' V V' h1 hal h2 h.1, by rw [h1, h2]; exact h.2⟩) ?_
  intro p e s m args below meth c s₁ X0 hexec hbytes hml hret hlk hnm hown hh0 W hP
  obtain ⟨rfl, hA, l1, l2, hp⟩ := hP
  have a31 := hA.1.2.2.2
  have c1 : Steps p.tables e below (s₁.setTop (entryFrame m #[.ref b, .int (Int32.ofNat o), .int (Int32.ofNat len)] 6)) (s₁.setTop (mkF m 0 #[.val (.ref b), .val (.int (Int32.ofNat o)), .val (.int (Int32.ofNat len)), .unset, .unset, .unset] [])) := entry rfl
  have c2 : Steps p.tables e below (s₁.setTop (entryFrame m #[.ref b, .int (Int32.ofNat o), .int (Int32.ofNat len)] 6)) (s₁.setTop (mkF m 1 #[.val (.ref b), .val (.int (Int32.ofNat o)), .val (.int (Int32.ofNat len)), .unset, .unset, .unset] [.int (Int32.ofNat len)])) := c1.trans (by
    refine XS.iloadN X0.here hexec rfl (hb hbytes d0) rfl ?_
    exact Steps.refl _)
  obtain ⟨T3, B3, X3, ba3, bs3, bv3, bh3, bf3, st3⟩ := X0.anew hexec (atype := .byte) (wk W (.arrayClass .byte)) rfl (by show len * 1 ≤ _; omega) (by omega) (g := (mkF m 1 #[.val (.ref b), .val (.int (Int32.ofNat o)), .val (.int (Int32.ofNat len)), .unset, .unset, .unset] [.int (Int32.ofNat len)])) rfl (hb hbytes d1) (rest := []) rfl (Nat.le_refl _) (by show 0 + len ≤ len; omega)
  rw [hh0] at ba3 st3
  have kp3 : XT.Kept s T3 := (XT.Kept.of_eq hh0).push bh3
  have hA3 := hA.keep X3.warmed.alike (kp3 _ _ hA.1.1)
  have hne : b ≠ s.heap.size := hA.1.ne
  have c4 : Steps p.tables e below (s₁.setTop (entryFrame m #[.ref b, .int (Int32.ofNat o), .int (Int32.ofNat len)] 6)) (T3.setTop (mkF m 3 #[.val (.ref b), .val (.int (Int32.ofNat o)), .val (.int (Int32.ofNat len)), .unset, .unset, .unset] [.ref s.heap.size])) := c2.trans (st3 _ (Steps.refl _))
  have c5 : Steps p.tables e below (s₁.setTop (entryFrame m #[.ref b, .int (Int32.ofNat o), .int (Int32.ofNat len)] 6)) (T3.setTop (mkF m 9 #[.val (.ref b), .val (.int (Int32.ofNat o)), .val (.int (Int32.ofNat len)), .val (.ref s.heap.size), .unset, .unset] [.int (Int32.ofNat len), .int 0, .ref s.heap.size, .int (Int32.ofNat o), .ref b])) := c4.trans (by
    refine XS.astoreN X3.here hexec rfl (hb hbytes d3) rfl rfl rfl ?_
    refine XS.aloadN X3.here hexec rfl (hb hbytes d4) rfl rfl ?_
    refine XS.iloadN X3.here hexec rfl (hb hbytes d5) rfl ?_
    refine XS.aloadN X3.here hexec rfl (hb hbytes d6) rfl rfl ?_
    refine iconstV X3.here hexec rfl 0 (hb hbytes d7) (by decide) ?_
    refine XS.iloadN X3.here hexec rfl (hb hbytes d8) rfl ?_
    exact Steps.refl _)
  obtain ⟨v6, T6, X6, E6, g6⟩ := X3.callS hexec (Cmp5.law l b A s.heap.size B3 o 0 len) hown (wks W (staticW U16 115 Cmp5.yN)) (wk W Cmp5.tab) (W := 0) (Nat.le_of_ble_eq_true rfl) (Nat.le_of_ble_eq_true rfl) (Nat.le_refl _) (by show 0 + len + 0 ≤ len; omega) (g := (mkF m 9 #[.val (.ref b), .val (.int (Int32.ofNat o)), .val (.int (Int32.ofNat len)), .val (.ref s.heap.size), .unset, .unset] [.int (Int32.ofNat len), .int (Int32.ofNat 0), .ref s.heap.size, .int (Int32.ofNat o), .ref b])) rfl (by rw [hml]; rfl) c5 (argsL := [.ref b, .int (Int32.ofNat o), .ref s.heap.size, .int (Int32.ofNat 0), .int (Int32.ofNat len)]) (rest := []) rfl rfl (by show 2 * 0 + 0 ≤ _; decide) (hb hbytes d9) (⟨rfl, hA3, ba3, hne, l1, by rw [bs3]; simp, hp⟩)
  obtain ⟨rfl, B6, p6, f6⟩ := E6
  have c7 : Steps p.tables e below (s₁.setTop (entryFrame m #[.ref b, .int (Int32.ofNat o), .int (Int32.ofNat len)] 6)) (T6.setTop (mkF m 12 #[.val (.ref b), .val (.int (Int32.ofNat o)), .val (.int (Int32.ofNat len)), .val (.ref s.heap.size), .unset, .unset] [.int (Int32.ofNat len)])) := g6
  have c8 : Steps p.tables e below (s₁.setTop (entryFrame m #[.ref b, .int (Int32.ofNat o), .int (Int32.ofNat len)] 6)) (T6.setTop (mkF m 58 #[.val (.ref b), .val (.int (Int32.ofNat o)), .val (.int (Int32.ofNat len)), .val (.ref s.heap.size), .val (.int (Int32.ofNat len)), .unset] [.ref s.heap.size])) := c7.trans (by
    refine XS.istore X6.here hexec rfl (hb hbytes d12) rfl rfl ?_
    refine XS.iload X6.here hexec rfl (hb hbytes d14) rfl ?_
    refine XS.iloadN X6.here hexec rfl (hb hbytes d16) rfl ?_
    refine XS.icmpYes X6.here hexec rfl (pc0 := 17) rfl (hb hbytes d17) rfl (ii_eq_t rfl) (by decide) rfl ?_
    refine XS.aloadN X6.here hexec rfl (hb hbytes d57) rfl rfl ?_
    exact Steps.refl _)
  have X8 := X6.wide (L' := []) (cells' := 1) (slots' := len) (fun x hx hlt => by
    simp only [List.nil_append, copyLocs, List.mem_map, List.mem_range] at hx
    obtain ⟨i, -, rfl⟩ := hx
    exact absurd hlt (Nat.lt_irrefl _)) (Nat.le_refl _) (by omega)
  exact ⟨T6, some (.ref s.heap.size), _, _, _, X8, rfl, rfl, rfl, (fun h => by cases h), ⟨⟨rfl, B6, ba3.like (X3.warmed.alike.symm.trans X6.warmed.alike) p6.1 f6.1 f6.2.1 f6.2.2.1, f6.2.1.trans bv3, by rw [X6.warmed.alike.findClass, f6.1]; exact bf3, by rw [f6.2.2.1, bs3]; simp, fun j hj => by rw [f6.2.2.2 j, if_pos (by omega)]; rfl, kp3.put p6 (Nat.le_refl _)⟩, by rw [p6.2.2, bh3, hh0]; simp⟩, fun fs hl => c8.trans (X8.areturnOut hexec rfl hret rfl (hb hbytes d58) hl)⟩
end Cmp3
namespace CodL
def yN : MethodName := ⟨"java/lang/StringUTF16", "coderFromArrayLen", "([BI)B"⟩
abbrev yB : ByteArray := jdk_52_method_15_code
theorem d0 : decode yB 0 = .ok (.iload_n 1, 1) := by decide +kernel
theorem d1 : decode yB 1 = .ok (.aload_n 0, 1) := by decide +kernel
theorem d2 : decode yB 2 = .ok (.arraylength, 1) := by decide +kernel
theorem d3 : decode yB 3 = .ok (.isub, 1) := by decide +kernel
theorem d4 : decode yB 4 = .ok (.bipush 31, 2) := by decide +kernel
theorem d6 : decode yB 6 = .ok (.iushr, 1) := by decide +kernel
theorem d7 : decode yB 7 = .ok (.i2b, 1) := by decide +kernel
theorem d8 : decode yB 8 = .ok (.ireturn, 1) := by decide +kernel
def site : List Cond := []
def tab : Cond := tabOf yN yB 2 (some .byte) site
def P (d : Addr) (B : Cell) (args : Array Value) (s : State) : Prop := args = #[.ref d, .int (Int32.ofNat B.slots.size)] ∧ Arr .byte d B s
def E (r : Option Value) (s u : State) : Prop := XT.PureE (some (.int 0)) r s u
/-- an array as long as the number of chars: LATIN1 -/
theorem law (l : Launch) (d : Addr) (B : Cell) : Law l yN 2 2 0 0 yB 2 (some .byte) site (P d B) E [] 0 0 := by
  refine Law.of_walk (plainFor_of_name (by decide +kernel)) (by decide +kernel) (by decide +kernel) (by decide) (fun _ _ h => by rw [h.1]; rfl) (fun _ U U' hal hh h => ⟨h.1, h.2.mv hal hh⟩) (fun r U U' V V' h1 hal h2 h => XT.PureE.mv r U U' V V' h1 hal h2 h) ?_
  intro p e s m args below meth c s₁ X0 hexec hbytes hml hret hlk hnm hown hh0 W hP
  obtain ⟨rfl, hB⟩ := hP
  have hB0 := hB.mv X0.warmed.alike hh0
  have c1 : Steps p.tables e below (s₁.setTop (entryFrame m #[.ref d, .int (Int32.ofNat B.slots.size)] 2)) (s₁.setTop (mkF m 0 #[.val (.ref d), .val (.int (Int32.ofNat B.slots.size))] [])) := entry rfl
  have c2 : Steps p.tables e below (s₁.setTop (entryFrame m #[.ref d, .int (Int32.ofNat B.slots.size)] 2)) (s₁.setTop (mkF m 2 #[.val (.ref d), .val (.int (Int32.ofNat B.slots.size))] [.ref d, .int (Int32.ofNat B.slots.size)])) := c1.trans (by
    refine XS.iloadN X0.here hexec rfl (hb hbytes d0) rfl ?_
    refine XS.aloadN X0.here hexec rfl (hb hbytes d1) rfl rfl ?_
    exact Steps.refl _)
  have c3 : Steps p.tables e below (s₁.setTop (entryFrame m #[.ref d, .int (Int32.ofNat B.slots.size)] 2)) (s₁.setTop (mkF m 8 #[.val (.ref d), .val (.int (Int32.ofNat B.slots.size))] [.int (lo8 (ushr (Int32.ofNat B.slots.size - Int32.ofNat B.slots.size) 31))])) := c2.trans (by
    refine X0.alen hexec hB0 rfl rfl (hb hbytes d2) ?_
    refine XS.isub X0.here hexec rfl (hb hbytes d3) rfl ?_
    refine bipushV X0.here hexec rfl 31 (hb hbytes d4) (by decide) ?_
    refine iushr X0.here hexec rfl (hb hbytes d6) rfl ?_
    refine i2b X0.here hexec rfl (hb hbytes d7) rfl ?_
    exact Steps.refl _)
  have e0 : lo8 (ushr (Int32.ofNat B.slots.size - Int32.ofNat B.slots.size) 31) = 0 := by rw [Int32.sub_self]; decide
  rw [e0] at c3
  exact ⟨s₁, some (.int 0), _, _, _, X0, rfl, rfl, rfl, (fun h => by cases h), ⟨rfl, hh0⟩, fun fs hl => c3.trans (X0.ireturnOut hexec hret rfl (Or.inr (Or.inr (Or.inl rfl))) (hb hbytes d8) hl)⟩
end CodL
/-- the String at a is Latin-1 over a new byte[] (the heap's one new cell): the low bytes of the len chars of A from o on; every cell but a is kept -/
def Got (a : Addr) (D : Cell) (fV fC : Field) (A : Cell) (o len : Nat) (r : Option Value) (s u : State) : Prop := r = none ∧ ∃ D' V : Cell, Blank "java/lang/String" a D' u ∧ Same D D' [fV.slot, fC.slot] ∧ D'.slots[fV.slot]? = some (.ref s.heap.size) ∧ D'.slots[fC.slot]? = some (.int 0) ∧ Arr .byte s.heap.size V u ∧ V.vm = .none ∧ u.vm.findClass "[B" = some V.cls ∧ V.slots.size = len ∧ (∀ j, j < len → V.slots[j]? = some (.int (lo8 (cv A (o + j))))) ∧ (∀ (y : Addr) (c : Cell), y ≠ a → s.heap[y]? = some c → u.heap[y]? = some c) ∧ u.heap.size = s.heap.size + 1
theorem Got.mv {a : Addr} {D A : Cell} {fV fC : Field} {o len : Nat} : ∀ r (U U' V V' : State), U'.heap = U.heap → V.vm.Alike V'.vm → V'.heap = V.heap → Got a D fV fC A o len r U V → Got a D fV fC A o len r U' V' :=
  fun r U U' V V' h1 hal h2 ⟨e0, D', X, a1, a2, a3, a4, a5, a6, a7, a8, a9, a10, a11⟩ => ⟨e0, D', X, a1.mv hal h2, a2, by rw [h1]; exact a3, a4, by rw [h1]; exact a5.mv hal h2, a6, by rw [hal.findClass]; exact a7, a8, a9, by rw [h1, h2]; exact a10, by rw [h1, h2]; exact a11⟩
namespace New4
def yN : MethodName := ⟨"java/lang/String", "<init>", "([CIILjava/lang/Void;)V"⟩
abbrev yB : ByteArray := jdk_42_method_149_code
theorem d0 : decode yB 0 = .ok (.aload_n 0, 1) := by decide +kernel
theorem d1 : decode yB 1 = .ok (.invokespecial 1, 3) := by decide +kernel
theorem d4 : decode yB 4 = .ok (.iload_n 3, 1) := by decide +kernel
theorem d5 : decode yB 5 = .ok (.ifCond (.ne) 22, 3) := by decide +kernel
theorem d27 : decode yB 27 = .ok (.getstatic 38, 3) := by decide +kernel
theorem d30 : decode yB 30 = .ok (.ifCond (.eq) 28, 3) := by decide +kernel
theorem d33 : decode yB 33 = .ok (.aload_n 1, 1) := by decide +kernel
theorem d34 : decode yB 34 = .ok (.iload_n 2, 1) := by decide +kernel
theorem d35 : decode yB 35 = .ok (.iload_n 3, 1) := by decide +kernel
theorem d36 : decode yB 36 = .ok (.invokestatic 177, 3) := by decide +kernel
theorem d39 : decode yB 39 = .ok (.astore 5, 2) := by decide +kernel
theorem d41 : decode yB 41 = .ok (.aload_n 0, 1) := by decide +kernel
theorem d42 : decode yB 42 = .ok (.aload 5, 2) := by decide +kernel
theorem d44 : decode yB 44 = .ok (.iload_n 3, 1) := by decide +kernel
theorem d45 : decode yB 45 = .ok (.invokestatic 47, 3) := by decide +kernel
theorem d48 : decode yB 48 = .ok (.putfield 15, 3) := by decide +kernel
theorem d51 : decode yB 51 = .ok (.aload_n 0, 1) := by decide +kernel
theorem d52 : decode yB 52 = .ok (.aload 5, 2) := by decide +kernel
theorem d54 : decode yB 54 = .ok (.putfield 9, 3) := by decide +kernel
theorem d57 : decode yB 57 = .ok (.return_, 1) := by decide +kernel
def site : List Cond := [.fieldLink "java/lang/String" 38 "java/lang/String" "COMPACT_STRINGS" "Z", Cmp3.tab, CodL.tab, .laysFinal "java/lang/String" "java/lang/String" "value" "[B", .fieldLink "java/lang/String" 9 "java/lang/String" "value" "[B", .laysFinal "java/lang/String" "java/lang/String" "coder" "B", .fieldLink "java/lang/String" 15 "java/lang/String" "coder" "B"] ++ objW "java/lang/String" 1 ++ staticW "java/lang/String" 177 Cmp3.yN ++ staticW "java/lang/String" 47 CodL.yN
def tab : Cond := tabOf yN yB 6 none site
def P (a : Addr) (D : Cell) (fV fC : Field) (b : Addr) (A : Cell) (z : Int32) (o len : Nat) (args : Array Value) (s : State) : Prop := args = #[.ref a, .ref b, .int (Int32.ofNat o), .int (Int32.ofNat len), .null] ∧ Blank "java/lang/String" a D s ∧ Found "java/lang/String" "value" "[B" fV s ∧ Found "java/lang/String" "coder" "B" fC s ∧ Ch b A s ∧ StaticIs s "java/lang/String" "COMPACT_STRINGS" "Z" (.int z) ∧ ¬ z = 0 ∧ 0 < len ∧ o + len ≤ A.slots.size ∧ len ≤ 536870912 ∧ ∀ i, i < len → ¬ 255 < cv A (o + i)
def E (a : Addr) (D : Cell) (fV fC : Field) (A : Cell) (o len : Nat) (r : Option Value) (s u : State) : Prop := Got a D fV fC A o len r s u
/-- len > 0, no char of the range above 255: a Latin-1 String of their low bytes -/
theorem law (l : Launch) (a : Addr) (D : Cell) (fV fC : Field) (b : Addr) (A : Cell) (z : Int32) (o len : Nat) : Law l yN 5 4 2 35 yB 6 none site (P a D fV fC b A z o len) (E a D fV fC A o len) [⟨a, fC.slot⟩, ⟨a, fV.slot⟩] 1 len := by
  refine Law.of_walk (plainFor_of_name (by decide +kernel)) (by decide +kernel) (by decide +kernel) (by decide) (fun _ _ h => by rw [h.1]; rfl) (fun _ U U' hal hh h => ⟨h.1, h.2.1.mv hal hh, h.2.2.1.al hal, h.2.2.2.1.al hal, h.2.2.2.2.1.mv hal hh, h.2.2.2.2.2.1.there hal hh, h.2.2.2.2.2.2⟩) (fun r U U' V V' h1 hal h2 h => Got.mv r U U' V V' h1 hal h2 h) ?_
  intro p e s m args below meth c s₁ X0 hexec hbytes hml hret hlk hnm hown hh0 W hP
  obtain ⟨rfl, hB, f1, f2, hA, s1, hz, l0, l1, l2, hp⟩ := hP
  have a31 := hA.1.2.2.2
  have c1 : Steps p.tables e below (s₁.setTop (entryFrame m #[.ref a, .ref b, .int (Int32.ofNat o), .int (Int32.ofNat len), .null] 6)) (s₁.setTop (mkF m 0 #[.val (.ref a), .val (.ref b), .val (.int (Int32.ofNat o)), .val (.int (Int32.ofNat len)), .val .null, .unset] [])) := entry rfl
  have c2 : Steps p.tables e below (s₁.setTop (entryFrame m #[.ref a, .ref b, .int (Int32.ofNat o), .int (Int32.ofNat len), .null] 6)) (s₁.setTop (mkF m 1 #[.val (.ref a), .val (.ref b), .val (.int (Int32.ofNat o)), .val (.int (Int32.ofNat len)), .val .null, .unset] [.ref a])) := c1.trans (by
    refine XS.aloadN X0.here hexec rfl (hb hbytes d0) rfl rfl ?_
    exact Steps.refl _)
  obtain ⟨T3, X3, q3, st3⟩ := X0.oinit hexec hown (wks W (objW "java/lang/String" 1)) (g := (mkF m 1 #[.val (.ref a), .val (.ref b), .val (.int (Int32.ofNat o)), .val (.int (Int32.ofNat len)), .val .null, .unset] [.ref a])) rfl (by rw [hml]; rfl) (rest := []) rfl (hb hbytes d1) (W := 0) (by show 2 * 0 + 0 ≤ _; decide) (Nat.le_of_ble_eq_true rfl) (Nat.le_of_ble_eq_true rfl)
  have hh3 := q3.trans hh0
  have c4 : Steps p.tables e below (s₁.setTop (entryFrame m #[.ref a, .ref b, .int (Int32.ofNat o), .int (Int32.ofNat len), .null] 6)) (T3.setTop (mkF m 27 #[.val (.ref a), .val (.ref b), .val (.int (Int32.ofNat o)), .val (.int (Int32.ofNat len)), .val .null, .unset] [])) := (c2.trans (st3 _ (Steps.refl _))).trans (by
    refine XS.iloadN X3.here hexec rfl (hb hbytes d4) rfl ?_
    refine XS.ifYes X3.here hexec rfl (pc0 := 5) rfl (hb hbytes d5) rfl (i0_ne_t (nz32 (by omega) l0)) (by decide) rfl ?_
    exact Steps.refl _)
  obtain ⟨T5, X5, q5, st5⟩ := X3.sget hexec hown (wk W (.fieldLink "java/lang/String" 38 "java/lang/String" "COMPACT_STRINGS" "Z")) s1 (fun _ _ h => by rw [hh3]; exact h) (g := (mkF m 27 #[.val (.ref a), .val (.ref b), .val (.int (Int32.ofNat o)), .val (.int (Int32.ofNat len)), .val .null, .unset] [])) rfl (hb hbytes d27)
  have hh5 := q5.trans hh3
  have c6 : Steps p.tables e below (s₁.setTop (entryFrame m #[.ref a, .ref b, .int (Int32.ofNat o), .int (Int32.ofNat len), .null] 6)) (T5.setTop (mkF m 30 #[.val (.ref a), .val (.ref b), .val (.int (Int32.ofNat o)), .val (.int (Int32.ofNat len)), .val .null, .unset] [.int z])) := c4.trans (st5 _ (Steps.refl _))
  have c7 : Steps p.tables e below (s₁.setTop (entryFrame m #[.ref a, .ref b, .int (Int32.ofNat o), .int (Int32.ofNat len), .null] 6)) (T5.setTop (mkF m 36 #[.val (.ref a), .val (.ref b), .val (.int (Int32.ofNat o)), .val (.int (Int32.ofNat len)), .val .null, .unset] [.int (Int32.ofNat len), .int (Int32.ofNat o), .ref b])) := c6.trans (by
    refine XS.ifNo X5.here hexec rfl (hb hbytes d30) rfl (i0_eq_f hz) ?_
    refine XS.aloadN X5.here hexec rfl (hb hbytes d33) rfl rfl ?_
    refine XS.iloadN X5.here hexec rfl (hb hbytes d34) rfl ?_
    refine XS.iloadN X5.here hexec rfl (hb hbytes d35) rfl ?_
    exact Steps.refl _)
  obtain ⟨v8, T8, X8, E8, g8⟩ := X5.callS hexec (Cmp3.law l b A o len) hown (wks W (staticW "java/lang/String" 177 Cmp3.yN)) (wk W Cmp3.tab) (W := 0) (Nat.le_of_ble_eq_true rfl) (Nat.le_of_ble_eq_true rfl) (Nat.le_refl _) (by show 0 + len ≤ len; omega) (g := (mkF m 36 #[.val (.ref a), .val (.ref b), .val (.int (Int32.ofNat o)), .val (.int (Int32.ofNat len)), .val .null, .unset] [.int (Int32.ofNat len), .int (Int32.ofNat o), .ref b])) rfl (by rw [hml]; rfl) c7 (argsL := [.ref b, .int (Int32.ofNat o), .int (Int32.ofNat len)]) (rest := []) rfl rfl (by show 2 * 0 + 0 ≤ _; decide) (hb hbytes d36) (⟨rfl, hA.mv X5.warmed.alike hh5, l1, l2, hp⟩)
  obtain ⟨e8, z8⟩ := E8
  obtain ⟨rfl, N, n1, n2, n3, n4, n5, n6⟩ := NewArr.mv _ T5 s _ _ hh5.symm (Vm.Alike.refl _) rfl e8
  rw [hh5] at z8
  have hB1 := hB.keep X8.warmed.alike (n6 _ _ hB.1)
  have hne : s.heap.size ≠ a := (Nat.ne_of_lt (Array.getElem?_eq_some_iff.mp hB.1).1).symm
  have c9 : Steps p.tables e below (s₁.setTop (entryFrame m #[.ref a, .ref b, .int (Int32.ofNat o), .int (Int32.ofNat len), .null] 6)) (T8.setTop (mkF m 39 #[.val (.ref a), .val (.ref b), .val (.int (Int32.ofNat o)), .val (.int (Int32.ofNat len)), .val .null, .unset] [.ref s.heap.size])) := g8
  have c10 : Steps p.tables e below (s₁.setTop (entryFrame m #[.ref a, .ref b, .int (Int32.ofNat o), .int (Int32.ofNat len), .null] 6)) (T8.setTop (mkF m 45 #[.val (.ref a), .val (.ref b), .val (.int (Int32.ofNat o)), .val (.int (Int32.ofNat len)), .val .null, .val (.ref s.heap.size)] [.int (Int32.ofNat N.slots.size), .ref s.heap.size, .ref a])) := by
    have hc : Steps p.tables e below (s₁.setTop (entryFrame m #[.ref a, .ref b, .int (Int32.ofNat o), .int (Int32.ofNat len), .null] 6)) (T8.setTop (mkF m 45 #[.val (.ref a), .val (.ref b), .val (.int (Int32.ofNat o)), .val (.int (Int32.ofNat len)), .val .null, .val (.ref s.heap.size)] [.int (Int32.ofNat len), .ref s.heap.size, .ref a])) := c9.trans (by
      refine XS.astore X8.here hexec rfl (hb hbytes d39) rfl rfl rfl ?_
      refine XS.aloadN X8.here hexec rfl (hb hbytes d41) rfl rfl ?_
      refine XS.aload X8.here hexec rfl (hb hbytes d42) rfl rfl ?_
      refine XS.iloadN X8.here hexec rfl (hb hbytes d44) rfl ?_
      exact Steps.refl _)
    rw [n4]; exact hc
  obtain ⟨v11, T11, X11, E11, g11⟩ := X8.callS hexec (CodL.law l s.heap.size N) hown (wks W (staticW "java/lang/String" 47 CodL.yN)) (wk W CodL.tab) (W := 1) (Nat.le_of_ble_eq_true rfl) (Nat.le_of_ble_eq_true rfl) (Nat.le_refl _) (by show 0 + len + 0 ≤ len; omega) (g := (mkF m 45 #[.val (.ref a), .val (.ref b), .val (.int (Int32.ofNat o)), .val (.int (Int32.ofNat len)), .val .null, .val (.ref s.heap.size)] [.int (Int32.ofNat N.slots.size), .ref s.heap.size, .ref a])) rfl (by rw [hml]; rfl) c10 (argsL := [.ref s.heap.size, .int (Int32.ofNat N.slots.size)]) (rest := [.ref a]) rfl rfl (by show 2 * 0 + (1 + 0) ≤ _; decide) (hb hbytes d45) (⟨rfl, n1⟩)
  obtain ⟨rfl, q11⟩ := E11
  have hB11 := hB1.mv (X8.warmed.alike.symm.trans X11.warmed.alike) q11
  have c12 : Steps p.tables e below (s₁.setTop (entryFrame m #[.ref a, .ref b, .int (Int32.ofNat o), .int (Int32.ofNat len), .null] 6)) (T11.setTop (mkF m 48 #[.val (.ref a), .val (.ref b), .val (.int (Int32.ofNat o)), .val (.int (Int32.ofNat len)), .val .null, .val (.ref s.heap.size)] [.int 0, .ref a])) := g11
  obtain ⟨T13, X13, p13, bl13, sl13, st13⟩ := X11.finit hexec hown (wk W (.fieldLink "java/lang/String" 15 "java/lang/String" "coder" "B")) (Or.inr ⟨_, (wk W (.laysFinal "java/lang/String" "java/lang/String" "coder" "B"))⟩) (Or.inl ⟨rfl, hnm⟩) f2 (Or.inl rfl) hB11 (t := .byte) (by decide +kernel) rfl (g := (mkF m 48 #[.val (.ref a), .val (.ref b), .val (.int (Int32.ofNat o)), .val (.int (Int32.ofNat len)), .val .null, .val (.ref s.heap.size)] [.int 0, .ref a])) rfl (rest := []) rfl (hb hbytes d48)
  have c14 : Steps p.tables e below (s₁.setTop (entryFrame m #[.ref a, .ref b, .int (Int32.ofNat o), .int (Int32.ofNat len), .null] 6)) (T13.setTop (mkF m 54 #[.val (.ref a), .val (.ref b), .val (.int (Int32.ofNat o)), .val (.int (Int32.ofNat len)), .val .null, .val (.ref s.heap.size)] [.ref s.heap.size, .ref a])) := (c12.trans (st13 _ (Steps.refl _))).trans (by
    refine XS.aloadN X13.here hexec rfl (hb hbytes d51) rfl rfl ?_
    refine XS.aload X13.here hexec rfl (hb hbytes d52) rfl rfl ?_
    exact Steps.refl _)
  obtain ⟨T15, X15, p15, bl15, sl15, st15⟩ := X13.finit hexec hown (wk W (.fieldLink "java/lang/String" 9 "java/lang/String" "value" "[B")) (Or.inr ⟨_, (wk W (.laysFinal "java/lang/String" "java/lang/String" "value" "[B"))⟩) (Or.inl ⟨rfl, hnm⟩) f1 (Or.inl rfl) bl13 (t := (.array .byte)) (by decide +kernel) rfl (g := (mkF m 54 #[.val (.ref a), .val (.ref b), .val (.int (Int32.ofNat o)), .val (.int (Int32.ofNat len)), .val .null, .val (.ref s.heap.size)] [.ref s.heap.size, .ref a])) rfl (rest := []) rfl (hb hbytes d54)
  have c16 : Steps p.tables e below (s₁.setTop (entryFrame m #[.ref a, .ref b, .int (Int32.ofNat o), .int (Int32.ofNat len), .null] 6)) (T15.setTop (mkF m 57 #[.val (.ref a), .val (.ref b), .val (.int (Int32.ofNat o)), .val (.int (Int32.ofNat len)), .val .null, .val (.ref s.heap.size)] [])) := c14.trans (st15 _ (Steps.refl _))
  have ap := apart (Or.inr ⟨_, (wk W (.laysFinal "java/lang/String" "java/lang/String" "value" "[B"))⟩) (Or.inr ⟨_, (wk W (.laysFinal "java/lang/String" "java/lang/String" "coder" "B"))⟩) f1 f2 (t₁ := .array .byte) (t₂ := .byte) (by decide +kernel) (by decide +kernel) (by decide)
  have al := X8.warmed.alike.symm.trans X15.warmed.alike
  have n7 : T11.heap[s.heap.size]? = some N := by rw [q11]; exact n1.1
  exact ⟨T15, none, _, _, _, X15, by simp, rfl, by omega, (fun _ => rfl), ⟨rfl, _, N, bl15, ((Same.refl D _).set _ (by simp)).set _ (by simp), sl15, (Cell.slots_setSlot_ne _ ap).trans sl13, n1.keep al (p15.other hne (p13.other hne n7)), n2, by rw [al.findClass]; exact n3, n4, n5, fun y c h1 h2 => p15.other h1 (p13.other h1 (by rw [q11]; exact n6 y c h2)), by rw [p15.2.2, p13.2.2, q11]; exact z8⟩, fun fs hl => c16.trans (X15.returnOut hexec hret (hb hbytes d57) hl)⟩
end New4
namespace New1
def yN : MethodName := ⟨"java/lang/String", "<init>", "([C)V"⟩
abbrev yB : ByteArray := jdk_42_method_3_code
theorem d0 : decode yB 0 = .ok (.aload_n 0, 1) := by decide +kernel
theorem d1 : decode yB 1 = .ok (.aload_n 1, 1) := by decide +kernel
theorem d2 : decode yB 2 = .ok (.iconst 0, 1) := by decide +kernel
theorem d3 : decode yB 3 = .ok (.aload_n 1, 1) := by decide +kernel
theorem d4 : decode yB 4 = .ok (.arraylength, 1) := by decide +kernel
theorem d5 : decode yB 5 = .ok (.aconst_null, 1) := by decide +kernel
theorem d6 : decode yB 6 = .ok (.invokespecial 27, 3) := by decide +kernel
theorem d9 : decode yB 9 = .ok (.return_, 1) := by decide +kernel
def site : List Cond := [New4.tab] ++ initW "java/lang/String" 27 New4.yN
def tab : Cond := tabOf yN yB 2 none site
def P (a : Addr) (D : Cell) (fV fC : Field) (b : Addr) (A : Cell) (z : Int32) (args : Array Value) (s : State) : Prop := args = #[.ref a, .ref b] ∧ Blank "java/lang/String" a D s ∧ Found "java/lang/String" "value" "[B" fV s ∧ Found "java/lang/String" "coder" "B" fC s ∧ Ch b A s ∧ StaticIs s "java/lang/String" "COMPACT_STRINGS" "Z" (.int z) ∧ ¬ z = 0 ∧ 0 < A.slots.size ∧ A.slots.size ≤ 536870912 ∧ ∀ i, i < A.slots.size → ¬ 255 < cv A i
def E (a : Addr) (D : Cell) (fV fC : Field) (A : Cell) (r : Option Value) (s u : State) : Prop := Got a D fV fC A 0 A.slots.size r s u
/-- new String(chars), not empty, no char above 255: a Latin-1 String of their low bytes -/
theorem law (l : Launch) (a : Addr) (D : Cell) (fV fC : Field) (b : Addr) (A : Cell) (z : Int32) : Law l yN 2 1 3 52 yB 2 none site (P a D fV fC b A z) (E a D fV fC A) [⟨a, fC.slot⟩, ⟨a, fV.slot⟩] 1 A.slots.size := by
  refine Law.of_walk (plainFor_of_name (by decide +kernel)) (by decide +kernel) (by decide +kernel) (by decide) (fun _ _ h => by rw [h.1]; rfl) (fun _ U U' hal hh h => ⟨h.1, h.2.1.mv hal hh, h.2.2.1.al hal, h.2.2.2.1.al hal, h.2.2.2.2.1.mv hal hh, h.2.2.2.2.2.1.there hal hh, h.2.2.2.2.2.2⟩) (fun r U U' V V' h1 hal h2 h => Got.mv r U U' V V' h1 hal h2 h) ?_
  intro p e s m args below meth c s₁ X0 hexec hbytes hml hret hlk hnm hown hh0 W hP
  obtain ⟨rfl, hB, f1, f2, hA, s1, hz, l0, l2, hp⟩ := hP
  have c1 : Steps p.tables e below (s₁.setTop (entryFrame m #[.ref a, .ref b] 2)) (s₁.setTop (mkF m 0 #[.val (.ref a), .val (.ref b)] [])) := entry rfl
  have c2 : Steps p.tables e below (s₁.setTop (entryFrame m #[.ref a, .ref b] 2)) (s₁.setTop (mkF m 6 #[.val (.ref a), .val (.ref b)] [.null, .int (Int32.ofNat A.slots.size), .int 0, .ref b, .ref a])) := c1.trans (by
    refine XS.aloadN X0.here hexec rfl (hb hbytes d0) rfl rfl ?_
    refine XS.aloadN X0.here hexec rfl (hb hbytes d1) rfl rfl ?_
    refine iconstV X0.here hexec rfl 0 (hb hbytes d2) (by decide) ?_
    refine XS.aloadN X0.here hexec rfl (hb hbytes d3) rfl rfl ?_
    refine X0.alen hexec (hA.1.mv X0.warmed.alike hh0) rfl rfl (hb hbytes d4) ?_
    refine XS.aconstNull X0.here hexec rfl (hb hbytes d5) ?_
    exact Steps.refl _)
  obtain ⟨v3, T3, X3, E3, g3⟩ := X0.callN hexec (New4.law l a D fV fC b A z 0 A.slots.size) rfl hown (wks W (initW "java/lang/String" 27 New4.yN)) (W New4.tab (by simp only [site, List.mem_cons, List.mem_append, true_or, or_true])) (W := 0) (Nat.le_of_ble_eq_true rfl) (Nat.le_of_ble_eq_true rfl) (Nat.le_refl _) (by show 0 + A.slots.size ≤ A.slots.size; omega) (g := (mkF m 6 #[.val (.ref a), .val (.ref b)] [.null, .int (Int32.ofNat A.slots.size), .int (Int32.ofNat 0), .ref b, .ref a])) rfl (by rw [hml]; rfl) c2 (argsL := [.ref b, .int (Int32.ofNat 0), .int (Int32.ofNat A.slots.size), .null]) (rest := []) rfl rfl (by show 2 * 0 + 0 ≤ _; decide) (hb hbytes d6) (⟨rfl, hB.mv X0.warmed.alike hh0, f1.al X0.warmed.alike, f2.al X0.warmed.alike, hA.mv X0.warmed.alike hh0, s1.there X0.warmed.alike hh0, hz, l0, by omega, l2, fun i hi => by rw [Nat.zero_add]; exact hp i hi⟩)
  have e0 := Got.mv _ s₁ s _ _ hh0.symm (Vm.Alike.refl _) rfl E3
  obtain rfl := e0.1
  have c4 : Steps p.tables e below (s₁.setTop (entryFrame m #[.ref a, .ref b] 2)) (T3.setTop (mkF m 9 #[.val (.ref a), .val (.ref b)] [])) := g3
  exact ⟨T3, none, _, _, _, X3, by simp, rfl, by omega, (fun _ => rfl), e0, fun fs hl => c4.trans (X3.returnOut hexec hret (hb hbytes d9) hl)⟩
theorem pays {l : Launch} {R : Room} {p : Program} {e : Env} {below : List Frame} {s : State} {sargs : Array Value} {len W : Nat} (a : Addr) (D : Cell) (fV fC : Field) (b : Addr) (A : Cell) (z : Int32) (htab : tab.before sargs s = true) (hfr : 4 ≤ R.frames) (hlo : W + 65 ≤ R.locals) :
    Back l R p e below s sargs yN len W (fun A₁ a₁ => A₁.cells + 1 ≤ R.cells ∧ A₁.slots + A.slots.size ≤ R.slots ∧ P a D fV fC b A z a₁ A₁.U) (fun A₁ _ v₁ B₁ => E a D fV fC A v₁ A₁.U B₁.U ∧ B₁.locs = A₁.locs ++ [⟨a, fC.slot⟩, ⟨a, fV.slot⟩] ∧ B₁.cells = A₁.cells + 1 ∧ B₁.slots = A₁.slots + A.slots.size) :=
  (law l a D fV fC b A z).pays htab hfr (by omega)
end New1
/-- the byte, read back as charAt reads it, is the char -/
theorem lo8_mask {x : Int32} (h0 : ¬ x < 0) (h1 : ¬ 255 < x) : lo8 x &&& 255 = x := by
  have t : ∀ k : Fin 256, lo8 (Int32.ofNat k.val) &&& 255 = Int32.ofNat k.val := by decide +kernel
  rw [Int32.lt_iff_toInt_lt] at h0 h1
  have e0 : (0 : Int32).toInt = 0 := rfl
  have e1 : (255 : Int32).toInt = 255 := rfl
  obtain ⟨k, hk⟩ : ∃ k : Nat, x.toInt = k := ⟨x.toInt.toNat, by omega⟩
  have hx : x = Int32.ofNat k := Int32.toInt_inj.mp (by rw [hk, Int32.toInt_ofNat_small (by omega)])
  rw [hx]
  exact t ⟨k, by omega⟩
end StrChars
namespace StrChars.Road
open Jvm Sem ClassFile Op Lib Jvm.Stand Jvm.Free Jvm.Free.XT
open Jvm.Lib.Cold (StaticIs)
abbrev ST : String := "java/lang/String"
/-- every table word that New1's law asks, flat -/
abbrev words : List Jvm.Cond := [.code New1.yN New1.yB 2 none, .initialized ST, .methodLink ST 27 New4.yN, .instanceMethod New4.yN,
  .code New4.yN New4.yB 6 none, .fieldLink ST 38 ST "COMPACT_STRINGS" "Z", .laysFinal ST ST "value" "[B", .fieldLink ST 9 ST "value" "[B", .laysFinal ST ST "coder" "B", .fieldLink ST 15 ST "coder" "B",
  .methodLink ST 1 Lib.objectInit, .instanceMethod Lib.objectInit, .code Lib.objectInit ⟨#[0xb1]⟩ 1 none, .methodLink ST 177 Cmp3.yN, .static Cmp3.yN, .methodLink ST 47 CodL.yN, .static CodL.yN,
  .code Cmp3.yN Cmp3.yB 6 (some (.array .byte)), .initialized U16, .arrayClass .byte, .methodLink U16 115 Cmp5.yN, .static Cmp5.yN, .code Cmp5.yN Cmp5.yB 7 (some .int), .code CodL.yN CodL.yB 2 (some .byte)]
theorem tab_of {a : Array Value} {s : State} (h : ∀ w ∈ words, w.before a s = true) : New1.tab.before a s = true := by
  have h5 : Cmp5.tab.before a s = true := unparts (wk h (.code Cmp5.yN Cmp5.yB 7 (some .int))) (wks h (.initialized Cmp5.yN.cls :: Cmp5.site))
  have hc : CodL.tab.before a s = true := unparts (wk h (.code CodL.yN CodL.yB 2 (some .byte))) (wks h (.initialized CodL.yN.cls :: CodL.site))
  have q5 : ∀ w ∈ Cmp5.tab :: words, w.before a s = true := fun w hw => (List.mem_cons.mp hw).elim (fun e => e ▸ h5) (h w)
  have h3 : Cmp3.tab.before a s = true := unparts (wk q5 (.code Cmp3.yN Cmp3.yB 6 (some (.array .byte)))) (wks q5 (.initialized Cmp3.yN.cls :: Cmp3.site))
  have q3 : ∀ w ∈ Cmp3.tab :: CodL.tab :: words, w.before a s = true := fun w hw => (List.mem_cons.mp hw).elim (fun e => e ▸ h3) fun hw => (List.mem_cons.mp hw).elim (fun e => e ▸ hc) (h w)
  have h4 : New4.tab.before a s = true := unparts (wk q3 (.code New4.yN New4.yB 6 none)) (wks q3 (.initialized New4.yN.cls :: New4.site))
  have q4 : ∀ w ∈ New4.tab :: words, w.before a s = true := fun w hw => (List.mem_cons.mp hw).elim (fun e => e ▸ h4) (h w)
  exact unparts (wk q4 (.code New1.yN New1.yB 2 none)) (wks q4 (.initialized New1.yN.cls :: New1.site))
/-- the words ride from the start Z to the walk's own state -/
theorem moved {Z s : State} {a0 args : Array Value} (hZ : Z.Warmed39 s.vm) (hw : ∀ d ∈ words, d.before a0 Z = true) : ∀ d ∈ words, d.before args s = true := fun d hd => by
  have q := hw d hd
  have t : ∀ d ∈ words, d = .arrayClass .byte ∨ (d.onTables && d.keepsFace) = true := by decide +kernel
  rcases t d hd with rfl | t
  · exact RoadKit.mvA hZ q
  · exact RoadKit.mv hZ q t
/-- WHAT COMES BACK, over the tables of the start Z: h the heap at the call, h' behind it -/
def Q (Z : State) (x : Addr) (A : Cell) (h : Heap) (v : Option Value) (h' : Heap) (L : List Loc) : Prop := v = none ∧ (∀ y ∈ L, y.base = x) ∧ RoadKit.Keep h h' [x] ∧ h'.size = h.size + 1 ∧ RoadKit.Exa Z h' x ST ∧ RoadKit.Fld Z h' x ST "value" "[B" (.ref h.size) ∧ RoadKit.Fld Z h' x ST "coder" "B" (.int 0) ∧
  (∃ V : Cell, RoadKit.Arr Z h' h.size V .byte ∧ V.vm = .none ∧ Z.vm.findClass "[B" = some V.cls ∧ V.slots.size = A.slots.size ∧ ∀ j, j < A.slots.size → V.slots[j]? = some (.int (lo8 (cv A j)))) ∧
  ∀ (O n d : String) (w : Value), RoadKit.Fld Z h x O n d w → RoadKit.slotOf Z O n d ≠ RoadKit.slotOf Z ST "value" "[B" → RoadKit.slotOf Z O n d ≠ RoadKit.slotOf Z ST "coder" "B" → RoadKit.Fld Z h' x O n d w
/-- **new String(chars) AT A CALL, IN THE ROAD'S FORM**: for specialBack behind newO: x the fresh String, b the char[] with the cell A -/
theorem back {p : Program} {l : Launch} {e : Env} {R : Room} {s : State} {args : Array Value} {below : List Frame} {len W : Nat} {Z : State} {a0 : Array Value} {h : Heap} (hZ : Z.Warmed39 s.vm) (hw : ∀ d ∈ words, d.before a0 Z = true) {kI : Nat} (wi : (Jvm.Cond.instantiable ST kI).before a0 Z = true)
    {x b : Addr} {A : Cell} {z : Int32} {v0 c0 : Value} (E : RoadKit.Exa Z h x ST) (V : RoadKit.Fld Z h x ST "value" "[B" v0) (C : RoadKit.Fld Z h x ST "coder" "B" c0) (K : RoadKit.Arr Z h b A .char) (hty : Typed .char A) (S : RoadKit.Sta Z h ST "COMPACT_STRINGS" "Z" (.int z)) (hz : ¬ z = 0)
    (l0 : 0 < A.slots.size) (l2 : A.slots.size ≤ 536870912) (hp : ∀ i, i < A.slots.size → ¬ 255 < cv A i) (hfr : 4 ≤ R.frames) (hlo : W + 65 ≤ R.locals) :
    Back l R p e below s args New1.yN len W (fun P a => a = #[.ref x, .ref b] ∧ P.U.heap = h ∧ P.cells + 1 ≤ R.cells ∧ P.slots + A.slots.size ≤ R.slots)
      (fun P _ v B => ∃ L, Q Z x A h v B.U.heap L ∧ B.locs = P.locs ++ L ∧ B.cells = P.cells + 1 ∧ B.slots = P.slots + A.slots.size) := by
  intro m meth c P g ig mk a X hg hsize hdg hW hn hp'
  obtain ⟨rfl, rfl, r1, r2⟩ := hp'
  have al : Z.vm.Alike P.U.vm := hZ.alike.trans X.warmed.alike
  obtain ⟨D, cfV, kV, iV, fV, hD, gV, stV, knV, obV, asV, slV⟩ := id V
  obtain ⟨D', cfC, kC, iC, fC, hD', gC, stC, -, -, asC, slC⟩ := id C
  cases hD.symm.trans hD'
  obtain ⟨D2, kD, e1, e2, e3, e4, e5⟩ := id E
  cases hD.symm.trans e1
  obtain ⟨c2, k2, i1, i2, i3, -⟩ := Cond.instantiable_spec wi
  cases e2.symm.trans i1
  cases e3.symm.trans i2
  obtain ⟨kU, u1, u2⟩ := al.2.2 _ _ e3
  have hB : Blank ST x D P.U := ⟨hD, ⟨knV, fun q hq => by rw [hq] at obV; cases obV⟩, by rw [al.findClass]; exact e2, kU, u1, by rw [u2]; exact i3, by rw [u2]; exact e5 i3⟩
  have F1 : Found ST "value" "[B" fV P.U := ⟨SBG.found_only al ⟨cfV, kV, iV, gV⟩, stV⟩
  have F2 : Found ST "coder" "B" fC P.U := ⟨SBG.found_only al ⟨cfC, kC, iC, gC⟩, stC⟩
  have hA : Ch b A P.U := ⟨⟨K.1, State.isArrayOf_alike al K.2.1, K.2.2, by omega⟩, hty⟩
  have hS : StaticIs P.U ST "COMPACT_STRINGS" "Z" (.int z) := by
    obtain ⟨cfS, iS, kS, fS, st, cS, t1, t2, t3, t4, t5, t6, t7⟩ := S
    exact StaticIs.there (s := { Z with heap := P.U.heap }) ⟨cfS, iS, kS, fS, st, cS, t1, t2, t3, t4, t5, (fun q => by rw [q] at t6; cases t6), t7⟩ al rfl
  obtain ⟨v, B, X', ⟨⟨hv, E', V', q1, q2, q3, q4, q5, q6, q7, q8, q9, q10, q11⟩, hl, hc, hs⟩, st⟩ := New1.pays x D fV fC b A z (tab_of (moved hZ hw)) hfr hlo m meth c P g ig mk _ X hg hsize hdg hW hn ⟨r1, r2, rfl, hB, F1, F2, hA, hS, hz, l0, l2, hp⟩
  have al' : Z.vm.Alike B.U.vm := hZ.alike.trans X'.warmed.alike
  have hsz : E'.slots.size = D.slots.size := by
    obtain ⟨-, -, -, kB, w1, w2, w3⟩ := q1
    obtain ⟨kB', y1, y2⟩ := al'.2.2 _ _ e3
    rw [q2.2.1] at w1
    cases w1.symm.trans y1
    rw [w3, e5 i3, y2]
  refine ⟨v, B, X', ⟨_, ⟨hv, ?_, ⟨by omega, fun y cy hy hn' => q10 y cy (by simpa using hn') hy, fun y cy hy => ?_⟩, q11, ⟨E', _, q1.1, by rw [q2.2.1]; exact e2, by rw [q2.2.1]; exact e3, by rw [q2.1]; exact obV, fun _ => by rw [hsz]; exact e5 i3⟩,
    ⟨E', cfV, kV, iV, fV, q1.1, gV, stV, by rw [q2.1]; exact knV, by rw [q2.1]; exact obV, by rw [q2.2.1]; exact asV, q3⟩, ⟨E', cfC, kC, iC, fC, q1.1, gC, stC, by rw [q2.1]; exact knV, by rw [q2.1]; exact obV, by rw [q2.2.1]; exact asC, q4⟩,
    ⟨V', ⟨q5.1, State.isArrayOf_alike al'.symm q5.2.1, q5.2.2.1⟩, q6, by rw [← al'.findClass]; exact q7, q8, fun j hj => by have := q9 j hj; rwa [Nat.zero_add] at this⟩, fun O n d w F n1 n2 => ?_⟩, hl, hc, hs⟩, st⟩
  · intro y hy
    simp only [List.mem_cons, List.not_mem_nil, or_false] at hy
    rcases hy with rfl | rfl <;> rfl
  · by_cases q : y = x
    · subst q
      cases hD.symm.trans hy
      exact ⟨E', q1.1, q2.2.1, q2.1, hsz⟩
    · exact ⟨cy, q10 y cy q hy, rfl, rfl, rfl⟩
  · obtain ⟨D3, cf, k, i, f, g1, g2, g3, g4, g5, g6, g7⟩ := F
    cases hD.symm.trans g1
    simp only [RoadKit.slotOf, g2, gV, gC, Option.map_some, Option.getD_some] at n1 n2
    exact ⟨E', cf, k, i, f, q1.1, g2, g3, by rw [q2.1]; exact g4, by rw [q2.1]; exact g5, by rw [q2.2.1]; exact g6, by rw [q2.2.2 f.slot (by simp [n1, n2])]; exact g7⟩
end StrChars.Road
namespace StrChars.Road
open Jvm Sem ClassFile Op Lib Jvm.Stand Jvm.Free Jvm.Free.XT
/-- WHAT COMES BACK, the byte[] as a list of values -/
def QA (Z : State) (x : Addr) (zn : Int32) (cs : List Int32) (h : Heap) (v : Option Value) (h' : Heap) (L : List Loc) : Prop := v = none ∧ (∀ y ∈ L, y.base = x) ∧ RoadKit.Keep h h' [x] ∧ h'.size = h.size + 1 ∧ RoadKit.Exa Z h' x ST ∧ RoadKit.Fld Z h' x ST "value" "[B" (.ref h.size) ∧ RoadKit.Fld Z h' x ST "coder" "B" (.int 0) ∧
  (∃ kb, Z.vm.findClass "[B" = some kb ∧ RoadKit.Arv Z h' h.size kb .byte zn (cs.map fun c => .int (lo8 c)) (.int 0)) ∧
  ∀ (O n d : String) (w : Value), RoadKit.Fld Z h x O n d w → RoadKit.slotOf Z O n d ≠ RoadKit.slotOf Z ST "value" "[B" → RoadKit.slotOf Z O n d ≠ RoadKit.slotOf Z ST "coder" "B" → RoadKit.Fld Z h' x O n d w
/-- **new String(chars) AT A CALL, THE ARRAYS AS LISTS**: the char[] at b holds cs, not empty, no char above 255 -/
theorem backArv {p : Program} {l : Launch} {e : Env} {R : Room} {s : State} {args : Array Value} {below : List Frame} {len W : Nat} {Z : State} {a0 : Array Value} {h : Heap} (hZ : Z.Warmed39 s.vm) (hw : ∀ d ∈ words, d.before a0 Z = true) {kI : Nat} (wi : (Jvm.Cond.instantiable ST kI).before a0 Z = true)
    {x b : Addr} {k : ClassId} {zn z : Int32} {cs : List Int32} {dv v0 c0 : Value} (E : RoadKit.Exa Z h x ST) (V : RoadKit.Fld Z h x ST "value" "[B" v0) (C : RoadKit.Fld Z h x ST "coder" "B" c0) (K : RoadKit.Arv Z h b k .char zn (cs.map Value.int) dv) (S : RoadKit.Sta Z h ST "COMPACT_STRINGS" "Z" (.int z)) (hz : ¬ z = 0)
    (hlen : zn.toNatClampNeg = cs.length) (h0 : 0 < cs.length) (hbig : cs.length ≤ 536870912) (hall : ∀ c ∈ cs, ¬ 255 < c) (hfr : 4 ≤ R.frames) (hlo : W + 65 ≤ R.locals) :
    Back l R p e below s args New1.yN len W (fun P a => a = #[.ref x, .ref b] ∧ P.U.heap = h ∧ P.cells + 1 ≤ R.cells ∧ P.slots + cs.length ≤ R.slots)
      (fun P _ v B => ∃ L, QA Z x zn cs h v B.U.heap L ∧ B.locs = P.locs ++ L ∧ B.cells = P.cells + 1 ∧ B.slots = P.slots + cs.length) := by
  obtain ⟨A, K1, K2, K3, K4, K5, K6⟩ := K
  have e : A.slots.size = cs.length := K3.trans hlen
  have hat : ∀ (i : Nat) (hi : i < cs.length), A.slots[i]? = some (.int cs[i]) := fun i hi => by rw [K5 i (by omega)]; simp [List.getD_eq_getElem?_getD, hi]
  have hcv : ∀ (i : Nat) (hi : i < cs.length), cv A i = cs[i] := fun i hi => by unfold cv; rw [hat i hi]
  have hty : Typed .char A := fun i v hv => by
    have hi : i < A.slots.size := (Array.getElem?_eq_some_iff.mp hv).1
    have q := K5 i hi
    rw [hv] at q
    rw [Option.some.inj q]
    exact K6 i hi
  refine Back.mono (back hZ hw wi E V C K1 hty S hz (by omega) (by omega) (fun i hi => by rw [hcv i (by omega)]; exact hall _ (List.getElem_mem _)) hfr hlo) (fun P a hp => ⟨hp.1, hp.2.1, hp.2.2.1, by rw [e]; exact hp.2.2.2⟩) (fun P a v B hp hq => ?_)
  obtain ⟨L, ⟨q1, q2, q3, q4, q5, q6, q7, ⟨V', v1, v2, v3, v4, v5⟩, q9⟩, hl, hc, hs⟩ := hq
  refine ⟨L, ⟨q1, q2, q3, q4, q5, q6, q7, ⟨V'.cls, v3, V', v1, rfl, by rw [v4, e, hlen], K4, fun i hi => ?_, fun i hi => ?_⟩, q9⟩, hl, hc, by rw [hs, e]⟩
  · have hi' : i < cs.length := by omega
    rw [v5 i (by omega), hcv i hi']; simp [List.getD_eq_getElem?_getD, hi']
  · have hi' : i < cs.length := by omega
    simp only [List.getD_eq_getElem?_getD, List.getElem?_map, List.getElem?_eq_getElem hi', Option.map_some, Option.getD_some]
    exact fits_lo8 _
end StrChars.Road
namespace StrChars.Road
open Jvm Sem ClassFile Op Lib Jvm.Stand Jvm.Free Jvm.Free.XT
/-- WHAT COMES BACK, in the writer's own shape -/
def QV (Z : State) (x : Addr) (N : Int32) (bs : List Int32) (h : Heap) (n0 : Nat) (v : Option Value) (h' : Heap) (L : List Loc) : Prop := v = none ∧ RoadKit.Fr n0 L ∧ RoadKit.Keep h h' [x] ∧ RoadKit.Exa Z h' x ST ∧ RoadKit.Fld Z h' x ST "coder" "B" (.int 0) ∧
  ∃ (t : Addr) (kb : ClassId), n0 ≤ t ∧ h.size ≤ t ∧ ¬ t = x ∧ RoadKit.Fld Z h' x ST "value" "[B" (.ref t) ∧ RoadKit.Arv Z h' t kb .byte N (bs.map Value.int) (.int 0)
/-- **new String(chars) AT A CALL, FOR THE WRITER**: a char[] of n known ints, each 0 to 255 -/
theorem backV {p : Program} {l : Launch} {e : Env} {R : Room} {s : State} {args : Array Value} {below : List Frame} {len W : Nat} {Z : State} {a0 : Array Value} {h : Heap} (hZ : Z.Warmed39 s.vm) (hw : ∀ d ∈ words, d.before a0 Z = true) {kI : Nat} (wi : (Jvm.Cond.instantiable ST kI).before a0 Z = true)
    {x b : Addr} {kC : ClassId} {cs bs : List Int32} {d v0 c0 : Value} {z N : Int32} {n n0 : Nat} (hx0 : n0 ≤ x) (hh0 : n0 ≤ h.size) (E : RoadKit.Exa Z h x ST) (V : RoadKit.Fld Z h x ST "value" "[B" v0) (C : RoadKit.Fld Z h x ST "coder" "B" c0) (K : RoadKit.Arv Z h b kC .char N (cs.map Value.int) d) (S : RoadKit.Sta Z h ST "COMPACT_STRINGS" "Z" (.int z)) (hz : ¬ z = 0)
    (hn : cs.length = n) (hN : N = Int32.ofNat n) (l0 : 0 < n) (l2 : n ≤ 4000) (hp : ∀ c ∈ cs, ¬ c < 0 ∧ ¬ (255 : Int32) < c) (hb : bs = cs.map (fun c => c.toInt8.toInt32)) (hfr : 4 ≤ R.frames) (hlo : W + 65 ≤ R.locals) :
    Back l R p e below s args (⟨"java/lang/String", "<init>", "([C)V"⟩ : MethodName) len W (fun P a => a = #[.ref x, .ref b] ∧ P.U.heap = h ∧ P.cells + 1 ≤ R.cells ∧ P.slots + n ≤ R.slots)
      (fun P _ v B => ∃ L, QV Z x N bs h n0 v B.U.heap L ∧ B.locs = P.locs ++ L ∧ B.cells = P.cells + 1 ∧ B.slots = P.slots + n) := by
  subst hn hN hb
  refine Back.mono (backArv hZ hw wi E V C K S hz (n32 (by omega)) l0 (by omega) (fun c hc => (hp c hc).2) hfr hlo) (fun P a hp => hp) (fun P a v B hp hq => ?_)
  obtain ⟨L, ⟨q1, q2, q3, q4, q5, q6, q7, ⟨kb, v1, v2⟩, q9⟩, hl, hc, hs⟩ := hq
  exact ⟨L, ⟨q1, fun y hy => by rw [q2 y hy]; exact hx0, q3, q5, q7, h.size, kb, hh0, Nat.le_refl _, Nat.ne_of_gt E.lt, q6, by rw [List.map_map]; exact v2⟩, hl, hc, hs⟩
end StrChars.Road
namespace StrChars
open Jvm Sem ClassFile Op Lib Jvm.Stand Jvm.Free.XT Jvm.Free.ALB Jvm.Free.JM Jvm.Free
open Jvm.Lib.Cold (StaticIs)
def hi8 (x : Int32) : Int32 := lo8 (x >>> ((8 : Int32) &&& 31))
/-- what StringUTF16.getChar makes of two bytes -/
def pairCh (u v : Int32) : Int32 := (((u &&& 255) <<< ((0 : Int32) &&& 31)) ||| ((v &&& 255) <<< ((8 : Int32) &&& 31))).toUInt32.toUInt16.toUInt32.toInt32
theorem shr0 (c : Int32) : c >>> ((0 : Int32) &&& 31) = c := by
  have e : ((0 : Int32) &&& 31) = 0 := by decide
  rw [e]
  apply Int32.toBitVec_inj.mp
  rw [Int32.toBitVec_shiftRight]
  have e1 : ((0 : Int32).toBitVec.smod 32) = 0#32 := by decide
  rw [e1, BitVec.sshiftRight_eq']
  exact BitVec.sshiftRight_zero
theorem lo8_and (x : Int32) : (lo8 x &&& 255).toBitVec.toNat = x.toBitVec.toNat % 256 := by
  have h : (lo8 x).toBitVec = (x.toBitVec.signExtend 8).signExtend 32 := by rw [lo8, Int8.toBitVec_toInt32, Int32.toBitVec_toInt8]
  rw [Int32.toBitVec_and, BitVec.toNat_and, h]
  have e : ((x.toBitVec.signExtend 8).signExtend 32).toNat % 256 = x.toBitVec.toNat % 256 := by
    rw [BitVec.toNat_signExtend]
    have hlt := x.toBitVec.isLt
    simp only [BitVec.toNat_setWidth, BitVec.toNat_signExtend]
    split <;> split <;> omega
  rw [← e]
  exact Nat.and_two_pow_sub_one_eq_mod _ 8
theorem pair_says {c : Int32} (h0 : ¬ c < 0) (h1 : ¬ 65535 < c) : pairCh (lo8 c) (hi8 c) = c := by
  rw [Int32.lt_iff_toInt_lt] at h0 h1
  have e0 : (0 : Int32).toInt = 0 := rfl
  have e1 : (65535 : Int32).toInt = 65535 := rfl
  have hc : c.toInt = c.toBitVec.toNat := by
    have := c.toBitVec.isLt
    have e : c.toInt = c.toBitVec.toInt := rfl
    rw [e] at h0 h1
    rw [e]
    rw [BitVec.toInt_eq_toNat_cond] at h0 h1 ⊢
    split at h0 <;> split <;> omega
  have hn : c.toBitVec.toNat < 65536 := by omega
  have a1 := lo8_and c
  have a2 : (hi8 c &&& 255).toBitVec.toNat = c.toBitVec.toNat / 256 := by
    rw [hi8, lo8_and]
    have e : ((8 : Int32) &&& 31) = 8 := by decide
    rw [e, Int32.toBitVec_shiftRight]
    have e2 : ((8 : Int32).toBitVec.smod 32) = 8#32 := by decide
    rw [e2, BitVec.sshiftRight_eq', BitVec.toNat_sshiftRight_of_msb_false (by rw [BitVec.msb_eq_false_iff_two_mul_lt]; omega)]
    show c.toBitVec.toNat >>> 8 % 256 = _
    rw [Nat.shiftRight_eq_div_pow]
    omega
  unfold pairCh
  apply Int32.toBitVec_inj.mp
  apply BitVec.eq_of_toNat_eq
  have f0 : ((0 : Int32) &&& 31) = 0 := by decide
  have f8 : ((8 : Int32) &&& 31) = 8 := by decide
  rw [f0, f8]
  have g : (((lo8 c &&& 255) <<< (0 : Int32)) ||| ((hi8 c &&& 255) <<< (8 : Int32))).toBitVec.toNat = c.toBitVec.toNat := by
    rw [Int32.toBitVec_or, Int32.toBitVec_shiftLeft, Int32.toBitVec_shiftLeft]
    have s0 : ((0 : Int32).toBitVec.smod 32) = 0#32 := by decide
    have s8 : ((8 : Int32).toBitVec.smod 32) = 8#32 := by decide
    rw [s0, s8, BitVec.toNat_or]
    simp only [BitVec.shiftLeft_eq', BitVec.toNat_shiftLeft, a1, a2]
    show (c.toBitVec.toNat % 256) <<< 0 % 2 ^ 32 ||| (c.toBitVec.toNat / 256) <<< 8 % 2 ^ 32 = _
    rw [Nat.shiftLeft_zero, Nat.mod_eq_of_lt (show c.toBitVec.toNat % 256 < 2 ^ 32 by omega), Nat.mod_eq_of_lt (show (c.toBitVec.toNat / 256) <<< 8 < 2 ^ 32 by rw [Nat.shiftLeft_eq]; omega), Nat.or_comm, ← Nat.shiftLeft_add_eq_or_of_lt (by omega), Nat.shiftLeft_eq]
    omega
  show BitVec.toNat (((((lo8 c &&& 255) <<< (0 : Int32)) ||| ((hi8 c &&& 255) <<< (8 : Int32))).toBitVec.setWidth 16).setWidth 32) = _
  rw [BitVec.toNat_setWidth, BitVec.toNat_setWidth, g]
  omega
end StrChars
namespace StrChars
open Jvm Sem ClassFile Op Lib Jvm.Stand Jvm.Free.XT Jvm.Free.ALB Jvm.Free.JM Jvm.Free
open Jvm.Lib.Cold (StaticIs)
theorem shr1 {n : Nat} (h : 2 * n < 2 ^ 31) : Int32.ofNat (2 * n) >>> ((1 : Int32) &&& 31) = Int32.ofNat n := by
  have e : ((1 : Int32) &&& 31) = 1 := by decide
  rw [e]
  apply Int32.toBitVec_inj.mp
  rw [Int32.toBitVec_shiftRight]
  have e1 : ((1 : Int32).toBitVec.smod 32) = 1#32 := by decide
  have hm : (BitVec.ofNat 32 (2 * n)).toNat = 2 * n := by rw [BitVec.toNat_ofNat, Nat.mod_eq_of_lt (by omega)]
  rw [e1, BitVec.sshiftRight_eq']
  apply BitVec.eq_of_toNat_eq
  show ((BitVec.ofNat 32 (2 * n)).sshiftRight 1).toNat = (BitVec.ofNat 32 n).toNat
  rw [BitVec.toNat_sshiftRight_of_msb_false (by rw [BitVec.msb_eq_false_iff_two_mul_lt, hm]; omega), hm, BitVec.toNat_ofNat, Nat.shiftRight_eq_div_pow]
  omega
/-- charAt's cast of a byte read back -/
def chr8 (u : Int32) : Int32 := (u &&& 255).toUInt32.toUInt16.toUInt32.toInt32
theorem chr8_lo8 {c : Int32} (h0 : ¬ c < 0) (h1 : ¬ 255 < c) : chr8 (lo8 c) = c := by
  have t : ∀ k : Fin 256, (Int32.ofNat k.val).toUInt32.toUInt16.toUInt32.toInt32 = Int32.ofNat k.val := by decide +kernel
  unfold chr8
  rw [lo8_mask h0 h1]
  rw [Int32.lt_iff_toInt_lt] at h0 h1
  have e0 : (0 : Int32).toInt = 0 := rfl
  have e1 : (255 : Int32).toInt = 255 := rfl
  obtain ⟨k, hk⟩ : ∃ k : Nat, c.toInt = k := ⟨c.toInt.toNat, by omega⟩
  have hx : c = Int32.ofNat k := Int32.toInt_inj.mp (by rw [hk, Int32.toInt_ofNat_small (by omega)])
  rw [hx]
  exact t ⟨k, by omega⟩
theorem narrow_ch {c : Int32} (h0 : ¬ c < 0) (h1 : ¬ 65535 < c) : narrow .char (.int c) = .int c := by
  have q : narrow .char (.int (pairCh (lo8 c) (hi8 c))) = .int (pairCh (lo8 c) (hi8 c)) := narrow_c _
  rwa [pair_says h0 h1] at q
/-- the array's cell V codes the n chars f 0 .. f (n - 1) by the coder cd, as the JDK does: coder 1 just where some char is above 255 -/
def Cod (cd : Int32) (n : Nat) (f : Nat → Int32) (V : Cell) : Prop := (cd = 0 ∧ V.slots.size = n ∧ ∀ j, j < n → V.slots[j]? = some (.int (lo8 (f j))) ∧ ¬ 255 < f j) ∨ (cd = 1 ∧ V.slots.size = 2 * n ∧ (∀ j, j < n → V.slots[2 * j]? = some (.int (lo8 (f j))) ∧ V.slots[2 * j + 1]? = some (.int (hi8 (f j)))) ∧ ∃ j, j < n ∧ 255 < f j)
theorem Cod.cd {cd : Int32} {n : Nat} {f : Nat → Int32} {V : Cell} (h : Cod cd n f V) : cd = 0 ∨ cd = 1 := h.imp (fun q => q.1) fun q => q.1
theorem Cod.len {cd : Int32} {n : Nat} {f : Nat → Int32} {V : Cell} (h : Cod cd n f V) (hs : V.slots.size < 2 ^ 31) : Int32.ofNat V.slots.size >>> (cd &&& 31) = Int32.ofNat n := by
  rcases h with ⟨rfl, h, -⟩ | ⟨rfl, h, -⟩
  · rw [shr0, h]
  · rw [h, shr1 (by omega)]
/-- **x is a String of the n chars f 0 .. f (n - 1)**, Latin-1 or UTF-16; its array at t has the cell V -/
def Txt (x t : Addr) (V : Cell) (cd : Int32) (n : Nat) (f : Nat → Int32) (U : State) : Prop := Exact "java/lang/String" x U ∧ Has x "java/lang/String" "value" "[B" (.ref t) U ∧ Has x "java/lang/String" "coder" "B" (.int cd) U ∧ XT.Arr .byte t V U ∧ Cod cd n f V ∧ ∀ j, j < n → ¬ f j < 0 ∧ ¬ 65535 < f j
theorem Txt.mv {x t : Addr} {V : Cell} {cd : Int32} {n : Nat} {f : Nat → Int32} {U U' : State} (h : Txt x t V cd n f U) (hal : U.vm.Alike U'.vm) (hh : U'.heap = U.heap) : Txt x t V cd n f U' := ⟨h.1.mv hal hh, h.2.1.mv hal hh, h.2.2.1.mv hal hh, h.2.2.2.1.mv hal hh, h.2.2.2.2⟩
namespace Cdr
def yN : MethodName := ⟨"java/lang/String", "coder", "()B"⟩
abbrev yB : ByteArray := jdk_42_method_152_code
theorem d0 : decode yB 0 = .ok (.getstatic 38, 3) := by decide +kernel
theorem d3 : decode yB 3 = .ok (.ifCond (.eq) 10, 3) := by decide +kernel
theorem d6 : decode yB 6 = .ok (.aload_n 0, 1) := by decide +kernel
theorem d7 : decode yB 7 = .ok (.getfield 15, 3) := by decide +kernel
theorem d10 : decode yB 10 = .ok (.goto 4, 3) := by decide +kernel
theorem d14 : decode yB 14 = .ok (.ireturn, 1) := by decide +kernel
def site : List Cond := [.fieldLink "java/lang/String" 38 "java/lang/String" "COMPACT_STRINGS" "Z", .fieldLink "java/lang/String" 15 "java/lang/String" "coder" "B"]
def tab : Cond := tabOf yN yB 1 (some .byte) site
def P (x : Addr) (cd z : Int32) (args : Array Value) (s : State) : Prop := args = #[.ref x] ∧ Has x "java/lang/String" "coder" "B" (.int cd) s ∧ (cd = 0 ∨ cd = 1) ∧ StaticIs s "java/lang/String" "COMPACT_STRINGS" "Z" (.int z) ∧ ¬ z = 0
def E (cd : Int32) (r : Option Value) (s u : State) : Prop := XT.PureE (some (.int cd)) r s u
theorem law (l : Launch) (x : Addr) (cd z : Int32) : Law l yN 1 0 0 0 yB 1 (some .byte) site (P x cd z) (E cd) [] 0 0 := by
  refine Law.of_walk (plainFor_of_name (by decide +kernel)) (by decide +kernel) (by decide +kernel) (by decide) (fun _ _ h => by rw [h.1]; rfl) (fun _ U U' hal hh h => ⟨h.1, h.2.1.mv hal hh, h.2.2.1, h.2.2.2.1.there hal hh, h.2.2.2.2⟩) (fun r U U' V V' h1 hal h2 h => XT.PureE.mv r U U' V V' h1 hal h2 h) ?_
  intro p e s m args below meth c s₁ X0 hexec hbytes hml hret hlk hnm hown hh0 W hP
  obtain ⟨rfl, hx, hc, s1, hz⟩ := hP
  have c1 : Steps p.tables e below (s₁.setTop (entryFrame m #[.ref x] 1)) (s₁.setTop (mkF m 0 #[.val (.ref x)] [])) := entry rfl
  obtain ⟨T2, X2, q2, st2⟩ := X0.sget hexec hown (wk W (.fieldLink "java/lang/String" 38 "java/lang/String" "COMPACT_STRINGS" "Z")) s1 (fun _ _ h => by rw [hh0]; exact h) (g := (mkF m 0 #[.val (.ref x)] [])) rfl (hb hbytes d0)
  have hh2 := q2.trans hh0
  have c3 : Steps p.tables e below (s₁.setTop (entryFrame m #[.ref x] 1)) (T2.setTop (mkF m 7 #[.val (.ref x)] [.ref x])) := (c1.trans (st2 _ (Steps.refl _))).trans (by
    refine XS.ifNo X2.here hexec rfl (hb hbytes d3) rfl (i0_eq_f hz) ?_
    refine XS.aloadN X2.here hexec rfl (hb hbytes d6) rfl rfl ?_
    exact Steps.refl _)
  obtain ⟨T4, X4, q4, st4⟩ := X2.hget hexec hown (wk W (.fieldLink "java/lang/String" 15 "java/lang/String" "coder" "B")) (hx.mv X2.warmed.alike hh2) (g := (mkF m 7 #[.val (.ref x)] [.ref x])) rfl (rest := []) rfl (hb hbytes d7)
  have c5 : Steps p.tables e below (s₁.setTop (entryFrame m #[.ref x] 1)) (T4.setTop (mkF m 14 #[.val (.ref x)] [.int cd])) := (c3.trans (st4 _ (Steps.refl _))).trans (by
    refine XS.goto X4.here hexec rfl (pc0 := 10) rfl (hb hbytes d10) (by decide) rfl ?_
    exact Steps.refl _)
  exact ⟨T4, some (.int cd), _, _, _, X4, rfl, rfl, rfl, (fun h => by cases h), ⟨rfl, q4.trans hh2⟩, fun fs hl => c5.trans (X4.ireturnOut hexec hret (by rcases hc with rfl | rfl <;> rfl) (Or.inr (Or.inr (Or.inl rfl))) (hb hbytes d14) hl)⟩
end Cdr
namespace Len
def yN : MethodName := ⟨"java/lang/String", "length", "()I"⟩
abbrev yB : ByteArray := jdk_42_method_54_code
theorem d0 : decode yB 0 = .ok (.aload_n 0, 1) := by decide +kernel
theorem d1 : decode yB 1 = .ok (.getfield 9, 3) := by decide +kernel
theorem d4 : decode yB 4 = .ok (.arraylength, 1) := by decide +kernel
theorem d5 : decode yB 5 = .ok (.aload_n 0, 1) := by decide +kernel
theorem d6 : decode yB 6 = .ok (.invokevirtual 335, 3) := by decide +kernel
theorem d9 : decode yB 9 = .ok (.ishr, 1) := by decide +kernel
theorem d10 : decode yB 10 = .ok (.ireturn, 1) := by decide +kernel
def site : List Cond := [.fieldLink "java/lang/String" 9 "java/lang/String" "value" "[B", Cdr.tab] ++ virtW "java/lang/String" 335 "java/lang/String" Cdr.yN Cdr.yN
def tab : Cond := tabOf yN yB 1 (some .int) site
def P (x t : Addr) (V : Cell) (cd : Int32) (n : Nat) (f : Nat → Int32) (z : Int32) (args : Array Value) (s : State) : Prop := args = #[.ref x] ∧ Txt x t V cd n f s ∧ StaticIs s "java/lang/String" "COMPACT_STRINGS" "Z" (.int z) ∧ ¬ z = 0
def E (n : Nat) (r : Option Value) (s u : State) : Prop := XT.PureE (some (.int (Int32.ofNat n))) r s u
/-- length() of a String of n chars, in either coding -/
theorem law (l : Launch) (x t : Addr) (V : Cell) (cd : Int32) (n : Nat) (f : Nat → Int32) (z : Int32) : Law l yN 1 0 1 13 yB 1 (some .int) site (P x t V cd n f z) (E n) [] 0 0 := by
  refine Law.of_walk (plainFor_of_name (by decide +kernel)) (by decide +kernel) (by decide +kernel) (by decide) (fun _ _ h => by rw [h.1]; rfl) (fun _ U U' hal hh h => ⟨h.1, h.2.1.mv hal hh, h.2.2.1.there hal hh, h.2.2.2⟩) (fun r U U' V V' h1 hal h2 h => XT.PureE.mv r U U' V V' h1 hal h2 h) ?_
  intro p e s m args below meth c s₁ X0 hexec hbytes hml hret hlk hnm hown hh0 W hP
  obtain ⟨rfl, hx, s1, hz⟩ := hP
  have v31 := hx.2.2.2.1.2.2.2
  have c1 : Steps p.tables e below (s₁.setTop (entryFrame m #[.ref x] 1)) (s₁.setTop (mkF m 1 #[.val (.ref x)] [.ref x])) := Steps.trans (entry rfl) (by
    show Steps p.tables e below (s₁.setTop (mkF m 0 #[.val (.ref x)] [])) _
    refine XS.aloadN X0.here hexec rfl (hb hbytes d0) rfl rfl ?_
    exact Steps.refl _)
  obtain ⟨T2, X2, q2, st2⟩ := X0.hget hexec hown (wk W (.fieldLink "java/lang/String" 9 "java/lang/String" "value" "[B")) (hx.mv X0.warmed.alike hh0).2.1 (g := (mkF m 1 #[.val (.ref x)] [.ref x])) rfl (rest := []) rfl (hb hbytes d1)
  have hh2 := q2.trans hh0
  have hx2 := hx.mv X2.warmed.alike hh2
  have c3 : Steps p.tables e below (s₁.setTop (entryFrame m #[.ref x] 1)) (T2.setTop (mkF m 6 #[.val (.ref x)] [.ref x, .int (Int32.ofNat V.slots.size)])) := (c1.trans (st2 _ (Steps.refl _))).trans (by
    refine X2.alen hexec hx2.2.2.2.1 rfl rfl (hb hbytes d4) ?_
    refine XS.aloadN X2.here hexec rfl (hb hbytes d5) rfl rfl ?_
    exact Steps.refl _)
  obtain ⟨v4, T4, X4, E4, g4⟩ := X2.callV hexec (Cdr.law l x cd z) hown (wks W (virtW "java/lang/String" 335 "java/lang/String" Cdr.yN Cdr.yN)) rfl (by decide) (wk W Cdr.tab) (W := 1) (Nat.le_of_ble_eq_true rfl) (Nat.le_of_ble_eq_true rfl) (Nat.le_refl _) (Nat.le_refl _) (hx2.1.fc X2.warmed.alike) hx2.1.is (g := (mkF m 6 #[.val (.ref x)] [.ref x, .int (Int32.ofNat V.slots.size)])) rfl (by rw [hml]; rfl) c3 (argsL := []) (rest := [.int (Int32.ofNat V.slots.size)]) rfl rfl (by show 2 * 0 + (1 + 0) ≤ _; decide) (hb hbytes d6) (⟨rfl, hx2.2.2.1, hx.2.2.2.2.1.cd, s1.there X2.warmed.alike hh2, hz⟩)
  obtain ⟨rfl, q4⟩ := E4
  have c5 : Steps p.tables e below (s₁.setTop (entryFrame m #[.ref x] 1)) (T4.setTop (mkF m 10 #[.val (.ref x)] [.int (Int32.ofNat V.slots.size >>> (cd &&& 31))])) := Steps.trans g4 (by
    refine ishr X4.here hexec rfl (hb hbytes d9) rfl ?_
    exact Steps.refl _)
  rw [hx.2.2.2.2.1.len v31] at c5
  exact ⟨T4, some (.int (Int32.ofNat n)), _, _, _, X4, rfl, rfl, rfl, (fun h => by cases h), ⟨rfl, q4.trans hh2⟩, fun fs hl => c5.trans (X4.ireturnOut hexec hret rfl (Or.inl rfl) (hb hbytes d10) hl)⟩
theorem pays {l : Launch} {R : Room} {p : Program} {e : Env} {below : List Frame} {s : State} {sargs : Array Value} {len W : Nat} (x t : Addr) (V : Cell) (cd : Int32) (n : Nat) (f : Nat → Int32) (z : Int32) (htab : tab.before sargs s = true) (hfr : 2 ≤ R.frames) (hlo : W + 25 ≤ R.locals) :
    Back l R p e below s sargs yN len W (fun A₁ a₁ => A₁.cells + 0 ≤ R.cells ∧ A₁.slots + 0 ≤ R.slots ∧ P x t V cd n f z a₁ A₁.U) (fun A₁ _ v₁ B₁ => E n v₁ A₁.U B₁.U ∧ B₁.locs = A₁.locs ++ [] ∧ B₁.cells = A₁.cells + 0 ∧ B₁.slots = A₁.slots + 0) :=
  (law l x t V cd n f z).pays htab hfr (by omega)
end Len
namespace IsL
def yN : MethodName := ⟨"java/lang/String", "isLatin1", "()Z"⟩
abbrev yB : ByteArray := jdk_42_method_154_code
theorem d0 : decode yB 0 = .ok (.getstatic 38, 3) := by decide +kernel
theorem d3 : decode yB 3 = .ok (.ifCond (.eq) 14, 3) := by decide +kernel
theorem d6 : decode yB 6 = .ok (.aload_n 0, 1) := by decide +kernel
theorem d7 : decode yB 7 = .ok (.getfield 15, 3) := by decide +kernel
theorem d10 : decode yB 10 = .ok (.ifCond (.ne) 7, 3) := by decide +kernel
theorem d13 : decode yB 13 = .ok (.iconst 1, 1) := by decide +kernel
theorem d14 : decode yB 14 = .ok (.goto 4, 3) := by decide +kernel
theorem d17 : decode yB 17 = .ok (.iconst 0, 1) := by decide +kernel
theorem d18 : decode yB 18 = .ok (.ireturn, 1) := by decide +kernel
def site : List Cond := [.fieldLink "java/lang/String" 38 "java/lang/String" "COMPACT_STRINGS" "Z", .fieldLink "java/lang/String" 15 "java/lang/String" "coder" "B"]
def tab : Cond := tabOf yN yB 1 (some .boolean) site
def P (x : Addr) (cd z : Int32) (args : Array Value) (s : State) : Prop := args = #[.ref x] ∧ Has x "java/lang/String" "coder" "B" (.int cd) s ∧ (cd = 0 ∨ cd = 1) ∧ StaticIs s "java/lang/String" "COMPACT_STRINGS" "Z" (.int z) ∧ ¬ z = 0
def E (cd : Int32) (r : Option Value) (s u : State) : Prop := XT.PureE (some (.int (1 - cd))) r s u
theorem law (l : Launch) (x : Addr) (cd z : Int32) : Law l yN 1 0 0 0 yB 1 (some .boolean) site (P x cd z) (E cd) [] 0 0 := by
  refine Law.of_walk (plainFor_of_name (by decide +kernel)) (by decide +kernel) (by decide +kernel) (by decide) (fun _ _ h => by rw [h.1]; rfl) (fun _ U U' hal hh h => ⟨h.1, h.2.1.mv hal hh, h.2.2.1, h.2.2.2.1.there hal hh, h.2.2.2.2⟩) (fun r U U' V V' h1 hal h2 h => XT.PureE.mv r U U' V V' h1 hal h2 h) ?_
  intro p e s m args below meth c s₁ X0 hexec hbytes hml hret hlk hnm hown hh0 W hP
  obtain ⟨rfl, hx, hc, s1, hz⟩ := hP
  have c1 : Steps p.tables e below (s₁.setTop (entryFrame m #[.ref x] 1)) (s₁.setTop (mkF m 0 #[.val (.ref x)] [])) := entry rfl
  obtain ⟨T2, X2, q2, st2⟩ := X0.sget hexec hown (wk W (.fieldLink "java/lang/String" 38 "java/lang/String" "COMPACT_STRINGS" "Z")) s1 (fun _ _ h => by rw [hh0]; exact h) (g := (mkF m 0 #[.val (.ref x)] [])) rfl (hb hbytes d0)
  have hh2 := q2.trans hh0
  have c3 : Steps p.tables e below (s₁.setTop (entryFrame m #[.ref x] 1)) (T2.setTop (mkF m 7 #[.val (.ref x)] [.ref x])) := (c1.trans (st2 _ (Steps.refl _))).trans (by
    refine XS.ifNo X2.here hexec rfl (hb hbytes d3) rfl (i0_eq_f hz) ?_
    refine XS.aloadN X2.here hexec rfl (hb hbytes d6) rfl rfl ?_
    exact Steps.refl _)
  obtain ⟨T4, X4, q4, st4⟩ := X2.hget hexec hown (wk W (.fieldLink "java/lang/String" 15 "java/lang/String" "coder" "B")) (hx.mv X2.warmed.alike hh2) (g := (mkF m 7 #[.val (.ref x)] [.ref x])) rfl (rest := []) rfl (hb hbytes d7)
  have c5 : Steps p.tables e below (s₁.setTop (entryFrame m #[.ref x] 1)) (T4.setTop (mkF m 10 #[.val (.ref x)] [.int cd])) := c3.trans (st4 _ (Steps.refl _))
  have c6 : Steps p.tables e below (s₁.setTop (entryFrame m #[.ref x] 1)) (T4.setTop (mkF m 18 #[.val (.ref x)] [.int (1 - cd)])) := by
    rcases hc with rfl | rfl
    · exact c5.trans (by
        refine XS.ifNo X4.here hexec rfl (hb hbytes d10) rfl (i0_ne_f rfl) ?_
        refine iconstV X4.here hexec rfl 1 (hb hbytes d13) (by decide) ?_
        refine XS.goto X4.here hexec rfl (pc0 := 14) rfl (hb hbytes d14) (by decide) rfl ?_
        exact Steps.refl _)
    · exact c5.trans (by
        refine XS.ifYes X4.here hexec rfl (pc0 := 10) rfl (hb hbytes d10) rfl (i0_ne_t (by decide)) (by decide) rfl ?_
        refine iconstV X4.here hexec rfl 0 (hb hbytes d17) (by decide) ?_
        exact Steps.refl _)
  exact ⟨T4, some (.int (1 - cd)), _, _, _, X4, rfl, rfl, rfl, (fun h => by cases h), ⟨rfl, q4.trans hh2⟩, fun fs hl => c6.trans (X4.ireturnOut hexec hret (by rcases hc with rfl | rfl <;> rfl) (Or.inr (Or.inl rfl)) (hb hbytes d18) hl)⟩
end IsL
namespace LChA
def yN : MethodName := ⟨"java/lang/StringLatin1", "charAt", "([BI)C"⟩
abbrev yB : ByteArray := jdk_43_method_2_code
theorem d0 : decode yB 0 = .ok (.iload_n 1, 1) := by decide +kernel
theorem d1 : decode yB 1 = .ok (.aload_n 0, 1) := by decide +kernel
theorem d2 : decode yB 2 = .ok (.arraylength, 1) := by decide +kernel
theorem d3 : decode yB 3 = .ok (.invokestatic 9, 3) := by decide +kernel
theorem d6 : decode yB 6 = .ok (.aload_n 0, 1) := by decide +kernel
theorem d7 : decode yB 7 = .ok (.iload_n 1, 1) := by decide +kernel
theorem d8 : decode yB 8 = .ok (.baload, 1) := by decide +kernel
theorem d9 : decode yB 9 = .ok (.sipush 255, 3) := by decide +kernel
theorem d12 : decode yB 12 = .ok (.iand, 1) := by decide +kernel
theorem d13 : decode yB 13 = .ok (.i2c, 1) := by decide +kernel
theorem d14 : decode yB 14 = .ok (.ireturn, 1) := by decide +kernel
def site : List Cond := [JO.Str_checkIndex.tab] ++ staticW "java/lang/StringLatin1" 9 JO.Str_checkIndex.yN
def tab : Cond := tabOf yN yB 2 (some .char) site
def P (t : Addr) (V : Cell) (i : Nat) (u : Int32) (fm : Value) (args : Array Value) (s : State) : Prop := args = #[.ref t, .int (Int32.ofNat i)] ∧ XT.Arr .byte t V s ∧ V.slots[i]? = some (.int u) ∧ (StaticIs s "jdk/internal/util/Preconditions" "SIOOBE_FORMATTER" "Ljava/util/function/BiFunction;" fm ∧ fm.isRef = true)
def E (u : Int32) (r : Option Value) (s w : State) : Prop := XT.PureE (some (.int (chr8 u))) r s w
theorem law (l : Launch) (t : Addr) (V : Cell) (i : Nat) (u : Int32) (fm : Value) : Law l yN 2 2 2 27 yB 2 (some .char) site (P t V i u fm) (E u) [] 0 0 := by
  refine Law.of_walk (plainFor_of_name (by decide +kernel)) (by decide +kernel) (by decide +kernel) (by decide) (fun _ _ h => by rw [h.1]; rfl) (fun _ U U' hal hh h => ⟨h.1, h.2.1.mv hal hh, h.2.2.1, h.2.2.2.1.there hal hh, h.2.2.2.2⟩) (fun r U U' V V' h1 hal h2 h => XT.PureE.mv r U U' V V' h1 hal h2 h) ?_
  intro p e s m args below meth c s₁ X0 hexec hbytes hml hret hlk hnm hown hh0 W hP
  obtain ⟨rfl, hV, hu, s1, rf⟩ := hP
  have v31 := hV.2.2.2
  have hi : i < V.slots.size := (Array.getElem?_eq_some_iff.mp hu).1
  have c1 : Steps p.tables e below (s₁.setTop (entryFrame m #[.ref t, .int (Int32.ofNat i)] 2)) (s₁.setTop (mkF m 0 #[.val (.ref t), .val (.int (Int32.ofNat i))] [])) := entry rfl
  have c2 : Steps p.tables e below (s₁.setTop (entryFrame m #[.ref t, .int (Int32.ofNat i)] 2)) (s₁.setTop (mkF m 3 #[.val (.ref t), .val (.int (Int32.ofNat i))] [.int (Int32.ofNat V.slots.size), .int (Int32.ofNat i)])) := c1.trans (by
    refine XS.iloadN X0.here hexec rfl (hb hbytes d0) rfl ?_
    refine XS.aloadN X0.here hexec rfl (hb hbytes d1) rfl rfl ?_
    refine X0.alen hexec (hV.mv X0.warmed.alike hh0) rfl rfl (hb hbytes d2) ?_
    exact Steps.refl _)
  obtain ⟨v3, T3, X3, E3, g3⟩ := X0.callS hexec (JO.Str_checkIndex.law l (Int32.ofNat i) (Int32.ofNat V.slots.size) fm) hown (wks W (staticW "java/lang/StringLatin1" 9 JO.Str_checkIndex.yN)) (wk W JO.Str_checkIndex.tab) (W := 0) (Nat.le_of_ble_eq_true rfl) (Nat.le_of_ble_eq_true rfl) (Nat.le_refl _) (Nat.le_refl _) (g := (mkF m 3 #[.val (.ref t), .val (.int (Int32.ofNat i))] [.int (Int32.ofNat V.slots.size), .int (Int32.ofNat i)])) rfl (by rw [hml]; rfl) c2 (argsL := [.int (Int32.ofNat i), .int (Int32.ofNat V.slots.size)]) (rest := []) rfl rfl (by show 2 * 0 + 0 ≤ _; decide) (hb hbytes d3) (⟨rfl, rf, s1.there X0.warmed.alike hh0, Int32.ofNat_not_neg (by omega), lt32 v31 hi⟩)
  obtain ⟨rfl, q3⟩ := E3
  have hh3 := q3.trans hh0
  have c4 : Steps p.tables e below (s₁.setTop (entryFrame m #[.ref t, .int (Int32.ofNat i)] 2)) (T3.setTop (mkF m 14 #[.val (.ref t), .val (.int (Int32.ofNat i))] [.int (chr8 u)])) := Steps.trans g3 (by
    refine XS.aloadN X3.here hexec rfl (hb hbytes d6) rfl rfl ?_
    refine XS.iloadN X3.here hexec rfl (hb hbytes d7) rfl ?_
    refine X3.aget hexec (hV.mv X3.warmed.alike hh3) rfl hu rfl rfl (hb hbytes d8) ?_
    refine sipushV X3.here hexec rfl 255 (hb hbytes d9) (by decide) ?_
    refine XS.iand X3.here hexec rfl (hb hbytes d12) rfl ?_
    refine i2c X3.here hexec rfl (hb hbytes d13) rfl ?_
    exact Steps.refl _)
  exact ⟨T3, some (.int (chr8 u)), _, _, _, X3, rfl, rfl, rfl, (fun h => by cases h), ⟨rfl, hh3⟩, fun fs hl => c4.trans (X3.ireturnOut hexec hret (narrow_c _) (Or.inr (Or.inr (Or.inr (Or.inl rfl)))) (hb hbytes d14) hl)⟩
end LChA
end StrChars
namespace StrChars.Road
open Jvm Sem ClassFile Op Lib Jvm.Stand Jvm.Free Jvm.Free.XT
open Jvm.Lib.Cold (StaticIs)
theorem consq {a : Array Value} {s : State} {c : Jvm.Cond} {L : List Jvm.Cond} (h0 : c.before a s = true) (h : ∀ w ∈ L, w.before a s = true) : ∀ w ∈ c :: L, w.before a s = true := fun w hw => (List.mem_cons.mp hw).elim (fun e => e ▸ h0) (h w)
/-- the words of String.length(), either coding -/
abbrev wordsLen : List Jvm.Cond := [.code Len.yN Len.yB 1 (some .int), .initialized ST, .fieldLink ST 9 ST "value" "[B", .fieldLink ST 38 ST "COMPACT_STRINGS" "Z", .fieldLink ST 15 ST "coder" "B", .code Cdr.yN Cdr.yB 1 (some .byte), .methodLink ST 335 Cdr.yN, .declares Cdr.yN, .selects ST Cdr.yN Cdr.yN, .instanceMethod Cdr.yN]
theorem tabLen_of {a : Array Value} {s : State} (h : ∀ w ∈ wordsLen, w.before a s = true) : Len.tab.before a s = true := by
  have hc : Cdr.tab.before a s = true := unparts (wk h (.code Cdr.yN Cdr.yB 1 (some .byte))) (wks h (.initialized Cdr.yN.cls :: Cdr.site))
  have q := consq hc h
  exact unparts (wk q (.code Len.yN Len.yB 1 (some .int))) (wks q (.initialized Len.yN.cls :: Len.site))
theorem movedLen {Z s : State} {a0 args : Array Value} (hZ : Z.Warmed39 s.vm) (hw : ∀ d ∈ wordsLen, d.before a0 Z = true) : ∀ d ∈ wordsLen, d.before args s = true := fun d hd => by
  have q := hw d hd
  have t : ∀ d ∈ wordsLen, d = .arrayClass .byte ∨ (d.onTables && d.keepsFace) = true := by decide +kernel
  rcases t d hd with rfl | t
  · exact RoadKit.mvA hZ q
  · exact RoadKit.mv hZ q t
/-- the bytes of the chars cs, low before high -/
def wideBytes : List Int32 → List Value
  | [] => []
  | c :: cs => .int (lo8 c) :: .int (hi8 c) :: wideBytes cs
theorem wide_lo (d : Value) : ∀ (cs : List Int32) (j : Nat), j < cs.length → (wideBytes cs).getD (2 * j) d = .int (lo8 (cs.getD j 0))
  | [], j, h => absurd h (Nat.not_lt_zero j)
  | c :: cs, 0, _ => rfl
  | c :: cs, j + 1, h => by
    have q := wide_lo d cs j (by simpa using h)
    rw [show 2 * (j + 1) = 2 * j + 1 + 1 from by omega]
    simpa [wideBytes] using q
theorem wide_hi (d : Value) : ∀ (cs : List Int32) (j : Nat), j < cs.length → (wideBytes cs).getD (2 * j + 1) d = .int (hi8 (cs.getD j 0))
  | [], j, h => absurd h (Nat.not_lt_zero j)
  | c :: cs, 0, _ => rfl
  | c :: cs, j + 1, h => by
    have q := wide_hi d cs j (by simpa using h)
    rw [show 2 * (j + 1) + 1 = 2 * j + 1 + 1 + 1 from by omega]
    simpa [wideBytes] using q
theorem low_at (d : Value) (cs : List Int32) (j : Nat) (h : j < cs.length) : (cs.map fun c => Value.int (lo8 c)).getD j d = .int (lo8 (cs.getD j 0)) := by
  simp [List.getD_eq_getElem?_getD, h]
/-- an array of N2 bytes vs codes the chars cs by the coder cd -/
def CodA (cs : List Int32) (cd N2 : Int32) (vs : List Value) : Prop := (cd = 0 ∧ N2 = Int32.ofNat cs.length ∧ vs = (cs.map fun c => Value.int (lo8 c)) ∧ ∀ c ∈ cs, ¬ 255 < c) ∨ (cd = 1 ∧ N2 = Int32.ofNat (2 * cs.length) ∧ vs = wideBytes cs ∧ ∃ c ∈ cs, 255 < c)
theorem CodA.cod {cs : List Int32} {cd N2 : Int32} {vs : List Value} {V : Cell} (h : CodA cs cd N2 vs) (hn : 2 * cs.length < 2 ^ 31) (hs : V.slots.size = N2.toNatClampNeg) (hv : RoadKit.Has V vs (.int 0)) : Cod cd cs.length (fun j => cs.getD j 0) V := by
  rcases h with ⟨rfl, rfl, rfl, h⟩ | ⟨rfl, rfl, rfl, c, hc, hw⟩
  · rw [n32 (by omega)] at hs
    exact Or.inl ⟨rfl, hs, fun j hj => ⟨by rw [hv j (by omega), low_at _ _ _ hj], by
      have e : cs.getD j 0 = cs[j] := by simp [List.getD_eq_getElem?_getD, hj]
      show ¬ 255 < cs.getD j 0
      rw [e]; exact h _ (List.getElem_mem _)⟩⟩
  · rw [n32 (by omega)] at hs
    obtain ⟨j, hj, rfl⟩ := List.getElem_of_mem hc
    exact Or.inr ⟨rfl, hs, fun j hj => ⟨by rw [hv _ (by omega), wide_lo _ _ _ hj], by rw [hv _ (by omega), wide_hi _ _ _ hj]⟩, j, hj, by
      have e : cs.getD j 0 = cs[j] := by simp [List.getD_eq_getElem?_getD, hj]
      show 255 < cs.getD j 0
      rw [e]; exact hw⟩
/-- an object of exactly java/lang/String, its two fields found: as the laws ask it -/
theorem strObj {Z U : State} {a0 : Array Value} {kI : Nat} (wi : (Jvm.Cond.instantiable ST kI).before a0 Z = true) (al : Z.vm.Alike U.vm) {x : Addr} {v0 c0 : Value} (E : RoadKit.Exa Z U.heap x ST) (V : RoadKit.Fld Z U.heap x ST "value" "[B" v0) (C : RoadKit.Fld Z U.heap x ST "coder" "B" c0) :
    ∃ (D : Cell) (fV fC : Field), Blank ST x D U ∧ Found ST "value" "[B" fV U ∧ Found ST "coder" "B" fC U ∧ D.slots[fV.slot]? = some v0 ∧ D.slots[fC.slot]? = some c0 ∧ RoadKit.slotOf Z ST "value" "[B" = fV.slot ∧ RoadKit.slotOf Z ST "coder" "B" = fC.slot := by
  obtain ⟨D, cfV, kV, iV, fV, hD, gV, stV, knV, obV, asV, slV⟩ := V
  obtain ⟨D', cfC, kC, iC, fC, hD', gC, stC, -, -, asC, slC⟩ := C
  cases hD.symm.trans hD'
  obtain ⟨D2, kD, e1, e2, e3, e4, e5⟩ := E
  cases hD.symm.trans e1
  obtain ⟨c2, k2, i1, i2, i3, -⟩ := Cond.instantiable_spec wi
  cases e2.symm.trans i1
  cases e3.symm.trans i2
  obtain ⟨kU, u1, u2⟩ := al.2.2 _ _ e3
  exact ⟨D, fV, fC, ⟨hD, ⟨knV, fun q hq => by rw [hq] at obV; cases obV⟩, by rw [al.findClass]; exact e2, kU, u1, by rw [u2]; exact i3, by rw [u2]; exact e5 i3⟩, ⟨SBG.found_only al ⟨cfV, kV, iV, gV⟩, stV⟩, ⟨SBG.found_only al ⟨cfC, kC, iC, gC⟩, stC⟩, slV, slC, by simp [RoadKit.slotOf, gV], by simp [RoadKit.slotOf, gC]⟩
theorem sta_is {Z U : State} (al : Z.vm.Alike U.vm) {C n d : String} {v : Value} (S : RoadKit.Sta Z U.heap C n d v) : StaticIs U C n d v := by
  obtain ⟨cfS, iS, kS, fS, st, cS, t1, t2, t3, t4, t5, t6, t7⟩ := S
  exact StaticIs.there (s := { Z with heap := U.heap }) ⟨cfS, iS, kS, fS, st, cS, t1, t2, t3, t4, t5, (fun q => by rw [q] at t6; cases t6), t7⟩ al rfl
/-- **length() OF SUCH A STRING** -/
theorem lenW {p : Program} {l : Launch} {e : Env} {R : Room} {s : State} {args : Array Value} {below : List Frame} {len W : Nat} {Z : State} {a0 : Array Value} {h : Heap} (hZ : Z.Warmed39 s.vm) (hw : ∀ d ∈ wordsLen, d.before a0 Z = true) {kI : Nat} (wi : (Jvm.Cond.instantiable ST kI).before a0 Z = true)
    {x t : Addr} {kb : ClassId} {cs : List Int32} {cd N2 z : Int32} {vs : List Value} (E : RoadKit.Exa Z h x ST) (V : RoadKit.Fld Z h x ST "value" "[B" (.ref t)) (C : RoadKit.Fld Z h x ST "coder" "B" (.int cd)) (K : RoadKit.Arv Z h t kb .byte N2 vs (.int 0)) (hc : CodA cs cd N2 vs) (hb : ∀ c ∈ cs, ¬ c < 0 ∧ ¬ (65535 : Int32) < c)
    (S : RoadKit.Sta Z h ST "COMPACT_STRINGS" "Z" (.int z)) (hz : ¬ z = 0) (l2 : cs.length ≤ 4000) (hfr : 2 ≤ R.frames) (hlo : W + 25 ≤ R.locals) :
    Back l R p e below s args (⟨"java/lang/String", "length", "()I"⟩ : MethodName) len W (fun P a => a = #[.ref x] ∧ P.U.heap = h ∧ P.cells + 0 ≤ R.cells ∧ P.slots + 0 ≤ R.slots)
      (fun P _ v B => ∃ L, (v = some (.int (Int32.ofNat cs.length)) ∧ L = [] ∧ B.U.heap = h) ∧ B.locs = P.locs ++ L ∧ B.cells = P.cells + 0 ∧ B.slots = P.slots + 0) := by
  obtain ⟨A, K1, K2, K3, K4, K5, K6⟩ := K
  have hcod := hc.cod (by omega) K3 K5
  intro m meth c P g ig mk a X hg hsize hdg hW hn hp'
  obtain ⟨rfl, rfl, r1, r2⟩ := hp'
  have al : Z.vm.Alike P.U.vm := hZ.alike.trans X.warmed.alike
  obtain ⟨D, fV, fC, hB, F1, F2, g1, g2, -, -⟩ := strObj wi al E V C
  have hx : Txt x t A cd cs.length (fun j => cs.getD j 0) P.U := ⟨⟨_, hB.2.2.1, D, hB.1, rfl, by cases q : D.vm <;> first | rfl | exact absurd q (hB.2.1.2 _)⟩, Has.of hB F1 g1, Has.of hB F2 g2, ⟨K1.1, State.isArrayOf_alike al K1.2.1, K1.2.2, by rcases hcod with ⟨-, q, -⟩ | ⟨-, q, -⟩ <;> omega⟩, hcod, fun j hj => by
    have e : cs.getD j 0 = cs[j] := by simp [List.getD_eq_getElem?_getD, hj]
    show ¬ cs.getD j 0 < 0 ∧ ¬ 65535 < cs.getD j 0
    rw [e]; exact hb _ (List.getElem_mem _)⟩
  obtain ⟨v, B, X', ⟨⟨hv, hh⟩, hl, hk, hs⟩, st⟩ := Len.pays x t A cd cs.length (fun j => cs.getD j 0) z (tabLen_of (movedLen hZ hw)) hfr hlo m meth c P g ig mk _ X hg hsize hdg hW hn ⟨r1, r2, rfl, hx, sta_is al S, hz⟩
  exact ⟨v, B, X', ⟨[], ⟨hv, rfl, hh⟩, hl, hk, hs⟩, st⟩
end StrChars.Road
namespace StrChars.Road
open Jvm Sem ClassFile Op Lib Jvm.Stand Jvm.Free Jvm.Free.XT
open Jvm.Lib.Cold (StaticIs)
/-- the road's facts of a String, as the laws ask it -/
theorem txt_of {Z U : State} {a0 : Array Value} {kI : Nat} (wi : (Jvm.Cond.instantiable ST kI).before a0 Z = true) (al : Z.vm.Alike U.vm) {x t : Addr} {kb : ClassId} {cs : List Int32} {cd N2 : Int32} {vs : List Value} (E : RoadKit.Exa Z U.heap x ST) (V : RoadKit.Fld Z U.heap x ST "value" "[B" (.ref t)) (C : RoadKit.Fld Z U.heap x ST "coder" "B" (.int cd)) (K : RoadKit.Arv Z U.heap t kb .byte N2 vs (.int 0)) (hc : CodA cs cd N2 vs) (hb : ∀ c ∈ cs, ¬ c < 0 ∧ ¬ (65535 : Int32) < c) (l2 : cs.length ≤ 4000) :
    ∃ A, Txt x t A cd cs.length (fun j => cs.getD j 0) U := by
  obtain ⟨A, K1, K2, K3, K4, K5, K6⟩ := K
  have hcod := hc.cod (by omega) K3 K5
  obtain ⟨D, fV, fC, hB, F1, F2, g1, g2, -, -⟩ := strObj wi al E V C
  exact ⟨A, ⟨_, hB.2.2.1, D, hB.1, rfl, by cases q : D.vm <;> first | rfl | exact absurd q (hB.2.1.2 _)⟩, Has.of hB F1 g1, Has.of hB F2 g2, ⟨K1.1, State.isArrayOf_alike al K1.2.1, K1.2.2, by rcases hcod with ⟨-, q, -⟩ | ⟨-, q, -⟩ <;> omega⟩, hcod, fun j hj => by
    have e : cs.getD j 0 = cs[j] := by simp [List.getD_eq_getElem?_getD, hj]
    show ¬ cs.getD j 0 < 0 ∧ ¬ 65535 < cs.getD j 0
    rw [e]; exact hb _ (List.getElem_mem _)⟩
end StrChars.Road
namespace StrChars
open Jvm Sem ClassFile Op Lib Jvm.Stand Jvm.Free.XT Jvm.Free.ALB Jvm.Free.JM Jvm.Free
open Jvm.Lib.Cold (StaticIs)
namespace ChN
def yN : MethodName := ⟨"java/lang/String", "charAt", "(I)C"⟩
abbrev yB : ByteArray := jdk_42_method_56_code
theorem d0 : decode yB 0 = .ok (.aload_n 0, 1) := by decide +kernel
theorem d1 : decode yB 1 = .ok (.invokevirtual 492, 3) := by decide +kernel
theorem d4 : decode yB 4 = .ok (.ifCond (.eq) 12, 3) := by decide +kernel
theorem d7 : decode yB 7 = .ok (.aload_n 0, 1) := by decide +kernel
theorem d8 : decode yB 8 = .ok (.getfield 9, 3) := by decide +kernel
theorem d11 : decode yB 11 = .ok (.iload_n 1, 1) := by decide +kernel
theorem d12 : decode yB 12 = .ok (.invokestatic 495, 3) := by decide +kernel
theorem d15 : decode yB 15 = .ok (.ireturn, 1) := by decide +kernel
def site : List Cond := [.fieldLink "java/lang/String" 9 "java/lang/String" "value" "[B", IsL.tab, LChA.tab] ++ virtW "java/lang/String" 492 "java/lang/String" IsL.yN IsL.yN ++ staticW "java/lang/String" 495 LChA.yN
def tab : Cond := tabOf yN yB 2 (some .char) site
def P (x t : Addr) (V : Cell) (n : Nat) (f : Nat → Int32) (z : Int32) (fm : Value) (i : Nat) (args : Array Value) (s : State) : Prop := args = #[.ref x, .int (Int32.ofNat i)] ∧ Txt x t V 0 n f s ∧ i < n ∧ StaticIs s "java/lang/String" "COMPACT_STRINGS" "Z" (.int z) ∧ ¬ z = 0 ∧ StaticIs s "jdk/internal/util/Preconditions" "SIOOBE_FORMATTER" "Ljava/util/function/BiFunction;" fm ∧ fm.isRef = true
def E (f : Nat → Int32) (i : Nat) (r : Option Value) (s u : State) : Prop := XT.PureE (some (.int (f i))) r s u
/-- charAt(i) of a Latin-1 String of n chars, i < n: f i -/
theorem law (l : Launch) (x t : Addr) (V : Cell) (n : Nat) (f : Nat → Int32) (z : Int32) (fm : Value) (i : Nat) : Law l yN 2 1 3 40 yB 2 (some .char) site (P x t V n f z fm i) (E f i) [] 0 0 := by
  refine Law.of_walk (plainFor_of_name (by decide +kernel)) (by decide +kernel) (by decide +kernel) (by decide) (fun _ _ h => by rw [h.1]; rfl) (fun _ U U' hal hh h => ⟨h.1, h.2.1.mv hal hh, h.2.2.1, h.2.2.2.1.there hal hh, h.2.2.2.2.1, h.2.2.2.2.2.1.there hal hh, h.2.2.2.2.2.2⟩) (fun r U U' V V' h1 hal h2 h => XT.PureE.mv r U U' V V' h1 hal h2 h) ?_
  intro p e s m args below meth c s₁ X0 hexec hbytes hml hret hlk hnm hown hh0 W hP
  obtain ⟨rfl, hx, hi, s1, hz, s3, rf⟩ := hP
  have v31 := hx.2.2.2.1.2.2.2
  have hr := hx.2.2.2.2.2 i hi
  have hx0 := hx.mv X0.warmed.alike hh0
  have c1 : Steps p.tables e below (s₁.setTop (entryFrame m #[.ref x, .int (Int32.ofNat i)] 2)) (s₁.setTop (mkF m 1 #[.val (.ref x), .val (.int (Int32.ofNat i))] [.ref x])) := Steps.trans (entry rfl) (by
    show Steps p.tables e below (s₁.setTop (mkF m 0 #[.val (.ref x), .val (.int (Int32.ofNat i))] [])) _
    refine XS.aloadN X0.here hexec rfl (hb hbytes d0) rfl rfl ?_
    exact Steps.refl _)
  obtain ⟨v2, T2, X2, E2, g2⟩ := X0.callV hexec (IsL.law l x 0 z) hown (wks W (virtW "java/lang/String" 492 "java/lang/String" IsL.yN IsL.yN)) rfl (by decide) (wk W IsL.tab) (W := 0) (Nat.le_of_ble_eq_true rfl) (Nat.le_of_ble_eq_true rfl) (Nat.le_refl _) (Nat.le_refl _) (hx0.1.fc X0.warmed.alike) hx0.1.is (g := (mkF m 1 #[.val (.ref x), .val (.int (Int32.ofNat i))] [.ref x])) rfl (by rw [hml]; rfl) c1 (argsL := []) (rest := []) rfl rfl (by show 2 * 0 + 0 ≤ _; decide) (hb hbytes d1) (⟨rfl, hx0.2.2.1, hx.2.2.2.2.1.cd, s1.there X0.warmed.alike hh0, hz⟩)
  obtain ⟨rfl, q2⟩ := E2
  have hh2 := q2.trans hh0
  have hx2 := hx.mv X2.warmed.alike hh2
  obtain ⟨-, k1, k2⟩ | ⟨k0, -⟩ := hx.2.2.2.2.1
  · have c3 : Steps p.tables e below (s₁.setTop (entryFrame m #[.ref x, .int (Int32.ofNat i)] 2)) (T2.setTop (mkF m 8 #[.val (.ref x), .val (.int (Int32.ofNat i))] [.ref x])) := Steps.trans g2 (by
      refine XS.ifNo X2.here hexec rfl (hb hbytes d4) rfl (i0_eq_f (by decide)) ?_
      refine XS.aloadN X2.here hexec rfl (hb hbytes d7) rfl rfl ?_
      exact Steps.refl _)
    obtain ⟨T4, X4, q4, st4⟩ := X2.hget hexec hown (wk W (.fieldLink "java/lang/String" 9 "java/lang/String" "value" "[B")) hx2.2.1 (g := (mkF m 8 #[.val (.ref x), .val (.int (Int32.ofNat i))] [.ref x])) rfl (rest := []) rfl (hb hbytes d8)
    have hh4 := q4.trans hh2
    have c5 : Steps p.tables e below (s₁.setTop (entryFrame m #[.ref x, .int (Int32.ofNat i)] 2)) (T4.setTop (mkF m 12 #[.val (.ref x), .val (.int (Int32.ofNat i))] [.int (Int32.ofNat i), .ref t])) := (c3.trans (st4 _ (Steps.refl _))).trans (by
      refine XS.iloadN X4.here hexec rfl (hb hbytes d11) rfl ?_
      exact Steps.refl _)
    obtain ⟨v6, T6, X6, E6, g6⟩ := X4.callS hexec (LChA.law l t V i (lo8 (f i)) fm) hown (wks W (staticW "java/lang/String" 495 LChA.yN)) (wk W LChA.tab) (W := 0) (Nat.le_of_ble_eq_true rfl) (Nat.le_of_ble_eq_true rfl) (Nat.le_refl _) (Nat.le_refl _) (g := (mkF m 12 #[.val (.ref x), .val (.int (Int32.ofNat i))] [.int (Int32.ofNat i), .ref t])) rfl (by rw [hml]; rfl) c5 (argsL := [.ref t, .int (Int32.ofNat i)]) (rest := []) rfl rfl (by show 2 * 0 + 0 ≤ _; decide) (hb hbytes d12) (⟨rfl, hx.2.2.2.1.mv X4.warmed.alike hh4, (k2 i hi).1, s3.there X4.warmed.alike hh4, rf⟩)
    obtain ⟨rfl, q6⟩ := E6
    rw [chr8_lo8 hr.1 (k2 i hi).2] at g6
    exact ⟨T6, some (.int (f i)), _, _, _, X6, rfl, rfl, rfl, (fun h => by cases h), ⟨rfl, q6.trans hh4⟩, fun fs hl => Steps.trans g6 (X6.ireturnOut hexec hret (narrow_ch hr.1 hr.2) (Or.inr (Or.inr (Or.inr (Or.inl rfl)))) (hb hbytes d15) hl)⟩
  · exact absurd k0 (by decide)
theorem pays {l : Launch} {R : Room} {p : Program} {e : Env} {below : List Frame} {s : State} {sargs : Array Value} {len W : Nat} (x t : Addr) (V : Cell) (n : Nat) (f : Nat → Int32) (z : Int32) (fm : Value) (i : Nat) (htab : tab.before sargs s = true) (hfr : 4 ≤ R.frames) (hlo : W + 53 ≤ R.locals) :
    Back l R p e below s sargs yN len W (fun A₁ a₁ => A₁.cells + 0 ≤ R.cells ∧ A₁.slots + 0 ≤ R.slots ∧ P x t V n f z fm i a₁ A₁.U) (fun A₁ _ v₁ B₁ => E f i v₁ A₁.U B₁.U ∧ B₁.locs = A₁.locs ++ [] ∧ B₁.cells = A₁.cells + 0 ∧ B₁.slots = A₁.slots + 0) :=
  (law l x t V n f z fm i).pays htab hfr (by omega)
end ChN
end StrChars
namespace StrChars.Road
open Jvm Sem ClassFile Op Lib Jvm.Stand Jvm.Free Jvm.Free.XT
open Jvm.Lib.Cold (StaticIs)
/-- the words of String.charAt(int), the Latin-1 road alone -/
abbrev wordsChN : List Jvm.Cond := [.code ChN.yN ChN.yB 2 (some .char), .initialized ST, .fieldLink ST 9 ST "value" "[B", .fieldLink ST 38 ST "COMPACT_STRINGS" "Z", .fieldLink ST 15 ST "coder" "B", .code IsL.yN IsL.yB 1 (some .boolean), .methodLink ST 492 IsL.yN, .declares IsL.yN, .selects ST IsL.yN IsL.yN, .instanceMethod IsL.yN,
  .methodLink ST 495 LChA.yN, .static LChA.yN, .code LChA.yN LChA.yB 2 (some .char), .initialized "java/lang/StringLatin1", .methodLink "java/lang/StringLatin1" 9 JO.Str_checkIndex.yN, .static JO.Str_checkIndex.yN, .code JO.Str_checkIndex.yN JO.Str_checkIndex.yB 2 none,
  .fieldLink ST 1053 "jdk/internal/util/Preconditions" "SIOOBE_FORMATTER" "Ljava/util/function/BiFunction;", .methodLink ST 1059 JC.PreCheck.yN, .static JC.PreCheck.yN, .code JC.PreCheck.yN JC.PreCheck.yB 3 (some .int), .initialized "jdk/internal/util/Preconditions"]
theorem tabChN_of {a : Array Value} {s : State} (h : ∀ w ∈ wordsChN, w.before a s = true) : ChN.tab.before a s = true := by
  have hp : JC.PreCheck.tab.before a s = true := unparts (wk h (.code JC.PreCheck.yN JC.PreCheck.yB 3 (some .int))) (wks h (.initialized JC.PreCheck.yN.cls :: JC.PreCheck.site))
  have qk := consq hp h
  have hk : JO.Str_checkIndex.tab.before a s = true := unparts (wk qk (.code JO.Str_checkIndex.yN JO.Str_checkIndex.yB 2 none)) (wks qk (.initialized JO.Str_checkIndex.yN.cls :: JO.Str_checkIndex.site))
  have ql := consq hk h
  have hl : LChA.tab.before a s = true := unparts (wk ql (.code LChA.yN LChA.yB 2 (some .char))) (wks ql (.initialized LChA.yN.cls :: LChA.site))
  have hi : IsL.tab.before a s = true := unparts (wk h (.code IsL.yN IsL.yB 1 (some .boolean))) (wks h (.initialized IsL.yN.cls :: IsL.site))
  have q := consq hi (consq hl h)
  exact unparts (wk q (.code ChN.yN ChN.yB 2 (some .char))) (wks q (.initialized ChN.yN.cls :: ChN.site))
theorem movedChN {Z s : State} {a0 args : Array Value} (hZ : Z.Warmed39 s.vm) (hw : ∀ d ∈ wordsChN, d.before a0 Z = true) : ∀ d ∈ wordsChN, d.before args s = true := fun d hd => by
  have t : ∀ d ∈ wordsChN, (d.onTables && d.keepsFace) = true := by decide +kernel
  exact RoadKit.mv hZ (hw d hd) (t d hd)
/-- **charAt(i) OF A LATIN-1 STRING**, i < n: the char -/
theorem chN {p : Program} {l : Launch} {e : Env} {R : Room} {s : State} {args : Array Value} {below : List Frame} {len W : Nat} {Z : State} {a0 : Array Value} {h : Heap} (hZ : Z.Warmed39 s.vm) (hw : ∀ d ∈ wordsChN, d.before a0 Z = true) {kI : Nat} (wi : (Jvm.Cond.instantiable ST kI).before a0 Z = true)
    {x t : Addr} {kb : ClassId} {cs : List Int32} {N2 z : Int32} {vs : List Value} {fm : Value} {i : Nat} {j : Int32} (E : RoadKit.Exa Z h x ST) (V : RoadKit.Fld Z h x ST "value" "[B" (.ref t)) (C : RoadKit.Fld Z h x ST "coder" "B" (.int 0)) (K : RoadKit.Arv Z h t kb .byte N2 vs (.int 0)) (hc : CodA cs 0 N2 vs) (hb : ∀ c ∈ cs, ¬ c < 0 ∧ ¬ (65535 : Int32) < c)
    (S : RoadKit.Sta Z h ST "COMPACT_STRINGS" "Z" (.int z)) (hz : ¬ z = 0) (F : RoadKit.Sta Z h "jdk/internal/util/Preconditions" "SIOOBE_FORMATTER" "Ljava/util/function/BiFunction;" fm) (rf : fm.isRef = true) (l2 : cs.length ≤ 4000) (hi : i < cs.length) (hj : j = Int32.ofNat i) (hfr : 4 ≤ R.frames) (hlo : W + 53 ≤ R.locals) :
    Back l R p e below s args (⟨"java/lang/String", "charAt", "(I)C"⟩ : MethodName) len W (fun P a => a = #[.ref x, .int j] ∧ P.U.heap = h ∧ P.cells + 0 ≤ R.cells ∧ P.slots + 0 ≤ R.slots)
      (fun P _ v B => ∃ L, (v = some (.int (cs.getD i 0)) ∧ L = [] ∧ B.U.heap = h) ∧ B.locs = P.locs ++ L ∧ B.cells = P.cells + 0 ∧ B.slots = P.slots + 0) := by
  subst hj
  intro m meth c P g ig mk a X hg hsize hdg hW hn hp'
  obtain ⟨rfl, rfl, r1, r2⟩ := hp'
  have al : Z.vm.Alike P.U.vm := hZ.alike.trans X.warmed.alike
  obtain ⟨A, hx⟩ := txt_of wi al E V C K hc hb l2
  obtain ⟨v, B, X', ⟨⟨hv, hh⟩, hl, hk, hs⟩, st⟩ := ChN.pays x t A cs.length (fun j => cs.getD j 0) z fm i (tabChN_of (movedChN hZ hw)) hfr hlo m meth c P g ig mk _ X hg hsize hdg hW hn ⟨r1, r2, rfl, hx, hi, sta_is al S, hz, sta_is al F, rf⟩
  exact ⟨v, B, X', ⟨[], ⟨hv, rfl, hh⟩, hl, hk, hs⟩, st⟩
/-- what backV says of its String, as the contracts of this text ask it: cs's low bytes, coder 0 -/
theorem codOf {cs : List Int32} {n : Nat} (hn : cs.length = n) (hb : ∀ c ∈ cs, ¬ 255 < c) : CodA cs 0 (Int32.ofNat n) ((cs.map lo8).map Value.int) := Or.inl ⟨rfl, by rw [hn], by simp [List.map_map, Function.comp_def], hb⟩
end StrChars.Road
end Jvm.Pilot.@@N@@

namespace Jvm.Pilot.@@N@@
open Jvm Jvm.ClassFile Sem Op Lib Jvm.Free Jvm.Stand Jvm.LawKit Jvm.RoadKit Bundle Jvm.Pilot.@@N@@.Jvm.D

/-! A small layer of this proof's own: a goal 'the run from here ends well' (own_G), in continuation style, and one rule a step over the library's laws. -/
section OwnKit
variable {p : Program} {l : Launch} {e : Env} {R : Room} {s : State} {m : MethodId} {args : Array Value} {below : List Frame} {meth : Method} {c : Code} {T : State} {locs : List Loc} {cells slots : Nat} {Z : State} {a0 : Array Value} {h : Heap} {F : Outcome → State → Prop} {pc pc' : Nat} {Ls : Array Slot} {st stk : List Value}
/-- from st the run ends, and F holds of its end -/
def own_G (p : Program) (e : Env) (below : List Frame) (F : Outcome → State → Prop) (st : State) : Prop := ∃ U o, Steps p.tables e below st U ∧ U.status = .running ∧ Ended U below o ∧ F o U
theorem own_step {a b : State} (hs : ∀ t, Steps p.tables e below b t → Steps p.tables e below a t) (g : own_G p e below F b) : own_G p e below F a := by
  obtain ⟨U, o, h1, h2⟩ := g; exact ⟨U, o, hs _ h1, h2⟩
theorem own_go {a b : State} (hs : Steps p.tables e below a b) (g : own_G p e below F b) : own_G p e below F a := own_step (fun _ k => hs.trans k) g
/-- it returned v, with Q of v, the heap and the places written -/
def own_F (s : State) (Q : Option Value → Heap → List Loc → Prop) (k n : Nat) (o : Outcome) (U : State) : Prop := ∃ v L, o = .returned v ∧ Q v U.heap L ∧ FrameEnd s o U L k n
abbrev own_Met (l : Launch) (Z : State) (y : MethodName) (bytes : ByteArray) (maxL : Nat) (ret : Option FieldType) (ws : List Jvm.Cond) (rm : Room) (as : Array Value) (h : Heap) (Q : Option Value → Heap → List Loc → Prop) : Prop :=
  MetFree l y (head1 (Jvm.Cond.code y bytes maxL ret :: ws) rm) (fun a U => a = as ∧ Z.Warmed39 U.vm ∧ U.heap = h) (fun _ _ _ _ _ => True) (fun _ U o U' => ∃ v L, o = .returned v ∧ Q v U'.heap L ∧ FrameEnd U o U' L rm.cells rm.slots)
/-- a body that returns r, writes nothing and makes nothing -/
def own_P (r : Option Value) (h0 : Heap) (v : Option Value) (h : Heap) (L : List Loc) : Prop := v = r ∧ L = [] ∧ h = h0
theorem own_enter {y : MethodName} {bytes : ByteArray} {maxL : Nat} {ret : Option FieldType} {ws : List Jvm.Cond} {rm : Room} {as : Array Value} {Q : Option Value → Heap → List Loc → Prop} (hp : plainFor y = true) {fr : Array Slot} (hfr : ∀ m, entryFrame m as maxL = mkF m 0 fr [])
    (body : ∀ (p : Program) (e : Env) (s : State) (m : MethodId) (below : List Frame) (meth : Method) (c : Code) (T : State), p.tables.exec = Jvm.exec → c.code = bytes → c.maxLocals = maxL → Z.Warmed39 s.vm → s.vm.findClass y.cls = some m.cls → meth.name = y.name → meth.sig.returnType = ret → meth.locks = false →
      Stand p l e rm s m as below meth c T [] 0 0 → T.heap = h → own_G p e below (own_F s Q rm.cells rm.slots) (T.setTop (mkF m 0 fr []))) : own_Met l Z y bytes maxL ret ws rm as h Q := by
  refine MetFree.of_bodySF hp hisR ?_
  intro p e s m args below meth c s₁ Bd hml0 hP hK
  obtain ⟨rfl, hZ, hh⟩ := hP
  have q := body p e s m below meth c s₁ Bd.exec Bd.bytes hml0 hZ (findClass_of_methodNamed Bd.named) (name_of_methodNamed Bd.named Bd.method).1 Bd.returns (BodyLoose.notSynchronized Bd) (Stand.of_body Bd) (by rw [← hh, Bd.state]; rfl)
  rw [hfr m]; exact q
theorem own_w {a0 : Array Value} {Z : State} {ts : List Jvm.Cond} (hw : ∀ d ∈ ts, d.before a0 Z = true) (i : Nat) {d : Jvm.Cond} (h : ts[i]? = some d) : d.before a0 Z = true := hw d (List.mem_of_getElem? h)
/-! returns -/
theorem own_ret {Q : Option Value → Heap → List Loc → Prop} {k n : Nat} {v : Option Value} {fr : JFrame} (X : Stand p l e R s m args below meth c T locs cells slots) (hv : meth.sig.returnType = none → v = none) (hlk : meth.locks = false)
    (hst : ∀ fs, (∀ (f : JFrame) (acts : List Action), f.method = m → f.locked = none → f.entered = [] → (doReturn e (T.setTop f) acts v).1 = T.setFrames fs) → Steps p.tables e below (T.setTop fr) (T.setFrames fs)) (hQ : Q v T.heap locs) (hc : cells ≤ k) (hn : slots ≤ n) : own_G p e below (own_F s Q k n) (T.setTop fr) := by
  obtain ⟨fs, hr, hrun, hended, hW, hsame⟩ := X.leave (v := v) hv hlk
  exact ⟨_, _, hst fs hr, hrun, hended, v, locs, rfl, hQ, ⟨_, rfl⟩, hW, hsame.mono hc hn⟩
theorem own_stepI (X : Stand p l e R s m args below meth c T locs cells slots) (hx : p.tables.exec = Jvm.exec) {z : Int32} (hret : meth.sig.returnType = some .int) (hd : decode c.code pc = .ok (.ireturn, 1)) {fs : List Frame}
    (hl : ∀ (f : JFrame) (acts : List Action), f.method = m → f.locked = none → f.entered = [] → (doReturn e (T.setTop f) acts (some (.int z))).1 = T.setFrames fs) : Steps p.tables e below (T.setTop (mkF m pc Ls (.int z :: st))) (T.setFrames fs) :=
  retOut X hx (w := .int z) (t := .int) (i := .ireturn) hret rfl (Or.inl ⟨rfl, Or.inl rfl, z, rfl⟩) hd hl
theorem own_retI {Q : Option Value → Heap → List Loc → Prop} {k n : Nat} {z : Int32} (X : Stand p l e R s m args below meth c T locs cells slots) (hx : p.tables.exec = Jvm.exec) (hret : meth.sig.returnType = some .int) (hlk : meth.locks = false) (hd : decode c.code pc = .ok (.ireturn, 1))
    (hQ : Q (some (.int z)) T.heap locs) (hc : cells ≤ k) (hn : slots ≤ n) : own_G p e below (own_F s Q k n) (T.setTop (mkF m pc Ls (.int z :: st))) :=
  own_ret X (fun q => by rw [hret] at q; cases q) hlk (fun _ hr => own_stepI X hx hret hd hr) hQ hc hn
theorem own_retN {Q : Option Value → Heap → List Loc → Prop} {k n : Nat} {z : Int32} {t : FieldType} (X : Stand p l e R s m args below meth c T locs cells slots) (hx : p.tables.exec = Jvm.exec) (hret : meth.sig.returnType = some t) (ht : t = .boolean ∨ t = .byte ∨ t = .char ∨ t = .short) (hlk : meth.locks = false) (hd : decode c.code pc = .ok (.ireturn, 1))
    (hQ : Q (some (.int (nar t z))) T.heap locs) (hc : cells ≤ k) (hn : slots ≤ n) : own_G p e below (own_F s Q k n) (T.setTop (mkF m pc Ls (.int z :: st))) :=
  own_ret X (fun q => by rw [hret] at q; cases q) hlk (fun _ hr => retN X hx hret ht hd hr) hQ hc hn
theorem own_retR {Q : Option Value → Heap → List Loc → Prop} {k n : Nat} {w : Value} {t : FieldType} (X : Stand p l e R s m args below meth c T locs cells slots) (hx : p.tables.exec = Jvm.exec) (hret : meth.sig.returnType = some t) (ht : t.isReference = true) (hnw : narrow t w = w) (hwr : w.isRef = true) (hlk : meth.locks = false) (hd : decode c.code pc = .ok (.areturn, 1))
    (hQ : Q (some w) T.heap locs) (hc : cells ≤ k) (hn : slots ≤ n) : own_G p e below (own_F s Q k n) (T.setTop (mkF m pc Ls (w :: st))) :=
  own_ret X (fun q => by rw [hret] at q; cases q) hlk (fun _ hr => retOut X hx (t := t) (i := .areturn) hret hnw (Or.inr (Or.inr (Or.inr (Or.inr ⟨rfl, ht, hwr⟩)))) hd hr) hQ hc hn
theorem own_retV {Q : Option Value → Heap → List Loc → Prop} {k n : Nat} (X : Stand p l e R s m args below meth c T locs cells slots) (hx : p.tables.exec = Jvm.exec) (hret : meth.sig.returnType = none) (hlk : meth.locks = false) (hd : decode c.code pc = .ok (.return_, 1))
    (hQ : Q none T.heap locs) (hc : cells ≤ k) (hn : slots ≤ n) : own_G p e below (own_F s Q k n) (T.setTop (mkF m pc Ls [])) :=
  own_ret X (fun _ => rfl) hlk (fun _ hr => X.returnOut hx hret hd hr) hQ hc hn
/-! branches -/
theorem own_icmp {P : Prop} {cd : ClassFile.Cond} {x y : Int32} {o : Int} (X : Stand p l e R s m args below meth c T locs cells slots) (hx : p.tables.exec = Jvm.exec) (hd : decode c.code pc = .ok (.if_icmp cd o, 3)) (ho : 0 ≤ (pc : Int) + o) (hp : ((pc : Int) + o).toNat = pc')
    (h1 : P → if_icmp.holds cd x y = true) (h2 : ¬ P → if_icmp.holds cd x y = false) (yes : P → own_G p e below F (T.setTop (mkF m pc' Ls st))) (no : ¬ P → own_G p e below F (T.setTop (mkF m (pc + 3) Ls st))) : own_G p e below F (T.setTop (mkF m pc Ls (.int y :: .int x :: st))) := by
  by_cases q : P
  · exact own_step (fun t k => XS.icmpYes X.here hx rfl (pc0 := pc) (pc' := pc') rfl hd rfl (h1 q) ho hp k) (yes q)
  · exact own_step (fun t k => XS.icmpNo X.here hx rfl hd rfl (h2 q) k) (no q)
theorem own_ifc {P : Prop} {cd : ClassFile.Cond} {x : Int32} {o : Int} (X : Stand p l e R s m args below meth c T locs cells slots) (hx : p.tables.exec = Jvm.exec) (hd : decode c.code pc = .ok (.ifCond cd o, 3)) (ho : 0 ≤ (pc : Int) + o) (hp : ((pc : Int) + o).toNat = pc')
    (h1 : P → ifCond.holds cd x = true) (h2 : ¬ P → ifCond.holds cd x = false) (yes : P → own_G p e below F (T.setTop (mkF m pc' Ls st))) (no : ¬ P → own_G p e below F (T.setTop (mkF m (pc + 3) Ls st))) : own_G p e below F (T.setTop (mkF m pc Ls (.int x :: st))) := by
  by_cases q : P
  · exact own_step (fun t k => XS.ifYes X.here hx rfl (pc0 := pc) (pc' := pc') rfl hd rfl (h1 q) ho hp k) (yes q)
  · exact own_step (fun t k => XS.ifNo X.here hx rfl hd rfl (h2 q) k) (no q)
theorem own_icmp_eq {x y : Int32} {o : Int} (X : Stand p l e R s m args below meth c T locs cells slots) (hx : p.tables.exec = Jvm.exec) (hd : decode c.code pc = .ok (.if_icmp .eq o, 3)) (ho : 0 ≤ (pc : Int) + o) (hp : ((pc : Int) + o).toNat = pc')
    (yes : x = y → own_G p e below F (T.setTop (mkF m pc' Ls st))) (no : ¬ x = y → own_G p e below F (T.setTop (mkF m (pc + 3) Ls st))) : own_G p e below F (T.setTop (mkF m pc Ls (.int y :: .int x :: st))) :=
  own_icmp (P := x = y) X hx hd ho hp (fun q => by have q' := q; simp [if_icmp.holds, Int32.not_lt, Int32.not_le] at q' ⊢; exact q') (fun q => by have q' := q; simp [if_icmp.holds, Int32.not_lt, Int32.not_le] at q' ⊢; exact q') yes (fun q => no (by first | exact q | exact Classical.not_not.mp q))
theorem own_if_eq {x : Int32} {o : Int} (X : Stand p l e R s m args below meth c T locs cells slots) (hx : p.tables.exec = Jvm.exec) (hd : decode c.code pc = .ok (.ifCond .eq o, 3)) (ho : 0 ≤ (pc : Int) + o) (hp : ((pc : Int) + o).toNat = pc')
    (yes : x = 0 → own_G p e below F (T.setTop (mkF m pc' Ls st))) (no : ¬ x = 0 → own_G p e below F (T.setTop (mkF m (pc + 3) Ls st))) : own_G p e below F (T.setTop (mkF m pc Ls (.int x :: st))) :=
  own_ifc (P := x = 0) X hx hd ho hp (fun q => by have q' := q; simp [ifCond.holds, Int32.not_lt, Int32.not_le] at q' ⊢; exact q') (fun q => by have q' := q; simp [ifCond.holds, Int32.not_lt, Int32.not_le] at q' ⊢; exact q') yes (fun q => no (by first | exact q | exact Classical.not_not.mp q))
theorem own_icmp_ne {x y : Int32} {o : Int} (X : Stand p l e R s m args below meth c T locs cells slots) (hx : p.tables.exec = Jvm.exec) (hd : decode c.code pc = .ok (.if_icmp .ne o, 3)) (ho : 0 ≤ (pc : Int) + o) (hp : ((pc : Int) + o).toNat = pc')
    (yes : ¬ x = y → own_G p e below F (T.setTop (mkF m pc' Ls st))) (no : x = y → own_G p e below F (T.setTop (mkF m (pc + 3) Ls st))) : own_G p e below F (T.setTop (mkF m pc Ls (.int y :: .int x :: st))) :=
  own_icmp (P := ¬ x = y) X hx hd ho hp (fun q => by have q' := q; simp [if_icmp.holds, Int32.not_lt, Int32.not_le] at q' ⊢; exact q') (fun q => by have q' := q; simp [if_icmp.holds, Int32.not_lt, Int32.not_le] at q' ⊢; exact q') yes (fun q => no (by first | exact q | exact Classical.not_not.mp q))
theorem own_if_ne {x : Int32} {o : Int} (X : Stand p l e R s m args below meth c T locs cells slots) (hx : p.tables.exec = Jvm.exec) (hd : decode c.code pc = .ok (.ifCond .ne o, 3)) (ho : 0 ≤ (pc : Int) + o) (hp : ((pc : Int) + o).toNat = pc')
    (yes : ¬ x = 0 → own_G p e below F (T.setTop (mkF m pc' Ls st))) (no : x = 0 → own_G p e below F (T.setTop (mkF m (pc + 3) Ls st))) : own_G p e below F (T.setTop (mkF m pc Ls (.int x :: st))) :=
  own_ifc (P := ¬ x = 0) X hx hd ho hp (fun q => by have q' := q; simp [ifCond.holds, Int32.not_lt, Int32.not_le] at q' ⊢; exact q') (fun q => by have q' := q; simp [ifCond.holds, Int32.not_lt, Int32.not_le] at q' ⊢; exact q') yes (fun q => no (by first | exact q | exact Classical.not_not.mp q))
theorem own_icmp_lt {x y : Int32} {o : Int} (X : Stand p l e R s m args below meth c T locs cells slots) (hx : p.tables.exec = Jvm.exec) (hd : decode c.code pc = .ok (.if_icmp .lt o, 3)) (ho : 0 ≤ (pc : Int) + o) (hp : ((pc : Int) + o).toNat = pc')
    (yes : x < y → own_G p e below F (T.setTop (mkF m pc' Ls st))) (no : ¬ x < y → own_G p e below F (T.setTop (mkF m (pc + 3) Ls st))) : own_G p e below F (T.setTop (mkF m pc Ls (.int y :: .int x :: st))) :=
  own_icmp (P := x < y) X hx hd ho hp (fun q => by have q' := q; simp [if_icmp.holds, Int32.not_lt, Int32.not_le] at q' ⊢; exact q') (fun q => by have q' := q; simp [if_icmp.holds, Int32.not_lt, Int32.not_le] at q' ⊢; exact q') yes (fun q => no (by first | exact q | exact Classical.not_not.mp q))
theorem own_if_lt {x : Int32} {o : Int} (X : Stand p l e R s m args below meth c T locs cells slots) (hx : p.tables.exec = Jvm.exec) (hd : decode c.code pc = .ok (.ifCond .lt o, 3)) (ho : 0 ≤ (pc : Int) + o) (hp : ((pc : Int) + o).toNat = pc')
    (yes : x < 0 → own_G p e below F (T.setTop (mkF m pc' Ls st))) (no : ¬ x < 0 → own_G p e below F (T.setTop (mkF m (pc + 3) Ls st))) : own_G p e below F (T.setTop (mkF m pc Ls (.int x :: st))) :=
  own_ifc (P := x < 0) X hx hd ho hp (fun q => by have q' := q; simp [ifCond.holds, Int32.not_lt, Int32.not_le] at q' ⊢; exact q') (fun q => by have q' := q; simp [ifCond.holds, Int32.not_lt, Int32.not_le] at q' ⊢; exact q') yes (fun q => no (by first | exact q | exact Classical.not_not.mp q))
theorem own_icmp_ge {x y : Int32} {o : Int} (X : Stand p l e R s m args below meth c T locs cells slots) (hx : p.tables.exec = Jvm.exec) (hd : decode c.code pc = .ok (.if_icmp .ge o, 3)) (ho : 0 ≤ (pc : Int) + o) (hp : ((pc : Int) + o).toNat = pc')
    (yes : ¬ x < y → own_G p e below F (T.setTop (mkF m pc' Ls st))) (no : x < y → own_G p e below F (T.setTop (mkF m (pc + 3) Ls st))) : own_G p e below F (T.setTop (mkF m pc Ls (.int y :: .int x :: st))) :=
  own_icmp (P := ¬ x < y) X hx hd ho hp (fun q => by have q' := q; simp [if_icmp.holds, Int32.not_lt, Int32.not_le] at q' ⊢; exact q') (fun q => by have q' := q; simp [if_icmp.holds, Int32.not_lt, Int32.not_le] at q' ⊢; exact q') yes (fun q => no (by first | exact q | exact Classical.not_not.mp q))
theorem own_if_ge {x : Int32} {o : Int} (X : Stand p l e R s m args below meth c T locs cells slots) (hx : p.tables.exec = Jvm.exec) (hd : decode c.code pc = .ok (.ifCond .ge o, 3)) (ho : 0 ≤ (pc : Int) + o) (hp : ((pc : Int) + o).toNat = pc')
    (yes : ¬ x < 0 → own_G p e below F (T.setTop (mkF m pc' Ls st))) (no : x < 0 → own_G p e below F (T.setTop (mkF m (pc + 3) Ls st))) : own_G p e below F (T.setTop (mkF m pc Ls (.int x :: st))) :=
  own_ifc (P := ¬ x < 0) X hx hd ho hp (fun q => by have q' := q; simp [ifCond.holds, Int32.not_lt, Int32.not_le] at q' ⊢; exact q') (fun q => by have q' := q; simp [ifCond.holds, Int32.not_lt, Int32.not_le] at q' ⊢; exact q') yes (fun q => no (by first | exact q | exact Classical.not_not.mp q))
theorem own_icmp_gt {x y : Int32} {o : Int} (X : Stand p l e R s m args below meth c T locs cells slots) (hx : p.tables.exec = Jvm.exec) (hd : decode c.code pc = .ok (.if_icmp .gt o, 3)) (ho : 0 ≤ (pc : Int) + o) (hp : ((pc : Int) + o).toNat = pc')
    (yes : y < x → own_G p e below F (T.setTop (mkF m pc' Ls st))) (no : ¬ y < x → own_G p e below F (T.setTop (mkF m (pc + 3) Ls st))) : own_G p e below F (T.setTop (mkF m pc Ls (.int y :: .int x :: st))) :=
  own_icmp (P := y < x) X hx hd ho hp (fun q => by have q' := q; simp [if_icmp.holds, Int32.not_lt, Int32.not_le] at q' ⊢; exact q') (fun q => by have q' := q; simp [if_icmp.holds, Int32.not_lt, Int32.not_le] at q' ⊢; exact q') yes (fun q => no (by first | exact q | exact Classical.not_not.mp q))
theorem own_if_gt {x : Int32} {o : Int} (X : Stand p l e R s m args below meth c T locs cells slots) (hx : p.tables.exec = Jvm.exec) (hd : decode c.code pc = .ok (.ifCond .gt o, 3)) (ho : 0 ≤ (pc : Int) + o) (hp : ((pc : Int) + o).toNat = pc')
    (yes : 0 < x → own_G p e below F (T.setTop (mkF m pc' Ls st))) (no : ¬ 0 < x → own_G p e below F (T.setTop (mkF m (pc + 3) Ls st))) : own_G p e below F (T.setTop (mkF m pc Ls (.int x :: st))) :=
  own_ifc (P := 0 < x) X hx hd ho hp (fun q => by have q' := q; simp [ifCond.holds, Int32.not_lt, Int32.not_le] at q' ⊢; exact q') (fun q => by have q' := q; simp [ifCond.holds, Int32.not_lt, Int32.not_le] at q' ⊢; exact q') yes (fun q => no (by first | exact q | exact Classical.not_not.mp q))
theorem own_icmp_le {x y : Int32} {o : Int} (X : Stand p l e R s m args below meth c T locs cells slots) (hx : p.tables.exec = Jvm.exec) (hd : decode c.code pc = .ok (.if_icmp .le o, 3)) (ho : 0 ≤ (pc : Int) + o) (hp : ((pc : Int) + o).toNat = pc')
    (yes : ¬ y < x → own_G p e below F (T.setTop (mkF m pc' Ls st))) (no : y < x → own_G p e below F (T.setTop (mkF m (pc + 3) Ls st))) : own_G p e below F (T.setTop (mkF m pc Ls (.int y :: .int x :: st))) :=
  own_icmp (P := ¬ y < x) X hx hd ho hp (fun q => by have q' := q; simp [if_icmp.holds, Int32.not_lt, Int32.not_le] at q' ⊢; exact q') (fun q => by have q' := q; simp [if_icmp.holds, Int32.not_lt, Int32.not_le] at q' ⊢; exact q') yes (fun q => no (by first | exact q | exact Classical.not_not.mp q))
theorem own_if_le {x : Int32} {o : Int} (X : Stand p l e R s m args below meth c T locs cells slots) (hx : p.tables.exec = Jvm.exec) (hd : decode c.code pc = .ok (.ifCond .le o, 3)) (ho : 0 ≤ (pc : Int) + o) (hp : ((pc : Int) + o).toNat = pc')
    (yes : ¬ 0 < x → own_G p e below F (T.setTop (mkF m pc' Ls st))) (no : 0 < x → own_G p e below F (T.setTop (mkF m (pc + 3) Ls st))) : own_G p e below F (T.setTop (mkF m pc Ls (.int x :: st))) :=
  own_ifc (P := ¬ 0 < x) X hx hd ho hp (fun q => by have q' := q; simp [ifCond.holds, Int32.not_lt, Int32.not_le] at q' ⊢; exact q') (fun q => by have q' := q; simp [ifCond.holds, Int32.not_lt, Int32.not_le] at q' ⊢; exact q') yes (fun q => no (by first | exact q | exact Classical.not_not.mp q))
theorem own_nonnull_ref {b : Addr} {o : Int} (X : Stand p l e R s m args below meth c T locs cells slots) (hx : p.tables.exec = Jvm.exec) (hd : decode c.code pc = .ok (.ifnonnull o, 3)) (ho : 0 ≤ (pc : Int) + o) (hp : ((pc : Int) + o).toNat = pc')
    (yes : own_G p e below F (T.setTop (mkF m pc' Ls st))) : own_G p e below F (T.setTop (mkF m pc Ls (.ref b :: st))) := own_step (fun t k => XT.ifnonnullYes X.here hx rfl (pc0 := pc) (pc' := pc') rfl hd rfl ho hp k) yes
theorem own_nonnull_null {o : Int} (X : Stand p l e R s m args below meth c T locs cells slots) (hx : p.tables.exec = Jvm.exec) (hd : decode c.code pc = .ok (.ifnonnull o, 3))
    (no : own_G p e below F (T.setTop (mkF m (pc + 3) Ls st))) : own_G p e below F (T.setTop (mkF m pc Ls (.null :: st))) := own_step (fun t k => XT.ifnonnullNo X.here hx rfl hd rfl k) no
/-! the heap -/
theorem own_getF (X : Stand p l e R s m args below meth c T locs cells slots) (hx : p.tables.exec = Jvm.exec) (hZ : Z.Warmed39 s.vm) {own O n d : String} {index : Nat} (hown : s.vm.findClass own = some m.cls) (w : (Jvm.Cond.fieldLink own index O n d).before a0 Z = true) (eT : T.heap = h) {a : Addr} {v : Value} (Fd : Fld Z h a O n d v) (hd : decode c.code pc = .ok (.getfield index, 3))
    (k : ∀ T', Stand p l e R s m args below meth c T' locs cells slots → T'.heap = h → own_G p e below F (T'.setTop (mkF m (pc + 3) Ls (v :: st)))) : own_G p e below F (T.setTop (mkF m pc Ls (.ref a :: st))) := by
  obtain ⟨T', X', e', st'⟩ := getF X hx hZ hown (host := "") (Or.inl w) Via.refl eT Fd (g := mkF m pc Ls (.ref a :: st)) rfl rfl hd
  exact own_step st' (k T' X' e')
theorem own_getS (X : Stand p l e R s m args below meth c T locs cells slots) (hx : p.tables.exec = Jvm.exec) (hZ : Z.Warmed39 s.vm) {own O n d : String} {index : Nat} (hown : s.vm.findClass own = some m.cls) (w : (Jvm.Cond.fieldLink own index O n d).before a0 Z = true) (eT : T.heap = h) {v : Value} (Fd : Sta Z h O n d v) (hd : decode c.code pc = .ok (.getstatic index, 3))
    (k : ∀ T', Stand p l e R s m args below meth c T' locs cells slots → T'.heap = h → own_G p e below F (T'.setTop (mkF m (pc + 3) Ls (v :: st)))) : own_G p e below F (T.setTop (mkF m pc Ls st)) := by
  obtain ⟨T', X', e', st'⟩ := getS X hx hZ (host := "") hown w Via.refl eT Fd (g := mkF m pc Ls st) rfl hd
  exact own_step st' (k T' X' e')
theorem own_putF (X : Stand p l e R s m args below meth c T locs cells slots) (hx : p.tables.exec = Jvm.exec) (hZ : Z.Warmed39 s.vm) {own O n d C : String} {index kk : Nat} {ty : FieldType} (hown : s.vm.findClass own = some m.cls) (w : (Jvm.Cond.fieldLink own index O n d).before a0 Z = true) (eT : T.heap = h) {a : Addr} {v old : Value} (Fd : Fld Z h a O n d old) (E : Exa Z h a C)
    (L : (Jvm.Cond.lays C O n d).before a0 Z = true ∨ ((Jvm.Cond.laysFinal C O n d).before a0 Z = true ∧ own = O ∧ meth.name = "<init>")) (wi : (Jvm.Cond.instantiable C kk).before a0 Z = true) (hty : parseFieldDescriptor d = some ty) (hn : narrow ty v = v) (hf : fits ty v = true) (N : Fr Z.heap.size locs) (ha : Z.heap.size ≤ a) (hd : decode c.code pc = .ok (.putfield index, 3))
    (k : ∀ T' h', Stand p l e R s m args below meth c T' (locs ++ [⟨a, Jvm.RoadKit.slotOf Z O n d⟩]) cells slots → T'.heap = h' → Fr Z.heap.size (locs ++ [⟨a, Jvm.RoadKit.slotOf Z O n d⟩]) → Wr h h' a (Jvm.RoadKit.slotOf Z O n d) v → h'.size = h.size → Fld Z h' a O n d v → Exa Z h' a C → own_G p e below F (T'.setTop (mkF m (pc + 3) Ls st))) : own_G p e below F (T.setTop (mkF m pc Ls (v :: .ref a :: st))) := by
  obtain ⟨T', h', X', e', W', st'⟩ := putF X hx hZ hown (host := "") (Or.inl w) Via.refl eT Fd E L wi hty hn hf (g := mkF m pc Ls (v :: .ref a :: st)) rfl rfl hd
  exact own_step st' (k T' h' X' e' (Fr.snoc X' N ha) W' W'.size (Fd.same W') (E.wr W'))
theorem own_newO (X : Stand p l e R s m args below meth c T locs cells slots) (hx : p.tables.exec = Jvm.exec) (hZ : Z.Warmed39 s.vm) {own C : String} {index n : Nat} (hown : s.vm.findClass own = some m.cls) (w : (Jvm.Cond.classLink own index C).before a0 Z = true) (wi : (Jvm.Cond.instantiable C n).before a0 Z = true) (wz : (Jvm.Cond.initialized C).before a0 Z = true) (eT : T.heap = h)
    (hd : decode c.code pc = .ok (.new index, 3)) (hc : cells + 1 ≤ R.cells) (hl : slots + n ≤ R.slots)
    (k : ∀ T' h' a, Stand p l e R s m args below meth c T' locs (cells + 1) (slots + n) → T'.heap = h' → a = h.size → a < h'.size → Ext h h' → Exa Z h' a C → (∀ {O nm d : String} {ty : FieldType}, Laid Z a0 C O nm d → parseFieldDescriptor d = some ty → Fld Z h' a O nm d (defaultValue ty)) →
      own_G p e below F (T'.setTop (mkF m (pc + 3) Ls (.ref a :: st)))) : own_G p e below F (T.setTop (mkF m pc Ls st)) := by
  obtain ⟨T', h', X', e', E', A', D', -, st'⟩ := newO X hx hZ hown w wi wz eT (g := mkF m pc Ls st) rfl hd hc hl
  exact own_step st' (k T' h' h.size X' e' rfl A'.lt E' A' D')
/-- newarray, its places said one by one -/
theorem own_newP (X : Stand p l e R s m args below meth c T locs cells slots) (hx : p.tables.exec = Jvm.exec) (hZ : Z.Warmed39 s.vm) {aty : ArrayType} (w : (Jvm.Cond.arrayClass (newarray.typeOf aty)).before a0 Z = true) (eT : T.heap = h) (hd : decode c.code pc = .ok (.newarray aty, 2)) {n : Int32} (hn : ¬ n < 0) (cap : Nat) (hcap : n.toNatClampNeg ≤ cap) (hb : cap * 8 ≤ 536870912) (hc : cells + 1 ≤ R.cells) (hl : slots + cap ≤ R.slots)
    (k : ∀ T' h' a kA, Stand p l e R s m args below meth c T' locs (cells + 1) (slots + cap) → T'.heap = h' → a = h.size → a < h'.size → Ext h h' → Arv Z h' a kA (newarray.typeOf aty) n (List.replicate n.toNatClampNeg (defaultValue (newarray.typeOf aty))) (defaultValue (newarray.typeOf aty)) →
      own_G p e below F (T'.setTop (mkF m (pc + 2) Ls (.ref a :: st)))) : own_G p e below F (T.setTop (mkF m pc Ls (.int n :: st))) := by
  obtain ⟨T', h', cA, X', e', E', A', st'⟩ := newP X hx hZ w eT (g := mkF m pc Ls (.int n :: st)) rfl hd rfl hn (cap := cap) hcap hb hc hl
  exact own_step st' (k T' h' h.size cA X' e' rfl A'.lt E' ((Arv.new A' hn).pad (by have q := pad_rep [] (defaultValue (newarray.typeOf aty)) n.toNatClampNeg; simpa using q)))
theorem own_inb {n : Int32} {i : Nat} {j : Int32} (hj0 : ¬ j < 0) (hj : j.toNatClampNeg = i) (hi : i < n.toNatClampNeg) : ¬ j < 0 ∧ j < n := by
  refine ⟨hj0, ?_⟩
  rw [Int32.lt_iff_toInt_lt]
  simp only [Int32.toNatClampNeg] at hj hi
  rw [Int32.lt_iff_toInt_lt] at hj0
  simp only [Int32.reduceToInt] at hj0
  omega
theorem own_stC (X : Stand p l e R s m args below meth c T locs cells slots) (hx : p.tables.exec = Jvm.exec) (hZ : Z.Warmed39 s.vm) (eT : T.heap = h) {a : Addr} {kA : ClassId} {n : Int32} {vs : List Value} {dv : Value} (V : Arv Z h a kA .char n vs dv) {j x : Int32} (i : Nat) (hj0 : ¬ j < 0) (hj : j.toNatClampNeg = i) (hi : i < n.toNatClampNeg) (hi' : i < vs.length) (N : Fr Z.heap.size locs) (ha : Z.heap.size ≤ a) (hd : decode c.code pc = .ok (.castore, 1))
    (k : ∀ T' h', Stand p l e R s m args below meth c T' (locs ++ [⟨a, j.toNatClampNeg⟩]) cells slots → T'.heap = h' → Fr Z.heap.size (locs ++ [⟨a, j.toNatClampNeg⟩]) → Wr h h' a j.toNatClampNeg (.int (nar .char x)) → h'.size = h.size → Arv Z h' a kA .char n (vs.set i (.int (nar .char x))) dv → own_G p e below F (T'.setTop (mkF m (pc + 1) Ls st))) :
    own_G p e below F (T.setTop (mkF m pc Ls (.int x :: .int j :: .ref a :: st))) := by
  obtain ⟨cl, A, q1, S, q3, H, G⟩ := V
  obtain ⟨T', h', X', e', W', st'⟩ := stC X hx hZ eT A (j := j) (inb_of S (own_inb hj0 hj hi)) (g := mkF m pc Ls (.int x :: .int j :: .ref a :: st)) rfl rfl hd
  exact own_step st' (k T' h' X' e' (Fr.snoc X' N ha) W' W'.size (Arv.set A q1 S q3 H G (fits_nar_char _) W' i hj hi'))
theorem own_stI (X : Stand p l e R s m args below meth c T locs cells slots) (hx : p.tables.exec = Jvm.exec) (hZ : Z.Warmed39 s.vm) (eT : T.heap = h) {a : Addr} {kA : ClassId} {n : Int32} {vs : List Value} {dv : Value} (V : Arv Z h a kA .int n vs dv) {j x : Int32} (i : Nat) (hj0 : ¬ j < 0) (hj : j.toNatClampNeg = i) (hi : i < n.toNatClampNeg) (hi' : i < vs.length) (N : Fr Z.heap.size locs) (ha : Z.heap.size ≤ a) (hd : decode c.code pc = .ok (.iastore, 1))
    (k : ∀ T' h', Stand p l e R s m args below meth c T' (locs ++ [⟨a, j.toNatClampNeg⟩]) cells slots → T'.heap = h' → Fr Z.heap.size (locs ++ [⟨a, j.toNatClampNeg⟩]) → Wr h h' a j.toNatClampNeg (.int x) → h'.size = h.size → Arv Z h' a kA .int n (vs.set i (.int x)) dv → own_G p e below F (T'.setTop (mkF m (pc + 1) Ls st))) :
    own_G p e below F (T.setTop (mkF m pc Ls (.int x :: .int j :: .ref a :: st))) := by
  obtain ⟨cl, A, q1, S, q3, H, G⟩ := V
  obtain ⟨T', h', X', e', W', st'⟩ := stI X hx hZ eT A (j := j) (inb_of S (own_inb hj0 hj hi)) (g := mkF m pc Ls (.int x :: .int j :: .ref a :: st)) rfl rfl hd
  exact own_step st' (k T' h' X' e' (Fr.snoc X' N ha) W' W'.size (Arv.set A q1 S q3 H G rfl W' i hj hi'))
theorem own_stB (X : Stand p l e R s m args below meth c T locs cells slots) (hx : p.tables.exec = Jvm.exec) (hZ : Z.Warmed39 s.vm) (eT : T.heap = h) {a : Addr} {kA : ClassId} {n : Int32} {vs : List Value} {dv : Value} (V : Arv Z h a kA .byte n vs dv) {j x : Int32} (i : Nat) (hj0 : ¬ j < 0) (hj : j.toNatClampNeg = i) (hi : i < n.toNatClampNeg) (hi' : i < vs.length) (N : Fr Z.heap.size locs) (ha : Z.heap.size ≤ a) (hd : decode c.code pc = .ok (.bastore, 1))
    (k : ∀ T' h', Stand p l e R s m args below meth c T' (locs ++ [⟨a, j.toNatClampNeg⟩]) cells slots → T'.heap = h' → Fr Z.heap.size (locs ++ [⟨a, j.toNatClampNeg⟩]) → Wr h h' a j.toNatClampNeg (.int (nar .byte x)) → h'.size = h.size → Arv Z h' a kA .byte n (vs.set i (.int (nar .byte x))) dv → own_G p e below F (T'.setTop (mkF m (pc + 1) Ls st))) :
    own_G p e below F (T.setTop (mkF m pc Ls (.int x :: .int j :: .ref a :: st))) := by
  obtain ⟨cl, A, q1, S, q3, H, G⟩ := V
  obtain ⟨T', h', X', e', W', st'⟩ := stB X hx hZ eT A (j := j) (inb_of S (own_inb hj0 hj hi)) (g := mkF m pc Ls (.int x :: .int j :: .ref a :: st)) rfl rfl hd
  exact own_step st' (k T' h' X' e' (Fr.snoc X' N ha) W' W'.size (Arv.set A q1 S q3 H G (fits_nar_byte _) W' i hj hi'))
theorem own_ldC (X : Stand p l e R s m args below meth c T locs cells slots) (hx : p.tables.exec = Jvm.exec) (hZ : Z.Warmed39 s.vm) (eT : T.heap = h) {a : Addr} {kA : ClassId} {n : Int32} {vs : List Value} {dv v : Value} (V : Arv Z h a kA .char n vs dv) {j : Int32} (i : Nat) (hj0 : ¬ j < 0) (hj : j.toNatClampNeg = i) (hi : i < n.toNatClampNeg) (hv : vs.getD i dv = v) (hd : decode c.code pc = .ok (.caload, 1))
    (k : own_G p e below F (T.setTop (mkF m (pc + 1) Ls (v :: st)))) : own_G p e below F (T.setTop (mkF m pc Ls (.int j :: .ref a :: st))) := by
  obtain ⟨cl, A, q1, S, q3, H, G⟩ := V
  have hin := inb_of S (own_inb hj0 hj hi)
  exact own_step (X.caload hx (by rw [eT]; exact A.1) (State.isArrayOf_alike hZ.alike A.2.1) A.2.2 hin (Has.at H hin (by rw [hj]; exact hv)) (g := mkF m pc Ls (.int j :: .ref a :: st)) rfl rfl hd) k
theorem own_ldI (X : Stand p l e R s m args below meth c T locs cells slots) (hx : p.tables.exec = Jvm.exec) (hZ : Z.Warmed39 s.vm) (eT : T.heap = h) {a : Addr} {kA : ClassId} {n : Int32} {vs : List Value} {dv v : Value} (V : Arv Z h a kA .int n vs dv) {j : Int32} (i : Nat) (hj0 : ¬ j < 0) (hj : j.toNatClampNeg = i) (hi : i < n.toNatClampNeg) (hv : vs.getD i dv = v) (hd : decode c.code pc = .ok (.iaload, 1))
    (k : own_G p e below F (T.setTop (mkF m (pc + 1) Ls (v :: st)))) : own_G p e below F (T.setTop (mkF m pc Ls (.int j :: .ref a :: st))) := by
  obtain ⟨cl, A, q1, S, q3, H, G⟩ := V
  have hin := inb_of S (own_inb hj0 hj hi)
  exact own_step (X.iaload hx (by rw [eT]; exact A.1) (State.isArrayOf_alike hZ.alike A.2.1) A.2.2 hin (Has.at H hin (by rw [hj]; exact hv)) (g := mkF m pc Ls (.int j :: .ref a :: st)) rfl rfl hd) k
theorem own_ldB (X : Stand p l e R s m args below meth c T locs cells slots) (hx : p.tables.exec = Jvm.exec) (hZ : Z.Warmed39 s.vm) (eT : T.heap = h) {a : Addr} {kA : ClassId} {n : Int32} {vs : List Value} {dv v : Value} (V : Arv Z h a kA .byte n vs dv) {j : Int32} (i : Nat) (hj0 : ¬ j < 0) (hj : j.toNatClampNeg = i) (hi : i < n.toNatClampNeg) (hv : vs.getD i dv = v) (hd : decode c.code pc = .ok (.baload, 1))
    (k : own_G p e below F (T.setTop (mkF m (pc + 1) Ls (v :: st)))) : own_G p e below F (T.setTop (mkF m pc Ls (.int j :: .ref a :: st))) := by
  obtain ⟨cl, A, q1, S, q3, H, G⟩ := V
  have hin := inb_of S (own_inb hj0 hj hi)
  exact own_step (X.baloadBytes hx (by rw [eT]; exact A.1) (State.isArrayOf_alike hZ.alike A.2.1) A.2.2 hin (Has.at H hin (by rw [hj]; exact hv)) (g := mkF m pc Ls (.int j :: .ref a :: st)) rfl rfl hd) k
theorem own_len (X : Stand p l e R s m args below meth c T locs cells slots) (hx : p.tables.exec = Jvm.exec) (hZ : Z.Warmed39 s.vm) (eT : T.heap = h) {a : Addr} {kA : ClassId} {ty : FieldType} {n : Int32} {vs : List Value} {dv : Value} (V : Arv Z h a kA ty n vs dv) (hd : decode c.code pc = .ok (.arraylength, 1))
    (k : own_G p e below F (T.setTop (mkF m (pc + 1) Ls (.int n :: st)))) : own_G p e below F (T.setTop (mkF m pc Ls (.ref a :: st))) := by
  obtain ⟨cl, A, q1, S, q3, H, G⟩ := V
  exact own_step (fun t q => X.arraylength hx (by rw [eT]; exact A.1) (State.isArrayOf_alike hZ.alike A.2.1) (g := mkF m pc Ls (.ref a :: st)) rfl rfl hd t (by rw [len_of S q3]; exact q)) k
/-! calls; a callee's law in the shape that backOf gives -/
abbrev own_B (l : Launch) (R : Room) (p : Program) (e : Env) (below : List Frame) (s : State) (args : Array Value) (y : MethodName) (W : Nat) (as : Array Value) (h : Heap) (kc kn : Nat) (Q : Option Value → Heap → List Loc → Prop) : Prop :=
  Back l R p e below s args y 3 W (fun A a => a = as ∧ A.U.heap = h ∧ A.cells + kc ≤ R.cells ∧ A.slots + kn ≤ R.slots) (fun A _ v B => ∃ L, Q v B.U.heap L ∧ B.locs = A.locs ++ L ∧ B.cells = A.cells + kc ∧ B.slots = A.slots + kn)
theorem own_static {Q : Option Value → Heap → List Loc → Prop} {kc kn W : Nat} {argsL : List Value} (X : Stand p l e R s m args below meth c T locs cells slots) (hx : p.tables.exec = Jvm.exec) (hZ : Z.Warmed39 s.vm) {own : String} {index : Nat} {y : MethodName} {bytes : ByteArray} {maxL : Nat} {ret : Option FieldType} (hown : s.vm.findClass own = some m.cls)
    (w1 : (Jvm.Cond.methodLink own index y).before a0 Z = true) (w2 : (Jvm.Cond.static y).before a0 Z = true) (w3 : (Jvm.Cond.initialized y.cls).before a0 Z = true) (w4 : (Jvm.Cond.code y bytes maxL ret).before a0 Z = true) (hy : y.cls ≠ "java/lang/invoke/MethodHandle" ∧ y.cls ≠ "java/lang/invoke/VarHandle") (eT : T.heap = h)
    (hK : own_B l R p e below s args y W argsL.toArray h kc kn Q) (hc : cells + kc ≤ R.cells) (hs : slots + kn ≤ R.slots) (hsz : Ls.size = c.maxLocals) (hlen : ∀ sig, parseMethodDescriptor y.desc = some sig → argsL.length = sig.parameters.length) (hstk : stk = argsL.reverse ++ st) (hW : (st.map fun v => v.category).sum ≤ W)
    (hd : decode c.code pc = .ok (.invokestatic index, 3)) (k : ∀ v T' L, Stand p l e R s m args below meth c T' (locs ++ L) (cells + kc) (slots + kn) → Q v T'.heap L → own_G p e below F (T'.setTop (mkF m (pc + 3) Ls (v.toList ++ st)))) : own_G p e below F (T.setTop (mkF m pc Ls stk)) := by
  obtain ⟨v, _, ⟨T', L', k', n'⟩, -, X', ⟨L, hQ, l1, y1, z1⟩, st'⟩ := Jvm.LawKit.callS X hx hown (mvT hZ w1) (mvT hZ w2) (mvT hZ w3) (mvT hZ w4) hy hK (g := mkF m pc Ls stk) rfl hsz (argsL := argsL) (rest := st) hlen hstk (by show 2 * 0 + _ ≤ _; omega) hd (fun _ _ => ⟨rfl, eT, hc, hs⟩)
  dsimp only [Pt.U, Pt.locs, Pt.cells, Pt.slots] at X' l1 y1 z1 st' hQ
  subst l1 y1 z1
  exact own_step st' (k v T' L X' hQ)
theorem own_special {Q : Option Value → Heap → List Loc → Prop} {kc kn W : Nat} {argsL : List Value} {a : Addr} (X : Stand p l e R s m args below meth c T locs cells slots) (hx : p.tables.exec = Jvm.exec) (hZ : Z.Warmed39 s.vm) {own : String} {index : Nat} {y : MethodName} {bytes : ByteArray} {maxL : Nat} (hown : s.vm.findClass own = some m.cls) (hy1 : y.name = "<init>")
    (w1 : (Jvm.Cond.methodLink own index y).before a0 Z = true) (w2 : (Jvm.Cond.instanceMethod y).before a0 Z = true) (w4 : (Jvm.Cond.code y bytes maxL none).before a0 Z = true) (hy : y.cls ≠ "java/lang/invoke/MethodHandle" ∧ y.cls ≠ "java/lang/invoke/VarHandle") (eT : T.heap = h)
    (hK : own_B l R p e below s args y W (.ref a :: argsL).toArray h kc kn Q) (hc : cells + kc ≤ R.cells) (hs : slots + kn ≤ R.slots) (hsz : Ls.size = c.maxLocals) (hlen : ∀ sig, parseMethodDescriptor y.desc = some sig → argsL.length = sig.parameters.length) (hstk : stk = argsL.reverse ++ .ref a :: st) (hW : (st.map fun v => v.category).sum ≤ W)
    (hd : decode c.code pc = .ok (.invokespecial index, 3)) (k : ∀ v T' L, Stand p l e R s m args below meth c T' (locs ++ L) (cells + kc) (slots + kn) → Q v T'.heap L → own_G p e below F (T'.setTop (mkF m (pc + 3) Ls (v.toList ++ st)))) : own_G p e below F (T.setTop (mkF m pc Ls stk)) := by
  obtain ⟨v, _, ⟨T', L', k', n'⟩, -, X', ⟨L, hQ, l1, y1, z1⟩, st'⟩ := X.specialBack hx hy1 hown (mvT hZ w1) (mvT hZ w2) (mvT hZ w4) hy hK (g := mkF m pc Ls stk) rfl hsz (Steps.refl _) (a := a) (argsL := argsL) (rest := st) hlen hstk (by show 2 * 0 + _ ≤ _; omega) hd (fun _ _ => ⟨rfl, eT, hc, hs⟩)
  dsimp only [Pt.U, Pt.locs, Pt.cells, Pt.slots] at X' l1 y1 z1 st' hQ
  subst l1 y1 z1
  exact own_go st' (k v T' L X' hQ)
theorem own_virtual {Q : Option Value → Heap → List Loc → Prop} {kc kn W : Nat} {argsL : List Value} {a : Addr} {C : String} (X : Stand p l e R s m args below meth c T locs cells slots) (hx : p.tables.exec = Jvm.exec) (hZ : Z.Warmed39 s.vm) {own : String} {index : Nat} {y : MethodName} (hown : s.vm.findClass own = some m.cls)
    (w1 : (Jvm.Cond.methodLink own index y).before a0 Z = true) (w2 : (Jvm.Cond.declares y).before a0 Z = true) (w3 : (Jvm.Cond.selects C y y).before a0 Z = true) (hCy : C = y.cls) (w4 : (Jvm.Cond.instanceMethod y).before a0 Z = true) (hy : y.cls ≠ "java/lang/invoke/MethodHandle" ∧ y.cls ≠ "java/lang/invoke/VarHandle") (eT : T.heap = h) (E : Exa Z h a C)
    (hK : own_B l R p e below s args y W (.ref a :: argsL).toArray h kc kn Q) (hc : cells + kc ≤ R.cells) (hs : slots + kn ≤ R.slots) (hsz : Ls.size = c.maxLocals) (hlen : ∀ sig, parseMethodDescriptor y.desc = some sig → argsL.length = sig.parameters.length) (hstk : stk = argsL.reverse ++ .ref a :: st) (hW : (st.map fun v => v.category).sum ≤ W)
    (hd : decode c.code pc = .ok (.invokevirtual index, 3)) (k : ∀ v T' L, Stand p l e R s m args below meth c T' (locs ++ L) (cells + kc) (slots + kn) → Q v T'.heap L → own_G p e below F (T'.setTop (mkF m (pc + 3) Ls (v.toList ++ st)))) : own_G p e below F (T.setTop (mkF m pc Ls stk)) := by
  subst hCy
  obtain ⟨cB, kB, q1, q2, q3⟩ := isOf hZ eT E
  obtain ⟨v, _, ⟨T', L', k', n'⟩, -, X', ⟨L, hQ, l1, y1, z1⟩, st'⟩ := X.virtualBack hx hown (mvT hZ w1) (mvT hZ w2) (notFace_of_selects (args := #[]) (mvT hZ w3)) (mvT hZ w3) (mvT hZ w4) hy hK q1 q3 (g := mkF m pc Ls stk) rfl hsz (Steps.refl _) (argsL := argsL) (rest := st) hlen hstk (by show 2 * 0 + _ ≤ _; omega) hd (fun _ _ => ⟨rfl, eT, hc, hs⟩)
  dsimp only [Pt.U, Pt.locs, Pt.cells, Pt.slots] at X' l1 y1 z1 st' hQ
  subst l1 y1 z1
  exact own_go st' (k v T' L X' hQ)
theorem own_back {y : MethodName} {bytes : ByteArray} {maxL : Nat} {ret : Option FieldType} {rm : Room} {W : Nat} {as' : Array Value} {Q : Option Value → Heap → List Loc → Prop} (hM : own_Met l Z y bytes maxL ret [] rm as' h Q) (hZ : Z.Warmed39 s.vm) (wc : (Jvm.Cond.code y bytes maxL ret).before a0 Z = true) (wz : (Jvm.Cond.initialized y.cls).before a0 Z = true) (hf : rm.frames + 1 ≤ R.frames) (hl : W + (maxL + 11) + rm.locals ≤ R.locals) :
    own_B l R p e below s args y W as' h rm.cells rm.slots Q := backOf hM hZ wc wz hf hl
/-- a static call of a body that changes nothing -/
theorem own_staticP {r : Option Value} {fr lo W : Nat} {argsL : List Value} (X : Stand p l e R s m args below meth c T locs cells slots) (hx : p.tables.exec = Jvm.exec) (hZ : Z.Warmed39 s.vm) {own : String} {index : Nat} {y : MethodName} {bytes : ByteArray} {maxL : Nat} {ret : Option FieldType} (hown : s.vm.findClass own = some m.cls)
    (w1 : (Jvm.Cond.methodLink own index y).before a0 Z = true) (w2 : (Jvm.Cond.static y).before a0 Z = true) (w3 : (Jvm.Cond.initialized y.cls).before a0 Z = true) (w4 : (Jvm.Cond.code y bytes maxL ret).before a0 Z = true) (hy : y.cls ≠ "java/lang/invoke/MethodHandle" ∧ y.cls ≠ "java/lang/invoke/VarHandle") (eT : T.heap = h)
    (hM : own_Met l Z y bytes maxL ret [] ⟨fr, 0, 0, lo⟩ argsL.toArray h (own_P r h)) (hf : fr + 1 ≤ R.frames) (hl : W + (maxL + 11) + lo ≤ R.locals) (hc : cells ≤ R.cells) (hs : slots ≤ R.slots) (hsz : Ls.size = c.maxLocals) (hlen : ∀ sig, parseMethodDescriptor y.desc = some sig → argsL.length = sig.parameters.length) (hstk : stk = argsL.reverse ++ st) (hW : (st.map fun v => v.category).sum ≤ W)
    (hd : decode c.code pc = .ok (.invokestatic index, 3)) (k : ∀ T', Stand p l e R s m args below meth c T' locs cells slots → T'.heap = h → own_G p e below F (T'.setTop (mkF m (pc + 3) Ls (r.toList ++ st)))) : own_G p e below F (T.setTop (mkF m pc Ls stk)) :=
  own_static X hx hZ hown w1 w2 w3 w4 hy eT (own_back hM hZ w4 w3 hf hl) hc hs hsz hlen hstk hW hd fun v T' L X' hQ => by
    obtain ⟨rfl, rfl, hh⟩ := hQ
    rw [List.append_nil] at X'
    exact k T' X' hh
theorem own_virtualP {r : Option Value} {fr lo W : Nat} {argsL : List Value} {a : Addr} {C : String} (X : Stand p l e R s m args below meth c T locs cells slots) (hx : p.tables.exec = Jvm.exec) (hZ : Z.Warmed39 s.vm) {own : String} {index : Nat} {y : MethodName} {bytes : ByteArray} {maxL : Nat} {ret : Option FieldType} (hown : s.vm.findClass own = some m.cls)
    (w1 : (Jvm.Cond.methodLink own index y).before a0 Z = true) (w2 : (Jvm.Cond.declares y).before a0 Z = true) (w3 : (Jvm.Cond.selects C y y).before a0 Z = true) (hCy : C = y.cls) (w4 : (Jvm.Cond.instanceMethod y).before a0 Z = true) (hy : y.cls ≠ "java/lang/invoke/MethodHandle" ∧ y.cls ≠ "java/lang/invoke/VarHandle") (eT : T.heap = h) (E : Exa Z h a C)
    (hM : own_Met l Z y bytes maxL ret [] ⟨fr, 0, 0, lo⟩ (.ref a :: argsL).toArray h (own_P r h)) (wc : (Jvm.Cond.code y bytes maxL ret).before a0 Z = true) (wz : (Jvm.Cond.initialized y.cls).before a0 Z = true) (hf : fr + 1 ≤ R.frames) (hl : W + (maxL + 11) + lo ≤ R.locals) (hc : cells ≤ R.cells) (hs : slots ≤ R.slots) (hsz : Ls.size = c.maxLocals) (hlen : ∀ sig, parseMethodDescriptor y.desc = some sig → argsL.length = sig.parameters.length) (hstk : stk = argsL.reverse ++ .ref a :: st) (hW : (st.map fun v => v.category).sum ≤ W)
    (hd : decode c.code pc = .ok (.invokevirtual index, 3)) (k : ∀ T', Stand p l e R s m args below meth c T' locs cells slots → T'.heap = h → own_G p e below F (T'.setTop (mkF m (pc + 3) Ls (r.toList ++ st)))) : own_G p e below F (T.setTop (mkF m pc Ls stk)) :=
  own_virtual X hx hZ hown w1 w2 w3 hCy w4 hy eT E (own_back hM hZ wc wz hf hl) hc hs hsz hlen hstk hW hd fun v T' L X' hQ => by
    obtain ⟨rfl, rfl, hh⟩ := hQ
    rw [List.append_nil] at X'
    exact k T' X' hh
theorem own_initO (X : Stand p l e R s m args below meth c T locs cells slots) (hx : p.tables.exec = Jvm.exec) (hZ : Z.Warmed39 s.vm) {own : String} {index W : Nat} {a : Addr} (hown : s.vm.findClass own = some m.cls) (w1 : (Jvm.Cond.methodLink own index Lib.objectInit).before a0 Z = true) (w2 : (Jvm.Cond.instanceMethod Lib.objectInit).before a0 Z = true) (w3 : (Jvm.Cond.code Lib.objectInit ⟨#[0xb1]⟩ 1 none).before a0 Z = true) (eT : T.heap = h)
    (hsz : Ls.size = c.maxLocals) (hd : decode c.code pc = .ok (.invokespecial index, 3)) (hf : 1 ≤ R.frames) (hW : (st.map fun v => v.category).sum ≤ W) (hl : W + 12 ≤ R.locals)
    (k : ∀ T', Stand p l e R s m args below meth c T' locs cells slots → T'.heap = h → own_G p e below F (T'.setTop (mkF m (pc + 3) Ls st))) : own_G p e below F (T.setTop (mkF m pc Ls (.ref a :: st))) := by
  obtain ⟨T', X', e', st'⟩ := initO X hx hZ hown w1 w2 w3 eT (g := mkF m pc Ls (.ref a :: st)) rfl hsz rfl hd hf (W := W) (by show 2 * 0 + _ ≤ _; omega) hl
  exact own_step st' (k T' X' e')
theorem own_specialP {r : Option Value} {fr lo W : Nat} {argsL : List Value} {a : Addr} (X : Stand p l e R s m args below meth c T locs cells slots) (hx : p.tables.exec = Jvm.exec) (hZ : Z.Warmed39 s.vm) {own : String} {index : Nat} {y : MethodName} {bytes : ByteArray} {maxL : Nat} (hown : s.vm.findClass own = some m.cls) (hy1 : y.name = "<init>")
    (w1 : (Jvm.Cond.methodLink own index y).before a0 Z = true) (w2 : (Jvm.Cond.instanceMethod y).before a0 Z = true) (w4 : (Jvm.Cond.code y bytes maxL none).before a0 Z = true) (hy : y.cls ≠ "java/lang/invoke/MethodHandle" ∧ y.cls ≠ "java/lang/invoke/VarHandle") (eT : T.heap = h)
    (hM : own_Met l Z y bytes maxL none [] ⟨fr, 0, 0, lo⟩ (.ref a :: argsL).toArray h (own_P r h)) (wz : (Jvm.Cond.initialized y.cls).before a0 Z = true) (hf : fr + 1 ≤ R.frames) (hl : W + (maxL + 11) + lo ≤ R.locals) (hc : cells ≤ R.cells) (hs : slots ≤ R.slots) (hsz : Ls.size = c.maxLocals) (hlen : ∀ sig, parseMethodDescriptor y.desc = some sig → argsL.length = sig.parameters.length) (hstk : stk = argsL.reverse ++ .ref a :: st) (hW : (st.map fun v => v.category).sum ≤ W)
    (hd : decode c.code pc = .ok (.invokespecial index, 3)) (k : ∀ T', Stand p l e R s m args below meth c T' locs cells slots → T'.heap = h → own_G p e below F (T'.setTop (mkF m (pc + 3) Ls (r.toList ++ st)))) : own_G p e below F (T.setTop (mkF m pc Ls stk)) :=
  own_special X hx hZ hown hy1 w1 w2 w4 hy eT (own_back hM hZ w4 wz hf hl) hc hs hsz hlen hstk hW hd fun v T' L X' hQ => by
    obtain ⟨rfl, rfl, hh⟩ := hQ
    rw [List.append_nil] at X'
    exact k T' X' hh
theorem own_cat {v : Value} (q : v.isRef = true) : v.category = 1 := by cases v <;> first | rfl | simp [Value.isRef] at q
theorem own_narR {v : Value} {C : String} (q : v.isRef = true) : narrow (.object C) v = v := by cases v <;> first | rfl | simp [Value.isRef] at q
theorem own_fitR {v : Value} {C : String} (q : v.isRef = true) : fits (.object C) v = true := by cases v <;> first | rfl | simp [Value.isRef] at q
theorem own_ne {a b : Addr} (h : @LT.lt Nat instLTNat a b ∨ @LT.lt Nat instLTNat b a) : a ≠ b := fun q => by subst q; rcases h with h | h <;> exact Nat.lt_irrefl _ h
theorem own_ext {h0 h : Heap} (K : Keep h0 h []) : Ext h0 h := ⟨K.1, fun a c q => K.2.1 a c q nin0⟩
end OwnKit

/-! the wide mode: a walk that may intern; it stands over 's.setVm vm0' -/
section OwnWide
variable {p : Program} {l : Launch} {e : Env} {R : Room} {s : State} {m : MethodId} {args : Array Value} {below : List Frame} {meth : Method} {c : Code} {T : State} {locs : List Loc} {cells slots : Nat} {Z : State} {a0 : Array Value} {h : Heap} {F : Outcome → State → Prop} {pc pc' : Nat} {Ls : Array Slot} {st stk : List Value} {vm0 : Vm} {k0 : Nat}
def own_FW (s : State) (Q : Option Value → Heap → List Loc → Prop) (k n : Nat) (o : Outcome) (U : State) : Prop := ∃ v L, o = .returned v ∧ Q v U.heap L ∧ ReturnedEndW s o U L k n
abbrev own_MetW (l : Launch) (Z : State) (y : MethodName) (bytes : ByteArray) (maxL : Nat) (ret : Option FieldType) (ws : List Jvm.Cond) (rm : Room) (as : Array Value) (h : Heap) (Q : Option Value → Heap → List Loc → Prop) : Prop :=
  MetFree l y (head1 (Jvm.Cond.code y bytes maxL ret :: ws) rm) (fun a U => a = as ∧ Z.Warmed39 U.vm ∧ U.heap = h) (fun _ _ _ _ _ => True) (fun _ U o U' => ∃ v L, o = .returned v ∧ Q v U'.heap L ∧ ReturnedEndW U o U' L rm.cells rm.slots)
theorem own_enterW {y : MethodName} {bytes : ByteArray} {maxL : Nat} {ret : Option FieldType} {ws : List Jvm.Cond} {rm : Room} {as : Array Value} {Q : Option Value → Heap → List Loc → Prop} (hp : plainFor y = true) {fr : Array Slot} (hfr : ∀ m, entryFrame m as maxL = mkF m 0 fr [])
    (body : ∀ (p : Program) (e : Env) (s : State) (m : MethodId) (below : List Frame) (meth : Method) (c : Code) (T : State) (vm0 : Vm) (k0 : Nat), p.tables.exec = Jvm.exec → c.code = bytes → c.maxLocals = maxL → Z.Warmed39 (s.setVm vm0).vm → (s.setVm vm0).vm.findClass y.cls = some m.cls → meth.name = y.name → meth.sig.returnType = ret → meth.locks = false →
      Stand p l e rm (s.setVm vm0) m as below meth c T [] 0 0 → T.heap = h → s.heap = h → s.Since vm0 k0 → k0 ≤ h.size → own_G p e below (own_FW s Q rm.cells rm.slots) (T.setTop (mkF m 0 fr []))) : own_MetW l Z y bytes maxL ret ws rm as h Q := by
  refine MetFree.of_bodySF hp hisR ?_
  intro p e s m args below meth c s₁ Bd hml0 hP hK
  obtain ⟨rfl, hZ, hh⟩ := hP
  have X0 : Stand p l e rm s m args below meth c s₁ [] 0 0 := Stand.of_body Bd
  have q := body p e s m below meth c s₁ s.vm h.size Bd.exec Bd.bytes hml0 hZ (findClass_of_methodNamed Bd.named) (name_of_methodNamed Bd.named Bd.method).1 Bd.returns (BodyLoose.notSynchronized Bd) X0 (by rw [← hh, Bd.state]; rfl) hh ((State.WarmedH.refl s).since _) (Nat.le_refl _)
  rw [hfr m]; exact q
theorem own_retW {Q : Option Value → Heap → List Loc → Prop} {k n : Nat} {v : Option Value} {fr : JFrame} (X : Stand p l e R (s.setVm vm0) m args below meth c T locs cells slots) (hS : s.Since vm0 k0) (hk : k0 ≤ T.heap.size) (hv : meth.sig.returnType = none → v = none) (hlk : meth.locks = false)
    (hst : ∀ fs, (∀ (f : JFrame) (acts : List Action), f.method = m → f.locked = none → f.entered = [] → (doReturn e (T.setTop f) acts v).1 = T.setFrames fs) → Steps p.tables e below (T.setTop fr) (T.setFrames fs)) (hQ : Q v T.heap locs) (hc : cells ≤ k) (hn : slots ≤ n) : own_G p e below (own_FW s Q k n) (T.setTop fr) := by
  obtain ⟨fs, hr, hrun, hended, hE⟩ := X.leaveW hS hk hv hlk
  exact ⟨_, _, hst fs hr, hrun, hended, v, locs, rfl, hQ, hE.1, hE.2.1, hE.2.2.1, hE.2.2.2.mono hc hn⟩
theorem own_retWI {Q : Option Value → Heap → List Loc → Prop} {k n : Nat} {z : Int32} (X : Stand p l e R (s.setVm vm0) m args below meth c T locs cells slots) (hx : p.tables.exec = Jvm.exec) (hS : s.Since vm0 k0) (hk : k0 ≤ T.heap.size) (hret : meth.sig.returnType = some .int) (hlk : meth.locks = false) (hd : decode c.code pc = .ok (.ireturn, 1))
    (hQ : Q (some (.int z)) T.heap locs) (hc : cells ≤ k) (hn : slots ≤ n) : own_G p e below (own_FW s Q k n) (T.setTop (mkF m pc Ls (.int z :: st))) :=
  own_retW X hS hk (fun q => by rw [hret] at q; cases q) hlk (fun _ hr => own_stepI X hx hret hd hr) hQ hc hn
theorem own_retWN {Q : Option Value → Heap → List Loc → Prop} {k n : Nat} {z : Int32} {t : FieldType} (X : Stand p l e R (s.setVm vm0) m args below meth c T locs cells slots) (hx : p.tables.exec = Jvm.exec) (hS : s.Since vm0 k0) (hk : k0 ≤ T.heap.size) (hret : meth.sig.returnType = some t) (ht : t = .boolean ∨ t = .byte ∨ t = .char ∨ t = .short) (hlk : meth.locks = false) (hd : decode c.code pc = .ok (.ireturn, 1))
    (hQ : Q (some (.int (nar t z))) T.heap locs) (hc : cells ≤ k) (hn : slots ≤ n) : own_G p e below (own_FW s Q k n) (T.setTop (mkF m pc Ls (.int z :: st))) :=
  own_retW X hS hk (fun q => by rw [hret] at q; cases q) hlk (fun _ hr => retN X hx hret ht hd hr) hQ hc hn
theorem own_retWR {Q : Option Value → Heap → List Loc → Prop} {k n : Nat} {w : Value} {t : FieldType} (X : Stand p l e R (s.setVm vm0) m args below meth c T locs cells slots) (hx : p.tables.exec = Jvm.exec) (hS : s.Since vm0 k0) (hk : k0 ≤ T.heap.size) (hret : meth.sig.returnType = some t) (ht : t.isReference = true) (hnw : narrow t w = w) (hwr : w.isRef = true) (hlk : meth.locks = false) (hd : decode c.code pc = .ok (.areturn, 1))
    (hQ : Q (some w) T.heap locs) (hc : cells ≤ k) (hn : slots ≤ n) : own_G p e below (own_FW s Q k n) (T.setTop (mkF m pc Ls (w :: st))) :=
  own_retW X hS hk (fun q => by rw [hret] at q; cases q) hlk (fun _ hr => retOut X hx (t := t) (i := .areturn) hret hnw (Or.inr (Or.inr (Or.inr (Or.inr ⟨rfl, ht, hwr⟩)))) hd hr) hQ hc hn
theorem own_retWV {Q : Option Value → Heap → List Loc → Prop} {k n : Nat} (X : Stand p l e R (s.setVm vm0) m args below meth c T locs cells slots) (hx : p.tables.exec = Jvm.exec) (hS : s.Since vm0 k0) (hk : k0 ≤ T.heap.size) (hret : meth.sig.returnType = none) (hlk : meth.locks = false) (hd : decode c.code pc = .ok (.return_, 1))
    (hQ : Q none T.heap locs) (hc : cells ≤ k) (hn : slots ≤ n) : own_G p e below (own_FW s Q k n) (T.setTop (mkF m pc Ls [])) :=
  own_retW X hS hk (fun _ => rfl) hlk (fun _ hr => X.returnOut hx hret hd hr) hQ hc hn
/-- ldc of a String constant, its text not read -/
theorem own_ldcS (X : Stand p l e R (s.setVm vm0) m args below meth c T locs cells slots) (hx : p.tables.exec = Jvm.exec) (hZ : Z.Warmed39 (s.setVm vm0).vm) {own text : String} {index : Nat} (hown : (s.setVm vm0).vm.findClass own = some m.cls) (w : (Jvm.Cond.stringLink own index text).before a0 Z = true) (wS : ∀ a ∈ Bundle.stringAtoms, a.before a0 Z = true)
    (eT : T.heap = h) (hS : s.Since vm0 k0) (hk : k0 ≤ h.size) (hd : decode c.code pc = .ok (.ldc index, 2)) (n : Nat) (hn : 4 * text.toList.length ≤ n) (hbig : n ≤ 536870912) (hc : cells + 2 ≤ R.cells) (hl : slots + (n + 4) ≤ R.slots)
    (k : ∀ (a : Addr) (T' : State) (h' : Heap) (vm1 : Vm) (k1 : Nat), Stand p l e R (s.setVm vm1) m args below meth c T' locs (cells + 2) (slots + (n + 4)) → T'.heap = h' → Ext h h' → h.size ≤ h'.size → s.Since vm1 k1 → k1 ≤ h'.size → Z.Warmed39 (s.setVm vm1).vm → (s.setVm vm1).vm.findClass own = some m.cls →
      own_G p e below F (T'.setTop (mkF m (pc + 2) Ls (.ref a :: st)))) : own_G p e below F (T.setTop (mkF m pc Ls st)) := by
  obtain ⟨a, T', h', k1, X', e', E', hS', hk', hZ', ho', st'⟩ := ldcS X hx hZ hown w wS eT hS hk (g := mkF m pc Ls st) rfl hd hn hbig hc hl
  exact own_step st' (k a T' h' T'.vm k1 X' e' E' E'.1 hS' hk' hZ' ho')
/-- a static call of a callee that may intern -/
theorem own_staticW {Q : Option Value → Heap → List Loc → Prop} {rm : Room} {W : Nat} {argsL : List Value} (X : Stand p l e R (s.setVm vm0) m args below meth c T locs cells slots) (hx : p.tables.exec = Jvm.exec) (hZ : Z.Warmed39 (s.setVm vm0).vm) {own : String} {index : Nat} {y : MethodName} {bytes : ByteArray} {maxL : Nat} {ret : Option FieldType} (hown : (s.setVm vm0).vm.findClass own = some m.cls)
    (w1 : (Jvm.Cond.methodLink own index y).before a0 Z = true) (w2 : (Jvm.Cond.static y).before a0 Z = true) (w3 : (Jvm.Cond.initialized y.cls).before a0 Z = true) (w4 : (Jvm.Cond.code y bytes maxL ret).before a0 Z = true) (hy : y.cls ≠ "java/lang/invoke/MethodHandle" ∧ y.cls ≠ "java/lang/invoke/VarHandle") (eT : T.heap = h) (hS : s.Since vm0 k0) (hk : k0 ≤ h.size)
    (hM : own_MetW l Z y bytes maxL ret [] rm argsL.toArray h Q) (hf : rm.frames + 1 ≤ R.frames) (hl : W + (maxL + 11) + rm.locals ≤ R.locals) (hc : cells + rm.cells ≤ R.cells) (hs : slots + rm.slots ≤ R.slots) (hsz : Ls.size = c.maxLocals) (hlen : ∀ sig, parseMethodDescriptor y.desc = some sig → argsL.length = sig.parameters.length) (hstk : stk = argsL.reverse ++ st) (hW : (st.map fun v => v.category).sum ≤ W)
    (hd : decode c.code pc = .ok (.invokestatic index, 3)) (k : ∀ (v : Option Value) (T' : State) (L : List Loc) (vm1 : Vm) (k1 : Nat), Stand p l e R (s.setVm vm1) m args below meth c T' (locs ++ L) (cells + rm.cells) (slots + rm.slots) → h.size ≤ T'.heap.size → s.Since vm1 k1 → k1 ≤ T'.heap.size → Z.Warmed39 (s.setVm vm1).vm → (s.setVm vm1).vm.findClass own = some m.cls → Q v T'.heap L →
      own_G p e below F (T'.setTop (mkF m (pc + 3) Ls (v.toList ++ st)))) : own_G p e below F (T.setTop (mkF m pc Ls stk)) := by
  obtain ⟨v, _, ⟨T', L', k', n'⟩, -, X', hS', hg', ⟨L, hQ, l1, y1, z1⟩, st'⟩ := callSS X hx hown (mvT hZ w1) (mvT hZ w2) (mvT hZ w3) (mvT hZ w4) hy (backOfS (W := W) hM hZ w4 w3 hf hl) (g := mkF m pc Ls stk) rfl hsz (argsL := argsL) (rest := st) hlen hstk (by show 2 * 0 + _ ≤ _; omega) hd (fun _ _ => ⟨rfl, eT, hc, hs⟩)
  dsimp only [Pt.U, Pt.locs, Pt.cells, Pt.slots] at X' l1 y1 z1 st' hQ hS' hg'
  subst l1 y1 z1
  rw [eT] at hg'
  obtain ⟨r1, r2, r3, r4⟩ := rebS hS hk X' hS' hg' hZ hown
  exact own_go st' (k v T' L T'.vm T'.heap.size r1 hg' r2 (Nat.le_refl _) r3 r4 hQ)
end OwnWide

/-! the wide mode with a word on the tables at the entry (I) and at the end (Q sees the tables) -/
section OwnI
variable {p : Program} {l : Launch} {e : Env} {R : Room} {s : State} {m : MethodId} {args : Array Value} {below : List Frame} {meth : Method} {c : Code} {T : State} {locs : List Loc} {cells slots : Nat} {Z : State} {a0 : Array Value} {h : Heap} {F : Outcome → State → Prop} {pc pc' : Nat} {Ls : Array Slot} {st stk : List Value} {vm0 : Vm} {k0 : Nat} {I : Vm → Prop}
def own_FI (s : State) (Q : Option Value → Vm → Heap → List Loc → Prop) (k n : Nat) (o : Outcome) (U : State) : Prop := ∃ v L, o = .returned v ∧ Q v U.vm U.heap L ∧ ReturnedEndW s o U L k n
abbrev own_MetI (l : Launch) (Z : State) (y : MethodName) (bytes : ByteArray) (maxL : Nat) (ret : Option FieldType) (ws : List Jvm.Cond) (rm : Room) (as : Array Value) (h : Heap) (I : Vm → Prop) (Q : Option Value → Vm → Heap → List Loc → Prop) : Prop :=
  MetFree l y (head1 (Jvm.Cond.code y bytes maxL ret :: ws) rm) (fun a U => a = as ∧ Z.Warmed39 U.vm ∧ U.heap = h ∧ I U.vm) (fun _ _ _ _ _ => True) (fun _ U o U' => ∃ v L, o = .returned v ∧ Q v U'.vm U'.heap L ∧ ReturnedEndW U o U' L rm.cells rm.slots)
theorem own_enterI {y : MethodName} {bytes : ByteArray} {maxL : Nat} {ret : Option FieldType} {ws : List Jvm.Cond} {rm : Room} {as : Array Value} {Q : Option Value → Vm → Heap → List Loc → Prop} (hp : plainFor y = true) {fr : Array Slot} (hfr : ∀ m, entryFrame m as maxL = mkF m 0 fr [])
    (body : ∀ (p : Program) (e : Env) (s : State) (m : MethodId) (below : List Frame) (meth : Method) (c : Code) (T : State) (vm0 : Vm) (k0 : Nat), p.tables.exec = Jvm.exec → c.code = bytes → c.maxLocals = maxL → Z.Warmed39 (s.setVm vm0).vm → (s.setVm vm0).vm.findClass y.cls = some m.cls → meth.name = y.name → meth.sig.returnType = ret → meth.locks = false →
      Stand p l e rm (s.setVm vm0) m as below meth c T [] 0 0 → T.heap = h → s.heap = h → s.Since vm0 k0 → k0 ≤ h.size → I vm0 → own_G p e below (own_FI s Q rm.cells rm.slots) (T.setTop (mkF m 0 fr []))) : own_MetI l Z y bytes maxL ret ws rm as h I Q := by
  refine MetFree.of_bodySF hp hisR ?_
  intro p e s m args below meth c s₁ Bd hml0 hP hK
  obtain ⟨rfl, hZ, hh, hI⟩ := hP
  have X0 : Stand p l e rm s m args below meth c s₁ [] 0 0 := Stand.of_body Bd
  have q := body p e s m below meth c s₁ s.vm h.size Bd.exec Bd.bytes hml0 hZ (findClass_of_methodNamed Bd.named) (name_of_methodNamed Bd.named Bd.method).1 Bd.returns (BodyLoose.notSynchronized Bd) X0 (by rw [← hh, Bd.state]; rfl) hh ((State.WarmedH.refl s).since _) (Nat.le_refl _) hI
  rw [hfr m]; exact q
theorem own_retX {Q : Option Value → Vm → Heap → List Loc → Prop} {k n : Nat} {v : Option Value} {fr : JFrame} (X : Stand p l e R (s.setVm vm0) m args below meth c T locs cells slots) (hS : s.Since vm0 k0) (hk : k0 ≤ T.heap.size) (hv : meth.sig.returnType = none → v = none) (hlk : meth.locks = false)
    (hst : ∀ fs, (∀ (f : JFrame) (acts : List Action), f.method = m → f.locked = none → f.entered = [] → (doReturn e (T.setTop f) acts v).1 = T.setFrames fs) → Steps p.tables e below (T.setTop fr) (T.setFrames fs)) (hQ : Q v T.vm T.heap locs) (hc : cells ≤ k) (hn : slots ≤ n) : own_G p e below (own_FI s Q k n) (T.setTop fr) := by
  obtain ⟨fs, hr, hrun, hended, hE⟩ := X.leaveW hS hk hv hlk
  exact ⟨_, _, hst fs hr, hrun, hended, v, locs, rfl, hQ, hE.1, hE.2.1, hE.2.2.1, hE.2.2.2.mono hc hn⟩
theorem own_retXI {Q : Option Value → Vm → Heap → List Loc → Prop} {k n : Nat} {z : Int32} (X : Stand p l e R (s.setVm vm0) m args below meth c T locs cells slots) (hx : p.tables.exec = Jvm.exec) (hS : s.Since vm0 k0) (hk : k0 ≤ T.heap.size) (hret : meth.sig.returnType = some .int) (hlk : meth.locks = false) (hd : decode c.code pc = .ok (.ireturn, 1))
    (hQ : Q (some (.int z)) T.vm T.heap locs) (hc : cells ≤ k) (hn : slots ≤ n) : own_G p e below (own_FI s Q k n) (T.setTop (mkF m pc Ls (.int z :: st))) :=
  own_retX X hS hk (fun q => by rw [hret] at q; cases q) hlk (fun _ hr => own_stepI X hx hret hd hr) hQ hc hn
theorem own_retXN {Q : Option Value → Vm → Heap → List Loc → Prop} {k n : Nat} {z : Int32} {t : FieldType} (X : Stand p l e R (s.setVm vm0) m args below meth c T locs cells slots) (hx : p.tables.exec = Jvm.exec) (hS : s.Since vm0 k0) (hk : k0 ≤ T.heap.size) (hret : meth.sig.returnType = some t) (ht : t = .boolean ∨ t = .byte ∨ t = .char ∨ t = .short) (hlk : meth.locks = false) (hd : decode c.code pc = .ok (.ireturn, 1))
    (hQ : Q (some (.int (nar t z))) T.vm T.heap locs) (hc : cells ≤ k) (hn : slots ≤ n) : own_G p e below (own_FI s Q k n) (T.setTop (mkF m pc Ls (.int z :: st))) :=
  own_retX X hS hk (fun q => by rw [hret] at q; cases q) hlk (fun _ hr => retN X hx hret ht hd hr) hQ hc hn
theorem own_retXR {Q : Option Value → Vm → Heap → List Loc → Prop} {k n : Nat} {w : Value} {t : FieldType} (X : Stand p l e R (s.setVm vm0) m args below meth c T locs cells slots) (hx : p.tables.exec = Jvm.exec) (hS : s.Since vm0 k0) (hk : k0 ≤ T.heap.size) (hret : meth.sig.returnType = some t) (ht : t.isReference = true) (hnw : narrow t w = w) (hwr : w.isRef = true) (hlk : meth.locks = false) (hd : decode c.code pc = .ok (.areturn, 1))
    (hQ : Q (some w) T.vm T.heap locs) (hc : cells ≤ k) (hn : slots ≤ n) : own_G p e below (own_FI s Q k n) (T.setTop (mkF m pc Ls (w :: st))) :=
  own_retX X hS hk (fun q => by rw [hret] at q; cases q) hlk (fun _ hr => retOut X hx (t := t) (i := .areturn) hret hnw (Or.inr (Or.inr (Or.inr (Or.inr ⟨rfl, ht, hwr⟩)))) hd hr) hQ hc hn
theorem own_retXV {Q : Option Value → Vm → Heap → List Loc → Prop} {k n : Nat} (X : Stand p l e R (s.setVm vm0) m args below meth c T locs cells slots) (hx : p.tables.exec = Jvm.exec) (hS : s.Since vm0 k0) (hk : k0 ≤ T.heap.size) (hret : meth.sig.returnType = none) (hlk : meth.locks = false) (hd : decode c.code pc = .ok (.return_, 1))
    (hQ : Q none T.vm T.heap locs) (hc : cells ≤ k) (hn : slots ≤ n) : own_G p e below (own_FI s Q k n) (T.setTop (mkF m pc Ls [])) :=
  own_retX X hS hk (fun _ => rfl) hlk (fun _ hr => X.returnOut hx hret hd hr) hQ hc hn
theorem own_IBw {Ts : List String} {vm1 : Vm} (I : IB Z vm0 Ts) (hW : (s.setVm vm0).WarmedH vm1) : IB Z vm1 Ts := by
  obtain ⟨more, h1, h2⟩ := I
  exact ⟨more, (hW.interned_eq).trans h1, h2⟩
/-- ldc of a Latin-1 String constant, its text read -/
theorem own_ldcV {Ts : List String} (X : Stand p l e R (s.setVm vm0) m args below meth c T locs cells slots) (hx : p.tables.exec = Jvm.exec) (hZ : Z.Warmed39 (s.setVm vm0).vm) {own text : String} {index : Nat} (hown : (s.setVm vm0).vm.findClass own = some m.cls) (w : (Jvm.Cond.stringLink own index text).before a0 Z = true) (wS : ∀ a ∈ Bundle.stringAtoms, a.before a0 Z = true)
    (eT : T.heap = h) (hS : s.Since vm0 k0) (hk : k0 ≤ h.size) (N : Fr s.heap.size locs) (hkeep : ∀ (b : Addr) (cl : Cell), Z.heap[b]? = some cl → s.heap[b]? = some cl) (IV : IB Z vm0 Ts) (hnot : text ∉ Ts) (hh : Jvm.Lit.constHeld Z own index) (hcw : Jvm.Lit.compactW.before a0 Z = true)
    {vs : List Value} {z : Int32} (ht : (∀ c ∈ text.toList, c.toNat < 256) ∧ text.toList.map (fun c => Value.int (Jvm.Lit.byteI c.toNat.toUInt16)) = vs) (hz : ¬ z < 0) (hl : z.toNatClampNeg = vs.length) (hd : decode c.code pc = .ok (.ldc index, 2)) (n : Nat) (hn : 4 * text.toList.length ≤ n) (hbig : n ≤ 536870912) (hc : cells + 2 ≤ R.cells) (hl' : slots + (n + 4) ≤ R.slots)
    (k : ∀ (a : Addr) (T' : State) (h' : Heap) (vm1 : Vm) (k1 : Nat) (b : Addr) (kb : ClassId), Stand p l e R (s.setVm vm1) m args below meth c T' locs (cells + 2) (slots + (n + 4)) → T'.heap = h' → Ext h h' → h.size ≤ h'.size → s.Since vm1 k1 → k1 ≤ h'.size → Z.Warmed39 (s.setVm vm1).vm → (s.setVm vm1).vm.findClass own = some m.cls →
      Exa Z h' a "java/lang/String" → Fld Z h' a "java/lang/String" "coder" "B" (.int 0) → Fld Z h' a "java/lang/String" "value" "[B" (.ref b) → Arv Z h' b kb .byte z vs (.int 0) → IB Z vm1 (text :: Ts) → Lit (s.setVm vm1) own index a →
      own_G p e below F (T'.setTop (mkF m (pc + 2) Ls (.ref a :: st)))) : own_G p e below F (T.setTop (mkF m pc Ls st)) := by
  obtain ⟨a, T', h', k1, b, kb, X', e', E', hS', hk', hZ', ho', f1, f2, f3, f4, -, -, f5, f6, st'⟩ := ldcSVL X hx hZ hown w wS eT hS hk N hkeep IV hnot hh hcw ht hz hl (g := mkF m pc Ls st) rfl hd hn hbig hc hl'
  exact own_step st' (k a T' h' T'.vm k1 b kb X' e' E' E'.1 hS' hk' hZ' ho' f1 f2 f3 f4 f5 f6)
theorem own_ldcA (X : Stand p l e R (s.setVm vm0) m args below meth c T locs cells slots) (hx : p.tables.exec = Jvm.exec) (hZ : Z.Warmed39 (s.setVm vm0).vm) {own text : String} {index : Nat} (hown : (s.setVm vm0).vm.findClass own = some m.cls) (w : (Jvm.Cond.stringLink own index text).before a0 Z = true) {a : Addr} (L : Lit (s.setVm vm0) own index a) (hd : decode c.code pc = .ok (.ldc index, 2))
    (k : own_G p e below F (T.setTop (mkF m (pc + 2) Ls (.ref a :: st)))) : own_G p e below F (T.setTop (mkF m pc Ls st)) :=
  own_step (ldcAgain X hx hZ hown w L (g := mkF m pc Ls st) rfl hd) k
theorem own_backI {y : MethodName} {bytes : ByteArray} {maxL : Nat} {ret : Option FieldType} {rm : Room} {W : Nat} {as' : Array Value} {Q : Option Value → Vm → Heap → List Loc → Prop}
    (hM : own_MetI l Z y bytes maxL ret [] rm as' h I Q) (hZ : Z.Warmed39 s.vm) (hI : ∀ vm', s.WarmedH vm' → I vm') (wc : (Jvm.Cond.code y bytes maxL ret).before a0 Z = true) (wz : (Jvm.Cond.initialized y.cls).before a0 Z = true) (hf : rm.frames + 1 ≤ R.frames) (hl : W + (maxL + 11) + rm.locals ≤ R.locals) :
    BackS l R p e below s args y 3 W (fun A a => a = as' ∧ A.U.heap = h ∧ A.cells + rm.cells ≤ R.cells ∧ A.slots + rm.slots ≤ R.slots)
      (fun A _ v B => ∃ L, Q v B.U.vm B.U.heap L ∧ B.locs = A.locs ++ L ∧ B.cells = A.cells + rm.cells ∧ B.slots = A.slots + rm.slots) :=
  BackS.of_freeW (bytes := bytes) (maxL := maxL) (ret := ret) (E := fun _ _ o t L k n => k = rm.cells ∧ n = rm.slots ∧ ∃ v, o = .returned v ∧ Q v t.vm t.heap L) hM hf hl
    (fun m meth c A a Y hp => have hU : Z.Warmed39 A.U.vm := wtrans hZ Y.warmed
      ⟨by show (Jvm.Cond.and _ .tt).before a A.U = true; rw [Cond.before_and, mv hU wc]; rfl, mv hU wc, mv hU wz, hp.2.2.1, hp.2.2.2⟩)
    (fun m meth c A a g mk Y hp => ⟨hp.1, wtrans hZ Y.warmed, hp.2.1, hI _ Y.warmed⟩) (fun _ _ _ _ _ _ _ _ _ => trivial)
    (fun _ _ _ _ ⟨v, L, h1, h2, h3⟩ => ⟨L, _, _, h3, rfl, rfl, v, h1, h2⟩)
    (fun m meth c A a g mk v t L k n Y hp _ _ ⟨e1, e2, v', e3, e4⟩ => by cases e3; subst e1 e2; exact ⟨L, e4, rfl, rfl, rfl⟩)
abbrev own_K (p : Program) (l : Launch) (e : Env) (R : Room) (s : State) (m : MethodId) (args : Array Value) (below : List Frame) (meth : Method) (c : Code) (locs : List Loc) (kc kn : Nat) (Z : State) (h : Heap) (own : String) (Q : Option Value → Vm → Heap → List Loc → Prop) (F : Outcome → State → Prop) (pc : Nat) (Ls : Array Slot) (st : List Value) : Prop :=
  ∀ (v : Option Value) (T' : State) (L : List Loc) (vm1 : Vm) (k1 : Nat), Stand p l e R (s.setVm vm1) m args below meth c T' (locs ++ L) kc kn → vm1 = T'.vm → h.size ≤ T'.heap.size → s.Since vm1 k1 → k1 ≤ T'.heap.size → Z.Warmed39 (s.setVm vm1).vm → (s.setVm vm1).vm.findClass own = some m.cls → Q v vm1 T'.heap L →
      own_G p e below F (T'.setTop (mkF m (pc + 3) Ls (v.toList ++ st)))
theorem own_staticI {Q : Option Value → Vm → Heap → List Loc → Prop} {rm : Room} {W : Nat} {argsL : List Value} (X : Stand p l e R (s.setVm vm0) m args below meth c T locs cells slots) (hx : p.tables.exec = Jvm.exec) (hZ : Z.Warmed39 (s.setVm vm0).vm) {own : String} {index : Nat} {y : MethodName} {bytes : ByteArray} {maxL : Nat} {ret : Option FieldType} (hown : (s.setVm vm0).vm.findClass own = some m.cls)
    (w1 : (Jvm.Cond.methodLink own index y).before a0 Z = true) (w2 : (Jvm.Cond.static y).before a0 Z = true) (w3 : (Jvm.Cond.initialized y.cls).before a0 Z = true) (w4 : (Jvm.Cond.code y bytes maxL ret).before a0 Z = true) (hy : y.cls ≠ "java/lang/invoke/MethodHandle" ∧ y.cls ≠ "java/lang/invoke/VarHandle") (eT : T.heap = h) (hS : s.Since vm0 k0) (hk : k0 ≤ h.size)
    (hM : own_MetI l Z y bytes maxL ret [] rm argsL.toArray h I Q) (hI : ∀ vm', (s.setVm vm0).WarmedH vm' → I vm') (hf : rm.frames + 1 ≤ R.frames) (hl : W + (maxL + 11) + rm.locals ≤ R.locals) (hc : cells + rm.cells ≤ R.cells) (hs : slots + rm.slots ≤ R.slots) (hsz : Ls.size = c.maxLocals) (hlen : ∀ sig, parseMethodDescriptor y.desc = some sig → argsL.length = sig.parameters.length) (hstk : stk = argsL.reverse ++ st) (hW : (st.map fun v => v.category).sum ≤ W)
    (hd : decode c.code pc = .ok (.invokestatic index, 3)) (k : own_K p l e R s m args below meth c locs (cells + rm.cells) (slots + rm.slots) Z h own Q F pc Ls st) : own_G p e below F (T.setTop (mkF m pc Ls stk)) := by
  obtain ⟨v, _, ⟨T', L', k', n'⟩, -, X', hS', hg', ⟨L, hQ, l1, y1, z1⟩, st'⟩ := callSS X hx hown (mvT hZ w1) (mvT hZ w2) (mvT hZ w3) (mvT hZ w4) hy (own_backI (W := W) hM hZ hI w4 w3 hf hl) (g := mkF m pc Ls stk) rfl hsz (argsL := argsL) (rest := st) hlen hstk (by show 2 * 0 + _ ≤ _; omega) hd (fun _ _ => ⟨rfl, eT, hc, hs⟩)
  dsimp only [Pt.U, Pt.locs, Pt.cells, Pt.slots] at X' l1 y1 z1 st' hQ hS' hg'
  subst l1 y1 z1
  rw [eT] at hg'
  obtain ⟨r1, r2, r3, r4⟩ := rebS hS hk X' hS' hg' hZ hown
  exact own_go st' (k v T' L T'.vm T'.heap.size r1 rfl hg' r2 (Nat.le_refl _) r3 r4 hQ)
theorem own_specialI {Q : Option Value → Vm → Heap → List Loc → Prop} {rm : Room} {W : Nat} {argsL : List Value} {a : Addr} (X : Stand p l e R (s.setVm vm0) m args below meth c T locs cells slots) (hx : p.tables.exec = Jvm.exec) (hZ : Z.Warmed39 (s.setVm vm0).vm) {own : String} {index : Nat} {y : MethodName} {bytes : ByteArray} {maxL : Nat} (hown : (s.setVm vm0).vm.findClass own = some m.cls) (hy1 : y.name = "<init>")
    (w1 : (Jvm.Cond.methodLink own index y).before a0 Z = true) (w2 : (Jvm.Cond.instanceMethod y).before a0 Z = true) (w4 : (Jvm.Cond.code y bytes maxL none).before a0 Z = true) (wz : (Jvm.Cond.initialized y.cls).before a0 Z = true) (hy : y.cls ≠ "java/lang/invoke/MethodHandle" ∧ y.cls ≠ "java/lang/invoke/VarHandle") (eT : T.heap = h) (hS : s.Since vm0 k0) (hk : k0 ≤ h.size)
    (hM : own_MetI l Z y bytes maxL none [] rm (.ref a :: argsL).toArray h I Q) (hI : ∀ vm', (s.setVm vm0).WarmedH vm' → I vm') (hf : rm.frames + 1 ≤ R.frames) (hl : W + (maxL + 11) + rm.locals ≤ R.locals) (hc : cells + rm.cells ≤ R.cells) (hs : slots + rm.slots ≤ R.slots) (hsz : Ls.size = c.maxLocals) (hlen : ∀ sig, parseMethodDescriptor y.desc = some sig → argsL.length = sig.parameters.length) (hstk : stk = argsL.reverse ++ .ref a :: st) (hW : (st.map fun v => v.category).sum ≤ W)
    (hd : decode c.code pc = .ok (.invokespecial index, 3)) (k : own_K p l e R s m args below meth c locs (cells + rm.cells) (slots + rm.slots) Z h own Q F pc Ls st) : own_G p e below F (T.setTop (mkF m pc Ls stk)) := by
  obtain ⟨v, _, ⟨T', L', k', n'⟩, -, X', hS', hg', ⟨L, hQ, l1, y1, z1⟩, st'⟩ := X.specialBackS hx hy1 hown (mvT hZ w1) (mvT hZ w2) (mvT hZ w4) hy (own_backI (W := W) hM hZ hI w4 wz hf hl) (g := mkF m pc Ls stk) rfl hsz (Steps.refl _) (a := a) (argsL := argsL) (rest := st) hlen hstk (by show 2 * 0 + _ ≤ _; omega) hd (fun _ _ => ⟨rfl, eT, hc, hs⟩)
  dsimp only [Pt.U, Pt.locs, Pt.cells, Pt.slots] at X' l1 y1 z1 st' hQ hS' hg'
  subst l1 y1 z1
  rw [eT] at hg'
  obtain ⟨r1, r2, r3, r4⟩ := rebS hS hk X' hS' hg' hZ hown
  exact own_go st' (k v T' L T'.vm T'.heap.size r1 rfl hg' r2 (Nat.le_refl _) r3 r4 hQ)
theorem own_virtualI {Q : Option Value → Vm → Heap → List Loc → Prop} {rm : Room} {W : Nat} {argsL : List Value} {a : Addr} {C : String} (X : Stand p l e R (s.setVm vm0) m args below meth c T locs cells slots) (hx : p.tables.exec = Jvm.exec) (hZ : Z.Warmed39 (s.setVm vm0).vm) {own : String} {index : Nat} {y : MethodName} {bytes : ByteArray} {maxL : Nat} {ret : Option FieldType} (hown : (s.setVm vm0).vm.findClass own = some m.cls)
    (w1 : (Jvm.Cond.methodLink own index y).before a0 Z = true) (w2 : (Jvm.Cond.declares y).before a0 Z = true) (w3 : (Jvm.Cond.selects C y y).before a0 Z = true) (hCy : C = y.cls) (wi : (Jvm.Cond.instanceMethod y).before a0 Z = true) (w4 : (Jvm.Cond.code y bytes maxL ret).before a0 Z = true) (wz : (Jvm.Cond.initialized y.cls).before a0 Z = true) (hy : y.cls ≠ "java/lang/invoke/MethodHandle" ∧ y.cls ≠ "java/lang/invoke/VarHandle") (eT : T.heap = h) (hS : s.Since vm0 k0) (hk : k0 ≤ h.size) (E : Exa Z h a C)
    (hM : own_MetI l Z y bytes maxL ret [] rm (.ref a :: argsL).toArray h I Q) (hI : ∀ vm', (s.setVm vm0).WarmedH vm' → I vm') (hf : rm.frames + 1 ≤ R.frames) (hl : W + (maxL + 11) + rm.locals ≤ R.locals) (hc : cells + rm.cells ≤ R.cells) (hs : slots + rm.slots ≤ R.slots) (hsz : Ls.size = c.maxLocals) (hlen : ∀ sig, parseMethodDescriptor y.desc = some sig → argsL.length = sig.parameters.length) (hstk : stk = argsL.reverse ++ .ref a :: st) (hW : (st.map fun v => v.category).sum ≤ W)
    (hd : decode c.code pc = .ok (.invokevirtual index, 3)) (k : own_K p l e R s m args below meth c locs (cells + rm.cells) (slots + rm.slots) Z h own Q F pc Ls st) : own_G p e below F (T.setTop (mkF m pc Ls stk)) := by
  subst hCy
  obtain ⟨cB, kB, q1, q2, q3⟩ := isOf hZ eT E
  obtain ⟨v, _, ⟨T', L', k', n'⟩, -, X', hS', hg', ⟨L, hQ, l1, y1, z1⟩, st'⟩ := X.virtualBackS hx hown (mvT hZ w1) (mvT hZ w2) (notFace_of_selects (args := #[]) (mvT hZ w3)) (mvT hZ w3) (mvT hZ wi) hy (own_backI (W := W) hM hZ hI w4 wz hf hl) q1 q3 (g := mkF m pc Ls stk) rfl hsz (Steps.refl _) (argsL := argsL) (rest := st) hlen hstk (by show 2 * 0 + _ ≤ _; omega) hd (fun _ _ => ⟨rfl, eT, hc, hs⟩)
  dsimp only [Pt.U, Pt.locs, Pt.cells, Pt.slots] at X' l1 y1 z1 st' hQ hS' hg'
  subst l1 y1 z1
  rw [eT] at hg'
  obtain ⟨r1, r2, r3, r4⟩ := rebS hS hk X' hS' hg' hZ hown
  exact own_go st' (k v T' L T'.vm T'.heap.size r1 rfl hg' r2 (Nat.le_refl _) r3 r4 hQ)
end OwnI

theorem own_and255 (x : Int32) : ¬ nar .char ((x &&& (255 : Int32)).toUInt32.toUInt16.toUInt32.toInt32) < 0 ∧ ¬ (255 : Int32) < nar .char ((x &&& (255 : Int32)).toUInt32.toUInt16.toUInt32.toInt32) := by
  have t : ∀ k : Fin 256, ¬ nar .char ((Int32.ofNat k.val).toUInt32.toUInt16.toUInt32.toInt32) < 0 ∧ ¬ (255 : Int32) < nar .char ((Int32.ofNat k.val).toUInt32.toUInt16.toUInt32.toInt32) := by decide +kernel
  have h : (x &&& 255).toBitVec.toNat < 256 := by
    simp only [Int32.toBitVec_and, BitVec.toNat_and]
    exact Nat.lt_succ_of_le Nat.and_le_right
  have e : (x &&& 255) = Int32.ofNat (x &&& 255).toBitVec.toNat := by
    apply Int32.toBitVec_inj.mp
    show _ = BitVec.ofNat 32 _
    rw [BitVec.ofNat_toNat]; simp
  rw [e]
  exact t ⟨_, h⟩
theorem d1_0 : decode method_2_code 0 = .ok (.iload_n 0, 1) := by decide +kernel
theorem d1_1 : decode method_2_code 1 = .ok (.iconst 3, 1) := by decide +kernel
theorem d1_2 : decode method_2_code 2 = .ok (.iand, 1) := by decide +kernel
theorem d1_3 : decode method_2_code 3 = .ok (.istore_n 1, 1) := by decide +kernel
theorem d1_4 : decode method_2_code 4 = .ok (.iload_n 1, 1) := by decide +kernel
theorem d1_5 : decode method_2_code 5 = .ok (.ifCond .ne 6, 3) := by decide +kernel
theorem d1_8 : decode method_2_code 8 = .ok (.bipush 32, 2) := by decide +kernel
theorem d1_10 : decode method_2_code 10 = .ok (.ireturn, 1) := by decide +kernel
theorem d1_11 : decode method_2_code 11 = .ok (.iload_n 1, 1) := by decide +kernel
theorem d1_12 : decode method_2_code 12 = .ok (.iconst 1, 1) := by decide +kernel
theorem d1_13 : decode method_2_code 13 = .ok (.if_icmp .ne 6, 3) := by decide +kernel
theorem d1_16 : decode method_2_code 16 = .ok (.bipush 9, 2) := by decide +kernel
theorem d1_18 : decode method_2_code 18 = .ok (.ireturn, 1) := by decide +kernel
theorem d1_19 : decode method_2_code 19 = .ok (.iload_n 0, 1) := by decide +kernel
theorem d1_20 : decode method_2_code 20 = .ok (.iconst 2, 1) := by decide +kernel
theorem d1_21 : decode method_2_code 21 = .ok (.iushr, 1) := by decide +kernel
theorem d1_22 : decode method_2_code 22 = .ok (.sipush 255, 3) := by decide +kernel
theorem d1_25 : decode method_2_code 25 = .ok (.iand, 1) := by decide +kernel
theorem d1_26 : decode method_2_code 26 = .ok (.i2c, 1) := by decide +kernel
theorem d1_27 : decode method_2_code 27 = .ok (.ireturn, 1) := by decide +kernel
theorem d2_0 : decode jdk_42_method_3_code 0 = .ok (.aload_n 0, 1) := by decide +kernel
theorem d2_1 : decode jdk_42_method_3_code 1 = .ok (.aload_n 1, 1) := by decide +kernel
theorem d2_2 : decode jdk_42_method_3_code 2 = .ok (.iconst 0, 1) := by decide +kernel
theorem d2_3 : decode jdk_42_method_3_code 3 = .ok (.aload_n 1, 1) := by decide +kernel
theorem d2_4 : decode jdk_42_method_3_code 4 = .ok (.arraylength, 1) := by decide +kernel
theorem d2_5 : decode jdk_42_method_3_code 5 = .ok (.aconst_null, 1) := by decide +kernel
theorem d2_6 : decode jdk_42_method_3_code 6 = .ok (.invokespecial 27, 3) := by decide +kernel
theorem d2_9 : decode jdk_42_method_3_code 9 = .ok (.return_, 1) := by decide +kernel
theorem d3_0 : decode jdk_42_method_149_code 0 = .ok (.aload_n 0, 1) := by decide +kernel
theorem d3_1 : decode jdk_42_method_149_code 1 = .ok (.invokespecial 1, 3) := by decide +kernel
theorem d3_4 : decode jdk_42_method_149_code 4 = .ok (.iload_n 3, 1) := by decide +kernel
theorem d3_5 : decode jdk_42_method_149_code 5 = .ok (.ifCond .ne 22, 3) := by decide +kernel
theorem d3_8 : decode jdk_42_method_149_code 8 = .ok (.aload_n 0, 1) := by decide +kernel
theorem d3_9 : decode jdk_42_method_149_code 9 = .ok (.ldc 7, 2) := by decide +kernel
theorem d3_11 : decode jdk_42_method_149_code 11 = .ok (.getfield 9, 3) := by decide +kernel
theorem d3_14 : decode jdk_42_method_149_code 14 = .ok (.putfield 9, 3) := by decide +kernel
theorem d3_17 : decode jdk_42_method_149_code 17 = .ok (.aload_n 0, 1) := by decide +kernel
theorem d3_18 : decode jdk_42_method_149_code 18 = .ok (.ldc 7, 2) := by decide +kernel
theorem d3_20 : decode jdk_42_method_149_code 20 = .ok (.getfield 15, 3) := by decide +kernel
theorem d3_23 : decode jdk_42_method_149_code 23 = .ok (.putfield 15, 3) := by decide +kernel
theorem d3_26 : decode jdk_42_method_149_code 26 = .ok (.return_, 1) := by decide +kernel
theorem d5_0 : decode prog_78_method_9_code 0 = .ok (.iconst 0, 1) := by decide +kernel
theorem d5_1 : decode prog_78_method_9_code 1 = .ok (.istore_n 1, 1) := by decide +kernel
theorem d5_2 : decode prog_78_method_9_code 2 = .ok (.aload_n 0, 1) := by decide +kernel
theorem d5_3 : decode prog_78_method_9_code 3 = .ok (.invokevirtual 251, 3) := by decide +kernel
theorem d5_6 : decode prog_78_method_9_code 6 = .ok (.istore_n 2, 1) := by decide +kernel
theorem d5_7 : decode prog_78_method_9_code 7 = .ok (.iload_n 1, 1) := by decide +kernel
theorem d5_8 : decode prog_78_method_9_code 8 = .ok (.iload_n 2, 1) := by decide +kernel
theorem d5_9 : decode prog_78_method_9_code 9 = .ok (.if_icmp .ge 20, 3) := by decide +kernel
theorem d5_12 : decode prog_78_method_9_code 12 = .ok (.aload_n 0, 1) := by decide +kernel
theorem d5_13 : decode prog_78_method_9_code 13 = .ok (.iload_n 1, 1) := by decide +kernel
theorem d5_14 : decode prog_78_method_9_code 14 = .ok (.invokevirtual 139, 3) := by decide +kernel
theorem d5_17 : decode prog_78_method_9_code 17 = .ok (.invokestatic 143, 3) := by decide +kernel
theorem d5_20 : decode prog_78_method_9_code 20 = .ok (.ifCond .eq 9, 3) := by decide +kernel
theorem d5_23 : decode prog_78_method_9_code 23 = .ok (.iinc 1 1, 3) := by decide +kernel
theorem d5_26 : decode prog_78_method_9_code 26 = .ok (.goto (-19), 3) := by decide +kernel
theorem d5_29 : decode prog_78_method_9_code 29 = .ok (.iload_n 2, 1) := by decide +kernel
theorem d5_30 : decode prog_78_method_9_code 30 = .ok (.iload_n 1, 1) := by decide +kernel
theorem d5_31 : decode prog_78_method_9_code 31 = .ok (.if_icmp .le 22, 3) := by decide +kernel
theorem d5_34 : decode prog_78_method_9_code 34 = .ok (.aload_n 0, 1) := by decide +kernel
theorem d5_35 : decode prog_78_method_9_code 35 = .ok (.iload_n 2, 1) := by decide +kernel
theorem d5_36 : decode prog_78_method_9_code 36 = .ok (.iconst 1, 1) := by decide +kernel
theorem d5_37 : decode prog_78_method_9_code 37 = .ok (.isub, 1) := by decide +kernel
theorem d5_38 : decode prog_78_method_9_code 38 = .ok (.invokevirtual 139, 3) := by decide +kernel
theorem d5_41 : decode prog_78_method_9_code 41 = .ok (.invokestatic 143, 3) := by decide +kernel
theorem d5_44 : decode prog_78_method_9_code 44 = .ok (.ifCond .eq 9, 3) := by decide +kernel
theorem d5_47 : decode prog_78_method_9_code 47 = .ok (.iinc 2 (-1), 3) := by decide +kernel
theorem d5_50 : decode prog_78_method_9_code 50 = .ok (.goto (-21), 3) := by decide +kernel
theorem d5_53 : decode prog_78_method_9_code 53 = .ok (.aload_n 0, 1) := by decide +kernel
theorem d5_54 : decode prog_78_method_9_code 54 = .ok (.iload_n 1, 1) := by decide +kernel
theorem d5_55 : decode prog_78_method_9_code 55 = .ok (.iload_n 2, 1) := by decide +kernel
theorem d5_56 : decode prog_78_method_9_code 56 = .ok (.invokevirtual 268, 3) := by decide +kernel
theorem d5_59 : decode prog_78_method_9_code 59 = .ok (.areturn, 1) := by decide +kernel
theorem d8_0 : decode jdk_42_method_92_code 0 = .ok (.aload_n 0, 1) := by decide +kernel
theorem d8_1 : decode jdk_42_method_92_code 1 = .ok (.invokevirtual 505, 3) := by decide +kernel
theorem d8_4 : decode jdk_42_method_92_code 4 = .ok (.istore_n 3, 1) := by decide +kernel
theorem d8_5 : decode jdk_42_method_92_code 5 = .ok (.iload_n 1, 1) := by decide +kernel
theorem d8_6 : decode jdk_42_method_92_code 6 = .ok (.iload_n 2, 1) := by decide +kernel
theorem d8_7 : decode jdk_42_method_92_code 7 = .ok (.iload_n 3, 1) := by decide +kernel
theorem d8_8 : decode jdk_42_method_92_code 8 = .ok (.invokestatic 521, 3) := by decide +kernel
theorem d8_11 : decode jdk_42_method_92_code 11 = .ok (.iload_n 1, 1) := by decide +kernel
theorem d8_12 : decode jdk_42_method_92_code 12 = .ok (.ifCond .ne 10, 3) := by decide +kernel
theorem d8_15 : decode jdk_42_method_92_code 15 = .ok (.iload_n 2, 1) := by decide +kernel
theorem d8_16 : decode jdk_42_method_92_code 16 = .ok (.iload_n 3, 1) := by decide +kernel
theorem d8_17 : decode jdk_42_method_92_code 17 = .ok (.if_icmp .ne 5, 3) := by decide +kernel
theorem d8_20 : decode jdk_42_method_92_code 20 = .ok (.aload_n 0, 1) := by decide +kernel
theorem d8_21 : decode jdk_42_method_92_code 21 = .ok (.areturn, 1) := by decide +kernel
theorem d8_22 : decode jdk_42_method_92_code 22 = .ok (.iload_n 2, 1) := by decide +kernel
theorem d8_23 : decode jdk_42_method_92_code 23 = .ok (.iload_n 1, 1) := by decide +kernel
theorem d8_24 : decode jdk_42_method_92_code 24 = .ok (.isub, 1) := by decide +kernel
theorem d8_25 : decode jdk_42_method_92_code 25 = .ok (.istore 4, 2) := by decide +kernel
theorem d8_27 : decode jdk_42_method_92_code 27 = .ok (.aload_n 0, 1) := by decide +kernel
theorem d8_28 : decode jdk_42_method_92_code 28 = .ok (.invokevirtual 492, 3) := by decide +kernel
theorem d8_31 : decode jdk_42_method_92_code 31 = .ok (.ifCond .eq 16, 3) := by decide +kernel
theorem d8_34 : decode jdk_42_method_92_code 34 = .ok (.aload_n 0, 1) := by decide +kernel
theorem d8_35 : decode jdk_42_method_92_code 35 = .ok (.getfield 9, 3) := by decide +kernel
theorem d8_38 : decode jdk_42_method_92_code 38 = .ok (.iload_n 1, 1) := by decide +kernel
theorem d8_39 : decode jdk_42_method_92_code 39 = .ok (.iload 4, 2) := by decide +kernel
theorem d8_41 : decode jdk_42_method_92_code 41 = .ok (.invokestatic 685, 3) := by decide +kernel
theorem d8_44 : decode jdk_42_method_92_code 44 = .ok (.goto 13, 3) := by decide +kernel
theorem d8_57 : decode jdk_42_method_92_code 57 = .ok (.areturn, 1) := by decide +kernel
theorem d9_0 : decode jdk_42_method_158_code 0 = .ok (.iload_n 0, 1) := by decide +kernel
theorem d9_1 : decode jdk_42_method_158_code 1 = .ok (.iload_n 1, 1) := by decide +kernel
theorem d9_2 : decode jdk_42_method_158_code 2 = .ok (.iload_n 2, 1) := by decide +kernel
theorem d9_3 : decode jdk_42_method_158_code 3 = .ok (.getstatic 1053, 3) := by decide +kernel
theorem d9_6 : decode jdk_42_method_158_code 6 = .ok (.invokestatic 1062, 3) := by decide +kernel
theorem d9_9 : decode jdk_42_method_158_code 9 = .ok (.pop, 1) := by decide +kernel
theorem d9_10 : decode jdk_42_method_158_code 10 = .ok (.return_, 1) := by decide +kernel
theorem d10_0 : decode jdk_41_method_12_code 0 = .ok (.iload_n 0, 1) := by decide +kernel
theorem d10_1 : decode jdk_41_method_12_code 1 = .ok (.ifCond .lt 13, 3) := by decide +kernel
theorem d10_4 : decode jdk_41_method_12_code 4 = .ok (.iload_n 0, 1) := by decide +kernel
theorem d10_5 : decode jdk_41_method_12_code 5 = .ok (.iload_n 1, 1) := by decide +kernel
theorem d10_6 : decode jdk_41_method_12_code 6 = .ok (.if_icmp .gt 8, 3) := by decide +kernel
theorem d10_9 : decode jdk_41_method_12_code 9 = .ok (.iload_n 1, 1) := by decide +kernel
theorem d10_10 : decode jdk_41_method_12_code 10 = .ok (.iload_n 2, 1) := by decide +kernel
theorem d10_11 : decode jdk_41_method_12_code 11 = .ok (.if_icmp .le 11, 3) := by decide +kernel
theorem d10_22 : decode jdk_41_method_12_code 22 = .ok (.iload_n 0, 1) := by decide +kernel
theorem d10_23 : decode jdk_41_method_12_code 23 = .ok (.ireturn, 1) := by decide +kernel
theorem d11_0 : decode method_3_code 0 = .ok (.iload_n 1, 1) := by decide +kernel
theorem d11_1 : decode method_3_code 1 = .ok (.iload_n 2, 1) := by decide +kernel
theorem d11_2 : decode method_3_code 2 = .ok (.if_icmp .ge 23, 3) := by decide +kernel
theorem d11_5 : decode method_3_code 5 = .ok (.aload_n 0, 1) := by decide +kernel
theorem d11_6 : decode method_3_code 6 = .ok (.iload_n 1, 1) := by decide +kernel
theorem d11_7 : decode method_3_code 7 = .ok (.caload, 1) := by decide +kernel
theorem d11_8 : decode method_3_code 8 = .ok (.bipush 32, 2) := by decide +kernel
theorem d11_10 : decode method_3_code 10 = .ok (.if_icmp .eq 15, 3) := by decide +kernel
theorem d11_13 : decode method_3_code 13 = .ok (.aload_n 0, 1) := by decide +kernel
theorem d11_14 : decode method_3_code 14 = .ok (.iload_n 1, 1) := by decide +kernel
theorem d11_15 : decode method_3_code 15 = .ok (.caload, 1) := by decide +kernel
theorem d11_16 : decode method_3_code 16 = .ok (.bipush 9, 2) := by decide +kernel
theorem d11_18 : decode method_3_code 18 = .ok (.if_icmp .eq 7, 3) := by decide +kernel
theorem d11_21 : decode method_3_code 21 = .ok (.iconst 1, 1) := by decide +kernel
theorem d11_22 : decode method_3_code 22 = .ok (.goto 4, 3) := by decide +kernel
theorem d11_25 : decode method_3_code 25 = .ok (.iconst 0, 1) := by decide +kernel
theorem d11_26 : decode method_3_code 26 = .ok (.ireturn, 1) := by decide +kernel
theorem d12_0 : decode method_4_code 0 = .ok (.iload_n 1, 1) := by decide +kernel
theorem d12_1 : decode method_4_code 1 = .ok (.iload_n 2, 1) := by decide +kernel
theorem d12_2 : decode method_4_code 2 = .ok (.if_icmp .ge 17, 3) := by decide +kernel
theorem d12_5 : decode method_4_code 5 = .ok (.aload_n 0, 1) := by decide +kernel
theorem d12_6 : decode method_4_code 6 = .ok (.iload_n 1, 1) := by decide +kernel
theorem d12_7 : decode method_4_code 7 = .ok (.invokevirtual 7, 3) := by decide +kernel
theorem d12_10 : decode method_4_code 10 = .ok (.aload_n 3, 1) := by decide +kernel
theorem d12_11 : decode method_4_code 11 = .ok (.iload 4, 2) := by decide +kernel
theorem d12_13 : decode method_4_code 13 = .ok (.iload_n 1, 1) := by decide +kernel
theorem d12_14 : decode method_4_code 14 = .ok (.iadd, 1) := by decide +kernel
theorem d12_15 : decode method_4_code 15 = .ok (.caload, 1) := by decide +kernel
theorem d12_16 : decode method_4_code 16 = .ok (.if_icmp .ne 7, 3) := by decide +kernel
theorem d12_19 : decode method_4_code 19 = .ok (.iconst 1, 1) := by decide +kernel
theorem d12_20 : decode method_4_code 20 = .ok (.goto 4, 3) := by decide +kernel
theorem d12_24 : decode method_4_code 24 = .ok (.ireturn, 1) := by decide +kernel
theorem d17_0 : decode jdk_42_method_154_code 0 = .ok (.getstatic 38, 3) := by decide +kernel
theorem d17_3 : decode jdk_42_method_154_code 3 = .ok (.ifCond .eq 14, 3) := by decide +kernel
theorem d17_6 : decode jdk_42_method_154_code 6 = .ok (.aload_n 0, 1) := by decide +kernel
theorem d17_7 : decode jdk_42_method_154_code 7 = .ok (.getfield 15, 3) := by decide +kernel
theorem d17_10 : decode jdk_42_method_154_code 10 = .ok (.ifCond .ne 7, 3) := by decide +kernel
theorem d17_13 : decode jdk_42_method_154_code 13 = .ok (.iconst 1, 1) := by decide +kernel
theorem d17_14 : decode jdk_42_method_154_code 14 = .ok (.goto 4, 3) := by decide +kernel
theorem d17_18 : decode jdk_42_method_154_code 18 = .ok (.ireturn, 1) := by decide +kernel
theorem d21_0 : decode prog_78_method_10_code 0 = .ok (.iload_n 0, 1) := by decide +kernel
theorem d21_1 : decode prog_78_method_10_code 1 = .ok (.bipush 32, 2) := by decide +kernel
theorem d21_3 : decode prog_78_method_10_code 3 = .ok (.if_icmp .eq 9, 3) := by decide +kernel
theorem d21_6 : decode prog_78_method_10_code 6 = .ok (.iload_n 0, 1) := by decide +kernel
theorem d21_7 : decode prog_78_method_10_code 7 = .ok (.bipush 9, 2) := by decide +kernel
theorem d21_9 : decode prog_78_method_10_code 9 = .ok (.if_icmp .ne 7, 3) := by decide +kernel
theorem d21_12 : decode prog_78_method_10_code 12 = .ok (.iconst 1, 1) := by decide +kernel
theorem d21_13 : decode prog_78_method_10_code 13 = .ok (.goto 4, 3) := by decide +kernel
theorem d21_16 : decode prog_78_method_10_code 16 = .ok (.iconst 0, 1) := by decide +kernel
theorem d21_17 : decode prog_78_method_10_code 17 = .ok (.ireturn, 1) := by decide +kernel
theorem d22_0 : decode jdk_43_method_47_code 0 = .ok (.iload_n 2, 1) := by decide +kernel
theorem d22_1 : decode jdk_43_method_47_code 1 = .ok (.ifCond .ne 6, 3) := by decide +kernel
theorem d22_4 : decode jdk_43_method_47_code 4 = .ok (.ldc 151, 2) := by decide +kernel
theorem d22_6 : decode jdk_43_method_47_code 6 = .ok (.areturn, 1) := by decide +kernel
theorem d22_7 : decode jdk_43_method_47_code 7 = .ok (.new 1, 3) := by decide +kernel
theorem d22_10 : decode jdk_43_method_47_code 10 = .ok (.dup, 1) := by decide +kernel
theorem d22_11 : decode jdk_43_method_47_code 11 = .ok (.aload_n 0, 1) := by decide +kernel
theorem d22_12 : decode jdk_43_method_47_code 12 = .ok (.iload_n 1, 1) := by decide +kernel
theorem d22_13 : decode jdk_43_method_47_code 13 = .ok (.iload_n 1, 1) := by decide +kernel
theorem d22_14 : decode jdk_43_method_47_code 14 = .ok (.iload_n 2, 1) := by decide +kernel
theorem d22_15 : decode jdk_43_method_47_code 15 = .ok (.iadd, 1) := by decide +kernel
theorem d22_16 : decode jdk_43_method_47_code 16 = .ok (.invokestatic 232, 3) := by decide +kernel
theorem d22_19 : decode jdk_43_method_47_code 19 = .ok (.iconst 0, 1) := by decide +kernel
theorem d22_20 : decode jdk_43_method_47_code 20 = .ok (.invokespecial 112, 3) := by decide +kernel
theorem d22_23 : decode jdk_43_method_47_code 23 = .ok (.areturn, 1) := by decide +kernel
theorem d23_0 : decode jdk_65_method_132_code 0 = .ok (.iload_n 1, 1) := by decide +kernel
theorem d23_1 : decode jdk_65_method_132_code 1 = .ok (.ifCond .ne 9, 3) := by decide +kernel
theorem d23_4 : decode jdk_65_method_132_code 4 = .ok (.iload_n 2, 1) := by decide +kernel
theorem d23_5 : decode jdk_65_method_132_code 5 = .ok (.aload_n 0, 1) := by decide +kernel
theorem d23_6 : decode jdk_65_method_132_code 6 = .ok (.arraylength, 1) := by decide +kernel
theorem d23_7 : decode jdk_65_method_132_code 7 = .ok (.if_icmp .eq 10, 3) := by decide +kernel
theorem d23_10 : decode jdk_65_method_132_code 10 = .ok (.aload_n 0, 1) := by decide +kernel
theorem d23_11 : decode jdk_65_method_132_code 11 = .ok (.iload_n 1, 1) := by decide +kernel
theorem d23_12 : decode jdk_65_method_132_code 12 = .ok (.iload_n 2, 1) := by decide +kernel
theorem d23_13 : decode jdk_65_method_132_code 13 = .ok (.invokestatic 339, 3) := by decide +kernel
theorem d23_16 : decode jdk_65_method_132_code 16 = .ok (.areturn, 1) := by decide +kernel
theorem d24_0 : decode jdk_65_method_133_code 0 = .ok (.iload_n 1, 1) := by decide +kernel
theorem d24_1 : decode jdk_65_method_133_code 1 = .ok (.iload_n 2, 1) := by decide +kernel
theorem d24_2 : decode jdk_65_method_133_code 2 = .ok (.invokestatic 343, 3) := by decide +kernel
theorem d24_5 : decode jdk_65_method_133_code 5 = .ok (.iload_n 2, 1) := by decide +kernel
theorem d24_6 : decode jdk_65_method_133_code 6 = .ok (.iload_n 1, 1) := by decide +kernel
theorem d24_7 : decode jdk_65_method_133_code 7 = .ok (.isub, 1) := by decide +kernel
theorem d24_8 : decode jdk_65_method_133_code 8 = .ok (.istore_n 3, 1) := by decide +kernel
theorem d24_9 : decode jdk_65_method_133_code 9 = .ok (.iload_n 3, 1) := by decide +kernel
theorem d24_10 : decode jdk_65_method_133_code 10 = .ok (.newarray .byte, 2) := by decide +kernel
theorem d24_12 : decode jdk_65_method_133_code 12 = .ok (.astore 4, 2) := by decide +kernel
theorem d24_14 : decode jdk_65_method_133_code 14 = .ok (.aload_n 0, 1) := by decide +kernel
theorem d24_15 : decode jdk_65_method_133_code 15 = .ok (.iload_n 1, 1) := by decide +kernel
theorem d24_16 : decode jdk_65_method_133_code 16 = .ok (.aload 4, 2) := by decide +kernel
theorem d24_18 : decode jdk_65_method_133_code 18 = .ok (.iconst 0, 1) := by decide +kernel
theorem d24_19 : decode jdk_65_method_133_code 19 = .ok (.aload_n 0, 1) := by decide +kernel
theorem d24_20 : decode jdk_65_method_133_code 20 = .ok (.arraylength, 1) := by decide +kernel
theorem d24_21 : decode jdk_65_method_133_code 21 = .ok (.iload_n 1, 1) := by decide +kernel
theorem d24_22 : decode jdk_65_method_133_code 22 = .ok (.isub, 1) := by decide +kernel
theorem d24_23 : decode jdk_65_method_133_code 23 = .ok (.iload_n 3, 1) := by decide +kernel
theorem d24_24 : decode jdk_65_method_133_code 24 = .ok (.invokestatic 304, 3) := by decide +kernel
theorem d24_27 : decode jdk_65_method_133_code 27 = .ok (.invokestatic 150, 3) := by decide +kernel
theorem d24_30 : decode jdk_65_method_133_code 30 = .ok (.aload 4, 2) := by decide +kernel
theorem d24_32 : decode jdk_65_method_133_code 32 = .ok (.areturn, 1) := by decide +kernel
theorem d25_0 : decode jdk_65_method_131_code 0 = .ok (.iload_n 1, 1) := by decide +kernel
theorem d25_1 : decode jdk_65_method_131_code 1 = .ok (.iload_n 0, 1) := by decide +kernel
theorem d25_2 : decode jdk_65_method_131_code 2 = .ok (.if_icmp .ge 35, 3) := by decide +kernel
theorem d25_37 : decode jdk_65_method_131_code 37 = .ok (.return_, 1) := by decide +kernel
theorem d26_0 : decode jdk_29_method_69_code 0 = .ok (.iload_n 0, 1) := by decide +kernel
theorem d26_1 : decode jdk_29_method_69_code 1 = .ok (.iload_n 1, 1) := by decide +kernel
theorem d26_2 : decode jdk_29_method_69_code 2 = .ok (.if_icmp .gt 7, 3) := by decide +kernel
theorem d26_5 : decode jdk_29_method_69_code 5 = .ok (.iload_n 0, 1) := by decide +kernel
theorem d26_6 : decode jdk_29_method_69_code 6 = .ok (.goto 4, 3) := by decide +kernel
theorem d26_9 : decode jdk_29_method_69_code 9 = .ok (.iload_n 1, 1) := by decide +kernel
theorem d26_10 : decode jdk_29_method_69_code 10 = .ok (.ireturn, 1) := by decide +kernel
theorem d27_0 : decode jdk_42_method_151_code 0 = .ok (.aload_n 0, 1) := by decide +kernel
theorem d27_1 : decode jdk_42_method_151_code 1 = .ok (.invokespecial 1, 3) := by decide +kernel
theorem d27_4 : decode jdk_42_method_151_code 4 = .ok (.aload_n 0, 1) := by decide +kernel
theorem d27_5 : decode jdk_42_method_151_code 5 = .ok (.aload_n 1, 1) := by decide +kernel
theorem d27_6 : decode jdk_42_method_151_code 6 = .ok (.putfield 9, 3) := by decide +kernel
theorem d27_9 : decode jdk_42_method_151_code 9 = .ok (.aload_n 0, 1) := by decide +kernel
theorem d27_10 : decode jdk_42_method_151_code 10 = .ok (.iload_n 2, 1) := by decide +kernel
theorem d27_11 : decode jdk_42_method_151_code 11 = .ok (.putfield 15, 3) := by decide +kernel
theorem d27_14 : decode jdk_42_method_151_code 14 = .ok (.return_, 1) := by decide +kernel
theorem pd0 : parseMethodDescriptor "([CIILjava/lang/Void;)V" = some ⟨[(.array .char), .int, .int, (.object "java/lang/Void")], none⟩ := by decide +kernel
theorem pd1 : parseMethodDescriptor "(IIILjava/util/function/BiFunction;)I" = some ⟨[.int, .int, .int, (.object "java/util/function/BiFunction")], some .int⟩ := by decide +kernel
theorem pd2 : parseMethodDescriptor "(II)V" = some ⟨[.int, .int], none⟩ := by decide +kernel
theorem pd3 : parseMethodDescriptor "(II)I" = some ⟨[.int, .int], some .int⟩ := by decide +kernel
theorem pd4 : parseMethodDescriptor "([BII)[B" = some ⟨[(.array .byte), .int, .int], some (.array .byte)⟩ := by decide +kernel
theorem pd5 : parseMethodDescriptor "([BB)V" = some ⟨[(.array .byte), .byte], none⟩ := by decide +kernel
theorem pd6 : parseMethodDescriptor "()I" = some ⟨[], some .int⟩ := by decide +kernel
theorem pd7 : parseMethodDescriptor "(III)V" = some ⟨[.int, .int, .int], none⟩ := by decide +kernel
theorem pd8 : parseMethodDescriptor "()Z" = some ⟨[], some .boolean⟩ := by decide +kernel
theorem pd9 : parseMethodDescriptor "([BII)Ljava/lang/String;" = some ⟨[(.array .byte), .int, .int], some (.object "java/lang/String")⟩ := by decide +kernel
theorem pd10 : parseMethodDescriptor "(II)Ljava/lang/String;" = some ⟨[.int, .int], some (.object "java/lang/String")⟩ := by decide +kernel
theorem pd11 : parseMethodDescriptor "(I)C" = some ⟨[.int], some .char⟩ := by decide +kernel
theorem pd12 : parseMethodDescriptor "(C)Z" = some ⟨[.char], some .boolean⟩ := by decide +kernel
theorem pd13 : parseMethodDescriptor "(Ljava/lang/String;II[CI)Z" = some ⟨[(.object "java/lang/String"), .int, .int, (.array .char), .int], some .boolean⟩ := by decide +kernel
theorem pd14 : parseMethodDescriptor "([C)V" = some ⟨[(.array .char)], none⟩ := by decide +kernel
theorem pd15 : parseMethodDescriptor "(Ljava/lang/String;)Ljava/lang/String;" = some ⟨[(.object "java/lang/String")], some (.object "java/lang/String")⟩ := by decide +kernel
theorem pd16 : parseMethodDescriptor "([CII)Z" = some ⟨[(.array .char), .int, .int], some .boolean⟩ := by decide +kernel
theorem pn0 : plainName "java/lang/String" = true := by first | (simp [plainName, overriddenIn]; done) | decide +kernel
theorem pn1 : plainName "java/util/Arrays" = true := by first | (simp [plainName, overriddenIn]; done) | decide +kernel
theorem pn2 : plainName "jdk/internal/util/Preconditions" = true := by first | (simp [plainName, overriddenIn]; done) | decide +kernel
theorem pn3 : plainName "java/lang/StringLatin1" = true := by first | (simp [plainName, overriddenIn]; done) | decide +kernel
theorem pn4 : plainName "com/example/pennant/pennant/Trl" = true := by first | (simp [plainName, overriddenIn]; done) | decide +kernel
theorem pn5 : plainName "com/example/pennant/pennant/TrlStripBlanksPinLaw" = true := by first | (simp [plainName, overriddenIn]; done) | decide +kernel
section OwnSub
variable {p : Program} {l : Launch} {e : Env} {R : Room} {s : State} {m : MethodId} {args : Array Value} {below : List Frame} {meth : Method} {c : Code} {T : State} {locs : List Loc} {cells slots : Nat} {Z : State} {a0 : Array Value} {h : Heap} {F : Outcome → State → Prop} {pc pc' : Nat} {Ls : Array Slot} {st stk : List Value}
theorem own_ofNat_lt {i n : Nat} (hi : i < 2 ^ 31) (hn : n < 2 ^ 31) : Int32.ofNat i < Int32.ofNat n ↔ i < n := by
  rw [Int32.lt_iff_toInt_lt, Int32.toInt_ofNat_small hi, Int32.toInt_ofNat_small hn]; omega
theorem own_ofNat_eq {i n : Nat} (hi : i < 2 ^ 31) (hn : n < 2 ^ 31) : Int32.ofNat i = Int32.ofNat n ↔ i = n := by
  rw [← Int32.toInt_inj, Int32.toInt_ofNat_small hi, Int32.toInt_ofNat_small hn]; omega
theorem own_ofNat_sub {i n : Nat} (h : i ≤ n) (hn : n < 2 ^ 31) : Int32.ofNat n - Int32.ofNat i = Int32.ofNat (n - i) := by
  apply Int32.toInt_inj.mp
  rw [Int32.toInt_sub, Int32.toInt_ofNat_small hn, Int32.toInt_ofNat_small (by omega), Int32.toInt_ofNat_small (by omega)]
  simp only [Int.bmod]; omega
theorem own_ofNat_add (i n : Nat) : Int32.ofNat n + Int32.ofNat i = Int32.ofNat (n + i) := by rw [Int32.ofNat_add]
theorem own_clamp {n : Nat} (hn : n < 2 ^ 31) : (Int32.ofNat n).toNatClampNeg = n := by
  rw [Int32.toNatClampNeg, Int32.toInt_ofNat_small hn]; omega
theorem own_nn {n : Nat} (hn : n < 2 ^ 31) : ¬ Int32.ofNat n < 0 := by
  rw [Int32.lt_iff_toInt_lt, Int32.toInt_ofNat_small hn]; have e0 : (0 : Int32).toInt = 0 := rfl; omega
theorem own_slice {vs : List Value} {d : Value} {sp nn : Nat} (h : sp + nn ≤ vs.length) : (List.range nn).map (fun i => vs.getD (sp + i) d) = (vs.drop sp).take nn := by
  apply List.ext_getElem
  · simp; omega
  · intro i h1 h2
    simp only [List.length_map, List.length_range] at h1
    simp only [List.getElem_map, List.getElem_range, List.getElem_take, List.getElem_drop]
    rw [List.getD_eq_getElem?_getD, List.getElem?_eq_getElem (by omega)]; rfl
/-- System.arraycopy of bytes that fills a whole new array -/
theorem own_cpB (X : Stand p l e R s m args below meth c T locs cells slots) (hx : p.tables.exec = Jvm.exec) (hZ : Z.Warmed39 s.vm) {own : String} {index W : Nat} (hown : s.vm.findClass own = some m.cls)
    (w1 : (Jvm.Cond.methodLink own index Jvm.Stand.acN).before a0 Z = true) (w2 : (Jvm.Cond.native Jvm.Stand.acN).before a0 Z = true) (w3 : (Jvm.Cond.static Jvm.Stand.acN).before a0 Z = true) (w4 : (Jvm.Cond.initialized "java/lang/System").before a0 Z = true) (eT : T.heap = h)
    {a b : Addr} {k k' : ClassId} {vs vd : List Value} {n sp nn : Nat} (A : Arv Z h a k .byte (Int32.ofNat n) vs (.int 0)) (B : Arv Z h b k' .byte (Int32.ofNat nn) vd (.int 0)) (hv : vs.length = n) (hvd : vd.length = nn) (hn : n < 2 ^ 31) (hsp : sp + nn ≤ n) (N : Fr Z.heap.size locs) (ge : Z.heap.size ≤ b)
    (hsz : Ls.size = c.maxLocals) (hd : decode c.code pc = .ok (.invokestatic index, 3)) (hf : 1 ≤ R.frames) (hW : (st.map fun v => v.category).sum ≤ W) (hlo : W + (nativeFrameWords "java/lang/System" "arraycopy" 5 + 11) ≤ R.locals)
    (K : ∀ T' h' L, Stand p l e R s m args below meth c T' L cells slots → T'.heap = h' → Fr Z.heap.size L → Keep h h' [b] → h.size ≤ h'.size → Arv Z h' b k' .byte (Int32.ofNat nn) ((vs.drop sp).take nn) (.int 0) → own_G p e below F (T'.setTop (mkF m (pc + 3) Ls st))) :
    own_G p e below F (T.setTop (mkF m pc Ls (.int (Int32.ofNat nn) :: .int 0 :: .ref b :: .int (Int32.ofNat sp) :: .ref a :: st))) := by
  obtain ⟨T', h', L, X', e', N', K', B', st'⟩ := cpA X hx hZ hown w1 w2 w3 w4 eT (sp := Int32.ofNat sp) (dp := 0) (nn := Int32.ofNat nn) A B (Or.inl ⟨rfl, rfl⟩) (own_nn (by omega)) (by decide) (own_nn (by omega)) (by rw [own_clamp (by omega), own_clamp (by omega), own_clamp hn]; exact hsp) (by rw [own_clamp (n := nn) (by omega)]; have e0 : (0 : Int32).toNatClampNeg = 0 := rfl; omega)
    rfl (by rw [own_clamp (n := nn) (by omega), hvd]; have e0 : (0 : Int32).toNatClampNeg = 0 := rfl; omega) N ge (g := mkF m pc Ls (.int (Int32.ofNat nn) :: .int 0 :: .ref b :: .int (Int32.ofNat sp) :: .ref a :: st)) rfl hsz rfl hd hf (W := W) (by show 2 * 0 + _ ≤ _; omega) hlo
  refine own_step st' (K T' h' L X' e' N' K' K'.1 ?_)
  have e0 : (0 : Int32).toNatClampNeg = 0 := rfl
  rw [own_clamp (n := nn) (by omega), own_clamp (n := sp) (by omega), e0, own_slice (by omega), List.take_zero, List.nil_append, Nat.zero_add, show vd.drop nn = [] from List.drop_eq_nil_of_le (by omega), List.append_nil] at B'
  exact B'
end OwnSub

/-! a Latin-1 String of known chars, in one word -/
def own_Str (Z : State) (h : Heap) (x : Addr) (cs : List Int32) : Prop := Exa Z h x "java/lang/String" ∧ (∀ c ∈ cs, ¬ c < 0 ∧ ¬ (255 : Int32) < c) ∧ cs.length ≤ 4000 ∧ Fld Z h x "java/lang/String" "coder" "B" (.int 0) ∧ ∃ (t : Addr) (kb : ClassId), Fld Z h x "java/lang/String" "value" "[B" (.ref t) ∧ Arv Z h t kb .byte (Int32.ofNat cs.length) ((cs.map (fun c => c.toInt8.toInt32)).map Value.int) (.int 0)
theorem own_Str.ext {Z : State} {h h' : Heap} {x : Addr} {cs : List Int32} (S : own_Str Z h x cs) (E : Ext h h') : own_Str Z h' x cs := by
  obtain ⟨s1, s2, s3, s4, t, kb, s5, s6⟩ := S
  exact ⟨s1.ext E, s2, s3, s4.ext E, t, kb, s5.ext E, s6.ext E⟩
theorem own_up (cs : List Int32) (h : ∀ c ∈ cs, ¬ c < 0 ∧ ¬ (255 : Int32) < c) : ∀ c ∈ cs, ¬ c < 0 ∧ ¬ (65535 : Int32) < c := fun c hc => ⟨(h c hc).1, fun q => (h c hc).2 (by rw [Int32.lt_iff_toInt_lt] at q ⊢; have e1 : (65535 : Int32).toInt = 65535 := rfl; have e2 : (255 : Int32).toInt = 255 := rfl; omega)⟩
theorem own_mkStr {Z : State} {h : Heap} {x t : Addr} {kb : ClassId} {cs : List Int32} {n : Nat} {N : Int32} (hn : cs.length = n) (hN : N = Int32.ofNat n) (E : Exa Z h x "java/lang/String") (hp : ∀ c ∈ cs, ¬ c < 0 ∧ ¬ (255 : Int32) < c) (hl : n ≤ 4000) (C : Fld Z h x "java/lang/String" "coder" "B" (.int 0)) (F : Fld Z h x "java/lang/String" "value" "[B" (.ref t)) (B : Arv Z h t kb .byte N ((cs.map (fun c => c.toInt8.toInt32)).map Value.int) (.int 0)) : own_Str Z h x cs := by
  subst hn hN; exact ⟨E, hp, hl, C, t, kb, F, B⟩

theorem own_chB {p : Program} {l : Launch} {e : Env} {R : Room} {s : State} {args : Array Value} {below : List Frame} {W : Nat} {Z : State} {a0 : Array Value} {h : Heap} (hZ : Z.Warmed39 s.vm) (hw : ∀ d ∈ tables_1, d.before a0 Z = true) {kI : Nat} (wi : (Jvm.Cond.instantiable "java/lang/String" kI).before a0 Z = true) {x : Addr} {cs : List Int32} (SS : own_Str Z h x cs)
    {G1 : Int32} (O2 : Sta Z Z.heap "java/lang/String" "COMPACT_STRINGS" "Z" (.int G1)) (P5 : ¬ (G1 = (0 : Int32))) {G3 : Value} (O4 : Sta Z Z.heap "jdk/internal/util/Preconditions" "SIOOBE_FORMATTER" "Ljava/util/function/BiFunction;" G3) (rG3 : G3.isRef = true) (OL : Old Z Z.heap.size h) (i : Nat) (hi : i < cs.length) {j : Int32} (hj : j = Int32.ofNat i) {r : Int32} (hr : cs.getD i 0 = r) (hfr : 4 ≤ R.frames) (hlo : W + 53 ≤ R.locals) :
    own_B l R p e below s args (⟨"java/lang/String", "charAt", "(I)C"⟩ : MethodName) W #[.ref x, .int j] h 0 0 (own_P (some (.int r)) h) := by
  obtain ⟨s1, s2, s3, s4, t, kb, s5, s6⟩ := SS
  subst hr
  exact StrChars.Road.chN hZ (fun d hd => hw d ((by decide +kernel : ∀ d ∈ StrChars.Road.wordsChN, d ∈ tables_1) d hd)) wi s1 s5 s4 s6 (StrChars.Road.codOf rfl fun c hc => (s2 c hc).2) (own_up cs s2) (O2.ext OL.2) P5 (O4.ext OL.2) rG3 s3 hi hj hfr hlo

theorem own_lenB {p : Program} {l : Launch} {e : Env} {R : Room} {s : State} {args : Array Value} {below : List Frame} {W : Nat} {Z : State} {a0 : Array Value} {h : Heap} (hZ : Z.Warmed39 s.vm) (hw : ∀ d ∈ tables_1, d.before a0 Z = true) {kI : Nat} (wi : (Jvm.Cond.instantiable "java/lang/String" kI).before a0 Z = true) {x : Addr} {cs : List Int32} (SS : own_Str Z h x cs)
    {G1 : Int32} (O2 : Sta Z Z.heap "java/lang/String" "COMPACT_STRINGS" "Z" (.int G1)) (P5 : ¬ (G1 = (0 : Int32))) (OL : Old Z Z.heap.size h) {r : Int32} (hr : Int32.ofNat cs.length = r) (hfr : 2 ≤ R.frames) (hlo : W + 25 ≤ R.locals) :
    own_B l R p e below s args (⟨"java/lang/String", "length", "()I"⟩ : MethodName) W #[.ref x] h 0 0 (own_P (some (.int r)) h) := by
  obtain ⟨s1, s2, s3, s4, t, kb, s5, s6⟩ := SS
  subst hr
  exact StrChars.Road.lenW hZ (fun d hd => hw d ((by decide +kernel : ∀ d ∈ StrChars.Road.wordsLen, d ∈ tables_1) d hd)) wi s1 s5 s4 s6 (StrChars.Road.codOf rfl fun c hc => (s2 c hc).2) (own_up cs s2) (O2.ext OL.2) P5 s3 hfr hlo

def own_bi (b : Bool) : Int32 := if b then 1 else 0
theorem own_bi_t {b : Bool} (h : ¬ own_bi b = 0) : b = true := by cases b <;> simp_all [own_bi]
theorem own_bi_f {b : Bool} (h : own_bi b = 0) : b = false := by cases b <;> simp_all [own_bi]
theorem own_bi_nar (b : Bool) : nar .boolean (own_bi b) = own_bi b := by cases b <;> rfl
theorem sn_v {Z : State} {a0 : Array Value} (hw : ∀ d ∈ tables_1, d.before a0 Z = true) : Jvm.RoadKit.slotOf Z "java/lang/String" "value" "[B" ≠ Jvm.RoadKit.slotOf Z "java/lang/String" "coder" "B" := slot_ne (Or.inr (own_w hw 20 rfl)) (Or.inr (own_w hw 21 rfl)) (by decide) (t := (.array .byte)) (t' := .byte) (by decide) (by decide)
theorem ef_in (m : MethodId) (x b : Addr) : entryFrame m #[(.ref x), (.ref b), (.int (0 : Int32)), (.int (0 : Int32)), .null] 6 = mkF m 0 #[.val (.ref x), .val (.ref b), .val (.int (0 : Int32)), .val (.int (0 : Int32)), .val .null, .unset] [] := by first | (simp [entryFrame, mkF, argsToLocals, Value.category, maxLocals]; done) | rfl
set_option maxRecDepth 65536 in
set_option maxHeartbeats 40000000 in
theorem rmIn (l : Launch) (Z : State) (a0 : Array Value) (hw : ∀ d ∈ tables_1, d.before a0 Z = true) (ws : List Jvm.Cond) (x b : Addr) (h0 : Heap) (gx : Z.heap.size ≤ x) (Ex : Exa Z h0 x "java/lang/String") (Fv : Fld Z h0 x "java/lang/String" "value" "[B" .null) (Fc : Fld Z h0 x "java/lang/String" "coder" "B" (.int 0)) (OL0 : Old Z Z.heap.size h0) (CH : Jvm.Lit.constHeld Z "java/lang/String" 7) (HC : Jvm.Lit.compactW.before a0 Z = true) :
    own_MetI l Z (⟨"java/lang/String", "<init>", "([CIILjava/lang/Void;)V"⟩ : MethodName) jdk_42_method_149_code 6 none ws ⟨1, 2, 4, 12⟩ #[(.ref x), (.ref b), (.int (0 : Int32)), (.int (0 : Int32)), .null] h0 (fun vm => IB Z vm []) (fun v vm h L => v = none ∧ Fr Z.heap.size L ∧ Keep h0 h [x] ∧ own_Str Z h x []) := by
  refine own_enterI (plainFor_of_name pn0) (fun m => ef_in m x b) ?_
  intro p e s m below meth c T0 vm0 k0 hx hby hml hZ hown hnm hret hlk X0 e0 es0 hS hk hI
  have hSA : ∀ d ∈ Bundle.stringAtoms, d.before a0 Z = true := fun d hd => hw d ((by decide +kernel : ∀ d ∈ Bundle.stringAtoms, d ∈ tables_1) d hd)
  have N0 := Fr.nil Z.heap.size
  show own_G p e below _ (T0.setTop (mkF m 0 #[.val (.ref x), .val (.ref b), .val (.int (0 : Int32)), .val (.int (0 : Int32)), .val .null, .unset] []))
  refine own_step (b := T0.setTop (mkF m 1 #[.val (.ref x), .val (.ref b), .val (.int (0 : Int32)), .val (.int (0 : Int32)), .val .null, .unset] [(.ref x)])) (fun _ qk => XS.aloadN X0.here hx rfl (hb hby d3_0) rfl rfl qk) ?_
  refine own_initO (W := 0) X0 hx hZ hown (own_w hw 15 rfl) (own_w hw 16 rfl) (own_w hw 17 rfl) e0 (by rw [hml]; rfl) (hb hby d3_1) (by decide) (Nat.le_of_ble_eq_true rfl) (by decide) (fun T1 X1 e1 => ?_)
  show own_G p e below _ (T1.setTop (mkF m 4 #[.val (.ref x), .val (.ref b), .val (.int (0 : Int32)), .val (.int (0 : Int32)), .val .null, .unset] []))
  refine own_step (b := T1.setTop (mkF m 5 #[.val (.ref x), .val (.ref b), .val (.int (0 : Int32)), .val (.int (0 : Int32)), .val .null, .unset] [(.int (0 : Int32))])) (fun _ qk => XS.iloadN X1.here hx rfl (hb hby d3_4) rfl qk) ?_
  refine own_if_ne X1 hx (hb hby d3_5) (pc' := 27) (by decide) (by decide) (fun c5_2 => absurd c5_2 (by decide)) (fun c5_2 => ?_)
  show own_G p e below _ (T1.setTop (mkF m 8 #[.val (.ref x), .val (.ref b), .val (.int (0 : Int32)), .val (.int (0 : Int32)), .val .null, .unset] []))
  refine own_step (b := T1.setTop (mkF m 9 #[.val (.ref x), .val (.ref b), .val (.int (0 : Int32)), .val (.int (0 : Int32)), .val .null, .unset] [(.ref x)])) (fun _ qk => XS.aloadN X1.here hx rfl (hb hby d3_8) rfl rfl qk) ?_
  refine own_ldcV X1 hx hZ hown (own_w hw 18 rfl) hSA e1 hS (by omega) (Fr.nil _) (fun q cl r => by rw [es0]; exact OL0.2.2 q cl r) hI (by simp) CH HC (vs := []) (z := (0 : Int32)) (by decide) (by decide) rfl (hb hby d3_9) 0 (by decide) (by decide) (by decide) (by decide) (fun a3 T3 h3 vm3 k3 b3 kb3 X3 e3 E3 z3 hS hk hZ hown A3 C3 F3 B3 IV3 LT3 => ?_)
  show own_G p e below _ (T3.setTop (mkF m 11 #[.val (.ref x), .val (.ref b), .val (.int (0 : Int32)), .val (.int (0 : Int32)), .val .null, .unset] [(.ref a3), (.ref x)]))
  have hne : a3 ≠ x := Fld.ne F3 (Fv.ext E3) (by simp)
  have hnb : b3 ≠ x := (Exa.neArv (Ex.ext E3) B3 (own_w hw 6 rfl)).symm
  refine own_getF X3 hx hZ hown (own_w hw 24 rfl) e3 F3 (hb hby d3_11) (fun T4 X4 e4 => ?_)
  show own_G p e below _ (T4.setTop (mkF m 14 #[.val (.ref x), .val (.ref b), .val (.int (0 : Int32)), .val (.int (0 : Int32)), .val .null, .unset] [(.ref b3), (.ref x)]))
  refine own_putF X4 hx hZ hown (own_w hw 24 rfl) e4 (Fv.ext E3) (Ex.ext E3) (Or.inr ⟨(own_w hw 20 rfl), rfl, hnm⟩) (own_w hw 6 rfl) (ty := (.array .byte)) (by decide) rfl rfl N0 gx (hb hby d3_14) (fun T5 h5 X5 e5 N5 W5 z5 F5 E5 => ?_)
  show own_G p e below _ (T5.setTop (mkF m 17 #[.val (.ref x), .val (.ref b), .val (.int (0 : Int32)), .val (.int (0 : Int32)), .val .null, .unset] []))
  refine own_step (b := T5.setTop (mkF m 18 #[.val (.ref x), .val (.ref b), .val (.int (0 : Int32)), .val (.int (0 : Int32)), .val .null, .unset] [(.ref x)])) (fun _ qk => XS.aloadN X5.here hx rfl (hb hby d3_17) rfl rfl qk) ?_
  refine own_ldcA X5 hx hZ hown (own_w hw 18 rfl) LT3 (hb hby d3_18) ?_
  show own_G p e below _ (T5.setTop (mkF m 20 #[.val (.ref x), .val (.ref b), .val (.int (0 : Int32)), .val (.int (0 : Int32)), .val .null, .unset] [(.ref a3), (.ref x)]))
  refine own_getF X5 hx hZ hown (own_w hw 25 rfl) e5 (C3.other W5 (Or.inl hne)) (hb hby d3_20) (fun T6 X6 e6 => ?_)
  show own_G p e below _ (T6.setTop (mkF m 23 #[.val (.ref x), .val (.ref b), .val (.int (0 : Int32)), .val (.int (0 : Int32)), .val .null, .unset] [(.int (0 : Int32)), (.ref x)]))
  refine own_putF X6 hx hZ hown (own_w hw 25 rfl) e6 ((Fc.ext E3).other W5 (Or.inr (sn_v hw).symm)) E5 (Or.inr ⟨(own_w hw 21 rfl), rfl, hnm⟩) (own_w hw 6 rfl) (ty := .byte) (by decide) rfl rfl N5 gx (hb hby d3_23) (fun T7 h7 X7 e7 N7 W7 z7 F7 E7 => ?_)
  show own_G p e below _ (T7.setTop (mkF m 26 #[.val (.ref x), .val (.ref b), .val (.int (0 : Int32)), .val (.int (0 : Int32)), .val .null, .unset] []))
  subst e7
  exact own_retXV X7 hx hS (by omega) hret hlk (hb hby d3_26) ⟨rfl, N7, ((((Keep.refl h0 [x]).ext E3).wr W5 (Or.inl (List.mem_singleton.mpr rfl))).wr W7 (Or.inl (List.mem_singleton.mpr rfl))), own_mkStr (n := 0) rfl rfl E7 (fun _ q => nomatch q) (by decide) F7 (F5.other W7 (Or.inr (sn_v hw))) ((B3.other W5 hnb).other W7 hnb)⟩ (by decide) (by decide)
theorem ef_out (m : MethodId) (x b : Addr) : entryFrame m #[(.ref x), (.ref b)] 2 = mkF m 0 #[.val (.ref x), .val (.ref b)] [] := by first | (simp [entryFrame, mkF, argsToLocals, Value.category, maxLocals]; done) | rfl
set_option maxRecDepth 65536 in
set_option maxHeartbeats 40000000 in
theorem rmOut (l : Launch) (Z : State) (a0 : Array Value) (hw : ∀ d ∈ tables_1, d.before a0 Z = true) (ws : List Jvm.Cond) (x b : Addr) (h0 : Heap) (gx : Z.heap.size ≤ x) (Ex : Exa Z h0 x "java/lang/String") (Fv : Fld Z h0 x "java/lang/String" "value" "[B" .null) (Fc : Fld Z h0 x "java/lang/String" "coder" "B" (.int 0)) (OL0 : Old Z Z.heap.size h0) (CH : Jvm.Lit.constHeld Z "java/lang/String" 7) (HC : Jvm.Lit.compactW.before a0 Z = true) (kc : ClassId) (V : Arv Z h0 b kc .char (0 : Int32) [] (.int 0)) :
    own_MetI l Z (⟨"java/lang/String", "<init>", "([C)V"⟩ : MethodName) jdk_42_method_3_code 2 none ws ⟨2, 2, 4, 29⟩ #[(.ref x), (.ref b)] h0 (fun vm => IB Z vm []) (fun v vm h L => v = none ∧ Fr Z.heap.size L ∧ Keep h0 h [x] ∧ own_Str Z h x []) := by
  refine own_enterI (plainFor_of_name pn0) (fun m => ef_out m x b) ?_
  intro p e s m below meth c T0 vm0 k0 hx hby hml hZ hown hnm hret hlk X0 e0 es0 hS hk hI
  show own_G p e below _ (T0.setTop (mkF m 0 #[.val (.ref x), .val (.ref b)] []))
  refine own_step (b := T0.setTop (mkF m 1 #[.val (.ref x), .val (.ref b)] [(.ref x)])) (fun _ qk => XS.aloadN X0.here hx rfl (hb hby d2_0) rfl rfl qk) ?_
  refine own_step (b := T0.setTop (mkF m 2 #[.val (.ref x), .val (.ref b)] [(.ref b), (.ref x)])) (fun _ qk => XS.aloadN X0.here hx rfl (hb hby d2_1) rfl rfl qk) ?_
  refine own_step (b := T0.setTop (mkF m 3 #[.val (.ref x), .val (.ref b)] [(.int (0 : Int32)), (.ref b), (.ref x)])) (fun _ qk => XS.iconst X0.here hx rfl (hb hby d2_2) qk) ?_
  refine own_step (b := T0.setTop (mkF m 4 #[.val (.ref x), .val (.ref b)] [(.ref b), (.int (0 : Int32)), (.ref b), (.ref x)])) (fun _ qk => XS.aloadN X0.here hx rfl (hb hby d2_3) rfl rfl qk) ?_
  refine own_len X0 hx hZ e0 V (hb hby d2_4) ?_
  show own_G p e below _ (T0.setTop (mkF m 5 #[.val (.ref x), .val (.ref b)] [(.int (0 : Int32)), (.int (0 : Int32)), (.ref b), (.ref x)]))
  refine own_step (b := T0.setTop (mkF m 6 #[.val (.ref x), .val (.ref b)] [.null, (.int (0 : Int32)), (.int (0 : Int32)), (.ref b), (.ref x)])) (fun _ qk => XS.aconstNull X0.here hx rfl (hb hby d2_5) qk) ?_
  refine own_specialI (a := x) (W := 0) (argsL := [(.ref b), (.int (0 : Int32)), (.int (0 : Int32)), .null]) (st := []) X0 hx hZ hown rfl (own_w hw 11 rfl) (own_w hw 12 rfl) (own_w hw 14 rfl) (own_w hw 7 rfl) (by decide) e0 hS (by omega) (rmIn l Z a0 hw [] x b h0 gx Ex Fv Fc OL0 CH HC) (fun _ hW => own_IBw hI hW) (by decide) (by decide) (by decide) (by decide) (by rw [hml]; rfl) (lenOf pd0 rfl) rfl (Nat.le_of_ble_eq_true rfl) (hb hby d2_6) (fun v1 T1 L1 vm1 k1 X1 ev1 z1 hS hk hZ hown hQ1 => ?_)
  obtain ⟨rfl, M1, K1, SS1⟩ := hQ1
  show own_G p e below _ (T1.setTop (mkF m 9 #[.val (.ref x), .val (.ref b)] []))
  exact own_retXV X1 hx hS (by omega) hret hlk (hb hby d2_9) ⟨rfl, M1, K1, SS1⟩ (by decide) (by decide)
def own_min (x y : Int32) : Int32 := if y < x then y else x
theorem own_min_r {i n : Nat} (h : i ≤ n) (hn : n < 2 ^ 31) : own_min (Int32.ofNat n) (Int32.ofNat i) = Int32.ofNat i := by
  unfold own_min
  by_cases q : i = n
  · subst q; simp
  · rw [if_pos ((own_ofNat_lt (by omega) hn).mpr (by omega))]
def own_bl (c : Int32) : Bool := decide (c = 32) || decide (c = 9)
def own_strip (cs : List Int32) : List Int32 := ((cs.dropWhile own_bl).reverse.dropWhile own_bl).reverse
theorem own_narC {c : Int32} (h0 : ¬ c < 0) (h1 : ¬ (255 : Int32) < c) : nar .char c = c := by
  have t : ∀ k : Fin 256, nar .char (Int32.ofNat k.val) = Int32.ofNat k.val := by decide +kernel
  rw [Int32.lt_iff_toInt_lt] at h0 h1
  have q1 : (255 : Int32).toInt = 255 := rfl
  have e0 : (0 : Int32).toInt = 0 := rfl
  have e : c = Int32.ofNat c.toInt.toNat := by
    apply Int32.toInt_inj.mp
    rw [Int32.toInt_ofNat_small (by omega)]; omega
  rw [e]; exact t ⟨c.toInt.toNat, by omega⟩
theorem own_and7 (x : Int32) : ((x &&& (7 : Int32)) % (5 : Int32)) = 0 ∨ ((x &&& (7 : Int32)) % (5 : Int32)) = 1 ∨ ((x &&& (7 : Int32)) % (5 : Int32)) = 2 ∨ ((x &&& (7 : Int32)) % (5 : Int32)) = 3 ∨ ((x &&& (7 : Int32)) % (5 : Int32)) = 4 := by
  have t : ∀ k : Fin 8, ((Int32.ofNat k.val) % (5 : Int32)) = 0 ∨ ((Int32.ofNat k.val) % (5 : Int32)) = 1 ∨ ((Int32.ofNat k.val) % (5 : Int32)) = 2 ∨ ((Int32.ofNat k.val) % (5 : Int32)) = 3 ∨ ((Int32.ofNat k.val) % (5 : Int32)) = 4 := by decide +kernel
  have h : (x &&& 7).toBitVec.toNat < 8 := by
    simp only [Int32.toBitVec_and, BitVec.toNat_and]
    exact Nat.lt_succ_of_le Nat.and_le_right
  have e : (x &&& 7) = Int32.ofNat (x &&& 7).toBitVec.toNat := by
    apply Int32.toBitVec_inj.mp
    show _ = BitVec.ofNat 32 _
    rw [BitVec.ofNat_toNat]; simp
  rw [e]; exact t ⟨_, h⟩
theorem ef_min (m : MethodId) (x y : Int32) : entryFrame m #[(.int x), (.int y)] 2 = mkF m 0 #[.val (.int x), .val (.int y)] [] := by first | (simp [entryFrame, mkF, argsToLocals, Value.category, maxLocals]; done) | rfl
set_option maxRecDepth 65536 in
set_option maxHeartbeats 40000000 in
theorem rmMin (l : Launch) (Z : State) (a0 : Array Value) (hw : ∀ d ∈ tables_1, d.before a0 Z = true) (ws : List Jvm.Cond) (x y : Int32) (h0 : Heap) :
    own_Met l Z (⟨"java/lang/Math", "min", "(II)I"⟩ : MethodName) jdk_29_method_69_code 2 (some .int) ws ⟨0, 0, 0, 0⟩ #[(.int x), (.int y)] h0 (own_P (some (.int (own_min x y))) h0) := by
  refine own_enter (Jvm.Free.JP.mathPlain rfl (by decide +kernel)) (fun m => ef_min m x y) ?_
  intro p e s m below meth c T0 hx hby hml hZ hown hnm hret hlk X0 e0
  show own_G p e below _ (T0.setTop (mkF m 0 #[.val (.int x), .val (.int y)] []))
  refine own_step (b := T0.setTop (mkF m 1 #[.val (.int x), .val (.int y)] [(.int x)])) (fun _ qk => XS.iloadN X0.here hx rfl (hb hby d26_0) rfl qk) ?_
  refine own_step (b := T0.setTop (mkF m 2 #[.val (.int x), .val (.int y)] [(.int y), (.int x)])) (fun _ qk => XS.iloadN X0.here hx rfl (hb hby d26_1) rfl qk) ?_
  refine own_icmp_gt X0 hx (hb hby d26_2) (pc' := 9) (by decide) (by decide) (fun c => ?_) (fun c => ?_)
  · show own_G p e below _ (T0.setTop (mkF m 9 #[.val (.int x), .val (.int y)] []))
    refine own_step (b := T0.setTop (mkF m 10 #[.val (.int x), .val (.int y)] [(.int y)])) (fun _ qk => XS.iloadN X0.here hx rfl (hb hby d26_9) rfl qk) ?_
    exact own_retI X0 hx hret hlk (hb hby d26_10) ⟨by rw [own_min, if_pos c], rfl, e0⟩ (by decide) (by decide)
  · show own_G p e below _ (T0.setTop (mkF m 5 #[.val (.int x), .val (.int y)] []))
    refine own_step (b := T0.setTop (mkF m 6 #[.val (.int x), .val (.int y)] [(.int x)])) (fun _ qk => XS.iloadN X0.here hx rfl (hb hby d26_5) rfl qk) ?_
    refine own_step (b := T0.setTop (mkF m 10 #[.val (.int x), .val (.int y)] [(.int x)])) (fun _ qk => XS.goto X0.here hx rfl (pc0 := 6) (pc' := 10) rfl (hb hby d26_6) (by decide) (by decide) qk) ?_
    exact own_retI X0 hx hret hlk (hb hby d26_10) ⟨by rw [own_min, if_neg c], rfl, e0⟩ (by decide) (by decide)
theorem ef_ckl (m : MethodId) (x y : Int32) : entryFrame m #[(.int x), (.int y)] 2 = mkF m 0 #[.val (.int x), .val (.int y)] [] := by first | (simp [entryFrame, mkF, argsToLocals, Value.category, maxLocals]; done) | rfl
set_option maxRecDepth 65536 in
set_option maxHeartbeats 40000000 in
theorem rmCkl (l : Launch) (Z : State) (a0 : Array Value) (hw : ∀ d ∈ tables_1, d.before a0 Z = true) (ws : List Jvm.Cond) (x y : Int32) (h0 : Heap) (hxy : ¬ y < x) :
    own_Met l Z (⟨"java/util/Arrays", "checkLength", "(II)V"⟩ : MethodName) jdk_65_method_131_code 2 none ws ⟨0, 0, 0, 0⟩ #[(.int x), (.int y)] h0 (own_P none h0) := by
  refine own_enter (plainFor_of_name pn1) (fun m => ef_ckl m x y) ?_
  intro p e s m below meth c T0 hx hby hml hZ hown hnm hret hlk X0 e0
  show own_G p e below _ (T0.setTop (mkF m 0 #[.val (.int x), .val (.int y)] []))
  refine own_step (b := T0.setTop (mkF m 1 #[.val (.int x), .val (.int y)] [(.int y)])) (fun _ qk => XS.iloadN X0.here hx rfl (hb hby d25_0) rfl qk) ?_
  refine own_step (b := T0.setTop (mkF m 2 #[.val (.int x), .val (.int y)] [(.int x), (.int y)])) (fun _ qk => XS.iloadN X0.here hx rfl (hb hby d25_1) rfl qk) ?_
  refine own_icmp_ge X0 hx (hb hby d25_2) (pc' := 37) (by decide) (by decide) (fun c => ?_) (fun c => absurd c hxy)
  show own_G p e below _ (T0.setTop (mkF m 37 #[.val (.int x), .val (.int y)] []))
  exact own_retV X0 hx hret hlk (hb hby d25_37) ⟨rfl, rfl, e0⟩ (by decide) (by decide)
theorem ef_cft (m : MethodId) (x y z : Int32) (v : Value) (rv : v.isRef = true) : entryFrame m #[(.int x), (.int y), (.int z), v] 4 = mkF m 0 #[.val (.int x), .val (.int y), .val (.int z), .val v] [] := by
  rcases ref_cases rv with rfl | ⟨_, rfl⟩ <;> first | rfl | (simp [entryFrame, mkF, argsToLocals, Value.category]; done)
set_option maxRecDepth 65536 in
set_option maxHeartbeats 40000000 in
theorem rmCft (l : Launch) (Z : State) (a0 : Array Value) (hw : ∀ d ∈ tables_1, d.before a0 Z = true) (ws : List Jvm.Cond) (x y z : Int32) (v : Value) (rv : v.isRef = true) (h0 : Heap) (h1 : ¬ x < 0) (h2 : ¬ y < x) (h3 : ¬ z < y) :
    own_Met l Z (⟨"jdk/internal/util/Preconditions", "checkFromToIndex", "(IIILjava/util/function/BiFunction;)I"⟩ : MethodName) jdk_41_method_12_code 4 (some .int) ws ⟨0, 0, 0, 0⟩ #[(.int x), (.int y), (.int z), v] h0 (own_P (some (.int x)) h0) := by
  refine own_enter (plainFor_of_name pn2) (fun m => ef_cft m x y z v rv) ?_
  intro p e s m below meth c T0 hx hby hml hZ hown hnm hret hlk X0 e0
  show own_G p e below _ (T0.setTop (mkF m 0 #[.val (.int x), .val (.int y), .val (.int z), .val v] []))
  refine own_step (b := T0.setTop (mkF m 1 #[.val (.int x), .val (.int y), .val (.int z), .val v] [(.int x)])) (fun _ qk => XS.iloadN X0.here hx rfl (hb hby d10_0) rfl qk) ?_
  refine own_if_lt X0 hx (hb hby d10_1) (pc' := 14) (by decide) (by decide) (fun c1 => absurd c1 h1) (fun c1 => ?_)
  show own_G p e below _ (T0.setTop (mkF m 4 #[.val (.int x), .val (.int y), .val (.int z), .val v] []))
  refine own_step (b := T0.setTop (mkF m 5 #[.val (.int x), .val (.int y), .val (.int z), .val v] [(.int x)])) (fun _ qk => XS.iloadN X0.here hx rfl (hb hby d10_4) rfl qk) ?_
  refine own_step (b := T0.setTop (mkF m 6 #[.val (.int x), .val (.int y), .val (.int z), .val v] [(.int y), (.int x)])) (fun _ qk => XS.iloadN X0.here hx rfl (hb hby d10_5) rfl qk) ?_
  refine own_icmp_gt X0 hx (hb hby d10_6) (pc' := 14) (by decide) (by decide) (fun c6 => absurd c6 h2) (fun c6 => ?_)
  show own_G p e below _ (T0.setTop (mkF m 9 #[.val (.int x), .val (.int y), .val (.int z), .val v] []))
  refine own_step (b := T0.setTop (mkF m 10 #[.val (.int x), .val (.int y), .val (.int z), .val v] [(.int y)])) (fun _ qk => XS.iloadN X0.here hx rfl (hb hby d10_9) rfl qk) ?_
  refine own_step (b := T0.setTop (mkF m 11 #[.val (.int x), .val (.int y), .val (.int z), .val v] [(.int z), (.int y)])) (fun _ qk => XS.iloadN X0.here hx rfl (hb hby d10_10) rfl qk) ?_
  refine own_icmp_le X0 hx (hb hby d10_11) (pc' := 22) (by decide) (by decide) (fun c11 => ?_) (fun c11 => absurd c11 h3)
  show own_G p e below _ (T0.setTop (mkF m 22 #[.val (.int x), .val (.int y), .val (.int z), .val v] []))
  refine own_step (b := T0.setTop (mkF m 23 #[.val (.int x), .val (.int y), .val (.int z), .val v] [(.int x)])) (fun _ qk => XS.iloadN X0.here hx rfl (hb hby d10_22) rfl qk) ?_
  exact own_retI X0 hx hret hlk (hb hby d10_23) ⟨rfl, rfl, e0⟩ (by decide) (by decide)
theorem ef_cbe (m : MethodId) (x y z : Int32) : entryFrame m #[(.int x), (.int y), (.int z)] 3 = mkF m 0 #[.val (.int x), .val (.int y), .val (.int z)] [] := by first | (simp [entryFrame, mkF, argsToLocals, Value.category, maxLocals]; done) | rfl
set_option maxRecDepth 65536 in
set_option maxHeartbeats 40000000 in
theorem rmCbe (l : Launch) (Z : State) (a0 : Array Value) (hw : ∀ d ∈ tables_1, d.before a0 Z = true) (ws : List Jvm.Cond) (x y z : Int32) (h0 : Heap) (h1 : ¬ x < 0) (h2 : ¬ y < x) (h3 : ¬ z < y) (OL0 : Old Z Z.heap.size h0) (G1 : Int32) (O2 : Sta Z Z.heap "java/lang/String" "COMPACT_STRINGS" "Z" (.int G1)) (P5 : ¬ (G1 = (0 : Int32))) (G3 : Value) (O4 : Sta Z Z.heap "jdk/internal/util/Preconditions" "SIOOBE_FORMATTER" "Ljava/util/function/BiFunction;" G3) (rG3 : G3.isRef = true) :
    own_Met l Z (⟨"java/lang/String", "checkBoundsBeginEnd", "(III)V"⟩ : MethodName) jdk_42_method_158_code 3 none ws ⟨1, 0, 0, 15⟩ #[(.int x), (.int y), (.int z)] h0 (own_P none h0) := by
  refine own_enter (plainFor_of_name pn0) (fun m => ef_cbe m x y z) ?_
  intro p e s m below meth c T0 hx hby hml hZ hown hnm hret hlk X0 e0
  show own_G p e below _ (T0.setTop (mkF m 0 #[.val (.int x), .val (.int y), .val (.int z)] []))
  refine own_step (b := T0.setTop (mkF m 1 #[.val (.int x), .val (.int y), .val (.int z)] [(.int x)])) (fun _ qk => XS.iloadN X0.here hx rfl (hb hby d9_0) rfl qk) ?_
  refine own_step (b := T0.setTop (mkF m 2 #[.val (.int x), .val (.int y), .val (.int z)] [(.int y), (.int x)])) (fun _ qk => XS.iloadN X0.here hx rfl (hb hby d9_1) rfl qk) ?_
  refine own_step (b := T0.setTop (mkF m 3 #[.val (.int x), .val (.int y), .val (.int z)] [(.int z), (.int y), (.int x)])) (fun _ qk => XS.iloadN X0.here hx rfl (hb hby d9_2) rfl qk) ?_
  refine own_getS X0 hx hZ hown (own_w hw 50 rfl) e0 (O4.ext OL0.2) (hb hby d9_3) (fun T1 X1 e1 => ?_)
  show own_G p e below _ (T1.setTop (mkF m 6 #[.val (.int x), .val (.int y), .val (.int z)] [G3, (.int z), (.int y), (.int x)]))
  refine own_staticP (W := 0) (argsL := [(.int x), (.int y), (.int z), G3]) (st := []) X1 hx hZ hown (own_w hw 52 rfl) (own_w hw 53 rfl) (own_w hw 51 rfl) (own_w hw 54 rfl) (by decide) e1 (rmCft l Z a0 hw [] x y z G3 rG3 h0 h1 h2 h3) (by decide) (by decide) (by decide) (by decide) (by rw [hml]; rfl) (lenOf pd1 rfl) rfl (Nat.le_of_ble_eq_true rfl) (hb hby d9_6) (fun T2 X2 e2 => ?_)
  show own_G p e below _ (T2.setTop (mkF m 9 #[.val (.int x), .val (.int y), .val (.int z)] [(.int x)]))
  refine own_step (b := T2.setTop (mkF m 10 #[.val (.int x), .val (.int y), .val (.int z)] [])) (fun _ qk => XT.pop X2.here hx rfl (hb hby d9_9) rfl rfl qk) ?_
  exact own_retV X2 hx hret hlk (hb hby d9_10) ⟨rfl, rfl, e2⟩ (by decide) (by decide)
theorem ef_isl (m : MethodId) (x : Addr) : entryFrame m #[(.ref x)] 1 = mkF m 0 #[.val (.ref x)] [] := by first | (simp [entryFrame, mkF, argsToLocals, Value.category, maxLocals]; done) | rfl
set_option maxRecDepth 65536 in
set_option maxHeartbeats 40000000 in
theorem rmIsl (l : Launch) (Z : State) (a0 : Array Value) (hw : ∀ d ∈ tables_1, d.before a0 Z = true) (ws : List Jvm.Cond) (x : Addr) (cs : List Int32) (h0 : Heap) (SS : own_Str Z h0 x cs) (OL0 : Old Z Z.heap.size h0) (G1 : Int32) (O2 : Sta Z Z.heap "java/lang/String" "COMPACT_STRINGS" "Z" (.int G1)) (P5 : ¬ (G1 = (0 : Int32))) (G3 : Value) (O4 : Sta Z Z.heap "jdk/internal/util/Preconditions" "SIOOBE_FORMATTER" "Ljava/util/function/BiFunction;" G3) (rG3 : G3.isRef = true) :
    own_Met l Z (⟨"java/lang/String", "isLatin1", "()Z"⟩ : MethodName) jdk_42_method_154_code 1 (some .boolean) ws ⟨0, 0, 0, 0⟩ #[(.ref x)] h0 (own_P (some (.int (1 : Int32))) h0) := by
  refine own_enter (plainFor_of_name pn0) (fun m => ef_isl m x) ?_
  intro p e s m below meth c T0 hx hby hml hZ hown hnm hret hlk X0 e0
  show own_G p e below _ (T0.setTop (mkF m 0 #[.val (.ref x)] []))
  refine own_getS X0 hx hZ hown (own_w hw 40 rfl) e0 (O2.ext OL0.2) (hb hby d17_0) (fun T1 X1 e1 => ?_)
  show own_G p e below _ (T1.setTop (mkF m 3 #[.val (.ref x)] [(.int G1)]))
  refine own_if_eq X1 hx (hb hby d17_3) (pc' := 17) (by decide) (by decide) (fun c3 => absurd c3 P5) (fun c3 => ?_)
  show own_G p e below _ (T1.setTop (mkF m 6 #[.val (.ref x)] []))
  refine own_step (b := T1.setTop (mkF m 7 #[.val (.ref x)] [(.ref x)])) (fun _ qk => XS.aloadN X1.here hx rfl (hb hby d17_6) rfl rfl qk) ?_
  refine own_getF X1 hx hZ hown (own_w hw 25 rfl) e1 SS.2.2.2.1 (hb hby d17_7) (fun T2 X2 e2 => ?_)
  show own_G p e below _ (T2.setTop (mkF m 10 #[.val (.ref x)] [(.int (0 : Int32))]))
  refine own_if_ne X2 hx (hb hby d17_10) (pc' := 17) (by decide) (by decide) (fun c10_3 => absurd c10_3 (by decide)) (fun c10_3 => ?_)
  show own_G p e below _ (T2.setTop (mkF m 13 #[.val (.ref x)] []))
  refine own_step (b := T2.setTop (mkF m 14 #[.val (.ref x)] [(.int (1 : Int32))])) (fun _ qk => XS.iconst X2.here hx rfl (hb hby d17_13) qk) ?_
  refine own_step (b := T2.setTop (mkF m 18 #[.val (.ref x)] [(.int (1 : Int32))])) (fun _ qk => XS.goto X2.here hx rfl (pc0 := 14) (pc' := 18) rfl (hb hby d17_14) (by decide) (by decide) qk) ?_
  exact own_retN X2 hx hret (by simp) hlk (hb hby d17_18) ⟨rfl, rfl, e2⟩ (by decide) (by decide)
theorem ef_crb (m : MethodId) (t : Addr) (x y : Int32) : entryFrame m #[(.ref t), (.int x), (.int y)] 5 = mkF m 0 #[.val (.ref t), .val (.int x), .val (.int y), .unset, .unset] [] := by first | (simp [entryFrame, mkF, argsToLocals, Value.category, maxLocals]; done) | rfl
set_option maxRecDepth 65536 in
set_option maxHeartbeats 40000000 in
theorem rmCrb (l : Launch) (Z : State) (a0 : Array Value) (hw : ∀ d ∈ tables_1, d.before a0 Z = true) (ws : List Jvm.Cond) (t : Addr) (kt : ClassId) (n ib ie : Nat) (vs : List Value) (h0 : Heap) (V : Arv Z h0 t kt .byte (Int32.ofNat n) vs (.int 0)) (hv : vs.length = n) (hn : n ≤ 4) (hbe : ib ≤ ie) (hen : ie ≤ n) (OL0 : Old Z Z.heap.size h0) :
    own_Met l Z (⟨"java/util/Arrays", "copyOfRangeByte", "([BII)[B"⟩ : MethodName) jdk_65_method_133_code 5 (some (.array .byte)) ws ⟨1, 1, 4, 60⟩ #[(.ref t), (.int (Int32.ofNat ib)), (.int (Int32.ofNat ie))] h0 (fun v h L => ∃ (r : Addr) (kr : ClassId), v = some (.ref r) ∧ Fr Z.heap.size L ∧ Ext h0 h ∧ h0.size ≤ r ∧ @LT.lt Nat instLTNat r h.size ∧ Arv Z h r kr .byte (Int32.ofNat (ie - ib)) ((vs.drop ib).take (ie - ib)) (.int 0)) := by
  refine own_enter (plainFor_of_name pn1) (fun m => ef_crb m t (Int32.ofNat ib) (Int32.ofNat ie)) ?_
  intro p e s m below meth c T0 hx hby hml hZ hown hnm hret hlk X0 e0
  have zz0 : Z.heap.size ≤ h0.size := OL0.2.1
  have N0 := Fr.nil Z.heap.size
  show own_G p e below _ (T0.setTop (mkF m 0 #[.val (.ref t), .val (.int (Int32.ofNat ib)), .val (.int (Int32.ofNat ie)), .unset, .unset] []))
  refine own_step (b := T0.setTop (mkF m 1 #[.val (.ref t), .val (.int (Int32.ofNat ib)), .val (.int (Int32.ofNat ie)), .unset, .unset] [(.int (Int32.ofNat ib))])) (fun _ qk => XS.iloadN X0.here hx rfl (hb hby d24_0) rfl qk) ?_
  refine own_step (b := T0.setTop (mkF m 2 #[.val (.ref t), .val (.int (Int32.ofNat ib)), .val (.int (Int32.ofNat ie)), .unset, .unset] [(.int (Int32.ofNat ie)), (.int (Int32.ofNat ib))])) (fun _ qk => XS.iloadN X0.here hx rfl (hb hby d24_1) rfl qk) ?_
  refine own_staticP (W := 0) (argsL := [(.int (Int32.ofNat ib)), (.int (Int32.ofNat ie))]) (st := []) X0 hx hZ hown (own_w hw 106 rfl) (own_w hw 107 rfl) (own_w hw 101 rfl) (own_w hw 108 rfl) (by decide) e0 (rmCkl l Z a0 hw [] (Int32.ofNat ib) (Int32.ofNat ie) h0 (by rw [own_ofNat_lt (by omega) (by omega)]; omega)) (by decide) (by decide) (by decide) (by decide) (by rw [hml]; rfl) (lenOf pd2 rfl) rfl (Nat.le_of_ble_eq_true rfl) (hb hby d24_2) (fun T1 X1 e1 => ?_)
  show own_G p e below _ (T1.setTop (mkF m 5 #[.val (.ref t), .val (.int (Int32.ofNat ib)), .val (.int (Int32.ofNat ie)), .unset, .unset] []))
  refine own_step (b := T1.setTop (mkF m 6 #[.val (.ref t), .val (.int (Int32.ofNat ib)), .val (.int (Int32.ofNat ie)), .unset, .unset] [(.int (Int32.ofNat ie))])) (fun _ qk => XS.iloadN X1.here hx rfl (hb hby d24_5) rfl qk) ?_
  refine own_step (b := T1.setTop (mkF m 7 #[.val (.ref t), .val (.int (Int32.ofNat ib)), .val (.int (Int32.ofNat ie)), .unset, .unset] [(.int (Int32.ofNat ib)), (.int (Int32.ofNat ie))])) (fun _ qk => XS.iloadN X1.here hx rfl (hb hby d24_6) rfl qk) ?_
  refine own_step (b := T1.setTop (mkF m 8 #[.val (.ref t), .val (.int (Int32.ofNat ib)), .val (.int (Int32.ofNat ie)), .unset, .unset] [(.int ((Int32.ofNat ie) - (Int32.ofNat ib)))])) (fun _ qk => XS.isub X1.here hx rfl (hb hby d24_7) rfl qk) ?_
  rw [own_ofNat_sub hbe (by omega)]
  show own_G p e below _ (T1.setTop (mkF m 8 #[.val (.ref t), .val (.int (Int32.ofNat ib)), .val (.int (Int32.ofNat ie)), .unset, .unset] [(.int (Int32.ofNat (ie - ib)))]))
  refine own_step (b := T1.setTop (mkF m 9 #[.val (.ref t), .val (.int (Int32.ofNat ib)), .val (.int (Int32.ofNat ie)), .val (.int (Int32.ofNat (ie - ib))), .unset] [])) (fun _ qk => XS.istoreN X1.here hx rfl (hb hby d24_8) rfl (l' := #[.val (.ref t), .val (.int (Int32.ofNat ib)), .val (.int (Int32.ofNat ie)), .val (.int (Int32.ofNat (ie - ib))), .unset]) rfl qk) ?_
  refine own_step (b := T1.setTop (mkF m 10 #[.val (.ref t), .val (.int (Int32.ofNat ib)), .val (.int (Int32.ofNat ie)), .val (.int (Int32.ofNat (ie - ib))), .unset] [(.int (Int32.ofNat (ie - ib)))])) (fun _ qk => XS.iloadN X1.here hx rfl (hb hby d24_9) rfl qk) ?_
  refine own_newP X1 hx hZ (own_w hw 19 rfl) e1 (hb hby d24_10) (n := Int32.ofNat (ie - ib)) (own_nn (by omega)) 4 (by rw [own_clamp (by omega)]; omega) (by decide) (by decide) (by decide) (fun T2 h2 a2 k2 X2 e2 g2 l2 E2 V2 => ?_)
  have VB : Arv Z h2 a2 k2 .byte (Int32.ofNat (ie - ib)) (List.replicate (ie - ib) (.int 0)) (.int 0) := by have q := V2; rw [own_clamp (by omega)] at q; exact q
  show own_G p e below _ (T2.setTop (mkF m 12 #[.val (.ref t), .val (.int (Int32.ofNat ib)), .val (.int (Int32.ofNat ie)), .val (.int (Int32.ofNat (ie - ib))), .unset] [(.ref a2)]))
  refine own_step (b := T2.setTop (mkF m 14 #[.val (.ref t), .val (.int (Int32.ofNat ib)), .val (.int (Int32.ofNat ie)), .val (.int (Int32.ofNat (ie - ib))), .val (.ref a2)] [])) (fun _ qk => XS.astore X2.here hx rfl (hb hby d24_12) rfl rfl (l' := #[.val (.ref t), .val (.int (Int32.ofNat ib)), .val (.int (Int32.ofNat ie)), .val (.int (Int32.ofNat (ie - ib))), .val (.ref a2)]) rfl qk) ?_
  refine own_step (b := T2.setTop (mkF m 15 #[.val (.ref t), .val (.int (Int32.ofNat ib)), .val (.int (Int32.ofNat ie)), .val (.int (Int32.ofNat (ie - ib))), .val (.ref a2)] [(.ref t)])) (fun _ qk => XS.aloadN X2.here hx rfl (hb hby d24_14) rfl rfl qk) ?_
  refine own_step (b := T2.setTop (mkF m 16 #[.val (.ref t), .val (.int (Int32.ofNat ib)), .val (.int (Int32.ofNat ie)), .val (.int (Int32.ofNat (ie - ib))), .val (.ref a2)] [(.int (Int32.ofNat ib)), (.ref t)])) (fun _ qk => XS.iloadN X2.here hx rfl (hb hby d24_15) rfl qk) ?_
  refine own_step (b := T2.setTop (mkF m 18 #[.val (.ref t), .val (.int (Int32.ofNat ib)), .val (.int (Int32.ofNat ie)), .val (.int (Int32.ofNat (ie - ib))), .val (.ref a2)] [(.ref a2), (.int (Int32.ofNat ib)), (.ref t)])) (fun _ qk => XS.aload X2.here hx rfl (hb hby d24_16) rfl rfl qk) ?_
  refine own_step (b := T2.setTop (mkF m 19 #[.val (.ref t), .val (.int (Int32.ofNat ib)), .val (.int (Int32.ofNat ie)), .val (.int (Int32.ofNat (ie - ib))), .val (.ref a2)] [(.int (0 : Int32)), (.ref a2), (.int (Int32.ofNat ib)), (.ref t)])) (fun _ qk => XS.iconst X2.here hx rfl (hb hby d24_18) qk) ?_
  refine own_step (b := T2.setTop (mkF m 20 #[.val (.ref t), .val (.int (Int32.ofNat ib)), .val (.int (Int32.ofNat ie)), .val (.int (Int32.ofNat (ie - ib))), .val (.ref a2)] [(.ref t), (.int (0 : Int32)), (.ref a2), (.int (Int32.ofNat ib)), (.ref t)])) (fun _ qk => XS.aloadN X2.here hx rfl (hb hby d24_19) rfl rfl qk) ?_
  refine own_len X2 hx hZ e2 (V.ext E2) (hb hby d24_20) ?_
  show own_G p e below _ (T2.setTop (mkF m 21 #[.val (.ref t), .val (.int (Int32.ofNat ib)), .val (.int (Int32.ofNat ie)), .val (.int (Int32.ofNat (ie - ib))), .val (.ref a2)] [(.int (Int32.ofNat n)), (.int (0 : Int32)), (.ref a2), (.int (Int32.ofNat ib)), (.ref t)]))
  refine own_step (b := T2.setTop (mkF m 22 #[.val (.ref t), .val (.int (Int32.ofNat ib)), .val (.int (Int32.ofNat ie)), .val (.int (Int32.ofNat (ie - ib))), .val (.ref a2)] [(.int (Int32.ofNat ib)), (.int (Int32.ofNat n)), (.int (0 : Int32)), (.ref a2), (.int (Int32.ofNat ib)), (.ref t)])) (fun _ qk => XS.iloadN X2.here hx rfl (hb hby d24_21) rfl qk) ?_
  refine own_step (b := T2.setTop (mkF m 23 #[.val (.ref t), .val (.int (Int32.ofNat ib)), .val (.int (Int32.ofNat ie)), .val (.int (Int32.ofNat (ie - ib))), .val (.ref a2)] [(.int ((Int32.ofNat n) - (Int32.ofNat ib))), (.int (0 : Int32)), (.ref a2), (.int (Int32.ofNat ib)), (.ref t)])) (fun _ qk => XS.isub X2.here hx rfl (hb hby d24_22) rfl qk) ?_
  rw [own_ofNat_sub (by omega : ib ≤ n) (by omega)]
  show own_G p e below _ (T2.setTop (mkF m 23 #[.val (.ref t), .val (.int (Int32.ofNat ib)), .val (.int (Int32.ofNat ie)), .val (.int (Int32.ofNat (ie - ib))), .val (.ref a2)] [(.int (Int32.ofNat (n - ib))), (.int (0 : Int32)), (.ref a2), (.int (Int32.ofNat ib)), (.ref t)]))
  refine own_step (b := T2.setTop (mkF m 24 #[.val (.ref t), .val (.int (Int32.ofNat ib)), .val (.int (Int32.ofNat ie)), .val (.int (Int32.ofNat (ie - ib))), .val (.ref a2)] [(.int (Int32.ofNat (ie - ib))), (.int (Int32.ofNat (n - ib))), (.int (0 : Int32)), (.ref a2), (.int (Int32.ofNat ib)), (.ref t)])) (fun _ qk => XS.iloadN X2.here hx rfl (hb hby d24_23) rfl qk) ?_
  refine own_staticP (W := 4) (argsL := [(.int (Int32.ofNat (n - ib))), (.int (Int32.ofNat (ie - ib)))]) (st := [(.int (0 : Int32)), (.ref a2), (.int (Int32.ofNat ib)), (.ref t)]) X2 hx hZ hown (own_w hw 109 rfl) (own_w hw 110 rfl) (own_w hw 111 rfl) (own_w hw 112 rfl) (by decide) e2 (rmMin l Z a0 hw [] (Int32.ofNat (n - ib)) (Int32.ofNat (ie - ib)) h2) (by decide) (by decide) (by decide) (by decide) (by rw [hml]; rfl) (lenOf pd3 rfl) rfl (Nat.le_of_ble_eq_true rfl) (hb hby d24_24) (fun T3 X3 e3 => ?_)
  show own_G p e below _ (T3.setTop (mkF m 27 #[.val (.ref t), .val (.int (Int32.ofNat ib)), .val (.int (Int32.ofNat ie)), .val (.int (Int32.ofNat (ie - ib))), .val (.ref a2)] [(.int (own_min (Int32.ofNat (n - ib)) (Int32.ofNat (ie - ib)))), (.int (0 : Int32)), (.ref a2), (.int (Int32.ofNat ib)), (.ref t)]))
  rw [own_min_r (by omega) (by omega)]
  show own_G p e below _ (T3.setTop (mkF m 27 #[.val (.ref t), .val (.int (Int32.ofNat ib)), .val (.int (Int32.ofNat ie)), .val (.int (Int32.ofNat (ie - ib))), .val (.ref a2)] [(.int (Int32.ofNat (ie - ib))), (.int (0 : Int32)), (.ref a2), (.int (Int32.ofNat ib)), (.ref t)]))
  refine own_cpB (W := 0) X3 hx hZ hown (own_w hw 113 rfl) (own_w hw 116 rfl) (own_w hw 114 rfl) (own_w hw 115 rfl) e3 (V.ext E2) VB hv (by simp) (by omega) (by omega) N0 (by omega) (by rw [hml]; rfl) (hb hby d24_27) (by decide) (Nat.le_of_ble_eq_true rfl) (by decide) (fun T4 h4 L4 X4 e4 N4 K4 z4 V4 => ?_)
  show own_G p e below _ (T4.setTop (mkF m 30 #[.val (.ref t), .val (.int (Int32.ofNat ib)), .val (.int (Int32.ofNat ie)), .val (.int (Int32.ofNat (ie - ib))), .val (.ref a2)] []))
  refine own_step (b := T4.setTop (mkF m 32 #[.val (.ref t), .val (.int (Int32.ofNat ib)), .val (.int (Int32.ofNat ie)), .val (.int (Int32.ofNat (ie - ib))), .val (.ref a2)] [(.ref a2)])) (fun _ qk => XS.aload X4.here hx rfl (hb hby d24_30) rfl rfl qk) ?_
  subst e4
  exact own_retR X4 hx hret rfl rfl rfl hlk (hb hby d24_32) ⟨_, _, rfl, N4, own_ext (((Keep.refl h0 []).ext E2).trans K4 (allS (Or.inr (by omega)) all0)), by omega, by omega, V4⟩ (by decide) (by decide)
theorem ef_cr (m : MethodId) (t : Addr) (x y : Int32) : entryFrame m #[(.ref t), (.int x), (.int y)] 3 = mkF m 0 #[.val (.ref t), .val (.int x), .val (.int y)] [] := by first | (simp [entryFrame, mkF, argsToLocals, Value.category, maxLocals]; done) | rfl
set_option maxRecDepth 65536 in
set_option maxHeartbeats 40000000 in
theorem rmCr (l : Launch) (Z : State) (a0 : Array Value) (hw : ∀ d ∈ tables_1, d.before a0 Z = true) (ws : List Jvm.Cond) (t : Addr) (kt : ClassId) (n ib ie : Nat) (vs : List Value) (h0 : Heap) (V : Arv Z h0 t kt .byte (Int32.ofNat n) vs (.int 0)) (hv : vs.length = n) (hn : n ≤ 4) (hbe : ib ≤ ie) (hen : ie ≤ n) (OL0 : Old Z Z.heap.size h0) (hnot : ¬ (ib = 0 ∧ ie = n)) :
    own_Met l Z (⟨"java/util/Arrays", "copyOfRange", "([BII)[B"⟩ : MethodName) jdk_65_method_132_code 3 (some (.array .byte)) ws ⟨2, 1, 4, 76⟩ #[(.ref t), (.int (Int32.ofNat ib)), (.int (Int32.ofNat ie))] h0 (fun v h L => ∃ (r : Addr) (kr : ClassId), v = some (.ref r) ∧ Fr Z.heap.size L ∧ Ext h0 h ∧ h0.size ≤ r ∧ @LT.lt Nat instLTNat r h.size ∧ Arv Z h r kr .byte (Int32.ofNat (ie - ib)) ((vs.drop ib).take (ie - ib)) (.int 0)) := by
  refine own_enter (plainFor_of_name pn1) (fun m => ef_cr m t (Int32.ofNat ib) (Int32.ofNat ie)) ?_
  intro p e s m below meth c T0 hx hby hml hZ hown hnm hret hlk X0 e0
  have N0 := Fr.nil Z.heap.size
  show own_G p e below _ (T0.setTop (mkF m 0 #[.val (.ref t), .val (.int (Int32.ofNat ib)), .val (.int (Int32.ofNat ie))] []))
  refine own_step (b := T0.setTop (mkF m 1 #[.val (.ref t), .val (.int (Int32.ofNat ib)), .val (.int (Int32.ofNat ie))] [(.int (Int32.ofNat ib))])) (fun _ qk => XS.iloadN X0.here hx rfl (hb hby d23_0) rfl qk) ?_
  refine own_if_ne X0 hx (hb hby d23_1) (pc' := 10) (by decide) (by decide) (fun c1 => ?_) (fun c1 => ?_)
  · show own_G p e below _ (T0.setTop (mkF m 10 #[.val (.ref t), .val (.int (Int32.ofNat ib)), .val (.int (Int32.ofNat ie))] []))
    refine own_step (b := T0.setTop (mkF m 11 #[.val (.ref t), .val (.int (Int32.ofNat ib)), .val (.int (Int32.ofNat ie))] [(.ref t)])) (fun _ qk => XS.aloadN X0.here hx rfl (hb hby d23_10) rfl rfl qk) ?_
    refine own_step (b := T0.setTop (mkF m 12 #[.val (.ref t), .val (.int (Int32.ofNat ib)), .val (.int (Int32.ofNat ie))] [(.int (Int32.ofNat ib)), (.ref t)])) (fun _ qk => XS.iloadN X0.here hx rfl (hb hby d23_11) rfl qk) ?_
    refine own_step (b := T0.setTop (mkF m 13 #[.val (.ref t), .val (.int (Int32.ofNat ib)), .val (.int (Int32.ofNat ie))] [(.int (Int32.ofNat ie)), (.int (Int32.ofNat ib)), (.ref t)])) (fun _ qk => XS.iloadN X0.here hx rfl (hb hby d23_12) rfl qk) ?_
    refine own_static (W := 0) (argsL := [(.ref t), (.int (Int32.ofNat ib)), (.int (Int32.ofNat ie))]) (st := []) X0 hx hZ hown (own_w hw 103 rfl) (own_w hw 104 rfl) (own_w hw 101 rfl) (own_w hw 105 rfl) (by decide) e0 (own_back (W := 0) (rmCrb l Z a0 hw [] t kt n ib ie vs h0 V hv hn hbe hen OL0) hZ (own_w hw 105 rfl) (own_w hw 101 rfl) (by decide) (by decide)) (by decide) (by decide) (by rw [hml]; rfl) (lenOf pd4 rfl) rfl (Nat.le_of_ble_eq_true rfl) (hb hby d23_13) (fun v1 T1 L1 X1 hQ1 => ?_)
    obtain ⟨r1, kr1, rfl, M1, E1, g1, l1, V1⟩ := hQ1
    show own_G p e below _ (T1.setTop (mkF m 16 #[.val (.ref t), .val (.int (Int32.ofNat ib)), .val (.int (Int32.ofNat ie))] [(.ref r1)]))
    exact own_retR X1 hx hret rfl rfl rfl hlk (hb hby d23_16) ⟨_, _, rfl, M1, E1, g1, l1, V1⟩ (by decide) (by decide)
  · show own_G p e below _ (T0.setTop (mkF m 4 #[.val (.ref t), .val (.int (Int32.ofNat ib)), .val (.int (Int32.ofNat ie))] []))
    refine own_step (b := T0.setTop (mkF m 5 #[.val (.ref t), .val (.int (Int32.ofNat ib)), .val (.int (Int32.ofNat ie))] [(.int (Int32.ofNat ie))])) (fun _ qk => XS.iloadN X0.here hx rfl (hb hby d23_4) rfl qk) ?_
    refine own_step (b := T0.setTop (mkF m 6 #[.val (.ref t), .val (.int (Int32.ofNat ib)), .val (.int (Int32.ofNat ie))] [(.ref t), (.int (Int32.ofNat ie))])) (fun _ qk => XS.aloadN X0.here hx rfl (hb hby d23_5) rfl rfl qk) ?_
    refine own_len X0 hx hZ e0 V (hb hby d23_6) ?_
    show own_G p e below _ (T0.setTop (mkF m 7 #[.val (.ref t), .val (.int (Int32.ofNat ib)), .val (.int (Int32.ofNat ie))] [(.int (Int32.ofNat n)), (.int (Int32.ofNat ie))]))
    refine own_icmp_eq X0 hx (hb hby d23_7) (pc' := 17) (by decide) (by decide) (fun c7 => absurd (And.intro ((own_ofNat_eq (n := 0) (by omega) (by decide)).mp c1) ((own_ofNat_eq (by omega) (by omega)).mp c7)) hnot) (fun c7 => ?_)
    show own_G p e below _ (T0.setTop (mkF m 10 #[.val (.ref t), .val (.int (Int32.ofNat ib)), .val (.int (Int32.ofNat ie))] []))
    refine own_step (b := T0.setTop (mkF m 11 #[.val (.ref t), .val (.int (Int32.ofNat ib)), .val (.int (Int32.ofNat ie))] [(.ref t)])) (fun _ qk => XS.aloadN X0.here hx rfl (hb hby d23_10) rfl rfl qk) ?_
    refine own_step (b := T0.setTop (mkF m 12 #[.val (.ref t), .val (.int (Int32.ofNat ib)), .val (.int (Int32.ofNat ie))] [(.int (Int32.ofNat ib)), (.ref t)])) (fun _ qk => XS.iloadN X0.here hx rfl (hb hby d23_11) rfl qk) ?_
    refine own_step (b := T0.setTop (mkF m 13 #[.val (.ref t), .val (.int (Int32.ofNat ib)), .val (.int (Int32.ofNat ie))] [(.int (Int32.ofNat ie)), (.int (Int32.ofNat ib)), (.ref t)])) (fun _ qk => XS.iloadN X0.here hx rfl (hb hby d23_12) rfl qk) ?_
    refine own_static (W := 0) (argsL := [(.ref t), (.int (Int32.ofNat ib)), (.int (Int32.ofNat ie))]) (st := []) X0 hx hZ hown (own_w hw 103 rfl) (own_w hw 104 rfl) (own_w hw 101 rfl) (own_w hw 105 rfl) (by decide) e0 (own_back (W := 0) (rmCrb l Z a0 hw [] t kt n ib ie vs h0 V hv hn hbe hen OL0) hZ (own_w hw 105 rfl) (own_w hw 101 rfl) (by decide) (by decide)) (by decide) (by decide) (by rw [hml]; rfl) (lenOf pd4 rfl) rfl (Nat.le_of_ble_eq_true rfl) (hb hby d23_13) (fun v2 T2 L2 X2 hQ2 => ?_)
    obtain ⟨r2, kr2, rfl, M2, E2, g2, l2, V2⟩ := hQ2
    show own_G p e below _ (T2.setTop (mkF m 16 #[.val (.ref t), .val (.int (Int32.ofNat ib)), .val (.int (Int32.ofNat ie))] [(.ref r2)]))
    exact own_retR X2 hx hret rfl rfl rfl hlk (hb hby d23_16) ⟨_, _, rfl, M2, E2, g2, l2, V2⟩ (by decide) (by decide)
theorem ef_sbb (m : MethodId) (x r : Addr) : entryFrame m #[(.ref x), (.ref r), (.int (0 : Int32))] 3 = mkF m 0 #[.val (.ref x), .val (.ref r), .val (.int (0 : Int32))] [] := by first | (simp [entryFrame, mkF, argsToLocals, Value.category, maxLocals]; done) | rfl
set_option maxRecDepth 65536 in
set_option maxHeartbeats 40000000 in
theorem rmSbb (l : Launch) (Z : State) (a0 : Array Value) (hw : ∀ d ∈ tables_1, d.before a0 Z = true) (ws : List Jvm.Cond) (x r : Addr) (h0 : Heap) (gx : Z.heap.size ≤ x) (Ex : Exa Z h0 x "java/lang/String") (Fv : Fld Z h0 x "java/lang/String" "value" "[B" .null) (Fc : Fld Z h0 x "java/lang/String" "coder" "B" (.int 0)) :
    own_Met l Z (⟨"java/lang/String", "<init>", "([BB)V"⟩ : MethodName) jdk_42_method_151_code 3 none ws ⟨1, 0, 0, 12⟩ #[(.ref x), (.ref r), (.int (0 : Int32))] h0 (fun v h L => v = none ∧ Fr Z.heap.size L ∧ Keep h0 h [x] ∧ Exa Z h x "java/lang/String" ∧ Fld Z h x "java/lang/String" "value" "[B" (.ref r) ∧ Fld Z h x "java/lang/String" "coder" "B" (.int 0)) := by
  refine own_enter (plainFor_of_name pn0) (fun m => ef_sbb m x r) ?_
  intro p e s m below meth c T0 hx hby hml hZ hown hnm hret hlk X0 e0
  have N0 := Fr.nil Z.heap.size
  show own_G p e below _ (T0.setTop (mkF m 0 #[.val (.ref x), .val (.ref r), .val (.int (0 : Int32))] []))
  refine own_step (b := T0.setTop (mkF m 1 #[.val (.ref x), .val (.ref r), .val (.int (0 : Int32))] [(.ref x)])) (fun _ qk => XS.aloadN X0.here hx rfl (hb hby d27_0) rfl rfl qk) ?_
  refine own_initO (W := 0) X0 hx hZ hown (own_w hw 15 rfl) (own_w hw 16 rfl) (own_w hw 17 rfl) e0 (by rw [hml]; rfl) (hb hby d27_1) (by decide) (Nat.le_of_ble_eq_true rfl) (by decide) (fun T1 X1 e1 => ?_)
  show own_G p e below _ (T1.setTop (mkF m 4 #[.val (.ref x), .val (.ref r), .val (.int (0 : Int32))] []))
  refine own_step (b := T1.setTop (mkF m 5 #[.val (.ref x), .val (.ref r), .val (.int (0 : Int32))] [(.ref x)])) (fun _ qk => XS.aloadN X1.here hx rfl (hb hby d27_4) rfl rfl qk) ?_
  refine own_step (b := T1.setTop (mkF m 6 #[.val (.ref x), .val (.ref r), .val (.int (0 : Int32))] [(.ref r), (.ref x)])) (fun _ qk => XS.aloadN X1.here hx rfl (hb hby d27_5) rfl rfl qk) ?_
  refine own_putF X1 hx hZ hown (own_w hw 24 rfl) e1 Fv Ex (Or.inr ⟨(own_w hw 20 rfl), rfl, hnm⟩) (own_w hw 6 rfl) (ty := (.array .byte)) (by decide) rfl rfl N0 gx (hb hby d27_6) (fun T2 h2 X2 e2 N2 W2 z2 F2 E2 => ?_)
  show own_G p e below _ (T2.setTop (mkF m 9 #[.val (.ref x), .val (.ref r), .val (.int (0 : Int32))] []))
  refine own_step (b := T2.setTop (mkF m 10 #[.val (.ref x), .val (.ref r), .val (.int (0 : Int32))] [(.ref x)])) (fun _ qk => XS.aloadN X2.here hx rfl (hb hby d27_9) rfl rfl qk) ?_
  refine own_step (b := T2.setTop (mkF m 11 #[.val (.ref x), .val (.ref r), .val (.int (0 : Int32))] [(.int (0 : Int32)), (.ref x)])) (fun _ qk => XS.iloadN X2.here hx rfl (hb hby d27_10) rfl qk) ?_
  refine own_putF X2 hx hZ hown (own_w hw 25 rfl) e2 (Fc.other W2 (Or.inr (sn_v hw).symm)) E2 (Or.inr ⟨(own_w hw 21 rfl), rfl, hnm⟩) (own_w hw 6 rfl) (ty := .byte) (by decide) rfl rfl N2 gx (hb hby d27_11) (fun T3 h3 X3 e3 N3 W3 z3 F3 E3 => ?_)
  show own_G p e below _ (T3.setTop (mkF m 14 #[.val (.ref x), .val (.ref r), .val (.int (0 : Int32))] []))
  subst e3
  exact own_retV X3 hx hret hlk (hb hby d27_14) ⟨rfl, N3, (((Keep.refl h0 [x]).wr W2 (Or.inl (List.mem_singleton.mpr rfl))).wr W3 (Or.inl (List.mem_singleton.mpr rfl))), E3, F2.other W3 (Or.inr (sn_v hw)), F3⟩ (by decide) (by decide)
theorem ef_ns (m : MethodId) (t : Addr) (x y : Int32) : entryFrame m #[(.ref t), (.int x), (.int y)] 3 = mkF m 0 #[.val (.ref t), .val (.int x), .val (.int y)] [] := by first | (simp [entryFrame, mkF, argsToLocals, Value.category, maxLocals]; done) | rfl
theorem own_sl {cs : List Int32} {ib ln : Nat} : ((((cs.map (fun c => c.toInt8.toInt32)).map Value.int).drop ib).take ln) = ((((cs.drop ib).take ln).map (fun c => c.toInt8.toInt32)).map Value.int) := by simp [List.map_take, List.map_drop]
set_option maxRecDepth 65536 in
set_option maxHeartbeats 40000000 in
theorem rmNs (l : Launch) (Z : State) (a0 : Array Value) (hw : ∀ d ∈ tables_1, d.before a0 Z = true) (ws : List Jvm.Cond) (t : Addr) (kt : ClassId) (n ib ln : Nat) (cs : List Int32) (h0 : Heap) (V : Arv Z h0 t kt .byte (Int32.ofNat n) ((cs.map (fun c => c.toInt8.toInt32)).map Value.int) (.int 0)) (hv : cs.length = n) (hp : ∀ c ∈ cs, ¬ c < 0 ∧ ¬ (255 : Int32) < c) (hn : n ≤ 4) (h1 : 0 < ln) (hen : ib + ln ≤ n) (hnot : ¬ (ib = 0 ∧ ib + ln = n)) (OL0 : Old Z Z.heap.size h0) :
    own_Met l Z (⟨"java/lang/StringLatin1", "newString", "([BII)Ljava/lang/String;"⟩ : MethodName) jdk_43_method_47_code 3 (some (.object "java/lang/String")) ws ⟨3, 2, 8, 92⟩ #[(.ref t), (.int (Int32.ofNat ib)), (.int (Int32.ofNat ln))] h0 (fun v h L => ∃ r : Addr, v = some (.ref r) ∧ Fr Z.heap.size L ∧ Ext h0 h ∧ own_Str Z h r ((cs.drop ib).take ln)) := by
  refine own_enter (plainFor_of_name pn3) (fun m => ef_ns m t (Int32.ofNat ib) (Int32.ofNat ln)) ?_
  intro p e s m below meth c T0 hx hby hml hZ hown hnm hret hlk X0 e0
  have zz0 : Z.heap.size ≤ h0.size := OL0.2.1
  have N0 := Fr.nil Z.heap.size
  show own_G p e below _ (T0.setTop (mkF m 0 #[.val (.ref t), .val (.int (Int32.ofNat ib)), .val (.int (Int32.ofNat ln))] []))
  refine own_step (b := T0.setTop (mkF m 1 #[.val (.ref t), .val (.int (Int32.ofNat ib)), .val (.int (Int32.ofNat ln))] [(.int (Int32.ofNat ln))])) (fun _ qk => XS.iloadN X0.here hx rfl (hb hby d22_0) rfl qk) ?_
  refine own_if_ne X0 hx (hb hby d22_1) (pc' := 7) (by decide) (by decide) (fun c1 => ?_) (fun c1 => absurd ((own_ofNat_eq (n := 0) (by omega) (by decide)).mp c1) (by omega))
  show own_G p e below _ (T0.setTop (mkF m 7 #[.val (.ref t), .val (.int (Int32.ofNat ib)), .val (.int (Int32.ofNat ln))] []))
  refine own_newO X0 hx hZ hown (own_w hw 98 rfl) (own_w hw 6 rfl) (own_w hw 7 rfl) e0 (hb hby d22_7) (by decide) (by decide) (fun T1 h1 a1 X1 e1 g1 l1 E1 A1 D1 => ?_)
  show own_G p e below _ (T1.setTop (mkF m 10 #[.val (.ref t), .val (.int (Int32.ofNat ib)), .val (.int (Int32.ofNat ln))] [(.ref a1)]))
  have OL1 := OL0.ext E1
  refine own_step (b := T1.setTop (mkF m 11 #[.val (.ref t), .val (.int (Int32.ofNat ib)), .val (.int (Int32.ofNat ln))] [(.ref a1), (.ref a1)])) (fun _ qk => XS.dup X1.here hx rfl (hb hby d22_10) rfl rfl qk) ?_
  refine own_step (b := T1.setTop (mkF m 12 #[.val (.ref t), .val (.int (Int32.ofNat ib)), .val (.int (Int32.ofNat ln))] [(.ref t), (.ref a1), (.ref a1)])) (fun _ qk => XS.aloadN X1.here hx rfl (hb hby d22_11) rfl rfl qk) ?_
  refine own_step (b := T1.setTop (mkF m 13 #[.val (.ref t), .val (.int (Int32.ofNat ib)), .val (.int (Int32.ofNat ln))] [(.int (Int32.ofNat ib)), (.ref t), (.ref a1), (.ref a1)])) (fun _ qk => XS.iloadN X1.here hx rfl (hb hby d22_12) rfl qk) ?_
  refine own_step (b := T1.setTop (mkF m 14 #[.val (.ref t), .val (.int (Int32.ofNat ib)), .val (.int (Int32.ofNat ln))] [(.int (Int32.ofNat ib)), (.int (Int32.ofNat ib)), (.ref t), (.ref a1), (.ref a1)])) (fun _ qk => XS.iloadN X1.here hx rfl (hb hby d22_13) rfl qk) ?_
  refine own_step (b := T1.setTop (mkF m 15 #[.val (.ref t), .val (.int (Int32.ofNat ib)), .val (.int (Int32.ofNat ln))] [(.int (Int32.ofNat ln)), (.int (Int32.ofNat ib)), (.int (Int32.ofNat ib)), (.ref t), (.ref a1), (.ref a1)])) (fun _ qk => XS.iloadN X1.here hx rfl (hb hby d22_14) rfl qk) ?_
  refine own_step (b := T1.setTop (mkF m 16 #[.val (.ref t), .val (.int (Int32.ofNat ib)), .val (.int (Int32.ofNat ln))] [(.int ((Int32.ofNat ib) + (Int32.ofNat ln))), (.int (Int32.ofNat ib)), (.ref t), (.ref a1), (.ref a1)])) (fun _ qk => XS.iadd X1.here hx rfl (hb hby d22_15) rfl qk) ?_
  rw [own_ofNat_add]
  show own_G p e below _ (T1.setTop (mkF m 16 #[.val (.ref t), .val (.int (Int32.ofNat ib)), .val (.int (Int32.ofNat ln))] [(.int (Int32.ofNat (ib + ln))), (.int (Int32.ofNat ib)), (.ref t), (.ref a1), (.ref a1)]))
  refine own_static (W := 2) (argsL := [(.ref t), (.int (Int32.ofNat ib)), (.int (Int32.ofNat (ib + ln)))]) (st := [(.ref a1), (.ref a1)]) X1 hx hZ hown (own_w hw 99 rfl) (own_w hw 100 rfl) (own_w hw 101 rfl) (own_w hw 102 rfl) (by decide) e1 (own_back (W := 2) (rmCr l Z a0 hw [] t kt n ib (ib + ln) ((cs.map (fun c => c.toInt8.toInt32)).map Value.int) h1 (V.ext E1) (by simpa using hv) hn (by omega) hen OL1 hnot) hZ (own_w hw 102 rfl) (own_w hw 101 rfl) (by decide) (by decide)) (by decide) (by decide) (by rw [hml]; rfl) (lenOf pd4 rfl) rfl (Nat.le_of_ble_eq_true rfl) (hb hby d22_16) (fun v2 T2 L2 X2 hQ2 => ?_)
  obtain ⟨r2, kr2, rfl, M2, E2, g2, l2, V2⟩ := hQ2
  have z2 : h1.size ≤ T2.heap.size := E2.1
  rw [Nat.add_sub_cancel_left] at V2
  rw [own_sl] at V2
  show own_G p e below _ (T2.setTop (mkF m 19 #[.val (.ref t), .val (.int (Int32.ofNat ib)), .val (.int (Int32.ofNat ln))] [(.ref r2), (.ref a1), (.ref a1)]))
  refine own_step (b := T2.setTop (mkF m 20 #[.val (.ref t), .val (.int (Int32.ofNat ib)), .val (.int (Int32.ofNat ln))] [(.int (0 : Int32)), (.ref r2), (.ref a1), (.ref a1)])) (fun _ qk => XS.iconst X2.here hx rfl (hb hby d22_19) qk) ?_
  refine own_special (a := a1) (W := 1) (argsL := [(.ref r2), (.int (0 : Int32))]) (st := [(.ref a1)]) X2 hx hZ hown rfl (own_w hw 117 rfl) (own_w hw 118 rfl) (own_w hw 119 rfl) (by decide) rfl (own_back (W := 1) (rmSbb l Z a0 hw [] a1 r2 T2.heap (by omega) (A1.ext E2) ((D1 (Or.inr (own_w hw 20 rfl)) (ty := (.array .byte)) (by decide)).ext E2) ((D1 (Or.inr (own_w hw 21 rfl)) (ty := .byte) (by decide)).ext E2)) hZ (own_w hw 119 rfl) (own_w hw 7 rfl) (by decide) (by decide)) (by decide) (by decide) (by rw [hml]; rfl) (lenOf pd5 rfl) rfl (Nat.le_of_ble_eq_true rfl) (hb hby d22_20) (fun v3 T3 L3 X3 hQ3 => ?_)
  obtain ⟨rfl, M3, K3, Ex3, Fv3, Fc3⟩ := hQ3
  show own_G p e below _ (T3.setTop (mkF m 23 #[.val (.ref t), .val (.int (Int32.ofNat ib)), .val (.int (Int32.ofNat ln))] [(.ref a1)]))
  exact own_retR X3 hx hret rfl rfl rfl hlk (hb hby d22_23) ⟨_, rfl, Fr.app (Fr.app N0 M2) M3, own_ext ((((Keep.refl h0 []).ext E1).ext E2).trans K3 (allS (Or.inr (by omega)) all0)), own_mkStr (n := ln) (by simp; omega) rfl Ex3 (fun c hc => hp c (List.mem_of_mem_drop (List.mem_of_mem_take hc))) (by omega) Fc3 Fv3 (V2.keep K3 (ninS (own_ne (by omega)) nin0))⟩ (by decide) (by decide)
set_option maxRecDepth 65536 in
set_option maxHeartbeats 40000000 in
theorem rmNse (l : Launch) (Z : State) (a0 : Array Value) (hw : ∀ d ∈ tables_1, d.before a0 Z = true) (ws : List Jvm.Cond) (t : Addr) (x1 : Int32) (h0 : Heap) (OL0 : Old Z Z.heap.size h0) (CH1 : Jvm.Lit.constHeld Z "java/lang/StringLatin1" 151) (HC : Jvm.Lit.compactW.before a0 Z = true) :
    own_MetI l Z (⟨"java/lang/StringLatin1", "newString", "([BII)Ljava/lang/String;"⟩ : MethodName) jdk_43_method_47_code 3 (some (.object "java/lang/String")) ws ⟨0, 2, 4, 0⟩ #[(.ref t), (.int x1), (.int (0 : Int32))] h0 (fun vm => IB Z vm []) (fun v vm h L => ∃ r : Addr, v = some (.ref r) ∧ Fr Z.heap.size L ∧ Ext h0 h ∧ own_Str Z h r []) := by
  refine own_enterI (plainFor_of_name pn3) (fun m => ef_ns m t x1 (0 : Int32)) ?_
  intro p e s m below meth c T0 vm0 k0 hx hby hml hZ hown hnm hret hlk X0 e0 es0 hS hk hI
  have hSA : ∀ d ∈ Bundle.stringAtoms, d.before a0 Z = true := fun d hd => hw d ((by decide +kernel : ∀ d ∈ Bundle.stringAtoms, d ∈ tables_1) d hd)
  have N0 := Fr.nil Z.heap.size
  show own_G p e below _ (T0.setTop (mkF m 0 #[.val (.ref t), .val (.int x1), .val (.int (0 : Int32))] []))
  refine own_step (b := T0.setTop (mkF m 1 #[.val (.ref t), .val (.int x1), .val (.int (0 : Int32))] [(.int (0 : Int32))])) (fun _ qk => XS.iloadN X0.here hx rfl (hb hby d22_0) rfl qk) ?_
  refine own_if_ne X0 hx (hb hby d22_1) (pc' := 7) (by decide) (by decide) (fun c1_1 => absurd c1_1 (by decide)) (fun c1_1 => ?_)
  show own_G p e below _ (T0.setTop (mkF m 4 #[.val (.ref t), .val (.int x1), .val (.int (0 : Int32))] []))
  refine own_ldcV X0 hx hZ hown (own_w hw 121 rfl) hSA e0 hS (by omega) (Fr.nil _) (fun q cl r => by rw [es0]; exact OL0.2.2 q cl r) hI (by simp) CH1 HC (vs := []) (z := (0 : Int32)) (by decide) (by decide) rfl (hb hby d22_4) 0 (by decide) (by decide) (by decide) (by decide) (fun a2 T2 h2 vm2 k2 b2 kb2 X2 e2 E2 z2 hS hk hZ hown A2 C2 F2 B2 IV2 LT2 => ?_)
  show own_G p e below _ (T2.setTop (mkF m 6 #[.val (.ref t), .val (.int x1), .val (.int (0 : Int32))] [(.ref a2)]))
  subst e2
  exact own_retXR X2 hx hS (by omega) hret rfl rfl rfl hlk (hb hby d22_6) ⟨_, rfl, N0, E2, own_mkStr (n := 0) rfl rfl A2 (fun _ q => nomatch q) (by decide) C2 F2 B2⟩ (by decide) (by decide)
theorem ef_sub (m : MethodId) (x : Addr) (i j : Int32) : entryFrame m #[(.ref x), (.int i), (.int j)] 5 = mkF m 0 #[.val (.ref x), .val (.int i), .val (.int j), .unset, .unset] [] := by first | (simp [entryFrame, mkF, argsToLocals, Value.category, maxLocals]; done) | rfl
set_option maxRecDepth 65536 in
set_option maxHeartbeats 40000000 in
theorem rmSubT (l : Launch) (Z : State) (a0 : Array Value) (hw : ∀ d ∈ tables_1, d.before a0 Z = true) (ws : List Jvm.Cond) (x : Addr) (n ib ie : Nat) (cs : List Int32) (h0 : Heap) (SS : own_Str Z h0 x cs) (hv : cs.length = n) (hn : n ≤ 4) (hbe : ib ≤ ie) (hen : ie ≤ n) (hall : ib = 0 ∧ ie = n) (OL0 : Old Z Z.heap.size h0) (G1 : Int32) (O2 : Sta Z Z.heap "java/lang/String" "COMPACT_STRINGS" "Z" (.int G1)) (P5 : ¬ (G1 = (0 : Int32))) (G3 : Value) (O4 : Sta Z Z.heap "jdk/internal/util/Preconditions" "SIOOBE_FORMATTER" "Ljava/util/function/BiFunction;" G3) (rG3 : G3.isRef = true) :
    own_Met l Z (⟨"java/lang/String", "substring", "(II)Ljava/lang/String;"⟩ : MethodName) jdk_42_method_92_code 5 (some (.object "java/lang/String")) ws ⟨4, 0, 0, 106⟩ #[(.ref x), (.int (Int32.ofNat ib)), (.int (Int32.ofNat ie))] h0 (own_P (some (.ref x)) h0) := by
  refine own_enter (plainFor_of_name pn0) (fun m => ef_sub m x (Int32.ofNat ib) (Int32.ofNat ie)) ?_
  intro p e s m below meth c T0 hx hby hml hZ hown hnm hret hlk X0 e0
  show own_G p e below _ (T0.setTop (mkF m 0 #[.val (.ref x), .val (.int (Int32.ofNat ib)), .val (.int (Int32.ofNat ie)), .unset, .unset] []))
  refine own_step (b := T0.setTop (mkF m 1 #[.val (.ref x), .val (.int (Int32.ofNat ib)), .val (.int (Int32.ofNat ie)), .unset, .unset] [(.ref x)])) (fun _ qk => XS.aloadN X0.here hx rfl (hb hby d8_0) rfl rfl qk) ?_
  refine own_virtual (a := x) (W := 0) (argsL := []) (st := []) X0 hx hZ hown (own_w hw 46 rfl) (own_w hw 31 rfl) (own_w hw 33 rfl) rfl (own_w hw 32 rfl) (by decide) e0 SS.1 (own_lenB (W := 0) hZ hw (kI := 4) (own_w hw 6 rfl) SS O2 P5 OL0 (r := Int32.ofNat n) (by rw [hv]) (by decide) (by decide)) (by decide) (by decide) (by rw [hml]; rfl) (lenOf pd6 rfl) rfl (Nat.le_of_ble_eq_true rfl) (hb hby d8_1) (fun v1 T1 L1 X1 hQ1 => ?_)
  obtain ⟨rfl, rfl, hh1⟩ := hQ1
  rw [List.append_nil] at X1
  show own_G p e below _ (T1.setTop (mkF m 4 #[.val (.ref x), .val (.int (Int32.ofNat ib)), .val (.int (Int32.ofNat ie)), .unset, .unset] [(.int (Int32.ofNat n))]))
  refine own_step (b := T1.setTop (mkF m 5 #[.val (.ref x), .val (.int (Int32.ofNat ib)), .val (.int (Int32.ofNat ie)), .val (.int (Int32.ofNat n)), .unset] [])) (fun _ qk => XS.istoreN X1.here hx rfl (hb hby d8_4) rfl (l' := #[.val (.ref x), .val (.int (Int32.ofNat ib)), .val (.int (Int32.ofNat ie)), .val (.int (Int32.ofNat n)), .unset]) rfl qk) ?_
  refine own_step (b := T1.setTop (mkF m 6 #[.val (.ref x), .val (.int (Int32.ofNat ib)), .val (.int (Int32.ofNat ie)), .val (.int (Int32.ofNat n)), .unset] [(.int (Int32.ofNat ib))])) (fun _ qk => XS.iloadN X1.here hx rfl (hb hby d8_5) rfl qk) ?_
  refine own_step (b := T1.setTop (mkF m 7 #[.val (.ref x), .val (.int (Int32.ofNat ib)), .val (.int (Int32.ofNat ie)), .val (.int (Int32.ofNat n)), .unset] [(.int (Int32.ofNat ie)), (.int (Int32.ofNat ib))])) (fun _ qk => XS.iloadN X1.here hx rfl (hb hby d8_6) rfl qk) ?_
  refine own_step (b := T1.setTop (mkF m 8 #[.val (.ref x), .val (.int (Int32.ofNat ib)), .val (.int (Int32.ofNat ie)), .val (.int (Int32.ofNat n)), .unset] [(.int (Int32.ofNat n)), (.int (Int32.ofNat ie)), (.int (Int32.ofNat ib))])) (fun _ qk => XS.iloadN X1.here hx rfl (hb hby d8_7) rfl qk) ?_
  refine own_staticP (W := 0) (argsL := [(.int (Int32.ofNat ib)), (.int (Int32.ofNat ie)), (.int (Int32.ofNat n))]) (st := []) X1 hx hZ hown (own_w hw 47 rfl) (own_w hw 48 rfl) (own_w hw 7 rfl) (own_w hw 49 rfl) (by decide) hh1 (rmCbe l Z a0 hw [] (Int32.ofNat ib) (Int32.ofNat ie) (Int32.ofNat n) h0 (own_nn (by omega)) (by rw [own_ofNat_lt (by omega) (by omega)]; omega) (by rw [own_ofNat_lt (by omega) (by omega)]; omega) OL0 G1 O2 P5 G3 O4 rG3) (by decide) (by decide) (by decide) (by decide) (by rw [hml]; rfl) (lenOf pd7 rfl) rfl (Nat.le_of_ble_eq_true rfl) (hb hby d8_8) (fun T2 X2 e2 => ?_)
  show own_G p e below _ (T2.setTop (mkF m 11 #[.val (.ref x), .val (.int (Int32.ofNat ib)), .val (.int (Int32.ofNat ie)), .val (.int (Int32.ofNat n)), .unset] []))
  refine own_step (b := T2.setTop (mkF m 12 #[.val (.ref x), .val (.int (Int32.ofNat ib)), .val (.int (Int32.ofNat ie)), .val (.int (Int32.ofNat n)), .unset] [(.int (Int32.ofNat ib))])) (fun _ qk => XS.iloadN X2.here hx rfl (hb hby d8_11) rfl qk) ?_
  refine own_if_ne X2 hx (hb hby d8_12) (pc' := 22) (by decide) (by decide) (fun c12 => absurd ((own_ofNat_eq (n := 0) (by omega) (by decide)).mpr hall.1) c12) (fun c12 => ?_)
  show own_G p e below _ (T2.setTop (mkF m 15 #[.val (.ref x), .val (.int (Int32.ofNat ib)), .val (.int (Int32.ofNat ie)), .val (.int (Int32.ofNat n)), .unset] []))
  refine own_step (b := T2.setTop (mkF m 16 #[.val (.ref x), .val (.int (Int32.ofNat ib)), .val (.int (Int32.ofNat ie)), .val (.int (Int32.ofNat n)), .unset] [(.int (Int32.ofNat ie))])) (fun _ qk => XS.iloadN X2.here hx rfl (hb hby d8_15) rfl qk) ?_
  refine own_step (b := T2.setTop (mkF m 17 #[.val (.ref x), .val (.int (Int32.ofNat ib)), .val (.int (Int32.ofNat ie)), .val (.int (Int32.ofNat n)), .unset] [(.int (Int32.ofNat n)), (.int (Int32.ofNat ie))])) (fun _ qk => XS.iloadN X2.here hx rfl (hb hby d8_16) rfl qk) ?_
  refine own_icmp_ne X2 hx (hb hby d8_17) (pc' := 22) (by decide) (by decide) (fun c17 => absurd ((own_ofNat_eq (by omega) (by omega)).mpr hall.2) c17) (fun c17 => ?_)
  show own_G p e below _ (T2.setTop (mkF m 20 #[.val (.ref x), .val (.int (Int32.ofNat ib)), .val (.int (Int32.ofNat ie)), .val (.int (Int32.ofNat n)), .unset] []))
  refine own_step (b := T2.setTop (mkF m 21 #[.val (.ref x), .val (.int (Int32.ofNat ib)), .val (.int (Int32.ofNat ie)), .val (.int (Int32.ofNat n)), .unset] [(.ref x)])) (fun _ qk => XS.aloadN X2.here hx rfl (hb hby d8_20) rfl rfl qk) ?_
  exact own_retR X2 hx hret rfl rfl rfl hlk (hb hby d8_21) ⟨rfl, rfl, e2⟩ (by decide) (by decide)
set_option maxRecDepth 65536 in
set_option maxHeartbeats 40000000 in
theorem rmSubM (l : Launch) (Z : State) (a0 : Array Value) (hw : ∀ d ∈ tables_1, d.before a0 Z = true) (ws : List Jvm.Cond) (x : Addr) (n ib ie : Nat) (cs : List Int32) (h0 : Heap) (SS : own_Str Z h0 x cs) (hv : cs.length = n) (hn : n ≤ 4) (hbe : ib ≤ ie) (hen : ie ≤ n) (hlt : ib < ie) (hnot : ¬ (ib = 0 ∧ ie = n)) (OL0 : Old Z Z.heap.size h0) (G1 : Int32) (O2 : Sta Z Z.heap "java/lang/String" "COMPACT_STRINGS" "Z" (.int G1)) (P5 : ¬ (G1 = (0 : Int32))) (G3 : Value) (O4 : Sta Z Z.heap "jdk/internal/util/Preconditions" "SIOOBE_FORMATTER" "Ljava/util/function/BiFunction;" G3) (rG3 : G3.isRef = true) :
    own_Met l Z (⟨"java/lang/String", "substring", "(II)Ljava/lang/String;"⟩ : MethodName) jdk_42_method_92_code 5 (some (.object "java/lang/String")) ws ⟨4, 2, 8, 106⟩ #[(.ref x), (.int (Int32.ofNat ib)), (.int (Int32.ofNat ie))] h0 (fun v h L => ∃ r : Addr, v = some (.ref r) ∧ Fr Z.heap.size L ∧ Ext h0 h ∧ own_Str Z h r ((cs.drop ib).take (ie - ib))) := by
  refine own_enter (plainFor_of_name pn0) (fun m => ef_sub m x (Int32.ofNat ib) (Int32.ofNat ie)) ?_
  intro p e s m below meth c T0 hx hby hml hZ hown hnm hret hlk X0 e0
  have N0 := Fr.nil Z.heap.size
  show own_G p e below _ (T0.setTop (mkF m 0 #[.val (.ref x), .val (.int (Int32.ofNat ib)), .val (.int (Int32.ofNat ie)), .unset, .unset] []))
  refine own_step (b := T0.setTop (mkF m 1 #[.val (.ref x), .val (.int (Int32.ofNat ib)), .val (.int (Int32.ofNat ie)), .unset, .unset] [(.ref x)])) (fun _ qk => XS.aloadN X0.here hx rfl (hb hby d8_0) rfl rfl qk) ?_
  refine own_virtual (a := x) (W := 0) (argsL := []) (st := []) X0 hx hZ hown (own_w hw 46 rfl) (own_w hw 31 rfl) (own_w hw 33 rfl) rfl (own_w hw 32 rfl) (by decide) e0 SS.1 (own_lenB (W := 0) hZ hw (kI := 4) (own_w hw 6 rfl) SS O2 P5 OL0 (r := Int32.ofNat n) (by rw [hv]) (by decide) (by decide)) (by decide) (by decide) (by rw [hml]; rfl) (lenOf pd6 rfl) rfl (Nat.le_of_ble_eq_true rfl) (hb hby d8_1) (fun v1 T1 L1 X1 hQ1 => ?_)
  obtain ⟨rfl, rfl, hh1⟩ := hQ1
  rw [List.append_nil] at X1
  show own_G p e below _ (T1.setTop (mkF m 4 #[.val (.ref x), .val (.int (Int32.ofNat ib)), .val (.int (Int32.ofNat ie)), .unset, .unset] [(.int (Int32.ofNat n))]))
  refine own_step (b := T1.setTop (mkF m 5 #[.val (.ref x), .val (.int (Int32.ofNat ib)), .val (.int (Int32.ofNat ie)), .val (.int (Int32.ofNat n)), .unset] [])) (fun _ qk => XS.istoreN X1.here hx rfl (hb hby d8_4) rfl (l' := #[.val (.ref x), .val (.int (Int32.ofNat ib)), .val (.int (Int32.ofNat ie)), .val (.int (Int32.ofNat n)), .unset]) rfl qk) ?_
  refine own_step (b := T1.setTop (mkF m 6 #[.val (.ref x), .val (.int (Int32.ofNat ib)), .val (.int (Int32.ofNat ie)), .val (.int (Int32.ofNat n)), .unset] [(.int (Int32.ofNat ib))])) (fun _ qk => XS.iloadN X1.here hx rfl (hb hby d8_5) rfl qk) ?_
  refine own_step (b := T1.setTop (mkF m 7 #[.val (.ref x), .val (.int (Int32.ofNat ib)), .val (.int (Int32.ofNat ie)), .val (.int (Int32.ofNat n)), .unset] [(.int (Int32.ofNat ie)), (.int (Int32.ofNat ib))])) (fun _ qk => XS.iloadN X1.here hx rfl (hb hby d8_6) rfl qk) ?_
  refine own_step (b := T1.setTop (mkF m 8 #[.val (.ref x), .val (.int (Int32.ofNat ib)), .val (.int (Int32.ofNat ie)), .val (.int (Int32.ofNat n)), .unset] [(.int (Int32.ofNat n)), (.int (Int32.ofNat ie)), (.int (Int32.ofNat ib))])) (fun _ qk => XS.iloadN X1.here hx rfl (hb hby d8_7) rfl qk) ?_
  refine own_staticP (W := 0) (argsL := [(.int (Int32.ofNat ib)), (.int (Int32.ofNat ie)), (.int (Int32.ofNat n))]) (st := []) X1 hx hZ hown (own_w hw 47 rfl) (own_w hw 48 rfl) (own_w hw 7 rfl) (own_w hw 49 rfl) (by decide) hh1 (rmCbe l Z a0 hw [] (Int32.ofNat ib) (Int32.ofNat ie) (Int32.ofNat n) h0 (own_nn (by omega)) (by rw [own_ofNat_lt (by omega) (by omega)]; omega) (by rw [own_ofNat_lt (by omega) (by omega)]; omega) OL0 G1 O2 P5 G3 O4 rG3) (by decide) (by decide) (by decide) (by decide) (by rw [hml]; rfl) (lenOf pd7 rfl) rfl (Nat.le_of_ble_eq_true rfl) (hb hby d8_8) (fun T2 X2 e2 => ?_)
  show own_G p e below _ (T2.setTop (mkF m 11 #[.val (.ref x), .val (.int (Int32.ofNat ib)), .val (.int (Int32.ofNat ie)), .val (.int (Int32.ofNat n)), .unset] []))
  refine own_step (b := T2.setTop (mkF m 12 #[.val (.ref x), .val (.int (Int32.ofNat ib)), .val (.int (Int32.ofNat ie)), .val (.int (Int32.ofNat n)), .unset] [(.int (Int32.ofNat ib))])) (fun _ qk => XS.iloadN X2.here hx rfl (hb hby d8_11) rfl qk) ?_
  refine own_if_ne X2 hx (hb hby d8_12) (pc' := 22) (by decide) (by decide) (fun c12 => ?_) (fun c12 => ?_)
  · show own_G p e below _ (T2.setTop (mkF m 22 #[.val (.ref x), .val (.int (Int32.ofNat ib)), .val (.int (Int32.ofNat ie)), .val (.int (Int32.ofNat n)), .unset] []))
    refine own_step (b := T2.setTop (mkF m 23 #[.val (.ref x), .val (.int (Int32.ofNat ib)), .val (.int (Int32.ofNat ie)), .val (.int (Int32.ofNat n)), .unset] [(.int (Int32.ofNat ie))])) (fun _ qk => XS.iloadN X2.here hx rfl (hb hby d8_22) rfl qk) ?_
    refine own_step (b := T2.setTop (mkF m 24 #[.val (.ref x), .val (.int (Int32.ofNat ib)), .val (.int (Int32.ofNat ie)), .val (.int (Int32.ofNat n)), .unset] [(.int (Int32.ofNat ib)), (.int (Int32.ofNat ie))])) (fun _ qk => XS.iloadN X2.here hx rfl (hb hby d8_23) rfl qk) ?_
    refine own_step (b := T2.setTop (mkF m 25 #[.val (.ref x), .val (.int (Int32.ofNat ib)), .val (.int (Int32.ofNat ie)), .val (.int (Int32.ofNat n)), .unset] [(.int ((Int32.ofNat ie) - (Int32.ofNat ib)))])) (fun _ qk => XS.isub X2.here hx rfl (hb hby d8_24) rfl qk) ?_
    rw [own_ofNat_sub hbe (by omega)]
    show own_G p e below _ (T2.setTop (mkF m 25 #[.val (.ref x), .val (.int (Int32.ofNat ib)), .val (.int (Int32.ofNat ie)), .val (.int (Int32.ofNat n)), .unset] [(.int (Int32.ofNat (ie - ib)))]))
    refine own_step (b := T2.setTop (mkF m 27 #[.val (.ref x), .val (.int (Int32.ofNat ib)), .val (.int (Int32.ofNat ie)), .val (.int (Int32.ofNat n)), .val (.int (Int32.ofNat (ie - ib)))] [])) (fun _ qk => XS.istore X2.here hx rfl (hb hby d8_25) rfl (l' := #[.val (.ref x), .val (.int (Int32.ofNat ib)), .val (.int (Int32.ofNat ie)), .val (.int (Int32.ofNat n)), .val (.int (Int32.ofNat (ie - ib)))]) rfl qk) ?_
    refine own_step (b := T2.setTop (mkF m 28 #[.val (.ref x), .val (.int (Int32.ofNat ib)), .val (.int (Int32.ofNat ie)), .val (.int (Int32.ofNat n)), .val (.int (Int32.ofNat (ie - ib)))] [(.ref x)])) (fun _ qk => XS.aloadN X2.here hx rfl (hb hby d8_27) rfl rfl qk) ?_
    refine own_virtualP (a := x) (W := 0) (argsL := []) (st := []) X2 hx hZ hown (own_w hw 77 rfl) (own_w hw 78 rfl) (own_w hw 80 rfl) rfl (own_w hw 79 rfl) (by decide) e2 SS.1 (rmIsl l Z a0 hw [] x cs h0 SS OL0 G1 O2 P5 G3 O4 rG3) (own_w hw 81 rfl) (own_w hw 7 rfl) (by decide) (by decide) (by decide) (by decide) (by rw [hml]; rfl) (lenOf pd8 rfl) rfl (Nat.le_of_ble_eq_true rfl) (hb hby d8_28) (fun T3 X3 e3 => ?_)
    show own_G p e below _ (T3.setTop (mkF m 31 #[.val (.ref x), .val (.int (Int32.ofNat ib)), .val (.int (Int32.ofNat ie)), .val (.int (Int32.ofNat n)), .val (.int (Int32.ofNat (ie - ib)))] [(.int (1 : Int32))]))
    refine own_if_eq X3 hx (hb hby d8_31) (pc' := 47) (by decide) (by decide) (fun c31_4 => absurd c31_4 (by decide)) (fun c31_4 => ?_)
    show own_G p e below _ (T3.setTop (mkF m 34 #[.val (.ref x), .val (.int (Int32.ofNat ib)), .val (.int (Int32.ofNat ie)), .val (.int (Int32.ofNat n)), .val (.int (Int32.ofNat (ie - ib)))] []))
    refine own_step (b := T3.setTop (mkF m 35 #[.val (.ref x), .val (.int (Int32.ofNat ib)), .val (.int (Int32.ofNat ie)), .val (.int (Int32.ofNat n)), .val (.int (Int32.ofNat (ie - ib)))] [(.ref x)])) (fun _ qk => XS.aloadN X3.here hx rfl (hb hby d8_34) rfl rfl qk) ?_
    obtain ⟨-, hp, -, -, t, kt, Ft, Vt⟩ := id SS
    rw [hv] at Vt
    refine own_getF X3 hx hZ hown (own_w hw 24 rfl) e3 Ft (hb hby d8_35) (fun T5 X5 e5 => ?_)
    show own_G p e below _ (T5.setTop (mkF m 38 #[.val (.ref x), .val (.int (Int32.ofNat ib)), .val (.int (Int32.ofNat ie)), .val (.int (Int32.ofNat n)), .val (.int (Int32.ofNat (ie - ib)))] [(.ref t)]))
    refine own_step (b := T5.setTop (mkF m 39 #[.val (.ref x), .val (.int (Int32.ofNat ib)), .val (.int (Int32.ofNat ie)), .val (.int (Int32.ofNat n)), .val (.int (Int32.ofNat (ie - ib)))] [(.int (Int32.ofNat ib)), (.ref t)])) (fun _ qk => XS.iloadN X5.here hx rfl (hb hby d8_38) rfl qk) ?_
    refine own_step (b := T5.setTop (mkF m 41 #[.val (.ref x), .val (.int (Int32.ofNat ib)), .val (.int (Int32.ofNat ie)), .val (.int (Int32.ofNat n)), .val (.int (Int32.ofNat (ie - ib)))] [(.int (Int32.ofNat (ie - ib))), (.int (Int32.ofNat ib)), (.ref t)])) (fun _ qk => XS.iload X5.here hx rfl (hb hby d8_39) rfl qk) ?_
    refine own_static (W := 0) (argsL := [(.ref t), (.int (Int32.ofNat ib)), (.int (Int32.ofNat (ie - ib)))]) (st := []) X5 hx hZ hown (own_w hw 95 rfl) (own_w hw 96 rfl) (own_w hw 84 rfl) (own_w hw 97 rfl) (by decide) e5 (own_back (W := 0) (rmNs l Z a0 hw [] t kt n ib (ie - ib) cs h0 Vt hv hp hn (by omega) (by omega) (fun q => hnot ⟨q.1, by omega⟩) OL0) hZ (own_w hw 97 rfl) (own_w hw 84 rfl) (by decide) (by decide)) (by decide) (by decide) (by rw [hml]; rfl) (lenOf pd9 rfl) rfl (Nat.le_of_ble_eq_true rfl) (hb hby d8_41) (fun v6 T6 L6 X6 hQ6 => ?_)
    obtain ⟨r6, rfl, M6, E6, SS6⟩ := hQ6
    show own_G p e below _ (T6.setTop (mkF m 44 #[.val (.ref x), .val (.int (Int32.ofNat ib)), .val (.int (Int32.ofNat ie)), .val (.int (Int32.ofNat n)), .val (.int (Int32.ofNat (ie - ib)))] [(.ref r6)]))
    refine own_step (b := T6.setTop (mkF m 57 #[.val (.ref x), .val (.int (Int32.ofNat ib)), .val (.int (Int32.ofNat ie)), .val (.int (Int32.ofNat n)), .val (.int (Int32.ofNat (ie - ib)))] [(.ref r6)])) (fun _ qk => XS.goto X6.here hx rfl (pc0 := 44) (pc' := 57) rfl (hb hby d8_44) (by decide) (by decide) qk) ?_
    exact own_retR X6 hx hret rfl rfl rfl hlk (hb hby d8_57) ⟨_, rfl, M6, E6, SS6⟩ (by decide) (by decide)
  · show own_G p e below _ (T2.setTop (mkF m 15 #[.val (.ref x), .val (.int (Int32.ofNat ib)), .val (.int (Int32.ofNat ie)), .val (.int (Int32.ofNat n)), .unset] []))
    refine own_step (b := T2.setTop (mkF m 16 #[.val (.ref x), .val (.int (Int32.ofNat ib)), .val (.int (Int32.ofNat ie)), .val (.int (Int32.ofNat n)), .unset] [(.int (Int32.ofNat ie))])) (fun _ qk => XS.iloadN X2.here hx rfl (hb hby d8_15) rfl qk) ?_
    refine own_step (b := T2.setTop (mkF m 17 #[.val (.ref x), .val (.int (Int32.ofNat ib)), .val (.int (Int32.ofNat ie)), .val (.int (Int32.ofNat n)), .unset] [(.int (Int32.ofNat n)), (.int (Int32.ofNat ie))])) (fun _ qk => XS.iloadN X2.here hx rfl (hb hby d8_16) rfl qk) ?_
    refine own_icmp_ne X2 hx (hb hby d8_17) (pc' := 22) (by decide) (by decide) (fun c17 => ?_) (fun c17 => absurd (And.intro ((own_ofNat_eq (n := 0) (by omega) (by decide)).mp c12) ((own_ofNat_eq (by omega) (by omega)).mp c17)) hnot)
    show own_G p e below _ (T2.setTop (mkF m 22 #[.val (.ref x), .val (.int (Int32.ofNat ib)), .val (.int (Int32.ofNat ie)), .val (.int (Int32.ofNat n)), .unset] []))
    refine own_step (b := T2.setTop (mkF m 23 #[.val (.ref x), .val (.int (Int32.ofNat ib)), .val (.int (Int32.ofNat ie)), .val (.int (Int32.ofNat n)), .unset] [(.int (Int32.ofNat ie))])) (fun _ qk => XS.iloadN X2.here hx rfl (hb hby d8_22) rfl qk) ?_
    refine own_step (b := T2.setTop (mkF m 24 #[.val (.ref x), .val (.int (Int32.ofNat ib)), .val (.int (Int32.ofNat ie)), .val (.int (Int32.ofNat n)), .unset] [(.int (Int32.ofNat ib)), (.int (Int32.ofNat ie))])) (fun _ qk => XS.iloadN X2.here hx rfl (hb hby d8_23) rfl qk) ?_
    refine own_step (b := T2.setTop (mkF m 25 #[.val (.ref x), .val (.int (Int32.ofNat ib)), .val (.int (Int32.ofNat ie)), .val (.int (Int32.ofNat n)), .unset] [(.int ((Int32.ofNat ie) - (Int32.ofNat ib)))])) (fun _ qk => XS.isub X2.here hx rfl (hb hby d8_24) rfl qk) ?_
    rw [own_ofNat_sub hbe (by omega)]
    show own_G p e below _ (T2.setTop (mkF m 25 #[.val (.ref x), .val (.int (Int32.ofNat ib)), .val (.int (Int32.ofNat ie)), .val (.int (Int32.ofNat n)), .unset] [(.int (Int32.ofNat (ie - ib)))]))
    refine own_step (b := T2.setTop (mkF m 27 #[.val (.ref x), .val (.int (Int32.ofNat ib)), .val (.int (Int32.ofNat ie)), .val (.int (Int32.ofNat n)), .val (.int (Int32.ofNat (ie - ib)))] [])) (fun _ qk => XS.istore X2.here hx rfl (hb hby d8_25) rfl (l' := #[.val (.ref x), .val (.int (Int32.ofNat ib)), .val (.int (Int32.ofNat ie)), .val (.int (Int32.ofNat n)), .val (.int (Int32.ofNat (ie - ib)))]) rfl qk) ?_
    refine own_step (b := T2.setTop (mkF m 28 #[.val (.ref x), .val (.int (Int32.ofNat ib)), .val (.int (Int32.ofNat ie)), .val (.int (Int32.ofNat n)), .val (.int (Int32.ofNat (ie - ib)))] [(.ref x)])) (fun _ qk => XS.aloadN X2.here hx rfl (hb hby d8_27) rfl rfl qk) ?_
    refine own_virtualP (a := x) (W := 0) (argsL := []) (st := []) X2 hx hZ hown (own_w hw 77 rfl) (own_w hw 78 rfl) (own_w hw 80 rfl) rfl (own_w hw 79 rfl) (by decide) e2 SS.1 (rmIsl l Z a0 hw [] x cs h0 SS OL0 G1 O2 P5 G3 O4 rG3) (own_w hw 81 rfl) (own_w hw 7 rfl) (by decide) (by decide) (by decide) (by decide) (by rw [hml]; rfl) (lenOf pd8 rfl) rfl (Nat.le_of_ble_eq_true rfl) (hb hby d8_28) (fun T7 X7 e7 => ?_)
    show own_G p e below _ (T7.setTop (mkF m 31 #[.val (.ref x), .val (.int (Int32.ofNat ib)), .val (.int (Int32.ofNat ie)), .val (.int (Int32.ofNat n)), .val (.int (Int32.ofNat (ie - ib)))] [(.int (1 : Int32))]))
    refine own_if_eq X7 hx (hb hby d8_31) (pc' := 47) (by decide) (by decide) (fun c31_8 => absurd c31_8 (by decide)) (fun c31_8 => ?_)
    show own_G p e below _ (T7.setTop (mkF m 34 #[.val (.ref x), .val (.int (Int32.ofNat ib)), .val (.int (Int32.ofNat ie)), .val (.int (Int32.ofNat n)), .val (.int (Int32.ofNat (ie - ib)))] []))
    refine own_step (b := T7.setTop (mkF m 35 #[.val (.ref x), .val (.int (Int32.ofNat ib)), .val (.int (Int32.ofNat ie)), .val (.int (Int32.ofNat n)), .val (.int (Int32.ofNat (ie - ib)))] [(.ref x)])) (fun _ qk => XS.aloadN X7.here hx rfl (hb hby d8_34) rfl rfl qk) ?_
    obtain ⟨-, hp, -, -, t, kt, Ft, Vt⟩ := id SS
    rw [hv] at Vt
    refine own_getF X7 hx hZ hown (own_w hw 24 rfl) e7 Ft (hb hby d8_35) (fun T9 X9 e9 => ?_)
    show own_G p e below _ (T9.setTop (mkF m 38 #[.val (.ref x), .val (.int (Int32.ofNat ib)), .val (.int (Int32.ofNat ie)), .val (.int (Int32.ofNat n)), .val (.int (Int32.ofNat (ie - ib)))] [(.ref t)]))
    refine own_step (b := T9.setTop (mkF m 39 #[.val (.ref x), .val (.int (Int32.ofNat ib)), .val (.int (Int32.ofNat ie)), .val (.int (Int32.ofNat n)), .val (.int (Int32.ofNat (ie - ib)))] [(.int (Int32.ofNat ib)), (.ref t)])) (fun _ qk => XS.iloadN X9.here hx rfl (hb hby d8_38) rfl qk) ?_
    refine own_step (b := T9.setTop (mkF m 41 #[.val (.ref x), .val (.int (Int32.ofNat ib)), .val (.int (Int32.ofNat ie)), .val (.int (Int32.ofNat n)), .val (.int (Int32.ofNat (ie - ib)))] [(.int (Int32.ofNat (ie - ib))), (.int (Int32.ofNat ib)), (.ref t)])) (fun _ qk => XS.iload X9.here hx rfl (hb hby d8_39) rfl qk) ?_
    refine own_static (W := 0) (argsL := [(.ref t), (.int (Int32.ofNat ib)), (.int (Int32.ofNat (ie - ib)))]) (st := []) X9 hx hZ hown (own_w hw 95 rfl) (own_w hw 96 rfl) (own_w hw 84 rfl) (own_w hw 97 rfl) (by decide) e9 (own_back (W := 0) (rmNs l Z a0 hw [] t kt n ib (ie - ib) cs h0 Vt hv hp hn (by omega) (by omega) (fun q => hnot ⟨q.1, by omega⟩) OL0) hZ (own_w hw 97 rfl) (own_w hw 84 rfl) (by decide) (by decide)) (by decide) (by decide) (by rw [hml]; rfl) (lenOf pd9 rfl) rfl (Nat.le_of_ble_eq_true rfl) (hb hby d8_41) (fun v10 T10 L10 X10 hQ10 => ?_)
    obtain ⟨r10, rfl, M10, E10, SS10⟩ := hQ10
    show own_G p e below _ (T10.setTop (mkF m 44 #[.val (.ref x), .val (.int (Int32.ofNat ib)), .val (.int (Int32.ofNat ie)), .val (.int (Int32.ofNat n)), .val (.int (Int32.ofNat (ie - ib)))] [(.ref r10)]))
    refine own_step (b := T10.setTop (mkF m 57 #[.val (.ref x), .val (.int (Int32.ofNat ib)), .val (.int (Int32.ofNat ie)), .val (.int (Int32.ofNat n)), .val (.int (Int32.ofNat (ie - ib)))] [(.ref r10)])) (fun _ qk => XS.goto X10.here hx rfl (pc0 := 44) (pc' := 57) rfl (hb hby d8_44) (by decide) (by decide) qk) ?_
    exact own_retR X10 hx hret rfl rfl rfl hlk (hb hby d8_57) ⟨_, rfl, M10, E10, SS10⟩ (by decide) (by decide)
set_option maxRecDepth 65536 in
set_option maxHeartbeats 40000000 in
theorem rmSubE (l : Launch) (Z : State) (a0 : Array Value) (hw : ∀ d ∈ tables_1, d.before a0 Z = true) (ws : List Jvm.Cond) (x : Addr) (n ib ie : Nat) (cs : List Int32) (h0 : Heap) (SS : own_Str Z h0 x cs) (hv : cs.length = n) (hn : n ≤ 4) (hbe : ib ≤ ie) (hen : ie ≤ n) (heq : ib = ie) (hnot : ¬ (ib = 0 ∧ ie = n)) (OL0 : Old Z Z.heap.size h0) (G1 : Int32) (O2 : Sta Z Z.heap "java/lang/String" "COMPACT_STRINGS" "Z" (.int G1)) (P5 : ¬ (G1 = (0 : Int32))) (G3 : Value) (O4 : Sta Z Z.heap "jdk/internal/util/Preconditions" "SIOOBE_FORMATTER" "Ljava/util/function/BiFunction;" G3) (rG3 : G3.isRef = true) (CH1 : Jvm.Lit.constHeld Z "java/lang/StringLatin1" 151) (HC : Jvm.Lit.compactW.before a0 Z = true) :
    own_MetI l Z (⟨"java/lang/String", "substring", "(II)Ljava/lang/String;"⟩ : MethodName) jdk_42_method_92_code 5 (some (.object "java/lang/String")) ws ⟨4, 2, 8, 106⟩ #[(.ref x), (.int (Int32.ofNat ib)), (.int (Int32.ofNat ie))] h0 (fun vm => IB Z vm []) (fun v vm h L => ∃ r : Addr, v = some (.ref r) ∧ Fr Z.heap.size L ∧ Ext h0 h ∧ own_Str Z h r []) := by
  refine own_enterI (plainFor_of_name pn0) (fun m => ef_sub m x (Int32.ofNat ib) (Int32.ofNat ie)) ?_
  intro p e s m below meth c T0 vm0 k0 hx hby hml hZ hown hnm hret hlk X0 e0 es0 hS hk hI
  show own_G p e below _ (T0.setTop (mkF m 0 #[.val (.ref x), .val (.int (Int32.ofNat ib)), .val (.int (Int32.ofNat ie)), .unset, .unset] []))
  refine own_step (b := T0.setTop (mkF m 1 #[.val (.ref x), .val (.int (Int32.ofNat ib)), .val (.int (Int32.ofNat ie)), .unset, .unset] [(.ref x)])) (fun _ qk => XS.aloadN X0.here hx rfl (hb hby d8_0) rfl rfl qk) ?_
  refine own_virtual (a := x) (W := 0) (argsL := []) (st := []) X0 hx hZ hown (own_w hw 46 rfl) (own_w hw 31 rfl) (own_w hw 33 rfl) rfl (own_w hw 32 rfl) (by decide) e0 SS.1 (own_lenB (W := 0) hZ hw (kI := 4) (own_w hw 6 rfl) SS O2 P5 OL0 (r := Int32.ofNat n) (by rw [hv]) (by decide) (by decide)) (by decide) (by decide) (by rw [hml]; rfl) (lenOf pd6 rfl) rfl (Nat.le_of_ble_eq_true rfl) (hb hby d8_1) (fun v1 T1 L1 X1 hQ1 => ?_)
  obtain ⟨rfl, rfl, hh1⟩ := hQ1
  rw [List.append_nil] at X1
  show own_G p e below _ (T1.setTop (mkF m 4 #[.val (.ref x), .val (.int (Int32.ofNat ib)), .val (.int (Int32.ofNat ie)), .unset, .unset] [(.int (Int32.ofNat n))]))
  refine own_step (b := T1.setTop (mkF m 5 #[.val (.ref x), .val (.int (Int32.ofNat ib)), .val (.int (Int32.ofNat ie)), .val (.int (Int32.ofNat n)), .unset] [])) (fun _ qk => XS.istoreN X1.here hx rfl (hb hby d8_4) rfl (l' := #[.val (.ref x), .val (.int (Int32.ofNat ib)), .val (.int (Int32.ofNat ie)), .val (.int (Int32.ofNat n)), .unset]) rfl qk) ?_
  refine own_step (b := T1.setTop (mkF m 6 #[.val (.ref x), .val (.int (Int32.ofNat ib)), .val (.int (Int32.ofNat ie)), .val (.int (Int32.ofNat n)), .unset] [(.int (Int32.ofNat ib))])) (fun _ qk => XS.iloadN X1.here hx rfl (hb hby d8_5) rfl qk) ?_
  refine own_step (b := T1.setTop (mkF m 7 #[.val (.ref x), .val (.int (Int32.ofNat ib)), .val (.int (Int32.ofNat ie)), .val (.int (Int32.ofNat n)), .unset] [(.int (Int32.ofNat ie)), (.int (Int32.ofNat ib))])) (fun _ qk => XS.iloadN X1.here hx rfl (hb hby d8_6) rfl qk) ?_
  refine own_step (b := T1.setTop (mkF m 8 #[.val (.ref x), .val (.int (Int32.ofNat ib)), .val (.int (Int32.ofNat ie)), .val (.int (Int32.ofNat n)), .unset] [(.int (Int32.ofNat n)), (.int (Int32.ofNat ie)), (.int (Int32.ofNat ib))])) (fun _ qk => XS.iloadN X1.here hx rfl (hb hby d8_7) rfl qk) ?_
  refine own_staticP (W := 0) (argsL := [(.int (Int32.ofNat ib)), (.int (Int32.ofNat ie)), (.int (Int32.ofNat n))]) (st := []) X1 hx hZ hown (own_w hw 47 rfl) (own_w hw 48 rfl) (own_w hw 7 rfl) (own_w hw 49 rfl) (by decide) hh1 (rmCbe l Z a0 hw [] (Int32.ofNat ib) (Int32.ofNat ie) (Int32.ofNat n) h0 (own_nn (by omega)) (by rw [own_ofNat_lt (by omega) (by omega)]; omega) (by rw [own_ofNat_lt (by omega) (by omega)]; omega) OL0 G1 O2 P5 G3 O4 rG3) (by decide) (by decide) (by decide) (by decide) (by rw [hml]; rfl) (lenOf pd7 rfl) rfl (Nat.le_of_ble_eq_true rfl) (hb hby d8_8) (fun T2 X2 e2 => ?_)
  show own_G p e below _ (T2.setTop (mkF m 11 #[.val (.ref x), .val (.int (Int32.ofNat ib)), .val (.int (Int32.ofNat ie)), .val (.int (Int32.ofNat n)), .unset] []))
  refine own_step (b := T2.setTop (mkF m 12 #[.val (.ref x), .val (.int (Int32.ofNat ib)), .val (.int (Int32.ofNat ie)), .val (.int (Int32.ofNat n)), .unset] [(.int (Int32.ofNat ib))])) (fun _ qk => XS.iloadN X2.here hx rfl (hb hby d8_11) rfl qk) ?_
  refine own_if_ne X2 hx (hb hby d8_12) (pc' := 22) (by decide) (by decide) (fun c12 => ?_) (fun c12 => ?_)
  · show own_G p e below _ (T2.setTop (mkF m 22 #[.val (.ref x), .val (.int (Int32.ofNat ib)), .val (.int (Int32.ofNat ie)), .val (.int (Int32.ofNat n)), .unset] []))
    refine own_step (b := T2.setTop (mkF m 23 #[.val (.ref x), .val (.int (Int32.ofNat ib)), .val (.int (Int32.ofNat ie)), .val (.int (Int32.ofNat n)), .unset] [(.int (Int32.ofNat ie))])) (fun _ qk => XS.iloadN X2.here hx rfl (hb hby d8_22) rfl qk) ?_
    refine own_step (b := T2.setTop (mkF m 24 #[.val (.ref x), .val (.int (Int32.ofNat ib)), .val (.int (Int32.ofNat ie)), .val (.int (Int32.ofNat n)), .unset] [(.int (Int32.ofNat ib)), (.int (Int32.ofNat ie))])) (fun _ qk => XS.iloadN X2.here hx rfl (hb hby d8_23) rfl qk) ?_
    refine own_step (b := T2.setTop (mkF m 25 #[.val (.ref x), .val (.int (Int32.ofNat ib)), .val (.int (Int32.ofNat ie)), .val (.int (Int32.ofNat n)), .unset] [(.int ((Int32.ofNat ie) - (Int32.ofNat ib)))])) (fun _ qk => XS.isub X2.here hx rfl (hb hby d8_24) rfl qk) ?_
    rw [own_ofNat_sub hbe (by omega)]
    show own_G p e below _ (T2.setTop (mkF m 25 #[.val (.ref x), .val (.int (Int32.ofNat ib)), .val (.int (Int32.ofNat ie)), .val (.int (Int32.ofNat n)), .unset] [(.int (Int32.ofNat (ie - ib)))]))
    refine own_step (b := T2.setTop (mkF m 27 #[.val (.ref x), .val (.int (Int32.ofNat ib)), .val (.int (Int32.ofNat ie)), .val (.int (Int32.ofNat n)), .val (.int (Int32.ofNat (ie - ib)))] [])) (fun _ qk => XS.istore X2.here hx rfl (hb hby d8_25) rfl (l' := #[.val (.ref x), .val (.int (Int32.ofNat ib)), .val (.int (Int32.ofNat ie)), .val (.int (Int32.ofNat n)), .val (.int (Int32.ofNat (ie - ib)))]) rfl qk) ?_
    refine own_step (b := T2.setTop (mkF m 28 #[.val (.ref x), .val (.int (Int32.ofNat ib)), .val (.int (Int32.ofNat ie)), .val (.int (Int32.ofNat n)), .val (.int (Int32.ofNat (ie - ib)))] [(.ref x)])) (fun _ qk => XS.aloadN X2.here hx rfl (hb hby d8_27) rfl rfl qk) ?_
    refine own_virtualP (a := x) (W := 0) (argsL := []) (st := []) X2 hx hZ hown (own_w hw 77 rfl) (own_w hw 78 rfl) (own_w hw 80 rfl) rfl (own_w hw 79 rfl) (by decide) e2 SS.1 (rmIsl l Z a0 hw [] x cs h0 SS OL0 G1 O2 P5 G3 O4 rG3) (own_w hw 81 rfl) (own_w hw 7 rfl) (by decide) (by decide) (by decide) (by decide) (by rw [hml]; rfl) (lenOf pd8 rfl) rfl (Nat.le_of_ble_eq_true rfl) (hb hby d8_28) (fun T3 X3 e3 => ?_)
    show own_G p e below _ (T3.setTop (mkF m 31 #[.val (.ref x), .val (.int (Int32.ofNat ib)), .val (.int (Int32.ofNat ie)), .val (.int (Int32.ofNat n)), .val (.int (Int32.ofNat (ie - ib)))] [(.int (1 : Int32))]))
    refine own_if_eq X3 hx (hb hby d8_31) (pc' := 47) (by decide) (by decide) (fun c31_4 => absurd c31_4 (by decide)) (fun c31_4 => ?_)
    show own_G p e below _ (T3.setTop (mkF m 34 #[.val (.ref x), .val (.int (Int32.ofNat ib)), .val (.int (Int32.ofNat ie)), .val (.int (Int32.ofNat n)), .val (.int (Int32.ofNat (ie - ib)))] []))
    refine own_step (b := T3.setTop (mkF m 35 #[.val (.ref x), .val (.int (Int32.ofNat ib)), .val (.int (Int32.ofNat ie)), .val (.int (Int32.ofNat n)), .val (.int (Int32.ofNat (ie - ib)))] [(.ref x)])) (fun _ qk => XS.aloadN X3.here hx rfl (hb hby d8_34) rfl rfl qk) ?_
    obtain ⟨-, hp, -, -, t, kt, Ft, Vt⟩ := id SS
    rw [hv] at Vt
    refine own_getF X3 hx hZ hown (own_w hw 24 rfl) e3 Ft (hb hby d8_35) (fun T5 X5 e5 => ?_)
    show own_G p e below _ (T5.setTop (mkF m 38 #[.val (.ref x), .val (.int (Int32.ofNat ib)), .val (.int (Int32.ofNat ie)), .val (.int (Int32.ofNat n)), .val (.int (Int32.ofNat (ie - ib)))] [(.ref t)]))
    refine own_step (b := T5.setTop (mkF m 39 #[.val (.ref x), .val (.int (Int32.ofNat ib)), .val (.int (Int32.ofNat ie)), .val (.int (Int32.ofNat n)), .val (.int (Int32.ofNat (ie - ib)))] [(.int (Int32.ofNat ib)), (.ref t)])) (fun _ qk => XS.iloadN X5.here hx rfl (hb hby d8_38) rfl qk) ?_
    refine own_step (b := T5.setTop (mkF m 41 #[.val (.ref x), .val (.int (Int32.ofNat ib)), .val (.int (Int32.ofNat ie)), .val (.int (Int32.ofNat n)), .val (.int (Int32.ofNat (ie - ib)))] [(.int (Int32.ofNat (ie - ib))), (.int (Int32.ofNat ib)), (.ref t)])) (fun _ qk => XS.iload X5.here hx rfl (hb hby d8_39) rfl qk) ?_
    rw [show ie - ib = 0 by omega]
    show own_G p e below _ (T5.setTop (mkF m 41 #[.val (.ref x), .val (.int (Int32.ofNat ib)), .val (.int (Int32.ofNat ie)), .val (.int (Int32.ofNat n)), .val (.int (0 : Int32))] [(.int (0 : Int32)), (.int (Int32.ofNat ib)), (.ref t)]))
    refine own_staticI (W := 0) (argsL := [(.ref t), (.int (Int32.ofNat ib)), (.int (0 : Int32))]) (st := []) X5 hx hZ hown (own_w hw 95 rfl) (own_w hw 96 rfl) (own_w hw 84 rfl) (own_w hw 97 rfl) (by decide) e5 hS (by omega) (rmNse l Z a0 hw [] t (Int32.ofNat ib) h0 OL0 CH1 HC) (fun _ hW => own_IBw hI hW) (by decide) (by decide) (by decide) (by decide) (by rw [hml]; rfl) (lenOf pd9 rfl) rfl (Nat.le_of_ble_eq_true rfl) (hb hby d8_41) (fun v6 T6 L6 vm6 k6 X6 ev6 z6 hS hk hZ hown hQ6 => ?_)
    obtain ⟨r6, rfl, M6, E6, SS6⟩ := hQ6
    show own_G p e below _ (T6.setTop (mkF m 44 #[.val (.ref x), .val (.int (Int32.ofNat ib)), .val (.int (Int32.ofNat ie)), .val (.int (Int32.ofNat n)), .val (.int (0 : Int32))] [(.ref r6)]))
    refine own_step (b := T6.setTop (mkF m 57 #[.val (.ref x), .val (.int (Int32.ofNat ib)), .val (.int (Int32.ofNat ie)), .val (.int (Int32.ofNat n)), .val (.int (0 : Int32))] [(.ref r6)])) (fun _ qk => XS.goto X6.here hx rfl (pc0 := 44) (pc' := 57) rfl (hb hby d8_44) (by decide) (by decide) qk) ?_
    exact own_retXR X6 hx hS (by omega) hret rfl rfl rfl hlk (hb hby d8_57) ⟨_, rfl, M6, E6, SS6⟩ (by decide) (by decide)
  · show own_G p e below _ (T2.setTop (mkF m 15 #[.val (.ref x), .val (.int (Int32.ofNat ib)), .val (.int (Int32.ofNat ie)), .val (.int (Int32.ofNat n)), .unset] []))
    refine own_step (b := T2.setTop (mkF m 16 #[.val (.ref x), .val (.int (Int32.ofNat ib)), .val (.int (Int32.ofNat ie)), .val (.int (Int32.ofNat n)), .unset] [(.int (Int32.ofNat ie))])) (fun _ qk => XS.iloadN X2.here hx rfl (hb hby d8_15) rfl qk) ?_
    refine own_step (b := T2.setTop (mkF m 17 #[.val (.ref x), .val (.int (Int32.ofNat ib)), .val (.int (Int32.ofNat ie)), .val (.int (Int32.ofNat n)), .unset] [(.int (Int32.ofNat n)), (.int (Int32.ofNat ie))])) (fun _ qk => XS.iloadN X2.here hx rfl (hb hby d8_16) rfl qk) ?_
    refine own_icmp_ne X2 hx (hb hby d8_17) (pc' := 22) (by decide) (by decide) (fun c17 => ?_) (fun c17 => absurd (And.intro ((own_ofNat_eq (n := 0) (by omega) (by decide)).mp c12) ((own_ofNat_eq (by omega) (by omega)).mp c17)) hnot)
    show own_G p e below _ (T2.setTop (mkF m 22 #[.val (.ref x), .val (.int (Int32.ofNat ib)), .val (.int (Int32.ofNat ie)), .val (.int (Int32.ofNat n)), .unset] []))
    refine own_step (b := T2.setTop (mkF m 23 #[.val (.ref x), .val (.int (Int32.ofNat ib)), .val (.int (Int32.ofNat ie)), .val (.int (Int32.ofNat n)), .unset] [(.int (Int32.ofNat ie))])) (fun _ qk => XS.iloadN X2.here hx rfl (hb hby d8_22) rfl qk) ?_
    refine own_step (b := T2.setTop (mkF m 24 #[.val (.ref x), .val (.int (Int32.ofNat ib)), .val (.int (Int32.ofNat ie)), .val (.int (Int32.ofNat n)), .unset] [(.int (Int32.ofNat ib)), (.int (Int32.ofNat ie))])) (fun _ qk => XS.iloadN X2.here hx rfl (hb hby d8_23) rfl qk) ?_
    refine own_step (b := T2.setTop (mkF m 25 #[.val (.ref x), .val (.int (Int32.ofNat ib)), .val (.int (Int32.ofNat ie)), .val (.int (Int32.ofNat n)), .unset] [(.int ((Int32.ofNat ie) - (Int32.ofNat ib)))])) (fun _ qk => XS.isub X2.here hx rfl (hb hby d8_24) rfl qk) ?_
    rw [own_ofNat_sub hbe (by omega)]
    show own_G p e below _ (T2.setTop (mkF m 25 #[.val (.ref x), .val (.int (Int32.ofNat ib)), .val (.int (Int32.ofNat ie)), .val (.int (Int32.ofNat n)), .unset] [(.int (Int32.ofNat (ie - ib)))]))
    refine own_step (b := T2.setTop (mkF m 27 #[.val (.ref x), .val (.int (Int32.ofNat ib)), .val (.int (Int32.ofNat ie)), .val (.int (Int32.ofNat n)), .val (.int (Int32.ofNat (ie - ib)))] [])) (fun _ qk => XS.istore X2.here hx rfl (hb hby d8_25) rfl (l' := #[.val (.ref x), .val (.int (Int32.ofNat ib)), .val (.int (Int32.ofNat ie)), .val (.int (Int32.ofNat n)), .val (.int (Int32.ofNat (ie - ib)))]) rfl qk) ?_
    refine own_step (b := T2.setTop (mkF m 28 #[.val (.ref x), .val (.int (Int32.ofNat ib)), .val (.int (Int32.ofNat ie)), .val (.int (Int32.ofNat n)), .val (.int (Int32.ofNat (ie - ib)))] [(.ref x)])) (fun _ qk => XS.aloadN X2.here hx rfl (hb hby d8_27) rfl rfl qk) ?_
    refine own_virtualP (a := x) (W := 0) (argsL := []) (st := []) X2 hx hZ hown (own_w hw 77 rfl) (own_w hw 78 rfl) (own_w hw 80 rfl) rfl (own_w hw 79 rfl) (by decide) e2 SS.1 (rmIsl l Z a0 hw [] x cs h0 SS OL0 G1 O2 P5 G3 O4 rG3) (own_w hw 81 rfl) (own_w hw 7 rfl) (by decide) (by decide) (by decide) (by decide) (by rw [hml]; rfl) (lenOf pd8 rfl) rfl (Nat.le_of_ble_eq_true rfl) (hb hby d8_28) (fun T7 X7 e7 => ?_)
    show own_G p e below _ (T7.setTop (mkF m 31 #[.val (.ref x), .val (.int (Int32.ofNat ib)), .val (.int (Int32.ofNat ie)), .val (.int (Int32.ofNat n)), .val (.int (Int32.ofNat (ie - ib)))] [(.int (1 : Int32))]))
    refine own_if_eq X7 hx (hb hby d8_31) (pc' := 47) (by decide) (by decide) (fun c31_8 => absurd c31_8 (by decide)) (fun c31_8 => ?_)
    show own_G p e below _ (T7.setTop (mkF m 34 #[.val (.ref x), .val (.int (Int32.ofNat ib)), .val (.int (Int32.ofNat ie)), .val (.int (Int32.ofNat n)), .val (.int (Int32.ofNat (ie - ib)))] []))
    refine own_step (b := T7.setTop (mkF m 35 #[.val (.ref x), .val (.int (Int32.ofNat ib)), .val (.int (Int32.ofNat ie)), .val (.int (Int32.ofNat n)), .val (.int (Int32.ofNat (ie - ib)))] [(.ref x)])) (fun _ qk => XS.aloadN X7.here hx rfl (hb hby d8_34) rfl rfl qk) ?_
    obtain ⟨-, hp, -, -, t, kt, Ft, Vt⟩ := id SS
    rw [hv] at Vt
    refine own_getF X7 hx hZ hown (own_w hw 24 rfl) e7 Ft (hb hby d8_35) (fun T9 X9 e9 => ?_)
    show own_G p e below _ (T9.setTop (mkF m 38 #[.val (.ref x), .val (.int (Int32.ofNat ib)), .val (.int (Int32.ofNat ie)), .val (.int (Int32.ofNat n)), .val (.int (Int32.ofNat (ie - ib)))] [(.ref t)]))
    refine own_step (b := T9.setTop (mkF m 39 #[.val (.ref x), .val (.int (Int32.ofNat ib)), .val (.int (Int32.ofNat ie)), .val (.int (Int32.ofNat n)), .val (.int (Int32.ofNat (ie - ib)))] [(.int (Int32.ofNat ib)), (.ref t)])) (fun _ qk => XS.iloadN X9.here hx rfl (hb hby d8_38) rfl qk) ?_
    refine own_step (b := T9.setTop (mkF m 41 #[.val (.ref x), .val (.int (Int32.ofNat ib)), .val (.int (Int32.ofNat ie)), .val (.int (Int32.ofNat n)), .val (.int (Int32.ofNat (ie - ib)))] [(.int (Int32.ofNat (ie - ib))), (.int (Int32.ofNat ib)), (.ref t)])) (fun _ qk => XS.iload X9.here hx rfl (hb hby d8_39) rfl qk) ?_
    rw [show ie - ib = 0 by omega]
    show own_G p e below _ (T9.setTop (mkF m 41 #[.val (.ref x), .val (.int (Int32.ofNat ib)), .val (.int (Int32.ofNat ie)), .val (.int (Int32.ofNat n)), .val (.int (0 : Int32))] [(.int (0 : Int32)), (.int (Int32.ofNat ib)), (.ref t)]))
    refine own_staticI (W := 0) (argsL := [(.ref t), (.int (Int32.ofNat ib)), (.int (0 : Int32))]) (st := []) X9 hx hZ hown (own_w hw 95 rfl) (own_w hw 96 rfl) (own_w hw 84 rfl) (own_w hw 97 rfl) (by decide) e9 hS (by omega) (rmNse l Z a0 hw [] t (Int32.ofNat ib) h0 OL0 CH1 HC) (fun _ hW => own_IBw hI hW) (by decide) (by decide) (by decide) (by decide) (by rw [hml]; rfl) (lenOf pd9 rfl) rfl (Nat.le_of_ble_eq_true rfl) (hb hby d8_41) (fun v10 T10 L10 vm10 k10 X10 ev10 z10 hS hk hZ hown hQ10 => ?_)
    obtain ⟨r10, rfl, M10, E10, SS10⟩ := hQ10
    show own_G p e below _ (T10.setTop (mkF m 44 #[.val (.ref x), .val (.int (Int32.ofNat ib)), .val (.int (Int32.ofNat ie)), .val (.int (Int32.ofNat n)), .val (.int (0 : Int32))] [(.ref r10)]))
    refine own_step (b := T10.setTop (mkF m 57 #[.val (.ref x), .val (.int (Int32.ofNat ib)), .val (.int (Int32.ofNat ie)), .val (.int (Int32.ofNat n)), .val (.int (0 : Int32))] [(.ref r10)])) (fun _ qk => XS.goto X10.here hx rfl (pc0 := 44) (pc' := 57) rfl (hb hby d8_44) (by decide) (by decide) qk) ?_
    exact own_retXR X10 hx hS (by omega) hret rfl rfl rfl hlk (hb hby d8_57) ⟨_, rfl, M10, E10, SS10⟩ (by decide) (by decide)
theorem ef_isb (m : MethodId) (x : Int32) : entryFrame m #[(.int x)] 1 = mkF m 0 #[.val (.int x)] [] := by first | (simp [entryFrame, mkF, argsToLocals, Value.category, maxLocals]; done) | rfl
set_option maxRecDepth 65536 in
set_option maxHeartbeats 40000000 in
theorem rmIsb (l : Launch) (Z : State) (a0 : Array Value) (hw : ∀ d ∈ tables_1, d.before a0 Z = true) (ws : List Jvm.Cond) (x : Int32) (h0 : Heap) :
    own_Met l Z (⟨"com/example/pennant/pennant/Trl", "isBlank", "(C)Z"⟩ : MethodName) prog_78_method_10_code 1 (some .boolean) ws ⟨0, 0, 0, 0⟩ #[(.int x)] h0 (own_P (some (.int (own_bi (own_bl x)))) h0) := by
  refine own_enter (plainFor_of_name pn4) (fun m => ef_isb m x) ?_
  intro p e s m below meth c T0 hx hby hml hZ hown hnm hret hlk X0 e0
  show own_G p e below _ (T0.setTop (mkF m 0 #[.val (.int x)] []))
  refine own_step (b := T0.setTop (mkF m 1 #[.val (.int x)] [(.int x)])) (fun _ qk => XS.iloadN X0.here hx rfl (hb hby d21_0) rfl qk) ?_
  refine own_step (b := T0.setTop (mkF m 3 #[.val (.int x)] [(.int (32 : Int32)), (.int x)])) (fun _ qk => XS.bipush X0.here hx rfl (hb hby d21_1) qk) ?_
  refine own_icmp_eq X0 hx (hb hby d21_3) (pc' := 12) (by decide) (by decide) (fun c3_1 => ?_) (fun c3_1 => ?_)
  · show own_G p e below _ (T0.setTop (mkF m 12 #[.val (.int x)] []))
    refine own_step (b := T0.setTop (mkF m 13 #[.val (.int x)] [(.int (1 : Int32))])) (fun _ qk => XS.iconst X0.here hx rfl (hb hby d21_12) qk) ?_
    refine own_step (b := T0.setTop (mkF m 17 #[.val (.int x)] [(.int (1 : Int32))])) (fun _ qk => XS.goto X0.here hx rfl (pc0 := 13) (pc' := 17) rfl (hb hby d21_13) (by decide) (by decide) qk) ?_
    exact own_retN X0 hx hret (by simp) hlk (hb hby d21_17) ⟨by rw [show own_bl x = true by simp [c3_1, own_bl]]; rfl, rfl, e0⟩ (by decide) (by decide)
  · show own_G p e below _ (T0.setTop (mkF m 6 #[.val (.int x)] []))
    refine own_step (b := T0.setTop (mkF m 7 #[.val (.int x)] [(.int x)])) (fun _ qk => XS.iloadN X0.here hx rfl (hb hby d21_6) rfl qk) ?_
    refine own_step (b := T0.setTop (mkF m 9 #[.val (.int x)] [(.int (9 : Int32)), (.int x)])) (fun _ qk => XS.bipush X0.here hx rfl (hb hby d21_7) qk) ?_
    refine own_icmp_ne X0 hx (hb hby d21_9) (pc' := 16) (by decide) (by decide) (fun c9_2 => ?_) (fun c9_2 => ?_)
    · show own_G p e below _ (T0.setTop (mkF m 16 #[.val (.int x)] []))
      refine own_step (b := T0.setTop (mkF m 17 #[.val (.int x)] [(.int (0 : Int32))])) (fun _ qk => XS.iconst X0.here hx rfl (hb hby d21_16) qk) ?_
      exact own_retN X0 hx hret (by simp) hlk (hb hby d21_17) ⟨by rw [show own_bl x = false by simp [c3_1, c9_2, own_bl]]; rfl, rfl, e0⟩ (by decide) (by decide)
    · show own_G p e below _ (T0.setTop (mkF m 12 #[.val (.int x)] []))
      refine own_step (b := T0.setTop (mkF m 13 #[.val (.int x)] [(.int (1 : Int32))])) (fun _ qk => XS.iconst X0.here hx rfl (hb hby d21_12) qk) ?_
      refine own_step (b := T0.setTop (mkF m 17 #[.val (.int x)] [(.int (1 : Int32))])) (fun _ qk => XS.goto X0.here hx rfl (pc0 := 13) (pc' := 17) rfl (hb hby d21_13) (by decide) (by decide) qk) ?_
      exact own_retN X0 hx hret (by simp) hlk (hb hby d21_17) ⟨by rw [show own_bl x = true by simp [c3_1, c9_2, own_bl]]; rfl, rfl, e0⟩ (by decide) (by decide)
theorem ef_strip (m : MethodId) (x : Addr) : entryFrame m #[(.ref x)] 3 = mkF m 0 #[.val (.ref x), .unset, .unset] [] := by first | (simp [entryFrame, mkF, argsToLocals, Value.category, maxLocals]; done) | rfl
set_option maxRecDepth 65536 in
set_option maxHeartbeats 40000000 in
theorem rmStrip0 (l : Launch) (Z : State) (a0 : Array Value) (hw : ∀ d ∈ tables_1, d.before a0 Z = true) (ws : List Jvm.Cond) (x : Addr) (h0 : Heap) (SS : own_Str Z h0 x []) (OL0 : Old Z Z.heap.size h0) (G1 : Int32) (O2 : Sta Z Z.heap "java/lang/String" "COMPACT_STRINGS" "Z" (.int G1)) (P5 : ¬ (G1 = (0 : Int32))) (G3 : Value) (O4 : Sta Z Z.heap "jdk/internal/util/Preconditions" "SIOOBE_FORMATTER" "Ljava/util/function/BiFunction;" G3) (rG3 : G3.isRef = true) :
    own_Met l Z (⟨"com/example/pennant/pennant/Trl", "stripBlanks", "(Ljava/lang/String;)Ljava/lang/String;"⟩ : MethodName) prog_78_method_9_code 3 (some (.object "java/lang/String")) ws ⟨5, 0, 0, 122⟩ #[(.ref x)] h0 (own_P (some (.ref x)) h0) := by
  refine own_enter (plainFor_of_name pn4) (fun m => ef_strip m x) ?_
  intro p e s m below meth c T0 hx hby hml hZ hown hnm hret hlk X0 e0
  show own_G p e below _ (T0.setTop (mkF m 0 #[.val (.ref x), .unset, .unset] []))
  refine own_step (b := T0.setTop (mkF m 1 #[.val (.ref x), .unset, .unset] [(.int (0 : Int32))])) (fun _ qk => XS.iconst X0.here hx rfl (hb hby d5_0) qk) ?_
  refine own_step (b := T0.setTop (mkF m 2 #[.val (.ref x), .val (.int (0 : Int32)), .unset] [])) (fun _ qk => XS.istoreN X0.here hx rfl (hb hby d5_1) rfl (l' := #[.val (.ref x), .val (.int (0 : Int32)), .unset]) rfl qk) ?_
  refine own_step (b := T0.setTop (mkF m 3 #[.val (.ref x), .val (.int (0 : Int32)), .unset] [(.ref x)])) (fun _ qk => XS.aloadN X0.here hx rfl (hb hby d5_2) rfl rfl qk) ?_
  refine own_virtual (a := x) (W := 0) (argsL := []) (st := []) X0 hx hZ hown (own_w hw 30 rfl) (own_w hw 31 rfl) (own_w hw 33 rfl) rfl (own_w hw 32 rfl) (by decide) e0 SS.1 (own_lenB (W := 0) hZ hw (kI := 4) (own_w hw 6 rfl) SS O2 P5 OL0 (r := (0 : Int32)) rfl (by decide) (by decide)) (by decide) (by decide) (by rw [hml]; rfl) (lenOf pd6 rfl) rfl (Nat.le_of_ble_eq_true rfl) (hb hby d5_3) (fun v1 T1 L1 X1 hQ1 => ?_)
  obtain ⟨rfl, rfl, hh1⟩ := hQ1
  rw [List.append_nil] at X1
  show own_G p e below _ (T1.setTop (mkF m 6 #[.val (.ref x), .val (.int (0 : Int32)), .unset] [(.int (0 : Int32))]))
  refine own_step (b := T1.setTop (mkF m 7 #[.val (.ref x), .val (.int (0 : Int32)), .val (.int (0 : Int32))] [])) (fun _ qk => XS.istoreN X1.here hx rfl (hb hby d5_6) rfl (l' := #[.val (.ref x), .val (.int (0 : Int32)), .val (.int (0 : Int32))]) rfl qk) ?_
  refine own_step (b := T1.setTop (mkF m 8 #[.val (.ref x), .val (.int (0 : Int32)), .val (.int (0 : Int32))] [(.int (0 : Int32))])) (fun _ qk => XS.iloadN X1.here hx rfl (hb hby d5_7) rfl qk) ?_
  refine own_step (b := T1.setTop (mkF m 9 #[.val (.ref x), .val (.int (0 : Int32)), .val (.int (0 : Int32))] [(.int (0 : Int32)), (.int (0 : Int32))])) (fun _ qk => XS.iloadN X1.here hx rfl (hb hby d5_8) rfl qk) ?_
  refine own_icmp_ge X1 hx (hb hby d5_9) (pc' := 29) (by decide) (by decide) (fun c9_2 => ?_) (fun c9_2 => absurd c9_2 (by decide))
  show own_G p e below _ (T1.setTop (mkF m 29 #[.val (.ref x), .val (.int (0 : Int32)), .val (.int (0 : Int32))] []))
  refine own_step (b := T1.setTop (mkF m 30 #[.val (.ref x), .val (.int (0 : Int32)), .val (.int (0 : Int32))] [(.int (0 : Int32))])) (fun _ qk => XS.iloadN X1.here hx rfl (hb hby d5_29) rfl qk) ?_
  refine own_step (b := T1.setTop (mkF m 31 #[.val (.ref x), .val (.int (0 : Int32)), .val (.int (0 : Int32))] [(.int (0 : Int32)), (.int (0 : Int32))])) (fun _ qk => XS.iloadN X1.here hx rfl (hb hby d5_30) rfl qk) ?_
  refine own_icmp_le X1 hx (hb hby d5_31) (pc' := 53) (by decide) (by decide) (fun c31_3 => ?_) (fun c31_3 => absurd c31_3 (by decide))
  show own_G p e below _ (T1.setTop (mkF m 53 #[.val (.ref x), .val (.int (0 : Int32)), .val (.int (0 : Int32))] []))
  refine own_step (b := T1.setTop (mkF m 54 #[.val (.ref x), .val (.int (0 : Int32)), .val (.int (0 : Int32))] [(.ref x)])) (fun _ qk => XS.aloadN X1.here hx rfl (hb hby d5_53) rfl rfl qk) ?_
  refine own_step (b := T1.setTop (mkF m 55 #[.val (.ref x), .val (.int (0 : Int32)), .val (.int (0 : Int32))] [(.int (0 : Int32)), (.ref x)])) (fun _ qk => XS.iloadN X1.here hx rfl (hb hby d5_54) rfl qk) ?_
  refine own_step (b := T1.setTop (mkF m 56 #[.val (.ref x), .val (.int (0 : Int32)), .val (.int (0 : Int32))] [(.int (0 : Int32)), (.int (0 : Int32)), (.ref x)])) (fun _ qk => XS.iloadN X1.here hx rfl (hb hby d5_55) rfl qk) ?_
  have hs4 : own_strip [] = [] := by simp [own_strip, List.dropWhile, ]
  refine own_virtualP (a := x) (W := 0) (argsL := [(.int (0 : Int32)), (.int (0 : Int32))]) (st := []) X1 hx hZ hown (own_w hw 41 rfl) (own_w hw 42 rfl) (own_w hw 44 rfl) rfl (own_w hw 43 rfl) (by decide) hh1 SS.1 (rmSubT l Z a0 hw [] x 0 0 0 [] h0 SS rfl (by decide) (by decide) (by decide) ⟨rfl, rfl⟩ OL0 G1 O2 P5 G3 O4 rG3) (own_w hw 45 rfl) (own_w hw 7 rfl) (by decide) (by decide) (by decide) (by decide) (by rw [hml]; rfl) (lenOf pd10 rfl) rfl (Nat.le_of_ble_eq_true rfl) (hb hby d5_56) (fun T5 X5 e5 => ?_)
  show own_G p e below _ (T5.setTop (mkF m 59 #[.val (.ref x), .val (.int (0 : Int32)), .val (.int (0 : Int32))] [(.ref x)]))
  exact own_retR X5 hx hret rfl rfl rfl hlk (hb hby d5_59) ⟨rfl, rfl, e5⟩ (by decide) (by decide)
set_option maxRecDepth 65536 in
set_option maxHeartbeats 40000000 in
theorem rmStrip1 (l : Launch) (Z : State) (a0 : Array Value) (hw : ∀ d ∈ tables_1, d.before a0 Z = true) (ws : List Jvm.Cond) (x : Addr) (c0 : Int32) (h0 : Heap) (SS : own_Str Z h0 x [c0]) (OL0 : Old Z Z.heap.size h0) (G1 : Int32) (O2 : Sta Z Z.heap "java/lang/String" "COMPACT_STRINGS" "Z" (.int G1)) (P5 : ¬ (G1 = (0 : Int32))) (G3 : Value) (O4 : Sta Z Z.heap "jdk/internal/util/Preconditions" "SIOOBE_FORMATTER" "Ljava/util/function/BiFunction;" G3) (rG3 : G3.isRef = true) (CH1 : Jvm.Lit.constHeld Z "java/lang/StringLatin1" 151) (HC : Jvm.Lit.compactW.before a0 Z = true) :
    own_MetI l Z (⟨"com/example/pennant/pennant/Trl", "stripBlanks", "(Ljava/lang/String;)Ljava/lang/String;"⟩ : MethodName) prog_78_method_9_code 3 (some (.object "java/lang/String")) ws ⟨5, 2, 8, 122⟩ #[(.ref x)] h0 (fun vm => IB Z vm []) (fun v vm h L => ∃ r : Addr, v = some (.ref r) ∧ Fr Z.heap.size L ∧ Ext h0 h ∧ own_Str Z h r (own_strip [c0])) := by
  refine own_enterI (plainFor_of_name pn4) (fun m => ef_strip m x) ?_
  intro p e s m below meth c T0 vm0 k0 hx hby hml hZ hown hnm hret hlk X0 e0 es0 hS hk hI
  show own_G p e below _ (T0.setTop (mkF m 0 #[.val (.ref x), .unset, .unset] []))
  refine own_step (b := T0.setTop (mkF m 1 #[.val (.ref x), .unset, .unset] [(.int (0 : Int32))])) (fun _ qk => XS.iconst X0.here hx rfl (hb hby d5_0) qk) ?_
  refine own_step (b := T0.setTop (mkF m 2 #[.val (.ref x), .val (.int (0 : Int32)), .unset] [])) (fun _ qk => XS.istoreN X0.here hx rfl (hb hby d5_1) rfl (l' := #[.val (.ref x), .val (.int (0 : Int32)), .unset]) rfl qk) ?_
  refine own_step (b := T0.setTop (mkF m 3 #[.val (.ref x), .val (.int (0 : Int32)), .unset] [(.ref x)])) (fun _ qk => XS.aloadN X0.here hx rfl (hb hby d5_2) rfl rfl qk) ?_
  refine own_virtual (a := x) (W := 0) (argsL := []) (st := []) X0 hx hZ hown (own_w hw 30 rfl) (own_w hw 31 rfl) (own_w hw 33 rfl) rfl (own_w hw 32 rfl) (by decide) e0 SS.1 (own_lenB (W := 0) hZ hw (kI := 4) (own_w hw 6 rfl) SS O2 P5 OL0 (r := (1 : Int32)) rfl (by decide) (by decide)) (by decide) (by decide) (by rw [hml]; rfl) (lenOf pd6 rfl) rfl (Nat.le_of_ble_eq_true rfl) (hb hby d5_3) (fun v1 T1 L1 X1 hQ1 => ?_)
  obtain ⟨rfl, rfl, hh1⟩ := hQ1
  rw [List.append_nil] at X1
  show own_G p e below _ (T1.setTop (mkF m 6 #[.val (.ref x), .val (.int (0 : Int32)), .unset] [(.int (1 : Int32))]))
  refine own_step (b := T1.setTop (mkF m 7 #[.val (.ref x), .val (.int (0 : Int32)), .val (.int (1 : Int32))] [])) (fun _ qk => XS.istoreN X1.here hx rfl (hb hby d5_6) rfl (l' := #[.val (.ref x), .val (.int (0 : Int32)), .val (.int (1 : Int32))]) rfl qk) ?_
  refine own_step (b := T1.setTop (mkF m 8 #[.val (.ref x), .val (.int (0 : Int32)), .val (.int (1 : Int32))] [(.int (0 : Int32))])) (fun _ qk => XS.iloadN X1.here hx rfl (hb hby d5_7) rfl qk) ?_
  refine own_step (b := T1.setTop (mkF m 9 #[.val (.ref x), .val (.int (0 : Int32)), .val (.int (1 : Int32))] [(.int (1 : Int32)), (.int (0 : Int32))])) (fun _ qk => XS.iloadN X1.here hx rfl (hb hby d5_8) rfl qk) ?_
  refine own_icmp_ge X1 hx (hb hby d5_9) (pc' := 29) (by decide) (by decide) (fun c9_2 => absurd c9_2 (by decide)) (fun c9_2 => ?_)
  show own_G p e below _ (T1.setTop (mkF m 12 #[.val (.ref x), .val (.int (0 : Int32)), .val (.int (1 : Int32))] []))
  refine own_step (b := T1.setTop (mkF m 13 #[.val (.ref x), .val (.int (0 : Int32)), .val (.int (1 : Int32))] [(.ref x)])) (fun _ qk => XS.aloadN X1.here hx rfl (hb hby d5_12) rfl rfl qk) ?_
  refine own_step (b := T1.setTop (mkF m 14 #[.val (.ref x), .val (.int (0 : Int32)), .val (.int (1 : Int32))] [(.int (0 : Int32)), (.ref x)])) (fun _ qk => XS.iloadN X1.here hx rfl (hb hby d5_13) rfl qk) ?_
  refine own_virtual (a := x) (W := 0) (argsL := [(.int (0 : Int32))]) (st := []) X1 hx hZ hown (own_w hw 72 rfl) (own_w hw 73 rfl) (own_w hw 75 rfl) rfl (own_w hw 74 rfl) (by decide) hh1 SS.1 (own_chB (W := 0) hZ hw (kI := 4) (own_w hw 6 rfl) SS O2 P5 O4 rG3 OL0 0 (Nat.le_of_ble_eq_true rfl) (j := (0 : Int32)) rfl (r := c0) rfl (by decide) (by decide)) (by decide) (by decide) (by rw [hml]; rfl) (lenOf pd11 rfl) rfl (Nat.le_of_ble_eq_true rfl) (hb hby d5_14) (fun v3 T3 L3 X3 hQ3 => ?_)
  obtain ⟨rfl, rfl, hh3⟩ := hQ3
  rw [List.append_nil] at X3
  show own_G p e below _ (T3.setTop (mkF m 17 #[.val (.ref x), .val (.int (0 : Int32)), .val (.int (1 : Int32))] [(.int c0)]))
  refine own_staticP (W := 0) (argsL := [(.int c0)]) (st := []) X3 hx hZ hown (own_w hw 92 rfl) (own_w hw 93 rfl) (own_w hw 28 rfl) (own_w hw 94 rfl) (by decide) hh3 (rmIsb l Z a0 hw [] c0 h0) (by decide) (by decide) (by decide) (by decide) (by rw [hml]; rfl) (lenOf pd12 rfl) rfl (Nat.le_of_ble_eq_true rfl) (hb hby d5_17) (fun T4 X4 e4 => ?_)
  show own_G p e below _ (T4.setTop (mkF m 20 #[.val (.ref x), .val (.int (0 : Int32)), .val (.int (1 : Int32))] [(.int (own_bi (own_bl c0)))]))
  refine own_if_eq X4 hx (hb hby d5_20) (pc' := 29) (by decide) (by decide) (fun c20_5 => ?_) (fun c20_5 => ?_)
  · show own_G p e below _ (T4.setTop (mkF m 29 #[.val (.ref x), .val (.int (0 : Int32)), .val (.int (1 : Int32))] []))
    have c20_5b : (own_bl c0) = false := own_bi_f c20_5
    refine own_step (b := T4.setTop (mkF m 30 #[.val (.ref x), .val (.int (0 : Int32)), .val (.int (1 : Int32))] [(.int (1 : Int32))])) (fun _ qk => XS.iloadN X4.here hx rfl (hb hby d5_29) rfl qk) ?_
    refine own_step (b := T4.setTop (mkF m 31 #[.val (.ref x), .val (.int (0 : Int32)), .val (.int (1 : Int32))] [(.int (0 : Int32)), (.int (1 : Int32))])) (fun _ qk => XS.iloadN X4.here hx rfl (hb hby d5_30) rfl qk) ?_
    refine own_icmp_le X4 hx (hb hby d5_31) (pc' := 53) (by decide) (by decide) (fun c31_6 => absurd c31_6 (by decide)) (fun c31_6 => ?_)
    show own_G p e below _ (T4.setTop (mkF m 34 #[.val (.ref x), .val (.int (0 : Int32)), .val (.int (1 : Int32))] []))
    refine own_step (b := T4.setTop (mkF m 35 #[.val (.ref x), .val (.int (0 : Int32)), .val (.int (1 : Int32))] [(.ref x)])) (fun _ qk => XS.aloadN X4.here hx rfl (hb hby d5_34) rfl rfl qk) ?_
    refine own_step (b := T4.setTop (mkF m 36 #[.val (.ref x), .val (.int (0 : Int32)), .val (.int (1 : Int32))] [(.int (1 : Int32)), (.ref x)])) (fun _ qk => XS.iloadN X4.here hx rfl (hb hby d5_35) rfl qk) ?_
    refine own_step (b := T4.setTop (mkF m 37 #[.val (.ref x), .val (.int (0 : Int32)), .val (.int (1 : Int32))] [(.int (1 : Int32)), (.int (1 : Int32)), (.ref x)])) (fun _ qk => XS.iconst X4.here hx rfl (hb hby d5_36) qk) ?_
    refine own_step (b := T4.setTop (mkF m 38 #[.val (.ref x), .val (.int (0 : Int32)), .val (.int (1 : Int32))] [(.int (0 : Int32)), (.ref x)])) (fun _ qk => XS.isub X4.here hx rfl (hb hby d5_37) rfl qk) ?_
    refine own_virtual (a := x) (W := 0) (argsL := [(.int (0 : Int32))]) (st := []) X4 hx hZ hown (own_w hw 72 rfl) (own_w hw 73 rfl) (own_w hw 75 rfl) rfl (own_w hw 74 rfl) (by decide) e4 SS.1 (own_chB (W := 0) hZ hw (kI := 4) (own_w hw 6 rfl) SS O2 P5 O4 rG3 OL0 0 (Nat.le_of_ble_eq_true rfl) (j := (0 : Int32)) rfl (r := c0) rfl (by decide) (by decide)) (by decide) (by decide) (by rw [hml]; rfl) (lenOf pd11 rfl) rfl (Nat.le_of_ble_eq_true rfl) (hb hby d5_38) (fun v7 T7 L7 X7 hQ7 => ?_)
    obtain ⟨rfl, rfl, hh7⟩ := hQ7
    rw [List.append_nil] at X7
    show own_G p e below _ (T7.setTop (mkF m 41 #[.val (.ref x), .val (.int (0 : Int32)), .val (.int (1 : Int32))] [(.int c0)]))
    refine own_staticP (W := 0) (argsL := [(.int c0)]) (st := []) X7 hx hZ hown (own_w hw 92 rfl) (own_w hw 93 rfl) (own_w hw 28 rfl) (own_w hw 94 rfl) (by decide) hh7 (rmIsb l Z a0 hw [] c0 h0) (by decide) (by decide) (by decide) (by decide) (by rw [hml]; rfl) (lenOf pd12 rfl) rfl (Nat.le_of_ble_eq_true rfl) (hb hby d5_41) (fun T8 X8 e8 => ?_)
    show own_G p e below _ (T8.setTop (mkF m 44 #[.val (.ref x), .val (.int (0 : Int32)), .val (.int (1 : Int32))] [(.int (own_bi (own_bl c0)))]))
    refine own_if_eq X8 hx (hb hby d5_44) (pc' := 53) (by decide) (by decide) (fun c44_9 => ?_) (fun c44_9 => absurd c44_9 (by rw [c20_5b]; decide))
    show own_G p e below _ (T8.setTop (mkF m 53 #[.val (.ref x), .val (.int (0 : Int32)), .val (.int (1 : Int32))] []))
    refine own_step (b := T8.setTop (mkF m 54 #[.val (.ref x), .val (.int (0 : Int32)), .val (.int (1 : Int32))] [(.ref x)])) (fun _ qk => XS.aloadN X8.here hx rfl (hb hby d5_53) rfl rfl qk) ?_
    refine own_step (b := T8.setTop (mkF m 55 #[.val (.ref x), .val (.int (0 : Int32)), .val (.int (1 : Int32))] [(.int (0 : Int32)), (.ref x)])) (fun _ qk => XS.iloadN X8.here hx rfl (hb hby d5_54) rfl qk) ?_
    refine own_step (b := T8.setTop (mkF m 56 #[.val (.ref x), .val (.int (0 : Int32)), .val (.int (1 : Int32))] [(.int (1 : Int32)), (.int (0 : Int32)), (.ref x)])) (fun _ qk => XS.iloadN X8.here hx rfl (hb hby d5_55) rfl qk) ?_
    have hs10 : own_strip [c0] = [c0] := by simp [own_strip, List.dropWhile, c20_5b]
    refine own_virtualP (a := x) (W := 0) (argsL := [(.int (0 : Int32)), (.int (1 : Int32))]) (st := []) X8 hx hZ hown (own_w hw 41 rfl) (own_w hw 42 rfl) (own_w hw 44 rfl) rfl (own_w hw 43 rfl) (by decide) e8 SS.1 (rmSubT l Z a0 hw [] x 1 0 1 [c0] h0 SS rfl (by decide) (by decide) (by decide) ⟨rfl, rfl⟩ OL0 G1 O2 P5 G3 O4 rG3) (own_w hw 45 rfl) (own_w hw 7 rfl) (by decide) (by decide) (by decide) (by decide) (by rw [hml]; rfl) (lenOf pd10 rfl) rfl (Nat.le_of_ble_eq_true rfl) (hb hby d5_56) (fun T11 X11 e11 => ?_)
    show own_G p e below _ (T11.setTop (mkF m 59 #[.val (.ref x), .val (.int (0 : Int32)), .val (.int (1 : Int32))] [(.ref x)]))
    exact own_retXR X11 hx hS (by rw [show T11.heap = h0 from e11]; omega) hret rfl rfl rfl hlk (hb hby d5_59) ⟨_, rfl, Fr.nil _, by rw [e11]; exact own_ext (Keep.refl _ _), by rw [e11, hs10]; exact SS⟩ (by decide) (by decide)
  · show own_G p e below _ (T4.setTop (mkF m 23 #[.val (.ref x), .val (.int (0 : Int32)), .val (.int (1 : Int32))] []))
    have c20_5b : (own_bl c0) = true := own_bi_t c20_5
    refine own_step (b := T4.setTop (mkF m 26 #[.val (.ref x), .val (.int (1 : Int32)), .val (.int (1 : Int32))] [])) (fun _ qk => XS.iinc X4.here hx rfl (hb hby d5_23) rfl (l' := #[.val (.ref x), .val (.int (1 : Int32)), .val (.int (1 : Int32))]) rfl qk) ?_
    refine own_step (b := T4.setTop (mkF m 7 #[.val (.ref x), .val (.int (1 : Int32)), .val (.int (1 : Int32))] [])) (fun _ qk => XS.goto X4.here hx rfl (pc0 := 26) (pc' := 7) rfl (hb hby d5_26) (by decide) (by decide) qk) ?_
    refine own_step (b := T4.setTop (mkF m 8 #[.val (.ref x), .val (.int (1 : Int32)), .val (.int (1 : Int32))] [(.int (1 : Int32))])) (fun _ qk => XS.iloadN X4.here hx rfl (hb hby d5_7) rfl qk) ?_
    refine own_step (b := T4.setTop (mkF m 9 #[.val (.ref x), .val (.int (1 : Int32)), .val (.int (1 : Int32))] [(.int (1 : Int32)), (.int (1 : Int32))])) (fun _ qk => XS.iloadN X4.here hx rfl (hb hby d5_8) rfl qk) ?_
    refine own_icmp_ge X4 hx (hb hby d5_9) (pc' := 29) (by decide) (by decide) (fun c9_12 => ?_) (fun c9_12 => absurd c9_12 (by decide))
    show own_G p e below _ (T4.setTop (mkF m 29 #[.val (.ref x), .val (.int (1 : Int32)), .val (.int (1 : Int32))] []))
    refine own_step (b := T4.setTop (mkF m 30 #[.val (.ref x), .val (.int (1 : Int32)), .val (.int (1 : Int32))] [(.int (1 : Int32))])) (fun _ qk => XS.iloadN X4.here hx rfl (hb hby d5_29) rfl qk) ?_
    refine own_step (b := T4.setTop (mkF m 31 #[.val (.ref x), .val (.int (1 : Int32)), .val (.int (1 : Int32))] [(.int (1 : Int32)), (.int (1 : Int32))])) (fun _ qk => XS.iloadN X4.here hx rfl (hb hby d5_30) rfl qk) ?_
    refine own_icmp_le X4 hx (hb hby d5_31) (pc' := 53) (by decide) (by decide) (fun c31_13 => ?_) (fun c31_13 => absurd c31_13 (by decide))
    show own_G p e below _ (T4.setTop (mkF m 53 #[.val (.ref x), .val (.int (1 : Int32)), .val (.int (1 : Int32))] []))
    refine own_step (b := T4.setTop (mkF m 54 #[.val (.ref x), .val (.int (1 : Int32)), .val (.int (1 : Int32))] [(.ref x)])) (fun _ qk => XS.aloadN X4.here hx rfl (hb hby d5_53) rfl rfl qk) ?_
    refine own_step (b := T4.setTop (mkF m 55 #[.val (.ref x), .val (.int (1 : Int32)), .val (.int (1 : Int32))] [(.int (1 : Int32)), (.ref x)])) (fun _ qk => XS.iloadN X4.here hx rfl (hb hby d5_54) rfl qk) ?_
    refine own_step (b := T4.setTop (mkF m 56 #[.val (.ref x), .val (.int (1 : Int32)), .val (.int (1 : Int32))] [(.int (1 : Int32)), (.int (1 : Int32)), (.ref x)])) (fun _ qk => XS.iloadN X4.here hx rfl (hb hby d5_55) rfl qk) ?_
    have hs14 : own_strip [c0] = [] := by simp [own_strip, List.dropWhile, c20_5b]
    refine own_virtualI (a := x) (W := 0) (argsL := [(.int (1 : Int32)), (.int (1 : Int32))]) (st := []) X4 hx hZ hown (own_w hw 41 rfl) (own_w hw 42 rfl) (own_w hw 44 rfl) rfl (own_w hw 43 rfl) (own_w hw 45 rfl) (own_w hw 7 rfl) (by decide) e4 hS hk SS.1 (rmSubE l Z a0 hw [] x 1 1 1 [c0] h0 SS rfl (by decide) (by decide) (by decide) rfl (by decide) OL0 G1 O2 P5 G3 O4 rG3 CH1 HC) (fun _ hW => own_IBw hI hW) (by decide) (by decide) (by decide) (by decide) (by rw [hml]; rfl) (lenOf pd10 rfl) rfl (Nat.le_of_ble_eq_true rfl) (hb hby d5_56) (fun v15 T15 L15 vm15 k15 X15 ev15 z15 hS hk hZ hown hQ15 => ?_)
    obtain ⟨r15, rfl, M15, E15, SS15⟩ := hQ15
    show own_G p e below _ (T15.setTop (mkF m 59 #[.val (.ref x), .val (.int (1 : Int32)), .val (.int (1 : Int32))] [(.ref r15)]))
    exact own_retXR X15 hx hS (by omega) hret rfl rfl rfl hlk (hb hby d5_59) ⟨_, rfl, M15, E15, by rw [hs14]; exact SS15⟩ (by decide) (by decide)
set_option maxRecDepth 65536 in
set_option maxHeartbeats 40000000 in
theorem rmStrip2 (l : Launch) (Z : State) (a0 : Array Value) (hw : ∀ d ∈ tables_1, d.before a0 Z = true) (ws : List Jvm.Cond) (x : Addr) (c0 c1 : Int32) (h0 : Heap) (SS : own_Str Z h0 x [c0, c1]) (OL0 : Old Z Z.heap.size h0) (G1 : Int32) (O2 : Sta Z Z.heap "java/lang/String" "COMPACT_STRINGS" "Z" (.int G1)) (P5 : ¬ (G1 = (0 : Int32))) (G3 : Value) (O4 : Sta Z Z.heap "jdk/internal/util/Preconditions" "SIOOBE_FORMATTER" "Ljava/util/function/BiFunction;" G3) (rG3 : G3.isRef = true) (CH1 : Jvm.Lit.constHeld Z "java/lang/StringLatin1" 151) (HC : Jvm.Lit.compactW.before a0 Z = true) :
    own_MetI l Z (⟨"com/example/pennant/pennant/Trl", "stripBlanks", "(Ljava/lang/String;)Ljava/lang/String;"⟩ : MethodName) prog_78_method_9_code 3 (some (.object "java/lang/String")) ws ⟨5, 2, 8, 122⟩ #[(.ref x)] h0 (fun vm => IB Z vm []) (fun v vm h L => ∃ r : Addr, v = some (.ref r) ∧ Fr Z.heap.size L ∧ Ext h0 h ∧ own_Str Z h r (own_strip [c0, c1])) := by
  refine own_enterI (plainFor_of_name pn4) (fun m => ef_strip m x) ?_
  intro p e s m below meth c T0 vm0 k0 hx hby hml hZ hown hnm hret hlk X0 e0 es0 hS hk hI
  show own_G p e below _ (T0.setTop (mkF m 0 #[.val (.ref x), .unset, .unset] []))
  refine own_step (b := T0.setTop (mkF m 1 #[.val (.ref x), .unset, .unset] [(.int (0 : Int32))])) (fun _ qk => XS.iconst X0.here hx rfl (hb hby d5_0) qk) ?_
  refine own_step (b := T0.setTop (mkF m 2 #[.val (.ref x), .val (.int (0 : Int32)), .unset] [])) (fun _ qk => XS.istoreN X0.here hx rfl (hb hby d5_1) rfl (l' := #[.val (.ref x), .val (.int (0 : Int32)), .unset]) rfl qk) ?_
  refine own_step (b := T0.setTop (mkF m 3 #[.val (.ref x), .val (.int (0 : Int32)), .unset] [(.ref x)])) (fun _ qk => XS.aloadN X0.here hx rfl (hb hby d5_2) rfl rfl qk) ?_
  refine own_virtual (a := x) (W := 0) (argsL := []) (st := []) X0 hx hZ hown (own_w hw 30 rfl) (own_w hw 31 rfl) (own_w hw 33 rfl) rfl (own_w hw 32 rfl) (by decide) e0 SS.1 (own_lenB (W := 0) hZ hw (kI := 4) (own_w hw 6 rfl) SS O2 P5 OL0 (r := (2 : Int32)) rfl (by decide) (by decide)) (by decide) (by decide) (by rw [hml]; rfl) (lenOf pd6 rfl) rfl (Nat.le_of_ble_eq_true rfl) (hb hby d5_3) (fun v1 T1 L1 X1 hQ1 => ?_)
  obtain ⟨rfl, rfl, hh1⟩ := hQ1
  rw [List.append_nil] at X1
  show own_G p e below _ (T1.setTop (mkF m 6 #[.val (.ref x), .val (.int (0 : Int32)), .unset] [(.int (2 : Int32))]))
  refine own_step (b := T1.setTop (mkF m 7 #[.val (.ref x), .val (.int (0 : Int32)), .val (.int (2 : Int32))] [])) (fun _ qk => XS.istoreN X1.here hx rfl (hb hby d5_6) rfl (l' := #[.val (.ref x), .val (.int (0 : Int32)), .val (.int (2 : Int32))]) rfl qk) ?_
  refine own_step (b := T1.setTop (mkF m 8 #[.val (.ref x), .val (.int (0 : Int32)), .val (.int (2 : Int32))] [(.int (0 : Int32))])) (fun _ qk => XS.iloadN X1.here hx rfl (hb hby d5_7) rfl qk) ?_
  refine own_step (b := T1.setTop (mkF m 9 #[.val (.ref x), .val (.int (0 : Int32)), .val (.int (2 : Int32))] [(.int (2 : Int32)), (.int (0 : Int32))])) (fun _ qk => XS.iloadN X1.here hx rfl (hb hby d5_8) rfl qk) ?_
  refine own_icmp_ge X1 hx (hb hby d5_9) (pc' := 29) (by decide) (by decide) (fun c9_2 => absurd c9_2 (by decide)) (fun c9_2 => ?_)
  show own_G p e below _ (T1.setTop (mkF m 12 #[.val (.ref x), .val (.int (0 : Int32)), .val (.int (2 : Int32))] []))
  refine own_step (b := T1.setTop (mkF m 13 #[.val (.ref x), .val (.int (0 : Int32)), .val (.int (2 : Int32))] [(.ref x)])) (fun _ qk => XS.aloadN X1.here hx rfl (hb hby d5_12) rfl rfl qk) ?_
  refine own_step (b := T1.setTop (mkF m 14 #[.val (.ref x), .val (.int (0 : Int32)), .val (.int (2 : Int32))] [(.int (0 : Int32)), (.ref x)])) (fun _ qk => XS.iloadN X1.here hx rfl (hb hby d5_13) rfl qk) ?_
  refine own_virtual (a := x) (W := 0) (argsL := [(.int (0 : Int32))]) (st := []) X1 hx hZ hown (own_w hw 72 rfl) (own_w hw 73 rfl) (own_w hw 75 rfl) rfl (own_w hw 74 rfl) (by decide) hh1 SS.1 (own_chB (W := 0) hZ hw (kI := 4) (own_w hw 6 rfl) SS O2 P5 O4 rG3 OL0 0 (Nat.le_of_ble_eq_true rfl) (j := (0 : Int32)) rfl (r := c0) rfl (by decide) (by decide)) (by decide) (by decide) (by rw [hml]; rfl) (lenOf pd11 rfl) rfl (Nat.le_of_ble_eq_true rfl) (hb hby d5_14) (fun v3 T3 L3 X3 hQ3 => ?_)
  obtain ⟨rfl, rfl, hh3⟩ := hQ3
  rw [List.append_nil] at X3
  show own_G p e below _ (T3.setTop (mkF m 17 #[.val (.ref x), .val (.int (0 : Int32)), .val (.int (2 : Int32))] [(.int c0)]))
  refine own_staticP (W := 0) (argsL := [(.int c0)]) (st := []) X3 hx hZ hown (own_w hw 92 rfl) (own_w hw 93 rfl) (own_w hw 28 rfl) (own_w hw 94 rfl) (by decide) hh3 (rmIsb l Z a0 hw [] c0 h0) (by decide) (by decide) (by decide) (by decide) (by rw [hml]; rfl) (lenOf pd12 rfl) rfl (Nat.le_of_ble_eq_true rfl) (hb hby d5_17) (fun T4 X4 e4 => ?_)
  show own_G p e below _ (T4.setTop (mkF m 20 #[.val (.ref x), .val (.int (0 : Int32)), .val (.int (2 : Int32))] [(.int (own_bi (own_bl c0)))]))
  refine own_if_eq X4 hx (hb hby d5_20) (pc' := 29) (by decide) (by decide) (fun c20_5 => ?_) (fun c20_5 => ?_)
  · show own_G p e below _ (T4.setTop (mkF m 29 #[.val (.ref x), .val (.int (0 : Int32)), .val (.int (2 : Int32))] []))
    have c20_5b : (own_bl c0) = false := own_bi_f c20_5
    refine own_step (b := T4.setTop (mkF m 30 #[.val (.ref x), .val (.int (0 : Int32)), .val (.int (2 : Int32))] [(.int (2 : Int32))])) (fun _ qk => XS.iloadN X4.here hx rfl (hb hby d5_29) rfl qk) ?_
    refine own_step (b := T4.setTop (mkF m 31 #[.val (.ref x), .val (.int (0 : Int32)), .val (.int (2 : Int32))] [(.int (0 : Int32)), (.int (2 : Int32))])) (fun _ qk => XS.iloadN X4.here hx rfl (hb hby d5_30) rfl qk) ?_
    refine own_icmp_le X4 hx (hb hby d5_31) (pc' := 53) (by decide) (by decide) (fun c31_6 => absurd c31_6 (by decide)) (fun c31_6 => ?_)
    show own_G p e below _ (T4.setTop (mkF m 34 #[.val (.ref x), .val (.int (0 : Int32)), .val (.int (2 : Int32))] []))
    refine own_step (b := T4.setTop (mkF m 35 #[.val (.ref x), .val (.int (0 : Int32)), .val (.int (2 : Int32))] [(.ref x)])) (fun _ qk => XS.aloadN X4.here hx rfl (hb hby d5_34) rfl rfl qk) ?_
    refine own_step (b := T4.setTop (mkF m 36 #[.val (.ref x), .val (.int (0 : Int32)), .val (.int (2 : Int32))] [(.int (2 : Int32)), (.ref x)])) (fun _ qk => XS.iloadN X4.here hx rfl (hb hby d5_35) rfl qk) ?_
    refine own_step (b := T4.setTop (mkF m 37 #[.val (.ref x), .val (.int (0 : Int32)), .val (.int (2 : Int32))] [(.int (1 : Int32)), (.int (2 : Int32)), (.ref x)])) (fun _ qk => XS.iconst X4.here hx rfl (hb hby d5_36) qk) ?_
    refine own_step (b := T4.setTop (mkF m 38 #[.val (.ref x), .val (.int (0 : Int32)), .val (.int (2 : Int32))] [(.int (1 : Int32)), (.ref x)])) (fun _ qk => XS.isub X4.here hx rfl (hb hby d5_37) rfl qk) ?_
    refine own_virtual (a := x) (W := 0) (argsL := [(.int (1 : Int32))]) (st := []) X4 hx hZ hown (own_w hw 72 rfl) (own_w hw 73 rfl) (own_w hw 75 rfl) rfl (own_w hw 74 rfl) (by decide) e4 SS.1 (own_chB (W := 0) hZ hw (kI := 4) (own_w hw 6 rfl) SS O2 P5 O4 rG3 OL0 1 (Nat.le_of_ble_eq_true rfl) (j := (1 : Int32)) rfl (r := c1) rfl (by decide) (by decide)) (by decide) (by decide) (by rw [hml]; rfl) (lenOf pd11 rfl) rfl (Nat.le_of_ble_eq_true rfl) (hb hby d5_38) (fun v7 T7 L7 X7 hQ7 => ?_)
    obtain ⟨rfl, rfl, hh7⟩ := hQ7
    rw [List.append_nil] at X7
    show own_G p e below _ (T7.setTop (mkF m 41 #[.val (.ref x), .val (.int (0 : Int32)), .val (.int (2 : Int32))] [(.int c1)]))
    refine own_staticP (W := 0) (argsL := [(.int c1)]) (st := []) X7 hx hZ hown (own_w hw 92 rfl) (own_w hw 93 rfl) (own_w hw 28 rfl) (own_w hw 94 rfl) (by decide) hh7 (rmIsb l Z a0 hw [] c1 h0) (by decide) (by decide) (by decide) (by decide) (by rw [hml]; rfl) (lenOf pd12 rfl) rfl (Nat.le_of_ble_eq_true rfl) (hb hby d5_41) (fun T8 X8 e8 => ?_)
    show own_G p e below _ (T8.setTop (mkF m 44 #[.val (.ref x), .val (.int (0 : Int32)), .val (.int (2 : Int32))] [(.int (own_bi (own_bl c1)))]))
    refine own_if_eq X8 hx (hb hby d5_44) (pc' := 53) (by decide) (by decide) (fun c44_9 => ?_) (fun c44_9 => ?_)
    · show own_G p e below _ (T8.setTop (mkF m 53 #[.val (.ref x), .val (.int (0 : Int32)), .val (.int (2 : Int32))] []))
      have c44_9b : (own_bl c1) = false := own_bi_f c44_9
      refine own_step (b := T8.setTop (mkF m 54 #[.val (.ref x), .val (.int (0 : Int32)), .val (.int (2 : Int32))] [(.ref x)])) (fun _ qk => XS.aloadN X8.here hx rfl (hb hby d5_53) rfl rfl qk) ?_
      refine own_step (b := T8.setTop (mkF m 55 #[.val (.ref x), .val (.int (0 : Int32)), .val (.int (2 : Int32))] [(.int (0 : Int32)), (.ref x)])) (fun _ qk => XS.iloadN X8.here hx rfl (hb hby d5_54) rfl qk) ?_
      refine own_step (b := T8.setTop (mkF m 56 #[.val (.ref x), .val (.int (0 : Int32)), .val (.int (2 : Int32))] [(.int (2 : Int32)), (.int (0 : Int32)), (.ref x)])) (fun _ qk => XS.iloadN X8.here hx rfl (hb hby d5_55) rfl qk) ?_
      have hs10 : own_strip [c0, c1] = [c0, c1] := by simp [own_strip, List.dropWhile, c20_5b, c44_9b]
      refine own_virtualP (a := x) (W := 0) (argsL := [(.int (0 : Int32)), (.int (2 : Int32))]) (st := []) X8 hx hZ hown (own_w hw 41 rfl) (own_w hw 42 rfl) (own_w hw 44 rfl) rfl (own_w hw 43 rfl) (by decide) e8 SS.1 (rmSubT l Z a0 hw [] x 2 0 2 [c0, c1] h0 SS rfl (by decide) (by decide) (by decide) ⟨rfl, rfl⟩ OL0 G1 O2 P5 G3 O4 rG3) (own_w hw 45 rfl) (own_w hw 7 rfl) (by decide) (by decide) (by decide) (by decide) (by rw [hml]; rfl) (lenOf pd10 rfl) rfl (Nat.le_of_ble_eq_true rfl) (hb hby d5_56) (fun T11 X11 e11 => ?_)
      show own_G p e below _ (T11.setTop (mkF m 59 #[.val (.ref x), .val (.int (0 : Int32)), .val (.int (2 : Int32))] [(.ref x)]))
      exact own_retXR X11 hx hS (by rw [show T11.heap = h0 from e11]; omega) hret rfl rfl rfl hlk (hb hby d5_59) ⟨_, rfl, Fr.nil _, by rw [e11]; exact own_ext (Keep.refl _ _), by rw [e11, hs10]; exact SS⟩ (by decide) (by decide)
    · show own_G p e below _ (T8.setTop (mkF m 47 #[.val (.ref x), .val (.int (0 : Int32)), .val (.int (2 : Int32))] []))
      have c44_9b : (own_bl c1) = true := own_bi_t c44_9
      refine own_step (b := T8.setTop (mkF m 50 #[.val (.ref x), .val (.int (0 : Int32)), .val (.int (1 : Int32))] [])) (fun _ qk => XS.iinc X8.here hx rfl (hb hby d5_47) rfl (l' := #[.val (.ref x), .val (.int (0 : Int32)), .val (.int (1 : Int32))]) rfl qk) ?_
      refine own_step (b := T8.setTop (mkF m 29 #[.val (.ref x), .val (.int (0 : Int32)), .val (.int (1 : Int32))] [])) (fun _ qk => XS.goto X8.here hx rfl (pc0 := 50) (pc' := 29) rfl (hb hby d5_50) (by decide) (by decide) qk) ?_
      refine own_step (b := T8.setTop (mkF m 30 #[.val (.ref x), .val (.int (0 : Int32)), .val (.int (1 : Int32))] [(.int (1 : Int32))])) (fun _ qk => XS.iloadN X8.here hx rfl (hb hby d5_29) rfl qk) ?_
      refine own_step (b := T8.setTop (mkF m 31 #[.val (.ref x), .val (.int (0 : Int32)), .val (.int (1 : Int32))] [(.int (0 : Int32)), (.int (1 : Int32))])) (fun _ qk => XS.iloadN X8.here hx rfl (hb hby d5_30) rfl qk) ?_
      refine own_icmp_le X8 hx (hb hby d5_31) (pc' := 53) (by decide) (by decide) (fun c31_12 => absurd c31_12 (by decide)) (fun c31_12 => ?_)
      show own_G p e below _ (T8.setTop (mkF m 34 #[.val (.ref x), .val (.int (0 : Int32)), .val (.int (1 : Int32))] []))
      refine own_step (b := T8.setTop (mkF m 35 #[.val (.ref x), .val (.int (0 : Int32)), .val (.int (1 : Int32))] [(.ref x)])) (fun _ qk => XS.aloadN X8.here hx rfl (hb hby d5_34) rfl rfl qk) ?_
      refine own_step (b := T8.setTop (mkF m 36 #[.val (.ref x), .val (.int (0 : Int32)), .val (.int (1 : Int32))] [(.int (1 : Int32)), (.ref x)])) (fun _ qk => XS.iloadN X8.here hx rfl (hb hby d5_35) rfl qk) ?_
      refine own_step (b := T8.setTop (mkF m 37 #[.val (.ref x), .val (.int (0 : Int32)), .val (.int (1 : Int32))] [(.int (1 : Int32)), (.int (1 : Int32)), (.ref x)])) (fun _ qk => XS.iconst X8.here hx rfl (hb hby d5_36) qk) ?_
      refine own_step (b := T8.setTop (mkF m 38 #[.val (.ref x), .val (.int (0 : Int32)), .val (.int (1 : Int32))] [(.int (0 : Int32)), (.ref x)])) (fun _ qk => XS.isub X8.here hx rfl (hb hby d5_37) rfl qk) ?_
      refine own_virtual (a := x) (W := 0) (argsL := [(.int (0 : Int32))]) (st := []) X8 hx hZ hown (own_w hw 72 rfl) (own_w hw 73 rfl) (own_w hw 75 rfl) rfl (own_w hw 74 rfl) (by decide) e8 SS.1 (own_chB (W := 0) hZ hw (kI := 4) (own_w hw 6 rfl) SS O2 P5 O4 rG3 OL0 0 (Nat.le_of_ble_eq_true rfl) (j := (0 : Int32)) rfl (r := c0) rfl (by decide) (by decide)) (by decide) (by decide) (by rw [hml]; rfl) (lenOf pd11 rfl) rfl (Nat.le_of_ble_eq_true rfl) (hb hby d5_38) (fun v13 T13 L13 X13 hQ13 => ?_)
      obtain ⟨rfl, rfl, hh13⟩ := hQ13
      rw [List.append_nil] at X13
      show own_G p e below _ (T13.setTop (mkF m 41 #[.val (.ref x), .val (.int (0 : Int32)), .val (.int (1 : Int32))] [(.int c0)]))
      refine own_staticP (W := 0) (argsL := [(.int c0)]) (st := []) X13 hx hZ hown (own_w hw 92 rfl) (own_w hw 93 rfl) (own_w hw 28 rfl) (own_w hw 94 rfl) (by decide) hh13 (rmIsb l Z a0 hw [] c0 h0) (by decide) (by decide) (by decide) (by decide) (by rw [hml]; rfl) (lenOf pd12 rfl) rfl (Nat.le_of_ble_eq_true rfl) (hb hby d5_41) (fun T14 X14 e14 => ?_)
      show own_G p e below _ (T14.setTop (mkF m 44 #[.val (.ref x), .val (.int (0 : Int32)), .val (.int (1 : Int32))] [(.int (own_bi (own_bl c0)))]))
      refine own_if_eq X14 hx (hb hby d5_44) (pc' := 53) (by decide) (by decide) (fun c44_15 => ?_) (fun c44_15 => absurd c44_15 (by rw [c20_5b]; decide))
      show own_G p e below _ (T14.setTop (mkF m 53 #[.val (.ref x), .val (.int (0 : Int32)), .val (.int (1 : Int32))] []))
      refine own_step (b := T14.setTop (mkF m 54 #[.val (.ref x), .val (.int (0 : Int32)), .val (.int (1 : Int32))] [(.ref x)])) (fun _ qk => XS.aloadN X14.here hx rfl (hb hby d5_53) rfl rfl qk) ?_
      refine own_step (b := T14.setTop (mkF m 55 #[.val (.ref x), .val (.int (0 : Int32)), .val (.int (1 : Int32))] [(.int (0 : Int32)), (.ref x)])) (fun _ qk => XS.iloadN X14.here hx rfl (hb hby d5_54) rfl qk) ?_
      refine own_step (b := T14.setTop (mkF m 56 #[.val (.ref x), .val (.int (0 : Int32)), .val (.int (1 : Int32))] [(.int (1 : Int32)), (.int (0 : Int32)), (.ref x)])) (fun _ qk => XS.iloadN X14.here hx rfl (hb hby d5_55) rfl qk) ?_
      have hs16 : own_strip [c0, c1] = [c0] := by simp [own_strip, List.dropWhile, c20_5b, c44_9b]
      refine own_virtual (a := x) (W := 0) (argsL := [(.int (0 : Int32)), (.int (1 : Int32))]) (st := []) X14 hx hZ hown (own_w hw 41 rfl) (own_w hw 42 rfl) (own_w hw 44 rfl) rfl (own_w hw 43 rfl) (by decide) e14 SS.1 (own_back (W := 0) (rmSubM l Z a0 hw [] x 2 0 1 [c0, c1] h0 SS rfl (by decide) (by decide) (by decide) (by decide) (by decide) OL0 G1 O2 P5 G3 O4 rG3) hZ (own_w hw 45 rfl) (own_w hw 7 rfl) (by decide) (by decide)) (by decide) (by decide) (by rw [hml]; rfl) (lenOf pd10 rfl) rfl (Nat.le_of_ble_eq_true rfl) (hb hby d5_56) (fun v17 T17 L17 X17 hQ17 => ?_)
      obtain ⟨r17, rfl, M17, E17, SS17⟩ := hQ17
      have z17 : h0.size ≤ T17.heap.size := E17.1
      show own_G p e below _ (T17.setTop (mkF m 59 #[.val (.ref x), .val (.int (0 : Int32)), .val (.int (1 : Int32))] [(.ref r17)]))
      exact own_retXR X17 hx hS (by omega) hret rfl rfl rfl hlk (hb hby d5_59) ⟨_, rfl, M17, E17, by rw [hs16]; exact SS17⟩ (by decide) (by decide)
  · show own_G p e below _ (T4.setTop (mkF m 23 #[.val (.ref x), .val (.int (0 : Int32)), .val (.int (2 : Int32))] []))
    have c20_5b : (own_bl c0) = true := own_bi_t c20_5
    refine own_step (b := T4.setTop (mkF m 26 #[.val (.ref x), .val (.int (1 : Int32)), .val (.int (2 : Int32))] [])) (fun _ qk => XS.iinc X4.here hx rfl (hb hby d5_23) rfl (l' := #[.val (.ref x), .val (.int (1 : Int32)), .val (.int (2 : Int32))]) rfl qk) ?_
    refine own_step (b := T4.setTop (mkF m 7 #[.val (.ref x), .val (.int (1 : Int32)), .val (.int (2 : Int32))] [])) (fun _ qk => XS.goto X4.here hx rfl (pc0 := 26) (pc' := 7) rfl (hb hby d5_26) (by decide) (by decide) qk) ?_
    refine own_step (b := T4.setTop (mkF m 8 #[.val (.ref x), .val (.int (1 : Int32)), .val (.int (2 : Int32))] [(.int (1 : Int32))])) (fun _ qk => XS.iloadN X4.here hx rfl (hb hby d5_7) rfl qk) ?_
    refine own_step (b := T4.setTop (mkF m 9 #[.val (.ref x), .val (.int (1 : Int32)), .val (.int (2 : Int32))] [(.int (2 : Int32)), (.int (1 : Int32))])) (fun _ qk => XS.iloadN X4.here hx rfl (hb hby d5_8) rfl qk) ?_
    refine own_icmp_ge X4 hx (hb hby d5_9) (pc' := 29) (by decide) (by decide) (fun c9_18 => absurd c9_18 (by decide)) (fun c9_18 => ?_)
    show own_G p e below _ (T4.setTop (mkF m 12 #[.val (.ref x), .val (.int (1 : Int32)), .val (.int (2 : Int32))] []))
    refine own_step (b := T4.setTop (mkF m 13 #[.val (.ref x), .val (.int (1 : Int32)), .val (.int (2 : Int32))] [(.ref x)])) (fun _ qk => XS.aloadN X4.here hx rfl (hb hby d5_12) rfl rfl qk) ?_
    refine own_step (b := T4.setTop (mkF m 14 #[.val (.ref x), .val (.int (1 : Int32)), .val (.int (2 : Int32))] [(.int (1 : Int32)), (.ref x)])) (fun _ qk => XS.iloadN X4.here hx rfl (hb hby d5_13) rfl qk) ?_
    refine own_virtual (a := x) (W := 0) (argsL := [(.int (1 : Int32))]) (st := []) X4 hx hZ hown (own_w hw 72 rfl) (own_w hw 73 rfl) (own_w hw 75 rfl) rfl (own_w hw 74 rfl) (by decide) e4 SS.1 (own_chB (W := 0) hZ hw (kI := 4) (own_w hw 6 rfl) SS O2 P5 O4 rG3 OL0 1 (Nat.le_of_ble_eq_true rfl) (j := (1 : Int32)) rfl (r := c1) rfl (by decide) (by decide)) (by decide) (by decide) (by rw [hml]; rfl) (lenOf pd11 rfl) rfl (Nat.le_of_ble_eq_true rfl) (hb hby d5_14) (fun v19 T19 L19 X19 hQ19 => ?_)
    obtain ⟨rfl, rfl, hh19⟩ := hQ19
    rw [List.append_nil] at X19
    show own_G p e below _ (T19.setTop (mkF m 17 #[.val (.ref x), .val (.int (1 : Int32)), .val (.int (2 : Int32))] [(.int c1)]))
    refine own_staticP (W := 0) (argsL := [(.int c1)]) (st := []) X19 hx hZ hown (own_w hw 92 rfl) (own_w hw 93 rfl) (own_w hw 28 rfl) (own_w hw 94 rfl) (by decide) hh19 (rmIsb l Z a0 hw [] c1 h0) (by decide) (by decide) (by decide) (by decide) (by rw [hml]; rfl) (lenOf pd12 rfl) rfl (Nat.le_of_ble_eq_true rfl) (hb hby d5_17) (fun T20 X20 e20 => ?_)
    show own_G p e below _ (T20.setTop (mkF m 20 #[.val (.ref x), .val (.int (1 : Int32)), .val (.int (2 : Int32))] [(.int (own_bi (own_bl c1)))]))
    refine own_if_eq X20 hx (hb hby d5_20) (pc' := 29) (by decide) (by decide) (fun c20_21 => ?_) (fun c20_21 => ?_)
    · show own_G p e below _ (T20.setTop (mkF m 29 #[.val (.ref x), .val (.int (1 : Int32)), .val (.int (2 : Int32))] []))
      have c20_21b : (own_bl c1) = false := own_bi_f c20_21
      refine own_step (b := T20.setTop (mkF m 30 #[.val (.ref x), .val (.int (1 : Int32)), .val (.int (2 : Int32))] [(.int (2 : Int32))])) (fun _ qk => XS.iloadN X20.here hx rfl (hb hby d5_29) rfl qk) ?_
      refine own_step (b := T20.setTop (mkF m 31 #[.val (.ref x), .val (.int (1 : Int32)), .val (.int (2 : Int32))] [(.int (1 : Int32)), (.int (2 : Int32))])) (fun _ qk => XS.iloadN X20.here hx rfl (hb hby d5_30) rfl qk) ?_
      refine own_icmp_le X20 hx (hb hby d5_31) (pc' := 53) (by decide) (by decide) (fun c31_22 => absurd c31_22 (by decide)) (fun c31_22 => ?_)
      show own_G p e below _ (T20.setTop (mkF m 34 #[.val (.ref x), .val (.int (1 : Int32)), .val (.int (2 : Int32))] []))
      refine own_step (b := T20.setTop (mkF m 35 #[.val (.ref x), .val (.int (1 : Int32)), .val (.int (2 : Int32))] [(.ref x)])) (fun _ qk => XS.aloadN X20.here hx rfl (hb hby d5_34) rfl rfl qk) ?_
      refine own_step (b := T20.setTop (mkF m 36 #[.val (.ref x), .val (.int (1 : Int32)), .val (.int (2 : Int32))] [(.int (2 : Int32)), (.ref x)])) (fun _ qk => XS.iloadN X20.here hx rfl (hb hby d5_35) rfl qk) ?_
      refine own_step (b := T20.setTop (mkF m 37 #[.val (.ref x), .val (.int (1 : Int32)), .val (.int (2 : Int32))] [(.int (1 : Int32)), (.int (2 : Int32)), (.ref x)])) (fun _ qk => XS.iconst X20.here hx rfl (hb hby d5_36) qk) ?_
      refine own_step (b := T20.setTop (mkF m 38 #[.val (.ref x), .val (.int (1 : Int32)), .val (.int (2 : Int32))] [(.int (1 : Int32)), (.ref x)])) (fun _ qk => XS.isub X20.here hx rfl (hb hby d5_37) rfl qk) ?_
      refine own_virtual (a := x) (W := 0) (argsL := [(.int (1 : Int32))]) (st := []) X20 hx hZ hown (own_w hw 72 rfl) (own_w hw 73 rfl) (own_w hw 75 rfl) rfl (own_w hw 74 rfl) (by decide) e20 SS.1 (own_chB (W := 0) hZ hw (kI := 4) (own_w hw 6 rfl) SS O2 P5 O4 rG3 OL0 1 (Nat.le_of_ble_eq_true rfl) (j := (1 : Int32)) rfl (r := c1) rfl (by decide) (by decide)) (by decide) (by decide) (by rw [hml]; rfl) (lenOf pd11 rfl) rfl (Nat.le_of_ble_eq_true rfl) (hb hby d5_38) (fun v23 T23 L23 X23 hQ23 => ?_)
      obtain ⟨rfl, rfl, hh23⟩ := hQ23
      rw [List.append_nil] at X23
      show own_G p e below _ (T23.setTop (mkF m 41 #[.val (.ref x), .val (.int (1 : Int32)), .val (.int (2 : Int32))] [(.int c1)]))
      refine own_staticP (W := 0) (argsL := [(.int c1)]) (st := []) X23 hx hZ hown (own_w hw 92 rfl) (own_w hw 93 rfl) (own_w hw 28 rfl) (own_w hw 94 rfl) (by decide) hh23 (rmIsb l Z a0 hw [] c1 h0) (by decide) (by decide) (by decide) (by decide) (by rw [hml]; rfl) (lenOf pd12 rfl) rfl (Nat.le_of_ble_eq_true rfl) (hb hby d5_41) (fun T24 X24 e24 => ?_)
      show own_G p e below _ (T24.setTop (mkF m 44 #[.val (.ref x), .val (.int (1 : Int32)), .val (.int (2 : Int32))] [(.int (own_bi (own_bl c1)))]))
      refine own_if_eq X24 hx (hb hby d5_44) (pc' := 53) (by decide) (by decide) (fun c44_25 => ?_) (fun c44_25 => absurd c44_25 (by rw [c20_21b]; decide))
      show own_G p e below _ (T24.setTop (mkF m 53 #[.val (.ref x), .val (.int (1 : Int32)), .val (.int (2 : Int32))] []))
      refine own_step (b := T24.setTop (mkF m 54 #[.val (.ref x), .val (.int (1 : Int32)), .val (.int (2 : Int32))] [(.ref x)])) (fun _ qk => XS.aloadN X24.here hx rfl (hb hby d5_53) rfl rfl qk) ?_
      refine own_step (b := T24.setTop (mkF m 55 #[.val (.ref x), .val (.int (1 : Int32)), .val (.int (2 : Int32))] [(.int (1 : Int32)), (.ref x)])) (fun _ qk => XS.iloadN X24.here hx rfl (hb hby d5_54) rfl qk) ?_
      refine own_step (b := T24.setTop (mkF m 56 #[.val (.ref x), .val (.int (1 : Int32)), .val (.int (2 : Int32))] [(.int (2 : Int32)), (.int (1 : Int32)), (.ref x)])) (fun _ qk => XS.iloadN X24.here hx rfl (hb hby d5_55) rfl qk) ?_
      have hs26 : own_strip [c0, c1] = [c1] := by simp [own_strip, List.dropWhile, c20_5b, c20_21b]
      refine own_virtual (a := x) (W := 0) (argsL := [(.int (1 : Int32)), (.int (2 : Int32))]) (st := []) X24 hx hZ hown (own_w hw 41 rfl) (own_w hw 42 rfl) (own_w hw 44 rfl) rfl (own_w hw 43 rfl) (by decide) e24 SS.1 (own_back (W := 0) (rmSubM l Z a0 hw [] x 2 1 2 [c0, c1] h0 SS rfl (by decide) (by decide) (by decide) (by decide) (by decide) OL0 G1 O2 P5 G3 O4 rG3) hZ (own_w hw 45 rfl) (own_w hw 7 rfl) (by decide) (by decide)) (by decide) (by decide) (by rw [hml]; rfl) (lenOf pd10 rfl) rfl (Nat.le_of_ble_eq_true rfl) (hb hby d5_56) (fun v27 T27 L27 X27 hQ27 => ?_)
      obtain ⟨r27, rfl, M27, E27, SS27⟩ := hQ27
      have z27 : h0.size ≤ T27.heap.size := E27.1
      show own_G p e below _ (T27.setTop (mkF m 59 #[.val (.ref x), .val (.int (1 : Int32)), .val (.int (2 : Int32))] [(.ref r27)]))
      exact own_retXR X27 hx hS (by omega) hret rfl rfl rfl hlk (hb hby d5_59) ⟨_, rfl, M27, E27, by rw [hs26]; exact SS27⟩ (by decide) (by decide)
    · show own_G p e below _ (T20.setTop (mkF m 23 #[.val (.ref x), .val (.int (1 : Int32)), .val (.int (2 : Int32))] []))
      have c20_21b : (own_bl c1) = true := own_bi_t c20_21
      refine own_step (b := T20.setTop (mkF m 26 #[.val (.ref x), .val (.int (2 : Int32)), .val (.int (2 : Int32))] [])) (fun _ qk => XS.iinc X20.here hx rfl (hb hby d5_23) rfl (l' := #[.val (.ref x), .val (.int (2 : Int32)), .val (.int (2 : Int32))]) rfl qk) ?_
      refine own_step (b := T20.setTop (mkF m 7 #[.val (.ref x), .val (.int (2 : Int32)), .val (.int (2 : Int32))] [])) (fun _ qk => XS.goto X20.here hx rfl (pc0 := 26) (pc' := 7) rfl (hb hby d5_26) (by decide) (by decide) qk) ?_
      refine own_step (b := T20.setTop (mkF m 8 #[.val (.ref x), .val (.int (2 : Int32)), .val (.int (2 : Int32))] [(.int (2 : Int32))])) (fun _ qk => XS.iloadN X20.here hx rfl (hb hby d5_7) rfl qk) ?_
      refine own_step (b := T20.setTop (mkF m 9 #[.val (.ref x), .val (.int (2 : Int32)), .val (.int (2 : Int32))] [(.int (2 : Int32)), (.int (2 : Int32))])) (fun _ qk => XS.iloadN X20.here hx rfl (hb hby d5_8) rfl qk) ?_
      refine own_icmp_ge X20 hx (hb hby d5_9) (pc' := 29) (by decide) (by decide) (fun c9_28 => ?_) (fun c9_28 => absurd c9_28 (by decide))
      show own_G p e below _ (T20.setTop (mkF m 29 #[.val (.ref x), .val (.int (2 : Int32)), .val (.int (2 : Int32))] []))
      refine own_step (b := T20.setTop (mkF m 30 #[.val (.ref x), .val (.int (2 : Int32)), .val (.int (2 : Int32))] [(.int (2 : Int32))])) (fun _ qk => XS.iloadN X20.here hx rfl (hb hby d5_29) rfl qk) ?_
      refine own_step (b := T20.setTop (mkF m 31 #[.val (.ref x), .val (.int (2 : Int32)), .val (.int (2 : Int32))] [(.int (2 : Int32)), (.int (2 : Int32))])) (fun _ qk => XS.iloadN X20.here hx rfl (hb hby d5_30) rfl qk) ?_
      refine own_icmp_le X20 hx (hb hby d5_31) (pc' := 53) (by decide) (by decide) (fun c31_29 => ?_) (fun c31_29 => absurd c31_29 (by decide))
      show own_G p e below _ (T20.setTop (mkF m 53 #[.val (.ref x), .val (.int (2 : Int32)), .val (.int (2 : Int32))] []))
      refine own_step (b := T20.setTop (mkF m 54 #[.val (.ref x), .val (.int (2 : Int32)), .val (.int (2 : Int32))] [(.ref x)])) (fun _ qk => XS.aloadN X20.here hx rfl (hb hby d5_53) rfl rfl qk) ?_
      refine own_step (b := T20.setTop (mkF m 55 #[.val (.ref x), .val (.int (2 : Int32)), .val (.int (2 : Int32))] [(.int (2 : Int32)), (.ref x)])) (fun _ qk => XS.iloadN X20.here hx rfl (hb hby d5_54) rfl qk) ?_
      refine own_step (b := T20.setTop (mkF m 56 #[.val (.ref x), .val (.int (2 : Int32)), .val (.int (2 : Int32))] [(.int (2 : Int32)), (.int (2 : Int32)), (.ref x)])) (fun _ qk => XS.iloadN X20.here hx rfl (hb hby d5_55) rfl qk) ?_
      have hs30 : own_strip [c0, c1] = [] := by simp [own_strip, List.dropWhile, c20_5b, c20_21b]
      refine own_virtualI (a := x) (W := 0) (argsL := [(.int (2 : Int32)), (.int (2 : Int32))]) (st := []) X20 hx hZ hown (own_w hw 41 rfl) (own_w hw 42 rfl) (own_w hw 44 rfl) rfl (own_w hw 43 rfl) (own_w hw 45 rfl) (own_w hw 7 rfl) (by decide) e20 hS hk SS.1 (rmSubE l Z a0 hw [] x 2 2 2 [c0, c1] h0 SS rfl (by decide) (by decide) (by decide) rfl (by decide) OL0 G1 O2 P5 G3 O4 rG3 CH1 HC) (fun _ hW => own_IBw hI hW) (by decide) (by decide) (by decide) (by decide) (by rw [hml]; rfl) (lenOf pd10 rfl) rfl (Nat.le_of_ble_eq_true rfl) (hb hby d5_56) (fun v31 T31 L31 vm31 k31 X31 ev31 z31 hS hk hZ hown hQ31 => ?_)
      obtain ⟨r31, rfl, M31, E31, SS31⟩ := hQ31
      show own_G p e below _ (T31.setTop (mkF m 59 #[.val (.ref x), .val (.int (2 : Int32)), .val (.int (2 : Int32))] [(.ref r31)]))
      exact own_retXR X31 hx hS (by omega) hret rfl rfl rfl hlk (hb hby d5_59) ⟨_, rfl, M31, E31, by rw [hs30]; exact SS31⟩ (by decide) (by decide)
set_option maxRecDepth 65536 in
set_option maxHeartbeats 40000000 in
theorem rmStrip3 (l : Launch) (Z : State) (a0 : Array Value) (hw : ∀ d ∈ tables_1, d.before a0 Z = true) (ws : List Jvm.Cond) (x : Addr) (c0 c1 c2 : Int32) (h0 : Heap) (SS : own_Str Z h0 x [c0, c1, c2]) (OL0 : Old Z Z.heap.size h0) (G1 : Int32) (O2 : Sta Z Z.heap "java/lang/String" "COMPACT_STRINGS" "Z" (.int G1)) (P5 : ¬ (G1 = (0 : Int32))) (G3 : Value) (O4 : Sta Z Z.heap "jdk/internal/util/Preconditions" "SIOOBE_FORMATTER" "Ljava/util/function/BiFunction;" G3) (rG3 : G3.isRef = true) (CH1 : Jvm.Lit.constHeld Z "java/lang/StringLatin1" 151) (HC : Jvm.Lit.compactW.before a0 Z = true) :
    own_MetI l Z (⟨"com/example/pennant/pennant/Trl", "stripBlanks", "(Ljava/lang/String;)Ljava/lang/String;"⟩ : MethodName) prog_78_method_9_code 3 (some (.object "java/lang/String")) ws ⟨5, 2, 8, 122⟩ #[(.ref x)] h0 (fun vm => IB Z vm []) (fun v vm h L => ∃ r : Addr, v = some (.ref r) ∧ Fr Z.heap.size L ∧ Ext h0 h ∧ own_Str Z h r (own_strip [c0, c1, c2])) := by
  refine own_enterI (plainFor_of_name pn4) (fun m => ef_strip m x) ?_
  intro p e s m below meth c T0 vm0 k0 hx hby hml hZ hown hnm hret hlk X0 e0 es0 hS hk hI
  show own_G p e below _ (T0.setTop (mkF m 0 #[.val (.ref x), .unset, .unset] []))
  refine own_step (b := T0.setTop (mkF m 1 #[.val (.ref x), .unset, .unset] [(.int (0 : Int32))])) (fun _ qk => XS.iconst X0.here hx rfl (hb hby d5_0) qk) ?_
  refine own_step (b := T0.setTop (mkF m 2 #[.val (.ref x), .val (.int (0 : Int32)), .unset] [])) (fun _ qk => XS.istoreN X0.here hx rfl (hb hby d5_1) rfl (l' := #[.val (.ref x), .val (.int (0 : Int32)), .unset]) rfl qk) ?_
  refine own_step (b := T0.setTop (mkF m 3 #[.val (.ref x), .val (.int (0 : Int32)), .unset] [(.ref x)])) (fun _ qk => XS.aloadN X0.here hx rfl (hb hby d5_2) rfl rfl qk) ?_
  refine own_virtual (a := x) (W := 0) (argsL := []) (st := []) X0 hx hZ hown (own_w hw 30 rfl) (own_w hw 31 rfl) (own_w hw 33 rfl) rfl (own_w hw 32 rfl) (by decide) e0 SS.1 (own_lenB (W := 0) hZ hw (kI := 4) (own_w hw 6 rfl) SS O2 P5 OL0 (r := (3 : Int32)) rfl (by decide) (by decide)) (by decide) (by decide) (by rw [hml]; rfl) (lenOf pd6 rfl) rfl (Nat.le_of_ble_eq_true rfl) (hb hby d5_3) (fun v1 T1 L1 X1 hQ1 => ?_)
  obtain ⟨rfl, rfl, hh1⟩ := hQ1
  rw [List.append_nil] at X1
  show own_G p e below _ (T1.setTop (mkF m 6 #[.val (.ref x), .val (.int (0 : Int32)), .unset] [(.int (3 : Int32))]))
  refine own_step (b := T1.setTop (mkF m 7 #[.val (.ref x), .val (.int (0 : Int32)), .val (.int (3 : Int32))] [])) (fun _ qk => XS.istoreN X1.here hx rfl (hb hby d5_6) rfl (l' := #[.val (.ref x), .val (.int (0 : Int32)), .val (.int (3 : Int32))]) rfl qk) ?_
  refine own_step (b := T1.setTop (mkF m 8 #[.val (.ref x), .val (.int (0 : Int32)), .val (.int (3 : Int32))] [(.int (0 : Int32))])) (fun _ qk => XS.iloadN X1.here hx rfl (hb hby d5_7) rfl qk) ?_
  refine own_step (b := T1.setTop (mkF m 9 #[.val (.ref x), .val (.int (0 : Int32)), .val (.int (3 : Int32))] [(.int (3 : Int32)), (.int (0 : Int32))])) (fun _ qk => XS.iloadN X1.here hx rfl (hb hby d5_8) rfl qk) ?_
  refine own_icmp_ge X1 hx (hb hby d5_9) (pc' := 29) (by decide) (by decide) (fun c9_2 => absurd c9_2 (by decide)) (fun c9_2 => ?_)
  show own_G p e below _ (T1.setTop (mkF m 12 #[.val (.ref x), .val (.int (0 : Int32)), .val (.int (3 : Int32))] []))
  refine own_step (b := T1.setTop (mkF m 13 #[.val (.ref x), .val (.int (0 : Int32)), .val (.int (3 : Int32))] [(.ref x)])) (fun _ qk => XS.aloadN X1.here hx rfl (hb hby d5_12) rfl rfl qk) ?_
  refine own_step (b := T1.setTop (mkF m 14 #[.val (.ref x), .val (.int (0 : Int32)), .val (.int (3 : Int32))] [(.int (0 : Int32)), (.ref x)])) (fun _ qk => XS.iloadN X1.here hx rfl (hb hby d5_13) rfl qk) ?_
  refine own_virtual (a := x) (W := 0) (argsL := [(.int (0 : Int32))]) (st := []) X1 hx hZ hown (own_w hw 72 rfl) (own_w hw 73 rfl) (own_w hw 75 rfl) rfl (own_w hw 74 rfl) (by decide) hh1 SS.1 (own_chB (W := 0) hZ hw (kI := 4) (own_w hw 6 rfl) SS O2 P5 O4 rG3 OL0 0 (Nat.le_of_ble_eq_true rfl) (j := (0 : Int32)) rfl (r := c0) rfl (by decide) (by decide)) (by decide) (by decide) (by rw [hml]; rfl) (lenOf pd11 rfl) rfl (Nat.le_of_ble_eq_true rfl) (hb hby d5_14) (fun v3 T3 L3 X3 hQ3 => ?_)
  obtain ⟨rfl, rfl, hh3⟩ := hQ3
  rw [List.append_nil] at X3
  show own_G p e below _ (T3.setTop (mkF m 17 #[.val (.ref x), .val (.int (0 : Int32)), .val (.int (3 : Int32))] [(.int c0)]))
  refine own_staticP (W := 0) (argsL := [(.int c0)]) (st := []) X3 hx hZ hown (own_w hw 92 rfl) (own_w hw 93 rfl) (own_w hw 28 rfl) (own_w hw 94 rfl) (by decide) hh3 (rmIsb l Z a0 hw [] c0 h0) (by decide) (by decide) (by decide) (by decide) (by rw [hml]; rfl) (lenOf pd12 rfl) rfl (Nat.le_of_ble_eq_true rfl) (hb hby d5_17) (fun T4 X4 e4 => ?_)
  show own_G p e below _ (T4.setTop (mkF m 20 #[.val (.ref x), .val (.int (0 : Int32)), .val (.int (3 : Int32))] [(.int (own_bi (own_bl c0)))]))
  refine own_if_eq X4 hx (hb hby d5_20) (pc' := 29) (by decide) (by decide) (fun c20_5 => ?_) (fun c20_5 => ?_)
  · show own_G p e below _ (T4.setTop (mkF m 29 #[.val (.ref x), .val (.int (0 : Int32)), .val (.int (3 : Int32))] []))
    have c20_5b : (own_bl c0) = false := own_bi_f c20_5
    refine own_step (b := T4.setTop (mkF m 30 #[.val (.ref x), .val (.int (0 : Int32)), .val (.int (3 : Int32))] [(.int (3 : Int32))])) (fun _ qk => XS.iloadN X4.here hx rfl (hb hby d5_29) rfl qk) ?_
    refine own_step (b := T4.setTop (mkF m 31 #[.val (.ref x), .val (.int (0 : Int32)), .val (.int (3 : Int32))] [(.int (0 : Int32)), (.int (3 : Int32))])) (fun _ qk => XS.iloadN X4.here hx rfl (hb hby d5_30) rfl qk) ?_
    refine own_icmp_le X4 hx (hb hby d5_31) (pc' := 53) (by decide) (by decide) (fun c31_6 => absurd c31_6 (by decide)) (fun c31_6 => ?_)
    show own_G p e below _ (T4.setTop (mkF m 34 #[.val (.ref x), .val (.int (0 : Int32)), .val (.int (3 : Int32))] []))
    refine own_step (b := T4.setTop (mkF m 35 #[.val (.ref x), .val (.int (0 : Int32)), .val (.int (3 : Int32))] [(.ref x)])) (fun _ qk => XS.aloadN X4.here hx rfl (hb hby d5_34) rfl rfl qk) ?_
    refine own_step (b := T4.setTop (mkF m 36 #[.val (.ref x), .val (.int (0 : Int32)), .val (.int (3 : Int32))] [(.int (3 : Int32)), (.ref x)])) (fun _ qk => XS.iloadN X4.here hx rfl (hb hby d5_35) rfl qk) ?_
    refine own_step (b := T4.setTop (mkF m 37 #[.val (.ref x), .val (.int (0 : Int32)), .val (.int (3 : Int32))] [(.int (1 : Int32)), (.int (3 : Int32)), (.ref x)])) (fun _ qk => XS.iconst X4.here hx rfl (hb hby d5_36) qk) ?_
    refine own_step (b := T4.setTop (mkF m 38 #[.val (.ref x), .val (.int (0 : Int32)), .val (.int (3 : Int32))] [(.int (2 : Int32)), (.ref x)])) (fun _ qk => XS.isub X4.here hx rfl (hb hby d5_37) rfl qk) ?_
    refine own_virtual (a := x) (W := 0) (argsL := [(.int (2 : Int32))]) (st := []) X4 hx hZ hown (own_w hw 72 rfl) (own_w hw 73 rfl) (own_w hw 75 rfl) rfl (own_w hw 74 rfl) (by decide) e4 SS.1 (own_chB (W := 0) hZ hw (kI := 4) (own_w hw 6 rfl) SS O2 P5 O4 rG3 OL0 2 (Nat.le_of_ble_eq_true rfl) (j := (2 : Int32)) rfl (r := c2) rfl (by decide) (by decide)) (by decide) (by decide) (by rw [hml]; rfl) (lenOf pd11 rfl) rfl (Nat.le_of_ble_eq_true rfl) (hb hby d5_38) (fun v7 T7 L7 X7 hQ7 => ?_)
    obtain ⟨rfl, rfl, hh7⟩ := hQ7
    rw [List.append_nil] at X7
    show own_G p e below _ (T7.setTop (mkF m 41 #[.val (.ref x), .val (.int (0 : Int32)), .val (.int (3 : Int32))] [(.int c2)]))
    refine own_staticP (W := 0) (argsL := [(.int c2)]) (st := []) X7 hx hZ hown (own_w hw 92 rfl) (own_w hw 93 rfl) (own_w hw 28 rfl) (own_w hw 94 rfl) (by decide) hh7 (rmIsb l Z a0 hw [] c2 h0) (by decide) (by decide) (by decide) (by decide) (by rw [hml]; rfl) (lenOf pd12 rfl) rfl (Nat.le_of_ble_eq_true rfl) (hb hby d5_41) (fun T8 X8 e8 => ?_)
    show own_G p e below _ (T8.setTop (mkF m 44 #[.val (.ref x), .val (.int (0 : Int32)), .val (.int (3 : Int32))] [(.int (own_bi (own_bl c2)))]))
    refine own_if_eq X8 hx (hb hby d5_44) (pc' := 53) (by decide) (by decide) (fun c44_9 => ?_) (fun c44_9 => ?_)
    · show own_G p e below _ (T8.setTop (mkF m 53 #[.val (.ref x), .val (.int (0 : Int32)), .val (.int (3 : Int32))] []))
      have c44_9b : (own_bl c2) = false := own_bi_f c44_9
      refine own_step (b := T8.setTop (mkF m 54 #[.val (.ref x), .val (.int (0 : Int32)), .val (.int (3 : Int32))] [(.ref x)])) (fun _ qk => XS.aloadN X8.here hx rfl (hb hby d5_53) rfl rfl qk) ?_
      refine own_step (b := T8.setTop (mkF m 55 #[.val (.ref x), .val (.int (0 : Int32)), .val (.int (3 : Int32))] [(.int (0 : Int32)), (.ref x)])) (fun _ qk => XS.iloadN X8.here hx rfl (hb hby d5_54) rfl qk) ?_
      refine own_step (b := T8.setTop (mkF m 56 #[.val (.ref x), .val (.int (0 : Int32)), .val (.int (3 : Int32))] [(.int (3 : Int32)), (.int (0 : Int32)), (.ref x)])) (fun _ qk => XS.iloadN X8.here hx rfl (hb hby d5_55) rfl qk) ?_
      have hs10 : own_strip [c0, c1, c2] = [c0, c1, c2] := by simp [own_strip, List.dropWhile, c20_5b, c44_9b]
      refine own_virtualP (a := x) (W := 0) (argsL := [(.int (0 : Int32)), (.int (3 : Int32))]) (st := []) X8 hx hZ hown (own_w hw 41 rfl) (own_w hw 42 rfl) (own_w hw 44 rfl) rfl (own_w hw 43 rfl) (by decide) e8 SS.1 (rmSubT l Z a0 hw [] x 3 0 3 [c0, c1, c2] h0 SS rfl (by decide) (by decide) (by decide) ⟨rfl, rfl⟩ OL0 G1 O2 P5 G3 O4 rG3) (own_w hw 45 rfl) (own_w hw 7 rfl) (by decide) (by decide) (by decide) (by decide) (by rw [hml]; rfl) (lenOf pd10 rfl) rfl (Nat.le_of_ble_eq_true rfl) (hb hby d5_56) (fun T11 X11 e11 => ?_)
      show own_G p e below _ (T11.setTop (mkF m 59 #[.val (.ref x), .val (.int (0 : Int32)), .val (.int (3 : Int32))] [(.ref x)]))
      exact own_retXR X11 hx hS (by rw [show T11.heap = h0 from e11]; omega) hret rfl rfl rfl hlk (hb hby d5_59) ⟨_, rfl, Fr.nil _, by rw [e11]; exact own_ext (Keep.refl _ _), by rw [e11, hs10]; exact SS⟩ (by decide) (by decide)
    · show own_G p e below _ (T8.setTop (mkF m 47 #[.val (.ref x), .val (.int (0 : Int32)), .val (.int (3 : Int32))] []))
      have c44_9b : (own_bl c2) = true := own_bi_t c44_9
      refine own_step (b := T8.setTop (mkF m 50 #[.val (.ref x), .val (.int (0 : Int32)), .val (.int (2 : Int32))] [])) (fun _ qk => XS.iinc X8.here hx rfl (hb hby d5_47) rfl (l' := #[.val (.ref x), .val (.int (0 : Int32)), .val (.int (2 : Int32))]) rfl qk) ?_
      refine own_step (b := T8.setTop (mkF m 29 #[.val (.ref x), .val (.int (0 : Int32)), .val (.int (2 : Int32))] [])) (fun _ qk => XS.goto X8.here hx rfl (pc0 := 50) (pc' := 29) rfl (hb hby d5_50) (by decide) (by decide) qk) ?_
      refine own_step (b := T8.setTop (mkF m 30 #[.val (.ref x), .val (.int (0 : Int32)), .val (.int (2 : Int32))] [(.int (2 : Int32))])) (fun _ qk => XS.iloadN X8.here hx rfl (hb hby d5_29) rfl qk) ?_
      refine own_step (b := T8.setTop (mkF m 31 #[.val (.ref x), .val (.int (0 : Int32)), .val (.int (2 : Int32))] [(.int (0 : Int32)), (.int (2 : Int32))])) (fun _ qk => XS.iloadN X8.here hx rfl (hb hby d5_30) rfl qk) ?_
      refine own_icmp_le X8 hx (hb hby d5_31) (pc' := 53) (by decide) (by decide) (fun c31_12 => absurd c31_12 (by decide)) (fun c31_12 => ?_)
      show own_G p e below _ (T8.setTop (mkF m 34 #[.val (.ref x), .val (.int (0 : Int32)), .val (.int (2 : Int32))] []))
      refine own_step (b := T8.setTop (mkF m 35 #[.val (.ref x), .val (.int (0 : Int32)), .val (.int (2 : Int32))] [(.ref x)])) (fun _ qk => XS.aloadN X8.here hx rfl (hb hby d5_34) rfl rfl qk) ?_
      refine own_step (b := T8.setTop (mkF m 36 #[.val (.ref x), .val (.int (0 : Int32)), .val (.int (2 : Int32))] [(.int (2 : Int32)), (.ref x)])) (fun _ qk => XS.iloadN X8.here hx rfl (hb hby d5_35) rfl qk) ?_
      refine own_step (b := T8.setTop (mkF m 37 #[.val (.ref x), .val (.int (0 : Int32)), .val (.int (2 : Int32))] [(.int (1 : Int32)), (.int (2 : Int32)), (.ref x)])) (fun _ qk => XS.iconst X8.here hx rfl (hb hby d5_36) qk) ?_
      refine own_step (b := T8.setTop (mkF m 38 #[.val (.ref x), .val (.int (0 : Int32)), .val (.int (2 : Int32))] [(.int (1 : Int32)), (.ref x)])) (fun _ qk => XS.isub X8.here hx rfl (hb hby d5_37) rfl qk) ?_
      refine own_virtual (a := x) (W := 0) (argsL := [(.int (1 : Int32))]) (st := []) X8 hx hZ hown (own_w hw 72 rfl) (own_w hw 73 rfl) (own_w hw 75 rfl) rfl (own_w hw 74 rfl) (by decide) e8 SS.1 (own_chB (W := 0) hZ hw (kI := 4) (own_w hw 6 rfl) SS O2 P5 O4 rG3 OL0 1 (Nat.le_of_ble_eq_true rfl) (j := (1 : Int32)) rfl (r := c1) rfl (by decide) (by decide)) (by decide) (by decide) (by rw [hml]; rfl) (lenOf pd11 rfl) rfl (Nat.le_of_ble_eq_true rfl) (hb hby d5_38) (fun v13 T13 L13 X13 hQ13 => ?_)
      obtain ⟨rfl, rfl, hh13⟩ := hQ13
      rw [List.append_nil] at X13
      show own_G p e below _ (T13.setTop (mkF m 41 #[.val (.ref x), .val (.int (0 : Int32)), .val (.int (2 : Int32))] [(.int c1)]))
      refine own_staticP (W := 0) (argsL := [(.int c1)]) (st := []) X13 hx hZ hown (own_w hw 92 rfl) (own_w hw 93 rfl) (own_w hw 28 rfl) (own_w hw 94 rfl) (by decide) hh13 (rmIsb l Z a0 hw [] c1 h0) (by decide) (by decide) (by decide) (by decide) (by rw [hml]; rfl) (lenOf pd12 rfl) rfl (Nat.le_of_ble_eq_true rfl) (hb hby d5_41) (fun T14 X14 e14 => ?_)
      show own_G p e below _ (T14.setTop (mkF m 44 #[.val (.ref x), .val (.int (0 : Int32)), .val (.int (2 : Int32))] [(.int (own_bi (own_bl c1)))]))
      refine own_if_eq X14 hx (hb hby d5_44) (pc' := 53) (by decide) (by decide) (fun c44_15 => ?_) (fun c44_15 => ?_)
      · show own_G p e below _ (T14.setTop (mkF m 53 #[.val (.ref x), .val (.int (0 : Int32)), .val (.int (2 : Int32))] []))
        have c44_15b : (own_bl c1) = false := own_bi_f c44_15
        refine own_step (b := T14.setTop (mkF m 54 #[.val (.ref x), .val (.int (0 : Int32)), .val (.int (2 : Int32))] [(.ref x)])) (fun _ qk => XS.aloadN X14.here hx rfl (hb hby d5_53) rfl rfl qk) ?_
        refine own_step (b := T14.setTop (mkF m 55 #[.val (.ref x), .val (.int (0 : Int32)), .val (.int (2 : Int32))] [(.int (0 : Int32)), (.ref x)])) (fun _ qk => XS.iloadN X14.here hx rfl (hb hby d5_54) rfl qk) ?_
        refine own_step (b := T14.setTop (mkF m 56 #[.val (.ref x), .val (.int (0 : Int32)), .val (.int (2 : Int32))] [(.int (2 : Int32)), (.int (0 : Int32)), (.ref x)])) (fun _ qk => XS.iloadN X14.here hx rfl (hb hby d5_55) rfl qk) ?_
        have hs16 : own_strip [c0, c1, c2] = [c0, c1] := by simp [own_strip, List.dropWhile, c20_5b, c44_9b, c44_15b]
        refine own_virtual (a := x) (W := 0) (argsL := [(.int (0 : Int32)), (.int (2 : Int32))]) (st := []) X14 hx hZ hown (own_w hw 41 rfl) (own_w hw 42 rfl) (own_w hw 44 rfl) rfl (own_w hw 43 rfl) (by decide) e14 SS.1 (own_back (W := 0) (rmSubM l Z a0 hw [] x 3 0 2 [c0, c1, c2] h0 SS rfl (by decide) (by decide) (by decide) (by decide) (by decide) OL0 G1 O2 P5 G3 O4 rG3) hZ (own_w hw 45 rfl) (own_w hw 7 rfl) (by decide) (by decide)) (by decide) (by decide) (by rw [hml]; rfl) (lenOf pd10 rfl) rfl (Nat.le_of_ble_eq_true rfl) (hb hby d5_56) (fun v17 T17 L17 X17 hQ17 => ?_)
        obtain ⟨r17, rfl, M17, E17, SS17⟩ := hQ17
        have z17 : h0.size ≤ T17.heap.size := E17.1
        show own_G p e below _ (T17.setTop (mkF m 59 #[.val (.ref x), .val (.int (0 : Int32)), .val (.int (2 : Int32))] [(.ref r17)]))
        exact own_retXR X17 hx hS (by omega) hret rfl rfl rfl hlk (hb hby d5_59) ⟨_, rfl, M17, E17, by rw [hs16]; exact SS17⟩ (by decide) (by decide)
      · show own_G p e below _ (T14.setTop (mkF m 47 #[.val (.ref x), .val (.int (0 : Int32)), .val (.int (2 : Int32))] []))
        have c44_15b : (own_bl c1) = true := own_bi_t c44_15
        refine own_step (b := T14.setTop (mkF m 50 #[.val (.ref x), .val (.int (0 : Int32)), .val (.int (1 : Int32))] [])) (fun _ qk => XS.iinc X14.here hx rfl (hb hby d5_47) rfl (l' := #[.val (.ref x), .val (.int (0 : Int32)), .val (.int (1 : Int32))]) rfl qk) ?_
        refine own_step (b := T14.setTop (mkF m 29 #[.val (.ref x), .val (.int (0 : Int32)), .val (.int (1 : Int32))] [])) (fun _ qk => XS.goto X14.here hx rfl (pc0 := 50) (pc' := 29) rfl (hb hby d5_50) (by decide) (by decide) qk) ?_
        refine own_step (b := T14.setTop (mkF m 30 #[.val (.ref x), .val (.int (0 : Int32)), .val (.int (1 : Int32))] [(.int (1 : Int32))])) (fun _ qk => XS.iloadN X14.here hx rfl (hb hby d5_29) rfl qk) ?_
        refine own_step (b := T14.setTop (mkF m 31 #[.val (.ref x), .val (.int (0 : Int32)), .val (.int (1 : Int32))] [(.int (0 : Int32)), (.int (1 : Int32))])) (fun _ qk => XS.iloadN X14.here hx rfl (hb hby d5_30) rfl qk) ?_
        refine own_icmp_le X14 hx (hb hby d5_31) (pc' := 53) (by decide) (by decide) (fun c31_18 => absurd c31_18 (by decide)) (fun c31_18 => ?_)
        show own_G p e below _ (T14.setTop (mkF m 34 #[.val (.ref x), .val (.int (0 : Int32)), .val (.int (1 : Int32))] []))
        refine own_step (b := T14.setTop (mkF m 35 #[.val (.ref x), .val (.int (0 : Int32)), .val (.int (1 : Int32))] [(.ref x)])) (fun _ qk => XS.aloadN X14.here hx rfl (hb hby d5_34) rfl rfl qk) ?_
        refine own_step (b := T14.setTop (mkF m 36 #[.val (.ref x), .val (.int (0 : Int32)), .val (.int (1 : Int32))] [(.int (1 : Int32)), (.ref x)])) (fun _ qk => XS.iloadN X14.here hx rfl (hb hby d5_35) rfl qk) ?_
        refine own_step (b := T14.setTop (mkF m 37 #[.val (.ref x), .val (.int (0 : Int32)), .val (.int (1 : Int32))] [(.int (1 : Int32)), (.int (1 : Int32)), (.ref x)])) (fun _ qk => XS.iconst X14.here hx rfl (hb hby d5_36) qk) ?_
        refine own_step (b := T14.setTop (mkF m 38 #[.val (.ref x), .val (.int (0 : Int32)), .val (.int (1 : Int32))] [(.int (0 : Int32)), (.ref x)])) (fun _ qk => XS.isub X14.here hx rfl (hb hby d5_37) rfl qk) ?_
        refine own_virtual (a := x) (W := 0) (argsL := [(.int (0 : Int32))]) (st := []) X14 hx hZ hown (own_w hw 72 rfl) (own_w hw 73 rfl) (own_w hw 75 rfl) rfl (own_w hw 74 rfl) (by decide) e14 SS.1 (own_chB (W := 0) hZ hw (kI := 4) (own_w hw 6 rfl) SS O2 P5 O4 rG3 OL0 0 (Nat.le_of_ble_eq_true rfl) (j := (0 : Int32)) rfl (r := c0) rfl (by decide) (by decide)) (by decide) (by decide) (by rw [hml]; rfl) (lenOf pd11 rfl) rfl (Nat.le_of_ble_eq_true rfl) (hb hby d5_38) (fun v19 T19 L19 X19 hQ19 => ?_)
        obtain ⟨rfl, rfl, hh19⟩ := hQ19
        rw [List.append_nil] at X19
        show own_G p e below _ (T19.setTop (mkF m 41 #[.val (.ref x), .val (.int (0 : Int32)), .val (.int (1 : Int32))] [(.int c0)]))
        refine own_staticP (W := 0) (argsL := [(.int c0)]) (st := []) X19 hx hZ hown (own_w hw 92 rfl) (own_w hw 93 rfl) (own_w hw 28 rfl) (own_w hw 94 rfl) (by decide) hh19 (rmIsb l Z a0 hw [] c0 h0) (by decide) (by decide) (by decide) (by decide) (by rw [hml]; rfl) (lenOf pd12 rfl) rfl (Nat.le_of_ble_eq_true rfl) (hb hby d5_41) (fun T20 X20 e20 => ?_)
        show own_G p e below _ (T20.setTop (mkF m 44 #[.val (.ref x), .val (.int (0 : Int32)), .val (.int (1 : Int32))] [(.int (own_bi (own_bl c0)))]))
        refine own_if_eq X20 hx (hb hby d5_44) (pc' := 53) (by decide) (by decide) (fun c44_21 => ?_) (fun c44_21 => absurd c44_21 (by rw [c20_5b]; decide))
        show own_G p e below _ (T20.setTop (mkF m 53 #[.val (.ref x), .val (.int (0 : Int32)), .val (.int (1 : Int32))] []))
        refine own_step (b := T20.setTop (mkF m 54 #[.val (.ref x), .val (.int (0 : Int32)), .val (.int (1 : Int32))] [(.ref x)])) (fun _ qk => XS.aloadN X20.here hx rfl (hb hby d5_53) rfl rfl qk) ?_
        refine own_step (b := T20.setTop (mkF m 55 #[.val (.ref x), .val (.int (0 : Int32)), .val (.int (1 : Int32))] [(.int (0 : Int32)), (.ref x)])) (fun _ qk => XS.iloadN X20.here hx rfl (hb hby d5_54) rfl qk) ?_
        refine own_step (b := T20.setTop (mkF m 56 #[.val (.ref x), .val (.int (0 : Int32)), .val (.int (1 : Int32))] [(.int (1 : Int32)), (.int (0 : Int32)), (.ref x)])) (fun _ qk => XS.iloadN X20.here hx rfl (hb hby d5_55) rfl qk) ?_
        have hs22 : own_strip [c0, c1, c2] = [c0] := by simp [own_strip, List.dropWhile, c20_5b, c44_9b, c44_15b]
        refine own_virtual (a := x) (W := 0) (argsL := [(.int (0 : Int32)), (.int (1 : Int32))]) (st := []) X20 hx hZ hown (own_w hw 41 rfl) (own_w hw 42 rfl) (own_w hw 44 rfl) rfl (own_w hw 43 rfl) (by decide) e20 SS.1 (own_back (W := 0) (rmSubM l Z a0 hw [] x 3 0 1 [c0, c1, c2] h0 SS rfl (by decide) (by decide) (by decide) (by decide) (by decide) OL0 G1 O2 P5 G3 O4 rG3) hZ (own_w hw 45 rfl) (own_w hw 7 rfl) (by decide) (by decide)) (by decide) (by decide) (by rw [hml]; rfl) (lenOf pd10 rfl) rfl (Nat.le_of_ble_eq_true rfl) (hb hby d5_56) (fun v23 T23 L23 X23 hQ23 => ?_)
        obtain ⟨r23, rfl, M23, E23, SS23⟩ := hQ23
        have z23 : h0.size ≤ T23.heap.size := E23.1
        show own_G p e below _ (T23.setTop (mkF m 59 #[.val (.ref x), .val (.int (0 : Int32)), .val (.int (1 : Int32))] [(.ref r23)]))
        exact own_retXR X23 hx hS (by omega) hret rfl rfl rfl hlk (hb hby d5_59) ⟨_, rfl, M23, E23, by rw [hs22]; exact SS23⟩ (by decide) (by decide)
  · show own_G p e below _ (T4.setTop (mkF m 23 #[.val (.ref x), .val (.int (0 : Int32)), .val (.int (3 : Int32))] []))
    have c20_5b : (own_bl c0) = true := own_bi_t c20_5
    refine own_step (b := T4.setTop (mkF m 26 #[.val (.ref x), .val (.int (1 : Int32)), .val (.int (3 : Int32))] [])) (fun _ qk => XS.iinc X4.here hx rfl (hb hby d5_23) rfl (l' := #[.val (.ref x), .val (.int (1 : Int32)), .val (.int (3 : Int32))]) rfl qk) ?_
    refine own_step (b := T4.setTop (mkF m 7 #[.val (.ref x), .val (.int (1 : Int32)), .val (.int (3 : Int32))] [])) (fun _ qk => XS.goto X4.here hx rfl (pc0 := 26) (pc' := 7) rfl (hb hby d5_26) (by decide) (by decide) qk) ?_
    refine own_step (b := T4.setTop (mkF m 8 #[.val (.ref x), .val (.int (1 : Int32)), .val (.int (3 : Int32))] [(.int (1 : Int32))])) (fun _ qk => XS.iloadN X4.here hx rfl (hb hby d5_7) rfl qk) ?_
    refine own_step (b := T4.setTop (mkF m 9 #[.val (.ref x), .val (.int (1 : Int32)), .val (.int (3 : Int32))] [(.int (3 : Int32)), (.int (1 : Int32))])) (fun _ qk => XS.iloadN X4.here hx rfl (hb hby d5_8) rfl qk) ?_
    refine own_icmp_ge X4 hx (hb hby d5_9) (pc' := 29) (by decide) (by decide) (fun c9_24 => absurd c9_24 (by decide)) (fun c9_24 => ?_)
    show own_G p e below _ (T4.setTop (mkF m 12 #[.val (.ref x), .val (.int (1 : Int32)), .val (.int (3 : Int32))] []))
    refine own_step (b := T4.setTop (mkF m 13 #[.val (.ref x), .val (.int (1 : Int32)), .val (.int (3 : Int32))] [(.ref x)])) (fun _ qk => XS.aloadN X4.here hx rfl (hb hby d5_12) rfl rfl qk) ?_
    refine own_step (b := T4.setTop (mkF m 14 #[.val (.ref x), .val (.int (1 : Int32)), .val (.int (3 : Int32))] [(.int (1 : Int32)), (.ref x)])) (fun _ qk => XS.iloadN X4.here hx rfl (hb hby d5_13) rfl qk) ?_
    refine own_virtual (a := x) (W := 0) (argsL := [(.int (1 : Int32))]) (st := []) X4 hx hZ hown (own_w hw 72 rfl) (own_w hw 73 rfl) (own_w hw 75 rfl) rfl (own_w hw 74 rfl) (by decide) e4 SS.1 (own_chB (W := 0) hZ hw (kI := 4) (own_w hw 6 rfl) SS O2 P5 O4 rG3 OL0 1 (Nat.le_of_ble_eq_true rfl) (j := (1 : Int32)) rfl (r := c1) rfl (by decide) (by decide)) (by decide) (by decide) (by rw [hml]; rfl) (lenOf pd11 rfl) rfl (Nat.le_of_ble_eq_true rfl) (hb hby d5_14) (fun v25 T25 L25 X25 hQ25 => ?_)
    obtain ⟨rfl, rfl, hh25⟩ := hQ25
    rw [List.append_nil] at X25
    show own_G p e below _ (T25.setTop (mkF m 17 #[.val (.ref x), .val (.int (1 : Int32)), .val (.int (3 : Int32))] [(.int c1)]))
    refine own_staticP (W := 0) (argsL := [(.int c1)]) (st := []) X25 hx hZ hown (own_w hw 92 rfl) (own_w hw 93 rfl) (own_w hw 28 rfl) (own_w hw 94 rfl) (by decide) hh25 (rmIsb l Z a0 hw [] c1 h0) (by decide) (by decide) (by decide) (by decide) (by rw [hml]; rfl) (lenOf pd12 rfl) rfl (Nat.le_of_ble_eq_true rfl) (hb hby d5_17) (fun T26 X26 e26 => ?_)
    show own_G p e below _ (T26.setTop (mkF m 20 #[.val (.ref x), .val (.int (1 : Int32)), .val (.int (3 : Int32))] [(.int (own_bi (own_bl c1)))]))
    refine own_if_eq X26 hx (hb hby d5_20) (pc' := 29) (by decide) (by decide) (fun c20_27 => ?_) (fun c20_27 => ?_)
    · show own_G p e below _ (T26.setTop (mkF m 29 #[.val (.ref x), .val (.int (1 : Int32)), .val (.int (3 : Int32))] []))
      have c20_27b : (own_bl c1) = false := own_bi_f c20_27
      refine own_step (b := T26.setTop (mkF m 30 #[.val (.ref x), .val (.int (1 : Int32)), .val (.int (3 : Int32))] [(.int (3 : Int32))])) (fun _ qk => XS.iloadN X26.here hx rfl (hb hby d5_29) rfl qk) ?_
      refine own_step (b := T26.setTop (mkF m 31 #[.val (.ref x), .val (.int (1 : Int32)), .val (.int (3 : Int32))] [(.int (1 : Int32)), (.int (3 : Int32))])) (fun _ qk => XS.iloadN X26.here hx rfl (hb hby d5_30) rfl qk) ?_
      refine own_icmp_le X26 hx (hb hby d5_31) (pc' := 53) (by decide) (by decide) (fun c31_28 => absurd c31_28 (by decide)) (fun c31_28 => ?_)
      show own_G p e below _ (T26.setTop (mkF m 34 #[.val (.ref x), .val (.int (1 : Int32)), .val (.int (3 : Int32))] []))
      refine own_step (b := T26.setTop (mkF m 35 #[.val (.ref x), .val (.int (1 : Int32)), .val (.int (3 : Int32))] [(.ref x)])) (fun _ qk => XS.aloadN X26.here hx rfl (hb hby d5_34) rfl rfl qk) ?_
      refine own_step (b := T26.setTop (mkF m 36 #[.val (.ref x), .val (.int (1 : Int32)), .val (.int (3 : Int32))] [(.int (3 : Int32)), (.ref x)])) (fun _ qk => XS.iloadN X26.here hx rfl (hb hby d5_35) rfl qk) ?_
      refine own_step (b := T26.setTop (mkF m 37 #[.val (.ref x), .val (.int (1 : Int32)), .val (.int (3 : Int32))] [(.int (1 : Int32)), (.int (3 : Int32)), (.ref x)])) (fun _ qk => XS.iconst X26.here hx rfl (hb hby d5_36) qk) ?_
      refine own_step (b := T26.setTop (mkF m 38 #[.val (.ref x), .val (.int (1 : Int32)), .val (.int (3 : Int32))] [(.int (2 : Int32)), (.ref x)])) (fun _ qk => XS.isub X26.here hx rfl (hb hby d5_37) rfl qk) ?_
      refine own_virtual (a := x) (W := 0) (argsL := [(.int (2 : Int32))]) (st := []) X26 hx hZ hown (own_w hw 72 rfl) (own_w hw 73 rfl) (own_w hw 75 rfl) rfl (own_w hw 74 rfl) (by decide) e26 SS.1 (own_chB (W := 0) hZ hw (kI := 4) (own_w hw 6 rfl) SS O2 P5 O4 rG3 OL0 2 (Nat.le_of_ble_eq_true rfl) (j := (2 : Int32)) rfl (r := c2) rfl (by decide) (by decide)) (by decide) (by decide) (by rw [hml]; rfl) (lenOf pd11 rfl) rfl (Nat.le_of_ble_eq_true rfl) (hb hby d5_38) (fun v29 T29 L29 X29 hQ29 => ?_)
      obtain ⟨rfl, rfl, hh29⟩ := hQ29
      rw [List.append_nil] at X29
      show own_G p e below _ (T29.setTop (mkF m 41 #[.val (.ref x), .val (.int (1 : Int32)), .val (.int (3 : Int32))] [(.int c2)]))
      refine own_staticP (W := 0) (argsL := [(.int c2)]) (st := []) X29 hx hZ hown (own_w hw 92 rfl) (own_w hw 93 rfl) (own_w hw 28 rfl) (own_w hw 94 rfl) (by decide) hh29 (rmIsb l Z a0 hw [] c2 h0) (by decide) (by decide) (by decide) (by decide) (by rw [hml]; rfl) (lenOf pd12 rfl) rfl (Nat.le_of_ble_eq_true rfl) (hb hby d5_41) (fun T30 X30 e30 => ?_)
      show own_G p e below _ (T30.setTop (mkF m 44 #[.val (.ref x), .val (.int (1 : Int32)), .val (.int (3 : Int32))] [(.int (own_bi (own_bl c2)))]))
      refine own_if_eq X30 hx (hb hby d5_44) (pc' := 53) (by decide) (by decide) (fun c44_31 => ?_) (fun c44_31 => ?_)
      · show own_G p e below _ (T30.setTop (mkF m 53 #[.val (.ref x), .val (.int (1 : Int32)), .val (.int (3 : Int32))] []))
        have c44_31b : (own_bl c2) = false := own_bi_f c44_31
        refine own_step (b := T30.setTop (mkF m 54 #[.val (.ref x), .val (.int (1 : Int32)), .val (.int (3 : Int32))] [(.ref x)])) (fun _ qk => XS.aloadN X30.here hx rfl (hb hby d5_53) rfl rfl qk) ?_
        refine own_step (b := T30.setTop (mkF m 55 #[.val (.ref x), .val (.int (1 : Int32)), .val (.int (3 : Int32))] [(.int (1 : Int32)), (.ref x)])) (fun _ qk => XS.iloadN X30.here hx rfl (hb hby d5_54) rfl qk) ?_
        refine own_step (b := T30.setTop (mkF m 56 #[.val (.ref x), .val (.int (1 : Int32)), .val (.int (3 : Int32))] [(.int (3 : Int32)), (.int (1 : Int32)), (.ref x)])) (fun _ qk => XS.iloadN X30.here hx rfl (hb hby d5_55) rfl qk) ?_
        have hs32 : own_strip [c0, c1, c2] = [c1, c2] := by simp [own_strip, List.dropWhile, c20_5b, c20_27b, c44_31b]
        refine own_virtual (a := x) (W := 0) (argsL := [(.int (1 : Int32)), (.int (3 : Int32))]) (st := []) X30 hx hZ hown (own_w hw 41 rfl) (own_w hw 42 rfl) (own_w hw 44 rfl) rfl (own_w hw 43 rfl) (by decide) e30 SS.1 (own_back (W := 0) (rmSubM l Z a0 hw [] x 3 1 3 [c0, c1, c2] h0 SS rfl (by decide) (by decide) (by decide) (by decide) (by decide) OL0 G1 O2 P5 G3 O4 rG3) hZ (own_w hw 45 rfl) (own_w hw 7 rfl) (by decide) (by decide)) (by decide) (by decide) (by rw [hml]; rfl) (lenOf pd10 rfl) rfl (Nat.le_of_ble_eq_true rfl) (hb hby d5_56) (fun v33 T33 L33 X33 hQ33 => ?_)
        obtain ⟨r33, rfl, M33, E33, SS33⟩ := hQ33
        have z33 : h0.size ≤ T33.heap.size := E33.1
        show own_G p e below _ (T33.setTop (mkF m 59 #[.val (.ref x), .val (.int (1 : Int32)), .val (.int (3 : Int32))] [(.ref r33)]))
        exact own_retXR X33 hx hS (by omega) hret rfl rfl rfl hlk (hb hby d5_59) ⟨_, rfl, M33, E33, by rw [hs32]; exact SS33⟩ (by decide) (by decide)
      · show own_G p e below _ (T30.setTop (mkF m 47 #[.val (.ref x), .val (.int (1 : Int32)), .val (.int (3 : Int32))] []))
        have c44_31b : (own_bl c2) = true := own_bi_t c44_31
        refine own_step (b := T30.setTop (mkF m 50 #[.val (.ref x), .val (.int (1 : Int32)), .val (.int (2 : Int32))] [])) (fun _ qk => XS.iinc X30.here hx rfl (hb hby d5_47) rfl (l' := #[.val (.ref x), .val (.int (1 : Int32)), .val (.int (2 : Int32))]) rfl qk) ?_
        refine own_step (b := T30.setTop (mkF m 29 #[.val (.ref x), .val (.int (1 : Int32)), .val (.int (2 : Int32))] [])) (fun _ qk => XS.goto X30.here hx rfl (pc0 := 50) (pc' := 29) rfl (hb hby d5_50) (by decide) (by decide) qk) ?_
        refine own_step (b := T30.setTop (mkF m 30 #[.val (.ref x), .val (.int (1 : Int32)), .val (.int (2 : Int32))] [(.int (2 : Int32))])) (fun _ qk => XS.iloadN X30.here hx rfl (hb hby d5_29) rfl qk) ?_
        refine own_step (b := T30.setTop (mkF m 31 #[.val (.ref x), .val (.int (1 : Int32)), .val (.int (2 : Int32))] [(.int (1 : Int32)), (.int (2 : Int32))])) (fun _ qk => XS.iloadN X30.here hx rfl (hb hby d5_30) rfl qk) ?_
        refine own_icmp_le X30 hx (hb hby d5_31) (pc' := 53) (by decide) (by decide) (fun c31_34 => absurd c31_34 (by decide)) (fun c31_34 => ?_)
        show own_G p e below _ (T30.setTop (mkF m 34 #[.val (.ref x), .val (.int (1 : Int32)), .val (.int (2 : Int32))] []))
        refine own_step (b := T30.setTop (mkF m 35 #[.val (.ref x), .val (.int (1 : Int32)), .val (.int (2 : Int32))] [(.ref x)])) (fun _ qk => XS.aloadN X30.here hx rfl (hb hby d5_34) rfl rfl qk) ?_
        refine own_step (b := T30.setTop (mkF m 36 #[.val (.ref x), .val (.int (1 : Int32)), .val (.int (2 : Int32))] [(.int (2 : Int32)), (.ref x)])) (fun _ qk => XS.iloadN X30.here hx rfl (hb hby d5_35) rfl qk) ?_
        refine own_step (b := T30.setTop (mkF m 37 #[.val (.ref x), .val (.int (1 : Int32)), .val (.int (2 : Int32))] [(.int (1 : Int32)), (.int (2 : Int32)), (.ref x)])) (fun _ qk => XS.iconst X30.here hx rfl (hb hby d5_36) qk) ?_
        refine own_step (b := T30.setTop (mkF m 38 #[.val (.ref x), .val (.int (1 : Int32)), .val (.int (2 : Int32))] [(.int (1 : Int32)), (.ref x)])) (fun _ qk => XS.isub X30.here hx rfl (hb hby d5_37) rfl qk) ?_
        refine own_virtual (a := x) (W := 0) (argsL := [(.int (1 : Int32))]) (st := []) X30 hx hZ hown (own_w hw 72 rfl) (own_w hw 73 rfl) (own_w hw 75 rfl) rfl (own_w hw 74 rfl) (by decide) e30 SS.1 (own_chB (W := 0) hZ hw (kI := 4) (own_w hw 6 rfl) SS O2 P5 O4 rG3 OL0 1 (Nat.le_of_ble_eq_true rfl) (j := (1 : Int32)) rfl (r := c1) rfl (by decide) (by decide)) (by decide) (by decide) (by rw [hml]; rfl) (lenOf pd11 rfl) rfl (Nat.le_of_ble_eq_true rfl) (hb hby d5_38) (fun v35 T35 L35 X35 hQ35 => ?_)
        obtain ⟨rfl, rfl, hh35⟩ := hQ35
        rw [List.append_nil] at X35
        show own_G p e below _ (T35.setTop (mkF m 41 #[.val (.ref x), .val (.int (1 : Int32)), .val (.int (2 : Int32))] [(.int c1)]))
        refine own_staticP (W := 0) (argsL := [(.int c1)]) (st := []) X35 hx hZ hown (own_w hw 92 rfl) (own_w hw 93 rfl) (own_w hw 28 rfl) (own_w hw 94 rfl) (by decide) hh35 (rmIsb l Z a0 hw [] c1 h0) (by decide) (by decide) (by decide) (by decide) (by rw [hml]; rfl) (lenOf pd12 rfl) rfl (Nat.le_of_ble_eq_true rfl) (hb hby d5_41) (fun T36 X36 e36 => ?_)
        show own_G p e below _ (T36.setTop (mkF m 44 #[.val (.ref x), .val (.int (1 : Int32)), .val (.int (2 : Int32))] [(.int (own_bi (own_bl c1)))]))
        refine own_if_eq X36 hx (hb hby d5_44) (pc' := 53) (by decide) (by decide) (fun c44_37 => ?_) (fun c44_37 => absurd c44_37 (by rw [c20_27b]; decide))
        show own_G p e below _ (T36.setTop (mkF m 53 #[.val (.ref x), .val (.int (1 : Int32)), .val (.int (2 : Int32))] []))
        refine own_step (b := T36.setTop (mkF m 54 #[.val (.ref x), .val (.int (1 : Int32)), .val (.int (2 : Int32))] [(.ref x)])) (fun _ qk => XS.aloadN X36.here hx rfl (hb hby d5_53) rfl rfl qk) ?_
        refine own_step (b := T36.setTop (mkF m 55 #[.val (.ref x), .val (.int (1 : Int32)), .val (.int (2 : Int32))] [(.int (1 : Int32)), (.ref x)])) (fun _ qk => XS.iloadN X36.here hx rfl (hb hby d5_54) rfl qk) ?_
        refine own_step (b := T36.setTop (mkF m 56 #[.val (.ref x), .val (.int (1 : Int32)), .val (.int (2 : Int32))] [(.int (2 : Int32)), (.int (1 : Int32)), (.ref x)])) (fun _ qk => XS.iloadN X36.here hx rfl (hb hby d5_55) rfl qk) ?_
        have hs38 : own_strip [c0, c1, c2] = [c1] := by simp [own_strip, List.dropWhile, c20_5b, c20_27b, c44_31b]
        refine own_virtual (a := x) (W := 0) (argsL := [(.int (1 : Int32)), (.int (2 : Int32))]) (st := []) X36 hx hZ hown (own_w hw 41 rfl) (own_w hw 42 rfl) (own_w hw 44 rfl) rfl (own_w hw 43 rfl) (by decide) e36 SS.1 (own_back (W := 0) (rmSubM l Z a0 hw [] x 3 1 2 [c0, c1, c2] h0 SS rfl (by decide) (by decide) (by decide) (by decide) (by decide) OL0 G1 O2 P5 G3 O4 rG3) hZ (own_w hw 45 rfl) (own_w hw 7 rfl) (by decide) (by decide)) (by decide) (by decide) (by rw [hml]; rfl) (lenOf pd10 rfl) rfl (Nat.le_of_ble_eq_true rfl) (hb hby d5_56) (fun v39 T39 L39 X39 hQ39 => ?_)
        obtain ⟨r39, rfl, M39, E39, SS39⟩ := hQ39
        have z39 : h0.size ≤ T39.heap.size := E39.1
        show own_G p e below _ (T39.setTop (mkF m 59 #[.val (.ref x), .val (.int (1 : Int32)), .val (.int (2 : Int32))] [(.ref r39)]))
        exact own_retXR X39 hx hS (by omega) hret rfl rfl rfl hlk (hb hby d5_59) ⟨_, rfl, M39, E39, by rw [hs38]; exact SS39⟩ (by decide) (by decide)
    · show own_G p e below _ (T26.setTop (mkF m 23 #[.val (.ref x), .val (.int (1 : Int32)), .val (.int (3 : Int32))] []))
      have c20_27b : (own_bl c1) = true := own_bi_t c20_27
      refine own_step (b := T26.setTop (mkF m 26 #[.val (.ref x), .val (.int (2 : Int32)), .val (.int (3 : Int32))] [])) (fun _ qk => XS.iinc X26.here hx rfl (hb hby d5_23) rfl (l' := #[.val (.ref x), .val (.int (2 : Int32)), .val (.int (3 : Int32))]) rfl qk) ?_
      refine own_step (b := T26.setTop (mkF m 7 #[.val (.ref x), .val (.int (2 : Int32)), .val (.int (3 : Int32))] [])) (fun _ qk => XS.goto X26.here hx rfl (pc0 := 26) (pc' := 7) rfl (hb hby d5_26) (by decide) (by decide) qk) ?_
      refine own_step (b := T26.setTop (mkF m 8 #[.val (.ref x), .val (.int (2 : Int32)), .val (.int (3 : Int32))] [(.int (2 : Int32))])) (fun _ qk => XS.iloadN X26.here hx rfl (hb hby d5_7) rfl qk) ?_
      refine own_step (b := T26.setTop (mkF m 9 #[.val (.ref x), .val (.int (2 : Int32)), .val (.int (3 : Int32))] [(.int (3 : Int32)), (.int (2 : Int32))])) (fun _ qk => XS.iloadN X26.here hx rfl (hb hby d5_8) rfl qk) ?_
      refine own_icmp_ge X26 hx (hb hby d5_9) (pc' := 29) (by decide) (by decide) (fun c9_40 => absurd c9_40 (by decide)) (fun c9_40 => ?_)
      show own_G p e below _ (T26.setTop (mkF m 12 #[.val (.ref x), .val (.int (2 : Int32)), .val (.int (3 : Int32))] []))
      refine own_step (b := T26.setTop (mkF m 13 #[.val (.ref x), .val (.int (2 : Int32)), .val (.int (3 : Int32))] [(.ref x)])) (fun _ qk => XS.aloadN X26.here hx rfl (hb hby d5_12) rfl rfl qk) ?_
      refine own_step (b := T26.setTop (mkF m 14 #[.val (.ref x), .val (.int (2 : Int32)), .val (.int (3 : Int32))] [(.int (2 : Int32)), (.ref x)])) (fun _ qk => XS.iloadN X26.here hx rfl (hb hby d5_13) rfl qk) ?_
      refine own_virtual (a := x) (W := 0) (argsL := [(.int (2 : Int32))]) (st := []) X26 hx hZ hown (own_w hw 72 rfl) (own_w hw 73 rfl) (own_w hw 75 rfl) rfl (own_w hw 74 rfl) (by decide) e26 SS.1 (own_chB (W := 0) hZ hw (kI := 4) (own_w hw 6 rfl) SS O2 P5 O4 rG3 OL0 2 (Nat.le_of_ble_eq_true rfl) (j := (2 : Int32)) rfl (r := c2) rfl (by decide) (by decide)) (by decide) (by decide) (by rw [hml]; rfl) (lenOf pd11 rfl) rfl (Nat.le_of_ble_eq_true rfl) (hb hby d5_14) (fun v41 T41 L41 X41 hQ41 => ?_)
      obtain ⟨rfl, rfl, hh41⟩ := hQ41
      rw [List.append_nil] at X41
      show own_G p e below _ (T41.setTop (mkF m 17 #[.val (.ref x), .val (.int (2 : Int32)), .val (.int (3 : Int32))] [(.int c2)]))
      refine own_staticP (W := 0) (argsL := [(.int c2)]) (st := []) X41 hx hZ hown (own_w hw 92 rfl) (own_w hw 93 rfl) (own_w hw 28 rfl) (own_w hw 94 rfl) (by decide) hh41 (rmIsb l Z a0 hw [] c2 h0) (by decide) (by decide) (by decide) (by decide) (by rw [hml]; rfl) (lenOf pd12 rfl) rfl (Nat.le_of_ble_eq_true rfl) (hb hby d5_17) (fun T42 X42 e42 => ?_)
      show own_G p e below _ (T42.setTop (mkF m 20 #[.val (.ref x), .val (.int (2 : Int32)), .val (.int (3 : Int32))] [(.int (own_bi (own_bl c2)))]))
      refine own_if_eq X42 hx (hb hby d5_20) (pc' := 29) (by decide) (by decide) (fun c20_43 => ?_) (fun c20_43 => ?_)
      · show own_G p e below _ (T42.setTop (mkF m 29 #[.val (.ref x), .val (.int (2 : Int32)), .val (.int (3 : Int32))] []))
        have c20_43b : (own_bl c2) = false := own_bi_f c20_43
        refine own_step (b := T42.setTop (mkF m 30 #[.val (.ref x), .val (.int (2 : Int32)), .val (.int (3 : Int32))] [(.int (3 : Int32))])) (fun _ qk => XS.iloadN X42.here hx rfl (hb hby d5_29) rfl qk) ?_
        refine own_step (b := T42.setTop (mkF m 31 #[.val (.ref x), .val (.int (2 : Int32)), .val (.int (3 : Int32))] [(.int (2 : Int32)), (.int (3 : Int32))])) (fun _ qk => XS.iloadN X42.here hx rfl (hb hby d5_30) rfl qk) ?_
        refine own_icmp_le X42 hx (hb hby d5_31) (pc' := 53) (by decide) (by decide) (fun c31_44 => absurd c31_44 (by decide)) (fun c31_44 => ?_)
        show own_G p e below _ (T42.setTop (mkF m 34 #[.val (.ref x), .val (.int (2 : Int32)), .val (.int (3 : Int32))] []))
        refine own_step (b := T42.setTop (mkF m 35 #[.val (.ref x), .val (.int (2 : Int32)), .val (.int (3 : Int32))] [(.ref x)])) (fun _ qk => XS.aloadN X42.here hx rfl (hb hby d5_34) rfl rfl qk) ?_
        refine own_step (b := T42.setTop (mkF m 36 #[.val (.ref x), .val (.int (2 : Int32)), .val (.int (3 : Int32))] [(.int (3 : Int32)), (.ref x)])) (fun _ qk => XS.iloadN X42.here hx rfl (hb hby d5_35) rfl qk) ?_
        refine own_step (b := T42.setTop (mkF m 37 #[.val (.ref x), .val (.int (2 : Int32)), .val (.int (3 : Int32))] [(.int (1 : Int32)), (.int (3 : Int32)), (.ref x)])) (fun _ qk => XS.iconst X42.here hx rfl (hb hby d5_36) qk) ?_
        refine own_step (b := T42.setTop (mkF m 38 #[.val (.ref x), .val (.int (2 : Int32)), .val (.int (3 : Int32))] [(.int (2 : Int32)), (.ref x)])) (fun _ qk => XS.isub X42.here hx rfl (hb hby d5_37) rfl qk) ?_
        refine own_virtual (a := x) (W := 0) (argsL := [(.int (2 : Int32))]) (st := []) X42 hx hZ hown (own_w hw 72 rfl) (own_w hw 73 rfl) (own_w hw 75 rfl) rfl (own_w hw 74 rfl) (by decide) e42 SS.1 (own_chB (W := 0) hZ hw (kI := 4) (own_w hw 6 rfl) SS O2 P5 O4 rG3 OL0 2 (Nat.le_of_ble_eq_true rfl) (j := (2 : Int32)) rfl (r := c2) rfl (by decide) (by decide)) (by decide) (by decide) (by rw [hml]; rfl) (lenOf pd11 rfl) rfl (Nat.le_of_ble_eq_true rfl) (hb hby d5_38) (fun v45 T45 L45 X45 hQ45 => ?_)
        obtain ⟨rfl, rfl, hh45⟩ := hQ45
        rw [List.append_nil] at X45
        show own_G p e below _ (T45.setTop (mkF m 41 #[.val (.ref x), .val (.int (2 : Int32)), .val (.int (3 : Int32))] [(.int c2)]))
        refine own_staticP (W := 0) (argsL := [(.int c2)]) (st := []) X45 hx hZ hown (own_w hw 92 rfl) (own_w hw 93 rfl) (own_w hw 28 rfl) (own_w hw 94 rfl) (by decide) hh45 (rmIsb l Z a0 hw [] c2 h0) (by decide) (by decide) (by decide) (by decide) (by rw [hml]; rfl) (lenOf pd12 rfl) rfl (Nat.le_of_ble_eq_true rfl) (hb hby d5_41) (fun T46 X46 e46 => ?_)
        show own_G p e below _ (T46.setTop (mkF m 44 #[.val (.ref x), .val (.int (2 : Int32)), .val (.int (3 : Int32))] [(.int (own_bi (own_bl c2)))]))
        refine own_if_eq X46 hx (hb hby d5_44) (pc' := 53) (by decide) (by decide) (fun c44_47 => ?_) (fun c44_47 => absurd c44_47 (by rw [c20_43b]; decide))
        show own_G p e below _ (T46.setTop (mkF m 53 #[.val (.ref x), .val (.int (2 : Int32)), .val (.int (3 : Int32))] []))
        refine own_step (b := T46.setTop (mkF m 54 #[.val (.ref x), .val (.int (2 : Int32)), .val (.int (3 : Int32))] [(.ref x)])) (fun _ qk => XS.aloadN X46.here hx rfl (hb hby d5_53) rfl rfl qk) ?_
        refine own_step (b := T46.setTop (mkF m 55 #[.val (.ref x), .val (.int (2 : Int32)), .val (.int (3 : Int32))] [(.int (2 : Int32)), (.ref x)])) (fun _ qk => XS.iloadN X46.here hx rfl (hb hby d5_54) rfl qk) ?_
        refine own_step (b := T46.setTop (mkF m 56 #[.val (.ref x), .val (.int (2 : Int32)), .val (.int (3 : Int32))] [(.int (3 : Int32)), (.int (2 : Int32)), (.ref x)])) (fun _ qk => XS.iloadN X46.here hx rfl (hb hby d5_55) rfl qk) ?_
        have hs48 : own_strip [c0, c1, c2] = [c2] := by simp [own_strip, List.dropWhile, c20_5b, c20_27b, c20_43b]
        refine own_virtual (a := x) (W := 0) (argsL := [(.int (2 : Int32)), (.int (3 : Int32))]) (st := []) X46 hx hZ hown (own_w hw 41 rfl) (own_w hw 42 rfl) (own_w hw 44 rfl) rfl (own_w hw 43 rfl) (by decide) e46 SS.1 (own_back (W := 0) (rmSubM l Z a0 hw [] x 3 2 3 [c0, c1, c2] h0 SS rfl (by decide) (by decide) (by decide) (by decide) (by decide) OL0 G1 O2 P5 G3 O4 rG3) hZ (own_w hw 45 rfl) (own_w hw 7 rfl) (by decide) (by decide)) (by decide) (by decide) (by rw [hml]; rfl) (lenOf pd10 rfl) rfl (Nat.le_of_ble_eq_true rfl) (hb hby d5_56) (fun v49 T49 L49 X49 hQ49 => ?_)
        obtain ⟨r49, rfl, M49, E49, SS49⟩ := hQ49
        have z49 : h0.size ≤ T49.heap.size := E49.1
        show own_G p e below _ (T49.setTop (mkF m 59 #[.val (.ref x), .val (.int (2 : Int32)), .val (.int (3 : Int32))] [(.ref r49)]))
        exact own_retXR X49 hx hS (by omega) hret rfl rfl rfl hlk (hb hby d5_59) ⟨_, rfl, M49, E49, by rw [hs48]; exact SS49⟩ (by decide) (by decide)
      · show own_G p e below _ (T42.setTop (mkF m 23 #[.val (.ref x), .val (.int (2 : Int32)), .val (.int (3 : Int32))] []))
        have c20_43b : (own_bl c2) = true := own_bi_t c20_43
        refine own_step (b := T42.setTop (mkF m 26 #[.val (.ref x), .val (.int (3 : Int32)), .val (.int (3 : Int32))] [])) (fun _ qk => XS.iinc X42.here hx rfl (hb hby d5_23) rfl (l' := #[.val (.ref x), .val (.int (3 : Int32)), .val (.int (3 : Int32))]) rfl qk) ?_
        refine own_step (b := T42.setTop (mkF m 7 #[.val (.ref x), .val (.int (3 : Int32)), .val (.int (3 : Int32))] [])) (fun _ qk => XS.goto X42.here hx rfl (pc0 := 26) (pc' := 7) rfl (hb hby d5_26) (by decide) (by decide) qk) ?_
        refine own_step (b := T42.setTop (mkF m 8 #[.val (.ref x), .val (.int (3 : Int32)), .val (.int (3 : Int32))] [(.int (3 : Int32))])) (fun _ qk => XS.iloadN X42.here hx rfl (hb hby d5_7) rfl qk) ?_
        refine own_step (b := T42.setTop (mkF m 9 #[.val (.ref x), .val (.int (3 : Int32)), .val (.int (3 : Int32))] [(.int (3 : Int32)), (.int (3 : Int32))])) (fun _ qk => XS.iloadN X42.here hx rfl (hb hby d5_8) rfl qk) ?_
        refine own_icmp_ge X42 hx (hb hby d5_9) (pc' := 29) (by decide) (by decide) (fun c9_50 => ?_) (fun c9_50 => absurd c9_50 (by decide))
        show own_G p e below _ (T42.setTop (mkF m 29 #[.val (.ref x), .val (.int (3 : Int32)), .val (.int (3 : Int32))] []))
        refine own_step (b := T42.setTop (mkF m 30 #[.val (.ref x), .val (.int (3 : Int32)), .val (.int (3 : Int32))] [(.int (3 : Int32))])) (fun _ qk => XS.iloadN X42.here hx rfl (hb hby d5_29) rfl qk) ?_
        refine own_step (b := T42.setTop (mkF m 31 #[.val (.ref x), .val (.int (3 : Int32)), .val (.int (3 : Int32))] [(.int (3 : Int32)), (.int (3 : Int32))])) (fun _ qk => XS.iloadN X42.here hx rfl (hb hby d5_30) rfl qk) ?_
        refine own_icmp_le X42 hx (hb hby d5_31) (pc' := 53) (by decide) (by decide) (fun c31_51 => ?_) (fun c31_51 => absurd c31_51 (by decide))
        show own_G p e below _ (T42.setTop (mkF m 53 #[.val (.ref x), .val (.int (3 : Int32)), .val (.int (3 : Int32))] []))
        refine own_step (b := T42.setTop (mkF m 54 #[.val (.ref x), .val (.int (3 : Int32)), .val (.int (3 : Int32))] [(.ref x)])) (fun _ qk => XS.aloadN X42.here hx rfl (hb hby d5_53) rfl rfl qk) ?_
        refine own_step (b := T42.setTop (mkF m 55 #[.val (.ref x), .val (.int (3 : Int32)), .val (.int (3 : Int32))] [(.int (3 : Int32)), (.ref x)])) (fun _ qk => XS.iloadN X42.here hx rfl (hb hby d5_54) rfl qk) ?_
        refine own_step (b := T42.setTop (mkF m 56 #[.val (.ref x), .val (.int (3 : Int32)), .val (.int (3 : Int32))] [(.int (3 : Int32)), (.int (3 : Int32)), (.ref x)])) (fun _ qk => XS.iloadN X42.here hx rfl (hb hby d5_55) rfl qk) ?_
        have hs52 : own_strip [c0, c1, c2] = [] := by simp [own_strip, List.dropWhile, c20_5b, c20_27b, c20_43b]
        refine own_virtualI (a := x) (W := 0) (argsL := [(.int (3 : Int32)), (.int (3 : Int32))]) (st := []) X42 hx hZ hown (own_w hw 41 rfl) (own_w hw 42 rfl) (own_w hw 44 rfl) rfl (own_w hw 43 rfl) (own_w hw 45 rfl) (own_w hw 7 rfl) (by decide) e42 hS hk SS.1 (rmSubE l Z a0 hw [] x 3 3 3 [c0, c1, c2] h0 SS rfl (by decide) (by decide) (by decide) rfl (by decide) OL0 G1 O2 P5 G3 O4 rG3 CH1 HC) (fun _ hW => own_IBw hI hW) (by decide) (by decide) (by decide) (by decide) (by rw [hml]; rfl) (lenOf pd10 rfl) rfl (Nat.le_of_ble_eq_true rfl) (hb hby d5_56) (fun v53 T53 L53 vm53 k53 X53 ev53 z53 hS hk hZ hown hQ53 => ?_)
        obtain ⟨r53, rfl, M53, E53, SS53⟩ := hQ53
        show own_G p e below _ (T53.setTop (mkF m 59 #[.val (.ref x), .val (.int (3 : Int32)), .val (.int (3 : Int32))] [(.ref r53)]))
        exact own_retXR X53 hx hS (by omega) hret rfl rfl rfl hlk (hb hby d5_59) ⟨_, rfl, M53, E53, by rw [hs52]; exact SS53⟩ (by decide) (by decide)
set_option maxRecDepth 65536 in
set_option maxHeartbeats 40000000 in
theorem rmStrip4 (l : Launch) (Z : State) (a0 : Array Value) (hw : ∀ d ∈ tables_1, d.before a0 Z = true) (ws : List Jvm.Cond) (x : Addr) (c0 c1 c2 c3 : Int32) (h0 : Heap) (SS : own_Str Z h0 x [c0, c1, c2, c3]) (OL0 : Old Z Z.heap.size h0) (G1 : Int32) (O2 : Sta Z Z.heap "java/lang/String" "COMPACT_STRINGS" "Z" (.int G1)) (P5 : ¬ (G1 = (0 : Int32))) (G3 : Value) (O4 : Sta Z Z.heap "jdk/internal/util/Preconditions" "SIOOBE_FORMATTER" "Ljava/util/function/BiFunction;" G3) (rG3 : G3.isRef = true) (CH1 : Jvm.Lit.constHeld Z "java/lang/StringLatin1" 151) (HC : Jvm.Lit.compactW.before a0 Z = true) :
    own_MetI l Z (⟨"com/example/pennant/pennant/Trl", "stripBlanks", "(Ljava/lang/String;)Ljava/lang/String;"⟩ : MethodName) prog_78_method_9_code 3 (some (.object "java/lang/String")) ws ⟨5, 2, 8, 122⟩ #[(.ref x)] h0 (fun vm => IB Z vm []) (fun v vm h L => ∃ r : Addr, v = some (.ref r) ∧ Fr Z.heap.size L ∧ Ext h0 h ∧ own_Str Z h r (own_strip [c0, c1, c2, c3])) := by
  refine own_enterI (plainFor_of_name pn4) (fun m => ef_strip m x) ?_
  intro p e s m below meth c T0 vm0 k0 hx hby hml hZ hown hnm hret hlk X0 e0 es0 hS hk hI
  show own_G p e below _ (T0.setTop (mkF m 0 #[.val (.ref x), .unset, .unset] []))
  refine own_step (b := T0.setTop (mkF m 1 #[.val (.ref x), .unset, .unset] [(.int (0 : Int32))])) (fun _ qk => XS.iconst X0.here hx rfl (hb hby d5_0) qk) ?_
  refine own_step (b := T0.setTop (mkF m 2 #[.val (.ref x), .val (.int (0 : Int32)), .unset] [])) (fun _ qk => XS.istoreN X0.here hx rfl (hb hby d5_1) rfl (l' := #[.val (.ref x), .val (.int (0 : Int32)), .unset]) rfl qk) ?_
  refine own_step (b := T0.setTop (mkF m 3 #[.val (.ref x), .val (.int (0 : Int32)), .unset] [(.ref x)])) (fun _ qk => XS.aloadN X0.here hx rfl (hb hby d5_2) rfl rfl qk) ?_
  refine own_virtual (a := x) (W := 0) (argsL := []) (st := []) X0 hx hZ hown (own_w hw 30 rfl) (own_w hw 31 rfl) (own_w hw 33 rfl) rfl (own_w hw 32 rfl) (by decide) e0 SS.1 (own_lenB (W := 0) hZ hw (kI := 4) (own_w hw 6 rfl) SS O2 P5 OL0 (r := (4 : Int32)) rfl (by decide) (by decide)) (by decide) (by decide) (by rw [hml]; rfl) (lenOf pd6 rfl) rfl (Nat.le_of_ble_eq_true rfl) (hb hby d5_3) (fun v1 T1 L1 X1 hQ1 => ?_)
  obtain ⟨rfl, rfl, hh1⟩ := hQ1
  rw [List.append_nil] at X1
  show own_G p e below _ (T1.setTop (mkF m 6 #[.val (.ref x), .val (.int (0 : Int32)), .unset] [(.int (4 : Int32))]))
  refine own_step (b := T1.setTop (mkF m 7 #[.val (.ref x), .val (.int (0 : Int32)), .val (.int (4 : Int32))] [])) (fun _ qk => XS.istoreN X1.here hx rfl (hb hby d5_6) rfl (l' := #[.val (.ref x), .val (.int (0 : Int32)), .val (.int (4 : Int32))]) rfl qk) ?_
  refine own_step (b := T1.setTop (mkF m 8 #[.val (.ref x), .val (.int (0 : Int32)), .val (.int (4 : Int32))] [(.int (0 : Int32))])) (fun _ qk => XS.iloadN X1.here hx rfl (hb hby d5_7) rfl qk) ?_
  refine own_step (b := T1.setTop (mkF m 9 #[.val (.ref x), .val (.int (0 : Int32)), .val (.int (4 : Int32))] [(.int (4 : Int32)), (.int (0 : Int32))])) (fun _ qk => XS.iloadN X1.here hx rfl (hb hby d5_8) rfl qk) ?_
  refine own_icmp_ge X1 hx (hb hby d5_9) (pc' := 29) (by decide) (by decide) (fun c9_2 => absurd c9_2 (by decide)) (fun c9_2 => ?_)
  show own_G p e below _ (T1.setTop (mkF m 12 #[.val (.ref x), .val (.int (0 : Int32)), .val (.int (4 : Int32))] []))
  refine own_step (b := T1.setTop (mkF m 13 #[.val (.ref x), .val (.int (0 : Int32)), .val (.int (4 : Int32))] [(.ref x)])) (fun _ qk => XS.aloadN X1.here hx rfl (hb hby d5_12) rfl rfl qk) ?_
  refine own_step (b := T1.setTop (mkF m 14 #[.val (.ref x), .val (.int (0 : Int32)), .val (.int (4 : Int32))] [(.int (0 : Int32)), (.ref x)])) (fun _ qk => XS.iloadN X1.here hx rfl (hb hby d5_13) rfl qk) ?_
  refine own_virtual (a := x) (W := 0) (argsL := [(.int (0 : Int32))]) (st := []) X1 hx hZ hown (own_w hw 72 rfl) (own_w hw 73 rfl) (own_w hw 75 rfl) rfl (own_w hw 74 rfl) (by decide) hh1 SS.1 (own_chB (W := 0) hZ hw (kI := 4) (own_w hw 6 rfl) SS O2 P5 O4 rG3 OL0 0 (Nat.le_of_ble_eq_true rfl) (j := (0 : Int32)) rfl (r := c0) rfl (by decide) (by decide)) (by decide) (by decide) (by rw [hml]; rfl) (lenOf pd11 rfl) rfl (Nat.le_of_ble_eq_true rfl) (hb hby d5_14) (fun v3 T3 L3 X3 hQ3 => ?_)
  obtain ⟨rfl, rfl, hh3⟩ := hQ3
  rw [List.append_nil] at X3
  show own_G p e below _ (T3.setTop (mkF m 17 #[.val (.ref x), .val (.int (0 : Int32)), .val (.int (4 : Int32))] [(.int c0)]))
  refine own_staticP (W := 0) (argsL := [(.int c0)]) (st := []) X3 hx hZ hown (own_w hw 92 rfl) (own_w hw 93 rfl) (own_w hw 28 rfl) (own_w hw 94 rfl) (by decide) hh3 (rmIsb l Z a0 hw [] c0 h0) (by decide) (by decide) (by decide) (by decide) (by rw [hml]; rfl) (lenOf pd12 rfl) rfl (Nat.le_of_ble_eq_true rfl) (hb hby d5_17) (fun T4 X4 e4 => ?_)
  show own_G p e below _ (T4.setTop (mkF m 20 #[.val (.ref x), .val (.int (0 : Int32)), .val (.int (4 : Int32))] [(.int (own_bi (own_bl c0)))]))
  refine own_if_eq X4 hx (hb hby d5_20) (pc' := 29) (by decide) (by decide) (fun c20_5 => ?_) (fun c20_5 => ?_)
  · show own_G p e below _ (T4.setTop (mkF m 29 #[.val (.ref x), .val (.int (0 : Int32)), .val (.int (4 : Int32))] []))
    have c20_5b : (own_bl c0) = false := own_bi_f c20_5
    refine own_step (b := T4.setTop (mkF m 30 #[.val (.ref x), .val (.int (0 : Int32)), .val (.int (4 : Int32))] [(.int (4 : Int32))])) (fun _ qk => XS.iloadN X4.here hx rfl (hb hby d5_29) rfl qk) ?_
    refine own_step (b := T4.setTop (mkF m 31 #[.val (.ref x), .val (.int (0 : Int32)), .val (.int (4 : Int32))] [(.int (0 : Int32)), (.int (4 : Int32))])) (fun _ qk => XS.iloadN X4.here hx rfl (hb hby d5_30) rfl qk) ?_
    refine own_icmp_le X4 hx (hb hby d5_31) (pc' := 53) (by decide) (by decide) (fun c31_6 => absurd c31_6 (by decide)) (fun c31_6 => ?_)
    show own_G p e below _ (T4.setTop (mkF m 34 #[.val (.ref x), .val (.int (0 : Int32)), .val (.int (4 : Int32))] []))
    refine own_step (b := T4.setTop (mkF m 35 #[.val (.ref x), .val (.int (0 : Int32)), .val (.int (4 : Int32))] [(.ref x)])) (fun _ qk => XS.aloadN X4.here hx rfl (hb hby d5_34) rfl rfl qk) ?_
    refine own_step (b := T4.setTop (mkF m 36 #[.val (.ref x), .val (.int (0 : Int32)), .val (.int (4 : Int32))] [(.int (4 : Int32)), (.ref x)])) (fun _ qk => XS.iloadN X4.here hx rfl (hb hby d5_35) rfl qk) ?_
    refine own_step (b := T4.setTop (mkF m 37 #[.val (.ref x), .val (.int (0 : Int32)), .val (.int (4 : Int32))] [(.int (1 : Int32)), (.int (4 : Int32)), (.ref x)])) (fun _ qk => XS.iconst X4.here hx rfl (hb hby d5_36) qk) ?_
    refine own_step (b := T4.setTop (mkF m 38 #[.val (.ref x), .val (.int (0 : Int32)), .val (.int (4 : Int32))] [(.int (3 : Int32)), (.ref x)])) (fun _ qk => XS.isub X4.here hx rfl (hb hby d5_37) rfl qk) ?_
    refine own_virtual (a := x) (W := 0) (argsL := [(.int (3 : Int32))]) (st := []) X4 hx hZ hown (own_w hw 72 rfl) (own_w hw 73 rfl) (own_w hw 75 rfl) rfl (own_w hw 74 rfl) (by decide) e4 SS.1 (own_chB (W := 0) hZ hw (kI := 4) (own_w hw 6 rfl) SS O2 P5 O4 rG3 OL0 3 (Nat.le_of_ble_eq_true rfl) (j := (3 : Int32)) rfl (r := c3) rfl (by decide) (by decide)) (by decide) (by decide) (by rw [hml]; rfl) (lenOf pd11 rfl) rfl (Nat.le_of_ble_eq_true rfl) (hb hby d5_38) (fun v7 T7 L7 X7 hQ7 => ?_)
    obtain ⟨rfl, rfl, hh7⟩ := hQ7
    rw [List.append_nil] at X7
    show own_G p e below _ (T7.setTop (mkF m 41 #[.val (.ref x), .val (.int (0 : Int32)), .val (.int (4 : Int32))] [(.int c3)]))
    refine own_staticP (W := 0) (argsL := [(.int c3)]) (st := []) X7 hx hZ hown (own_w hw 92 rfl) (own_w hw 93 rfl) (own_w hw 28 rfl) (own_w hw 94 rfl) (by decide) hh7 (rmIsb l Z a0 hw [] c3 h0) (by decide) (by decide) (by decide) (by decide) (by rw [hml]; rfl) (lenOf pd12 rfl) rfl (Nat.le_of_ble_eq_true rfl) (hb hby d5_41) (fun T8 X8 e8 => ?_)
    show own_G p e below _ (T8.setTop (mkF m 44 #[.val (.ref x), .val (.int (0 : Int32)), .val (.int (4 : Int32))] [(.int (own_bi (own_bl c3)))]))
    refine own_if_eq X8 hx (hb hby d5_44) (pc' := 53) (by decide) (by decide) (fun c44_9 => ?_) (fun c44_9 => ?_)
    · show own_G p e below _ (T8.setTop (mkF m 53 #[.val (.ref x), .val (.int (0 : Int32)), .val (.int (4 : Int32))] []))
      have c44_9b : (own_bl c3) = false := own_bi_f c44_9
      refine own_step (b := T8.setTop (mkF m 54 #[.val (.ref x), .val (.int (0 : Int32)), .val (.int (4 : Int32))] [(.ref x)])) (fun _ qk => XS.aloadN X8.here hx rfl (hb hby d5_53) rfl rfl qk) ?_
      refine own_step (b := T8.setTop (mkF m 55 #[.val (.ref x), .val (.int (0 : Int32)), .val (.int (4 : Int32))] [(.int (0 : Int32)), (.ref x)])) (fun _ qk => XS.iloadN X8.here hx rfl (hb hby d5_54) rfl qk) ?_
      refine own_step (b := T8.setTop (mkF m 56 #[.val (.ref x), .val (.int (0 : Int32)), .val (.int (4 : Int32))] [(.int (4 : Int32)), (.int (0 : Int32)), (.ref x)])) (fun _ qk => XS.iloadN X8.here hx rfl (hb hby d5_55) rfl qk) ?_
      have hs10 : own_strip [c0, c1, c2, c3] = [c0, c1, c2, c3] := by simp [own_strip, List.dropWhile, c20_5b, c44_9b]
      refine own_virtualP (a := x) (W := 0) (argsL := [(.int (0 : Int32)), (.int (4 : Int32))]) (st := []) X8 hx hZ hown (own_w hw 41 rfl) (own_w hw 42 rfl) (own_w hw 44 rfl) rfl (own_w hw 43 rfl) (by decide) e8 SS.1 (rmSubT l Z a0 hw [] x 4 0 4 [c0, c1, c2, c3] h0 SS rfl (by decide) (by decide) (by decide) ⟨rfl, rfl⟩ OL0 G1 O2 P5 G3 O4 rG3) (own_w hw 45 rfl) (own_w hw 7 rfl) (by decide) (by decide) (by decide) (by decide) (by rw [hml]; rfl) (lenOf pd10 rfl) rfl (Nat.le_of_ble_eq_true rfl) (hb hby d5_56) (fun T11 X11 e11 => ?_)
      show own_G p e below _ (T11.setTop (mkF m 59 #[.val (.ref x), .val (.int (0 : Int32)), .val (.int (4 : Int32))] [(.ref x)]))
      exact own_retXR X11 hx hS (by rw [show T11.heap = h0 from e11]; omega) hret rfl rfl rfl hlk (hb hby d5_59) ⟨_, rfl, Fr.nil _, by rw [e11]; exact own_ext (Keep.refl _ _), by rw [e11, hs10]; exact SS⟩ (by decide) (by decide)
    · show own_G p e below _ (T8.setTop (mkF m 47 #[.val (.ref x), .val (.int (0 : Int32)), .val (.int (4 : Int32))] []))
      have c44_9b : (own_bl c3) = true := own_bi_t c44_9
      refine own_step (b := T8.setTop (mkF m 50 #[.val (.ref x), .val (.int (0 : Int32)), .val (.int (3 : Int32))] [])) (fun _ qk => XS.iinc X8.here hx rfl (hb hby d5_47) rfl (l' := #[.val (.ref x), .val (.int (0 : Int32)), .val (.int (3 : Int32))]) rfl qk) ?_
      refine own_step (b := T8.setTop (mkF m 29 #[.val (.ref x), .val (.int (0 : Int32)), .val (.int (3 : Int32))] [])) (fun _ qk => XS.goto X8.here hx rfl (pc0 := 50) (pc' := 29) rfl (hb hby d5_50) (by decide) (by decide) qk) ?_
      refine own_step (b := T8.setTop (mkF m 30 #[.val (.ref x), .val (.int (0 : Int32)), .val (.int (3 : Int32))] [(.int (3 : Int32))])) (fun _ qk => XS.iloadN X8.here hx rfl (hb hby d5_29) rfl qk) ?_
      refine own_step (b := T8.setTop (mkF m 31 #[.val (.ref x), .val (.int (0 : Int32)), .val (.int (3 : Int32))] [(.int (0 : Int32)), (.int (3 : Int32))])) (fun _ qk => XS.iloadN X8.here hx rfl (hb hby d5_30) rfl qk) ?_
      refine own_icmp_le X8 hx (hb hby d5_31) (pc' := 53) (by decide) (by decide) (fun c31_12 => absurd c31_12 (by decide)) (fun c31_12 => ?_)
      show own_G p e below _ (T8.setTop (mkF m 34 #[.val (.ref x), .val (.int (0 : Int32)), .val (.int (3 : Int32))] []))
      refine own_step (b := T8.setTop (mkF m 35 #[.val (.ref x), .val (.int (0 : Int32)), .val (.int (3 : Int32))] [(.ref x)])) (fun _ qk => XS.aloadN X8.here hx rfl (hb hby d5_34) rfl rfl qk) ?_
      refine own_step (b := T8.setTop (mkF m 36 #[.val (.ref x), .val (.int (0 : Int32)), .val (.int (3 : Int32))] [(.int (3 : Int32)), (.ref x)])) (fun _ qk => XS.iloadN X8.here hx rfl (hb hby d5_35) rfl qk) ?_
      refine own_step (b := T8.setTop (mkF m 37 #[.val (.ref x), .val (.int (0 : Int32)), .val (.int (3 : Int32))] [(.int (1 : Int32)), (.int (3 : Int32)), (.ref x)])) (fun _ qk => XS.iconst X8.here hx rfl (hb hby d5_36) qk) ?_
      refine own_step (b := T8.setTop (mkF m 38 #[.val (.ref x), .val (.int (0 : Int32)), .val (.int (3 : Int32))] [(.int (2 : Int32)), (.ref x)])) (fun _ qk => XS.isub X8.here hx rfl (hb hby d5_37) rfl qk) ?_
      refine own_virtual (a := x) (W := 0) (argsL := [(.int (2 : Int32))]) (st := []) X8 hx hZ hown (own_w hw 72 rfl) (own_w hw 73 rfl) (own_w hw 75 rfl) rfl (own_w hw 74 rfl) (by decide) e8 SS.1 (own_chB (W := 0) hZ hw (kI := 4) (own_w hw 6 rfl) SS O2 P5 O4 rG3 OL0 2 (Nat.le_of_ble_eq_true rfl) (j := (2 : Int32)) rfl (r := c2) rfl (by decide) (by decide)) (by decide) (by decide) (by rw [hml]; rfl) (lenOf pd11 rfl) rfl (Nat.le_of_ble_eq_true rfl) (hb hby d5_38) (fun v13 T13 L13 X13 hQ13 => ?_)
      obtain ⟨rfl, rfl, hh13⟩ := hQ13
      rw [List.append_nil] at X13
      show own_G p e below _ (T13.setTop (mkF m 41 #[.val (.ref x), .val (.int (0 : Int32)), .val (.int (3 : Int32))] [(.int c2)]))
      refine own_staticP (W := 0) (argsL := [(.int c2)]) (st := []) X13 hx hZ hown (own_w hw 92 rfl) (own_w hw 93 rfl) (own_w hw 28 rfl) (own_w hw 94 rfl) (by decide) hh13 (rmIsb l Z a0 hw [] c2 h0) (by decide) (by decide) (by decide) (by decide) (by rw [hml]; rfl) (lenOf pd12 rfl) rfl (Nat.le_of_ble_eq_true rfl) (hb hby d5_41) (fun T14 X14 e14 => ?_)
      show own_G p e below _ (T14.setTop (mkF m 44 #[.val (.ref x), .val (.int (0 : Int32)), .val (.int (3 : Int32))] [(.int (own_bi (own_bl c2)))]))
      refine own_if_eq X14 hx (hb hby d5_44) (pc' := 53) (by decide) (by decide) (fun c44_15 => ?_) (fun c44_15 => ?_)
      · show own_G p e below _ (T14.setTop (mkF m 53 #[.val (.ref x), .val (.int (0 : Int32)), .val (.int (3 : Int32))] []))
        have c44_15b : (own_bl c2) = false := own_bi_f c44_15
        refine own_step (b := T14.setTop (mkF m 54 #[.val (.ref x), .val (.int (0 : Int32)), .val (.int (3 : Int32))] [(.ref x)])) (fun _ qk => XS.aloadN X14.here hx rfl (hb hby d5_53) rfl rfl qk) ?_
        refine own_step (b := T14.setTop (mkF m 55 #[.val (.ref x), .val (.int (0 : Int32)), .val (.int (3 : Int32))] [(.int (0 : Int32)), (.ref x)])) (fun _ qk => XS.iloadN X14.here hx rfl (hb hby d5_54) rfl qk) ?_
        refine own_step (b := T14.setTop (mkF m 56 #[.val (.ref x), .val (.int (0 : Int32)), .val (.int (3 : Int32))] [(.int (3 : Int32)), (.int (0 : Int32)), (.ref x)])) (fun _ qk => XS.iloadN X14.here hx rfl (hb hby d5_55) rfl qk) ?_
        have hs16 : own_strip [c0, c1, c2, c3] = [c0, c1, c2] := by simp [own_strip, List.dropWhile, c20_5b, c44_9b, c44_15b]
        refine own_virtual (a := x) (W := 0) (argsL := [(.int (0 : Int32)), (.int (3 : Int32))]) (st := []) X14 hx hZ hown (own_w hw 41 rfl) (own_w hw 42 rfl) (own_w hw 44 rfl) rfl (own_w hw 43 rfl) (by decide) e14 SS.1 (own_back (W := 0) (rmSubM l Z a0 hw [] x 4 0 3 [c0, c1, c2, c3] h0 SS rfl (by decide) (by decide) (by decide) (by decide) (by decide) OL0 G1 O2 P5 G3 O4 rG3) hZ (own_w hw 45 rfl) (own_w hw 7 rfl) (by decide) (by decide)) (by decide) (by decide) (by rw [hml]; rfl) (lenOf pd10 rfl) rfl (Nat.le_of_ble_eq_true rfl) (hb hby d5_56) (fun v17 T17 L17 X17 hQ17 => ?_)
        obtain ⟨r17, rfl, M17, E17, SS17⟩ := hQ17
        have z17 : h0.size ≤ T17.heap.size := E17.1
        show own_G p e below _ (T17.setTop (mkF m 59 #[.val (.ref x), .val (.int (0 : Int32)), .val (.int (3 : Int32))] [(.ref r17)]))
        exact own_retXR X17 hx hS (by omega) hret rfl rfl rfl hlk (hb hby d5_59) ⟨_, rfl, M17, E17, by rw [hs16]; exact SS17⟩ (by decide) (by decide)
      · show own_G p e below _ (T14.setTop (mkF m 47 #[.val (.ref x), .val (.int (0 : Int32)), .val (.int (3 : Int32))] []))
        have c44_15b : (own_bl c2) = true := own_bi_t c44_15
        refine own_step (b := T14.setTop (mkF m 50 #[.val (.ref x), .val (.int (0 : Int32)), .val (.int (2 : Int32))] [])) (fun _ qk => XS.iinc X14.here hx rfl (hb hby d5_47) rfl (l' := #[.val (.ref x), .val (.int (0 : Int32)), .val (.int (2 : Int32))]) rfl qk) ?_
        refine own_step (b := T14.setTop (mkF m 29 #[.val (.ref x), .val (.int (0 : Int32)), .val (.int (2 : Int32))] [])) (fun _ qk => XS.goto X14.here hx rfl (pc0 := 50) (pc' := 29) rfl (hb hby d5_50) (by decide) (by decide) qk) ?_
        refine own_step (b := T14.setTop (mkF m 30 #[.val (.ref x), .val (.int (0 : Int32)), .val (.int (2 : Int32))] [(.int (2 : Int32))])) (fun _ qk => XS.iloadN X14.here hx rfl (hb hby d5_29) rfl qk) ?_
        refine own_step (b := T14.setTop (mkF m 31 #[.val (.ref x), .val (.int (0 : Int32)), .val (.int (2 : Int32))] [(.int (0 : Int32)), (.int (2 : Int32))])) (fun _ qk => XS.iloadN X14.here hx rfl (hb hby d5_30) rfl qk) ?_
        refine own_icmp_le X14 hx (hb hby d5_31) (pc' := 53) (by decide) (by decide) (fun c31_18 => absurd c31_18 (by decide)) (fun c31_18 => ?_)
        show own_G p e below _ (T14.setTop (mkF m 34 #[.val (.ref x), .val (.int (0 : Int32)), .val (.int (2 : Int32))] []))
        refine own_step (b := T14.setTop (mkF m 35 #[.val (.ref x), .val (.int (0 : Int32)), .val (.int (2 : Int32))] [(.ref x)])) (fun _ qk => XS.aloadN X14.here hx rfl (hb hby d5_34) rfl rfl qk) ?_
        refine own_step (b := T14.setTop (mkF m 36 #[.val (.ref x), .val (.int (0 : Int32)), .val (.int (2 : Int32))] [(.int (2 : Int32)), (.ref x)])) (fun _ qk => XS.iloadN X14.here hx rfl (hb hby d5_35) rfl qk) ?_
        refine own_step (b := T14.setTop (mkF m 37 #[.val (.ref x), .val (.int (0 : Int32)), .val (.int (2 : Int32))] [(.int (1 : Int32)), (.int (2 : Int32)), (.ref x)])) (fun _ qk => XS.iconst X14.here hx rfl (hb hby d5_36) qk) ?_
        refine own_step (b := T14.setTop (mkF m 38 #[.val (.ref x), .val (.int (0 : Int32)), .val (.int (2 : Int32))] [(.int (1 : Int32)), (.ref x)])) (fun _ qk => XS.isub X14.here hx rfl (hb hby d5_37) rfl qk) ?_
        refine own_virtual (a := x) (W := 0) (argsL := [(.int (1 : Int32))]) (st := []) X14 hx hZ hown (own_w hw 72 rfl) (own_w hw 73 rfl) (own_w hw 75 rfl) rfl (own_w hw 74 rfl) (by decide) e14 SS.1 (own_chB (W := 0) hZ hw (kI := 4) (own_w hw 6 rfl) SS O2 P5 O4 rG3 OL0 1 (Nat.le_of_ble_eq_true rfl) (j := (1 : Int32)) rfl (r := c1) rfl (by decide) (by decide)) (by decide) (by decide) (by rw [hml]; rfl) (lenOf pd11 rfl) rfl (Nat.le_of_ble_eq_true rfl) (hb hby d5_38) (fun v19 T19 L19 X19 hQ19 => ?_)
        obtain ⟨rfl, rfl, hh19⟩ := hQ19
        rw [List.append_nil] at X19
        show own_G p e below _ (T19.setTop (mkF m 41 #[.val (.ref x), .val (.int (0 : Int32)), .val (.int (2 : Int32))] [(.int c1)]))
        refine own_staticP (W := 0) (argsL := [(.int c1)]) (st := []) X19 hx hZ hown (own_w hw 92 rfl) (own_w hw 93 rfl) (own_w hw 28 rfl) (own_w hw 94 rfl) (by decide) hh19 (rmIsb l Z a0 hw [] c1 h0) (by decide) (by decide) (by decide) (by decide) (by rw [hml]; rfl) (lenOf pd12 rfl) rfl (Nat.le_of_ble_eq_true rfl) (hb hby d5_41) (fun T20 X20 e20 => ?_)
        show own_G p e below _ (T20.setTop (mkF m 44 #[.val (.ref x), .val (.int (0 : Int32)), .val (.int (2 : Int32))] [(.int (own_bi (own_bl c1)))]))
        refine own_if_eq X20 hx (hb hby d5_44) (pc' := 53) (by decide) (by decide) (fun c44_21 => ?_) (fun c44_21 => ?_)
        · show own_G p e below _ (T20.setTop (mkF m 53 #[.val (.ref x), .val (.int (0 : Int32)), .val (.int (2 : Int32))] []))
          have c44_21b : (own_bl c1) = false := own_bi_f c44_21
          refine own_step (b := T20.setTop (mkF m 54 #[.val (.ref x), .val (.int (0 : Int32)), .val (.int (2 : Int32))] [(.ref x)])) (fun _ qk => XS.aloadN X20.here hx rfl (hb hby d5_53) rfl rfl qk) ?_
          refine own_step (b := T20.setTop (mkF m 55 #[.val (.ref x), .val (.int (0 : Int32)), .val (.int (2 : Int32))] [(.int (0 : Int32)), (.ref x)])) (fun _ qk => XS.iloadN X20.here hx rfl (hb hby d5_54) rfl qk) ?_
          refine own_step (b := T20.setTop (mkF m 56 #[.val (.ref x), .val (.int (0 : Int32)), .val (.int (2 : Int32))] [(.int (2 : Int32)), (.int (0 : Int32)), (.ref x)])) (fun _ qk => XS.iloadN X20.here hx rfl (hb hby d5_55) rfl qk) ?_
          have hs22 : own_strip [c0, c1, c2, c3] = [c0, c1] := by simp [own_strip, List.dropWhile, c20_5b, c44_9b, c44_15b, c44_21b]
          refine own_virtual (a := x) (W := 0) (argsL := [(.int (0 : Int32)), (.int (2 : Int32))]) (st := []) X20 hx hZ hown (own_w hw 41 rfl) (own_w hw 42 rfl) (own_w hw 44 rfl) rfl (own_w hw 43 rfl) (by decide) e20 SS.1 (own_back (W := 0) (rmSubM l Z a0 hw [] x 4 0 2 [c0, c1, c2, c3] h0 SS rfl (by decide) (by decide) (by decide) (by decide) (by decide) OL0 G1 O2 P5 G3 O4 rG3) hZ (own_w hw 45 rfl) (own_w hw 7 rfl) (by decide) (by decide)) (by decide) (by decide) (by rw [hml]; rfl) (lenOf pd10 rfl) rfl (Nat.le_of_ble_eq_true rfl) (hb hby d5_56) (fun v23 T23 L23 X23 hQ23 => ?_)
          obtain ⟨r23, rfl, M23, E23, SS23⟩ := hQ23
          have z23 : h0.size ≤ T23.heap.size := E23.1
          show own_G p e below _ (T23.setTop (mkF m 59 #[.val (.ref x), .val (.int (0 : Int32)), .val (.int (2 : Int32))] [(.ref r23)]))
          exact own_retXR X23 hx hS (by omega) hret rfl rfl rfl hlk (hb hby d5_59) ⟨_, rfl, M23, E23, by rw [hs22]; exact SS23⟩ (by decide) (by decide)
        · show own_G p e below _ (T20.setTop (mkF m 47 #[.val (.ref x), .val (.int (0 : Int32)), .val (.int (2 : Int32))] []))
          have c44_21b : (own_bl c1) = true := own_bi_t c44_21
          refine own_step (b := T20.setTop (mkF m 50 #[.val (.ref x), .val (.int (0 : Int32)), .val (.int (1 : Int32))] [])) (fun _ qk => XS.iinc X20.here hx rfl (hb hby d5_47) rfl (l' := #[.val (.ref x), .val (.int (0 : Int32)), .val (.int (1 : Int32))]) rfl qk) ?_
          refine own_step (b := T20.setTop (mkF m 29 #[.val (.ref x), .val (.int (0 : Int32)), .val (.int (1 : Int32))] [])) (fun _ qk => XS.goto X20.here hx rfl (pc0 := 50) (pc' := 29) rfl (hb hby d5_50) (by decide) (by decide) qk) ?_
          refine own_step (b := T20.setTop (mkF m 30 #[.val (.ref x), .val (.int (0 : Int32)), .val (.int (1 : Int32))] [(.int (1 : Int32))])) (fun _ qk => XS.iloadN X20.here hx rfl (hb hby d5_29) rfl qk) ?_
          refine own_step (b := T20.setTop (mkF m 31 #[.val (.ref x), .val (.int (0 : Int32)), .val (.int (1 : Int32))] [(.int (0 : Int32)), (.int (1 : Int32))])) (fun _ qk => XS.iloadN X20.here hx rfl (hb hby d5_30) rfl qk) ?_
          refine own_icmp_le X20 hx (hb hby d5_31) (pc' := 53) (by decide) (by decide) (fun c31_24 => absurd c31_24 (by decide)) (fun c31_24 => ?_)
          show own_G p e below _ (T20.setTop (mkF m 34 #[.val (.ref x), .val (.int (0 : Int32)), .val (.int (1 : Int32))] []))
          refine own_step (b := T20.setTop (mkF m 35 #[.val (.ref x), .val (.int (0 : Int32)), .val (.int (1 : Int32))] [(.ref x)])) (fun _ qk => XS.aloadN X20.here hx rfl (hb hby d5_34) rfl rfl qk) ?_
          refine own_step (b := T20.setTop (mkF m 36 #[.val (.ref x), .val (.int (0 : Int32)), .val (.int (1 : Int32))] [(.int (1 : Int32)), (.ref x)])) (fun _ qk => XS.iloadN X20.here hx rfl (hb hby d5_35) rfl qk) ?_
          refine own_step (b := T20.setTop (mkF m 37 #[.val (.ref x), .val (.int (0 : Int32)), .val (.int (1 : Int32))] [(.int (1 : Int32)), (.int (1 : Int32)), (.ref x)])) (fun _ qk => XS.iconst X20.here hx rfl (hb hby d5_36) qk) ?_
          refine own_step (b := T20.setTop (mkF m 38 #[.val (.ref x), .val (.int (0 : Int32)), .val (.int (1 : Int32))] [(.int (0 : Int32)), (.ref x)])) (fun _ qk => XS.isub X20.here hx rfl (hb hby d5_37) rfl qk) ?_
          refine own_virtual (a := x) (W := 0) (argsL := [(.int (0 : Int32))]) (st := []) X20 hx hZ hown (own_w hw 72 rfl) (own_w hw 73 rfl) (own_w hw 75 rfl) rfl (own_w hw 74 rfl) (by decide) e20 SS.1 (own_chB (W := 0) hZ hw (kI := 4) (own_w hw 6 rfl) SS O2 P5 O4 rG3 OL0 0 (Nat.le_of_ble_eq_true rfl) (j := (0 : Int32)) rfl (r := c0) rfl (by decide) (by decide)) (by decide) (by decide) (by rw [hml]; rfl) (lenOf pd11 rfl) rfl (Nat.le_of_ble_eq_true rfl) (hb hby d5_38) (fun v25 T25 L25 X25 hQ25 => ?_)
          obtain ⟨rfl, rfl, hh25⟩ := hQ25
          rw [List.append_nil] at X25
          show own_G p e below _ (T25.setTop (mkF m 41 #[.val (.ref x), .val (.int (0 : Int32)), .val (.int (1 : Int32))] [(.int c0)]))
          refine own_staticP (W := 0) (argsL := [(.int c0)]) (st := []) X25 hx hZ hown (own_w hw 92 rfl) (own_w hw 93 rfl) (own_w hw 28 rfl) (own_w hw 94 rfl) (by decide) hh25 (rmIsb l Z a0 hw [] c0 h0) (by decide) (by decide) (by decide) (by decide) (by rw [hml]; rfl) (lenOf pd12 rfl) rfl (Nat.le_of_ble_eq_true rfl) (hb hby d5_41) (fun T26 X26 e26 => ?_)
          show own_G p e below _ (T26.setTop (mkF m 44 #[.val (.ref x), .val (.int (0 : Int32)), .val (.int (1 : Int32))] [(.int (own_bi (own_bl c0)))]))
          refine own_if_eq X26 hx (hb hby d5_44) (pc' := 53) (by decide) (by decide) (fun c44_27 => ?_) (fun c44_27 => absurd c44_27 (by rw [c20_5b]; decide))
          show own_G p e below _ (T26.setTop (mkF m 53 #[.val (.ref x), .val (.int (0 : Int32)), .val (.int (1 : Int32))] []))
          refine own_step (b := T26.setTop (mkF m 54 #[.val (.ref x), .val (.int (0 : Int32)), .val (.int (1 : Int32))] [(.ref x)])) (fun _ qk => XS.aloadN X26.here hx rfl (hb hby d5_53) rfl rfl qk) ?_
          refine own_step (b := T26.setTop (mkF m 55 #[.val (.ref x), .val (.int (0 : Int32)), .val (.int (1 : Int32))] [(.int (0 : Int32)), (.ref x)])) (fun _ qk => XS.iloadN X26.here hx rfl (hb hby d5_54) rfl qk) ?_
          refine own_step (b := T26.setTop (mkF m 56 #[.val (.ref x), .val (.int (0 : Int32)), .val (.int (1 : Int32))] [(.int (1 : Int32)), (.int (0 : Int32)), (.ref x)])) (fun _ qk => XS.iloadN X26.here hx rfl (hb hby d5_55) rfl qk) ?_
          have hs28 : own_strip [c0, c1, c2, c3] = [c0] := by simp [own_strip, List.dropWhile, c20_5b, c44_9b, c44_15b, c44_21b]
          refine own_virtual (a := x) (W := 0) (argsL := [(.int (0 : Int32)), (.int (1 : Int32))]) (st := []) X26 hx hZ hown (own_w hw 41 rfl) (own_w hw 42 rfl) (own_w hw 44 rfl) rfl (own_w hw 43 rfl) (by decide) e26 SS.1 (own_back (W := 0) (rmSubM l Z a0 hw [] x 4 0 1 [c0, c1, c2, c3] h0 SS rfl (by decide) (by decide) (by decide) (by decide) (by decide) OL0 G1 O2 P5 G3 O4 rG3) hZ (own_w hw 45 rfl) (own_w hw 7 rfl) (by decide) (by decide)) (by decide) (by decide) (by rw [hml]; rfl) (lenOf pd10 rfl) rfl (Nat.le_of_ble_eq_true rfl) (hb hby d5_56) (fun v29 T29 L29 X29 hQ29 => ?_)
          obtain ⟨r29, rfl, M29, E29, SS29⟩ := hQ29
          have z29 : h0.size ≤ T29.heap.size := E29.1
          show own_G p e below _ (T29.setTop (mkF m 59 #[.val (.ref x), .val (.int (0 : Int32)), .val (.int (1 : Int32))] [(.ref r29)]))
          exact own_retXR X29 hx hS (by omega) hret rfl rfl rfl hlk (hb hby d5_59) ⟨_, rfl, M29, E29, by rw [hs28]; exact SS29⟩ (by decide) (by decide)
  · show own_G p e below _ (T4.setTop (mkF m 23 #[.val (.ref x), .val (.int (0 : Int32)), .val (.int (4 : Int32))] []))
    have c20_5b : (own_bl c0) = true := own_bi_t c20_5
    refine own_step (b := T4.setTop (mkF m 26 #[.val (.ref x), .val (.int (1 : Int32)), .val (.int (4 : Int32))] [])) (fun _ qk => XS.iinc X4.here hx rfl (hb hby d5_23) rfl (l' := #[.val (.ref x), .val (.int (1 : Int32)), .val (.int (4 : Int32))]) rfl qk) ?_
    refine own_step (b := T4.setTop (mkF m 7 #[.val (.ref x), .val (.int (1 : Int32)), .val (.int (4 : Int32))] [])) (fun _ qk => XS.goto X4.here hx rfl (pc0 := 26) (pc' := 7) rfl (hb hby d5_26) (by decide) (by decide) qk) ?_
    refine own_step (b := T4.setTop (mkF m 8 #[.val (.ref x), .val (.int (1 : Int32)), .val (.int (4 : Int32))] [(.int (1 : Int32))])) (fun _ qk => XS.iloadN X4.here hx rfl (hb hby d5_7) rfl qk) ?_
    refine own_step (b := T4.setTop (mkF m 9 #[.val (.ref x), .val (.int (1 : Int32)), .val (.int (4 : Int32))] [(.int (4 : Int32)), (.int (1 : Int32))])) (fun _ qk => XS.iloadN X4.here hx rfl (hb hby d5_8) rfl qk) ?_
    refine own_icmp_ge X4 hx (hb hby d5_9) (pc' := 29) (by decide) (by decide) (fun c9_30 => absurd c9_30 (by decide)) (fun c9_30 => ?_)
    show own_G p e below _ (T4.setTop (mkF m 12 #[.val (.ref x), .val (.int (1 : Int32)), .val (.int (4 : Int32))] []))
    refine own_step (b := T4.setTop (mkF m 13 #[.val (.ref x), .val (.int (1 : Int32)), .val (.int (4 : Int32))] [(.ref x)])) (fun _ qk => XS.aloadN X4.here hx rfl (hb hby d5_12) rfl rfl qk) ?_
    refine own_step (b := T4.setTop (mkF m 14 #[.val (.ref x), .val (.int (1 : Int32)), .val (.int (4 : Int32))] [(.int (1 : Int32)), (.ref x)])) (fun _ qk => XS.iloadN X4.here hx rfl (hb hby d5_13) rfl qk) ?_
    refine own_virtual (a := x) (W := 0) (argsL := [(.int (1 : Int32))]) (st := []) X4 hx hZ hown (own_w hw 72 rfl) (own_w hw 73 rfl) (own_w hw 75 rfl) rfl (own_w hw 74 rfl) (by decide) e4 SS.1 (own_chB (W := 0) hZ hw (kI := 4) (own_w hw 6 rfl) SS O2 P5 O4 rG3 OL0 1 (Nat.le_of_ble_eq_true rfl) (j := (1 : Int32)) rfl (r := c1) rfl (by decide) (by decide)) (by decide) (by decide) (by rw [hml]; rfl) (lenOf pd11 rfl) rfl (Nat.le_of_ble_eq_true rfl) (hb hby d5_14) (fun v31 T31 L31 X31 hQ31 => ?_)
    obtain ⟨rfl, rfl, hh31⟩ := hQ31
    rw [List.append_nil] at X31
    show own_G p e below _ (T31.setTop (mkF m 17 #[.val (.ref x), .val (.int (1 : Int32)), .val (.int (4 : Int32))] [(.int c1)]))
    refine own_staticP (W := 0) (argsL := [(.int c1)]) (st := []) X31 hx hZ hown (own_w hw 92 rfl) (own_w hw 93 rfl) (own_w hw 28 rfl) (own_w hw 94 rfl) (by decide) hh31 (rmIsb l Z a0 hw [] c1 h0) (by decide) (by decide) (by decide) (by decide) (by rw [hml]; rfl) (lenOf pd12 rfl) rfl (Nat.le_of_ble_eq_true rfl) (hb hby d5_17) (fun T32 X32 e32 => ?_)
    show own_G p e below _ (T32.setTop (mkF m 20 #[.val (.ref x), .val (.int (1 : Int32)), .val (.int (4 : Int32))] [(.int (own_bi (own_bl c1)))]))
    refine own_if_eq X32 hx (hb hby d5_20) (pc' := 29) (by decide) (by decide) (fun c20_33 => ?_) (fun c20_33 => ?_)
    · show own_G p e below _ (T32.setTop (mkF m 29 #[.val (.ref x), .val (.int (1 : Int32)), .val (.int (4 : Int32))] []))
      have c20_33b : (own_bl c1) = false := own_bi_f c20_33
      refine own_step (b := T32.setTop (mkF m 30 #[.val (.ref x), .val (.int (1 : Int32)), .val (.int (4 : Int32))] [(.int (4 : Int32))])) (fun _ qk => XS.iloadN X32.here hx rfl (hb hby d5_29) rfl qk) ?_
      refine own_step (b := T32.setTop (mkF m 31 #[.val (.ref x), .val (.int (1 : Int32)), .val (.int (4 : Int32))] [(.int (1 : Int32)), (.int (4 : Int32))])) (fun _ qk => XS.iloadN X32.here hx rfl (hb hby d5_30) rfl qk) ?_
      refine own_icmp_le X32 hx (hb hby d5_31) (pc' := 53) (by decide) (by decide) (fun c31_34 => absurd c31_34 (by decide)) (fun c31_34 => ?_)
      show own_G p e below _ (T32.setTop (mkF m 34 #[.val (.ref x), .val (.int (1 : Int32)), .val (.int (4 : Int32))] []))
      refine own_step (b := T32.setTop (mkF m 35 #[.val (.ref x), .val (.int (1 : Int32)), .val (.int (4 : Int32))] [(.ref x)])) (fun _ qk => XS.aloadN X32.here hx rfl (hb hby d5_34) rfl rfl qk) ?_
      refine own_step (b := T32.setTop (mkF m 36 #[.val (.ref x), .val (.int (1 : Int32)), .val (.int (4 : Int32))] [(.int (4 : Int32)), (.ref x)])) (fun _ qk => XS.iloadN X32.here hx rfl (hb hby d5_35) rfl qk) ?_
      refine own_step (b := T32.setTop (mkF m 37 #[.val (.ref x), .val (.int (1 : Int32)), .val (.int (4 : Int32))] [(.int (1 : Int32)), (.int (4 : Int32)), (.ref x)])) (fun _ qk => XS.iconst X32.here hx rfl (hb hby d5_36) qk) ?_
      refine own_step (b := T32.setTop (mkF m 38 #[.val (.ref x), .val (.int (1 : Int32)), .val (.int (4 : Int32))] [(.int (3 : Int32)), (.ref x)])) (fun _ qk => XS.isub X32.here hx rfl (hb hby d5_37) rfl qk) ?_
      refine own_virtual (a := x) (W := 0) (argsL := [(.int (3 : Int32))]) (st := []) X32 hx hZ hown (own_w hw 72 rfl) (own_w hw 73 rfl) (own_w hw 75 rfl) rfl (own_w hw 74 rfl) (by decide) e32 SS.1 (own_chB (W := 0) hZ hw (kI := 4) (own_w hw 6 rfl) SS O2 P5 O4 rG3 OL0 3 (Nat.le_of_ble_eq_true rfl) (j := (3 : Int32)) rfl (r := c3) rfl (by decide) (by decide)) (by decide) (by decide) (by rw [hml]; rfl) (lenOf pd11 rfl) rfl (Nat.le_of_ble_eq_true rfl) (hb hby d5_38) (fun v35 T35 L35 X35 hQ35 => ?_)
      obtain ⟨rfl, rfl, hh35⟩ := hQ35
      rw [List.append_nil] at X35
      show own_G p e below _ (T35.setTop (mkF m 41 #[.val (.ref x), .val (.int (1 : Int32)), .val (.int (4 : Int32))] [(.int c3)]))
      refine own_staticP (W := 0) (argsL := [(.int c3)]) (st := []) X35 hx hZ hown (own_w hw 92 rfl) (own_w hw 93 rfl) (own_w hw 28 rfl) (own_w hw 94 rfl) (by decide) hh35 (rmIsb l Z a0 hw [] c3 h0) (by decide) (by decide) (by decide) (by decide) (by rw [hml]; rfl) (lenOf pd12 rfl) rfl (Nat.le_of_ble_eq_true rfl) (hb hby d5_41) (fun T36 X36 e36 => ?_)
      show own_G p e below _ (T36.setTop (mkF m 44 #[.val (.ref x), .val (.int (1 : Int32)), .val (.int (4 : Int32))] [(.int (own_bi (own_bl c3)))]))
      refine own_if_eq X36 hx (hb hby d5_44) (pc' := 53) (by decide) (by decide) (fun c44_37 => ?_) (fun c44_37 => ?_)
      · show own_G p e below _ (T36.setTop (mkF m 53 #[.val (.ref x), .val (.int (1 : Int32)), .val (.int (4 : Int32))] []))
        have c44_37b : (own_bl c3) = false := own_bi_f c44_37
        refine own_step (b := T36.setTop (mkF m 54 #[.val (.ref x), .val (.int (1 : Int32)), .val (.int (4 : Int32))] [(.ref x)])) (fun _ qk => XS.aloadN X36.here hx rfl (hb hby d5_53) rfl rfl qk) ?_
        refine own_step (b := T36.setTop (mkF m 55 #[.val (.ref x), .val (.int (1 : Int32)), .val (.int (4 : Int32))] [(.int (1 : Int32)), (.ref x)])) (fun _ qk => XS.iloadN X36.here hx rfl (hb hby d5_54) rfl qk) ?_
        refine own_step (b := T36.setTop (mkF m 56 #[.val (.ref x), .val (.int (1 : Int32)), .val (.int (4 : Int32))] [(.int (4 : Int32)), (.int (1 : Int32)), (.ref x)])) (fun _ qk => XS.iloadN X36.here hx rfl (hb hby d5_55) rfl qk) ?_
        have hs38 : own_strip [c0, c1, c2, c3] = [c1, c2, c3] := by simp [own_strip, List.dropWhile, c20_5b, c20_33b, c44_37b]
        refine own_virtual (a := x) (W := 0) (argsL := [(.int (1 : Int32)), (.int (4 : Int32))]) (st := []) X36 hx hZ hown (own_w hw 41 rfl) (own_w hw 42 rfl) (own_w hw 44 rfl) rfl (own_w hw 43 rfl) (by decide) e36 SS.1 (own_back (W := 0) (rmSubM l Z a0 hw [] x 4 1 4 [c0, c1, c2, c3] h0 SS rfl (by decide) (by decide) (by decide) (by decide) (by decide) OL0 G1 O2 P5 G3 O4 rG3) hZ (own_w hw 45 rfl) (own_w hw 7 rfl) (by decide) (by decide)) (by decide) (by decide) (by rw [hml]; rfl) (lenOf pd10 rfl) rfl (Nat.le_of_ble_eq_true rfl) (hb hby d5_56) (fun v39 T39 L39 X39 hQ39 => ?_)
        obtain ⟨r39, rfl, M39, E39, SS39⟩ := hQ39
        have z39 : h0.size ≤ T39.heap.size := E39.1
        show own_G p e below _ (T39.setTop (mkF m 59 #[.val (.ref x), .val (.int (1 : Int32)), .val (.int (4 : Int32))] [(.ref r39)]))
        exact own_retXR X39 hx hS (by omega) hret rfl rfl rfl hlk (hb hby d5_59) ⟨_, rfl, M39, E39, by rw [hs38]; exact SS39⟩ (by decide) (by decide)
      · show own_G p e below _ (T36.setTop (mkF m 47 #[.val (.ref x), .val (.int (1 : Int32)), .val (.int (4 : Int32))] []))
        have c44_37b : (own_bl c3) = true := own_bi_t c44_37
        refine own_step (b := T36.setTop (mkF m 50 #[.val (.ref x), .val (.int (1 : Int32)), .val (.int (3 : Int32))] [])) (fun _ qk => XS.iinc X36.here hx rfl (hb hby d5_47) rfl (l' := #[.val (.ref x), .val (.int (1 : Int32)), .val (.int (3 : Int32))]) rfl qk) ?_
        refine own_step (b := T36.setTop (mkF m 29 #[.val (.ref x), .val (.int (1 : Int32)), .val (.int (3 : Int32))] [])) (fun _ qk => XS.goto X36.here hx rfl (pc0 := 50) (pc' := 29) rfl (hb hby d5_50) (by decide) (by decide) qk) ?_
        refine own_step (b := T36.setTop (mkF m 30 #[.val (.ref x), .val (.int (1 : Int32)), .val (.int (3 : Int32))] [(.int (3 : Int32))])) (fun _ qk => XS.iloadN X36.here hx rfl (hb hby d5_29) rfl qk) ?_
        refine own_step (b := T36.setTop (mkF m 31 #[.val (.ref x), .val (.int (1 : Int32)), .val (.int (3 : Int32))] [(.int (1 : Int32)), (.int (3 : Int32))])) (fun _ qk => XS.iloadN X36.here hx rfl (hb hby d5_30) rfl qk) ?_
        refine own_icmp_le X36 hx (hb hby d5_31) (pc' := 53) (by decide) (by decide) (fun c31_40 => absurd c31_40 (by decide)) (fun c31_40 => ?_)
        show own_G p e below _ (T36.setTop (mkF m 34 #[.val (.ref x), .val (.int (1 : Int32)), .val (.int (3 : Int32))] []))
        refine own_step (b := T36.setTop (mkF m 35 #[.val (.ref x), .val (.int (1 : Int32)), .val (.int (3 : Int32))] [(.ref x)])) (fun _ qk => XS.aloadN X36.here hx rfl (hb hby d5_34) rfl rfl qk) ?_
        refine own_step (b := T36.setTop (mkF m 36 #[.val (.ref x), .val (.int (1 : Int32)), .val (.int (3 : Int32))] [(.int (3 : Int32)), (.ref x)])) (fun _ qk => XS.iloadN X36.here hx rfl (hb hby d5_35) rfl qk) ?_
        refine own_step (b := T36.setTop (mkF m 37 #[.val (.ref x), .val (.int (1 : Int32)), .val (.int (3 : Int32))] [(.int (1 : Int32)), (.int (3 : Int32)), (.ref x)])) (fun _ qk => XS.iconst X36.here hx rfl (hb hby d5_36) qk) ?_
        refine own_step (b := T36.setTop (mkF m 38 #[.val (.ref x), .val (.int (1 : Int32)), .val (.int (3 : Int32))] [(.int (2 : Int32)), (.ref x)])) (fun _ qk => XS.isub X36.here hx rfl (hb hby d5_37) rfl qk) ?_
        refine own_virtual (a := x) (W := 0) (argsL := [(.int (2 : Int32))]) (st := []) X36 hx hZ hown (own_w hw 72 rfl) (own_w hw 73 rfl) (own_w hw 75 rfl) rfl (own_w hw 74 rfl) (by decide) e36 SS.1 (own_chB (W := 0) hZ hw (kI := 4) (own_w hw 6 rfl) SS O2 P5 O4 rG3 OL0 2 (Nat.le_of_ble_eq_true rfl) (j := (2 : Int32)) rfl (r := c2) rfl (by decide) (by decide)) (by decide) (by decide) (by rw [hml]; rfl) (lenOf pd11 rfl) rfl (Nat.le_of_ble_eq_true rfl) (hb hby d5_38) (fun v41 T41 L41 X41 hQ41 => ?_)
        obtain ⟨rfl, rfl, hh41⟩ := hQ41
        rw [List.append_nil] at X41
        show own_G p e below _ (T41.setTop (mkF m 41 #[.val (.ref x), .val (.int (1 : Int32)), .val (.int (3 : Int32))] [(.int c2)]))
        refine own_staticP (W := 0) (argsL := [(.int c2)]) (st := []) X41 hx hZ hown (own_w hw 92 rfl) (own_w hw 93 rfl) (own_w hw 28 rfl) (own_w hw 94 rfl) (by decide) hh41 (rmIsb l Z a0 hw [] c2 h0) (by decide) (by decide) (by decide) (by decide) (by rw [hml]; rfl) (lenOf pd12 rfl) rfl (Nat.le_of_ble_eq_true rfl) (hb hby d5_41) (fun T42 X42 e42 => ?_)
        show own_G p e below _ (T42.setTop (mkF m 44 #[.val (.ref x), .val (.int (1 : Int32)), .val (.int (3 : Int32))] [(.int (own_bi (own_bl c2)))]))
        refine own_if_eq X42 hx (hb hby d5_44) (pc' := 53) (by decide) (by decide) (fun c44_43 => ?_) (fun c44_43 => ?_)
        · show own_G p e below _ (T42.setTop (mkF m 53 #[.val (.ref x), .val (.int (1 : Int32)), .val (.int (3 : Int32))] []))
          have c44_43b : (own_bl c2) = false := own_bi_f c44_43
          refine own_step (b := T42.setTop (mkF m 54 #[.val (.ref x), .val (.int (1 : Int32)), .val (.int (3 : Int32))] [(.ref x)])) (fun _ qk => XS.aloadN X42.here hx rfl (hb hby d5_53) rfl rfl qk) ?_
          refine own_step (b := T42.setTop (mkF m 55 #[.val (.ref x), .val (.int (1 : Int32)), .val (.int (3 : Int32))] [(.int (1 : Int32)), (.ref x)])) (fun _ qk => XS.iloadN X42.here hx rfl (hb hby d5_54) rfl qk) ?_
          refine own_step (b := T42.setTop (mkF m 56 #[.val (.ref x), .val (.int (1 : Int32)), .val (.int (3 : Int32))] [(.int (3 : Int32)), (.int (1 : Int32)), (.ref x)])) (fun _ qk => XS.iloadN X42.here hx rfl (hb hby d5_55) rfl qk) ?_
          have hs44 : own_strip [c0, c1, c2, c3] = [c1, c2] := by simp [own_strip, List.dropWhile, c20_5b, c20_33b, c44_37b, c44_43b]
          refine own_virtual (a := x) (W := 0) (argsL := [(.int (1 : Int32)), (.int (3 : Int32))]) (st := []) X42 hx hZ hown (own_w hw 41 rfl) (own_w hw 42 rfl) (own_w hw 44 rfl) rfl (own_w hw 43 rfl) (by decide) e42 SS.1 (own_back (W := 0) (rmSubM l Z a0 hw [] x 4 1 3 [c0, c1, c2, c3] h0 SS rfl (by decide) (by decide) (by decide) (by decide) (by decide) OL0 G1 O2 P5 G3 O4 rG3) hZ (own_w hw 45 rfl) (own_w hw 7 rfl) (by decide) (by decide)) (by decide) (by decide) (by rw [hml]; rfl) (lenOf pd10 rfl) rfl (Nat.le_of_ble_eq_true rfl) (hb hby d5_56) (fun v45 T45 L45 X45 hQ45 => ?_)
          obtain ⟨r45, rfl, M45, E45, SS45⟩ := hQ45
          have z45 : h0.size ≤ T45.heap.size := E45.1
          show own_G p e below _ (T45.setTop (mkF m 59 #[.val (.ref x), .val (.int (1 : Int32)), .val (.int (3 : Int32))] [(.ref r45)]))
          exact own_retXR X45 hx hS (by omega) hret rfl rfl rfl hlk (hb hby d5_59) ⟨_, rfl, M45, E45, by rw [hs44]; exact SS45⟩ (by decide) (by decide)
        · show own_G p e below _ (T42.setTop (mkF m 47 #[.val (.ref x), .val (.int (1 : Int32)), .val (.int (3 : Int32))] []))
          have c44_43b : (own_bl c2) = true := own_bi_t c44_43
          refine own_step (b := T42.setTop (mkF m 50 #[.val (.ref x), .val (.int (1 : Int32)), .val (.int (2 : Int32))] [])) (fun _ qk => XS.iinc X42.here hx rfl (hb hby d5_47) rfl (l' := #[.val (.ref x), .val (.int (1 : Int32)), .val (.int (2 : Int32))]) rfl qk) ?_
          refine own_step (b := T42.setTop (mkF m 29 #[.val (.ref x), .val (.int (1 : Int32)), .val (.int (2 : Int32))] [])) (fun _ qk => XS.goto X42.here hx rfl (pc0 := 50) (pc' := 29) rfl (hb hby d5_50) (by decide) (by decide) qk) ?_
          refine own_step (b := T42.setTop (mkF m 30 #[.val (.ref x), .val (.int (1 : Int32)), .val (.int (2 : Int32))] [(.int (2 : Int32))])) (fun _ qk => XS.iloadN X42.here hx rfl (hb hby d5_29) rfl qk) ?_
          refine own_step (b := T42.setTop (mkF m 31 #[.val (.ref x), .val (.int (1 : Int32)), .val (.int (2 : Int32))] [(.int (1 : Int32)), (.int (2 : Int32))])) (fun _ qk => XS.iloadN X42.here hx rfl (hb hby d5_30) rfl qk) ?_
          refine own_icmp_le X42 hx (hb hby d5_31) (pc' := 53) (by decide) (by decide) (fun c31_46 => absurd c31_46 (by decide)) (fun c31_46 => ?_)
          show own_G p e below _ (T42.setTop (mkF m 34 #[.val (.ref x), .val (.int (1 : Int32)), .val (.int (2 : Int32))] []))
          refine own_step (b := T42.setTop (mkF m 35 #[.val (.ref x), .val (.int (1 : Int32)), .val (.int (2 : Int32))] [(.ref x)])) (fun _ qk => XS.aloadN X42.here hx rfl (hb hby d5_34) rfl rfl qk) ?_
          refine own_step (b := T42.setTop (mkF m 36 #[.val (.ref x), .val (.int (1 : Int32)), .val (.int (2 : Int32))] [(.int (2 : Int32)), (.ref x)])) (fun _ qk => XS.iloadN X42.here hx rfl (hb hby d5_35) rfl qk) ?_
          refine own_step (b := T42.setTop (mkF m 37 #[.val (.ref x), .val (.int (1 : Int32)), .val (.int (2 : Int32))] [(.int (1 : Int32)), (.int (2 : Int32)), (.ref x)])) (fun _ qk => XS.iconst X42.here hx rfl (hb hby d5_36) qk) ?_
          refine own_step (b := T42.setTop (mkF m 38 #[.val (.ref x), .val (.int (1 : Int32)), .val (.int (2 : Int32))] [(.int (1 : Int32)), (.ref x)])) (fun _ qk => XS.isub X42.here hx rfl (hb hby d5_37) rfl qk) ?_
          refine own_virtual (a := x) (W := 0) (argsL := [(.int (1 : Int32))]) (st := []) X42 hx hZ hown (own_w hw 72 rfl) (own_w hw 73 rfl) (own_w hw 75 rfl) rfl (own_w hw 74 rfl) (by decide) e42 SS.1 (own_chB (W := 0) hZ hw (kI := 4) (own_w hw 6 rfl) SS O2 P5 O4 rG3 OL0 1 (Nat.le_of_ble_eq_true rfl) (j := (1 : Int32)) rfl (r := c1) rfl (by decide) (by decide)) (by decide) (by decide) (by rw [hml]; rfl) (lenOf pd11 rfl) rfl (Nat.le_of_ble_eq_true rfl) (hb hby d5_38) (fun v47 T47 L47 X47 hQ47 => ?_)
          obtain ⟨rfl, rfl, hh47⟩ := hQ47
          rw [List.append_nil] at X47
          show own_G p e below _ (T47.setTop (mkF m 41 #[.val (.ref x), .val (.int (1 : Int32)), .val (.int (2 : Int32))] [(.int c1)]))
          refine own_staticP (W := 0) (argsL := [(.int c1)]) (st := []) X47 hx hZ hown (own_w hw 92 rfl) (own_w hw 93 rfl) (own_w hw 28 rfl) (own_w hw 94 rfl) (by decide) hh47 (rmIsb l Z a0 hw [] c1 h0) (by decide) (by decide) (by decide) (by decide) (by rw [hml]; rfl) (lenOf pd12 rfl) rfl (Nat.le_of_ble_eq_true rfl) (hb hby d5_41) (fun T48 X48 e48 => ?_)
          show own_G p e below _ (T48.setTop (mkF m 44 #[.val (.ref x), .val (.int (1 : Int32)), .val (.int (2 : Int32))] [(.int (own_bi (own_bl c1)))]))
          refine own_if_eq X48 hx (hb hby d5_44) (pc' := 53) (by decide) (by decide) (fun c44_49 => ?_) (fun c44_49 => absurd c44_49 (by rw [c20_33b]; decide))
          show own_G p e below _ (T48.setTop (mkF m 53 #[.val (.ref x), .val (.int (1 : Int32)), .val (.int (2 : Int32))] []))
          refine own_step (b := T48.setTop (mkF m 54 #[.val (.ref x), .val (.int (1 : Int32)), .val (.int (2 : Int32))] [(.ref x)])) (fun _ qk => XS.aloadN X48.here hx rfl (hb hby d5_53) rfl rfl qk) ?_
          refine own_step (b := T48.setTop (mkF m 55 #[.val (.ref x), .val (.int (1 : Int32)), .val (.int (2 : Int32))] [(.int (1 : Int32)), (.ref x)])) (fun _ qk => XS.iloadN X48.here hx rfl (hb hby d5_54) rfl qk) ?_
          refine own_step (b := T48.setTop (mkF m 56 #[.val (.ref x), .val (.int (1 : Int32)), .val (.int (2 : Int32))] [(.int (2 : Int32)), (.int (1 : Int32)), (.ref x)])) (fun _ qk => XS.iloadN X48.here hx rfl (hb hby d5_55) rfl qk) ?_
          have hs50 : own_strip [c0, c1, c2, c3] = [c1] := by simp [own_strip, List.dropWhile, c20_5b, c20_33b, c44_37b, c44_43b]
          refine own_virtual (a := x) (W := 0) (argsL := [(.int (1 : Int32)), (.int (2 : Int32))]) (st := []) X48 hx hZ hown (own_w hw 41 rfl) (own_w hw 42 rfl) (own_w hw 44 rfl) rfl (own_w hw 43 rfl) (by decide) e48 SS.1 (own_back (W := 0) (rmSubM l Z a0 hw [] x 4 1 2 [c0, c1, c2, c3] h0 SS rfl (by decide) (by decide) (by decide) (by decide) (by decide) OL0 G1 O2 P5 G3 O4 rG3) hZ (own_w hw 45 rfl) (own_w hw 7 rfl) (by decide) (by decide)) (by decide) (by decide) (by rw [hml]; rfl) (lenOf pd10 rfl) rfl (Nat.le_of_ble_eq_true rfl) (hb hby d5_56) (fun v51 T51 L51 X51 hQ51 => ?_)
          obtain ⟨r51, rfl, M51, E51, SS51⟩ := hQ51
          have z51 : h0.size ≤ T51.heap.size := E51.1
          show own_G p e below _ (T51.setTop (mkF m 59 #[.val (.ref x), .val (.int (1 : Int32)), .val (.int (2 : Int32))] [(.ref r51)]))
          exact own_retXR X51 hx hS (by omega) hret rfl rfl rfl hlk (hb hby d5_59) ⟨_, rfl, M51, E51, by rw [hs50]; exact SS51⟩ (by decide) (by decide)
    · show own_G p e below _ (T32.setTop (mkF m 23 #[.val (.ref x), .val (.int (1 : Int32)), .val (.int (4 : Int32))] []))
      have c20_33b : (own_bl c1) = true := own_bi_t c20_33
      refine own_step (b := T32.setTop (mkF m 26 #[.val (.ref x), .val (.int (2 : Int32)), .val (.int (4 : Int32))] [])) (fun _ qk => XS.iinc X32.here hx rfl (hb hby d5_23) rfl (l' := #[.val (.ref x), .val (.int (2 : Int32)), .val (.int (4 : Int32))]) rfl qk) ?_
      refine own_step (b := T32.setTop (mkF m 7 #[.val (.ref x), .val (.int (2 : Int32)), .val (.int (4 : Int32))] [])) (fun _ qk => XS.goto X32.here hx rfl (pc0 := 26) (pc' := 7) rfl (hb hby d5_26) (by decide) (by decide) qk) ?_
      refine own_step (b := T32.setTop (mkF m 8 #[.val (.ref x), .val (.int (2 : Int32)), .val (.int (4 : Int32))] [(.int (2 : Int32))])) (fun _ qk => XS.iloadN X32.here hx rfl (hb hby d5_7) rfl qk) ?_
      refine own_step (b := T32.setTop (mkF m 9 #[.val (.ref x), .val (.int (2 : Int32)), .val (.int (4 : Int32))] [(.int (4 : Int32)), (.int (2 : Int32))])) (fun _ qk => XS.iloadN X32.here hx rfl (hb hby d5_8) rfl qk) ?_
      refine own_icmp_ge X32 hx (hb hby d5_9) (pc' := 29) (by decide) (by decide) (fun c9_52 => absurd c9_52 (by decide)) (fun c9_52 => ?_)
      show own_G p e below _ (T32.setTop (mkF m 12 #[.val (.ref x), .val (.int (2 : Int32)), .val (.int (4 : Int32))] []))
      refine own_step (b := T32.setTop (mkF m 13 #[.val (.ref x), .val (.int (2 : Int32)), .val (.int (4 : Int32))] [(.ref x)])) (fun _ qk => XS.aloadN X32.here hx rfl (hb hby d5_12) rfl rfl qk) ?_
      refine own_step (b := T32.setTop (mkF m 14 #[.val (.ref x), .val (.int (2 : Int32)), .val (.int (4 : Int32))] [(.int (2 : Int32)), (.ref x)])) (fun _ qk => XS.iloadN X32.here hx rfl (hb hby d5_13) rfl qk) ?_
      refine own_virtual (a := x) (W := 0) (argsL := [(.int (2 : Int32))]) (st := []) X32 hx hZ hown (own_w hw 72 rfl) (own_w hw 73 rfl) (own_w hw 75 rfl) rfl (own_w hw 74 rfl) (by decide) e32 SS.1 (own_chB (W := 0) hZ hw (kI := 4) (own_w hw 6 rfl) SS O2 P5 O4 rG3 OL0 2 (Nat.le_of_ble_eq_true rfl) (j := (2 : Int32)) rfl (r := c2) rfl (by decide) (by decide)) (by decide) (by decide) (by rw [hml]; rfl) (lenOf pd11 rfl) rfl (Nat.le_of_ble_eq_true rfl) (hb hby d5_14) (fun v53 T53 L53 X53 hQ53 => ?_)
      obtain ⟨rfl, rfl, hh53⟩ := hQ53
      rw [List.append_nil] at X53
      show own_G p e below _ (T53.setTop (mkF m 17 #[.val (.ref x), .val (.int (2 : Int32)), .val (.int (4 : Int32))] [(.int c2)]))
      refine own_staticP (W := 0) (argsL := [(.int c2)]) (st := []) X53 hx hZ hown (own_w hw 92 rfl) (own_w hw 93 rfl) (own_w hw 28 rfl) (own_w hw 94 rfl) (by decide) hh53 (rmIsb l Z a0 hw [] c2 h0) (by decide) (by decide) (by decide) (by decide) (by rw [hml]; rfl) (lenOf pd12 rfl) rfl (Nat.le_of_ble_eq_true rfl) (hb hby d5_17) (fun T54 X54 e54 => ?_)
      show own_G p e below _ (T54.setTop (mkF m 20 #[.val (.ref x), .val (.int (2 : Int32)), .val (.int (4 : Int32))] [(.int (own_bi (own_bl c2)))]))
      refine own_if_eq X54 hx (hb hby d5_20) (pc' := 29) (by decide) (by decide) (fun c20_55 => ?_) (fun c20_55 => ?_)
      · show own_G p e below _ (T54.setTop (mkF m 29 #[.val (.ref x), .val (.int (2 : Int32)), .val (.int (4 : Int32))] []))
        have c20_55b : (own_bl c2) = false := own_bi_f c20_55
        refine own_step (b := T54.setTop (mkF m 30 #[.val (.ref x), .val (.int (2 : Int32)), .val (.int (4 : Int32))] [(.int (4 : Int32))])) (fun _ qk => XS.iloadN X54.here hx rfl (hb hby d5_29) rfl qk) ?_
        refine own_step (b := T54.setTop (mkF m 31 #[.val (.ref x), .val (.int (2 : Int32)), .val (.int (4 : Int32))] [(.int (2 : Int32)), (.int (4 : Int32))])) (fun _ qk => XS.iloadN X54.here hx rfl (hb hby d5_30) rfl qk) ?_
        refine own_icmp_le X54 hx (hb hby d5_31) (pc' := 53) (by decide) (by decide) (fun c31_56 => absurd c31_56 (by decide)) (fun c31_56 => ?_)
        show own_G p e below _ (T54.setTop (mkF m 34 #[.val (.ref x), .val (.int (2 : Int32)), .val (.int (4 : Int32))] []))
        refine own_step (b := T54.setTop (mkF m 35 #[.val (.ref x), .val (.int (2 : Int32)), .val (.int (4 : Int32))] [(.ref x)])) (fun _ qk => XS.aloadN X54.here hx rfl (hb hby d5_34) rfl rfl qk) ?_
        refine own_step (b := T54.setTop (mkF m 36 #[.val (.ref x), .val (.int (2 : Int32)), .val (.int (4 : Int32))] [(.int (4 : Int32)), (.ref x)])) (fun _ qk => XS.iloadN X54.here hx rfl (hb hby d5_35) rfl qk) ?_
        refine own_step (b := T54.setTop (mkF m 37 #[.val (.ref x), .val (.int (2 : Int32)), .val (.int (4 : Int32))] [(.int (1 : Int32)), (.int (4 : Int32)), (.ref x)])) (fun _ qk => XS.iconst X54.here hx rfl (hb hby d5_36) qk) ?_
        refine own_step (b := T54.setTop (mkF m 38 #[.val (.ref x), .val (.int (2 : Int32)), .val (.int (4 : Int32))] [(.int (3 : Int32)), (.ref x)])) (fun _ qk => XS.isub X54.here hx rfl (hb hby d5_37) rfl qk) ?_
        refine own_virtual (a := x) (W := 0) (argsL := [(.int (3 : Int32))]) (st := []) X54 hx hZ hown (own_w hw 72 rfl) (own_w hw 73 rfl) (own_w hw 75 rfl) rfl (own_w hw 74 rfl) (by decide) e54 SS.1 (own_chB (W := 0) hZ hw (kI := 4) (own_w hw 6 rfl) SS O2 P5 O4 rG3 OL0 3 (Nat.le_of_ble_eq_true rfl) (j := (3 : Int32)) rfl (r := c3) rfl (by decide) (by decide)) (by decide) (by decide) (by rw [hml]; rfl) (lenOf pd11 rfl) rfl (Nat.le_of_ble_eq_true rfl) (hb hby d5_38) (fun v57 T57 L57 X57 hQ57 => ?_)
        obtain ⟨rfl, rfl, hh57⟩ := hQ57
        rw [List.append_nil] at X57
        show own_G p e below _ (T57.setTop (mkF m 41 #[.val (.ref x), .val (.int (2 : Int32)), .val (.int (4 : Int32))] [(.int c3)]))
        refine own_staticP (W := 0) (argsL := [(.int c3)]) (st := []) X57 hx hZ hown (own_w hw 92 rfl) (own_w hw 93 rfl) (own_w hw 28 rfl) (own_w hw 94 rfl) (by decide) hh57 (rmIsb l Z a0 hw [] c3 h0) (by decide) (by decide) (by decide) (by decide) (by rw [hml]; rfl) (lenOf pd12 rfl) rfl (Nat.le_of_ble_eq_true rfl) (hb hby d5_41) (fun T58 X58 e58 => ?_)
        show own_G p e below _ (T58.setTop (mkF m 44 #[.val (.ref x), .val (.int (2 : Int32)), .val (.int (4 : Int32))] [(.int (own_bi (own_bl c3)))]))
        refine own_if_eq X58 hx (hb hby d5_44) (pc' := 53) (by decide) (by decide) (fun c44_59 => ?_) (fun c44_59 => ?_)
        · show own_G p e below _ (T58.setTop (mkF m 53 #[.val (.ref x), .val (.int (2 : Int32)), .val (.int (4 : Int32))] []))
          have c44_59b : (own_bl c3) = false := own_bi_f c44_59
          refine own_step (b := T58.setTop (mkF m 54 #[.val (.ref x), .val (.int (2 : Int32)), .val (.int (4 : Int32))] [(.ref x)])) (fun _ qk => XS.aloadN X58.here hx rfl (hb hby d5_53) rfl rfl qk) ?_
          refine own_step (b := T58.setTop (mkF m 55 #[.val (.ref x), .val (.int (2 : Int32)), .val (.int (4 : Int32))] [(.int (2 : Int32)), (.ref x)])) (fun _ qk => XS.iloadN X58.here hx rfl (hb hby d5_54) rfl qk) ?_
          refine own_step (b := T58.setTop (mkF m 56 #[.val (.ref x), .val (.int (2 : Int32)), .val (.int (4 : Int32))] [(.int (4 : Int32)), (.int (2 : Int32)), (.ref x)])) (fun _ qk => XS.iloadN X58.here hx rfl (hb hby d5_55) rfl qk) ?_
          have hs60 : own_strip [c0, c1, c2, c3] = [c2, c3] := by simp [own_strip, List.dropWhile, c20_5b, c20_33b, c20_55b, c44_59b]
          refine own_virtual (a := x) (W := 0) (argsL := [(.int (2 : Int32)), (.int (4 : Int32))]) (st := []) X58 hx hZ hown (own_w hw 41 rfl) (own_w hw 42 rfl) (own_w hw 44 rfl) rfl (own_w hw 43 rfl) (by decide) e58 SS.1 (own_back (W := 0) (rmSubM l Z a0 hw [] x 4 2 4 [c0, c1, c2, c3] h0 SS rfl (by decide) (by decide) (by decide) (by decide) (by decide) OL0 G1 O2 P5 G3 O4 rG3) hZ (own_w hw 45 rfl) (own_w hw 7 rfl) (by decide) (by decide)) (by decide) (by decide) (by rw [hml]; rfl) (lenOf pd10 rfl) rfl (Nat.le_of_ble_eq_true rfl) (hb hby d5_56) (fun v61 T61 L61 X61 hQ61 => ?_)
          obtain ⟨r61, rfl, M61, E61, SS61⟩ := hQ61
          have z61 : h0.size ≤ T61.heap.size := E61.1
          show own_G p e below _ (T61.setTop (mkF m 59 #[.val (.ref x), .val (.int (2 : Int32)), .val (.int (4 : Int32))] [(.ref r61)]))
          exact own_retXR X61 hx hS (by omega) hret rfl rfl rfl hlk (hb hby d5_59) ⟨_, rfl, M61, E61, by rw [hs60]; exact SS61⟩ (by decide) (by decide)
        · show own_G p e below _ (T58.setTop (mkF m 47 #[.val (.ref x), .val (.int (2 : Int32)), .val (.int (4 : Int32))] []))
          have c44_59b : (own_bl c3) = true := own_bi_t c44_59
          refine own_step (b := T58.setTop (mkF m 50 #[.val (.ref x), .val (.int (2 : Int32)), .val (.int (3 : Int32))] [])) (fun _ qk => XS.iinc X58.here hx rfl (hb hby d5_47) rfl (l' := #[.val (.ref x), .val (.int (2 : Int32)), .val (.int (3 : Int32))]) rfl qk) ?_
          refine own_step (b := T58.setTop (mkF m 29 #[.val (.ref x), .val (.int (2 : Int32)), .val (.int (3 : Int32))] [])) (fun _ qk => XS.goto X58.here hx rfl (pc0 := 50) (pc' := 29) rfl (hb hby d5_50) (by decide) (by decide) qk) ?_
          refine own_step (b := T58.setTop (mkF m 30 #[.val (.ref x), .val (.int (2 : Int32)), .val (.int (3 : Int32))] [(.int (3 : Int32))])) (fun _ qk => XS.iloadN X58.here hx rfl (hb hby d5_29) rfl qk) ?_
          refine own_step (b := T58.setTop (mkF m 31 #[.val (.ref x), .val (.int (2 : Int32)), .val (.int (3 : Int32))] [(.int (2 : Int32)), (.int (3 : Int32))])) (fun _ qk => XS.iloadN X58.here hx rfl (hb hby d5_30) rfl qk) ?_
          refine own_icmp_le X58 hx (hb hby d5_31) (pc' := 53) (by decide) (by decide) (fun c31_62 => absurd c31_62 (by decide)) (fun c31_62 => ?_)
          show own_G p e below _ (T58.setTop (mkF m 34 #[.val (.ref x), .val (.int (2 : Int32)), .val (.int (3 : Int32))] []))
          refine own_step (b := T58.setTop (mkF m 35 #[.val (.ref x), .val (.int (2 : Int32)), .val (.int (3 : Int32))] [(.ref x)])) (fun _ qk => XS.aloadN X58.here hx rfl (hb hby d5_34) rfl rfl qk) ?_
          refine own_step (b := T58.setTop (mkF m 36 #[.val (.ref x), .val (.int (2 : Int32)), .val (.int (3 : Int32))] [(.int (3 : Int32)), (.ref x)])) (fun _ qk => XS.iloadN X58.here hx rfl (hb hby d5_35) rfl qk) ?_
          refine own_step (b := T58.setTop (mkF m 37 #[.val (.ref x), .val (.int (2 : Int32)), .val (.int (3 : Int32))] [(.int (1 : Int32)), (.int (3 : Int32)), (.ref x)])) (fun _ qk => XS.iconst X58.here hx rfl (hb hby d5_36) qk) ?_
          refine own_step (b := T58.setTop (mkF m 38 #[.val (.ref x), .val (.int (2 : Int32)), .val (.int (3 : Int32))] [(.int (2 : Int32)), (.ref x)])) (fun _ qk => XS.isub X58.here hx rfl (hb hby d5_37) rfl qk) ?_
          refine own_virtual (a := x) (W := 0) (argsL := [(.int (2 : Int32))]) (st := []) X58 hx hZ hown (own_w hw 72 rfl) (own_w hw 73 rfl) (own_w hw 75 rfl) rfl (own_w hw 74 rfl) (by decide) e58 SS.1 (own_chB (W := 0) hZ hw (kI := 4) (own_w hw 6 rfl) SS O2 P5 O4 rG3 OL0 2 (Nat.le_of_ble_eq_true rfl) (j := (2 : Int32)) rfl (r := c2) rfl (by decide) (by decide)) (by decide) (by decide) (by rw [hml]; rfl) (lenOf pd11 rfl) rfl (Nat.le_of_ble_eq_true rfl) (hb hby d5_38) (fun v63 T63 L63 X63 hQ63 => ?_)
          obtain ⟨rfl, rfl, hh63⟩ := hQ63
          rw [List.append_nil] at X63
          show own_G p e below _ (T63.setTop (mkF m 41 #[.val (.ref x), .val (.int (2 : Int32)), .val (.int (3 : Int32))] [(.int c2)]))
          refine own_staticP (W := 0) (argsL := [(.int c2)]) (st := []) X63 hx hZ hown (own_w hw 92 rfl) (own_w hw 93 rfl) (own_w hw 28 rfl) (own_w hw 94 rfl) (by decide) hh63 (rmIsb l Z a0 hw [] c2 h0) (by decide) (by decide) (by decide) (by decide) (by rw [hml]; rfl) (lenOf pd12 rfl) rfl (Nat.le_of_ble_eq_true rfl) (hb hby d5_41) (fun T64 X64 e64 => ?_)
          show own_G p e below _ (T64.setTop (mkF m 44 #[.val (.ref x), .val (.int (2 : Int32)), .val (.int (3 : Int32))] [(.int (own_bi (own_bl c2)))]))
          refine own_if_eq X64 hx (hb hby d5_44) (pc' := 53) (by decide) (by decide) (fun c44_65 => ?_) (fun c44_65 => absurd c44_65 (by rw [c20_55b]; decide))
          show own_G p e below _ (T64.setTop (mkF m 53 #[.val (.ref x), .val (.int (2 : Int32)), .val (.int (3 : Int32))] []))
          refine own_step (b := T64.setTop (mkF m 54 #[.val (.ref x), .val (.int (2 : Int32)), .val (.int (3 : Int32))] [(.ref x)])) (fun _ qk => XS.aloadN X64.here hx rfl (hb hby d5_53) rfl rfl qk) ?_
          refine own_step (b := T64.setTop (mkF m 55 #[.val (.ref x), .val (.int (2 : Int32)), .val (.int (3 : Int32))] [(.int (2 : Int32)), (.ref x)])) (fun _ qk => XS.iloadN X64.here hx rfl (hb hby d5_54) rfl qk) ?_
          refine own_step (b := T64.setTop (mkF m 56 #[.val (.ref x), .val (.int (2 : Int32)), .val (.int (3 : Int32))] [(.int (3 : Int32)), (.int (2 : Int32)), (.ref x)])) (fun _ qk => XS.iloadN X64.here hx rfl (hb hby d5_55) rfl qk) ?_
          have hs66 : own_strip [c0, c1, c2, c3] = [c2] := by simp [own_strip, List.dropWhile, c20_5b, c20_33b, c20_55b, c44_59b]
          refine own_virtual (a := x) (W := 0) (argsL := [(.int (2 : Int32)), (.int (3 : Int32))]) (st := []) X64 hx hZ hown (own_w hw 41 rfl) (own_w hw 42 rfl) (own_w hw 44 rfl) rfl (own_w hw 43 rfl) (by decide) e64 SS.1 (own_back (W := 0) (rmSubM l Z a0 hw [] x 4 2 3 [c0, c1, c2, c3] h0 SS rfl (by decide) (by decide) (by decide) (by decide) (by decide) OL0 G1 O2 P5 G3 O4 rG3) hZ (own_w hw 45 rfl) (own_w hw 7 rfl) (by decide) (by decide)) (by decide) (by decide) (by rw [hml]; rfl) (lenOf pd10 rfl) rfl (Nat.le_of_ble_eq_true rfl) (hb hby d5_56) (fun v67 T67 L67 X67 hQ67 => ?_)
          obtain ⟨r67, rfl, M67, E67, SS67⟩ := hQ67
          have z67 : h0.size ≤ T67.heap.size := E67.1
          show own_G p e below _ (T67.setTop (mkF m 59 #[.val (.ref x), .val (.int (2 : Int32)), .val (.int (3 : Int32))] [(.ref r67)]))
          exact own_retXR X67 hx hS (by omega) hret rfl rfl rfl hlk (hb hby d5_59) ⟨_, rfl, M67, E67, by rw [hs66]; exact SS67⟩ (by decide) (by decide)
      · show own_G p e below _ (T54.setTop (mkF m 23 #[.val (.ref x), .val (.int (2 : Int32)), .val (.int (4 : Int32))] []))
        have c20_55b : (own_bl c2) = true := own_bi_t c20_55
        refine own_step (b := T54.setTop (mkF m 26 #[.val (.ref x), .val (.int (3 : Int32)), .val (.int (4 : Int32))] [])) (fun _ qk => XS.iinc X54.here hx rfl (hb hby d5_23) rfl (l' := #[.val (.ref x), .val (.int (3 : Int32)), .val (.int (4 : Int32))]) rfl qk) ?_
        refine own_step (b := T54.setTop (mkF m 7 #[.val (.ref x), .val (.int (3 : Int32)), .val (.int (4 : Int32))] [])) (fun _ qk => XS.goto X54.here hx rfl (pc0 := 26) (pc' := 7) rfl (hb hby d5_26) (by decide) (by decide) qk) ?_
        refine own_step (b := T54.setTop (mkF m 8 #[.val (.ref x), .val (.int (3 : Int32)), .val (.int (4 : Int32))] [(.int (3 : Int32))])) (fun _ qk => XS.iloadN X54.here hx rfl (hb hby d5_7) rfl qk) ?_
        refine own_step (b := T54.setTop (mkF m 9 #[.val (.ref x), .val (.int (3 : Int32)), .val (.int (4 : Int32))] [(.int (4 : Int32)), (.int (3 : Int32))])) (fun _ qk => XS.iloadN X54.here hx rfl (hb hby d5_8) rfl qk) ?_
        refine own_icmp_ge X54 hx (hb hby d5_9) (pc' := 29) (by decide) (by decide) (fun c9_68 => absurd c9_68 (by decide)) (fun c9_68 => ?_)
        show own_G p e below _ (T54.setTop (mkF m 12 #[.val (.ref x), .val (.int (3 : Int32)), .val (.int (4 : Int32))] []))
        refine own_step (b := T54.setTop (mkF m 13 #[.val (.ref x), .val (.int (3 : Int32)), .val (.int (4 : Int32))] [(.ref x)])) (fun _ qk => XS.aloadN X54.here hx rfl (hb hby d5_12) rfl rfl qk) ?_
        refine own_step (b := T54.setTop (mkF m 14 #[.val (.ref x), .val (.int (3 : Int32)), .val (.int (4 : Int32))] [(.int (3 : Int32)), (.ref x)])) (fun _ qk => XS.iloadN X54.here hx rfl (hb hby d5_13) rfl qk) ?_
        refine own_virtual (a := x) (W := 0) (argsL := [(.int (3 : Int32))]) (st := []) X54 hx hZ hown (own_w hw 72 rfl) (own_w hw 73 rfl) (own_w hw 75 rfl) rfl (own_w hw 74 rfl) (by decide) e54 SS.1 (own_chB (W := 0) hZ hw (kI := 4) (own_w hw 6 rfl) SS O2 P5 O4 rG3 OL0 3 (Nat.le_of_ble_eq_true rfl) (j := (3 : Int32)) rfl (r := c3) rfl (by decide) (by decide)) (by decide) (by decide) (by rw [hml]; rfl) (lenOf pd11 rfl) rfl (Nat.le_of_ble_eq_true rfl) (hb hby d5_14) (fun v69 T69 L69 X69 hQ69 => ?_)
        obtain ⟨rfl, rfl, hh69⟩ := hQ69
        rw [List.append_nil] at X69
        show own_G p e below _ (T69.setTop (mkF m 17 #[.val (.ref x), .val (.int (3 : Int32)), .val (.int (4 : Int32))] [(.int c3)]))
        refine own_staticP (W := 0) (argsL := [(.int c3)]) (st := []) X69 hx hZ hown (own_w hw 92 rfl) (own_w hw 93 rfl) (own_w hw 28 rfl) (own_w hw 94 rfl) (by decide) hh69 (rmIsb l Z a0 hw [] c3 h0) (by decide) (by decide) (by decide) (by decide) (by rw [hml]; rfl) (lenOf pd12 rfl) rfl (Nat.le_of_ble_eq_true rfl) (hb hby d5_17) (fun T70 X70 e70 => ?_)
        show own_G p e below _ (T70.setTop (mkF m 20 #[.val (.ref x), .val (.int (3 : Int32)), .val (.int (4 : Int32))] [(.int (own_bi (own_bl c3)))]))
        refine own_if_eq X70 hx (hb hby d5_20) (pc' := 29) (by decide) (by decide) (fun c20_71 => ?_) (fun c20_71 => ?_)
        · show own_G p e below _ (T70.setTop (mkF m 29 #[.val (.ref x), .val (.int (3 : Int32)), .val (.int (4 : Int32))] []))
          have c20_71b : (own_bl c3) = false := own_bi_f c20_71
          refine own_step (b := T70.setTop (mkF m 30 #[.val (.ref x), .val (.int (3 : Int32)), .val (.int (4 : Int32))] [(.int (4 : Int32))])) (fun _ qk => XS.iloadN X70.here hx rfl (hb hby d5_29) rfl qk) ?_
          refine own_step (b := T70.setTop (mkF m 31 #[.val (.ref x), .val (.int (3 : Int32)), .val (.int (4 : Int32))] [(.int (3 : Int32)), (.int (4 : Int32))])) (fun _ qk => XS.iloadN X70.here hx rfl (hb hby d5_30) rfl qk) ?_
          refine own_icmp_le X70 hx (hb hby d5_31) (pc' := 53) (by decide) (by decide) (fun c31_72 => absurd c31_72 (by decide)) (fun c31_72 => ?_)
          show own_G p e below _ (T70.setTop (mkF m 34 #[.val (.ref x), .val (.int (3 : Int32)), .val (.int (4 : Int32))] []))
          refine own_step (b := T70.setTop (mkF m 35 #[.val (.ref x), .val (.int (3 : Int32)), .val (.int (4 : Int32))] [(.ref x)])) (fun _ qk => XS.aloadN X70.here hx rfl (hb hby d5_34) rfl rfl qk) ?_
          refine own_step (b := T70.setTop (mkF m 36 #[.val (.ref x), .val (.int (3 : Int32)), .val (.int (4 : Int32))] [(.int (4 : Int32)), (.ref x)])) (fun _ qk => XS.iloadN X70.here hx rfl (hb hby d5_35) rfl qk) ?_
          refine own_step (b := T70.setTop (mkF m 37 #[.val (.ref x), .val (.int (3 : Int32)), .val (.int (4 : Int32))] [(.int (1 : Int32)), (.int (4 : Int32)), (.ref x)])) (fun _ qk => XS.iconst X70.here hx rfl (hb hby d5_36) qk) ?_
          refine own_step (b := T70.setTop (mkF m 38 #[.val (.ref x), .val (.int (3 : Int32)), .val (.int (4 : Int32))] [(.int (3 : Int32)), (.ref x)])) (fun _ qk => XS.isub X70.here hx rfl (hb hby d5_37) rfl qk) ?_
          refine own_virtual (a := x) (W := 0) (argsL := [(.int (3 : Int32))]) (st := []) X70 hx hZ hown (own_w hw 72 rfl) (own_w hw 73 rfl) (own_w hw 75 rfl) rfl (own_w hw 74 rfl) (by decide) e70 SS.1 (own_chB (W := 0) hZ hw (kI := 4) (own_w hw 6 rfl) SS O2 P5 O4 rG3 OL0 3 (Nat.le_of_ble_eq_true rfl) (j := (3 : Int32)) rfl (r := c3) rfl (by decide) (by decide)) (by decide) (by decide) (by rw [hml]; rfl) (lenOf pd11 rfl) rfl (Nat.le_of_ble_eq_true rfl) (hb hby d5_38) (fun v73 T73 L73 X73 hQ73 => ?_)
          obtain ⟨rfl, rfl, hh73⟩ := hQ73
          rw [List.append_nil] at X73
          show own_G p e below _ (T73.setTop (mkF m 41 #[.val (.ref x), .val (.int (3 : Int32)), .val (.int (4 : Int32))] [(.int c3)]))
          refine own_staticP (W := 0) (argsL := [(.int c3)]) (st := []) X73 hx hZ hown (own_w hw 92 rfl) (own_w hw 93 rfl) (own_w hw 28 rfl) (own_w hw 94 rfl) (by decide) hh73 (rmIsb l Z a0 hw [] c3 h0) (by decide) (by decide) (by decide) (by decide) (by rw [hml]; rfl) (lenOf pd12 rfl) rfl (Nat.le_of_ble_eq_true rfl) (hb hby d5_41) (fun T74 X74 e74 => ?_)
          show own_G p e below _ (T74.setTop (mkF m 44 #[.val (.ref x), .val (.int (3 : Int32)), .val (.int (4 : Int32))] [(.int (own_bi (own_bl c3)))]))
          refine own_if_eq X74 hx (hb hby d5_44) (pc' := 53) (by decide) (by decide) (fun c44_75 => ?_) (fun c44_75 => absurd c44_75 (by rw [c20_71b]; decide))
          show own_G p e below _ (T74.setTop (mkF m 53 #[.val (.ref x), .val (.int (3 : Int32)), .val (.int (4 : Int32))] []))
          refine own_step (b := T74.setTop (mkF m 54 #[.val (.ref x), .val (.int (3 : Int32)), .val (.int (4 : Int32))] [(.ref x)])) (fun _ qk => XS.aloadN X74.here hx rfl (hb hby d5_53) rfl rfl qk) ?_
          refine own_step (b := T74.setTop (mkF m 55 #[.val (.ref x), .val (.int (3 : Int32)), .val (.int (4 : Int32))] [(.int (3 : Int32)), (.ref x)])) (fun _ qk => XS.iloadN X74.here hx rfl (hb hby d5_54) rfl qk) ?_
          refine own_step (b := T74.setTop (mkF m 56 #[.val (.ref x), .val (.int (3 : Int32)), .val (.int (4 : Int32))] [(.int (4 : Int32)), (.int (3 : Int32)), (.ref x)])) (fun _ qk => XS.iloadN X74.here hx rfl (hb hby d5_55) rfl qk) ?_
          have hs76 : own_strip [c0, c1, c2, c3] = [c3] := by simp [own_strip, List.dropWhile, c20_5b, c20_33b, c20_55b, c20_71b]
          refine own_virtual (a := x) (W := 0) (argsL := [(.int (3 : Int32)), (.int (4 : Int32))]) (st := []) X74 hx hZ hown (own_w hw 41 rfl) (own_w hw 42 rfl) (own_w hw 44 rfl) rfl (own_w hw 43 rfl) (by decide) e74 SS.1 (own_back (W := 0) (rmSubM l Z a0 hw [] x 4 3 4 [c0, c1, c2, c3] h0 SS rfl (by decide) (by decide) (by decide) (by decide) (by decide) OL0 G1 O2 P5 G3 O4 rG3) hZ (own_w hw 45 rfl) (own_w hw 7 rfl) (by decide) (by decide)) (by decide) (by decide) (by rw [hml]; rfl) (lenOf pd10 rfl) rfl (Nat.le_of_ble_eq_true rfl) (hb hby d5_56) (fun v77 T77 L77 X77 hQ77 => ?_)
          obtain ⟨r77, rfl, M77, E77, SS77⟩ := hQ77
          have z77 : h0.size ≤ T77.heap.size := E77.1
          show own_G p e below _ (T77.setTop (mkF m 59 #[.val (.ref x), .val (.int (3 : Int32)), .val (.int (4 : Int32))] [(.ref r77)]))
          exact own_retXR X77 hx hS (by omega) hret rfl rfl rfl hlk (hb hby d5_59) ⟨_, rfl, M77, E77, by rw [hs76]; exact SS77⟩ (by decide) (by decide)
        · show own_G p e below _ (T70.setTop (mkF m 23 #[.val (.ref x), .val (.int (3 : Int32)), .val (.int (4 : Int32))] []))
          have c20_71b : (own_bl c3) = true := own_bi_t c20_71
          refine own_step (b := T70.setTop (mkF m 26 #[.val (.ref x), .val (.int (4 : Int32)), .val (.int (4 : Int32))] [])) (fun _ qk => XS.iinc X70.here hx rfl (hb hby d5_23) rfl (l' := #[.val (.ref x), .val (.int (4 : Int32)), .val (.int (4 : Int32))]) rfl qk) ?_
          refine own_step (b := T70.setTop (mkF m 7 #[.val (.ref x), .val (.int (4 : Int32)), .val (.int (4 : Int32))] [])) (fun _ qk => XS.goto X70.here hx rfl (pc0 := 26) (pc' := 7) rfl (hb hby d5_26) (by decide) (by decide) qk) ?_
          refine own_step (b := T70.setTop (mkF m 8 #[.val (.ref x), .val (.int (4 : Int32)), .val (.int (4 : Int32))] [(.int (4 : Int32))])) (fun _ qk => XS.iloadN X70.here hx rfl (hb hby d5_7) rfl qk) ?_
          refine own_step (b := T70.setTop (mkF m 9 #[.val (.ref x), .val (.int (4 : Int32)), .val (.int (4 : Int32))] [(.int (4 : Int32)), (.int (4 : Int32))])) (fun _ qk => XS.iloadN X70.here hx rfl (hb hby d5_8) rfl qk) ?_
          refine own_icmp_ge X70 hx (hb hby d5_9) (pc' := 29) (by decide) (by decide) (fun c9_78 => ?_) (fun c9_78 => absurd c9_78 (by decide))
          show own_G p e below _ (T70.setTop (mkF m 29 #[.val (.ref x), .val (.int (4 : Int32)), .val (.int (4 : Int32))] []))
          refine own_step (b := T70.setTop (mkF m 30 #[.val (.ref x), .val (.int (4 : Int32)), .val (.int (4 : Int32))] [(.int (4 : Int32))])) (fun _ qk => XS.iloadN X70.here hx rfl (hb hby d5_29) rfl qk) ?_
          refine own_step (b := T70.setTop (mkF m 31 #[.val (.ref x), .val (.int (4 : Int32)), .val (.int (4 : Int32))] [(.int (4 : Int32)), (.int (4 : Int32))])) (fun _ qk => XS.iloadN X70.here hx rfl (hb hby d5_30) rfl qk) ?_
          refine own_icmp_le X70 hx (hb hby d5_31) (pc' := 53) (by decide) (by decide) (fun c31_79 => ?_) (fun c31_79 => absurd c31_79 (by decide))
          show own_G p e below _ (T70.setTop (mkF m 53 #[.val (.ref x), .val (.int (4 : Int32)), .val (.int (4 : Int32))] []))
          refine own_step (b := T70.setTop (mkF m 54 #[.val (.ref x), .val (.int (4 : Int32)), .val (.int (4 : Int32))] [(.ref x)])) (fun _ qk => XS.aloadN X70.here hx rfl (hb hby d5_53) rfl rfl qk) ?_
          refine own_step (b := T70.setTop (mkF m 55 #[.val (.ref x), .val (.int (4 : Int32)), .val (.int (4 : Int32))] [(.int (4 : Int32)), (.ref x)])) (fun _ qk => XS.iloadN X70.here hx rfl (hb hby d5_54) rfl qk) ?_
          refine own_step (b := T70.setTop (mkF m 56 #[.val (.ref x), .val (.int (4 : Int32)), .val (.int (4 : Int32))] [(.int (4 : Int32)), (.int (4 : Int32)), (.ref x)])) (fun _ qk => XS.iloadN X70.here hx rfl (hb hby d5_55) rfl qk) ?_
          have hs80 : own_strip [c0, c1, c2, c3] = [] := by simp [own_strip, List.dropWhile, c20_5b, c20_33b, c20_55b, c20_71b]
          refine own_virtualI (a := x) (W := 0) (argsL := [(.int (4 : Int32)), (.int (4 : Int32))]) (st := []) X70 hx hZ hown (own_w hw 41 rfl) (own_w hw 42 rfl) (own_w hw 44 rfl) rfl (own_w hw 43 rfl) (own_w hw 45 rfl) (own_w hw 7 rfl) (by decide) e70 hS hk SS.1 (rmSubE l Z a0 hw [] x 4 4 4 [c0, c1, c2, c3] h0 SS rfl (by decide) (by decide) (by decide) rfl (by decide) OL0 G1 O2 P5 G3 O4 rG3 CH1 HC) (fun _ hW => own_IBw hI hW) (by decide) (by decide) (by decide) (by decide) (by rw [hml]; rfl) (lenOf pd10 rfl) rfl (Nat.le_of_ble_eq_true rfl) (hb hby d5_56) (fun v81 T81 L81 vm81 k81 X81 ev81 z81 hS hk hZ hown hQ81 => ?_)
          obtain ⟨r81, rfl, M81, E81, SS81⟩ := hQ81
          show own_G p e below _ (T81.setTop (mkF m 59 #[.val (.ref x), .val (.int (4 : Int32)), .val (.int (4 : Int32))] [(.ref r81)]))
          exact own_retXR X81 hx hS (by omega) hret rfl rfl rfl hlk (hb hby d5_59) ⟨_, rfl, M81, E81, by rw [hs80]; exact SS81⟩ (by decide) (by decide)
theorem ef_draw (m : MethodId) (x : Int32) : entryFrame m #[(.int x)] 2 = mkF m 0 #[.val (.int x), .unset] [] := by first | (simp [entryFrame, mkF, argsToLocals, Value.category, maxLocals]; done) | rfl
set_option maxRecDepth 65536 in
set_option maxHeartbeats 40000000 in
theorem rmDraw (l : Launch) (Z : State) (a0 : Array Value) (hw : ∀ d ∈ tables_1, d.before a0 Z = true) (ws : List Jvm.Cond) (x : Int32) (h0 : Heap) :
    own_Met l Z (⟨"com/example/pennant/pennant/TrlStripBlanksPinLaw", "draw", "(I)C"⟩ : MethodName) method_2_code 2 (some .char) ws ⟨0, 0, 0, 0⟩ #[(.int x)] h0 (fun v h L => ∃ c : Int32, v = some (.int c) ∧ (¬ c < 0 ∧ ¬ (255 : Int32) < c) ∧ L = [] ∧ h = h0) := by
  refine own_enter (plainFor_of_name pn5) (fun m => ef_draw m x) ?_
  intro p e s m below meth c T0 hx hby hml hZ hown hnm hret hlk X0 e0
  show own_G p e below _ (T0.setTop (mkF m 0 #[.val (.int x), .unset] []))
  refine own_step (b := T0.setTop (mkF m 1 #[.val (.int x), .unset] [(.int x)])) (fun _ qk => XS.iloadN X0.here hx rfl (hb hby d1_0) rfl qk) ?_
  refine own_step (b := T0.setTop (mkF m 2 #[.val (.int x), .unset] [(.int (3 : Int32)), (.int x)])) (fun _ qk => XS.iconst X0.here hx rfl (hb hby d1_1) qk) ?_
  refine own_step (b := T0.setTop (mkF m 3 #[.val (.int x), .unset] [(.int (x &&& (3 : Int32)))])) (fun _ qk => XS.iand X0.here hx rfl (hb hby d1_2) rfl qk) ?_
  refine own_step (b := T0.setTop (mkF m 4 #[.val (.int x), .val (.int (x &&& (3 : Int32)))] [])) (fun _ qk => XS.istoreN X0.here hx rfl (hb hby d1_3) rfl (l' := #[.val (.int x), .val (.int (x &&& (3 : Int32)))]) rfl qk) ?_
  refine own_step (b := T0.setTop (mkF m 5 #[.val (.int x), .val (.int (x &&& (3 : Int32)))] [(.int (x &&& (3 : Int32)))])) (fun _ qk => XS.iloadN X0.here hx rfl (hb hby d1_4) rfl qk) ?_
  refine own_if_ne X0 hx (hb hby d1_5) (pc' := 11) (by decide) (by decide) (fun c5_1 => ?_) (fun c5_1 => ?_)
  · show own_G p e below _ (T0.setTop (mkF m 11 #[.val (.int x), .val (.int (x &&& (3 : Int32)))] []))
    refine own_step (b := T0.setTop (mkF m 12 #[.val (.int x), .val (.int (x &&& (3 : Int32)))] [(.int (x &&& (3 : Int32)))])) (fun _ qk => XS.iloadN X0.here hx rfl (hb hby d1_11) rfl qk) ?_
    refine own_step (b := T0.setTop (mkF m 13 #[.val (.int x), .val (.int (x &&& (3 : Int32)))] [(.int (1 : Int32)), (.int (x &&& (3 : Int32)))])) (fun _ qk => XS.iconst X0.here hx rfl (hb hby d1_12) qk) ?_
    refine own_icmp_ne X0 hx (hb hby d1_13) (pc' := 19) (by decide) (by decide) (fun c13_2 => ?_) (fun c13_2 => ?_)
    · show own_G p e below _ (T0.setTop (mkF m 19 #[.val (.int x), .val (.int (x &&& (3 : Int32)))] []))
      refine own_step (b := T0.setTop (mkF m 20 #[.val (.int x), .val (.int (x &&& (3 : Int32)))] [(.int x)])) (fun _ qk => XS.iloadN X0.here hx rfl (hb hby d1_19) rfl qk) ?_
      refine own_step (b := T0.setTop (mkF m 21 #[.val (.int x), .val (.int (x &&& (3 : Int32)))] [(.int (2 : Int32)), (.int x)])) (fun _ qk => XS.iconst X0.here hx rfl (hb hby d1_20) qk) ?_
      refine own_step (b := T0.setTop (mkF m 22 #[.val (.int x), .val (.int (x &&& (3 : Int32)))] [(.int (XT.ushr x (2 : Int32)))])) (fun _ qk => XT.iushr X0.here hx rfl (hb hby d1_21) rfl qk) ?_
      refine own_step (b := T0.setTop (mkF m 25 #[.val (.int x), .val (.int (x &&& (3 : Int32)))] [(.int (255 : Int32)), (.int (XT.ushr x (2 : Int32)))])) (fun _ qk => XS.sipush X0.here hx rfl (hb hby d1_22) qk) ?_
      refine own_step (b := T0.setTop (mkF m 26 #[.val (.int x), .val (.int (x &&& (3 : Int32)))] [(.int ((XT.ushr x (2 : Int32)) &&& (255 : Int32)))])) (fun _ qk => XS.iand X0.here hx rfl (hb hby d1_25) rfl qk) ?_
      refine own_step (b := T0.setTop (mkF m 27 #[.val (.int x), .val (.int (x &&& (3 : Int32)))] [(.int (((XT.ushr x (2 : Int32)) &&& (255 : Int32)).toUInt32.toUInt16.toUInt32.toInt32))])) (fun _ qk => XT.i2c X0.here hx rfl (hb hby d1_26) rfl qk) ?_
      exact own_retN X0 hx hret (by simp) hlk (hb hby d1_27) ⟨_, rfl, own_and255 _, rfl, e0⟩ (by decide) (by decide)
    · show own_G p e below _ (T0.setTop (mkF m 16 #[.val (.int x), .val (.int (x &&& (3 : Int32)))] []))
      refine own_step (b := T0.setTop (mkF m 18 #[.val (.int x), .val (.int (x &&& (3 : Int32)))] [(.int (9 : Int32))])) (fun _ qk => XS.bipush X0.here hx rfl (hb hby d1_16) qk) ?_
      exact own_retN X0 hx hret (by simp) hlk (hb hby d1_18) ⟨_, rfl, by decide, rfl, e0⟩ (by decide) (by decide)
  · show own_G p e below _ (T0.setTop (mkF m 8 #[.val (.int x), .val (.int (x &&& (3 : Int32)))] []))
    refine own_step (b := T0.setTop (mkF m 10 #[.val (.int x), .val (.int (x &&& (3 : Int32)))] [(.int (32 : Int32))])) (fun _ qk => XS.bipush X0.here hx rfl (hb hby d1_8) qk) ?_
    exact own_retN X0 hx hret (by simp) hlk (hb hby d1_10) ⟨_, rfl, by decide, rfl, e0⟩ (by decide) (by decide)
theorem ef_sol (m : MethodId) (a : Addr) (i n : Int32) : entryFrame m #[(.ref a), (.int i), (.int n)] 3 = mkF m 0 #[.val (.ref a), .val (.int i), .val (.int n)] [] := by first | (simp [entryFrame, mkF, argsToLocals, Value.category, maxLocals]; done) | rfl
set_option maxRecDepth 65536 in
set_option maxHeartbeats 40000000 in
theorem rmSol0 (l : Launch) (Z : State) (a0 : Array Value) (hw : ∀ d ∈ tables_1, d.before a0 Z = true) (ws : List Jvm.Cond) (a : Addr) (kA : ClassId) (c0 c1 c2 c3 : Int32) (h0 : Heap) (V : Arv Z h0 a kA .char (4 : Int32) [.int c0, .int c1, .int c2, .int c3] (.int 0)) (n1 : Int32) (hin : (0 : Int32) < n1) :
    own_Met l Z (⟨"com/example/pennant/pennant/TrlStripBlanksPinLaw", "solid", "([CII)Z"⟩ : MethodName) method_3_code 3 (some .boolean) ws ⟨0, 0, 0, 0⟩ #[(.ref a), (.int (0 : Int32)), (.int n1)] h0 (own_P (some (.int (own_bi (!own_bl c0)))) h0) := by
  refine own_enter (plainFor_of_name pn5) (fun m => ef_sol m a (0 : Int32) n1) ?_
  intro p e s m below meth c T0 hx hby hml hZ hown hnm hret hlk X0 e0
  show own_G p e below _ (T0.setTop (mkF m 0 #[.val (.ref a), .val (.int (0 : Int32)), .val (.int n1)] []))
  refine own_step (b := T0.setTop (mkF m 1 #[.val (.ref a), .val (.int (0 : Int32)), .val (.int n1)] [(.int (0 : Int32))])) (fun _ qk => XS.iloadN X0.here hx rfl (hb hby d11_0) rfl qk) ?_
  refine own_step (b := T0.setTop (mkF m 2 #[.val (.ref a), .val (.int (0 : Int32)), .val (.int n1)] [(.int n1), (.int (0 : Int32))])) (fun _ qk => XS.iloadN X0.here hx rfl (hb hby d11_1) rfl qk) ?_
  refine own_icmp_ge X0 hx (hb hby d11_2) (pc' := 25) (by decide) (by decide) (fun cin => absurd hin cin) (fun cin => ?_)
  show own_G p e below _ (T0.setTop (mkF m 5 #[.val (.ref a), .val (.int (0 : Int32)), .val (.int n1)] []))
  refine own_step (b := T0.setTop (mkF m 6 #[.val (.ref a), .val (.int (0 : Int32)), .val (.int n1)] [(.ref a)])) (fun _ qk => XS.aloadN X0.here hx rfl (hb hby d11_5) rfl rfl qk) ?_
  refine own_step (b := T0.setTop (mkF m 7 #[.val (.ref a), .val (.int (0 : Int32)), .val (.int n1)] [(.int (0 : Int32)), (.ref a)])) (fun _ qk => XS.iloadN X0.here hx rfl (hb hby d11_6) rfl qk) ?_
  refine own_ldC X0 hx hZ e0 V 0 (by decide) (by decide) (by decide) (v := (.int c0)) rfl (hb hby d11_7) ?_
  show own_G p e below _ (T0.setTop (mkF m 8 #[.val (.ref a), .val (.int (0 : Int32)), .val (.int n1)] [(.int c0)]))
  refine own_step (b := T0.setTop (mkF m 10 #[.val (.ref a), .val (.int (0 : Int32)), .val (.int n1)] [(.int (32 : Int32)), (.int c0)])) (fun _ qk => XS.bipush X0.here hx rfl (hb hby d11_8) qk) ?_
  refine own_icmp_eq X0 hx (hb hby d11_10) (pc' := 25) (by decide) (by decide) (fun c10_1 => ?_) (fun c10_1 => ?_)
  · show own_G p e below _ (T0.setTop (mkF m 25 #[.val (.ref a), .val (.int (0 : Int32)), .val (.int n1)] []))
    refine own_step (b := T0.setTop (mkF m 26 #[.val (.ref a), .val (.int (0 : Int32)), .val (.int n1)] [(.int (0 : Int32))])) (fun _ qk => XS.iconst X0.here hx rfl (hb hby d11_25) qk) ?_
    exact own_retN X0 hx hret (by simp) hlk (hb hby d11_26) ⟨by rw [show (!own_bl c0) = false by simp [own_bl, c10_1]]; rfl, rfl, e0⟩ (by decide) (by decide)
  · show own_G p e below _ (T0.setTop (mkF m 13 #[.val (.ref a), .val (.int (0 : Int32)), .val (.int n1)] []))
    refine own_step (b := T0.setTop (mkF m 14 #[.val (.ref a), .val (.int (0 : Int32)), .val (.int n1)] [(.ref a)])) (fun _ qk => XS.aloadN X0.here hx rfl (hb hby d11_13) rfl rfl qk) ?_
    refine own_step (b := T0.setTop (mkF m 15 #[.val (.ref a), .val (.int (0 : Int32)), .val (.int n1)] [(.int (0 : Int32)), (.ref a)])) (fun _ qk => XS.iloadN X0.here hx rfl (hb hby d11_14) rfl qk) ?_
    refine own_ldC X0 hx hZ e0 V 0 (by decide) (by decide) (by decide) (v := (.int c0)) rfl (hb hby d11_15) ?_
    show own_G p e below _ (T0.setTop (mkF m 16 #[.val (.ref a), .val (.int (0 : Int32)), .val (.int n1)] [(.int c0)]))
    refine own_step (b := T0.setTop (mkF m 18 #[.val (.ref a), .val (.int (0 : Int32)), .val (.int n1)] [(.int (9 : Int32)), (.int c0)])) (fun _ qk => XS.bipush X0.here hx rfl (hb hby d11_16) qk) ?_
    refine own_icmp_eq X0 hx (hb hby d11_18) (pc' := 25) (by decide) (by decide) (fun c18_2 => ?_) (fun c18_2 => ?_)
    · show own_G p e below _ (T0.setTop (mkF m 25 #[.val (.ref a), .val (.int (0 : Int32)), .val (.int n1)] []))
      refine own_step (b := T0.setTop (mkF m 26 #[.val (.ref a), .val (.int (0 : Int32)), .val (.int n1)] [(.int (0 : Int32))])) (fun _ qk => XS.iconst X0.here hx rfl (hb hby d11_25) qk) ?_
      exact own_retN X0 hx hret (by simp) hlk (hb hby d11_26) ⟨by rw [show (!own_bl c0) = false by simp [own_bl, c10_1, c18_2]]; rfl, rfl, e0⟩ (by decide) (by decide)
    · show own_G p e below _ (T0.setTop (mkF m 21 #[.val (.ref a), .val (.int (0 : Int32)), .val (.int n1)] []))
      refine own_step (b := T0.setTop (mkF m 22 #[.val (.ref a), .val (.int (0 : Int32)), .val (.int n1)] [(.int (1 : Int32))])) (fun _ qk => XS.iconst X0.here hx rfl (hb hby d11_21) qk) ?_
      refine own_step (b := T0.setTop (mkF m 26 #[.val (.ref a), .val (.int (0 : Int32)), .val (.int n1)] [(.int (1 : Int32))])) (fun _ qk => XS.goto X0.here hx rfl (pc0 := 22) (pc' := 26) rfl (hb hby d11_22) (by decide) (by decide) qk) ?_
      exact own_retN X0 hx hret (by simp) hlk (hb hby d11_26) ⟨by rw [show (!own_bl c0) = true by simp [own_bl, c10_1, c18_2]]; rfl, rfl, e0⟩ (by decide) (by decide)
set_option maxRecDepth 65536 in
set_option maxHeartbeats 40000000 in
theorem rmSol1 (l : Launch) (Z : State) (a0 : Array Value) (hw : ∀ d ∈ tables_1, d.before a0 Z = true) (ws : List Jvm.Cond) (a : Addr) (kA : ClassId) (c0 c1 c2 c3 : Int32) (h0 : Heap) (V : Arv Z h0 a kA .char (4 : Int32) [.int c0, .int c1, .int c2, .int c3] (.int 0)) (n1 : Int32) (hin : (1 : Int32) < n1) :
    own_Met l Z (⟨"com/example/pennant/pennant/TrlStripBlanksPinLaw", "solid", "([CII)Z"⟩ : MethodName) method_3_code 3 (some .boolean) ws ⟨0, 0, 0, 0⟩ #[(.ref a), (.int (1 : Int32)), (.int n1)] h0 (own_P (some (.int (own_bi (!own_bl c1)))) h0) := by
  refine own_enter (plainFor_of_name pn5) (fun m => ef_sol m a (1 : Int32) n1) ?_
  intro p e s m below meth c T0 hx hby hml hZ hown hnm hret hlk X0 e0
  show own_G p e below _ (T0.setTop (mkF m 0 #[.val (.ref a), .val (.int (1 : Int32)), .val (.int n1)] []))
  refine own_step (b := T0.setTop (mkF m 1 #[.val (.ref a), .val (.int (1 : Int32)), .val (.int n1)] [(.int (1 : Int32))])) (fun _ qk => XS.iloadN X0.here hx rfl (hb hby d11_0) rfl qk) ?_
  refine own_step (b := T0.setTop (mkF m 2 #[.val (.ref a), .val (.int (1 : Int32)), .val (.int n1)] [(.int n1), (.int (1 : Int32))])) (fun _ qk => XS.iloadN X0.here hx rfl (hb hby d11_1) rfl qk) ?_
  refine own_icmp_ge X0 hx (hb hby d11_2) (pc' := 25) (by decide) (by decide) (fun cin => absurd hin cin) (fun cin => ?_)
  show own_G p e below _ (T0.setTop (mkF m 5 #[.val (.ref a), .val (.int (1 : Int32)), .val (.int n1)] []))
  refine own_step (b := T0.setTop (mkF m 6 #[.val (.ref a), .val (.int (1 : Int32)), .val (.int n1)] [(.ref a)])) (fun _ qk => XS.aloadN X0.here hx rfl (hb hby d11_5) rfl rfl qk) ?_
  refine own_step (b := T0.setTop (mkF m 7 #[.val (.ref a), .val (.int (1 : Int32)), .val (.int n1)] [(.int (1 : Int32)), (.ref a)])) (fun _ qk => XS.iloadN X0.here hx rfl (hb hby d11_6) rfl qk) ?_
  refine own_ldC X0 hx hZ e0 V 1 (by decide) (by decide) (by decide) (v := (.int c1)) rfl (hb hby d11_7) ?_
  show own_G p e below _ (T0.setTop (mkF m 8 #[.val (.ref a), .val (.int (1 : Int32)), .val (.int n1)] [(.int c1)]))
  refine own_step (b := T0.setTop (mkF m 10 #[.val (.ref a), .val (.int (1 : Int32)), .val (.int n1)] [(.int (32 : Int32)), (.int c1)])) (fun _ qk => XS.bipush X0.here hx rfl (hb hby d11_8) qk) ?_
  refine own_icmp_eq X0 hx (hb hby d11_10) (pc' := 25) (by decide) (by decide) (fun c10_1 => ?_) (fun c10_1 => ?_)
  · show own_G p e below _ (T0.setTop (mkF m 25 #[.val (.ref a), .val (.int (1 : Int32)), .val (.int n1)] []))
    refine own_step (b := T0.setTop (mkF m 26 #[.val (.ref a), .val (.int (1 : Int32)), .val (.int n1)] [(.int (0 : Int32))])) (fun _ qk => XS.iconst X0.here hx rfl (hb hby d11_25) qk) ?_
    exact own_retN X0 hx hret (by simp) hlk (hb hby d11_26) ⟨by rw [show (!own_bl c1) = false by simp [own_bl, c10_1]]; rfl, rfl, e0⟩ (by decide) (by decide)
  · show own_G p e below _ (T0.setTop (mkF m 13 #[.val (.ref a), .val (.int (1 : Int32)), .val (.int n1)] []))
    refine own_step (b := T0.setTop (mkF m 14 #[.val (.ref a), .val (.int (1 : Int32)), .val (.int n1)] [(.ref a)])) (fun _ qk => XS.aloadN X0.here hx rfl (hb hby d11_13) rfl rfl qk) ?_
    refine own_step (b := T0.setTop (mkF m 15 #[.val (.ref a), .val (.int (1 : Int32)), .val (.int n1)] [(.int (1 : Int32)), (.ref a)])) (fun _ qk => XS.iloadN X0.here hx rfl (hb hby d11_14) rfl qk) ?_
    refine own_ldC X0 hx hZ e0 V 1 (by decide) (by decide) (by decide) (v := (.int c1)) rfl (hb hby d11_15) ?_
    show own_G p e below _ (T0.setTop (mkF m 16 #[.val (.ref a), .val (.int (1 : Int32)), .val (.int n1)] [(.int c1)]))
    refine own_step (b := T0.setTop (mkF m 18 #[.val (.ref a), .val (.int (1 : Int32)), .val (.int n1)] [(.int (9 : Int32)), (.int c1)])) (fun _ qk => XS.bipush X0.here hx rfl (hb hby d11_16) qk) ?_
    refine own_icmp_eq X0 hx (hb hby d11_18) (pc' := 25) (by decide) (by decide) (fun c18_2 => ?_) (fun c18_2 => ?_)
    · show own_G p e below _ (T0.setTop (mkF m 25 #[.val (.ref a), .val (.int (1 : Int32)), .val (.int n1)] []))
      refine own_step (b := T0.setTop (mkF m 26 #[.val (.ref a), .val (.int (1 : Int32)), .val (.int n1)] [(.int (0 : Int32))])) (fun _ qk => XS.iconst X0.here hx rfl (hb hby d11_25) qk) ?_
      exact own_retN X0 hx hret (by simp) hlk (hb hby d11_26) ⟨by rw [show (!own_bl c1) = false by simp [own_bl, c10_1, c18_2]]; rfl, rfl, e0⟩ (by decide) (by decide)
    · show own_G p e below _ (T0.setTop (mkF m 21 #[.val (.ref a), .val (.int (1 : Int32)), .val (.int n1)] []))
      refine own_step (b := T0.setTop (mkF m 22 #[.val (.ref a), .val (.int (1 : Int32)), .val (.int n1)] [(.int (1 : Int32))])) (fun _ qk => XS.iconst X0.here hx rfl (hb hby d11_21) qk) ?_
      refine own_step (b := T0.setTop (mkF m 26 #[.val (.ref a), .val (.int (1 : Int32)), .val (.int n1)] [(.int (1 : Int32))])) (fun _ qk => XS.goto X0.here hx rfl (pc0 := 22) (pc' := 26) rfl (hb hby d11_22) (by decide) (by decide) qk) ?_
      exact own_retN X0 hx hret (by simp) hlk (hb hby d11_26) ⟨by rw [show (!own_bl c1) = true by simp [own_bl, c10_1, c18_2]]; rfl, rfl, e0⟩ (by decide) (by decide)
set_option maxRecDepth 65536 in
set_option maxHeartbeats 40000000 in
theorem rmSol2 (l : Launch) (Z : State) (a0 : Array Value) (hw : ∀ d ∈ tables_1, d.before a0 Z = true) (ws : List Jvm.Cond) (a : Addr) (kA : ClassId) (c0 c1 c2 c3 : Int32) (h0 : Heap) (V : Arv Z h0 a kA .char (4 : Int32) [.int c0, .int c1, .int c2, .int c3] (.int 0)) (n1 : Int32) (hin : (2 : Int32) < n1) :
    own_Met l Z (⟨"com/example/pennant/pennant/TrlStripBlanksPinLaw", "solid", "([CII)Z"⟩ : MethodName) method_3_code 3 (some .boolean) ws ⟨0, 0, 0, 0⟩ #[(.ref a), (.int (2 : Int32)), (.int n1)] h0 (own_P (some (.int (own_bi (!own_bl c2)))) h0) := by
  refine own_enter (plainFor_of_name pn5) (fun m => ef_sol m a (2 : Int32) n1) ?_
  intro p e s m below meth c T0 hx hby hml hZ hown hnm hret hlk X0 e0
  show own_G p e below _ (T0.setTop (mkF m 0 #[.val (.ref a), .val (.int (2 : Int32)), .val (.int n1)] []))
  refine own_step (b := T0.setTop (mkF m 1 #[.val (.ref a), .val (.int (2 : Int32)), .val (.int n1)] [(.int (2 : Int32))])) (fun _ qk => XS.iloadN X0.here hx rfl (hb hby d11_0) rfl qk) ?_
  refine own_step (b := T0.setTop (mkF m 2 #[.val (.ref a), .val (.int (2 : Int32)), .val (.int n1)] [(.int n1), (.int (2 : Int32))])) (fun _ qk => XS.iloadN X0.here hx rfl (hb hby d11_1) rfl qk) ?_
  refine own_icmp_ge X0 hx (hb hby d11_2) (pc' := 25) (by decide) (by decide) (fun cin => absurd hin cin) (fun cin => ?_)
  show own_G p e below _ (T0.setTop (mkF m 5 #[.val (.ref a), .val (.int (2 : Int32)), .val (.int n1)] []))
  refine own_step (b := T0.setTop (mkF m 6 #[.val (.ref a), .val (.int (2 : Int32)), .val (.int n1)] [(.ref a)])) (fun _ qk => XS.aloadN X0.here hx rfl (hb hby d11_5) rfl rfl qk) ?_
  refine own_step (b := T0.setTop (mkF m 7 #[.val (.ref a), .val (.int (2 : Int32)), .val (.int n1)] [(.int (2 : Int32)), (.ref a)])) (fun _ qk => XS.iloadN X0.here hx rfl (hb hby d11_6) rfl qk) ?_
  refine own_ldC X0 hx hZ e0 V 2 (by decide) (by decide) (by decide) (v := (.int c2)) rfl (hb hby d11_7) ?_
  show own_G p e below _ (T0.setTop (mkF m 8 #[.val (.ref a), .val (.int (2 : Int32)), .val (.int n1)] [(.int c2)]))
  refine own_step (b := T0.setTop (mkF m 10 #[.val (.ref a), .val (.int (2 : Int32)), .val (.int n1)] [(.int (32 : Int32)), (.int c2)])) (fun _ qk => XS.bipush X0.here hx rfl (hb hby d11_8) qk) ?_
  refine own_icmp_eq X0 hx (hb hby d11_10) (pc' := 25) (by decide) (by decide) (fun c10_1 => ?_) (fun c10_1 => ?_)
  · show own_G p e below _ (T0.setTop (mkF m 25 #[.val (.ref a), .val (.int (2 : Int32)), .val (.int n1)] []))
    refine own_step (b := T0.setTop (mkF m 26 #[.val (.ref a), .val (.int (2 : Int32)), .val (.int n1)] [(.int (0 : Int32))])) (fun _ qk => XS.iconst X0.here hx rfl (hb hby d11_25) qk) ?_
    exact own_retN X0 hx hret (by simp) hlk (hb hby d11_26) ⟨by rw [show (!own_bl c2) = false by simp [own_bl, c10_1]]; rfl, rfl, e0⟩ (by decide) (by decide)
  · show own_G p e below _ (T0.setTop (mkF m 13 #[.val (.ref a), .val (.int (2 : Int32)), .val (.int n1)] []))
    refine own_step (b := T0.setTop (mkF m 14 #[.val (.ref a), .val (.int (2 : Int32)), .val (.int n1)] [(.ref a)])) (fun _ qk => XS.aloadN X0.here hx rfl (hb hby d11_13) rfl rfl qk) ?_
    refine own_step (b := T0.setTop (mkF m 15 #[.val (.ref a), .val (.int (2 : Int32)), .val (.int n1)] [(.int (2 : Int32)), (.ref a)])) (fun _ qk => XS.iloadN X0.here hx rfl (hb hby d11_14) rfl qk) ?_
    refine own_ldC X0 hx hZ e0 V 2 (by decide) (by decide) (by decide) (v := (.int c2)) rfl (hb hby d11_15) ?_
    show own_G p e below _ (T0.setTop (mkF m 16 #[.val (.ref a), .val (.int (2 : Int32)), .val (.int n1)] [(.int c2)]))
    refine own_step (b := T0.setTop (mkF m 18 #[.val (.ref a), .val (.int (2 : Int32)), .val (.int n1)] [(.int (9 : Int32)), (.int c2)])) (fun _ qk => XS.bipush X0.here hx rfl (hb hby d11_16) qk) ?_
    refine own_icmp_eq X0 hx (hb hby d11_18) (pc' := 25) (by decide) (by decide) (fun c18_2 => ?_) (fun c18_2 => ?_)
    · show own_G p e below _ (T0.setTop (mkF m 25 #[.val (.ref a), .val (.int (2 : Int32)), .val (.int n1)] []))
      refine own_step (b := T0.setTop (mkF m 26 #[.val (.ref a), .val (.int (2 : Int32)), .val (.int n1)] [(.int (0 : Int32))])) (fun _ qk => XS.iconst X0.here hx rfl (hb hby d11_25) qk) ?_
      exact own_retN X0 hx hret (by simp) hlk (hb hby d11_26) ⟨by rw [show (!own_bl c2) = false by simp [own_bl, c10_1, c18_2]]; rfl, rfl, e0⟩ (by decide) (by decide)
    · show own_G p e below _ (T0.setTop (mkF m 21 #[.val (.ref a), .val (.int (2 : Int32)), .val (.int n1)] []))
      refine own_step (b := T0.setTop (mkF m 22 #[.val (.ref a), .val (.int (2 : Int32)), .val (.int n1)] [(.int (1 : Int32))])) (fun _ qk => XS.iconst X0.here hx rfl (hb hby d11_21) qk) ?_
      refine own_step (b := T0.setTop (mkF m 26 #[.val (.ref a), .val (.int (2 : Int32)), .val (.int n1)] [(.int (1 : Int32))])) (fun _ qk => XS.goto X0.here hx rfl (pc0 := 22) (pc' := 26) rfl (hb hby d11_22) (by decide) (by decide) qk) ?_
      exact own_retN X0 hx hret (by simp) hlk (hb hby d11_26) ⟨by rw [show (!own_bl c2) = true by simp [own_bl, c10_1, c18_2]]; rfl, rfl, e0⟩ (by decide) (by decide)
set_option maxRecDepth 65536 in
set_option maxHeartbeats 40000000 in
theorem rmSol3 (l : Launch) (Z : State) (a0 : Array Value) (hw : ∀ d ∈ tables_1, d.before a0 Z = true) (ws : List Jvm.Cond) (a : Addr) (kA : ClassId) (c0 c1 c2 c3 : Int32) (h0 : Heap) (V : Arv Z h0 a kA .char (4 : Int32) [.int c0, .int c1, .int c2, .int c3] (.int 0)) (n1 : Int32) (hin : (3 : Int32) < n1) :
    own_Met l Z (⟨"com/example/pennant/pennant/TrlStripBlanksPinLaw", "solid", "([CII)Z"⟩ : MethodName) method_3_code 3 (some .boolean) ws ⟨0, 0, 0, 0⟩ #[(.ref a), (.int (3 : Int32)), (.int n1)] h0 (own_P (some (.int (own_bi (!own_bl c3)))) h0) := by
  refine own_enter (plainFor_of_name pn5) (fun m => ef_sol m a (3 : Int32) n1) ?_
  intro p e s m below meth c T0 hx hby hml hZ hown hnm hret hlk X0 e0
  show own_G p e below _ (T0.setTop (mkF m 0 #[.val (.ref a), .val (.int (3 : Int32)), .val (.int n1)] []))
  refine own_step (b := T0.setTop (mkF m 1 #[.val (.ref a), .val (.int (3 : Int32)), .val (.int n1)] [(.int (3 : Int32))])) (fun _ qk => XS.iloadN X0.here hx rfl (hb hby d11_0) rfl qk) ?_
  refine own_step (b := T0.setTop (mkF m 2 #[.val (.ref a), .val (.int (3 : Int32)), .val (.int n1)] [(.int n1), (.int (3 : Int32))])) (fun _ qk => XS.iloadN X0.here hx rfl (hb hby d11_1) rfl qk) ?_
  refine own_icmp_ge X0 hx (hb hby d11_2) (pc' := 25) (by decide) (by decide) (fun cin => absurd hin cin) (fun cin => ?_)
  show own_G p e below _ (T0.setTop (mkF m 5 #[.val (.ref a), .val (.int (3 : Int32)), .val (.int n1)] []))
  refine own_step (b := T0.setTop (mkF m 6 #[.val (.ref a), .val (.int (3 : Int32)), .val (.int n1)] [(.ref a)])) (fun _ qk => XS.aloadN X0.here hx rfl (hb hby d11_5) rfl rfl qk) ?_
  refine own_step (b := T0.setTop (mkF m 7 #[.val (.ref a), .val (.int (3 : Int32)), .val (.int n1)] [(.int (3 : Int32)), (.ref a)])) (fun _ qk => XS.iloadN X0.here hx rfl (hb hby d11_6) rfl qk) ?_
  refine own_ldC X0 hx hZ e0 V 3 (by decide) (by decide) (by decide) (v := (.int c3)) rfl (hb hby d11_7) ?_
  show own_G p e below _ (T0.setTop (mkF m 8 #[.val (.ref a), .val (.int (3 : Int32)), .val (.int n1)] [(.int c3)]))
  refine own_step (b := T0.setTop (mkF m 10 #[.val (.ref a), .val (.int (3 : Int32)), .val (.int n1)] [(.int (32 : Int32)), (.int c3)])) (fun _ qk => XS.bipush X0.here hx rfl (hb hby d11_8) qk) ?_
  refine own_icmp_eq X0 hx (hb hby d11_10) (pc' := 25) (by decide) (by decide) (fun c10_1 => ?_) (fun c10_1 => ?_)
  · show own_G p e below _ (T0.setTop (mkF m 25 #[.val (.ref a), .val (.int (3 : Int32)), .val (.int n1)] []))
    refine own_step (b := T0.setTop (mkF m 26 #[.val (.ref a), .val (.int (3 : Int32)), .val (.int n1)] [(.int (0 : Int32))])) (fun _ qk => XS.iconst X0.here hx rfl (hb hby d11_25) qk) ?_
    exact own_retN X0 hx hret (by simp) hlk (hb hby d11_26) ⟨by rw [show (!own_bl c3) = false by simp [own_bl, c10_1]]; rfl, rfl, e0⟩ (by decide) (by decide)
  · show own_G p e below _ (T0.setTop (mkF m 13 #[.val (.ref a), .val (.int (3 : Int32)), .val (.int n1)] []))
    refine own_step (b := T0.setTop (mkF m 14 #[.val (.ref a), .val (.int (3 : Int32)), .val (.int n1)] [(.ref a)])) (fun _ qk => XS.aloadN X0.here hx rfl (hb hby d11_13) rfl rfl qk) ?_
    refine own_step (b := T0.setTop (mkF m 15 #[.val (.ref a), .val (.int (3 : Int32)), .val (.int n1)] [(.int (3 : Int32)), (.ref a)])) (fun _ qk => XS.iloadN X0.here hx rfl (hb hby d11_14) rfl qk) ?_
    refine own_ldC X0 hx hZ e0 V 3 (by decide) (by decide) (by decide) (v := (.int c3)) rfl (hb hby d11_15) ?_
    show own_G p e below _ (T0.setTop (mkF m 16 #[.val (.ref a), .val (.int (3 : Int32)), .val (.int n1)] [(.int c3)]))
    refine own_step (b := T0.setTop (mkF m 18 #[.val (.ref a), .val (.int (3 : Int32)), .val (.int n1)] [(.int (9 : Int32)), (.int c3)])) (fun _ qk => XS.bipush X0.here hx rfl (hb hby d11_16) qk) ?_
    refine own_icmp_eq X0 hx (hb hby d11_18) (pc' := 25) (by decide) (by decide) (fun c18_2 => ?_) (fun c18_2 => ?_)
    · show own_G p e below _ (T0.setTop (mkF m 25 #[.val (.ref a), .val (.int (3 : Int32)), .val (.int n1)] []))
      refine own_step (b := T0.setTop (mkF m 26 #[.val (.ref a), .val (.int (3 : Int32)), .val (.int n1)] [(.int (0 : Int32))])) (fun _ qk => XS.iconst X0.here hx rfl (hb hby d11_25) qk) ?_
      exact own_retN X0 hx hret (by simp) hlk (hb hby d11_26) ⟨by rw [show (!own_bl c3) = false by simp [own_bl, c10_1, c18_2]]; rfl, rfl, e0⟩ (by decide) (by decide)
    · show own_G p e below _ (T0.setTop (mkF m 21 #[.val (.ref a), .val (.int (3 : Int32)), .val (.int n1)] []))
      refine own_step (b := T0.setTop (mkF m 22 #[.val (.ref a), .val (.int (3 : Int32)), .val (.int n1)] [(.int (1 : Int32))])) (fun _ qk => XS.iconst X0.here hx rfl (hb hby d11_21) qk) ?_
      refine own_step (b := T0.setTop (mkF m 26 #[.val (.ref a), .val (.int (3 : Int32)), .val (.int n1)] [(.int (1 : Int32))])) (fun _ qk => XS.goto X0.here hx rfl (pc0 := 22) (pc' := 26) rfl (hb hby d11_22) (by decide) (by decide) qk) ?_
      exact own_retN X0 hx hret (by simp) hlk (hb hby d11_26) ⟨by rw [show (!own_bl c3) = true by simp [own_bl, c10_1, c18_2]]; rfl, rfl, e0⟩ (by decide) (by decide)
set_option maxRecDepth 65536 in
set_option maxHeartbeats 40000000 in
theorem rmSolF (l : Launch) (Z : State) (a0 : Array Value) (hw : ∀ d ∈ tables_1, d.before a0 Z = true) (ws : List Jvm.Cond) (a : Addr) (i1 n1 : Int32) (h0 : Heap) (hin : ¬ i1 < n1) :
    own_Met l Z (⟨"com/example/pennant/pennant/TrlStripBlanksPinLaw", "solid", "([CII)Z"⟩ : MethodName) method_3_code 3 (some .boolean) ws ⟨0, 0, 0, 0⟩ #[(.ref a), (.int i1), (.int n1)] h0 (own_P (some (.int (own_bi false))) h0) := by
  refine own_enter (plainFor_of_name pn5) (fun m => ef_sol m a i1 n1) ?_
  intro p e s m below meth c T0 hx hby hml hZ hown hnm hret hlk X0 e0
  show own_G p e below _ (T0.setTop (mkF m 0 #[.val (.ref a), .val (.int i1), .val (.int n1)] []))
  refine own_step (b := T0.setTop (mkF m 1 #[.val (.ref a), .val (.int i1), .val (.int n1)] [(.int i1)])) (fun _ qk => XS.iloadN X0.here hx rfl (hb hby d11_0) rfl qk) ?_
  refine own_step (b := T0.setTop (mkF m 2 #[.val (.ref a), .val (.int i1), .val (.int n1)] [(.int n1), (.int i1)])) (fun _ qk => XS.iloadN X0.here hx rfl (hb hby d11_1) rfl qk) ?_
  refine own_icmp_ge X0 hx (hb hby d11_2) (pc' := 25) (by decide) (by decide) (fun cin => ?_) (fun cin => absurd cin hin)
  show own_G p e below _ (T0.setTop (mkF m 25 #[.val (.ref a), .val (.int i1), .val (.int n1)] []))
  refine own_step (b := T0.setTop (mkF m 26 #[.val (.ref a), .val (.int i1), .val (.int n1)] [(.int (0 : Int32))])) (fun _ qk => XS.iconst X0.here hx rfl (hb hby d11_25) qk) ?_
  exact own_retN X0 hx hret (by simp) hlk (hb hby d11_26) ⟨rfl, rfl, e0⟩ (by decide) (by decide)
theorem ef_at (m : MethodId) (r a : Addr) (i j q : Int32) : entryFrame m #[(.ref r), (.int i), (.int j), (.ref a), (.int q)] 5 = mkF m 0 #[.val (.ref r), .val (.int i), .val (.int j), .val (.ref a), .val (.int q)] [] := by first | (simp [entryFrame, mkF, argsToLocals, Value.category, maxLocals]; done) | rfl
theorem own_getD4 {cs : List Int32} {i : Nat} : (cs.map Value.int).getD i (.int 0) = .int (cs.getD i 0) := by
  simp only [List.getD_eq_getElem?_getD, List.getElem?_map]
  cases cs[i]? <;> rfl
set_option maxRecDepth 65536 in
set_option maxHeartbeats 40000000 in
theorem rmAt (l : Launch) (Z : State) (a0 : Array Value) (hw : ∀ d ∈ tables_1, d.before a0 Z = true) (ws : List Jvm.Cond) (r a : Addr) (kA : ClassId) (kk sq : Nat) (ls : List Int32) (c0 c1 c2 c3 : Int32) (h0 : Heap) (SS : own_Str Z h0 r ls) (V : Arv Z h0 a kA .char (4 : Int32) (([c0, c1, c2, c3] : List Int32).map Value.int) (.int 0)) (hk4 : kk < 4) (hll : ls.length ≤ 4) (hat : kk < ls.length → ls.getD kk 0 = ([c0, c1, c2, c3] : List Int32).getD (sq + kk) 0 ∧ sq + kk < 4) (OL0 : Old Z Z.heap.size h0) (G1 : Int32) (O2 : Sta Z Z.heap "java/lang/String" "COMPACT_STRINGS" "Z" (.int G1)) (P5 : ¬ (G1 = (0 : Int32))) (G3 : Value) (O4 : Sta Z Z.heap "jdk/internal/util/Preconditions" "SIOOBE_FORMATTER" "Ljava/util/function/BiFunction;" G3) (rG3 : G3.isRef = true) :
    own_Met l Z (⟨"com/example/pennant/pennant/TrlStripBlanksPinLaw", "at", "(Ljava/lang/String;II[CI)Z"⟩ : MethodName) method_4_code 5 (some .boolean) ws ⟨4, 0, 0, 54⟩ #[(.ref r), (.int (Int32.ofNat kk)), (.int (Int32.ofNat ls.length)), (.ref a), (.int (Int32.ofNat sq))] h0 (own_P (some (.int (1 : Int32))) h0) := by
  refine own_enter (plainFor_of_name pn5) (fun m => ef_at m r a (Int32.ofNat kk) (Int32.ofNat ls.length) (Int32.ofNat sq)) ?_
  intro p e s m below meth c T0 hx hby hml hZ hown hnm hret hlk X0 e0
  show own_G p e below _ (T0.setTop (mkF m 0 #[.val (.ref r), .val (.int (Int32.ofNat kk)), .val (.int (Int32.ofNat ls.length)), .val (.ref a), .val (.int (Int32.ofNat sq))] []))
  refine own_step (b := T0.setTop (mkF m 1 #[.val (.ref r), .val (.int (Int32.ofNat kk)), .val (.int (Int32.ofNat ls.length)), .val (.ref a), .val (.int (Int32.ofNat sq))] [(.int (Int32.ofNat kk))])) (fun _ qk => XS.iloadN X0.here hx rfl (hb hby d12_0) rfl qk) ?_
  refine own_step (b := T0.setTop (mkF m 2 #[.val (.ref r), .val (.int (Int32.ofNat kk)), .val (.int (Int32.ofNat ls.length)), .val (.ref a), .val (.int (Int32.ofNat sq))] [(.int (Int32.ofNat ls.length)), (.int (Int32.ofNat kk))])) (fun _ qk => XS.iloadN X0.here hx rfl (hb hby d12_1) rfl qk) ?_
  refine own_icmp_ge X0 hx (hb hby d12_2) (pc' := 19) (by decide) (by decide) (fun cl => ?_) (fun cl => ?_)
  · show own_G p e below _ (T0.setTop (mkF m 19 #[.val (.ref r), .val (.int (Int32.ofNat kk)), .val (.int (Int32.ofNat ls.length)), .val (.ref a), .val (.int (Int32.ofNat sq))] []))
    refine own_step (b := T0.setTop (mkF m 20 #[.val (.ref r), .val (.int (Int32.ofNat kk)), .val (.int (Int32.ofNat ls.length)), .val (.ref a), .val (.int (Int32.ofNat sq))] [(.int (1 : Int32))])) (fun _ qk => XS.iconst X0.here hx rfl (hb hby d12_19) qk) ?_
    refine own_step (b := T0.setTop (mkF m 24 #[.val (.ref r), .val (.int (Int32.ofNat kk)), .val (.int (Int32.ofNat ls.length)), .val (.ref a), .val (.int (Int32.ofNat sq))] [(.int (1 : Int32))])) (fun _ qk => XS.goto X0.here hx rfl (pc0 := 20) (pc' := 24) rfl (hb hby d12_20) (by decide) (by decide) qk) ?_
    exact own_retN X0 hx hret (by simp) hlk (hb hby d12_24) ⟨rfl, rfl, e0⟩ (by decide) (by decide)
  · show own_G p e below _ (T0.setTop (mkF m 5 #[.val (.ref r), .val (.int (Int32.ofNat kk)), .val (.int (Int32.ofNat ls.length)), .val (.ref a), .val (.int (Int32.ofNat sq))] []))
    have hlt : kk < ls.length := (own_ofNat_lt (by omega) (by omega)).mp cl
    obtain ⟨hg, hs4⟩ := hat hlt
    refine own_step (b := T0.setTop (mkF m 6 #[.val (.ref r), .val (.int (Int32.ofNat kk)), .val (.int (Int32.ofNat ls.length)), .val (.ref a), .val (.int (Int32.ofNat sq))] [(.ref r)])) (fun _ qk => XS.aloadN X0.here hx rfl (hb hby d12_5) rfl rfl qk) ?_
    refine own_step (b := T0.setTop (mkF m 7 #[.val (.ref r), .val (.int (Int32.ofNat kk)), .val (.int (Int32.ofNat ls.length)), .val (.ref a), .val (.int (Int32.ofNat sq))] [(.int (Int32.ofNat kk)), (.ref r)])) (fun _ qk => XS.iloadN X0.here hx rfl (hb hby d12_6) rfl qk) ?_
    refine own_virtual (a := r) (W := 0) (argsL := [(.int (Int32.ofNat kk))]) (st := []) X0 hx hZ hown (own_w hw 120 rfl) (own_w hw 73 rfl) (own_w hw 75 rfl) rfl (own_w hw 74 rfl) (by decide) e0 SS.1 (own_chB (W := 0) hZ hw (kI := 4) (own_w hw 6 rfl) SS O2 P5 O4 rG3 OL0 kk hlt (j := Int32.ofNat kk) rfl (r := ls.getD kk 0) rfl (by decide) (by decide)) (by decide) (by decide) (by rw [hml]; rfl) (lenOf pd11 rfl) rfl (Nat.le_of_ble_eq_true rfl) (hb hby d12_7) (fun v1 T1 L1 X1 hQ1 => ?_)
    obtain ⟨rfl, rfl, hh1⟩ := hQ1
    rw [List.append_nil] at X1
    show own_G p e below _ (T1.setTop (mkF m 10 #[.val (.ref r), .val (.int (Int32.ofNat kk)), .val (.int (Int32.ofNat ls.length)), .val (.ref a), .val (.int (Int32.ofNat sq))] [(.int (ls.getD kk 0))]))
    refine own_step (b := T1.setTop (mkF m 11 #[.val (.ref r), .val (.int (Int32.ofNat kk)), .val (.int (Int32.ofNat ls.length)), .val (.ref a), .val (.int (Int32.ofNat sq))] [(.ref a), (.int (ls.getD kk 0))])) (fun _ qk => XS.aloadN X1.here hx rfl (hb hby d12_10) rfl rfl qk) ?_
    refine own_step (b := T1.setTop (mkF m 13 #[.val (.ref r), .val (.int (Int32.ofNat kk)), .val (.int (Int32.ofNat ls.length)), .val (.ref a), .val (.int (Int32.ofNat sq))] [(.int (Int32.ofNat sq)), (.ref a), (.int (ls.getD kk 0))])) (fun _ qk => XS.iload X1.here hx rfl (hb hby d12_11) rfl qk) ?_
    refine own_step (b := T1.setTop (mkF m 14 #[.val (.ref r), .val (.int (Int32.ofNat kk)), .val (.int (Int32.ofNat ls.length)), .val (.ref a), .val (.int (Int32.ofNat sq))] [(.int (Int32.ofNat kk)), (.int (Int32.ofNat sq)), (.ref a), (.int (ls.getD kk 0))])) (fun _ qk => XS.iloadN X1.here hx rfl (hb hby d12_13) rfl qk) ?_
    refine own_step (b := T1.setTop (mkF m 15 #[.val (.ref r), .val (.int (Int32.ofNat kk)), .val (.int (Int32.ofNat ls.length)), .val (.ref a), .val (.int (Int32.ofNat sq))] [(.int ((Int32.ofNat sq) + (Int32.ofNat kk))), (.ref a), (.int (ls.getD kk 0))])) (fun _ qk => XS.iadd X1.here hx rfl (hb hby d12_14) rfl qk) ?_
    rw [own_ofNat_add]
    show own_G p e below _ (T1.setTop (mkF m 15 #[.val (.ref r), .val (.int (Int32.ofNat kk)), .val (.int (Int32.ofNat ls.length)), .val (.ref a), .val (.int (Int32.ofNat sq))] [(.int (Int32.ofNat (sq + kk))), (.ref a), (.int (ls.getD kk 0))]))
    refine own_ldC X1 hx hZ hh1 V (sq + kk) (own_nn (by omega)) (own_clamp (by omega)) (by have q : (4 : Int32).toNatClampNeg = 4 := rfl; omega) (v := (.int (([c0, c1, c2, c3] : List Int32).getD (sq + kk) 0))) own_getD4 (hb hby d12_15) ?_
    show own_G p e below _ (T1.setTop (mkF m 16 #[.val (.ref r), .val (.int (Int32.ofNat kk)), .val (.int (Int32.ofNat ls.length)), .val (.ref a), .val (.int (Int32.ofNat sq))] [(.int (([c0, c1, c2, c3] : List Int32).getD (sq + kk) 0)), (.int (ls.getD kk 0))]))
    refine own_icmp_ne X1 hx (hb hby d12_16) (pc' := 23) (by decide) (by decide) (fun ce => absurd hg ce) (fun ce => ?_)
    show own_G p e below _ (T1.setTop (mkF m 19 #[.val (.ref r), .val (.int (Int32.ofNat kk)), .val (.int (Int32.ofNat ls.length)), .val (.ref a), .val (.int (Int32.ofNat sq))] []))
    refine own_step (b := T1.setTop (mkF m 20 #[.val (.ref r), .val (.int (Int32.ofNat kk)), .val (.int (Int32.ofNat ls.length)), .val (.ref a), .val (.int (Int32.ofNat sq))] [(.int (1 : Int32))])) (fun _ qk => XS.iconst X1.here hx rfl (hb hby d12_19) qk) ?_
    refine own_step (b := T1.setTop (mkF m 24 #[.val (.ref r), .val (.int (Int32.ofNat kk)), .val (.int (Int32.ofNat ls.length)), .val (.ref a), .val (.int (Int32.ofNat sq))] [(.int (1 : Int32))])) (fun _ qk => XS.goto X1.here hx rfl (pc0 := 20) (pc' := 24) rfl (hb hby d12_20) (by decide) (by decide) qk) ?_
    exact own_retN X1 hx hret (by simp) hlk (hb hby d12_24) ⟨rfl, rfl, hh1⟩ (by decide) (by decide)
theorem own_a0 {P : Int32 → Prop} : ∀ x ∈ ([] : List Int32), P x := fun _ q => nomatch q
theorem own_aS {P : Int32 → Prop} {y : Int32} {L : List Int32} (q : P y) (r : ∀ x ∈ L, P x) : ∀ x ∈ y :: L, P x := fun x z => (List.mem_cons.mp z).elim (fun u => u ▸ q) (r x)
theorem ef_0 (m : MethodId) (p0 p1 p2 p3 p4 : Int32) : entryFrame m #[(.int p0), (.int p1), (.int p2), (.int p3), (.int p4)] maxLocals = mkF m 0 #[.val (.int p0), .val (.int p1), .val (.int p2), .val (.int p3), .val (.int p4), .unset, .unset, .unset, .unset, .unset, .unset, .unset] [] := by first | (simp [entryFrame, mkF, argsToLocals, Value.category, maxLocals]; done) | rfl
set_option maxRecDepth 65536 in
set_option maxHeartbeats 40000000 in
theorem rm0 (l : Launch) (Z : State) (a0 : Array Value) (hw : ∀ d ∈ tables_1, d.before a0 Z = true) (ws : List Jvm.Cond) (p0 p1 p2 p3 p4 : Int32) (h0 : Heap) (G1 : Int32) (O2 : Sta Z Z.heap "java/lang/String" "COMPACT_STRINGS" "Z" (.int G1)) (P5 : ¬ (G1 = (0 : Int32))) (G3 : Value) (O4 : Sta Z Z.heap "jdk/internal/util/Preconditions" "SIOOBE_FORMATTER" "Ljava/util/function/BiFunction;" G3) (rG3 : G3.isRef = true) (OL0 : Old Z Z.heap.size h0) (CH : Jvm.Lit.constHeld Z "java/lang/String" 7) (CH1 : Jvm.Lit.constHeld Z "java/lang/StringLatin1" 151) (HC : Jvm.Lit.compactW.before a0 Z = true) :
    own_MetI l Z x code maxLocals ret ws room_1 #[(.int p0), (.int p1), (.int p2), (.int p3), (.int p4)] h0 (fun vm => IB Z vm []) (fun v vm h L => v = some (.int 1) ∧ Fr Z.heap.size L) := by
  refine own_enterI (plainFor_of_name pn5) (fun m => ef_0 m p0 p1 p2 p3 p4) ?_
  intro p e s m below meth c T0 vm0 k0 hx hby hml hZ hown hnm hret hlk X0 e0 es0 hS hk hI
  have zz0 : Z.heap.size ≤ h0.size := OL0.2.1
  have N0 := Fr.nil Z.heap.size
  have hws : ∀ d ∈ StrChars.Road.words, d.before a0 Z = true := fun d hd => hw d ((by decide +kernel : ∀ d ∈ StrChars.Road.words, d ∈ tables_1) d hd)
  show own_G p e below _ (T0.setTop (mkF m 0 #[.val (.int p0), .val (.int p1), .val (.int p2), .val (.int p3), .val (.int p4), .unset, .unset, .unset, .unset, .unset, .unset, .unset] []))
  refine own_step (b := T0.setTop (mkF m 2 #[.val (.int p0), .val (.int p1), .val (.int p2), .val (.int p3), .val (.int p4), .unset, .unset, .unset, .unset, .unset, .unset, .unset] [(.int p4)])) (fun _ qk => XS.iload X0.here hx rfl (hb hby at_0) rfl qk) ?_
  refine own_step (b := T0.setTop (mkF m 4 #[.val (.int p0), .val (.int p1), .val (.int p2), .val (.int p3), .val (.int p4), .unset, .unset, .unset, .unset, .unset, .unset, .unset] [(.int (7 : Int32)), (.int p4)])) (fun _ qk => XS.bipush X0.here hx rfl (hb hby at_2) qk) ?_
  refine own_step (b := T0.setTop (mkF m 5 #[.val (.int p0), .val (.int p1), .val (.int p2), .val (.int p3), .val (.int p4), .unset, .unset, .unset, .unset, .unset, .unset, .unset] [(.int (p4 &&& (7 : Int32)))])) (fun _ qk => XS.iand X0.here hx rfl (hb hby at_4) rfl qk) ?_
  refine own_step (b := T0.setTop (mkF m 6 #[.val (.int p0), .val (.int p1), .val (.int p2), .val (.int p3), .val (.int p4), .unset, .unset, .unset, .unset, .unset, .unset, .unset] [(.int (5 : Int32)), (.int (p4 &&& (7 : Int32)))])) (fun _ qk => XS.iconst X0.here hx rfl (hb hby at_5) qk) ?_
  refine own_step (b := T0.setTop (mkF m 7 #[.val (.int p0), .val (.int p1), .val (.int p2), .val (.int p3), .val (.int p4), .unset, .unset, .unset, .unset, .unset, .unset, .unset] [(.int ((p4 &&& (7 : Int32)) % (5 : Int32)))])) (fun _ qk => iremM X0 hx rfl (hb hby at_6) rfl (by decide) qk) ?_
  refine own_step (b := T0.setTop (mkF m 9 #[.val (.int p0), .val (.int p1), .val (.int p2), .val (.int p3), .val (.int p4), .val (.int ((p4 &&& (7 : Int32)) % (5 : Int32))), .unset, .unset, .unset, .unset, .unset, .unset] [])) (fun _ qk => XS.istore X0.here hx rfl (hb hby at_7) rfl (l' := #[.val (.int p0), .val (.int p1), .val (.int p2), .val (.int p3), .val (.int p4), .val (.int ((p4 &&& (7 : Int32)) % (5 : Int32))), .unset, .unset, .unset, .unset, .unset, .unset]) rfl qk) ?_
  refine own_step (b := T0.setTop (mkF m 10 #[.val (.int p0), .val (.int p1), .val (.int p2), .val (.int p3), .val (.int p4), .val (.int ((p4 &&& (7 : Int32)) % (5 : Int32))), .unset, .unset, .unset, .unset, .unset, .unset] [(.int (4 : Int32))])) (fun _ qk => XS.iconst X0.here hx rfl (hb hby at_9) qk) ?_
  refine own_newP X0 hx hZ (own_w hw 0 rfl) e0 (hb hby at_10) (n := (4 : Int32)) (by decide) 4 (by decide) (by decide) (by decide) (by decide) (fun T1 h1 a1 k1 X1 e1 g1 l1 E1 V1 => ?_)
  have V1' : Arv Z h1 a1 k1 .char (4 : Int32) [.int 0, .int 0, .int 0, .int 0] (.int 0) := V1
  show own_G p e below _ (T1.setTop (mkF m 12 #[.val (.int p0), .val (.int p1), .val (.int p2), .val (.int p3), .val (.int p4), .val (.int ((p4 &&& (7 : Int32)) % (5 : Int32))), .unset, .unset, .unset, .unset, .unset, .unset] [(.ref a1)]))
  have OL1 := OL0.ext E1
  refine own_step (b := T1.setTop (mkF m 13 #[.val (.int p0), .val (.int p1), .val (.int p2), .val (.int p3), .val (.int p4), .val (.int ((p4 &&& (7 : Int32)) % (5 : Int32))), .unset, .unset, .unset, .unset, .unset, .unset] [(.ref a1), (.ref a1)])) (fun _ qk => XS.dup X1.here hx rfl (hb hby at_12) rfl rfl qk) ?_
  refine own_step (b := T1.setTop (mkF m 14 #[.val (.int p0), .val (.int p1), .val (.int p2), .val (.int p3), .val (.int p4), .val (.int ((p4 &&& (7 : Int32)) % (5 : Int32))), .unset, .unset, .unset, .unset, .unset, .unset] [(.int (0 : Int32)), (.ref a1), (.ref a1)])) (fun _ qk => XS.iconst X1.here hx rfl (hb hby at_13) qk) ?_
  refine own_step (b := T1.setTop (mkF m 15 #[.val (.int p0), .val (.int p1), .val (.int p2), .val (.int p3), .val (.int p4), .val (.int ((p4 &&& (7 : Int32)) % (5 : Int32))), .unset, .unset, .unset, .unset, .unset, .unset] [(.int p0), (.int (0 : Int32)), (.ref a1), (.ref a1)])) (fun _ qk => XS.iloadN X1.here hx rfl (hb hby at_14) rfl qk) ?_
  refine own_static (W := 3) (argsL := [(.int p0)]) (st := [(.int (0 : Int32)), (.ref a1), (.ref a1)]) X1 hx hZ hown (own_w hw 1 rfl) (own_w hw 2 rfl) (own_w hw 3 rfl) (own_w hw 4 rfl) (by decide) e1 (own_back (W := 3) (rmDraw l Z a0 hw [] p0 h1) hZ (own_w hw 4 rfl) (own_w hw 3 rfl) (by decide) (by decide)) (by decide) (by decide) (by rw [hml]; rfl) (lenOf pd11 rfl) rfl (Nat.le_of_ble_eq_true rfl) (hb hby at_15) (fun v2 T2 L2 X2 hQ2 => ?_)
  obtain ⟨c0, rfl, hc0, rfl, hh2⟩ := hQ2
  rw [List.append_nil] at X2
  show own_G p e below _ (T2.setTop (mkF m 18 #[.val (.int p0), .val (.int p1), .val (.int p2), .val (.int p3), .val (.int p4), .val (.int ((p4 &&& (7 : Int32)) % (5 : Int32))), .unset, .unset, .unset, .unset, .unset, .unset] [(.int c0), (.int (0 : Int32)), (.ref a1), (.ref a1)]))
  refine own_stC X2 hx hZ hh2 V1' 0 (by decide) (by decide) (by decide) (Nat.le_of_ble_eq_true rfl) N0 (by omega) (hb hby at_18) (fun T3 h3 X3 e3 N3 W3 z3 V3 => ?_)
  have V3' : Arv Z h3 a1 k1 .char (4 : Int32) [.int (nar .char c0), .int 0, .int 0, .int 0] (.int 0) := V3
  show own_G p e below _ (T3.setTop (mkF m 19 #[.val (.int p0), .val (.int p1), .val (.int p2), .val (.int p3), .val (.int p4), .val (.int ((p4 &&& (7 : Int32)) % (5 : Int32))), .unset, .unset, .unset, .unset, .unset, .unset] [(.ref a1)]))
  have V3s : Arv Z h3 a1 k1 .char (4 : Int32) [.int c0, .int 0, .int 0, .int 0] (.int 0) := by have q := V3'; rw [own_narC hc0.1 hc0.2] at q; exact q
  have OL3 := OL1.wr W3 (by omega)
  refine own_step (b := T3.setTop (mkF m 20 #[.val (.int p0), .val (.int p1), .val (.int p2), .val (.int p3), .val (.int p4), .val (.int ((p4 &&& (7 : Int32)) % (5 : Int32))), .unset, .unset, .unset, .unset, .unset, .unset] [(.ref a1), (.ref a1)])) (fun _ qk => XS.dup X3.here hx rfl (hb hby at_19) rfl rfl qk) ?_
  refine own_step (b := T3.setTop (mkF m 21 #[.val (.int p0), .val (.int p1), .val (.int p2), .val (.int p3), .val (.int p4), .val (.int ((p4 &&& (7 : Int32)) % (5 : Int32))), .unset, .unset, .unset, .unset, .unset, .unset] [(.int (1 : Int32)), (.ref a1), (.ref a1)])) (fun _ qk => XS.iconst X3.here hx rfl (hb hby at_20) qk) ?_
  refine own_step (b := T3.setTop (mkF m 22 #[.val (.int p0), .val (.int p1), .val (.int p2), .val (.int p3), .val (.int p4), .val (.int ((p4 &&& (7 : Int32)) % (5 : Int32))), .unset, .unset, .unset, .unset, .unset, .unset] [(.int p1), (.int (1 : Int32)), (.ref a1), (.ref a1)])) (fun _ qk => XS.iloadN X3.here hx rfl (hb hby at_21) rfl qk) ?_
  refine own_static (W := 3) (argsL := [(.int p1)]) (st := [(.int (1 : Int32)), (.ref a1), (.ref a1)]) X3 hx hZ hown (own_w hw 1 rfl) (own_w hw 2 rfl) (own_w hw 3 rfl) (own_w hw 4 rfl) (by decide) e3 (own_back (W := 3) (rmDraw l Z a0 hw [] p1 h3) hZ (own_w hw 4 rfl) (own_w hw 3 rfl) (by decide) (by decide)) (by decide) (by decide) (by rw [hml]; rfl) (lenOf pd11 rfl) rfl (Nat.le_of_ble_eq_true rfl) (hb hby at_22) (fun v4 T4 L4 X4 hQ4 => ?_)
  obtain ⟨c1, rfl, hc1, rfl, hh4⟩ := hQ4
  rw [List.append_nil] at X4
  show own_G p e below _ (T4.setTop (mkF m 25 #[.val (.int p0), .val (.int p1), .val (.int p2), .val (.int p3), .val (.int p4), .val (.int ((p4 &&& (7 : Int32)) % (5 : Int32))), .unset, .unset, .unset, .unset, .unset, .unset] [(.int c1), (.int (1 : Int32)), (.ref a1), (.ref a1)]))
  refine own_stC X4 hx hZ hh4 V3s 1 (by decide) (by decide) (by decide) (Nat.le_of_ble_eq_true rfl) N3 (by omega) (hb hby at_25) (fun T5 h5 X5 e5 N5 W5 z5 V5 => ?_)
  have V5' : Arv Z h5 a1 k1 .char (4 : Int32) [.int c0, .int (nar .char c1), .int 0, .int 0] (.int 0) := V5
  show own_G p e below _ (T5.setTop (mkF m 26 #[.val (.int p0), .val (.int p1), .val (.int p2), .val (.int p3), .val (.int p4), .val (.int ((p4 &&& (7 : Int32)) % (5 : Int32))), .unset, .unset, .unset, .unset, .unset, .unset] [(.ref a1)]))
  have V5s : Arv Z h5 a1 k1 .char (4 : Int32) [.int c0, .int c1, .int 0, .int 0] (.int 0) := by have q := V5'; rw [own_narC hc1.1 hc1.2] at q; exact q
  have OL5 := OL3.wr W5 (by omega)
  refine own_step (b := T5.setTop (mkF m 27 #[.val (.int p0), .val (.int p1), .val (.int p2), .val (.int p3), .val (.int p4), .val (.int ((p4 &&& (7 : Int32)) % (5 : Int32))), .unset, .unset, .unset, .unset, .unset, .unset] [(.ref a1), (.ref a1)])) (fun _ qk => XS.dup X5.here hx rfl (hb hby at_26) rfl rfl qk) ?_
  refine own_step (b := T5.setTop (mkF m 28 #[.val (.int p0), .val (.int p1), .val (.int p2), .val (.int p3), .val (.int p4), .val (.int ((p4 &&& (7 : Int32)) % (5 : Int32))), .unset, .unset, .unset, .unset, .unset, .unset] [(.int (2 : Int32)), (.ref a1), (.ref a1)])) (fun _ qk => XS.iconst X5.here hx rfl (hb hby at_27) qk) ?_
  refine own_step (b := T5.setTop (mkF m 29 #[.val (.int p0), .val (.int p1), .val (.int p2), .val (.int p3), .val (.int p4), .val (.int ((p4 &&& (7 : Int32)) % (5 : Int32))), .unset, .unset, .unset, .unset, .unset, .unset] [(.int p2), (.int (2 : Int32)), (.ref a1), (.ref a1)])) (fun _ qk => XS.iloadN X5.here hx rfl (hb hby at_28) rfl qk) ?_
  refine own_static (W := 3) (argsL := [(.int p2)]) (st := [(.int (2 : Int32)), (.ref a1), (.ref a1)]) X5 hx hZ hown (own_w hw 1 rfl) (own_w hw 2 rfl) (own_w hw 3 rfl) (own_w hw 4 rfl) (by decide) e5 (own_back (W := 3) (rmDraw l Z a0 hw [] p2 h5) hZ (own_w hw 4 rfl) (own_w hw 3 rfl) (by decide) (by decide)) (by decide) (by decide) (by rw [hml]; rfl) (lenOf pd11 rfl) rfl (Nat.le_of_ble_eq_true rfl) (hb hby at_29) (fun v6 T6 L6 X6 hQ6 => ?_)
  obtain ⟨c2, rfl, hc2, rfl, hh6⟩ := hQ6
  rw [List.append_nil] at X6
  show own_G p e below _ (T6.setTop (mkF m 32 #[.val (.int p0), .val (.int p1), .val (.int p2), .val (.int p3), .val (.int p4), .val (.int ((p4 &&& (7 : Int32)) % (5 : Int32))), .unset, .unset, .unset, .unset, .unset, .unset] [(.int c2), (.int (2 : Int32)), (.ref a1), (.ref a1)]))
  refine own_stC X6 hx hZ hh6 V5s 2 (by decide) (by decide) (by decide) (Nat.le_of_ble_eq_true rfl) N5 (by omega) (hb hby at_32) (fun T7 h7 X7 e7 N7 W7 z7 V7 => ?_)
  have V7' : Arv Z h7 a1 k1 .char (4 : Int32) [.int c0, .int c1, .int (nar .char c2), .int 0] (.int 0) := V7
  show own_G p e below _ (T7.setTop (mkF m 33 #[.val (.int p0), .val (.int p1), .val (.int p2), .val (.int p3), .val (.int p4), .val (.int ((p4 &&& (7 : Int32)) % (5 : Int32))), .unset, .unset, .unset, .unset, .unset, .unset] [(.ref a1)]))
  have V7s : Arv Z h7 a1 k1 .char (4 : Int32) [.int c0, .int c1, .int c2, .int 0] (.int 0) := by have q := V7'; rw [own_narC hc2.1 hc2.2] at q; exact q
  have OL7 := OL5.wr W7 (by omega)
  refine own_step (b := T7.setTop (mkF m 34 #[.val (.int p0), .val (.int p1), .val (.int p2), .val (.int p3), .val (.int p4), .val (.int ((p4 &&& (7 : Int32)) % (5 : Int32))), .unset, .unset, .unset, .unset, .unset, .unset] [(.ref a1), (.ref a1)])) (fun _ qk => XS.dup X7.here hx rfl (hb hby at_33) rfl rfl qk) ?_
  refine own_step (b := T7.setTop (mkF m 35 #[.val (.int p0), .val (.int p1), .val (.int p2), .val (.int p3), .val (.int p4), .val (.int ((p4 &&& (7 : Int32)) % (5 : Int32))), .unset, .unset, .unset, .unset, .unset, .unset] [(.int (3 : Int32)), (.ref a1), (.ref a1)])) (fun _ qk => XS.iconst X7.here hx rfl (hb hby at_34) qk) ?_
  refine own_step (b := T7.setTop (mkF m 36 #[.val (.int p0), .val (.int p1), .val (.int p2), .val (.int p3), .val (.int p4), .val (.int ((p4 &&& (7 : Int32)) % (5 : Int32))), .unset, .unset, .unset, .unset, .unset, .unset] [(.int p3), (.int (3 : Int32)), (.ref a1), (.ref a1)])) (fun _ qk => XS.iloadN X7.here hx rfl (hb hby at_35) rfl qk) ?_
  refine own_static (W := 3) (argsL := [(.int p3)]) (st := [(.int (3 : Int32)), (.ref a1), (.ref a1)]) X7 hx hZ hown (own_w hw 1 rfl) (own_w hw 2 rfl) (own_w hw 3 rfl) (own_w hw 4 rfl) (by decide) e7 (own_back (W := 3) (rmDraw l Z a0 hw [] p3 h7) hZ (own_w hw 4 rfl) (own_w hw 3 rfl) (by decide) (by decide)) (by decide) (by decide) (by rw [hml]; rfl) (lenOf pd11 rfl) rfl (Nat.le_of_ble_eq_true rfl) (hb hby at_36) (fun v8 T8 L8 X8 hQ8 => ?_)
  obtain ⟨c3, rfl, hc3, rfl, hh8⟩ := hQ8
  rw [List.append_nil] at X8
  show own_G p e below _ (T8.setTop (mkF m 39 #[.val (.int p0), .val (.int p1), .val (.int p2), .val (.int p3), .val (.int p4), .val (.int ((p4 &&& (7 : Int32)) % (5 : Int32))), .unset, .unset, .unset, .unset, .unset, .unset] [(.int c3), (.int (3 : Int32)), (.ref a1), (.ref a1)]))
  refine own_stC X8 hx hZ hh8 V7s 3 (by decide) (by decide) (by decide) (Nat.le_of_ble_eq_true rfl) N7 (by omega) (hb hby at_39) (fun T9 h9 X9 e9 N9 W9 z9 V9 => ?_)
  have V9' : Arv Z h9 a1 k1 .char (4 : Int32) [.int c0, .int c1, .int c2, .int (nar .char c3)] (.int 0) := V9
  show own_G p e below _ (T9.setTop (mkF m 40 #[.val (.int p0), .val (.int p1), .val (.int p2), .val (.int p3), .val (.int p4), .val (.int ((p4 &&& (7 : Int32)) % (5 : Int32))), .unset, .unset, .unset, .unset, .unset, .unset] [(.ref a1)]))
  have V9s : Arv Z h9 a1 k1 .char (4 : Int32) [.int c0, .int c1, .int c2, .int c3] (.int 0) := by have q := V9'; rw [own_narC hc3.1 hc3.2] at q; exact q
  have OL9 := OL7.wr W9 (by omega)
  refine own_step (b := T9.setTop (mkF m 42 #[.val (.int p0), .val (.int p1), .val (.int p2), .val (.int p3), .val (.int p4), .val (.int ((p4 &&& (7 : Int32)) % (5 : Int32))), .val (.ref a1), .unset, .unset, .unset, .unset, .unset] [])) (fun _ qk => XS.astore X9.here hx rfl (hb hby at_40) rfl rfl (l' := #[.val (.int p0), .val (.int p1), .val (.int p2), .val (.int p3), .val (.int p4), .val (.int ((p4 &&& (7 : Int32)) % (5 : Int32))), .val (.ref a1), .unset, .unset, .unset, .unset, .unset]) rfl qk) ?_
  have la : @LT.lt Nat instLTNat a1 h9.size := V9s.lt
  have J : ∀ (T : State) (vm1 : Vm) (kq : Nat) (locs : List Loc) (r tx : Addr) (n1 : Int32) (sq en : Nat) (ls : List Int32), Stand p l e room_1 (s.setVm vm1) m #[(.int p0), (.int p1), (.int p2), (.int p3), (.int p4)] below meth c T locs 12 100 → s.Since vm1 kq → kq ≤ T.heap.size → Z.Warmed39 (s.setVm vm1).vm → (s.setVm vm1).vm.findClass "com/example/pennant/pennant/TrlStripBlanksPinLaw" = some m.cls → Fr Z.heap.size locs → Old Z Z.heap.size T.heap → Arv Z T.heap a1 k1 .char (4 : Int32) [.int c0, .int c1, .int c2, .int c3] (.int 0) → own_Str Z T.heap r ls → sq ≤ en → en ≤ 4 → ls.length = en - sq → (∀ q, q < ls.length → ls.getD q 0 = ([c0, c1, c2, c3] : List Int32).getD (sq + q) 0) → own_G p e below (own_FI s (fun v vm h L => v = some (.int 1) ∧ Fr Z.heap.size L) room_1.cells room_1.slots) (T.setTop (mkF m 342 #[.val (.int p0), .val (.int p1), .val (.int p2), .val (.int p3), .val (.int p4), .val (.int n1), .val (.ref a1), .val (.ref tx), .val (.ref r), .val (.int (Int32.ofNat sq)), .val (.int (Int32.ofNat en)), .unset] [])) := by
    intro T vm1 kq locs r tx n1 sq en ls X hS hk hZ hown N OL V SS h1 h2 hll hat
    show own_G p e below _ (T.setTop (mkF m 342 #[.val (.int p0), .val (.int p1), .val (.int p2), .val (.int p3), .val (.int p4), .val (.int n1), .val (.ref a1), .val (.ref tx), .val (.ref r), .val (.int (Int32.ofNat sq)), .val (.int (Int32.ofNat en)), .unset] []))
    refine own_step (b := T.setTop (mkF m 344 #[.val (.int p0), .val (.int p1), .val (.int p2), .val (.int p3), .val (.int p4), .val (.int n1), .val (.ref a1), .val (.ref tx), .val (.ref r), .val (.int (Int32.ofNat sq)), .val (.int (Int32.ofNat en)), .unset] [(.int (Int32.ofNat en))])) (fun _ qk => XS.iload X.here hx rfl (hb hby at_342) rfl qk) ?_
    refine own_step (b := T.setTop (mkF m 346 #[.val (.int p0), .val (.int p1), .val (.int p2), .val (.int p3), .val (.int p4), .val (.int n1), .val (.ref a1), .val (.ref tx), .val (.ref r), .val (.int (Int32.ofNat sq)), .val (.int (Int32.ofNat en)), .unset] [(.int (Int32.ofNat sq)), (.int (Int32.ofNat en))])) (fun _ qk => XS.iload X.here hx rfl (hb hby at_344) rfl qk) ?_
    refine own_step (b := T.setTop (mkF m 347 #[.val (.int p0), .val (.int p1), .val (.int p2), .val (.int p3), .val (.int p4), .val (.int n1), .val (.ref a1), .val (.ref tx), .val (.ref r), .val (.int (Int32.ofNat sq)), .val (.int (Int32.ofNat en)), .unset] [(.int ((Int32.ofNat en) - (Int32.ofNat sq)))])) (fun _ qk => XS.isub X.here hx rfl (hb hby at_346) rfl qk) ?_
    rw [own_ofNat_sub h1 (by omega), ← hll]
    show own_G p e below _ (T.setTop (mkF m 347 #[.val (.int p0), .val (.int p1), .val (.int p2), .val (.int p3), .val (.int p4), .val (.int n1), .val (.ref a1), .val (.ref tx), .val (.ref r), .val (.int (Int32.ofNat sq)), .val (.int (Int32.ofNat en)), .unset] [(.int (Int32.ofNat ls.length))]))
    refine own_step (b := T.setTop (mkF m 349 #[.val (.int p0), .val (.int p1), .val (.int p2), .val (.int p3), .val (.int p4), .val (.int n1), .val (.ref a1), .val (.ref tx), .val (.ref r), .val (.int (Int32.ofNat sq)), .val (.int (Int32.ofNat en)), .val (.int (Int32.ofNat ls.length))] [])) (fun _ qk => XS.istore X.here hx rfl (hb hby at_347) rfl (l' := #[.val (.int p0), .val (.int p1), .val (.int p2), .val (.int p3), .val (.int p4), .val (.int n1), .val (.ref a1), .val (.ref tx), .val (.ref r), .val (.int (Int32.ofNat sq)), .val (.int (Int32.ofNat en)), .val (.int (Int32.ofNat ls.length))]) rfl qk) ?_
    refine own_step (b := T.setTop (mkF m 351 #[.val (.int p0), .val (.int p1), .val (.int p2), .val (.int p3), .val (.int p4), .val (.int n1), .val (.ref a1), .val (.ref tx), .val (.ref r), .val (.int (Int32.ofNat sq)), .val (.int (Int32.ofNat en)), .val (.int (Int32.ofNat ls.length))] [(.ref r)])) (fun _ qk => XS.aload X.here hx rfl (hb hby at_349) rfl rfl qk) ?_
    refine own_virtual (a := r) (W := 0) (argsL := []) (st := []) X hx hZ hown (own_w hw 58 rfl) (own_w hw 31 rfl) (own_w hw 33 rfl) rfl (own_w hw 32 rfl) (by decide) rfl SS.1 (own_lenB (W := 0) hZ hw (kI := 4) (own_w hw 6 rfl) SS O2 P5 OL (r := Int32.ofNat ls.length) rfl (by decide) (by decide)) (by decide) (by decide) (by rw [hml]; rfl) (lenOf pd6 rfl) rfl (Nat.le_of_ble_eq_true rfl) (hb hby at_351) (fun v10 T10 L10 X10 hQ10 => ?_)
    obtain ⟨rfl, rfl, hh10⟩ := hQ10
    rw [List.append_nil] at X10
    show own_G p e below _ (T10.setTop (mkF m 354 #[.val (.int p0), .val (.int p1), .val (.int p2), .val (.int p3), .val (.int p4), .val (.int n1), .val (.ref a1), .val (.ref tx), .val (.ref r), .val (.int (Int32.ofNat sq)), .val (.int (Int32.ofNat en)), .val (.int (Int32.ofNat ls.length))] [(.int (Int32.ofNat ls.length))]))
    refine own_step (b := T10.setTop (mkF m 356 #[.val (.int p0), .val (.int p1), .val (.int p2), .val (.int p3), .val (.int p4), .val (.int n1), .val (.ref a1), .val (.ref tx), .val (.ref r), .val (.int (Int32.ofNat sq)), .val (.int (Int32.ofNat en)), .val (.int (Int32.ofNat ls.length))] [(.int (Int32.ofNat ls.length)), (.int (Int32.ofNat ls.length))])) (fun _ qk => XS.iload X10.here hx rfl (hb hby at_354) rfl qk) ?_
    refine own_icmp_ne X10 hx (hb hby at_356) (pc' := 423) (by decide) (by decide) (fun c356 => absurd rfl c356) (fun c356 => ?_)
    show own_G p e below _ (T10.setTop (mkF m 359 #[.val (.int p0), .val (.int p1), .val (.int p2), .val (.int p3), .val (.int p4), .val (.int n1), .val (.ref a1), .val (.ref tx), .val (.ref r), .val (.int (Int32.ofNat sq)), .val (.int (Int32.ofNat en)), .val (.int (Int32.ofNat ls.length))] []))
    refine own_step (b := T10.setTop (mkF m 361 #[.val (.int p0), .val (.int p1), .val (.int p2), .val (.int p3), .val (.int p4), .val (.int n1), .val (.ref a1), .val (.ref tx), .val (.ref r), .val (.int (Int32.ofNat sq)), .val (.int (Int32.ofNat en)), .val (.int (Int32.ofNat ls.length))] [(.ref r)])) (fun _ qk => XS.aload X10.here hx rfl (hb hby at_359) rfl rfl qk) ?_
    refine own_step (b := T10.setTop (mkF m 362 #[.val (.int p0), .val (.int p1), .val (.int p2), .val (.int p3), .val (.int p4), .val (.int n1), .val (.ref a1), .val (.ref tx), .val (.ref r), .val (.int (Int32.ofNat sq)), .val (.int (Int32.ofNat en)), .val (.int (Int32.ofNat ls.length))] [(.int (0 : Int32)), (.ref r)])) (fun _ qk => XS.iconst X10.here hx rfl (hb hby at_361) qk) ?_
    refine own_step (b := T10.setTop (mkF m 364 #[.val (.int p0), .val (.int p1), .val (.int p2), .val (.int p3), .val (.int p4), .val (.int n1), .val (.ref a1), .val (.ref tx), .val (.ref r), .val (.int (Int32.ofNat sq)), .val (.int (Int32.ofNat en)), .val (.int (Int32.ofNat ls.length))] [(.int (Int32.ofNat ls.length)), (.int (0 : Int32)), (.ref r)])) (fun _ qk => XS.iload X10.here hx rfl (hb hby at_362) rfl qk) ?_
    refine own_step (b := T10.setTop (mkF m 366 #[.val (.int p0), .val (.int p1), .val (.int p2), .val (.int p3), .val (.int p4), .val (.int n1), .val (.ref a1), .val (.ref tx), .val (.ref r), .val (.int (Int32.ofNat sq)), .val (.int (Int32.ofNat en)), .val (.int (Int32.ofNat ls.length))] [(.ref a1), (.int (Int32.ofNat ls.length)), (.int (0 : Int32)), (.ref r)])) (fun _ qk => XS.aload X10.here hx rfl (hb hby at_364) rfl rfl qk) ?_
    refine own_step (b := T10.setTop (mkF m 368 #[.val (.int p0), .val (.int p1), .val (.int p2), .val (.int p3), .val (.int p4), .val (.int n1), .val (.ref a1), .val (.ref tx), .val (.ref r), .val (.int (Int32.ofNat sq)), .val (.int (Int32.ofNat en)), .val (.int (Int32.ofNat ls.length))] [(.int (Int32.ofNat sq)), (.ref a1), (.int (Int32.ofNat ls.length)), (.int (0 : Int32)), (.ref r)])) (fun _ qk => XS.iload X10.here hx rfl (hb hby at_366) rfl qk) ?_
    refine own_staticP (W := 0) (argsL := [(.ref r), (.int (0 : Int32)), (.int (Int32.ofNat ls.length)), (.ref a1), (.int (Int32.ofNat sq))]) (st := []) X10 hx hZ hown (own_w hw 59 rfl) (own_w hw 60 rfl) (own_w hw 3 rfl) (own_w hw 61 rfl) (by decide) hh10 (rmAt l Z a0 hw [] r a1 k1 0 sq ls c0 c1 c2 c3 T.heap SS V (by decide) (by omega) (fun q => ⟨hat 0 q, by omega⟩) OL G1 O2 P5 G3 O4 rG3) (by decide) (by decide) (by decide) (by decide) (by rw [hml]; rfl) (lenOf pd13 rfl) rfl (Nat.le_of_ble_eq_true rfl) (hb hby at_368) (fun T11 X11 e11 => ?_)
    show own_G p e below _ (T11.setTop (mkF m 371 #[.val (.int p0), .val (.int p1), .val (.int p2), .val (.int p3), .val (.int p4), .val (.int n1), .val (.ref a1), .val (.ref tx), .val (.ref r), .val (.int (Int32.ofNat sq)), .val (.int (Int32.ofNat en)), .val (.int (Int32.ofNat ls.length))] [(.int (1 : Int32))]))
    refine own_if_eq X11 hx (hb hby at_371) (pc' := 423) (by decide) (by decide) (fun c371_12 => absurd c371_12 (by decide)) (fun c371_12 => ?_)
    show own_G p e below _ (T11.setTop (mkF m 374 #[.val (.int p0), .val (.int p1), .val (.int p2), .val (.int p3), .val (.int p4), .val (.int n1), .val (.ref a1), .val (.ref tx), .val (.ref r), .val (.int (Int32.ofNat sq)), .val (.int (Int32.ofNat en)), .val (.int (Int32.ofNat ls.length))] []))
    refine own_step (b := T11.setTop (mkF m 376 #[.val (.int p0), .val (.int p1), .val (.int p2), .val (.int p3), .val (.int p4), .val (.int n1), .val (.ref a1), .val (.ref tx), .val (.ref r), .val (.int (Int32.ofNat sq)), .val (.int (Int32.ofNat en)), .val (.int (Int32.ofNat ls.length))] [(.ref r)])) (fun _ qk => XS.aload X11.here hx rfl (hb hby at_374) rfl rfl qk) ?_
    refine own_step (b := T11.setTop (mkF m 377 #[.val (.int p0), .val (.int p1), .val (.int p2), .val (.int p3), .val (.int p4), .val (.int n1), .val (.ref a1), .val (.ref tx), .val (.ref r), .val (.int (Int32.ofNat sq)), .val (.int (Int32.ofNat en)), .val (.int (Int32.ofNat ls.length))] [(.int (1 : Int32)), (.ref r)])) (fun _ qk => XS.iconst X11.here hx rfl (hb hby at_376) qk) ?_
    refine own_step (b := T11.setTop (mkF m 379 #[.val (.int p0), .val (.int p1), .val (.int p2), .val (.int p3), .val (.int p4), .val (.int n1), .val (.ref a1), .val (.ref tx), .val (.ref r), .val (.int (Int32.ofNat sq)), .val (.int (Int32.ofNat en)), .val (.int (Int32.ofNat ls.length))] [(.int (Int32.ofNat ls.length)), (.int (1 : Int32)), (.ref r)])) (fun _ qk => XS.iload X11.here hx rfl (hb hby at_377) rfl qk) ?_
    refine own_step (b := T11.setTop (mkF m 381 #[.val (.int p0), .val (.int p1), .val (.int p2), .val (.int p3), .val (.int p4), .val (.int n1), .val (.ref a1), .val (.ref tx), .val (.ref r), .val (.int (Int32.ofNat sq)), .val (.int (Int32.ofNat en)), .val (.int (Int32.ofNat ls.length))] [(.ref a1), (.int (Int32.ofNat ls.length)), (.int (1 : Int32)), (.ref r)])) (fun _ qk => XS.aload X11.here hx rfl (hb hby at_379) rfl rfl qk) ?_
    refine own_step (b := T11.setTop (mkF m 383 #[.val (.int p0), .val (.int p1), .val (.int p2), .val (.int p3), .val (.int p4), .val (.int n1), .val (.ref a1), .val (.ref tx), .val (.ref r), .val (.int (Int32.ofNat sq)), .val (.int (Int32.ofNat en)), .val (.int (Int32.ofNat ls.length))] [(.int (Int32.ofNat sq)), (.ref a1), (.int (Int32.ofNat ls.length)), (.int (1 : Int32)), (.ref r)])) (fun _ qk => XS.iload X11.here hx rfl (hb hby at_381) rfl qk) ?_
    refine own_staticP (W := 0) (argsL := [(.ref r), (.int (1 : Int32)), (.int (Int32.ofNat ls.length)), (.ref a1), (.int (Int32.ofNat sq))]) (st := []) X11 hx hZ hown (own_w hw 59 rfl) (own_w hw 60 rfl) (own_w hw 3 rfl) (own_w hw 61 rfl) (by decide) e11 (rmAt l Z a0 hw [] r a1 k1 1 sq ls c0 c1 c2 c3 T.heap SS V (by decide) (by omega) (fun q => ⟨hat 1 q, by omega⟩) OL G1 O2 P5 G3 O4 rG3) (by decide) (by decide) (by decide) (by decide) (by rw [hml]; rfl) (lenOf pd13 rfl) rfl (Nat.le_of_ble_eq_true rfl) (hb hby at_383) (fun T13 X13 e13 => ?_)
    show own_G p e below _ (T13.setTop (mkF m 386 #[.val (.int p0), .val (.int p1), .val (.int p2), .val (.int p3), .val (.int p4), .val (.int n1), .val (.ref a1), .val (.ref tx), .val (.ref r), .val (.int (Int32.ofNat sq)), .val (.int (Int32.ofNat en)), .val (.int (Int32.ofNat ls.length))] [(.int (1 : Int32))]))
    refine own_if_eq X13 hx (hb hby at_386) (pc' := 423) (by decide) (by decide) (fun c386_14 => absurd c386_14 (by decide)) (fun c386_14 => ?_)
    show own_G p e below _ (T13.setTop (mkF m 389 #[.val (.int p0), .val (.int p1), .val (.int p2), .val (.int p3), .val (.int p4), .val (.int n1), .val (.ref a1), .val (.ref tx), .val (.ref r), .val (.int (Int32.ofNat sq)), .val (.int (Int32.ofNat en)), .val (.int (Int32.ofNat ls.length))] []))
    refine own_step (b := T13.setTop (mkF m 391 #[.val (.int p0), .val (.int p1), .val (.int p2), .val (.int p3), .val (.int p4), .val (.int n1), .val (.ref a1), .val (.ref tx), .val (.ref r), .val (.int (Int32.ofNat sq)), .val (.int (Int32.ofNat en)), .val (.int (Int32.ofNat ls.length))] [(.ref r)])) (fun _ qk => XS.aload X13.here hx rfl (hb hby at_389) rfl rfl qk) ?_
    refine own_step (b := T13.setTop (mkF m 392 #[.val (.int p0), .val (.int p1), .val (.int p2), .val (.int p3), .val (.int p4), .val (.int n1), .val (.ref a1), .val (.ref tx), .val (.ref r), .val (.int (Int32.ofNat sq)), .val (.int (Int32.ofNat en)), .val (.int (Int32.ofNat ls.length))] [(.int (2 : Int32)), (.ref r)])) (fun _ qk => XS.iconst X13.here hx rfl (hb hby at_391) qk) ?_
    refine own_step (b := T13.setTop (mkF m 394 #[.val (.int p0), .val (.int p1), .val (.int p2), .val (.int p3), .val (.int p4), .val (.int n1), .val (.ref a1), .val (.ref tx), .val (.ref r), .val (.int (Int32.ofNat sq)), .val (.int (Int32.ofNat en)), .val (.int (Int32.ofNat ls.length))] [(.int (Int32.ofNat ls.length)), (.int (2 : Int32)), (.ref r)])) (fun _ qk => XS.iload X13.here hx rfl (hb hby at_392) rfl qk) ?_
    refine own_step (b := T13.setTop (mkF m 396 #[.val (.int p0), .val (.int p1), .val (.int p2), .val (.int p3), .val (.int p4), .val (.int n1), .val (.ref a1), .val (.ref tx), .val (.ref r), .val (.int (Int32.ofNat sq)), .val (.int (Int32.ofNat en)), .val (.int (Int32.ofNat ls.length))] [(.ref a1), (.int (Int32.ofNat ls.length)), (.int (2 : Int32)), (.ref r)])) (fun _ qk => XS.aload X13.here hx rfl (hb hby at_394) rfl rfl qk) ?_
    refine own_step (b := T13.setTop (mkF m 398 #[.val (.int p0), .val (.int p1), .val (.int p2), .val (.int p3), .val (.int p4), .val (.int n1), .val (.ref a1), .val (.ref tx), .val (.ref r), .val (.int (Int32.ofNat sq)), .val (.int (Int32.ofNat en)), .val (.int (Int32.ofNat ls.length))] [(.int (Int32.ofNat sq)), (.ref a1), (.int (Int32.ofNat ls.length)), (.int (2 : Int32)), (.ref r)])) (fun _ qk => XS.iload X13.here hx rfl (hb hby at_396) rfl qk) ?_
    refine own_staticP (W := 0) (argsL := [(.ref r), (.int (2 : Int32)), (.int (Int32.ofNat ls.length)), (.ref a1), (.int (Int32.ofNat sq))]) (st := []) X13 hx hZ hown (own_w hw 59 rfl) (own_w hw 60 rfl) (own_w hw 3 rfl) (own_w hw 61 rfl) (by decide) e13 (rmAt l Z a0 hw [] r a1 k1 2 sq ls c0 c1 c2 c3 T.heap SS V (by decide) (by omega) (fun q => ⟨hat 2 q, by omega⟩) OL G1 O2 P5 G3 O4 rG3) (by decide) (by decide) (by decide) (by decide) (by rw [hml]; rfl) (lenOf pd13 rfl) rfl (Nat.le_of_ble_eq_true rfl) (hb hby at_398) (fun T15 X15 e15 => ?_)
    show own_G p e below _ (T15.setTop (mkF m 401 #[.val (.int p0), .val (.int p1), .val (.int p2), .val (.int p3), .val (.int p4), .val (.int n1), .val (.ref a1), .val (.ref tx), .val (.ref r), .val (.int (Int32.ofNat sq)), .val (.int (Int32.ofNat en)), .val (.int (Int32.ofNat ls.length))] [(.int (1 : Int32))]))
    refine own_if_eq X15 hx (hb hby at_401) (pc' := 423) (by decide) (by decide) (fun c401_16 => absurd c401_16 (by decide)) (fun c401_16 => ?_)
    show own_G p e below _ (T15.setTop (mkF m 404 #[.val (.int p0), .val (.int p1), .val (.int p2), .val (.int p3), .val (.int p4), .val (.int n1), .val (.ref a1), .val (.ref tx), .val (.ref r), .val (.int (Int32.ofNat sq)), .val (.int (Int32.ofNat en)), .val (.int (Int32.ofNat ls.length))] []))
    refine own_step (b := T15.setTop (mkF m 406 #[.val (.int p0), .val (.int p1), .val (.int p2), .val (.int p3), .val (.int p4), .val (.int n1), .val (.ref a1), .val (.ref tx), .val (.ref r), .val (.int (Int32.ofNat sq)), .val (.int (Int32.ofNat en)), .val (.int (Int32.ofNat ls.length))] [(.ref r)])) (fun _ qk => XS.aload X15.here hx rfl (hb hby at_404) rfl rfl qk) ?_
    refine own_step (b := T15.setTop (mkF m 407 #[.val (.int p0), .val (.int p1), .val (.int p2), .val (.int p3), .val (.int p4), .val (.int n1), .val (.ref a1), .val (.ref tx), .val (.ref r), .val (.int (Int32.ofNat sq)), .val (.int (Int32.ofNat en)), .val (.int (Int32.ofNat ls.length))] [(.int (3 : Int32)), (.ref r)])) (fun _ qk => XS.iconst X15.here hx rfl (hb hby at_406) qk) ?_
    refine own_step (b := T15.setTop (mkF m 409 #[.val (.int p0), .val (.int p1), .val (.int p2), .val (.int p3), .val (.int p4), .val (.int n1), .val (.ref a1), .val (.ref tx), .val (.ref r), .val (.int (Int32.ofNat sq)), .val (.int (Int32.ofNat en)), .val (.int (Int32.ofNat ls.length))] [(.int (Int32.ofNat ls.length)), (.int (3 : Int32)), (.ref r)])) (fun _ qk => XS.iload X15.here hx rfl (hb hby at_407) rfl qk) ?_
    refine own_step (b := T15.setTop (mkF m 411 #[.val (.int p0), .val (.int p1), .val (.int p2), .val (.int p3), .val (.int p4), .val (.int n1), .val (.ref a1), .val (.ref tx), .val (.ref r), .val (.int (Int32.ofNat sq)), .val (.int (Int32.ofNat en)), .val (.int (Int32.ofNat ls.length))] [(.ref a1), (.int (Int32.ofNat ls.length)), (.int (3 : Int32)), (.ref r)])) (fun _ qk => XS.aload X15.here hx rfl (hb hby at_409) rfl rfl qk) ?_
    refine own_step (b := T15.setTop (mkF m 413 #[.val (.int p0), .val (.int p1), .val (.int p2), .val (.int p3), .val (.int p4), .val (.int n1), .val (.ref a1), .val (.ref tx), .val (.ref r), .val (.int (Int32.ofNat sq)), .val (.int (Int32.ofNat en)), .val (.int (Int32.ofNat ls.length))] [(.int (Int32.ofNat sq)), (.ref a1), (.int (Int32.ofNat ls.length)), (.int (3 : Int32)), (.ref r)])) (fun _ qk => XS.iload X15.here hx rfl (hb hby at_411) rfl qk) ?_
    refine own_staticP (W := 0) (argsL := [(.ref r), (.int (3 : Int32)), (.int (Int32.ofNat ls.length)), (.ref a1), (.int (Int32.ofNat sq))]) (st := []) X15 hx hZ hown (own_w hw 59 rfl) (own_w hw 60 rfl) (own_w hw 3 rfl) (own_w hw 61 rfl) (by decide) e15 (rmAt l Z a0 hw [] r a1 k1 3 sq ls c0 c1 c2 c3 T.heap SS V (by decide) (by omega) (fun q => ⟨hat 3 q, by omega⟩) OL G1 O2 P5 G3 O4 rG3) (by decide) (by decide) (by decide) (by decide) (by rw [hml]; rfl) (lenOf pd13 rfl) rfl (Nat.le_of_ble_eq_true rfl) (hb hby at_413) (fun T17 X17 e17 => ?_)
    show own_G p e below _ (T17.setTop (mkF m 416 #[.val (.int p0), .val (.int p1), .val (.int p2), .val (.int p3), .val (.int p4), .val (.int n1), .val (.ref a1), .val (.ref tx), .val (.ref r), .val (.int (Int32.ofNat sq)), .val (.int (Int32.ofNat en)), .val (.int (Int32.ofNat ls.length))] [(.int (1 : Int32))]))
    refine own_if_eq X17 hx (hb hby at_416) (pc' := 423) (by decide) (by decide) (fun c416_18 => absurd c416_18 (by decide)) (fun c416_18 => ?_)
    show own_G p e below _ (T17.setTop (mkF m 419 #[.val (.int p0), .val (.int p1), .val (.int p2), .val (.int p3), .val (.int p4), .val (.int n1), .val (.ref a1), .val (.ref tx), .val (.ref r), .val (.int (Int32.ofNat sq)), .val (.int (Int32.ofNat en)), .val (.int (Int32.ofNat ls.length))] []))
    refine own_step (b := T17.setTop (mkF m 420 #[.val (.int p0), .val (.int p1), .val (.int p2), .val (.int p3), .val (.int p4), .val (.int n1), .val (.ref a1), .val (.ref tx), .val (.ref r), .val (.int (Int32.ofNat sq)), .val (.int (Int32.ofNat en)), .val (.int (Int32.ofNat ls.length))] [(.int (1 : Int32))])) (fun _ qk => XS.iconst X17.here hx rfl (hb hby at_419) qk) ?_
    refine own_step (b := T17.setTop (mkF m 424 #[.val (.int p0), .val (.int p1), .val (.int p2), .val (.int p3), .val (.int p4), .val (.int n1), .val (.ref a1), .val (.ref tx), .val (.ref r), .val (.int (Int32.ofNat sq)), .val (.int (Int32.ofNat en)), .val (.int (Int32.ofNat ls.length))] [(.int (1 : Int32))])) (fun _ qk => XS.goto X17.here hx rfl (pc0 := 420) (pc' := 424) rfl (hb hby at_420) (by decide) (by decide) qk) ?_
    exact own_retXN X17 hx hS (by rw [show T17.heap = T.heap from e17]; omega) hret (by simp) hlk (hb hby at_424) ⟨rfl, N⟩ (by decide) (by decide)
  show own_G p e below _ (T9.setTop (mkF m 42 #[.val (.int p0), .val (.int p1), .val (.int p2), .val (.int p3), .val (.int p4), .val (.int ((p4 &&& (7 : Int32)) % (5 : Int32))), .val (.ref a1), .unset, .unset, .unset, .unset, .unset] []))
  have hcase := own_and7 p4
  generalize ((p4 &&& (7 : Int32)) % (5 : Int32)) = n1 at hcase ⊢
  rcases hcase with rfl | rfl | rfl | rfl | rfl
  · show own_G p e below _ (T9.setTop (mkF m 42 #[.val (.int p0), .val (.int p1), .val (.int p2), .val (.int p3), .val (.int p4), .val (.int (0 : Int32)), .val (.ref a1), .unset, .unset, .unset, .unset, .unset] []))
    show own_G p e below _ (T9.setTop (mkF m 42 #[.val (.int p0), .val (.int p1), .val (.int p2), .val (.int p3), .val (.int p4), .val (.int (0 : Int32)), .val (.ref a1), .unset, .unset, .unset, .unset, .unset] []))
    refine own_step (b := T9.setTop (mkF m 44 #[.val (.int p0), .val (.int p1), .val (.int p2), .val (.int p3), .val (.int p4), .val (.int (0 : Int32)), .val (.ref a1), .unset, .unset, .unset, .unset, .unset] [(.int (0 : Int32))])) (fun _ qk => XS.iload X9.here hx rfl (hb hby at_42) rfl qk) ?_
    refine own_if_ne X9 hx (hb hby at_44) (pc' := 62) (by decide) (by decide) (fun c44_19 => absurd c44_19 (by decide)) (fun c44_19 => ?_)
    show own_G p e below _ (T9.setTop (mkF m 47 #[.val (.int p0), .val (.int p1), .val (.int p2), .val (.int p3), .val (.int p4), .val (.int (0 : Int32)), .val (.ref a1), .unset, .unset, .unset, .unset, .unset] []))
    refine own_newO X9 hx hZ hown (own_w hw 5 rfl) (own_w hw 6 rfl) (own_w hw 7 rfl) e9 (hb hby at_47) (by decide) (by decide) (fun T20 h20 a20 X20 e20 g20 l20 E20 A20 D20 => ?_)
    show own_G p e below _ (T20.setTop (mkF m 50 #[.val (.int p0), .val (.int p1), .val (.int p2), .val (.int p3), .val (.int p4), .val (.int (0 : Int32)), .val (.ref a1), .unset, .unset, .unset, .unset, .unset] [(.ref a20)]))
    have OL20 := OL9.ext E20
    refine own_step (b := T20.setTop (mkF m 51 #[.val (.int p0), .val (.int p1), .val (.int p2), .val (.int p3), .val (.int p4), .val (.int (0 : Int32)), .val (.ref a1), .unset, .unset, .unset, .unset, .unset] [(.ref a20), (.ref a20)])) (fun _ qk => XS.dup X20.here hx rfl (hb hby at_50) rfl rfl qk) ?_
    refine own_step (b := T20.setTop (mkF m 52 #[.val (.int p0), .val (.int p1), .val (.int p2), .val (.int p3), .val (.int p4), .val (.int (0 : Int32)), .val (.ref a1), .unset, .unset, .unset, .unset, .unset] [(.int (0 : Int32)), (.ref a20), (.ref a20)])) (fun _ qk => XS.iconst X20.here hx rfl (hb hby at_51) qk) ?_
    refine own_newP X20 hx hZ (own_w hw 0 rfl) e20 (hb hby at_52) (n := (0 : Int32)) (by decide) 0 (by decide) (by decide) (by decide) (by decide) (fun T21 h21 a21 k21 X21 e21 g21 l21 E21 V21 => ?_)
    have V21' : Arv Z h21 a21 k21 .char (0 : Int32) [] (.int 0) := V21
    show own_G p e below _ (T21.setTop (mkF m 54 #[.val (.int p0), .val (.int p1), .val (.int p2), .val (.int p3), .val (.int p4), .val (.int (0 : Int32)), .val (.ref a1), .unset, .unset, .unset, .unset, .unset] [(.ref a21), (.ref a20), (.ref a20)]))
    have OL21 := OL20.ext E21
    refine own_specialI (a := a20) (W := 1) (argsL := [(.ref a21)]) (st := [(.ref a20)]) X21 hx hZ hown rfl (own_w hw 8 rfl) (own_w hw 9 rfl) (own_w hw 10 rfl) (own_w hw 7 rfl) (by decide) e21 hS (by omega) (rmOut l Z a0 hw [] a20 a21 h21 (by omega) (A20.ext E21) ((D20 (Or.inr (own_w hw 20 rfl)) (ty := (.array .byte)) (by decide)).ext E21) ((D20 (Or.inr (own_w hw 21 rfl)) (ty := .byte) (by decide)).ext E21) OL21 CH HC k21 V21') (fun _ hW => own_IBw hI hW) (by decide) (by decide) (by decide) (by decide) (by rw [hml]; rfl) (lenOf pd14 rfl) rfl (Nat.le_of_ble_eq_true rfl) (hb hby at_54) (fun v22 T22 L22 vm22 k22 X22 ev22 z22 hS hk hZ hown hQ22 => ?_)
    obtain ⟨rfl, M22, K22, SS22⟩ := hQ22
    have N22 := Fr.app N9 M22
    have OL22 := OL21.keep K22 (allS (by omega) all0)
    have VA22 := ((V9s.ext E20).ext E21).keep K22 (ninS (own_ne (by omega)) nin0)
    show own_G p e below _ (T22.setTop (mkF m 57 #[.val (.int p0), .val (.int p1), .val (.int p2), .val (.int p3), .val (.int p4), .val (.int (0 : Int32)), .val (.ref a1), .unset, .unset, .unset, .unset, .unset] [(.ref a20)]))
    refine own_step (b := T22.setTop (mkF m 59 #[.val (.int p0), .val (.int p1), .val (.int p2), .val (.int p3), .val (.int p4), .val (.int (0 : Int32)), .val (.ref a1), .val (.ref a20), .unset, .unset, .unset, .unset] [])) (fun _ qk => XS.astore X22.here hx rfl (hb hby at_57) rfl rfl (l' := #[.val (.int p0), .val (.int p1), .val (.int p2), .val (.int p3), .val (.int p4), .val (.int (0 : Int32)), .val (.ref a1), .val (.ref a20), .unset, .unset, .unset, .unset]) rfl qk) ?_
    refine own_step (b := T22.setTop (mkF m 207 #[.val (.int p0), .val (.int p1), .val (.int p2), .val (.int p3), .val (.int p4), .val (.int (0 : Int32)), .val (.ref a1), .val (.ref a20), .unset, .unset, .unset, .unset] [])) (fun _ qk => XS.goto X22.here hx rfl (pc0 := 59) (pc' := 207) rfl (hb hby at_59) (by decide) (by decide) qk) ?_
    refine own_step (b := T22.setTop (mkF m 209 #[.val (.int p0), .val (.int p1), .val (.int p2), .val (.int p3), .val (.int p4), .val (.int (0 : Int32)), .val (.ref a1), .val (.ref a20), .unset, .unset, .unset, .unset] [(.ref a20)])) (fun _ qk => XS.aload X22.here hx rfl (hb hby at_207) rfl rfl qk) ?_
    refine own_staticP (W := 0) (argsL := [(.ref a20)]) (st := []) X22 hx hZ hown (own_w hw 26 rfl) (own_w hw 27 rfl) (own_w hw 28 rfl) (own_w hw 29 rfl) (by decide) rfl (rmStrip0 l Z a0 hw [] a20 T22.heap SS22 OL22 G1 O2 P5 G3 O4 rG3) (by decide) (by decide) (by decide) (by decide) (by rw [hml]; rfl) (lenOf pd15 rfl) rfl (Nat.le_of_ble_eq_true rfl) (hb hby at_209) (fun T23 X23 e23 => ?_)
    show own_G p e below _ (T23.setTop (mkF m 212 #[.val (.int p0), .val (.int p1), .val (.int p2), .val (.int p3), .val (.int p4), .val (.int (0 : Int32)), .val (.ref a1), .val (.ref a20), .unset, .unset, .unset, .unset] [(.ref a20)]))
    refine own_step (b := T23.setTop (mkF m 214 #[.val (.int p0), .val (.int p1), .val (.int p2), .val (.int p3), .val (.int p4), .val (.int (0 : Int32)), .val (.ref a1), .val (.ref a20), .val (.ref a20), .unset, .unset, .unset] [])) (fun _ qk => XS.astore X23.here hx rfl (hb hby at_212) rfl rfl (l' := #[.val (.int p0), .val (.int p1), .val (.int p2), .val (.int p3), .val (.int p4), .val (.int (0 : Int32)), .val (.ref a1), .val (.ref a20), .val (.ref a20), .unset, .unset, .unset]) rfl qk) ?_
    refine own_step (b := T23.setTop (mkF m 216 #[.val (.int p0), .val (.int p1), .val (.int p2), .val (.int p3), .val (.int p4), .val (.int (0 : Int32)), .val (.ref a1), .val (.ref a20), .val (.ref a20), .unset, .unset, .unset] [(.ref a1)])) (fun _ qk => XS.aload X23.here hx rfl (hb hby at_214) rfl rfl qk) ?_
    refine own_step (b := T23.setTop (mkF m 217 #[.val (.int p0), .val (.int p1), .val (.int p2), .val (.int p3), .val (.int p4), .val (.int (0 : Int32)), .val (.ref a1), .val (.ref a20), .val (.ref a20), .unset, .unset, .unset] [(.int (0 : Int32)), (.ref a1)])) (fun _ qk => XS.iconst X23.here hx rfl (hb hby at_216) qk) ?_
    refine own_step (b := T23.setTop (mkF m 219 #[.val (.int p0), .val (.int p1), .val (.int p2), .val (.int p3), .val (.int p4), .val (.int (0 : Int32)), .val (.ref a1), .val (.ref a20), .val (.ref a20), .unset, .unset, .unset] [(.int (0 : Int32)), (.int (0 : Int32)), (.ref a1)])) (fun _ qk => XS.iload X23.here hx rfl (hb hby at_217) rfl qk) ?_
    refine own_staticP (W := 0) (argsL := [(.ref a1), (.int (0 : Int32)), (.int (0 : Int32))]) (st := []) X23 hx hZ hown (own_w hw 55 rfl) (own_w hw 56 rfl) (own_w hw 3 rfl) (own_w hw 57 rfl) (by decide) e23 (rmSolF l Z a0 hw [] a1 (0 : Int32) (0 : Int32) T22.heap (by decide)) (by decide) (by decide) (by decide) (by decide) (by rw [hml]; rfl) (lenOf pd16 rfl) rfl (Nat.le_of_ble_eq_true rfl) (hb hby at_219) (fun T24 X24 e24 => ?_)
    show own_G p e below _ (T24.setTop (mkF m 222 #[.val (.int p0), .val (.int p1), .val (.int p2), .val (.int p3), .val (.int p4), .val (.int (0 : Int32)), .val (.ref a1), .val (.ref a20), .val (.ref a20), .unset, .unset, .unset] [(.int (own_bi false))]))
    refine own_if_eq X24 hx (hb hby at_222) (pc' := 229) (by decide) (by decide) (fun c222_25 => ?_) (fun c222_25 => absurd c222_25 (by decide))
    show own_G p e below _ (T24.setTop (mkF m 229 #[.val (.int p0), .val (.int p1), .val (.int p2), .val (.int p3), .val (.int p4), .val (.int (0 : Int32)), .val (.ref a1), .val (.ref a20), .val (.ref a20), .unset, .unset, .unset] []))
    refine own_step (b := T24.setTop (mkF m 231 #[.val (.int p0), .val (.int p1), .val (.int p2), .val (.int p3), .val (.int p4), .val (.int (0 : Int32)), .val (.ref a1), .val (.ref a20), .val (.ref a20), .unset, .unset, .unset] [(.ref a1)])) (fun _ qk => XS.aload X24.here hx rfl (hb hby at_229) rfl rfl qk) ?_
    refine own_step (b := T24.setTop (mkF m 232 #[.val (.int p0), .val (.int p1), .val (.int p2), .val (.int p3), .val (.int p4), .val (.int (0 : Int32)), .val (.ref a1), .val (.ref a20), .val (.ref a20), .unset, .unset, .unset] [(.int (1 : Int32)), (.ref a1)])) (fun _ qk => XS.iconst X24.here hx rfl (hb hby at_231) qk) ?_
    refine own_step (b := T24.setTop (mkF m 234 #[.val (.int p0), .val (.int p1), .val (.int p2), .val (.int p3), .val (.int p4), .val (.int (0 : Int32)), .val (.ref a1), .val (.ref a20), .val (.ref a20), .unset, .unset, .unset] [(.int (0 : Int32)), (.int (1 : Int32)), (.ref a1)])) (fun _ qk => XS.iload X24.here hx rfl (hb hby at_232) rfl qk) ?_
    refine own_staticP (W := 0) (argsL := [(.ref a1), (.int (1 : Int32)), (.int (0 : Int32))]) (st := []) X24 hx hZ hown (own_w hw 55 rfl) (own_w hw 56 rfl) (own_w hw 3 rfl) (own_w hw 57 rfl) (by decide) e24 (rmSolF l Z a0 hw [] a1 (1 : Int32) (0 : Int32) T22.heap (by decide)) (by decide) (by decide) (by decide) (by decide) (by rw [hml]; rfl) (lenOf pd16 rfl) rfl (Nat.le_of_ble_eq_true rfl) (hb hby at_234) (fun T26 X26 e26 => ?_)
    show own_G p e below _ (T26.setTop (mkF m 237 #[.val (.int p0), .val (.int p1), .val (.int p2), .val (.int p3), .val (.int p4), .val (.int (0 : Int32)), .val (.ref a1), .val (.ref a20), .val (.ref a20), .unset, .unset, .unset] [(.int (own_bi false))]))
    refine own_if_eq X26 hx (hb hby at_237) (pc' := 244) (by decide) (by decide) (fun c237_27 => ?_) (fun c237_27 => absurd c237_27 (by decide))
    show own_G p e below _ (T26.setTop (mkF m 244 #[.val (.int p0), .val (.int p1), .val (.int p2), .val (.int p3), .val (.int p4), .val (.int (0 : Int32)), .val (.ref a1), .val (.ref a20), .val (.ref a20), .unset, .unset, .unset] []))
    refine own_step (b := T26.setTop (mkF m 246 #[.val (.int p0), .val (.int p1), .val (.int p2), .val (.int p3), .val (.int p4), .val (.int (0 : Int32)), .val (.ref a1), .val (.ref a20), .val (.ref a20), .unset, .unset, .unset] [(.ref a1)])) (fun _ qk => XS.aload X26.here hx rfl (hb hby at_244) rfl rfl qk) ?_
    refine own_step (b := T26.setTop (mkF m 247 #[.val (.int p0), .val (.int p1), .val (.int p2), .val (.int p3), .val (.int p4), .val (.int (0 : Int32)), .val (.ref a1), .val (.ref a20), .val (.ref a20), .unset, .unset, .unset] [(.int (2 : Int32)), (.ref a1)])) (fun _ qk => XS.iconst X26.here hx rfl (hb hby at_246) qk) ?_
    refine own_step (b := T26.setTop (mkF m 249 #[.val (.int p0), .val (.int p1), .val (.int p2), .val (.int p3), .val (.int p4), .val (.int (0 : Int32)), .val (.ref a1), .val (.ref a20), .val (.ref a20), .unset, .unset, .unset] [(.int (0 : Int32)), (.int (2 : Int32)), (.ref a1)])) (fun _ qk => XS.iload X26.here hx rfl (hb hby at_247) rfl qk) ?_
    refine own_staticP (W := 0) (argsL := [(.ref a1), (.int (2 : Int32)), (.int (0 : Int32))]) (st := []) X26 hx hZ hown (own_w hw 55 rfl) (own_w hw 56 rfl) (own_w hw 3 rfl) (own_w hw 57 rfl) (by decide) e26 (rmSolF l Z a0 hw [] a1 (2 : Int32) (0 : Int32) T22.heap (by decide)) (by decide) (by decide) (by decide) (by decide) (by rw [hml]; rfl) (lenOf pd16 rfl) rfl (Nat.le_of_ble_eq_true rfl) (hb hby at_249) (fun T28 X28 e28 => ?_)
    show own_G p e below _ (T28.setTop (mkF m 252 #[.val (.int p0), .val (.int p1), .val (.int p2), .val (.int p3), .val (.int p4), .val (.int (0 : Int32)), .val (.ref a1), .val (.ref a20), .val (.ref a20), .unset, .unset, .unset] [(.int (own_bi false))]))
    refine own_if_eq X28 hx (hb hby at_252) (pc' := 259) (by decide) (by decide) (fun c252_29 => ?_) (fun c252_29 => absurd c252_29 (by decide))
    show own_G p e below _ (T28.setTop (mkF m 259 #[.val (.int p0), .val (.int p1), .val (.int p2), .val (.int p3), .val (.int p4), .val (.int (0 : Int32)), .val (.ref a1), .val (.ref a20), .val (.ref a20), .unset, .unset, .unset] []))
    refine own_step (b := T28.setTop (mkF m 261 #[.val (.int p0), .val (.int p1), .val (.int p2), .val (.int p3), .val (.int p4), .val (.int (0 : Int32)), .val (.ref a1), .val (.ref a20), .val (.ref a20), .unset, .unset, .unset] [(.ref a1)])) (fun _ qk => XS.aload X28.here hx rfl (hb hby at_259) rfl rfl qk) ?_
    refine own_step (b := T28.setTop (mkF m 262 #[.val (.int p0), .val (.int p1), .val (.int p2), .val (.int p3), .val (.int p4), .val (.int (0 : Int32)), .val (.ref a1), .val (.ref a20), .val (.ref a20), .unset, .unset, .unset] [(.int (3 : Int32)), (.ref a1)])) (fun _ qk => XS.iconst X28.here hx rfl (hb hby at_261) qk) ?_
    refine own_step (b := T28.setTop (mkF m 264 #[.val (.int p0), .val (.int p1), .val (.int p2), .val (.int p3), .val (.int p4), .val (.int (0 : Int32)), .val (.ref a1), .val (.ref a20), .val (.ref a20), .unset, .unset, .unset] [(.int (0 : Int32)), (.int (3 : Int32)), (.ref a1)])) (fun _ qk => XS.iload X28.here hx rfl (hb hby at_262) rfl qk) ?_
    refine own_staticP (W := 0) (argsL := [(.ref a1), (.int (3 : Int32)), (.int (0 : Int32))]) (st := []) X28 hx hZ hown (own_w hw 55 rfl) (own_w hw 56 rfl) (own_w hw 3 rfl) (own_w hw 57 rfl) (by decide) e28 (rmSolF l Z a0 hw [] a1 (3 : Int32) (0 : Int32) T22.heap (by decide)) (by decide) (by decide) (by decide) (by decide) (by rw [hml]; rfl) (lenOf pd16 rfl) rfl (Nat.le_of_ble_eq_true rfl) (hb hby at_264) (fun T30 X30 e30 => ?_)
    show own_G p e below _ (T30.setTop (mkF m 267 #[.val (.int p0), .val (.int p1), .val (.int p2), .val (.int p3), .val (.int p4), .val (.int (0 : Int32)), .val (.ref a1), .val (.ref a20), .val (.ref a20), .unset, .unset, .unset] [(.int (own_bi false))]))
    refine own_if_eq X30 hx (hb hby at_267) (pc' := 274) (by decide) (by decide) (fun c267_31 => ?_) (fun c267_31 => absurd c267_31 (by decide))
    show own_G p e below _ (T30.setTop (mkF m 274 #[.val (.int p0), .val (.int p1), .val (.int p2), .val (.int p3), .val (.int p4), .val (.int (0 : Int32)), .val (.ref a1), .val (.ref a20), .val (.ref a20), .unset, .unset, .unset] []))
    refine own_step (b := T30.setTop (mkF m 276 #[.val (.int p0), .val (.int p1), .val (.int p2), .val (.int p3), .val (.int p4), .val (.int (0 : Int32)), .val (.ref a1), .val (.ref a20), .val (.ref a20), .unset, .unset, .unset] [(.int (0 : Int32))])) (fun _ qk => XS.iload X30.here hx rfl (hb hby at_274) rfl qk) ?_
    refine own_step (b := T30.setTop (mkF m 278 #[.val (.int p0), .val (.int p1), .val (.int p2), .val (.int p3), .val (.int p4), .val (.int (0 : Int32)), .val (.ref a1), .val (.ref a20), .val (.ref a20), .val (.int (0 : Int32)), .unset, .unset] [])) (fun _ qk => XS.istore X30.here hx rfl (hb hby at_276) rfl (l' := #[.val (.int p0), .val (.int p1), .val (.int p2), .val (.int p3), .val (.int p4), .val (.int (0 : Int32)), .val (.ref a1), .val (.ref a20), .val (.ref a20), .val (.int (0 : Int32)), .unset, .unset]) rfl qk) ?_
    refine own_step (b := T30.setTop (mkF m 280 #[.val (.int p0), .val (.int p1), .val (.int p2), .val (.int p3), .val (.int p4), .val (.int (0 : Int32)), .val (.ref a1), .val (.ref a20), .val (.ref a20), .val (.int (0 : Int32)), .unset, .unset] [(.ref a1)])) (fun _ qk => XS.aload X30.here hx rfl (hb hby at_278) rfl rfl qk) ?_
    refine own_step (b := T30.setTop (mkF m 281 #[.val (.int p0), .val (.int p1), .val (.int p2), .val (.int p3), .val (.int p4), .val (.int (0 : Int32)), .val (.ref a1), .val (.ref a20), .val (.ref a20), .val (.int (0 : Int32)), .unset, .unset] [(.int (3 : Int32)), (.ref a1)])) (fun _ qk => XS.iconst X30.here hx rfl (hb hby at_280) qk) ?_
    refine own_step (b := T30.setTop (mkF m 283 #[.val (.int p0), .val (.int p1), .val (.int p2), .val (.int p3), .val (.int p4), .val (.int (0 : Int32)), .val (.ref a1), .val (.ref a20), .val (.ref a20), .val (.int (0 : Int32)), .unset, .unset] [(.int (0 : Int32)), (.int (3 : Int32)), (.ref a1)])) (fun _ qk => XS.iload X30.here hx rfl (hb hby at_281) rfl qk) ?_
    refine own_staticP (W := 0) (argsL := [(.ref a1), (.int (3 : Int32)), (.int (0 : Int32))]) (st := []) X30 hx hZ hown (own_w hw 55 rfl) (own_w hw 56 rfl) (own_w hw 3 rfl) (own_w hw 57 rfl) (by decide) e30 (rmSolF l Z a0 hw [] a1 (3 : Int32) (0 : Int32) T22.heap (by decide)) (by decide) (by decide) (by decide) (by decide) (by rw [hml]; rfl) (lenOf pd16 rfl) rfl (Nat.le_of_ble_eq_true rfl) (hb hby at_283) (fun T32 X32 e32 => ?_)
    show own_G p e below _ (T32.setTop (mkF m 286 #[.val (.int p0), .val (.int p1), .val (.int p2), .val (.int p3), .val (.int p4), .val (.int (0 : Int32)), .val (.ref a1), .val (.ref a20), .val (.ref a20), .val (.int (0 : Int32)), .unset, .unset] [(.int (own_bi false))]))
    refine own_if_eq X32 hx (hb hby at_286) (pc' := 293) (by decide) (by decide) (fun c286_33 => ?_) (fun c286_33 => absurd c286_33 (by decide))
    show own_G p e below _ (T32.setTop (mkF m 293 #[.val (.int p0), .val (.int p1), .val (.int p2), .val (.int p3), .val (.int p4), .val (.int (0 : Int32)), .val (.ref a1), .val (.ref a20), .val (.ref a20), .val (.int (0 : Int32)), .unset, .unset] []))
    refine own_step (b := T32.setTop (mkF m 295 #[.val (.int p0), .val (.int p1), .val (.int p2), .val (.int p3), .val (.int p4), .val (.int (0 : Int32)), .val (.ref a1), .val (.ref a20), .val (.ref a20), .val (.int (0 : Int32)), .unset, .unset] [(.ref a1)])) (fun _ qk => XS.aload X32.here hx rfl (hb hby at_293) rfl rfl qk) ?_
    refine own_step (b := T32.setTop (mkF m 296 #[.val (.int p0), .val (.int p1), .val (.int p2), .val (.int p3), .val (.int p4), .val (.int (0 : Int32)), .val (.ref a1), .val (.ref a20), .val (.ref a20), .val (.int (0 : Int32)), .unset, .unset] [(.int (2 : Int32)), (.ref a1)])) (fun _ qk => XS.iconst X32.here hx rfl (hb hby at_295) qk) ?_
    refine own_step (b := T32.setTop (mkF m 298 #[.val (.int p0), .val (.int p1), .val (.int p2), .val (.int p3), .val (.int p4), .val (.int (0 : Int32)), .val (.ref a1), .val (.ref a20), .val (.ref a20), .val (.int (0 : Int32)), .unset, .unset] [(.int (0 : Int32)), (.int (2 : Int32)), (.ref a1)])) (fun _ qk => XS.iload X32.here hx rfl (hb hby at_296) rfl qk) ?_
    refine own_staticP (W := 0) (argsL := [(.ref a1), (.int (2 : Int32)), (.int (0 : Int32))]) (st := []) X32 hx hZ hown (own_w hw 55 rfl) (own_w hw 56 rfl) (own_w hw 3 rfl) (own_w hw 57 rfl) (by decide) e32 (rmSolF l Z a0 hw [] a1 (2 : Int32) (0 : Int32) T22.heap (by decide)) (by decide) (by decide) (by decide) (by decide) (by rw [hml]; rfl) (lenOf pd16 rfl) rfl (Nat.le_of_ble_eq_true rfl) (hb hby at_298) (fun T34 X34 e34 => ?_)
    show own_G p e below _ (T34.setTop (mkF m 301 #[.val (.int p0), .val (.int p1), .val (.int p2), .val (.int p3), .val (.int p4), .val (.int (0 : Int32)), .val (.ref a1), .val (.ref a20), .val (.ref a20), .val (.int (0 : Int32)), .unset, .unset] [(.int (own_bi false))]))
    refine own_if_eq X34 hx (hb hby at_301) (pc' := 308) (by decide) (by decide) (fun c301_35 => ?_) (fun c301_35 => absurd c301_35 (by decide))
    show own_G p e below _ (T34.setTop (mkF m 308 #[.val (.int p0), .val (.int p1), .val (.int p2), .val (.int p3), .val (.int p4), .val (.int (0 : Int32)), .val (.ref a1), .val (.ref a20), .val (.ref a20), .val (.int (0 : Int32)), .unset, .unset] []))
    refine own_step (b := T34.setTop (mkF m 310 #[.val (.int p0), .val (.int p1), .val (.int p2), .val (.int p3), .val (.int p4), .val (.int (0 : Int32)), .val (.ref a1), .val (.ref a20), .val (.ref a20), .val (.int (0 : Int32)), .unset, .unset] [(.ref a1)])) (fun _ qk => XS.aload X34.here hx rfl (hb hby at_308) rfl rfl qk) ?_
    refine own_step (b := T34.setTop (mkF m 311 #[.val (.int p0), .val (.int p1), .val (.int p2), .val (.int p3), .val (.int p4), .val (.int (0 : Int32)), .val (.ref a1), .val (.ref a20), .val (.ref a20), .val (.int (0 : Int32)), .unset, .unset] [(.int (1 : Int32)), (.ref a1)])) (fun _ qk => XS.iconst X34.here hx rfl (hb hby at_310) qk) ?_
    refine own_step (b := T34.setTop (mkF m 313 #[.val (.int p0), .val (.int p1), .val (.int p2), .val (.int p3), .val (.int p4), .val (.int (0 : Int32)), .val (.ref a1), .val (.ref a20), .val (.ref a20), .val (.int (0 : Int32)), .unset, .unset] [(.int (0 : Int32)), (.int (1 : Int32)), (.ref a1)])) (fun _ qk => XS.iload X34.here hx rfl (hb hby at_311) rfl qk) ?_
    refine own_staticP (W := 0) (argsL := [(.ref a1), (.int (1 : Int32)), (.int (0 : Int32))]) (st := []) X34 hx hZ hown (own_w hw 55 rfl) (own_w hw 56 rfl) (own_w hw 3 rfl) (own_w hw 57 rfl) (by decide) e34 (rmSolF l Z a0 hw [] a1 (1 : Int32) (0 : Int32) T22.heap (by decide)) (by decide) (by decide) (by decide) (by decide) (by rw [hml]; rfl) (lenOf pd16 rfl) rfl (Nat.le_of_ble_eq_true rfl) (hb hby at_313) (fun T36 X36 e36 => ?_)
    show own_G p e below _ (T36.setTop (mkF m 316 #[.val (.int p0), .val (.int p1), .val (.int p2), .val (.int p3), .val (.int p4), .val (.int (0 : Int32)), .val (.ref a1), .val (.ref a20), .val (.ref a20), .val (.int (0 : Int32)), .unset, .unset] [(.int (own_bi false))]))
    refine own_if_eq X36 hx (hb hby at_316) (pc' := 323) (by decide) (by decide) (fun c316_37 => ?_) (fun c316_37 => absurd c316_37 (by decide))
    show own_G p e below _ (T36.setTop (mkF m 323 #[.val (.int p0), .val (.int p1), .val (.int p2), .val (.int p3), .val (.int p4), .val (.int (0 : Int32)), .val (.ref a1), .val (.ref a20), .val (.ref a20), .val (.int (0 : Int32)), .unset, .unset] []))
    refine own_step (b := T36.setTop (mkF m 325 #[.val (.int p0), .val (.int p1), .val (.int p2), .val (.int p3), .val (.int p4), .val (.int (0 : Int32)), .val (.ref a1), .val (.ref a20), .val (.ref a20), .val (.int (0 : Int32)), .unset, .unset] [(.ref a1)])) (fun _ qk => XS.aload X36.here hx rfl (hb hby at_323) rfl rfl qk) ?_
    refine own_step (b := T36.setTop (mkF m 326 #[.val (.int p0), .val (.int p1), .val (.int p2), .val (.int p3), .val (.int p4), .val (.int (0 : Int32)), .val (.ref a1), .val (.ref a20), .val (.ref a20), .val (.int (0 : Int32)), .unset, .unset] [(.int (0 : Int32)), (.ref a1)])) (fun _ qk => XS.iconst X36.here hx rfl (hb hby at_325) qk) ?_
    refine own_step (b := T36.setTop (mkF m 328 #[.val (.int p0), .val (.int p1), .val (.int p2), .val (.int p3), .val (.int p4), .val (.int (0 : Int32)), .val (.ref a1), .val (.ref a20), .val (.ref a20), .val (.int (0 : Int32)), .unset, .unset] [(.int (0 : Int32)), (.int (0 : Int32)), (.ref a1)])) (fun _ qk => XS.iload X36.here hx rfl (hb hby at_326) rfl qk) ?_
    refine own_staticP (W := 0) (argsL := [(.ref a1), (.int (0 : Int32)), (.int (0 : Int32))]) (st := []) X36 hx hZ hown (own_w hw 55 rfl) (own_w hw 56 rfl) (own_w hw 3 rfl) (own_w hw 57 rfl) (by decide) e36 (rmSolF l Z a0 hw [] a1 (0 : Int32) (0 : Int32) T22.heap (by decide)) (by decide) (by decide) (by decide) (by decide) (by rw [hml]; rfl) (lenOf pd16 rfl) rfl (Nat.le_of_ble_eq_true rfl) (hb hby at_328) (fun T38 X38 e38 => ?_)
    show own_G p e below _ (T38.setTop (mkF m 331 #[.val (.int p0), .val (.int p1), .val (.int p2), .val (.int p3), .val (.int p4), .val (.int (0 : Int32)), .val (.ref a1), .val (.ref a20), .val (.ref a20), .val (.int (0 : Int32)), .unset, .unset] [(.int (own_bi false))]))
    refine own_if_eq X38 hx (hb hby at_331) (pc' := 338) (by decide) (by decide) (fun c331_39 => ?_) (fun c331_39 => absurd c331_39 (by decide))
    show own_G p e below _ (T38.setTop (mkF m 338 #[.val (.int p0), .val (.int p1), .val (.int p2), .val (.int p3), .val (.int p4), .val (.int (0 : Int32)), .val (.ref a1), .val (.ref a20), .val (.ref a20), .val (.int (0 : Int32)), .unset, .unset] []))
    refine own_step (b := T38.setTop (mkF m 340 #[.val (.int p0), .val (.int p1), .val (.int p2), .val (.int p3), .val (.int p4), .val (.int (0 : Int32)), .val (.ref a1), .val (.ref a20), .val (.ref a20), .val (.int (0 : Int32)), .unset, .unset] [(.int (0 : Int32))])) (fun _ qk => XS.iload X38.here hx rfl (hb hby at_338) rfl qk) ?_
    refine own_step (b := T38.setTop (mkF m 342 #[.val (.int p0), .val (.int p1), .val (.int p2), .val (.int p3), .val (.int p4), .val (.int (0 : Int32)), .val (.ref a1), .val (.ref a20), .val (.ref a20), .val (.int (0 : Int32)), .val (.int (0 : Int32)), .unset] [])) (fun _ qk => XS.istore X38.here hx rfl (hb hby at_340) rfl (l' := #[.val (.int p0), .val (.int p1), .val (.int p2), .val (.int p3), .val (.int p4), .val (.int (0 : Int32)), .val (.ref a1), .val (.ref a20), .val (.ref a20), .val (.int (0 : Int32)), .val (.int (0 : Int32)), .unset]) rfl qk) ?_
    refine J T38 _ _ _ a20 a20 _ 0 0 [] (X38.more (by decide) (by decide)) hS (by rw [show T38.heap = T22.heap from e38]; omega) hZ hown N22 (by rw [show T38.heap = T22.heap from e38]; exact OL22) (by rw [show T38.heap = T22.heap from e38]; exact VA22) ?_ (by decide) (by decide) rfl ?_
    · rw [show T38.heap = T22.heap from e38]; exact SS22
    · intro q hq; have hq' : q < 0 := hq; exact match q, hq' with  | q + 0, h_ => absurd h_ (by omega)
  · show own_G p e below _ (T9.setTop (mkF m 42 #[.val (.int p0), .val (.int p1), .val (.int p2), .val (.int p3), .val (.int p4), .val (.int (1 : Int32)), .val (.ref a1), .unset, .unset, .unset, .unset, .unset] []))
    show own_G p e below _ (T9.setTop (mkF m 42 #[.val (.int p0), .val (.int p1), .val (.int p2), .val (.int p3), .val (.int p4), .val (.int (1 : Int32)), .val (.ref a1), .unset, .unset, .unset, .unset, .unset] []))
    refine own_step (b := T9.setTop (mkF m 44 #[.val (.int p0), .val (.int p1), .val (.int p2), .val (.int p3), .val (.int p4), .val (.int (1 : Int32)), .val (.ref a1), .unset, .unset, .unset, .unset, .unset] [(.int (1 : Int32))])) (fun _ qk => XS.iload X9.here hx rfl (hb hby at_42) rfl qk) ?_
    refine own_if_ne X9 hx (hb hby at_44) (pc' := 62) (by decide) (by decide) (fun c44_40 => ?_) (fun c44_40 => absurd c44_40 (by decide))
    show own_G p e below _ (T9.setTop (mkF m 62 #[.val (.int p0), .val (.int p1), .val (.int p2), .val (.int p3), .val (.int p4), .val (.int (1 : Int32)), .val (.ref a1), .unset, .unset, .unset, .unset, .unset] []))
    refine own_step (b := T9.setTop (mkF m 64 #[.val (.int p0), .val (.int p1), .val (.int p2), .val (.int p3), .val (.int p4), .val (.int (1 : Int32)), .val (.ref a1), .unset, .unset, .unset, .unset, .unset] [(.int (1 : Int32))])) (fun _ qk => XS.iload X9.here hx rfl (hb hby at_62) rfl qk) ?_
    refine own_step (b := T9.setTop (mkF m 65 #[.val (.int p0), .val (.int p1), .val (.int p2), .val (.int p3), .val (.int p4), .val (.int (1 : Int32)), .val (.ref a1), .unset, .unset, .unset, .unset, .unset] [(.int (1 : Int32)), (.int (1 : Int32))])) (fun _ qk => XS.iconst X9.here hx rfl (hb hby at_64) qk) ?_
    refine own_icmp_ne X9 hx (hb hby at_65) (pc' := 90) (by decide) (by decide) (fun c65_41 => absurd c65_41 (by decide)) (fun c65_41 => ?_)
    show own_G p e below _ (T9.setTop (mkF m 68 #[.val (.int p0), .val (.int p1), .val (.int p2), .val (.int p3), .val (.int p4), .val (.int (1 : Int32)), .val (.ref a1), .unset, .unset, .unset, .unset, .unset] []))
    refine own_newO X9 hx hZ hown (own_w hw 5 rfl) (own_w hw 6 rfl) (own_w hw 7 rfl) e9 (hb hby at_68) (by decide) (by decide) (fun T42 h42 a42 X42 e42 g42 l42 E42 A42 D42 => ?_)
    show own_G p e below _ (T42.setTop (mkF m 71 #[.val (.int p0), .val (.int p1), .val (.int p2), .val (.int p3), .val (.int p4), .val (.int (1 : Int32)), .val (.ref a1), .unset, .unset, .unset, .unset, .unset] [(.ref a42)]))
    have OL42 := OL9.ext E42
    refine own_step (b := T42.setTop (mkF m 72 #[.val (.int p0), .val (.int p1), .val (.int p2), .val (.int p3), .val (.int p4), .val (.int (1 : Int32)), .val (.ref a1), .unset, .unset, .unset, .unset, .unset] [(.ref a42), (.ref a42)])) (fun _ qk => XS.dup X42.here hx rfl (hb hby at_71) rfl rfl qk) ?_
    refine own_step (b := T42.setTop (mkF m 73 #[.val (.int p0), .val (.int p1), .val (.int p2), .val (.int p3), .val (.int p4), .val (.int (1 : Int32)), .val (.ref a1), .unset, .unset, .unset, .unset, .unset] [(.int (1 : Int32)), (.ref a42), (.ref a42)])) (fun _ qk => XS.iconst X42.here hx rfl (hb hby at_72) qk) ?_
    refine own_newP X42 hx hZ (own_w hw 0 rfl) e42 (hb hby at_73) (n := (1 : Int32)) (by decide) 1 (by decide) (by decide) (by decide) (by decide) (fun T43 h43 a43 k43 X43 e43 g43 l43 E43 V43 => ?_)
    have V43' : Arv Z h43 a43 k43 .char (1 : Int32) [.int 0] (.int 0) := V43
    show own_G p e below _ (T43.setTop (mkF m 75 #[.val (.int p0), .val (.int p1), .val (.int p2), .val (.int p3), .val (.int p4), .val (.int (1 : Int32)), .val (.ref a1), .unset, .unset, .unset, .unset, .unset] [(.ref a43), (.ref a42), (.ref a42)]))
    have OL43 := OL42.ext E43
    have KF43 := (Keep.refl h43 [a43])
    have VA43 := (V9s.ext E42).ext E43
    refine own_step (b := T43.setTop (mkF m 76 #[.val (.int p0), .val (.int p1), .val (.int p2), .val (.int p3), .val (.int p4), .val (.int (1 : Int32)), .val (.ref a1), .unset, .unset, .unset, .unset, .unset] [(.ref a43), (.ref a43), (.ref a42), (.ref a42)])) (fun _ qk => XS.dup X43.here hx rfl (hb hby at_75) rfl rfl qk) ?_
    refine own_step (b := T43.setTop (mkF m 77 #[.val (.int p0), .val (.int p1), .val (.int p2), .val (.int p3), .val (.int p4), .val (.int (1 : Int32)), .val (.ref a1), .unset, .unset, .unset, .unset, .unset] [(.int (0 : Int32)), (.ref a43), (.ref a43), (.ref a42), (.ref a42)])) (fun _ qk => XS.iconst X43.here hx rfl (hb hby at_76) qk) ?_
    refine own_step (b := T43.setTop (mkF m 79 #[.val (.int p0), .val (.int p1), .val (.int p2), .val (.int p3), .val (.int p4), .val (.int (1 : Int32)), .val (.ref a1), .unset, .unset, .unset, .unset, .unset] [(.ref a1), (.int (0 : Int32)), (.ref a43), (.ref a43), (.ref a42), (.ref a42)])) (fun _ qk => XS.aload X43.here hx rfl (hb hby at_77) rfl rfl qk) ?_
    refine own_step (b := T43.setTop (mkF m 80 #[.val (.int p0), .val (.int p1), .val (.int p2), .val (.int p3), .val (.int p4), .val (.int (1 : Int32)), .val (.ref a1), .unset, .unset, .unset, .unset, .unset] [(.int (0 : Int32)), (.ref a1), (.int (0 : Int32)), (.ref a43), (.ref a43), (.ref a42), (.ref a42)])) (fun _ qk => XS.iconst X43.here hx rfl (hb hby at_79) qk) ?_
    refine own_ldC X43 hx hZ e43 VA43 0 (by decide) (by decide) (by decide) (v := (.int c0)) rfl (hb hby at_80) ?_
    show own_G p e below _ (T43.setTop (mkF m 81 #[.val (.int p0), .val (.int p1), .val (.int p2), .val (.int p3), .val (.int p4), .val (.int (1 : Int32)), .val (.ref a1), .unset, .unset, .unset, .unset, .unset] [(.int c0), (.int (0 : Int32)), (.ref a43), (.ref a43), (.ref a42), (.ref a42)]))
    refine own_stC X43 hx hZ e43 V43' 0 (by decide) (by decide) (by decide) (Nat.le_of_ble_eq_true rfl) N9 (by omega) (hb hby at_81) (fun T44 h44 X44 e44 N44 W44 z44 V44 => ?_)
    have V44' : Arv Z h44 a43 k43 .char (1 : Int32) [.int (nar .char c0)] (.int 0) := V44
    show own_G p e below _ (T44.setTop (mkF m 82 #[.val (.int p0), .val (.int p1), .val (.int p2), .val (.int p3), .val (.int p4), .val (.int (1 : Int32)), .val (.ref a1), .unset, .unset, .unset, .unset, .unset] [(.ref a43), (.ref a42), (.ref a42)]))
    have V44s : Arv Z h44 a43 k43 .char (1 : Int32) [.int c0] (.int 0) := by have q := V44'; rw [own_narC hc0.1 hc0.2] at q; exact q
    have OL44 := OL43.wr W44 (by omega)
    have KF44 := KF43.wr W44 (Or.inl (List.mem_singleton.mpr rfl))
    have VA44 := VA43.other W44 (own_ne (by omega))
    have hp : ∀ c ∈ ([c0] : List Int32), ¬ c < 0 ∧ ¬ (255 : Int32) < c := (own_aS hc0 own_a0)
    refine own_special (W := 1) (argsL := [(.ref a43)]) (a := a42) (st := [(.ref a42)]) X44 hx hZ hown rfl (own_w hw 8 rfl) (own_w hw 9 rfl) (own_w hw 10 rfl) (by decide) e44 (StrChars.Road.backV (W := 1) hZ hws (kI := 4) (own_w hw 6 rfl) (cs := ([c0] : List Int32)) (bs := (([c0] : List Int32)).map (fun c => c.toInt8.toInt32)) (n := 1) (n0 := Z.heap.size) (by omega) (by omega) ((A42.ext E43).keep KF44) (((D42 (Or.inr (own_w hw 20 rfl)) (ty := (.array .byte)) (by decide)).ext E43).keep KF44 (ninS (own_ne (by omega)) nin0)) (((D42 (Or.inr (own_w hw 21 rfl)) (ty := .byte) (by decide)).ext E43).keep KF44 (ninS (own_ne (by omega)) nin0)) V44s (O2.ext OL44.2) P5 rfl rfl (by decide) (by decide) hp rfl (by decide) (by decide)) (by decide) (by decide) (by rw [hml]; rfl) (lenOf pd14 rfl) rfl (Nat.le_of_ble_eq_true rfl) (hb hby at_82) (fun v45 T45 L45 X45 hQ45 => ?_)
    obtain ⟨rfl, M45, K45, E45, C45, t45, kb45, u45, uu45, uuu45, F45, B45⟩ := hQ45
    have z45 : h44.size ≤ T45.heap.size := K45.1
    have N45 := Fr.app N44 M45
    have OL45 := OL44.keep K45 (allS (by omega) all0)
    show own_G p e below _ (T45.setTop (mkF m 85 #[.val (.int p0), .val (.int p1), .val (.int p2), .val (.int p3), .val (.int p4), .val (.int (1 : Int32)), .val (.ref a1), .unset, .unset, .unset, .unset, .unset] [(.ref a42)]))
    have SS : own_Str Z T45.heap a42 [c0] := own_mkStr (n := 1) rfl rfl E45 hp (by decide) C45 F45 B45
    have VA45 := VA44.keep K45 (ninS (own_ne (by omega)) nin0)
    refine own_step (b := T45.setTop (mkF m 87 #[.val (.int p0), .val (.int p1), .val (.int p2), .val (.int p3), .val (.int p4), .val (.int (1 : Int32)), .val (.ref a1), .val (.ref a42), .unset, .unset, .unset, .unset] [])) (fun _ qk => XS.astore X45.here hx rfl (hb hby at_85) rfl rfl (l' := #[.val (.int p0), .val (.int p1), .val (.int p2), .val (.int p3), .val (.int p4), .val (.int (1 : Int32)), .val (.ref a1), .val (.ref a42), .unset, .unset, .unset, .unset]) rfl qk) ?_
    refine own_step (b := T45.setTop (mkF m 207 #[.val (.int p0), .val (.int p1), .val (.int p2), .val (.int p3), .val (.int p4), .val (.int (1 : Int32)), .val (.ref a1), .val (.ref a42), .unset, .unset, .unset, .unset] [])) (fun _ qk => XS.goto X45.here hx rfl (pc0 := 87) (pc' := 207) rfl (hb hby at_87) (by decide) (by decide) qk) ?_
    refine own_step (b := T45.setTop (mkF m 209 #[.val (.int p0), .val (.int p1), .val (.int p2), .val (.int p3), .val (.int p4), .val (.int (1 : Int32)), .val (.ref a1), .val (.ref a42), .unset, .unset, .unset, .unset] [(.ref a42)])) (fun _ qk => XS.aload X45.here hx rfl (hb hby at_207) rfl rfl qk) ?_
    refine own_staticI (W := 0) (argsL := [(.ref a42)]) (st := []) X45 hx hZ hown (own_w hw 26 rfl) (own_w hw 27 rfl) (own_w hw 28 rfl) (own_w hw 29 rfl) (by decide) rfl hS (by omega) (rmStrip1 l Z a0 hw [] a42 c0 T45.heap SS OL45 G1 O2 P5 G3 O4 rG3 CH1 HC) (fun _ hW => own_IBw hI hW) (by decide) (by decide) (by decide) (by decide) (by rw [hml]; rfl) (lenOf pd15 rfl) rfl (Nat.le_of_ble_eq_true rfl) (hb hby at_209) (fun v46 T46 L46 vm46 k46 X46 ev46 z46 hS hk hZ hown hQ46 => ?_)
    obtain ⟨r46, rfl, M46, E46, SR46⟩ := hQ46
    have N46 := Fr.app N45 M46
    have OL46 := OL45.ext E46
    have V46 := VA45.ext E46
    show own_G p e below _ (T46.setTop (mkF m 212 #[.val (.int p0), .val (.int p1), .val (.int p2), .val (.int p3), .val (.int p4), .val (.int (1 : Int32)), .val (.ref a1), .val (.ref a42), .unset, .unset, .unset, .unset] [(.ref r46)]))
    refine own_step (b := T46.setTop (mkF m 214 #[.val (.int p0), .val (.int p1), .val (.int p2), .val (.int p3), .val (.int p4), .val (.int (1 : Int32)), .val (.ref a1), .val (.ref a42), .val (.ref r46), .unset, .unset, .unset] [])) (fun _ qk => XS.astore X46.here hx rfl (hb hby at_212) rfl rfl (l' := #[.val (.int p0), .val (.int p1), .val (.int p2), .val (.int p3), .val (.int p4), .val (.int (1 : Int32)), .val (.ref a1), .val (.ref a42), .val (.ref r46), .unset, .unset, .unset]) rfl qk) ?_
    refine own_step (b := T46.setTop (mkF m 216 #[.val (.int p0), .val (.int p1), .val (.int p2), .val (.int p3), .val (.int p4), .val (.int (1 : Int32)), .val (.ref a1), .val (.ref a42), .val (.ref r46), .unset, .unset, .unset] [(.ref a1)])) (fun _ qk => XS.aload X46.here hx rfl (hb hby at_214) rfl rfl qk) ?_
    refine own_step (b := T46.setTop (mkF m 217 #[.val (.int p0), .val (.int p1), .val (.int p2), .val (.int p3), .val (.int p4), .val (.int (1 : Int32)), .val (.ref a1), .val (.ref a42), .val (.ref r46), .unset, .unset, .unset] [(.int (0 : Int32)), (.ref a1)])) (fun _ qk => XS.iconst X46.here hx rfl (hb hby at_216) qk) ?_
    refine own_step (b := T46.setTop (mkF m 219 #[.val (.int p0), .val (.int p1), .val (.int p2), .val (.int p3), .val (.int p4), .val (.int (1 : Int32)), .val (.ref a1), .val (.ref a42), .val (.ref r46), .unset, .unset, .unset] [(.int (1 : Int32)), (.int (0 : Int32)), (.ref a1)])) (fun _ qk => XS.iload X46.here hx rfl (hb hby at_217) rfl qk) ?_
    refine own_staticP (W := 0) (argsL := [(.ref a1), (.int (0 : Int32)), (.int (1 : Int32))]) (st := []) X46 hx hZ hown (own_w hw 55 rfl) (own_w hw 56 rfl) (own_w hw 3 rfl) (own_w hw 57 rfl) (by decide) rfl (rmSol0 l Z a0 hw [] a1 k1 c0 c1 c2 c3 T46.heap V46 (1 : Int32) (by decide)) (by decide) (by decide) (by decide) (by decide) (by rw [hml]; rfl) (lenOf pd16 rfl) rfl (Nat.le_of_ble_eq_true rfl) (hb hby at_219) (fun T47 X47 e47 => ?_)
    show own_G p e below _ (T47.setTop (mkF m 222 #[.val (.int p0), .val (.int p1), .val (.int p2), .val (.int p3), .val (.int p4), .val (.int (1 : Int32)), .val (.ref a1), .val (.ref a42), .val (.ref r46), .unset, .unset, .unset] [(.int (own_bi (!own_bl c0)))]))
    refine own_if_eq X47 hx (hb hby at_222) (pc' := 229) (by decide) (by decide) (fun c222_48 => ?_) (fun c222_48 => ?_)
    · show own_G p e below _ (T47.setTop (mkF m 229 #[.val (.int p0), .val (.int p1), .val (.int p2), .val (.int p3), .val (.int p4), .val (.int (1 : Int32)), .val (.ref a1), .val (.ref a42), .val (.ref r46), .unset, .unset, .unset] []))
      have c222_48b : (!own_bl c0) = false := own_bi_f c222_48
      refine own_step (b := T47.setTop (mkF m 231 #[.val (.int p0), .val (.int p1), .val (.int p2), .val (.int p3), .val (.int p4), .val (.int (1 : Int32)), .val (.ref a1), .val (.ref a42), .val (.ref r46), .unset, .unset, .unset] [(.ref a1)])) (fun _ qk => XS.aload X47.here hx rfl (hb hby at_229) rfl rfl qk) ?_
      refine own_step (b := T47.setTop (mkF m 232 #[.val (.int p0), .val (.int p1), .val (.int p2), .val (.int p3), .val (.int p4), .val (.int (1 : Int32)), .val (.ref a1), .val (.ref a42), .val (.ref r46), .unset, .unset, .unset] [(.int (1 : Int32)), (.ref a1)])) (fun _ qk => XS.iconst X47.here hx rfl (hb hby at_231) qk) ?_
      refine own_step (b := T47.setTop (mkF m 234 #[.val (.int p0), .val (.int p1), .val (.int p2), .val (.int p3), .val (.int p4), .val (.int (1 : Int32)), .val (.ref a1), .val (.ref a42), .val (.ref r46), .unset, .unset, .unset] [(.int (1 : Int32)), (.int (1 : Int32)), (.ref a1)])) (fun _ qk => XS.iload X47.here hx rfl (hb hby at_232) rfl qk) ?_
      refine own_staticP (W := 0) (argsL := [(.ref a1), (.int (1 : Int32)), (.int (1 : Int32))]) (st := []) X47 hx hZ hown (own_w hw 55 rfl) (own_w hw 56 rfl) (own_w hw 3 rfl) (own_w hw 57 rfl) (by decide) e47 (rmSolF l Z a0 hw [] a1 (1 : Int32) (1 : Int32) T46.heap (by decide)) (by decide) (by decide) (by decide) (by decide) (by rw [hml]; rfl) (lenOf pd16 rfl) rfl (Nat.le_of_ble_eq_true rfl) (hb hby at_234) (fun T49 X49 e49 => ?_)
      show own_G p e below _ (T49.setTop (mkF m 237 #[.val (.int p0), .val (.int p1), .val (.int p2), .val (.int p3), .val (.int p4), .val (.int (1 : Int32)), .val (.ref a1), .val (.ref a42), .val (.ref r46), .unset, .unset, .unset] [(.int (own_bi false))]))
      refine own_if_eq X49 hx (hb hby at_237) (pc' := 244) (by decide) (by decide) (fun c237_50 => ?_) (fun c237_50 => absurd c237_50 (by decide))
      show own_G p e below _ (T49.setTop (mkF m 244 #[.val (.int p0), .val (.int p1), .val (.int p2), .val (.int p3), .val (.int p4), .val (.int (1 : Int32)), .val (.ref a1), .val (.ref a42), .val (.ref r46), .unset, .unset, .unset] []))
      refine own_step (b := T49.setTop (mkF m 246 #[.val (.int p0), .val (.int p1), .val (.int p2), .val (.int p3), .val (.int p4), .val (.int (1 : Int32)), .val (.ref a1), .val (.ref a42), .val (.ref r46), .unset, .unset, .unset] [(.ref a1)])) (fun _ qk => XS.aload X49.here hx rfl (hb hby at_244) rfl rfl qk) ?_
      refine own_step (b := T49.setTop (mkF m 247 #[.val (.int p0), .val (.int p1), .val (.int p2), .val (.int p3), .val (.int p4), .val (.int (1 : Int32)), .val (.ref a1), .val (.ref a42), .val (.ref r46), .unset, .unset, .unset] [(.int (2 : Int32)), (.ref a1)])) (fun _ qk => XS.iconst X49.here hx rfl (hb hby at_246) qk) ?_
      refine own_step (b := T49.setTop (mkF m 249 #[.val (.int p0), .val (.int p1), .val (.int p2), .val (.int p3), .val (.int p4), .val (.int (1 : Int32)), .val (.ref a1), .val (.ref a42), .val (.ref r46), .unset, .unset, .unset] [(.int (1 : Int32)), (.int (2 : Int32)), (.ref a1)])) (fun _ qk => XS.iload X49.here hx rfl (hb hby at_247) rfl qk) ?_
      refine own_staticP (W := 0) (argsL := [(.ref a1), (.int (2 : Int32)), (.int (1 : Int32))]) (st := []) X49 hx hZ hown (own_w hw 55 rfl) (own_w hw 56 rfl) (own_w hw 3 rfl) (own_w hw 57 rfl) (by decide) e49 (rmSolF l Z a0 hw [] a1 (2 : Int32) (1 : Int32) T46.heap (by decide)) (by decide) (by decide) (by decide) (by decide) (by rw [hml]; rfl) (lenOf pd16 rfl) rfl (Nat.le_of_ble_eq_true rfl) (hb hby at_249) (fun T51 X51 e51 => ?_)
      show own_G p e below _ (T51.setTop (mkF m 252 #[.val (.int p0), .val (.int p1), .val (.int p2), .val (.int p3), .val (.int p4), .val (.int (1 : Int32)), .val (.ref a1), .val (.ref a42), .val (.ref r46), .unset, .unset, .unset] [(.int (own_bi false))]))
      refine own_if_eq X51 hx (hb hby at_252) (pc' := 259) (by decide) (by decide) (fun c252_52 => ?_) (fun c252_52 => absurd c252_52 (by decide))
      show own_G p e below _ (T51.setTop (mkF m 259 #[.val (.int p0), .val (.int p1), .val (.int p2), .val (.int p3), .val (.int p4), .val (.int (1 : Int32)), .val (.ref a1), .val (.ref a42), .val (.ref r46), .unset, .unset, .unset] []))
      refine own_step (b := T51.setTop (mkF m 261 #[.val (.int p0), .val (.int p1), .val (.int p2), .val (.int p3), .val (.int p4), .val (.int (1 : Int32)), .val (.ref a1), .val (.ref a42), .val (.ref r46), .unset, .unset, .unset] [(.ref a1)])) (fun _ qk => XS.aload X51.here hx rfl (hb hby at_259) rfl rfl qk) ?_
      refine own_step (b := T51.setTop (mkF m 262 #[.val (.int p0), .val (.int p1), .val (.int p2), .val (.int p3), .val (.int p4), .val (.int (1 : Int32)), .val (.ref a1), .val (.ref a42), .val (.ref r46), .unset, .unset, .unset] [(.int (3 : Int32)), (.ref a1)])) (fun _ qk => XS.iconst X51.here hx rfl (hb hby at_261) qk) ?_
      refine own_step (b := T51.setTop (mkF m 264 #[.val (.int p0), .val (.int p1), .val (.int p2), .val (.int p3), .val (.int p4), .val (.int (1 : Int32)), .val (.ref a1), .val (.ref a42), .val (.ref r46), .unset, .unset, .unset] [(.int (1 : Int32)), (.int (3 : Int32)), (.ref a1)])) (fun _ qk => XS.iload X51.here hx rfl (hb hby at_262) rfl qk) ?_
      refine own_staticP (W := 0) (argsL := [(.ref a1), (.int (3 : Int32)), (.int (1 : Int32))]) (st := []) X51 hx hZ hown (own_w hw 55 rfl) (own_w hw 56 rfl) (own_w hw 3 rfl) (own_w hw 57 rfl) (by decide) e51 (rmSolF l Z a0 hw [] a1 (3 : Int32) (1 : Int32) T46.heap (by decide)) (by decide) (by decide) (by decide) (by decide) (by rw [hml]; rfl) (lenOf pd16 rfl) rfl (Nat.le_of_ble_eq_true rfl) (hb hby at_264) (fun T53 X53 e53 => ?_)
      show own_G p e below _ (T53.setTop (mkF m 267 #[.val (.int p0), .val (.int p1), .val (.int p2), .val (.int p3), .val (.int p4), .val (.int (1 : Int32)), .val (.ref a1), .val (.ref a42), .val (.ref r46), .unset, .unset, .unset] [(.int (own_bi false))]))
      refine own_if_eq X53 hx (hb hby at_267) (pc' := 274) (by decide) (by decide) (fun c267_54 => ?_) (fun c267_54 => absurd c267_54 (by decide))
      show own_G p e below _ (T53.setTop (mkF m 274 #[.val (.int p0), .val (.int p1), .val (.int p2), .val (.int p3), .val (.int p4), .val (.int (1 : Int32)), .val (.ref a1), .val (.ref a42), .val (.ref r46), .unset, .unset, .unset] []))
      refine own_step (b := T53.setTop (mkF m 276 #[.val (.int p0), .val (.int p1), .val (.int p2), .val (.int p3), .val (.int p4), .val (.int (1 : Int32)), .val (.ref a1), .val (.ref a42), .val (.ref r46), .unset, .unset, .unset] [(.int (1 : Int32))])) (fun _ qk => XS.iload X53.here hx rfl (hb hby at_274) rfl qk) ?_
      refine own_step (b := T53.setTop (mkF m 278 #[.val (.int p0), .val (.int p1), .val (.int p2), .val (.int p3), .val (.int p4), .val (.int (1 : Int32)), .val (.ref a1), .val (.ref a42), .val (.ref r46), .val (.int (1 : Int32)), .unset, .unset] [])) (fun _ qk => XS.istore X53.here hx rfl (hb hby at_276) rfl (l' := #[.val (.int p0), .val (.int p1), .val (.int p2), .val (.int p3), .val (.int p4), .val (.int (1 : Int32)), .val (.ref a1), .val (.ref a42), .val (.ref r46), .val (.int (1 : Int32)), .unset, .unset]) rfl qk) ?_
      refine own_step (b := T53.setTop (mkF m 280 #[.val (.int p0), .val (.int p1), .val (.int p2), .val (.int p3), .val (.int p4), .val (.int (1 : Int32)), .val (.ref a1), .val (.ref a42), .val (.ref r46), .val (.int (1 : Int32)), .unset, .unset] [(.ref a1)])) (fun _ qk => XS.aload X53.here hx rfl (hb hby at_278) rfl rfl qk) ?_
      refine own_step (b := T53.setTop (mkF m 281 #[.val (.int p0), .val (.int p1), .val (.int p2), .val (.int p3), .val (.int p4), .val (.int (1 : Int32)), .val (.ref a1), .val (.ref a42), .val (.ref r46), .val (.int (1 : Int32)), .unset, .unset] [(.int (3 : Int32)), (.ref a1)])) (fun _ qk => XS.iconst X53.here hx rfl (hb hby at_280) qk) ?_
      refine own_step (b := T53.setTop (mkF m 283 #[.val (.int p0), .val (.int p1), .val (.int p2), .val (.int p3), .val (.int p4), .val (.int (1 : Int32)), .val (.ref a1), .val (.ref a42), .val (.ref r46), .val (.int (1 : Int32)), .unset, .unset] [(.int (1 : Int32)), (.int (3 : Int32)), (.ref a1)])) (fun _ qk => XS.iload X53.here hx rfl (hb hby at_281) rfl qk) ?_
      refine own_staticP (W := 0) (argsL := [(.ref a1), (.int (3 : Int32)), (.int (1 : Int32))]) (st := []) X53 hx hZ hown (own_w hw 55 rfl) (own_w hw 56 rfl) (own_w hw 3 rfl) (own_w hw 57 rfl) (by decide) e53 (rmSolF l Z a0 hw [] a1 (3 : Int32) (1 : Int32) T46.heap (by decide)) (by decide) (by decide) (by decide) (by decide) (by rw [hml]; rfl) (lenOf pd16 rfl) rfl (Nat.le_of_ble_eq_true rfl) (hb hby at_283) (fun T55 X55 e55 => ?_)
      show own_G p e below _ (T55.setTop (mkF m 286 #[.val (.int p0), .val (.int p1), .val (.int p2), .val (.int p3), .val (.int p4), .val (.int (1 : Int32)), .val (.ref a1), .val (.ref a42), .val (.ref r46), .val (.int (1 : Int32)), .unset, .unset] [(.int (own_bi false))]))
      refine own_if_eq X55 hx (hb hby at_286) (pc' := 293) (by decide) (by decide) (fun c286_56 => ?_) (fun c286_56 => absurd c286_56 (by decide))
      show own_G p e below _ (T55.setTop (mkF m 293 #[.val (.int p0), .val (.int p1), .val (.int p2), .val (.int p3), .val (.int p4), .val (.int (1 : Int32)), .val (.ref a1), .val (.ref a42), .val (.ref r46), .val (.int (1 : Int32)), .unset, .unset] []))
      refine own_step (b := T55.setTop (mkF m 295 #[.val (.int p0), .val (.int p1), .val (.int p2), .val (.int p3), .val (.int p4), .val (.int (1 : Int32)), .val (.ref a1), .val (.ref a42), .val (.ref r46), .val (.int (1 : Int32)), .unset, .unset] [(.ref a1)])) (fun _ qk => XS.aload X55.here hx rfl (hb hby at_293) rfl rfl qk) ?_
      refine own_step (b := T55.setTop (mkF m 296 #[.val (.int p0), .val (.int p1), .val (.int p2), .val (.int p3), .val (.int p4), .val (.int (1 : Int32)), .val (.ref a1), .val (.ref a42), .val (.ref r46), .val (.int (1 : Int32)), .unset, .unset] [(.int (2 : Int32)), (.ref a1)])) (fun _ qk => XS.iconst X55.here hx rfl (hb hby at_295) qk) ?_
      refine own_step (b := T55.setTop (mkF m 298 #[.val (.int p0), .val (.int p1), .val (.int p2), .val (.int p3), .val (.int p4), .val (.int (1 : Int32)), .val (.ref a1), .val (.ref a42), .val (.ref r46), .val (.int (1 : Int32)), .unset, .unset] [(.int (1 : Int32)), (.int (2 : Int32)), (.ref a1)])) (fun _ qk => XS.iload X55.here hx rfl (hb hby at_296) rfl qk) ?_
      refine own_staticP (W := 0) (argsL := [(.ref a1), (.int (2 : Int32)), (.int (1 : Int32))]) (st := []) X55 hx hZ hown (own_w hw 55 rfl) (own_w hw 56 rfl) (own_w hw 3 rfl) (own_w hw 57 rfl) (by decide) e55 (rmSolF l Z a0 hw [] a1 (2 : Int32) (1 : Int32) T46.heap (by decide)) (by decide) (by decide) (by decide) (by decide) (by rw [hml]; rfl) (lenOf pd16 rfl) rfl (Nat.le_of_ble_eq_true rfl) (hb hby at_298) (fun T57 X57 e57 => ?_)
      show own_G p e below _ (T57.setTop (mkF m 301 #[.val (.int p0), .val (.int p1), .val (.int p2), .val (.int p3), .val (.int p4), .val (.int (1 : Int32)), .val (.ref a1), .val (.ref a42), .val (.ref r46), .val (.int (1 : Int32)), .unset, .unset] [(.int (own_bi false))]))
      refine own_if_eq X57 hx (hb hby at_301) (pc' := 308) (by decide) (by decide) (fun c301_58 => ?_) (fun c301_58 => absurd c301_58 (by decide))
      show own_G p e below _ (T57.setTop (mkF m 308 #[.val (.int p0), .val (.int p1), .val (.int p2), .val (.int p3), .val (.int p4), .val (.int (1 : Int32)), .val (.ref a1), .val (.ref a42), .val (.ref r46), .val (.int (1 : Int32)), .unset, .unset] []))
      refine own_step (b := T57.setTop (mkF m 310 #[.val (.int p0), .val (.int p1), .val (.int p2), .val (.int p3), .val (.int p4), .val (.int (1 : Int32)), .val (.ref a1), .val (.ref a42), .val (.ref r46), .val (.int (1 : Int32)), .unset, .unset] [(.ref a1)])) (fun _ qk => XS.aload X57.here hx rfl (hb hby at_308) rfl rfl qk) ?_
      refine own_step (b := T57.setTop (mkF m 311 #[.val (.int p0), .val (.int p1), .val (.int p2), .val (.int p3), .val (.int p4), .val (.int (1 : Int32)), .val (.ref a1), .val (.ref a42), .val (.ref r46), .val (.int (1 : Int32)), .unset, .unset] [(.int (1 : Int32)), (.ref a1)])) (fun _ qk => XS.iconst X57.here hx rfl (hb hby at_310) qk) ?_
      refine own_step (b := T57.setTop (mkF m 313 #[.val (.int p0), .val (.int p1), .val (.int p2), .val (.int p3), .val (.int p4), .val (.int (1 : Int32)), .val (.ref a1), .val (.ref a42), .val (.ref r46), .val (.int (1 : Int32)), .unset, .unset] [(.int (1 : Int32)), (.int (1 : Int32)), (.ref a1)])) (fun _ qk => XS.iload X57.here hx rfl (hb hby at_311) rfl qk) ?_
      refine own_staticP (W := 0) (argsL := [(.ref a1), (.int (1 : Int32)), (.int (1 : Int32))]) (st := []) X57 hx hZ hown (own_w hw 55 rfl) (own_w hw 56 rfl) (own_w hw 3 rfl) (own_w hw 57 rfl) (by decide) e57 (rmSolF l Z a0 hw [] a1 (1 : Int32) (1 : Int32) T46.heap (by decide)) (by decide) (by decide) (by decide) (by decide) (by rw [hml]; rfl) (lenOf pd16 rfl) rfl (Nat.le_of_ble_eq_true rfl) (hb hby at_313) (fun T59 X59 e59 => ?_)
      show own_G p e below _ (T59.setTop (mkF m 316 #[.val (.int p0), .val (.int p1), .val (.int p2), .val (.int p3), .val (.int p4), .val (.int (1 : Int32)), .val (.ref a1), .val (.ref a42), .val (.ref r46), .val (.int (1 : Int32)), .unset, .unset] [(.int (own_bi false))]))
      refine own_if_eq X59 hx (hb hby at_316) (pc' := 323) (by decide) (by decide) (fun c316_60 => ?_) (fun c316_60 => absurd c316_60 (by decide))
      show own_G p e below _ (T59.setTop (mkF m 323 #[.val (.int p0), .val (.int p1), .val (.int p2), .val (.int p3), .val (.int p4), .val (.int (1 : Int32)), .val (.ref a1), .val (.ref a42), .val (.ref r46), .val (.int (1 : Int32)), .unset, .unset] []))
      refine own_step (b := T59.setTop (mkF m 325 #[.val (.int p0), .val (.int p1), .val (.int p2), .val (.int p3), .val (.int p4), .val (.int (1 : Int32)), .val (.ref a1), .val (.ref a42), .val (.ref r46), .val (.int (1 : Int32)), .unset, .unset] [(.ref a1)])) (fun _ qk => XS.aload X59.here hx rfl (hb hby at_323) rfl rfl qk) ?_
      refine own_step (b := T59.setTop (mkF m 326 #[.val (.int p0), .val (.int p1), .val (.int p2), .val (.int p3), .val (.int p4), .val (.int (1 : Int32)), .val (.ref a1), .val (.ref a42), .val (.ref r46), .val (.int (1 : Int32)), .unset, .unset] [(.int (0 : Int32)), (.ref a1)])) (fun _ qk => XS.iconst X59.here hx rfl (hb hby at_325) qk) ?_
      refine own_step (b := T59.setTop (mkF m 328 #[.val (.int p0), .val (.int p1), .val (.int p2), .val (.int p3), .val (.int p4), .val (.int (1 : Int32)), .val (.ref a1), .val (.ref a42), .val (.ref r46), .val (.int (1 : Int32)), .unset, .unset] [(.int (1 : Int32)), (.int (0 : Int32)), (.ref a1)])) (fun _ qk => XS.iload X59.here hx rfl (hb hby at_326) rfl qk) ?_
      refine own_staticP (W := 0) (argsL := [(.ref a1), (.int (0 : Int32)), (.int (1 : Int32))]) (st := []) X59 hx hZ hown (own_w hw 55 rfl) (own_w hw 56 rfl) (own_w hw 3 rfl) (own_w hw 57 rfl) (by decide) e59 (rmSol0 l Z a0 hw [] a1 k1 c0 c1 c2 c3 T46.heap V46 (1 : Int32) (by decide)) (by decide) (by decide) (by decide) (by decide) (by rw [hml]; rfl) (lenOf pd16 rfl) rfl (Nat.le_of_ble_eq_true rfl) (hb hby at_328) (fun T61 X61 e61 => ?_)
      show own_G p e below _ (T61.setTop (mkF m 331 #[.val (.int p0), .val (.int p1), .val (.int p2), .val (.int p3), .val (.int p4), .val (.int (1 : Int32)), .val (.ref a1), .val (.ref a42), .val (.ref r46), .val (.int (1 : Int32)), .unset, .unset] [(.int (own_bi (!own_bl c0)))]))
      refine own_if_eq X61 hx (hb hby at_331) (pc' := 338) (by decide) (by decide) (fun c331_62 => ?_) (fun c331_62 => absurd c331_62 (by rw [c222_48b]; decide))
      show own_G p e below _ (T61.setTop (mkF m 338 #[.val (.int p0), .val (.int p1), .val (.int p2), .val (.int p3), .val (.int p4), .val (.int (1 : Int32)), .val (.ref a1), .val (.ref a42), .val (.ref r46), .val (.int (1 : Int32)), .unset, .unset] []))
      refine own_step (b := T61.setTop (mkF m 340 #[.val (.int p0), .val (.int p1), .val (.int p2), .val (.int p3), .val (.int p4), .val (.int (1 : Int32)), .val (.ref a1), .val (.ref a42), .val (.ref r46), .val (.int (1 : Int32)), .unset, .unset] [(.int (1 : Int32))])) (fun _ qk => XS.iload X61.here hx rfl (hb hby at_338) rfl qk) ?_
      refine own_step (b := T61.setTop (mkF m 342 #[.val (.int p0), .val (.int p1), .val (.int p2), .val (.int p3), .val (.int p4), .val (.int (1 : Int32)), .val (.ref a1), .val (.ref a42), .val (.ref r46), .val (.int (1 : Int32)), .val (.int (1 : Int32)), .unset] [])) (fun _ qk => XS.istore X61.here hx rfl (hb hby at_340) rfl (l' := #[.val (.int p0), .val (.int p1), .val (.int p2), .val (.int p3), .val (.int p4), .val (.int (1 : Int32)), .val (.ref a1), .val (.ref a42), .val (.ref r46), .val (.int (1 : Int32)), .val (.int (1 : Int32)), .unset]) rfl qk) ?_
      have c222_48bn := c222_48b
      simp only [Bool.not_eq_true', Bool.not_eq_false'] at c222_48bn
      refine J T61 _ _ _ r46 a42 _ 1 1 [] (X61.more (by decide) (by decide)) hS (by rw [show T61.heap = T46.heap from e61]; omega) hZ hown N46 (by rw [show T61.heap = T46.heap from e61]; exact OL46) (by rw [show T61.heap = T46.heap from e61]; exact V46) ?_ (by decide) (by decide) rfl ?_
      · rw [show T61.heap = T46.heap from e61]; have q := SR46; rw [show own_strip [c0] = [] by simp [own_strip, List.dropWhile, c222_48bn]] at q; exact q
      · intro q hq; have hq' : q < 0 := hq; exact match q, hq' with  | q + 0, h_ => absurd h_ (by omega)
    · show own_G p e below _ (T47.setTop (mkF m 225 #[.val (.int p0), .val (.int p1), .val (.int p2), .val (.int p3), .val (.int p4), .val (.int (1 : Int32)), .val (.ref a1), .val (.ref a42), .val (.ref r46), .unset, .unset, .unset] []))
      have c222_48b : (!own_bl c0) = true := own_bi_t c222_48
      refine own_step (b := T47.setTop (mkF m 226 #[.val (.int p0), .val (.int p1), .val (.int p2), .val (.int p3), .val (.int p4), .val (.int (1 : Int32)), .val (.ref a1), .val (.ref a42), .val (.ref r46), .unset, .unset, .unset] [(.int (0 : Int32))])) (fun _ qk => XS.iconst X47.here hx rfl (hb hby at_225) qk) ?_
      refine own_step (b := T47.setTop (mkF m 276 #[.val (.int p0), .val (.int p1), .val (.int p2), .val (.int p3), .val (.int p4), .val (.int (1 : Int32)), .val (.ref a1), .val (.ref a42), .val (.ref r46), .unset, .unset, .unset] [(.int (0 : Int32))])) (fun _ qk => XS.goto X47.here hx rfl (pc0 := 226) (pc' := 276) rfl (hb hby at_226) (by decide) (by decide) qk) ?_
      refine own_step (b := T47.setTop (mkF m 278 #[.val (.int p0), .val (.int p1), .val (.int p2), .val (.int p3), .val (.int p4), .val (.int (1 : Int32)), .val (.ref a1), .val (.ref a42), .val (.ref r46), .val (.int (0 : Int32)), .unset, .unset] [])) (fun _ qk => XS.istore X47.here hx rfl (hb hby at_276) rfl (l' := #[.val (.int p0), .val (.int p1), .val (.int p2), .val (.int p3), .val (.int p4), .val (.int (1 : Int32)), .val (.ref a1), .val (.ref a42), .val (.ref r46), .val (.int (0 : Int32)), .unset, .unset]) rfl qk) ?_
      refine own_step (b := T47.setTop (mkF m 280 #[.val (.int p0), .val (.int p1), .val (.int p2), .val (.int p3), .val (.int p4), .val (.int (1 : Int32)), .val (.ref a1), .val (.ref a42), .val (.ref r46), .val (.int (0 : Int32)), .unset, .unset] [(.ref a1)])) (fun _ qk => XS.aload X47.here hx rfl (hb hby at_278) rfl rfl qk) ?_
      refine own_step (b := T47.setTop (mkF m 281 #[.val (.int p0), .val (.int p1), .val (.int p2), .val (.int p3), .val (.int p4), .val (.int (1 : Int32)), .val (.ref a1), .val (.ref a42), .val (.ref r46), .val (.int (0 : Int32)), .unset, .unset] [(.int (3 : Int32)), (.ref a1)])) (fun _ qk => XS.iconst X47.here hx rfl (hb hby at_280) qk) ?_
      refine own_step (b := T47.setTop (mkF m 283 #[.val (.int p0), .val (.int p1), .val (.int p2), .val (.int p3), .val (.int p4), .val (.int (1 : Int32)), .val (.ref a1), .val (.ref a42), .val (.ref r46), .val (.int (0 : Int32)), .unset, .unset] [(.int (1 : Int32)), (.int (3 : Int32)), (.ref a1)])) (fun _ qk => XS.iload X47.here hx rfl (hb hby at_281) rfl qk) ?_
      refine own_staticP (W := 0) (argsL := [(.ref a1), (.int (3 : Int32)), (.int (1 : Int32))]) (st := []) X47 hx hZ hown (own_w hw 55 rfl) (own_w hw 56 rfl) (own_w hw 3 rfl) (own_w hw 57 rfl) (by decide) e47 (rmSolF l Z a0 hw [] a1 (3 : Int32) (1 : Int32) T46.heap (by decide)) (by decide) (by decide) (by decide) (by decide) (by rw [hml]; rfl) (lenOf pd16 rfl) rfl (Nat.le_of_ble_eq_true rfl) (hb hby at_283) (fun T63 X63 e63 => ?_)
      show own_G p e below _ (T63.setTop (mkF m 286 #[.val (.int p0), .val (.int p1), .val (.int p2), .val (.int p3), .val (.int p4), .val (.int (1 : Int32)), .val (.ref a1), .val (.ref a42), .val (.ref r46), .val (.int (0 : Int32)), .unset, .unset] [(.int (own_bi false))]))
      refine own_if_eq X63 hx (hb hby at_286) (pc' := 293) (by decide) (by decide) (fun c286_64 => ?_) (fun c286_64 => absurd c286_64 (by decide))
      show own_G p e below _ (T63.setTop (mkF m 293 #[.val (.int p0), .val (.int p1), .val (.int p2), .val (.int p3), .val (.int p4), .val (.int (1 : Int32)), .val (.ref a1), .val (.ref a42), .val (.ref r46), .val (.int (0 : Int32)), .unset, .unset] []))
      refine own_step (b := T63.setTop (mkF m 295 #[.val (.int p0), .val (.int p1), .val (.int p2), .val (.int p3), .val (.int p4), .val (.int (1 : Int32)), .val (.ref a1), .val (.ref a42), .val (.ref r46), .val (.int (0 : Int32)), .unset, .unset] [(.ref a1)])) (fun _ qk => XS.aload X63.here hx rfl (hb hby at_293) rfl rfl qk) ?_
      refine own_step (b := T63.setTop (mkF m 296 #[.val (.int p0), .val (.int p1), .val (.int p2), .val (.int p3), .val (.int p4), .val (.int (1 : Int32)), .val (.ref a1), .val (.ref a42), .val (.ref r46), .val (.int (0 : Int32)), .unset, .unset] [(.int (2 : Int32)), (.ref a1)])) (fun _ qk => XS.iconst X63.here hx rfl (hb hby at_295) qk) ?_
      refine own_step (b := T63.setTop (mkF m 298 #[.val (.int p0), .val (.int p1), .val (.int p2), .val (.int p3), .val (.int p4), .val (.int (1 : Int32)), .val (.ref a1), .val (.ref a42), .val (.ref r46), .val (.int (0 : Int32)), .unset, .unset] [(.int (1 : Int32)), (.int (2 : Int32)), (.ref a1)])) (fun _ qk => XS.iload X63.here hx rfl (hb hby at_296) rfl qk) ?_
      refine own_staticP (W := 0) (argsL := [(.ref a1), (.int (2 : Int32)), (.int (1 : Int32))]) (st := []) X63 hx hZ hown (own_w hw 55 rfl) (own_w hw 56 rfl) (own_w hw 3 rfl) (own_w hw 57 rfl) (by decide) e63 (rmSolF l Z a0 hw [] a1 (2 : Int32) (1 : Int32) T46.heap (by decide)) (by decide) (by decide) (by decide) (by decide) (by rw [hml]; rfl) (lenOf pd16 rfl) rfl (Nat.le_of_ble_eq_true rfl) (hb hby at_298) (fun T65 X65 e65 => ?_)
      show own_G p e below _ (T65.setTop (mkF m 301 #[.val (.int p0), .val (.int p1), .val (.int p2), .val (.int p3), .val (.int p4), .val (.int (1 : Int32)), .val (.ref a1), .val (.ref a42), .val (.ref r46), .val (.int (0 : Int32)), .unset, .unset] [(.int (own_bi false))]))
      refine own_if_eq X65 hx (hb hby at_301) (pc' := 308) (by decide) (by decide) (fun c301_66 => ?_) (fun c301_66 => absurd c301_66 (by decide))
      show own_G p e below _ (T65.setTop (mkF m 308 #[.val (.int p0), .val (.int p1), .val (.int p2), .val (.int p3), .val (.int p4), .val (.int (1 : Int32)), .val (.ref a1), .val (.ref a42), .val (.ref r46), .val (.int (0 : Int32)), .unset, .unset] []))
      refine own_step (b := T65.setTop (mkF m 310 #[.val (.int p0), .val (.int p1), .val (.int p2), .val (.int p3), .val (.int p4), .val (.int (1 : Int32)), .val (.ref a1), .val (.ref a42), .val (.ref r46), .val (.int (0 : Int32)), .unset, .unset] [(.ref a1)])) (fun _ qk => XS.aload X65.here hx rfl (hb hby at_308) rfl rfl qk) ?_
      refine own_step (b := T65.setTop (mkF m 311 #[.val (.int p0), .val (.int p1), .val (.int p2), .val (.int p3), .val (.int p4), .val (.int (1 : Int32)), .val (.ref a1), .val (.ref a42), .val (.ref r46), .val (.int (0 : Int32)), .unset, .unset] [(.int (1 : Int32)), (.ref a1)])) (fun _ qk => XS.iconst X65.here hx rfl (hb hby at_310) qk) ?_
      refine own_step (b := T65.setTop (mkF m 313 #[.val (.int p0), .val (.int p1), .val (.int p2), .val (.int p3), .val (.int p4), .val (.int (1 : Int32)), .val (.ref a1), .val (.ref a42), .val (.ref r46), .val (.int (0 : Int32)), .unset, .unset] [(.int (1 : Int32)), (.int (1 : Int32)), (.ref a1)])) (fun _ qk => XS.iload X65.here hx rfl (hb hby at_311) rfl qk) ?_
      refine own_staticP (W := 0) (argsL := [(.ref a1), (.int (1 : Int32)), (.int (1 : Int32))]) (st := []) X65 hx hZ hown (own_w hw 55 rfl) (own_w hw 56 rfl) (own_w hw 3 rfl) (own_w hw 57 rfl) (by decide) e65 (rmSolF l Z a0 hw [] a1 (1 : Int32) (1 : Int32) T46.heap (by decide)) (by decide) (by decide) (by decide) (by decide) (by rw [hml]; rfl) (lenOf pd16 rfl) rfl (Nat.le_of_ble_eq_true rfl) (hb hby at_313) (fun T67 X67 e67 => ?_)
      show own_G p e below _ (T67.setTop (mkF m 316 #[.val (.int p0), .val (.int p1), .val (.int p2), .val (.int p3), .val (.int p4), .val (.int (1 : Int32)), .val (.ref a1), .val (.ref a42), .val (.ref r46), .val (.int (0 : Int32)), .unset, .unset] [(.int (own_bi false))]))
      refine own_if_eq X67 hx (hb hby at_316) (pc' := 323) (by decide) (by decide) (fun c316_68 => ?_) (fun c316_68 => absurd c316_68 (by decide))
      show own_G p e below _ (T67.setTop (mkF m 323 #[.val (.int p0), .val (.int p1), .val (.int p2), .val (.int p3), .val (.int p4), .val (.int (1 : Int32)), .val (.ref a1), .val (.ref a42), .val (.ref r46), .val (.int (0 : Int32)), .unset, .unset] []))
      refine own_step (b := T67.setTop (mkF m 325 #[.val (.int p0), .val (.int p1), .val (.int p2), .val (.int p3), .val (.int p4), .val (.int (1 : Int32)), .val (.ref a1), .val (.ref a42), .val (.ref r46), .val (.int (0 : Int32)), .unset, .unset] [(.ref a1)])) (fun _ qk => XS.aload X67.here hx rfl (hb hby at_323) rfl rfl qk) ?_
      refine own_step (b := T67.setTop (mkF m 326 #[.val (.int p0), .val (.int p1), .val (.int p2), .val (.int p3), .val (.int p4), .val (.int (1 : Int32)), .val (.ref a1), .val (.ref a42), .val (.ref r46), .val (.int (0 : Int32)), .unset, .unset] [(.int (0 : Int32)), (.ref a1)])) (fun _ qk => XS.iconst X67.here hx rfl (hb hby at_325) qk) ?_
      refine own_step (b := T67.setTop (mkF m 328 #[.val (.int p0), .val (.int p1), .val (.int p2), .val (.int p3), .val (.int p4), .val (.int (1 : Int32)), .val (.ref a1), .val (.ref a42), .val (.ref r46), .val (.int (0 : Int32)), .unset, .unset] [(.int (1 : Int32)), (.int (0 : Int32)), (.ref a1)])) (fun _ qk => XS.iload X67.here hx rfl (hb hby at_326) rfl qk) ?_
      refine own_staticP (W := 0) (argsL := [(.ref a1), (.int (0 : Int32)), (.int (1 : Int32))]) (st := []) X67 hx hZ hown (own_w hw 55 rfl) (own_w hw 56 rfl) (own_w hw 3 rfl) (own_w hw 57 rfl) (by decide) e67 (rmSol0 l Z a0 hw [] a1 k1 c0 c1 c2 c3 T46.heap V46 (1 : Int32) (by decide)) (by decide) (by decide) (by decide) (by decide) (by rw [hml]; rfl) (lenOf pd16 rfl) rfl (Nat.le_of_ble_eq_true rfl) (hb hby at_328) (fun T69 X69 e69 => ?_)
      show own_G p e below _ (T69.setTop (mkF m 331 #[.val (.int p0), .val (.int p1), .val (.int p2), .val (.int p3), .val (.int p4), .val (.int (1 : Int32)), .val (.ref a1), .val (.ref a42), .val (.ref r46), .val (.int (0 : Int32)), .unset, .unset] [(.int (own_bi (!own_bl c0)))]))
      refine own_if_eq X69 hx (hb hby at_331) (pc' := 338) (by decide) (by decide) (fun c331_70 => absurd c331_70 (by rw [c222_48b]; decide)) (fun c331_70 => ?_)
      show own_G p e below _ (T69.setTop (mkF m 334 #[.val (.int p0), .val (.int p1), .val (.int p2), .val (.int p3), .val (.int p4), .val (.int (1 : Int32)), .val (.ref a1), .val (.ref a42), .val (.ref r46), .val (.int (0 : Int32)), .unset, .unset] []))
      refine own_step (b := T69.setTop (mkF m 335 #[.val (.int p0), .val (.int p1), .val (.int p2), .val (.int p3), .val (.int p4), .val (.int (1 : Int32)), .val (.ref a1), .val (.ref a42), .val (.ref r46), .val (.int (0 : Int32)), .unset, .unset] [(.int (1 : Int32))])) (fun _ qk => XS.iconst X69.here hx rfl (hb hby at_334) qk) ?_
      refine own_step (b := T69.setTop (mkF m 340 #[.val (.int p0), .val (.int p1), .val (.int p2), .val (.int p3), .val (.int p4), .val (.int (1 : Int32)), .val (.ref a1), .val (.ref a42), .val (.ref r46), .val (.int (0 : Int32)), .unset, .unset] [(.int (1 : Int32))])) (fun _ qk => XS.goto X69.here hx rfl (pc0 := 335) (pc' := 340) rfl (hb hby at_335) (by decide) (by decide) qk) ?_
      refine own_step (b := T69.setTop (mkF m 342 #[.val (.int p0), .val (.int p1), .val (.int p2), .val (.int p3), .val (.int p4), .val (.int (1 : Int32)), .val (.ref a1), .val (.ref a42), .val (.ref r46), .val (.int (0 : Int32)), .val (.int (1 : Int32)), .unset] [])) (fun _ qk => XS.istore X69.here hx rfl (hb hby at_340) rfl (l' := #[.val (.int p0), .val (.int p1), .val (.int p2), .val (.int p3), .val (.int p4), .val (.int (1 : Int32)), .val (.ref a1), .val (.ref a42), .val (.ref r46), .val (.int (0 : Int32)), .val (.int (1 : Int32)), .unset]) rfl qk) ?_
      have c222_48bn := c222_48b
      simp only [Bool.not_eq_true', Bool.not_eq_false'] at c222_48bn
      refine J T69 _ _ _ r46 a42 _ 0 1 [c0] (X69.more (by decide) (by decide)) hS (by rw [show T69.heap = T46.heap from e69]; omega) hZ hown N46 (by rw [show T69.heap = T46.heap from e69]; exact OL46) (by rw [show T69.heap = T46.heap from e69]; exact V46) ?_ (by decide) (by decide) rfl ?_
      · rw [show T69.heap = T46.heap from e69]; have q := SR46; rw [show own_strip [c0] = [c0] by simp [own_strip, List.dropWhile, c222_48bn]] at q; exact q
      · intro q hq; have hq' : q < 1 := hq; exact match q, hq' with | 0, _ => rfl | q + 1, h_ => absurd h_ (by omega)
  · show own_G p e below _ (T9.setTop (mkF m 42 #[.val (.int p0), .val (.int p1), .val (.int p2), .val (.int p3), .val (.int p4), .val (.int (2 : Int32)), .val (.ref a1), .unset, .unset, .unset, .unset, .unset] []))
    show own_G p e below _ (T9.setTop (mkF m 42 #[.val (.int p0), .val (.int p1), .val (.int p2), .val (.int p3), .val (.int p4), .val (.int (2 : Int32)), .val (.ref a1), .unset, .unset, .unset, .unset, .unset] []))
    refine own_step (b := T9.setTop (mkF m 44 #[.val (.int p0), .val (.int p1), .val (.int p2), .val (.int p3), .val (.int p4), .val (.int (2 : Int32)), .val (.ref a1), .unset, .unset, .unset, .unset, .unset] [(.int (2 : Int32))])) (fun _ qk => XS.iload X9.here hx rfl (hb hby at_42) rfl qk) ?_
    refine own_if_ne X9 hx (hb hby at_44) (pc' := 62) (by decide) (by decide) (fun c44_71 => ?_) (fun c44_71 => absurd c44_71 (by decide))
    show own_G p e below _ (T9.setTop (mkF m 62 #[.val (.int p0), .val (.int p1), .val (.int p2), .val (.int p3), .val (.int p4), .val (.int (2 : Int32)), .val (.ref a1), .unset, .unset, .unset, .unset, .unset] []))
    refine own_step (b := T9.setTop (mkF m 64 #[.val (.int p0), .val (.int p1), .val (.int p2), .val (.int p3), .val (.int p4), .val (.int (2 : Int32)), .val (.ref a1), .unset, .unset, .unset, .unset, .unset] [(.int (2 : Int32))])) (fun _ qk => XS.iload X9.here hx rfl (hb hby at_62) rfl qk) ?_
    refine own_step (b := T9.setTop (mkF m 65 #[.val (.int p0), .val (.int p1), .val (.int p2), .val (.int p3), .val (.int p4), .val (.int (2 : Int32)), .val (.ref a1), .unset, .unset, .unset, .unset, .unset] [(.int (1 : Int32)), (.int (2 : Int32))])) (fun _ qk => XS.iconst X9.here hx rfl (hb hby at_64) qk) ?_
    refine own_icmp_ne X9 hx (hb hby at_65) (pc' := 90) (by decide) (by decide) (fun c65_72 => ?_) (fun c65_72 => absurd c65_72 (by decide))
    show own_G p e below _ (T9.setTop (mkF m 90 #[.val (.int p0), .val (.int p1), .val (.int p2), .val (.int p3), .val (.int p4), .val (.int (2 : Int32)), .val (.ref a1), .unset, .unset, .unset, .unset, .unset] []))
    refine own_step (b := T9.setTop (mkF m 92 #[.val (.int p0), .val (.int p1), .val (.int p2), .val (.int p3), .val (.int p4), .val (.int (2 : Int32)), .val (.ref a1), .unset, .unset, .unset, .unset, .unset] [(.int (2 : Int32))])) (fun _ qk => XS.iload X9.here hx rfl (hb hby at_90) rfl qk) ?_
    refine own_step (b := T9.setTop (mkF m 93 #[.val (.int p0), .val (.int p1), .val (.int p2), .val (.int p3), .val (.int p4), .val (.int (2 : Int32)), .val (.ref a1), .unset, .unset, .unset, .unset, .unset] [(.int (2 : Int32)), (.int (2 : Int32))])) (fun _ qk => XS.iconst X9.here hx rfl (hb hby at_92) qk) ?_
    refine own_icmp_ne X9 hx (hb hby at_93) (pc' := 125) (by decide) (by decide) (fun c93_73 => absurd c93_73 (by decide)) (fun c93_73 => ?_)
    show own_G p e below _ (T9.setTop (mkF m 96 #[.val (.int p0), .val (.int p1), .val (.int p2), .val (.int p3), .val (.int p4), .val (.int (2 : Int32)), .val (.ref a1), .unset, .unset, .unset, .unset, .unset] []))
    refine own_newO X9 hx hZ hown (own_w hw 5 rfl) (own_w hw 6 rfl) (own_w hw 7 rfl) e9 (hb hby at_96) (by decide) (by decide) (fun T74 h74 a74 X74 e74 g74 l74 E74 A74 D74 => ?_)
    show own_G p e below _ (T74.setTop (mkF m 99 #[.val (.int p0), .val (.int p1), .val (.int p2), .val (.int p3), .val (.int p4), .val (.int (2 : Int32)), .val (.ref a1), .unset, .unset, .unset, .unset, .unset] [(.ref a74)]))
    have OL74 := OL9.ext E74
    refine own_step (b := T74.setTop (mkF m 100 #[.val (.int p0), .val (.int p1), .val (.int p2), .val (.int p3), .val (.int p4), .val (.int (2 : Int32)), .val (.ref a1), .unset, .unset, .unset, .unset, .unset] [(.ref a74), (.ref a74)])) (fun _ qk => XS.dup X74.here hx rfl (hb hby at_99) rfl rfl qk) ?_
    refine own_step (b := T74.setTop (mkF m 101 #[.val (.int p0), .val (.int p1), .val (.int p2), .val (.int p3), .val (.int p4), .val (.int (2 : Int32)), .val (.ref a1), .unset, .unset, .unset, .unset, .unset] [(.int (2 : Int32)), (.ref a74), (.ref a74)])) (fun _ qk => XS.iconst X74.here hx rfl (hb hby at_100) qk) ?_
    refine own_newP X74 hx hZ (own_w hw 0 rfl) e74 (hb hby at_101) (n := (2 : Int32)) (by decide) 2 (by decide) (by decide) (by decide) (by decide) (fun T75 h75 a75 k75 X75 e75 g75 l75 E75 V75 => ?_)
    have V75' : Arv Z h75 a75 k75 .char (2 : Int32) [.int 0, .int 0] (.int 0) := V75
    show own_G p e below _ (T75.setTop (mkF m 103 #[.val (.int p0), .val (.int p1), .val (.int p2), .val (.int p3), .val (.int p4), .val (.int (2 : Int32)), .val (.ref a1), .unset, .unset, .unset, .unset, .unset] [(.ref a75), (.ref a74), (.ref a74)]))
    have OL75 := OL74.ext E75
    have KF75 := (Keep.refl h75 [a75])
    have VA75 := (V9s.ext E74).ext E75
    refine own_step (b := T75.setTop (mkF m 104 #[.val (.int p0), .val (.int p1), .val (.int p2), .val (.int p3), .val (.int p4), .val (.int (2 : Int32)), .val (.ref a1), .unset, .unset, .unset, .unset, .unset] [(.ref a75), (.ref a75), (.ref a74), (.ref a74)])) (fun _ qk => XS.dup X75.here hx rfl (hb hby at_103) rfl rfl qk) ?_
    refine own_step (b := T75.setTop (mkF m 105 #[.val (.int p0), .val (.int p1), .val (.int p2), .val (.int p3), .val (.int p4), .val (.int (2 : Int32)), .val (.ref a1), .unset, .unset, .unset, .unset, .unset] [(.int (0 : Int32)), (.ref a75), (.ref a75), (.ref a74), (.ref a74)])) (fun _ qk => XS.iconst X75.here hx rfl (hb hby at_104) qk) ?_
    refine own_step (b := T75.setTop (mkF m 107 #[.val (.int p0), .val (.int p1), .val (.int p2), .val (.int p3), .val (.int p4), .val (.int (2 : Int32)), .val (.ref a1), .unset, .unset, .unset, .unset, .unset] [(.ref a1), (.int (0 : Int32)), (.ref a75), (.ref a75), (.ref a74), (.ref a74)])) (fun _ qk => XS.aload X75.here hx rfl (hb hby at_105) rfl rfl qk) ?_
    refine own_step (b := T75.setTop (mkF m 108 #[.val (.int p0), .val (.int p1), .val (.int p2), .val (.int p3), .val (.int p4), .val (.int (2 : Int32)), .val (.ref a1), .unset, .unset, .unset, .unset, .unset] [(.int (0 : Int32)), (.ref a1), (.int (0 : Int32)), (.ref a75), (.ref a75), (.ref a74), (.ref a74)])) (fun _ qk => XS.iconst X75.here hx rfl (hb hby at_107) qk) ?_
    refine own_ldC X75 hx hZ e75 VA75 0 (by decide) (by decide) (by decide) (v := (.int c0)) rfl (hb hby at_108) ?_
    show own_G p e below _ (T75.setTop (mkF m 109 #[.val (.int p0), .val (.int p1), .val (.int p2), .val (.int p3), .val (.int p4), .val (.int (2 : Int32)), .val (.ref a1), .unset, .unset, .unset, .unset, .unset] [(.int c0), (.int (0 : Int32)), (.ref a75), (.ref a75), (.ref a74), (.ref a74)]))
    refine own_stC X75 hx hZ e75 V75' 0 (by decide) (by decide) (by decide) (Nat.le_of_ble_eq_true rfl) N9 (by omega) (hb hby at_109) (fun T76 h76 X76 e76 N76 W76 z76 V76 => ?_)
    have V76' : Arv Z h76 a75 k75 .char (2 : Int32) [.int (nar .char c0), .int 0] (.int 0) := V76
    show own_G p e below _ (T76.setTop (mkF m 110 #[.val (.int p0), .val (.int p1), .val (.int p2), .val (.int p3), .val (.int p4), .val (.int (2 : Int32)), .val (.ref a1), .unset, .unset, .unset, .unset, .unset] [(.ref a75), (.ref a74), (.ref a74)]))
    have V76s : Arv Z h76 a75 k75 .char (2 : Int32) [.int c0, .int 0] (.int 0) := by have q := V76'; rw [own_narC hc0.1 hc0.2] at q; exact q
    have OL76 := OL75.wr W76 (by omega)
    have KF76 := KF75.wr W76 (Or.inl (List.mem_singleton.mpr rfl))
    have VA76 := VA75.other W76 (own_ne (by omega))
    refine own_step (b := T76.setTop (mkF m 111 #[.val (.int p0), .val (.int p1), .val (.int p2), .val (.int p3), .val (.int p4), .val (.int (2 : Int32)), .val (.ref a1), .unset, .unset, .unset, .unset, .unset] [(.ref a75), (.ref a75), (.ref a74), (.ref a74)])) (fun _ qk => XS.dup X76.here hx rfl (hb hby at_110) rfl rfl qk) ?_
    refine own_step (b := T76.setTop (mkF m 112 #[.val (.int p0), .val (.int p1), .val (.int p2), .val (.int p3), .val (.int p4), .val (.int (2 : Int32)), .val (.ref a1), .unset, .unset, .unset, .unset, .unset] [(.int (1 : Int32)), (.ref a75), (.ref a75), (.ref a74), (.ref a74)])) (fun _ qk => XS.iconst X76.here hx rfl (hb hby at_111) qk) ?_
    refine own_step (b := T76.setTop (mkF m 114 #[.val (.int p0), .val (.int p1), .val (.int p2), .val (.int p3), .val (.int p4), .val (.int (2 : Int32)), .val (.ref a1), .unset, .unset, .unset, .unset, .unset] [(.ref a1), (.int (1 : Int32)), (.ref a75), (.ref a75), (.ref a74), (.ref a74)])) (fun _ qk => XS.aload X76.here hx rfl (hb hby at_112) rfl rfl qk) ?_
    refine own_step (b := T76.setTop (mkF m 115 #[.val (.int p0), .val (.int p1), .val (.int p2), .val (.int p3), .val (.int p4), .val (.int (2 : Int32)), .val (.ref a1), .unset, .unset, .unset, .unset, .unset] [(.int (1 : Int32)), (.ref a1), (.int (1 : Int32)), (.ref a75), (.ref a75), (.ref a74), (.ref a74)])) (fun _ qk => XS.iconst X76.here hx rfl (hb hby at_114) qk) ?_
    refine own_ldC X76 hx hZ e76 VA76 1 (by decide) (by decide) (by decide) (v := (.int c1)) rfl (hb hby at_115) ?_
    show own_G p e below _ (T76.setTop (mkF m 116 #[.val (.int p0), .val (.int p1), .val (.int p2), .val (.int p3), .val (.int p4), .val (.int (2 : Int32)), .val (.ref a1), .unset, .unset, .unset, .unset, .unset] [(.int c1), (.int (1 : Int32)), (.ref a75), (.ref a75), (.ref a74), (.ref a74)]))
    refine own_stC X76 hx hZ e76 V76s 1 (by decide) (by decide) (by decide) (Nat.le_of_ble_eq_true rfl) N76 (by omega) (hb hby at_116) (fun T77 h77 X77 e77 N77 W77 z77 V77 => ?_)
    have V77' : Arv Z h77 a75 k75 .char (2 : Int32) [.int c0, .int (nar .char c1)] (.int 0) := V77
    show own_G p e below _ (T77.setTop (mkF m 117 #[.val (.int p0), .val (.int p1), .val (.int p2), .val (.int p3), .val (.int p4), .val (.int (2 : Int32)), .val (.ref a1), .unset, .unset, .unset, .unset, .unset] [(.ref a75), (.ref a74), (.ref a74)]))
    have V77s : Arv Z h77 a75 k75 .char (2 : Int32) [.int c0, .int c1] (.int 0) := by have q := V77'; rw [own_narC hc1.1 hc1.2] at q; exact q
    have OL77 := OL76.wr W77 (by omega)
    have KF77 := KF76.wr W77 (Or.inl (List.mem_singleton.mpr rfl))
    have VA77 := VA76.other W77 (own_ne (by omega))
    have hp : ∀ c ∈ ([c0, c1] : List Int32), ¬ c < 0 ∧ ¬ (255 : Int32) < c := (own_aS hc0 (own_aS hc1 own_a0))
    refine own_special (W := 1) (argsL := [(.ref a75)]) (a := a74) (st := [(.ref a74)]) X77 hx hZ hown rfl (own_w hw 8 rfl) (own_w hw 9 rfl) (own_w hw 10 rfl) (by decide) e77 (StrChars.Road.backV (W := 1) hZ hws (kI := 4) (own_w hw 6 rfl) (cs := ([c0, c1] : List Int32)) (bs := (([c0, c1] : List Int32)).map (fun c => c.toInt8.toInt32)) (n := 2) (n0 := Z.heap.size) (by omega) (by omega) ((A74.ext E75).keep KF77) (((D74 (Or.inr (own_w hw 20 rfl)) (ty := (.array .byte)) (by decide)).ext E75).keep KF77 (ninS (own_ne (by omega)) nin0)) (((D74 (Or.inr (own_w hw 21 rfl)) (ty := .byte) (by decide)).ext E75).keep KF77 (ninS (own_ne (by omega)) nin0)) V77s (O2.ext OL77.2) P5 rfl rfl (by decide) (by decide) hp rfl (by decide) (by decide)) (by decide) (by decide) (by rw [hml]; rfl) (lenOf pd14 rfl) rfl (Nat.le_of_ble_eq_true rfl) (hb hby at_117) (fun v78 T78 L78 X78 hQ78 => ?_)
    obtain ⟨rfl, M78, K78, E78, C78, t78, kb78, u78, uu78, uuu78, F78, B78⟩ := hQ78
    have z78 : h77.size ≤ T78.heap.size := K78.1
    have N78 := Fr.app N77 M78
    have OL78 := OL77.keep K78 (allS (by omega) all0)
    show own_G p e below _ (T78.setTop (mkF m 120 #[.val (.int p0), .val (.int p1), .val (.int p2), .val (.int p3), .val (.int p4), .val (.int (2 : Int32)), .val (.ref a1), .unset, .unset, .unset, .unset, .unset] [(.ref a74)]))
    have SS : own_Str Z T78.heap a74 [c0, c1] := own_mkStr (n := 2) rfl rfl E78 hp (by decide) C78 F78 B78
    have VA78 := VA77.keep K78 (ninS (own_ne (by omega)) nin0)
    refine own_step (b := T78.setTop (mkF m 122 #[.val (.int p0), .val (.int p1), .val (.int p2), .val (.int p3), .val (.int p4), .val (.int (2 : Int32)), .val (.ref a1), .val (.ref a74), .unset, .unset, .unset, .unset] [])) (fun _ qk => XS.astore X78.here hx rfl (hb hby at_120) rfl rfl (l' := #[.val (.int p0), .val (.int p1), .val (.int p2), .val (.int p3), .val (.int p4), .val (.int (2 : Int32)), .val (.ref a1), .val (.ref a74), .unset, .unset, .unset, .unset]) rfl qk) ?_
    refine own_step (b := T78.setTop (mkF m 207 #[.val (.int p0), .val (.int p1), .val (.int p2), .val (.int p3), .val (.int p4), .val (.int (2 : Int32)), .val (.ref a1), .val (.ref a74), .unset, .unset, .unset, .unset] [])) (fun _ qk => XS.goto X78.here hx rfl (pc0 := 122) (pc' := 207) rfl (hb hby at_122) (by decide) (by decide) qk) ?_
    refine own_step (b := T78.setTop (mkF m 209 #[.val (.int p0), .val (.int p1), .val (.int p2), .val (.int p3), .val (.int p4), .val (.int (2 : Int32)), .val (.ref a1), .val (.ref a74), .unset, .unset, .unset, .unset] [(.ref a74)])) (fun _ qk => XS.aload X78.here hx rfl (hb hby at_207) rfl rfl qk) ?_
    refine own_staticI (W := 0) (argsL := [(.ref a74)]) (st := []) X78 hx hZ hown (own_w hw 26 rfl) (own_w hw 27 rfl) (own_w hw 28 rfl) (own_w hw 29 rfl) (by decide) rfl hS (by omega) (rmStrip2 l Z a0 hw [] a74 c0 c1 T78.heap SS OL78 G1 O2 P5 G3 O4 rG3 CH1 HC) (fun _ hW => own_IBw hI hW) (by decide) (by decide) (by decide) (by decide) (by rw [hml]; rfl) (lenOf pd15 rfl) rfl (Nat.le_of_ble_eq_true rfl) (hb hby at_209) (fun v79 T79 L79 vm79 k79 X79 ev79 z79 hS hk hZ hown hQ79 => ?_)
    obtain ⟨r79, rfl, M79, E79, SR79⟩ := hQ79
    have N79 := Fr.app N78 M79
    have OL79 := OL78.ext E79
    have V79 := VA78.ext E79
    show own_G p e below _ (T79.setTop (mkF m 212 #[.val (.int p0), .val (.int p1), .val (.int p2), .val (.int p3), .val (.int p4), .val (.int (2 : Int32)), .val (.ref a1), .val (.ref a74), .unset, .unset, .unset, .unset] [(.ref r79)]))
    refine own_step (b := T79.setTop (mkF m 214 #[.val (.int p0), .val (.int p1), .val (.int p2), .val (.int p3), .val (.int p4), .val (.int (2 : Int32)), .val (.ref a1), .val (.ref a74), .val (.ref r79), .unset, .unset, .unset] [])) (fun _ qk => XS.astore X79.here hx rfl (hb hby at_212) rfl rfl (l' := #[.val (.int p0), .val (.int p1), .val (.int p2), .val (.int p3), .val (.int p4), .val (.int (2 : Int32)), .val (.ref a1), .val (.ref a74), .val (.ref r79), .unset, .unset, .unset]) rfl qk) ?_
    refine own_step (b := T79.setTop (mkF m 216 #[.val (.int p0), .val (.int p1), .val (.int p2), .val (.int p3), .val (.int p4), .val (.int (2 : Int32)), .val (.ref a1), .val (.ref a74), .val (.ref r79), .unset, .unset, .unset] [(.ref a1)])) (fun _ qk => XS.aload X79.here hx rfl (hb hby at_214) rfl rfl qk) ?_
    refine own_step (b := T79.setTop (mkF m 217 #[.val (.int p0), .val (.int p1), .val (.int p2), .val (.int p3), .val (.int p4), .val (.int (2 : Int32)), .val (.ref a1), .val (.ref a74), .val (.ref r79), .unset, .unset, .unset] [(.int (0 : Int32)), (.ref a1)])) (fun _ qk => XS.iconst X79.here hx rfl (hb hby at_216) qk) ?_
    refine own_step (b := T79.setTop (mkF m 219 #[.val (.int p0), .val (.int p1), .val (.int p2), .val (.int p3), .val (.int p4), .val (.int (2 : Int32)), .val (.ref a1), .val (.ref a74), .val (.ref r79), .unset, .unset, .unset] [(.int (2 : Int32)), (.int (0 : Int32)), (.ref a1)])) (fun _ qk => XS.iload X79.here hx rfl (hb hby at_217) rfl qk) ?_
    refine own_staticP (W := 0) (argsL := [(.ref a1), (.int (0 : Int32)), (.int (2 : Int32))]) (st := []) X79 hx hZ hown (own_w hw 55 rfl) (own_w hw 56 rfl) (own_w hw 3 rfl) (own_w hw 57 rfl) (by decide) rfl (rmSol0 l Z a0 hw [] a1 k1 c0 c1 c2 c3 T79.heap V79 (2 : Int32) (by decide)) (by decide) (by decide) (by decide) (by decide) (by rw [hml]; rfl) (lenOf pd16 rfl) rfl (Nat.le_of_ble_eq_true rfl) (hb hby at_219) (fun T80 X80 e80 => ?_)
    show own_G p e below _ (T80.setTop (mkF m 222 #[.val (.int p0), .val (.int p1), .val (.int p2), .val (.int p3), .val (.int p4), .val (.int (2 : Int32)), .val (.ref a1), .val (.ref a74), .val (.ref r79), .unset, .unset, .unset] [(.int (own_bi (!own_bl c0)))]))
    refine own_if_eq X80 hx (hb hby at_222) (pc' := 229) (by decide) (by decide) (fun c222_81 => ?_) (fun c222_81 => ?_)
    · show own_G p e below _ (T80.setTop (mkF m 229 #[.val (.int p0), .val (.int p1), .val (.int p2), .val (.int p3), .val (.int p4), .val (.int (2 : Int32)), .val (.ref a1), .val (.ref a74), .val (.ref r79), .unset, .unset, .unset] []))
      have c222_81b : (!own_bl c0) = false := own_bi_f c222_81
      refine own_step (b := T80.setTop (mkF m 231 #[.val (.int p0), .val (.int p1), .val (.int p2), .val (.int p3), .val (.int p4), .val (.int (2 : Int32)), .val (.ref a1), .val (.ref a74), .val (.ref r79), .unset, .unset, .unset] [(.ref a1)])) (fun _ qk => XS.aload X80.here hx rfl (hb hby at_229) rfl rfl qk) ?_
      refine own_step (b := T80.setTop (mkF m 232 #[.val (.int p0), .val (.int p1), .val (.int p2), .val (.int p3), .val (.int p4), .val (.int (2 : Int32)), .val (.ref a1), .val (.ref a74), .val (.ref r79), .unset, .unset, .unset] [(.int (1 : Int32)), (.ref a1)])) (fun _ qk => XS.iconst X80.here hx rfl (hb hby at_231) qk) ?_
      refine own_step (b := T80.setTop (mkF m 234 #[.val (.int p0), .val (.int p1), .val (.int p2), .val (.int p3), .val (.int p4), .val (.int (2 : Int32)), .val (.ref a1), .val (.ref a74), .val (.ref r79), .unset, .unset, .unset] [(.int (2 : Int32)), (.int (1 : Int32)), (.ref a1)])) (fun _ qk => XS.iload X80.here hx rfl (hb hby at_232) rfl qk) ?_
      refine own_staticP (W := 0) (argsL := [(.ref a1), (.int (1 : Int32)), (.int (2 : Int32))]) (st := []) X80 hx hZ hown (own_w hw 55 rfl) (own_w hw 56 rfl) (own_w hw 3 rfl) (own_w hw 57 rfl) (by decide) e80 (rmSol1 l Z a0 hw [] a1 k1 c0 c1 c2 c3 T79.heap V79 (2 : Int32) (by decide)) (by decide) (by decide) (by decide) (by decide) (by rw [hml]; rfl) (lenOf pd16 rfl) rfl (Nat.le_of_ble_eq_true rfl) (hb hby at_234) (fun T82 X82 e82 => ?_)
      show own_G p e below _ (T82.setTop (mkF m 237 #[.val (.int p0), .val (.int p1), .val (.int p2), .val (.int p3), .val (.int p4), .val (.int (2 : Int32)), .val (.ref a1), .val (.ref a74), .val (.ref r79), .unset, .unset, .unset] [(.int (own_bi (!own_bl c1)))]))
      refine own_if_eq X82 hx (hb hby at_237) (pc' := 244) (by decide) (by decide) (fun c237_83 => ?_) (fun c237_83 => ?_)
      · show own_G p e below _ (T82.setTop (mkF m 244 #[.val (.int p0), .val (.int p1), .val (.int p2), .val (.int p3), .val (.int p4), .val (.int (2 : Int32)), .val (.ref a1), .val (.ref a74), .val (.ref r79), .unset, .unset, .unset] []))
        have c237_83b : (!own_bl c1) = false := own_bi_f c237_83
        refine own_step (b := T82.setTop (mkF m 246 #[.val (.int p0), .val (.int p1), .val (.int p2), .val (.int p3), .val (.int p4), .val (.int (2 : Int32)), .val (.ref a1), .val (.ref a74), .val (.ref r79), .unset, .unset, .unset] [(.ref a1)])) (fun _ qk => XS.aload X82.here hx rfl (hb hby at_244) rfl rfl qk) ?_
        refine own_step (b := T82.setTop (mkF m 247 #[.val (.int p0), .val (.int p1), .val (.int p2), .val (.int p3), .val (.int p4), .val (.int (2 : Int32)), .val (.ref a1), .val (.ref a74), .val (.ref r79), .unset, .unset, .unset] [(.int (2 : Int32)), (.ref a1)])) (fun _ qk => XS.iconst X82.here hx rfl (hb hby at_246) qk) ?_
        refine own_step (b := T82.setTop (mkF m 249 #[.val (.int p0), .val (.int p1), .val (.int p2), .val (.int p3), .val (.int p4), .val (.int (2 : Int32)), .val (.ref a1), .val (.ref a74), .val (.ref r79), .unset, .unset, .unset] [(.int (2 : Int32)), (.int (2 : Int32)), (.ref a1)])) (fun _ qk => XS.iload X82.here hx rfl (hb hby at_247) rfl qk) ?_
        refine own_staticP (W := 0) (argsL := [(.ref a1), (.int (2 : Int32)), (.int (2 : Int32))]) (st := []) X82 hx hZ hown (own_w hw 55 rfl) (own_w hw 56 rfl) (own_w hw 3 rfl) (own_w hw 57 rfl) (by decide) e82 (rmSolF l Z a0 hw [] a1 (2 : Int32) (2 : Int32) T79.heap (by decide)) (by decide) (by decide) (by decide) (by decide) (by rw [hml]; rfl) (lenOf pd16 rfl) rfl (Nat.le_of_ble_eq_true rfl) (hb hby at_249) (fun T84 X84 e84 => ?_)
        show own_G p e below _ (T84.setTop (mkF m 252 #[.val (.int p0), .val (.int p1), .val (.int p2), .val (.int p3), .val (.int p4), .val (.int (2 : Int32)), .val (.ref a1), .val (.ref a74), .val (.ref r79), .unset, .unset, .unset] [(.int (own_bi false))]))
        refine own_if_eq X84 hx (hb hby at_252) (pc' := 259) (by decide) (by decide) (fun c252_85 => ?_) (fun c252_85 => absurd c252_85 (by decide))
        show own_G p e below _ (T84.setTop (mkF m 259 #[.val (.int p0), .val (.int p1), .val (.int p2), .val (.int p3), .val (.int p4), .val (.int (2 : Int32)), .val (.ref a1), .val (.ref a74), .val (.ref r79), .unset, .unset, .unset] []))
        refine own_step (b := T84.setTop (mkF m 261 #[.val (.int p0), .val (.int p1), .val (.int p2), .val (.int p3), .val (.int p4), .val (.int (2 : Int32)), .val (.ref a1), .val (.ref a74), .val (.ref r79), .unset, .unset, .unset] [(.ref a1)])) (fun _ qk => XS.aload X84.here hx rfl (hb hby at_259) rfl rfl qk) ?_
        refine own_step (b := T84.setTop (mkF m 262 #[.val (.int p0), .val (.int p1), .val (.int p2), .val (.int p3), .val (.int p4), .val (.int (2 : Int32)), .val (.ref a1), .val (.ref a74), .val (.ref r79), .unset, .unset, .unset] [(.int (3 : Int32)), (.ref a1)])) (fun _ qk => XS.iconst X84.here hx rfl (hb hby at_261) qk) ?_
        refine own_step (b := T84.setTop (mkF m 264 #[.val (.int p0), .val (.int p1), .val (.int p2), .val (.int p3), .val (.int p4), .val (.int (2 : Int32)), .val (.ref a1), .val (.ref a74), .val (.ref r79), .unset, .unset, .unset] [(.int (2 : Int32)), (.int (3 : Int32)), (.ref a1)])) (fun _ qk => XS.iload X84.here hx rfl (hb hby at_262) rfl qk) ?_
        refine own_staticP (W := 0) (argsL := [(.ref a1), (.int (3 : Int32)), (.int (2 : Int32))]) (st := []) X84 hx hZ hown (own_w hw 55 rfl) (own_w hw 56 rfl) (own_w hw 3 rfl) (own_w hw 57 rfl) (by decide) e84 (rmSolF l Z a0 hw [] a1 (3 : Int32) (2 : Int32) T79.heap (by decide)) (by decide) (by decide) (by decide) (by decide) (by rw [hml]; rfl) (lenOf pd16 rfl) rfl (Nat.le_of_ble_eq_true rfl) (hb hby at_264) (fun T86 X86 e86 => ?_)
        show own_G p e below _ (T86.setTop (mkF m 267 #[.val (.int p0), .val (.int p1), .val (.int p2), .val (.int p3), .val (.int p4), .val (.int (2 : Int32)), .val (.ref a1), .val (.ref a74), .val (.ref r79), .unset, .unset, .unset] [(.int (own_bi false))]))
        refine own_if_eq X86 hx (hb hby at_267) (pc' := 274) (by decide) (by decide) (fun c267_87 => ?_) (fun c267_87 => absurd c267_87 (by decide))
        show own_G p e below _ (T86.setTop (mkF m 274 #[.val (.int p0), .val (.int p1), .val (.int p2), .val (.int p3), .val (.int p4), .val (.int (2 : Int32)), .val (.ref a1), .val (.ref a74), .val (.ref r79), .unset, .unset, .unset] []))
        refine own_step (b := T86.setTop (mkF m 276 #[.val (.int p0), .val (.int p1), .val (.int p2), .val (.int p3), .val (.int p4), .val (.int (2 : Int32)), .val (.ref a1), .val (.ref a74), .val (.ref r79), .unset, .unset, .unset] [(.int (2 : Int32))])) (fun _ qk => XS.iload X86.here hx rfl (hb hby at_274) rfl qk) ?_
        refine own_step (b := T86.setTop (mkF m 278 #[.val (.int p0), .val (.int p1), .val (.int p2), .val (.int p3), .val (.int p4), .val (.int (2 : Int32)), .val (.ref a1), .val (.ref a74), .val (.ref r79), .val (.int (2 : Int32)), .unset, .unset] [])) (fun _ qk => XS.istore X86.here hx rfl (hb hby at_276) rfl (l' := #[.val (.int p0), .val (.int p1), .val (.int p2), .val (.int p3), .val (.int p4), .val (.int (2 : Int32)), .val (.ref a1), .val (.ref a74), .val (.ref r79), .val (.int (2 : Int32)), .unset, .unset]) rfl qk) ?_
        refine own_step (b := T86.setTop (mkF m 280 #[.val (.int p0), .val (.int p1), .val (.int p2), .val (.int p3), .val (.int p4), .val (.int (2 : Int32)), .val (.ref a1), .val (.ref a74), .val (.ref r79), .val (.int (2 : Int32)), .unset, .unset] [(.ref a1)])) (fun _ qk => XS.aload X86.here hx rfl (hb hby at_278) rfl rfl qk) ?_
        refine own_step (b := T86.setTop (mkF m 281 #[.val (.int p0), .val (.int p1), .val (.int p2), .val (.int p3), .val (.int p4), .val (.int (2 : Int32)), .val (.ref a1), .val (.ref a74), .val (.ref r79), .val (.int (2 : Int32)), .unset, .unset] [(.int (3 : Int32)), (.ref a1)])) (fun _ qk => XS.iconst X86.here hx rfl (hb hby at_280) qk) ?_
        refine own_step (b := T86.setTop (mkF m 283 #[.val (.int p0), .val (.int p1), .val (.int p2), .val (.int p3), .val (.int p4), .val (.int (2 : Int32)), .val (.ref a1), .val (.ref a74), .val (.ref r79), .val (.int (2 : Int32)), .unset, .unset] [(.int (2 : Int32)), (.int (3 : Int32)), (.ref a1)])) (fun _ qk => XS.iload X86.here hx rfl (hb hby at_281) rfl qk) ?_
        refine own_staticP (W := 0) (argsL := [(.ref a1), (.int (3 : Int32)), (.int (2 : Int32))]) (st := []) X86 hx hZ hown (own_w hw 55 rfl) (own_w hw 56 rfl) (own_w hw 3 rfl) (own_w hw 57 rfl) (by decide) e86 (rmSolF l Z a0 hw [] a1 (3 : Int32) (2 : Int32) T79.heap (by decide)) (by decide) (by decide) (by decide) (by decide) (by rw [hml]; rfl) (lenOf pd16 rfl) rfl (Nat.le_of_ble_eq_true rfl) (hb hby at_283) (fun T88 X88 e88 => ?_)
        show own_G p e below _ (T88.setTop (mkF m 286 #[.val (.int p0), .val (.int p1), .val (.int p2), .val (.int p3), .val (.int p4), .val (.int (2 : Int32)), .val (.ref a1), .val (.ref a74), .val (.ref r79), .val (.int (2 : Int32)), .unset, .unset] [(.int (own_bi false))]))
        refine own_if_eq X88 hx (hb hby at_286) (pc' := 293) (by decide) (by decide) (fun c286_89 => ?_) (fun c286_89 => absurd c286_89 (by decide))
        show own_G p e below _ (T88.setTop (mkF m 293 #[.val (.int p0), .val (.int p1), .val (.int p2), .val (.int p3), .val (.int p4), .val (.int (2 : Int32)), .val (.ref a1), .val (.ref a74), .val (.ref r79), .val (.int (2 : Int32)), .unset, .unset] []))
        refine own_step (b := T88.setTop (mkF m 295 #[.val (.int p0), .val (.int p1), .val (.int p2), .val (.int p3), .val (.int p4), .val (.int (2 : Int32)), .val (.ref a1), .val (.ref a74), .val (.ref r79), .val (.int (2 : Int32)), .unset, .unset] [(.ref a1)])) (fun _ qk => XS.aload X88.here hx rfl (hb hby at_293) rfl rfl qk) ?_
        refine own_step (b := T88.setTop (mkF m 296 #[.val (.int p0), .val (.int p1), .val (.int p2), .val (.int p3), .val (.int p4), .val (.int (2 : Int32)), .val (.ref a1), .val (.ref a74), .val (.ref r79), .val (.int (2 : Int32)), .unset, .unset] [(.int (2 : Int32)), (.ref a1)])) (fun _ qk => XS.iconst X88.here hx rfl (hb hby at_295) qk) ?_
        refine own_step (b := T88.setTop (mkF m 298 #[.val (.int p0), .val (.int p1), .val (.int p2), .val (.int p3), .val (.int p4), .val (.int (2 : Int32)), .val (.ref a1), .val (.ref a74), .val (.ref r79), .val (.int (2 : Int32)), .unset, .unset] [(.int (2 : Int32)), (.int (2 : Int32)), (.ref a1)])) (fun _ qk => XS.iload X88.here hx rfl (hb hby at_296) rfl qk) ?_
        refine own_staticP (W := 0) (argsL := [(.ref a1), (.int (2 : Int32)), (.int (2 : Int32))]) (st := []) X88 hx hZ hown (own_w hw 55 rfl) (own_w hw 56 rfl) (own_w hw 3 rfl) (own_w hw 57 rfl) (by decide) e88 (rmSolF l Z a0 hw [] a1 (2 : Int32) (2 : Int32) T79.heap (by decide)) (by decide) (by decide) (by decide) (by decide) (by rw [hml]; rfl) (lenOf pd16 rfl) rfl (Nat.le_of_ble_eq_true rfl) (hb hby at_298) (fun T90 X90 e90 => ?_)
        show own_G p e below _ (T90.setTop (mkF m 301 #[.val (.int p0), .val (.int p1), .val (.int p2), .val (.int p3), .val (.int p4), .val (.int (2 : Int32)), .val (.ref a1), .val (.ref a74), .val (.ref r79), .val (.int (2 : Int32)), .unset, .unset] [(.int (own_bi false))]))
        refine own_if_eq X90 hx (hb hby at_301) (pc' := 308) (by decide) (by decide) (fun c301_91 => ?_) (fun c301_91 => absurd c301_91 (by decide))
        show own_G p e below _ (T90.setTop (mkF m 308 #[.val (.int p0), .val (.int p1), .val (.int p2), .val (.int p3), .val (.int p4), .val (.int (2 : Int32)), .val (.ref a1), .val (.ref a74), .val (.ref r79), .val (.int (2 : Int32)), .unset, .unset] []))
        refine own_step (b := T90.setTop (mkF m 310 #[.val (.int p0), .val (.int p1), .val (.int p2), .val (.int p3), .val (.int p4), .val (.int (2 : Int32)), .val (.ref a1), .val (.ref a74), .val (.ref r79), .val (.int (2 : Int32)), .unset, .unset] [(.ref a1)])) (fun _ qk => XS.aload X90.here hx rfl (hb hby at_308) rfl rfl qk) ?_
        refine own_step (b := T90.setTop (mkF m 311 #[.val (.int p0), .val (.int p1), .val (.int p2), .val (.int p3), .val (.int p4), .val (.int (2 : Int32)), .val (.ref a1), .val (.ref a74), .val (.ref r79), .val (.int (2 : Int32)), .unset, .unset] [(.int (1 : Int32)), (.ref a1)])) (fun _ qk => XS.iconst X90.here hx rfl (hb hby at_310) qk) ?_
        refine own_step (b := T90.setTop (mkF m 313 #[.val (.int p0), .val (.int p1), .val (.int p2), .val (.int p3), .val (.int p4), .val (.int (2 : Int32)), .val (.ref a1), .val (.ref a74), .val (.ref r79), .val (.int (2 : Int32)), .unset, .unset] [(.int (2 : Int32)), (.int (1 : Int32)), (.ref a1)])) (fun _ qk => XS.iload X90.here hx rfl (hb hby at_311) rfl qk) ?_
        refine own_staticP (W := 0) (argsL := [(.ref a1), (.int (1 : Int32)), (.int (2 : Int32))]) (st := []) X90 hx hZ hown (own_w hw 55 rfl) (own_w hw 56 rfl) (own_w hw 3 rfl) (own_w hw 57 rfl) (by decide) e90 (rmSol1 l Z a0 hw [] a1 k1 c0 c1 c2 c3 T79.heap V79 (2 : Int32) (by decide)) (by decide) (by decide) (by decide) (by decide) (by rw [hml]; rfl) (lenOf pd16 rfl) rfl (Nat.le_of_ble_eq_true rfl) (hb hby at_313) (fun T92 X92 e92 => ?_)
        show own_G p e below _ (T92.setTop (mkF m 316 #[.val (.int p0), .val (.int p1), .val (.int p2), .val (.int p3), .val (.int p4), .val (.int (2 : Int32)), .val (.ref a1), .val (.ref a74), .val (.ref r79), .val (.int (2 : Int32)), .unset, .unset] [(.int (own_bi (!own_bl c1)))]))
        refine own_if_eq X92 hx (hb hby at_316) (pc' := 323) (by decide) (by decide) (fun c316_93 => ?_) (fun c316_93 => absurd c316_93 (by rw [c237_83b]; decide))
        show own_G p e below _ (T92.setTop (mkF m 323 #[.val (.int p0), .val (.int p1), .val (.int p2), .val (.int p3), .val (.int p4), .val (.int (2 : Int32)), .val (.ref a1), .val (.ref a74), .val (.ref r79), .val (.int (2 : Int32)), .unset, .unset] []))
        refine own_step (b := T92.setTop (mkF m 325 #[.val (.int p0), .val (.int p1), .val (.int p2), .val (.int p3), .val (.int p4), .val (.int (2 : Int32)), .val (.ref a1), .val (.ref a74), .val (.ref r79), .val (.int (2 : Int32)), .unset, .unset] [(.ref a1)])) (fun _ qk => XS.aload X92.here hx rfl (hb hby at_323) rfl rfl qk) ?_
        refine own_step (b := T92.setTop (mkF m 326 #[.val (.int p0), .val (.int p1), .val (.int p2), .val (.int p3), .val (.int p4), .val (.int (2 : Int32)), .val (.ref a1), .val (.ref a74), .val (.ref r79), .val (.int (2 : Int32)), .unset, .unset] [(.int (0 : Int32)), (.ref a1)])) (fun _ qk => XS.iconst X92.here hx rfl (hb hby at_325) qk) ?_
        refine own_step (b := T92.setTop (mkF m 328 #[.val (.int p0), .val (.int p1), .val (.int p2), .val (.int p3), .val (.int p4), .val (.int (2 : Int32)), .val (.ref a1), .val (.ref a74), .val (.ref r79), .val (.int (2 : Int32)), .unset, .unset] [(.int (2 : Int32)), (.int (0 : Int32)), (.ref a1)])) (fun _ qk => XS.iload X92.here hx rfl (hb hby at_326) rfl qk) ?_
        refine own_staticP (W := 0) (argsL := [(.ref a1), (.int (0 : Int32)), (.int (2 : Int32))]) (st := []) X92 hx hZ hown (own_w hw 55 rfl) (own_w hw 56 rfl) (own_w hw 3 rfl) (own_w hw 57 rfl) (by decide) e92 (rmSol0 l Z a0 hw [] a1 k1 c0 c1 c2 c3 T79.heap V79 (2 : Int32) (by decide)) (by decide) (by decide) (by decide) (by decide) (by rw [hml]; rfl) (lenOf pd16 rfl) rfl (Nat.le_of_ble_eq_true rfl) (hb hby at_328) (fun T94 X94 e94 => ?_)
        show own_G p e below _ (T94.setTop (mkF m 331 #[.val (.int p0), .val (.int p1), .val (.int p2), .val (.int p3), .val (.int p4), .val (.int (2 : Int32)), .val (.ref a1), .val (.ref a74), .val (.ref r79), .val (.int (2 : Int32)), .unset, .unset] [(.int (own_bi (!own_bl c0)))]))
        refine own_if_eq X94 hx (hb hby at_331) (pc' := 338) (by decide) (by decide) (fun c331_95 => ?_) (fun c331_95 => absurd c331_95 (by rw [c222_81b]; decide))
        show own_G p e below _ (T94.setTop (mkF m 338 #[.val (.int p0), .val (.int p1), .val (.int p2), .val (.int p3), .val (.int p4), .val (.int (2 : Int32)), .val (.ref a1), .val (.ref a74), .val (.ref r79), .val (.int (2 : Int32)), .unset, .unset] []))
        refine own_step (b := T94.setTop (mkF m 340 #[.val (.int p0), .val (.int p1), .val (.int p2), .val (.int p3), .val (.int p4), .val (.int (2 : Int32)), .val (.ref a1), .val (.ref a74), .val (.ref r79), .val (.int (2 : Int32)), .unset, .unset] [(.int (2 : Int32))])) (fun _ qk => XS.iload X94.here hx rfl (hb hby at_338) rfl qk) ?_
        refine own_step (b := T94.setTop (mkF m 342 #[.val (.int p0), .val (.int p1), .val (.int p2), .val (.int p3), .val (.int p4), .val (.int (2 : Int32)), .val (.ref a1), .val (.ref a74), .val (.ref r79), .val (.int (2 : Int32)), .val (.int (2 : Int32)), .unset] [])) (fun _ qk => XS.istore X94.here hx rfl (hb hby at_340) rfl (l' := #[.val (.int p0), .val (.int p1), .val (.int p2), .val (.int p3), .val (.int p4), .val (.int (2 : Int32)), .val (.ref a1), .val (.ref a74), .val (.ref r79), .val (.int (2 : Int32)), .val (.int (2 : Int32)), .unset]) rfl qk) ?_
        have c222_81bn := c222_81b
        simp only [Bool.not_eq_true', Bool.not_eq_false'] at c222_81bn
        have c237_83bn := c237_83b
        simp only [Bool.not_eq_true', Bool.not_eq_false'] at c237_83bn
        refine J T94 _ _ _ r79 a74 _ 2 2 [] (X94.more (by decide) (by decide)) hS (by rw [show T94.heap = T79.heap from e94]; omega) hZ hown N79 (by rw [show T94.heap = T79.heap from e94]; exact OL79) (by rw [show T94.heap = T79.heap from e94]; exact V79) ?_ (by decide) (by decide) rfl ?_
        · rw [show T94.heap = T79.heap from e94]; have q := SR79; rw [show own_strip [c0, c1] = [] by simp [own_strip, List.dropWhile, c222_81bn, c237_83bn]] at q; exact q
        · intro q hq; have hq' : q < 0 := hq; exact match q, hq' with  | q + 0, h_ => absurd h_ (by omega)
      · show own_G p e below _ (T82.setTop (mkF m 240 #[.val (.int p0), .val (.int p1), .val (.int p2), .val (.int p3), .val (.int p4), .val (.int (2 : Int32)), .val (.ref a1), .val (.ref a74), .val (.ref r79), .unset, .unset, .unset] []))
        have c237_83b : (!own_bl c1) = true := own_bi_t c237_83
        refine own_step (b := T82.setTop (mkF m 241 #[.val (.int p0), .val (.int p1), .val (.int p2), .val (.int p3), .val (.int p4), .val (.int (2 : Int32)), .val (.ref a1), .val (.ref a74), .val (.ref r79), .unset, .unset, .unset] [(.int (1 : Int32))])) (fun _ qk => XS.iconst X82.here hx rfl (hb hby at_240) qk) ?_
        refine own_step (b := T82.setTop (mkF m 276 #[.val (.int p0), .val (.int p1), .val (.int p2), .val (.int p3), .val (.int p4), .val (.int (2 : Int32)), .val (.ref a1), .val (.ref a74), .val (.ref r79), .unset, .unset, .unset] [(.int (1 : Int32))])) (fun _ qk => XS.goto X82.here hx rfl (pc0 := 241) (pc' := 276) rfl (hb hby at_241) (by decide) (by decide) qk) ?_
        refine own_step (b := T82.setTop (mkF m 278 #[.val (.int p0), .val (.int p1), .val (.int p2), .val (.int p3), .val (.int p4), .val (.int (2 : Int32)), .val (.ref a1), .val (.ref a74), .val (.ref r79), .val (.int (1 : Int32)), .unset, .unset] [])) (fun _ qk => XS.istore X82.here hx rfl (hb hby at_276) rfl (l' := #[.val (.int p0), .val (.int p1), .val (.int p2), .val (.int p3), .val (.int p4), .val (.int (2 : Int32)), .val (.ref a1), .val (.ref a74), .val (.ref r79), .val (.int (1 : Int32)), .unset, .unset]) rfl qk) ?_
        refine own_step (b := T82.setTop (mkF m 280 #[.val (.int p0), .val (.int p1), .val (.int p2), .val (.int p3), .val (.int p4), .val (.int (2 : Int32)), .val (.ref a1), .val (.ref a74), .val (.ref r79), .val (.int (1 : Int32)), .unset, .unset] [(.ref a1)])) (fun _ qk => XS.aload X82.here hx rfl (hb hby at_278) rfl rfl qk) ?_
        refine own_step (b := T82.setTop (mkF m 281 #[.val (.int p0), .val (.int p1), .val (.int p2), .val (.int p3), .val (.int p4), .val (.int (2 : Int32)), .val (.ref a1), .val (.ref a74), .val (.ref r79), .val (.int (1 : Int32)), .unset, .unset] [(.int (3 : Int32)), (.ref a1)])) (fun _ qk => XS.iconst X82.here hx rfl (hb hby at_280) qk) ?_
        refine own_step (b := T82.setTop (mkF m 283 #[.val (.int p0), .val (.int p1), .val (.int p2), .val (.int p3), .val (.int p4), .val (.int (2 : Int32)), .val (.ref a1), .val (.ref a74), .val (.ref r79), .val (.int (1 : Int32)), .unset, .unset] [(.int (2 : Int32)), (.int (3 : Int32)), (.ref a1)])) (fun _ qk => XS.iload X82.here hx rfl (hb hby at_281) rfl qk) ?_
        refine own_staticP (W := 0) (argsL := [(.ref a1), (.int (3 : Int32)), (.int (2 : Int32))]) (st := []) X82 hx hZ hown (own_w hw 55 rfl) (own_w hw 56 rfl) (own_w hw 3 rfl) (own_w hw 57 rfl) (by decide) e82 (rmSolF l Z a0 hw [] a1 (3 : Int32) (2 : Int32) T79.heap (by decide)) (by decide) (by decide) (by decide) (by decide) (by rw [hml]; rfl) (lenOf pd16 rfl) rfl (Nat.le_of_ble_eq_true rfl) (hb hby at_283) (fun T96 X96 e96 => ?_)
        show own_G p e below _ (T96.setTop (mkF m 286 #[.val (.int p0), .val (.int p1), .val (.int p2), .val (.int p3), .val (.int p4), .val (.int (2 : Int32)), .val (.ref a1), .val (.ref a74), .val (.ref r79), .val (.int (1 : Int32)), .unset, .unset] [(.int (own_bi false))]))
        refine own_if_eq X96 hx (hb hby at_286) (pc' := 293) (by decide) (by decide) (fun c286_97 => ?_) (fun c286_97 => absurd c286_97 (by decide))
        show own_G p e below _ (T96.setTop (mkF m 293 #[.val (.int p0), .val (.int p1), .val (.int p2), .val (.int p3), .val (.int p4), .val (.int (2 : Int32)), .val (.ref a1), .val (.ref a74), .val (.ref r79), .val (.int (1 : Int32)), .unset, .unset] []))
        refine own_step (b := T96.setTop (mkF m 295 #[.val (.int p0), .val (.int p1), .val (.int p2), .val (.int p3), .val (.int p4), .val (.int (2 : Int32)), .val (.ref a1), .val (.ref a74), .val (.ref r79), .val (.int (1 : Int32)), .unset, .unset] [(.ref a1)])) (fun _ qk => XS.aload X96.here hx rfl (hb hby at_293) rfl rfl qk) ?_
        refine own_step (b := T96.setTop (mkF m 296 #[.val (.int p0), .val (.int p1), .val (.int p2), .val (.int p3), .val (.int p4), .val (.int (2 : Int32)), .val (.ref a1), .val (.ref a74), .val (.ref r79), .val (.int (1 : Int32)), .unset, .unset] [(.int (2 : Int32)), (.ref a1)])) (fun _ qk => XS.iconst X96.here hx rfl (hb hby at_295) qk) ?_
        refine own_step (b := T96.setTop (mkF m 298 #[.val (.int p0), .val (.int p1), .val (.int p2), .val (.int p3), .val (.int p4), .val (.int (2 : Int32)), .val (.ref a1), .val (.ref a74), .val (.ref r79), .val (.int (1 : Int32)), .unset, .unset] [(.int (2 : Int32)), (.int (2 : Int32)), (.ref a1)])) (fun _ qk => XS.iload X96.here hx rfl (hb hby at_296) rfl qk) ?_
        refine own_staticP (W := 0) (argsL := [(.ref a1), (.int (2 : Int32)), (.int (2 : Int32))]) (st := []) X96 hx hZ hown (own_w hw 55 rfl) (own_w hw 56 rfl) (own_w hw 3 rfl) (own_w hw 57 rfl) (by decide) e96 (rmSolF l Z a0 hw [] a1 (2 : Int32) (2 : Int32) T79.heap (by decide)) (by decide) (by decide) (by decide) (by decide) (by rw [hml]; rfl) (lenOf pd16 rfl) rfl (Nat.le_of_ble_eq_true rfl) (hb hby at_298) (fun T98 X98 e98 => ?_)
        show own_G p e below _ (T98.setTop (mkF m 301 #[.val (.int p0), .val (.int p1), .val (.int p2), .val (.int p3), .val (.int p4), .val (.int (2 : Int32)), .val (.ref a1), .val (.ref a74), .val (.ref r79), .val (.int (1 : Int32)), .unset, .unset] [(.int (own_bi false))]))
        refine own_if_eq X98 hx (hb hby at_301) (pc' := 308) (by decide) (by decide) (fun c301_99 => ?_) (fun c301_99 => absurd c301_99 (by decide))
        show own_G p e below _ (T98.setTop (mkF m 308 #[.val (.int p0), .val (.int p1), .val (.int p2), .val (.int p3), .val (.int p4), .val (.int (2 : Int32)), .val (.ref a1), .val (.ref a74), .val (.ref r79), .val (.int (1 : Int32)), .unset, .unset] []))
        refine own_step (b := T98.setTop (mkF m 310 #[.val (.int p0), .val (.int p1), .val (.int p2), .val (.int p3), .val (.int p4), .val (.int (2 : Int32)), .val (.ref a1), .val (.ref a74), .val (.ref r79), .val (.int (1 : Int32)), .unset, .unset] [(.ref a1)])) (fun _ qk => XS.aload X98.here hx rfl (hb hby at_308) rfl rfl qk) ?_
        refine own_step (b := T98.setTop (mkF m 311 #[.val (.int p0), .val (.int p1), .val (.int p2), .val (.int p3), .val (.int p4), .val (.int (2 : Int32)), .val (.ref a1), .val (.ref a74), .val (.ref r79), .val (.int (1 : Int32)), .unset, .unset] [(.int (1 : Int32)), (.ref a1)])) (fun _ qk => XS.iconst X98.here hx rfl (hb hby at_310) qk) ?_
        refine own_step (b := T98.setTop (mkF m 313 #[.val (.int p0), .val (.int p1), .val (.int p2), .val (.int p3), .val (.int p4), .val (.int (2 : Int32)), .val (.ref a1), .val (.ref a74), .val (.ref r79), .val (.int (1 : Int32)), .unset, .unset] [(.int (2 : Int32)), (.int (1 : Int32)), (.ref a1)])) (fun _ qk => XS.iload X98.here hx rfl (hb hby at_311) rfl qk) ?_
        refine own_staticP (W := 0) (argsL := [(.ref a1), (.int (1 : Int32)), (.int (2 : Int32))]) (st := []) X98 hx hZ hown (own_w hw 55 rfl) (own_w hw 56 rfl) (own_w hw 3 rfl) (own_w hw 57 rfl) (by decide) e98 (rmSol1 l Z a0 hw [] a1 k1 c0 c1 c2 c3 T79.heap V79 (2 : Int32) (by decide)) (by decide) (by decide) (by decide) (by decide) (by rw [hml]; rfl) (lenOf pd16 rfl) rfl (Nat.le_of_ble_eq_true rfl) (hb hby at_313) (fun T100 X100 e100 => ?_)
        show own_G p e below _ (T100.setTop (mkF m 316 #[.val (.int p0), .val (.int p1), .val (.int p2), .val (.int p3), .val (.int p4), .val (.int (2 : Int32)), .val (.ref a1), .val (.ref a74), .val (.ref r79), .val (.int (1 : Int32)), .unset, .unset] [(.int (own_bi (!own_bl c1)))]))
        refine own_if_eq X100 hx (hb hby at_316) (pc' := 323) (by decide) (by decide) (fun c316_101 => absurd c316_101 (by rw [c237_83b]; decide)) (fun c316_101 => ?_)
        show own_G p e below _ (T100.setTop (mkF m 319 #[.val (.int p0), .val (.int p1), .val (.int p2), .val (.int p3), .val (.int p4), .val (.int (2 : Int32)), .val (.ref a1), .val (.ref a74), .val (.ref r79), .val (.int (1 : Int32)), .unset, .unset] []))
        refine own_step (b := T100.setTop (mkF m 320 #[.val (.int p0), .val (.int p1), .val (.int p2), .val (.int p3), .val (.int p4), .val (.int (2 : Int32)), .val (.ref a1), .val (.ref a74), .val (.ref r79), .val (.int (1 : Int32)), .unset, .unset] [(.int (2 : Int32))])) (fun _ qk => XS.iconst X100.here hx rfl (hb hby at_319) qk) ?_
        refine own_step (b := T100.setTop (mkF m 340 #[.val (.int p0), .val (.int p1), .val (.int p2), .val (.int p3), .val (.int p4), .val (.int (2 : Int32)), .val (.ref a1), .val (.ref a74), .val (.ref r79), .val (.int (1 : Int32)), .unset, .unset] [(.int (2 : Int32))])) (fun _ qk => XS.goto X100.here hx rfl (pc0 := 320) (pc' := 340) rfl (hb hby at_320) (by decide) (by decide) qk) ?_
        refine own_step (b := T100.setTop (mkF m 342 #[.val (.int p0), .val (.int p1), .val (.int p2), .val (.int p3), .val (.int p4), .val (.int (2 : Int32)), .val (.ref a1), .val (.ref a74), .val (.ref r79), .val (.int (1 : Int32)), .val (.int (2 : Int32)), .unset] [])) (fun _ qk => XS.istore X100.here hx rfl (hb hby at_340) rfl (l' := #[.val (.int p0), .val (.int p1), .val (.int p2), .val (.int p3), .val (.int p4), .val (.int (2 : Int32)), .val (.ref a1), .val (.ref a74), .val (.ref r79), .val (.int (1 : Int32)), .val (.int (2 : Int32)), .unset]) rfl qk) ?_
        have c222_81bn := c222_81b
        simp only [Bool.not_eq_true', Bool.not_eq_false'] at c222_81bn
        have c237_83bn := c237_83b
        simp only [Bool.not_eq_true', Bool.not_eq_false'] at c237_83bn
        refine J T100 _ _ _ r79 a74 _ 1 2 [c1] (X100.more (by decide) (by decide)) hS (by rw [show T100.heap = T79.heap from e100]; omega) hZ hown N79 (by rw [show T100.heap = T79.heap from e100]; exact OL79) (by rw [show T100.heap = T79.heap from e100]; exact V79) ?_ (by decide) (by decide) rfl ?_
        · rw [show T100.heap = T79.heap from e100]; have q := SR79; rw [show own_strip [c0, c1] = [c1] by simp [own_strip, List.dropWhile, c222_81bn, c237_83bn]] at q; exact q
        · intro q hq; have hq' : q < 1 := hq; exact match q, hq' with | 0, _ => rfl | q + 1, h_ => absurd h_ (by omega)
    · show own_G p e below _ (T80.setTop (mkF m 225 #[.val (.int p0), .val (.int p1), .val (.int p2), .val (.int p3), .val (.int p4), .val (.int (2 : Int32)), .val (.ref a1), .val (.ref a74), .val (.ref r79), .unset, .unset, .unset] []))
      have c222_81b : (!own_bl c0) = true := own_bi_t c222_81
      refine own_step (b := T80.setTop (mkF m 226 #[.val (.int p0), .val (.int p1), .val (.int p2), .val (.int p3), .val (.int p4), .val (.int (2 : Int32)), .val (.ref a1), .val (.ref a74), .val (.ref r79), .unset, .unset, .unset] [(.int (0 : Int32))])) (fun _ qk => XS.iconst X80.here hx rfl (hb hby at_225) qk) ?_
      refine own_step (b := T80.setTop (mkF m 276 #[.val (.int p0), .val (.int p1), .val (.int p2), .val (.int p3), .val (.int p4), .val (.int (2 : Int32)), .val (.ref a1), .val (.ref a74), .val (.ref r79), .unset, .unset, .unset] [(.int (0 : Int32))])) (fun _ qk => XS.goto X80.here hx rfl (pc0 := 226) (pc' := 276) rfl (hb hby at_226) (by decide) (by decide) qk) ?_
      refine own_step (b := T80.setTop (mkF m 278 #[.val (.int p0), .val (.int p1), .val (.int p2), .val (.int p3), .val (.int p4), .val (.int (2 : Int32)), .val (.ref a1), .val (.ref a74), .val (.ref r79), .val (.int (0 : Int32)), .unset, .unset] [])) (fun _ qk => XS.istore X80.here hx rfl (hb hby at_276) rfl (l' := #[.val (.int p0), .val (.int p1), .val (.int p2), .val (.int p3), .val (.int p4), .val (.int (2 : Int32)), .val (.ref a1), .val (.ref a74), .val (.ref r79), .val (.int (0 : Int32)), .unset, .unset]) rfl qk) ?_
      refine own_step (b := T80.setTop (mkF m 280 #[.val (.int p0), .val (.int p1), .val (.int p2), .val (.int p3), .val (.int p4), .val (.int (2 : Int32)), .val (.ref a1), .val (.ref a74), .val (.ref r79), .val (.int (0 : Int32)), .unset, .unset] [(.ref a1)])) (fun _ qk => XS.aload X80.here hx rfl (hb hby at_278) rfl rfl qk) ?_
      refine own_step (b := T80.setTop (mkF m 281 #[.val (.int p0), .val (.int p1), .val (.int p2), .val (.int p3), .val (.int p4), .val (.int (2 : Int32)), .val (.ref a1), .val (.ref a74), .val (.ref r79), .val (.int (0 : Int32)), .unset, .unset] [(.int (3 : Int32)), (.ref a1)])) (fun _ qk => XS.iconst X80.here hx rfl (hb hby at_280) qk) ?_
      refine own_step (b := T80.setTop (mkF m 283 #[.val (.int p0), .val (.int p1), .val (.int p2), .val (.int p3), .val (.int p4), .val (.int (2 : Int32)), .val (.ref a1), .val (.ref a74), .val (.ref r79), .val (.int (0 : Int32)), .unset, .unset] [(.int (2 : Int32)), (.int (3 : Int32)), (.ref a1)])) (fun _ qk => XS.iload X80.here hx rfl (hb hby at_281) rfl qk) ?_
      refine own_staticP (W := 0) (argsL := [(.ref a1), (.int (3 : Int32)), (.int (2 : Int32))]) (st := []) X80 hx hZ hown (own_w hw 55 rfl) (own_w hw 56 rfl) (own_w hw 3 rfl) (own_w hw 57 rfl) (by decide) e80 (rmSolF l Z a0 hw [] a1 (3 : Int32) (2 : Int32) T79.heap (by decide)) (by decide) (by decide) (by decide) (by decide) (by rw [hml]; rfl) (lenOf pd16 rfl) rfl (Nat.le_of_ble_eq_true rfl) (hb hby at_283) (fun T102 X102 e102 => ?_)
      show own_G p e below _ (T102.setTop (mkF m 286 #[.val (.int p0), .val (.int p1), .val (.int p2), .val (.int p3), .val (.int p4), .val (.int (2 : Int32)), .val (.ref a1), .val (.ref a74), .val (.ref r79), .val (.int (0 : Int32)), .unset, .unset] [(.int (own_bi false))]))
      refine own_if_eq X102 hx (hb hby at_286) (pc' := 293) (by decide) (by decide) (fun c286_103 => ?_) (fun c286_103 => absurd c286_103 (by decide))
      show own_G p e below _ (T102.setTop (mkF m 293 #[.val (.int p0), .val (.int p1), .val (.int p2), .val (.int p3), .val (.int p4), .val (.int (2 : Int32)), .val (.ref a1), .val (.ref a74), .val (.ref r79), .val (.int (0 : Int32)), .unset, .unset] []))
      refine own_step (b := T102.setTop (mkF m 295 #[.val (.int p0), .val (.int p1), .val (.int p2), .val (.int p3), .val (.int p4), .val (.int (2 : Int32)), .val (.ref a1), .val (.ref a74), .val (.ref r79), .val (.int (0 : Int32)), .unset, .unset] [(.ref a1)])) (fun _ qk => XS.aload X102.here hx rfl (hb hby at_293) rfl rfl qk) ?_
      refine own_step (b := T102.setTop (mkF m 296 #[.val (.int p0), .val (.int p1), .val (.int p2), .val (.int p3), .val (.int p4), .val (.int (2 : Int32)), .val (.ref a1), .val (.ref a74), .val (.ref r79), .val (.int (0 : Int32)), .unset, .unset] [(.int (2 : Int32)), (.ref a1)])) (fun _ qk => XS.iconst X102.here hx rfl (hb hby at_295) qk) ?_
      refine own_step (b := T102.setTop (mkF m 298 #[.val (.int p0), .val (.int p1), .val (.int p2), .val (.int p3), .val (.int p4), .val (.int (2 : Int32)), .val (.ref a1), .val (.ref a74), .val (.ref r79), .val (.int (0 : Int32)), .unset, .unset] [(.int (2 : Int32)), (.int (2 : Int32)), (.ref a1)])) (fun _ qk => XS.iload X102.here hx rfl (hb hby at_296) rfl qk) ?_
      refine own_staticP (W := 0) (argsL := [(.ref a1), (.int (2 : Int32)), (.int (2 : Int32))]) (st := []) X102 hx hZ hown (own_w hw 55 rfl) (own_w hw 56 rfl) (own_w hw 3 rfl) (own_w hw 57 rfl) (by decide) e102 (rmSolF l Z a0 hw [] a1 (2 : Int32) (2 : Int32) T79.heap (by decide)) (by decide) (by decide) (by decide) (by decide) (by rw [hml]; rfl) (lenOf pd16 rfl) rfl (Nat.le_of_ble_eq_true rfl) (hb hby at_298) (fun T104 X104 e104 => ?_)
      show own_G p e below _ (T104.setTop (mkF m 301 #[.val (.int p0), .val (.int p1), .val (.int p2), .val (.int p3), .val (.int p4), .val (.int (2 : Int32)), .val (.ref a1), .val (.ref a74), .val (.ref r79), .val (.int (0 : Int32)), .unset, .unset] [(.int (own_bi false))]))
      refine own_if_eq X104 hx (hb hby at_301) (pc' := 308) (by decide) (by decide) (fun c301_105 => ?_) (fun c301_105 => absurd c301_105 (by decide))
      show own_G p e below _ (T104.setTop (mkF m 308 #[.val (.int p0), .val (.int p1), .val (.int p2), .val (.int p3), .val (.int p4), .val (.int (2 : Int32)), .val (.ref a1), .val (.ref a74), .val (.ref r79), .val (.int (0 : Int32)), .unset, .unset] []))
      refine own_step (b := T104.setTop (mkF m 310 #[.val (.int p0), .val (.int p1), .val (.int p2), .val (.int p3), .val (.int p4), .val (.int (2 : Int32)), .val (.ref a1), .val (.ref a74), .val (.ref r79), .val (.int (0 : Int32)), .unset, .unset] [(.ref a1)])) (fun _ qk => XS.aload X104.here hx rfl (hb hby at_308) rfl rfl qk) ?_
      refine own_step (b := T104.setTop (mkF m 311 #[.val (.int p0), .val (.int p1), .val (.int p2), .val (.int p3), .val (.int p4), .val (.int (2 : Int32)), .val (.ref a1), .val (.ref a74), .val (.ref r79), .val (.int (0 : Int32)), .unset, .unset] [(.int (1 : Int32)), (.ref a1)])) (fun _ qk => XS.iconst X104.here hx rfl (hb hby at_310) qk) ?_
      refine own_step (b := T104.setTop (mkF m 313 #[.val (.int p0), .val (.int p1), .val (.int p2), .val (.int p3), .val (.int p4), .val (.int (2 : Int32)), .val (.ref a1), .val (.ref a74), .val (.ref r79), .val (.int (0 : Int32)), .unset, .unset] [(.int (2 : Int32)), (.int (1 : Int32)), (.ref a1)])) (fun _ qk => XS.iload X104.here hx rfl (hb hby at_311) rfl qk) ?_
      refine own_staticP (W := 0) (argsL := [(.ref a1), (.int (1 : Int32)), (.int (2 : Int32))]) (st := []) X104 hx hZ hown (own_w hw 55 rfl) (own_w hw 56 rfl) (own_w hw 3 rfl) (own_w hw 57 rfl) (by decide) e104 (rmSol1 l Z a0 hw [] a1 k1 c0 c1 c2 c3 T79.heap V79 (2 : Int32) (by decide)) (by decide) (by decide) (by decide) (by decide) (by rw [hml]; rfl) (lenOf pd16 rfl) rfl (Nat.le_of_ble_eq_true rfl) (hb hby at_313) (fun T106 X106 e106 => ?_)
      show own_G p e below _ (T106.setTop (mkF m 316 #[.val (.int p0), .val (.int p1), .val (.int p2), .val (.int p3), .val (.int p4), .val (.int (2 : Int32)), .val (.ref a1), .val (.ref a74), .val (.ref r79), .val (.int (0 : Int32)), .unset, .unset] [(.int (own_bi (!own_bl c1)))]))
      refine own_if_eq X106 hx (hb hby at_316) (pc' := 323) (by decide) (by decide) (fun c316_107 => ?_) (fun c316_107 => ?_)
      · show own_G p e below _ (T106.setTop (mkF m 323 #[.val (.int p0), .val (.int p1), .val (.int p2), .val (.int p3), .val (.int p4), .val (.int (2 : Int32)), .val (.ref a1), .val (.ref a74), .val (.ref r79), .val (.int (0 : Int32)), .unset, .unset] []))
        have c316_107b : (!own_bl c1) = false := own_bi_f c316_107
        refine own_step (b := T106.setTop (mkF m 325 #[.val (.int p0), .val (.int p1), .val (.int p2), .val (.int p3), .val (.int p4), .val (.int (2 : Int32)), .val (.ref a1), .val (.ref a74), .val (.ref r79), .val (.int (0 : Int32)), .unset, .unset] [(.ref a1)])) (fun _ qk => XS.aload X106.here hx rfl (hb hby at_323) rfl rfl qk) ?_
        refine own_step (b := T106.setTop (mkF m 326 #[.val (.int p0), .val (.int p1), .val (.int p2), .val (.int p3), .val (.int p4), .val (.int (2 : Int32)), .val (.ref a1), .val (.ref a74), .val (.ref r79), .val (.int (0 : Int32)), .unset, .unset] [(.int (0 : Int32)), (.ref a1)])) (fun _ qk => XS.iconst X106.here hx rfl (hb hby at_325) qk) ?_
        refine own_step (b := T106.setTop (mkF m 328 #[.val (.int p0), .val (.int p1), .val (.int p2), .val (.int p3), .val (.int p4), .val (.int (2 : Int32)), .val (.ref a1), .val (.ref a74), .val (.ref r79), .val (.int (0 : Int32)), .unset, .unset] [(.int (2 : Int32)), (.int (0 : Int32)), (.ref a1)])) (fun _ qk => XS.iload X106.here hx rfl (hb hby at_326) rfl qk) ?_
        refine own_staticP (W := 0) (argsL := [(.ref a1), (.int (0 : Int32)), (.int (2 : Int32))]) (st := []) X106 hx hZ hown (own_w hw 55 rfl) (own_w hw 56 rfl) (own_w hw 3 rfl) (own_w hw 57 rfl) (by decide) e106 (rmSol0 l Z a0 hw [] a1 k1 c0 c1 c2 c3 T79.heap V79 (2 : Int32) (by decide)) (by decide) (by decide) (by decide) (by decide) (by rw [hml]; rfl) (lenOf pd16 rfl) rfl (Nat.le_of_ble_eq_true rfl) (hb hby at_328) (fun T108 X108 e108 => ?_)
        show own_G p e below _ (T108.setTop (mkF m 331 #[.val (.int p0), .val (.int p1), .val (.int p2), .val (.int p3), .val (.int p4), .val (.int (2 : Int32)), .val (.ref a1), .val (.ref a74), .val (.ref r79), .val (.int (0 : Int32)), .unset, .unset] [(.int (own_bi (!own_bl c0)))]))
        refine own_if_eq X108 hx (hb hby at_331) (pc' := 338) (by decide) (by decide) (fun c331_109 => absurd c331_109 (by rw [c222_81b]; decide)) (fun c331_109 => ?_)
        show own_G p e below _ (T108.setTop (mkF m 334 #[.val (.int p0), .val (.int p1), .val (.int p2), .val (.int p3), .val (.int p4), .val (.int (2 : Int32)), .val (.ref a1), .val (.ref a74), .val (.ref r79), .val (.int (0 : Int32)), .unset, .unset] []))
        refine own_step (b := T108.setTop (mkF m 335 #[.val (.int p0), .val (.int p1), .val (.int p2), .val (.int p3), .val (.int p4), .val (.int (2 : Int32)), .val (.ref a1), .val (.ref a74), .val (.ref r79), .val (.int (0 : Int32)), .unset, .unset] [(.int (1 : Int32))])) (fun _ qk => XS.iconst X108.here hx rfl (hb hby at_334) qk) ?_
        refine own_step (b := T108.setTop (mkF m 340 #[.val (.int p0), .val (.int p1), .val (.int p2), .val (.int p3), .val (.int p4), .val (.int (2 : Int32)), .val (.ref a1), .val (.ref a74), .val (.ref r79), .val (.int (0 : Int32)), .unset, .unset] [(.int (1 : Int32))])) (fun _ qk => XS.goto X108.here hx rfl (pc0 := 335) (pc' := 340) rfl (hb hby at_335) (by decide) (by decide) qk) ?_
        refine own_step (b := T108.setTop (mkF m 342 #[.val (.int p0), .val (.int p1), .val (.int p2), .val (.int p3), .val (.int p4), .val (.int (2 : Int32)), .val (.ref a1), .val (.ref a74), .val (.ref r79), .val (.int (0 : Int32)), .val (.int (1 : Int32)), .unset] [])) (fun _ qk => XS.istore X108.here hx rfl (hb hby at_340) rfl (l' := #[.val (.int p0), .val (.int p1), .val (.int p2), .val (.int p3), .val (.int p4), .val (.int (2 : Int32)), .val (.ref a1), .val (.ref a74), .val (.ref r79), .val (.int (0 : Int32)), .val (.int (1 : Int32)), .unset]) rfl qk) ?_
        have c222_81bn := c222_81b
        simp only [Bool.not_eq_true', Bool.not_eq_false'] at c222_81bn
        have c316_107bn := c316_107b
        simp only [Bool.not_eq_true', Bool.not_eq_false'] at c316_107bn
        refine J T108 _ _ _ r79 a74 _ 0 1 [c0] (X108.more (by decide) (by decide)) hS (by rw [show T108.heap = T79.heap from e108]; omega) hZ hown N79 (by rw [show T108.heap = T79.heap from e108]; exact OL79) (by rw [show T108.heap = T79.heap from e108]; exact V79) ?_ (by decide) (by decide) rfl ?_
        · rw [show T108.heap = T79.heap from e108]; have q := SR79; rw [show own_strip [c0, c1] = [c0] by simp [own_strip, List.dropWhile, c222_81bn, c316_107bn]] at q; exact q
        · intro q hq; have hq' : q < 1 := hq; exact match q, hq' with | 0, _ => rfl | q + 1, h_ => absurd h_ (by omega)
      · show own_G p e below _ (T106.setTop (mkF m 319 #[.val (.int p0), .val (.int p1), .val (.int p2), .val (.int p3), .val (.int p4), .val (.int (2 : Int32)), .val (.ref a1), .val (.ref a74), .val (.ref r79), .val (.int (0 : Int32)), .unset, .unset] []))
        have c316_107b : (!own_bl c1) = true := own_bi_t c316_107
        refine own_step (b := T106.setTop (mkF m 320 #[.val (.int p0), .val (.int p1), .val (.int p2), .val (.int p3), .val (.int p4), .val (.int (2 : Int32)), .val (.ref a1), .val (.ref a74), .val (.ref r79), .val (.int (0 : Int32)), .unset, .unset] [(.int (2 : Int32))])) (fun _ qk => XS.iconst X106.here hx rfl (hb hby at_319) qk) ?_
        refine own_step (b := T106.setTop (mkF m 340 #[.val (.int p0), .val (.int p1), .val (.int p2), .val (.int p3), .val (.int p4), .val (.int (2 : Int32)), .val (.ref a1), .val (.ref a74), .val (.ref r79), .val (.int (0 : Int32)), .unset, .unset] [(.int (2 : Int32))])) (fun _ qk => XS.goto X106.here hx rfl (pc0 := 320) (pc' := 340) rfl (hb hby at_320) (by decide) (by decide) qk) ?_
        refine own_step (b := T106.setTop (mkF m 342 #[.val (.int p0), .val (.int p1), .val (.int p2), .val (.int p3), .val (.int p4), .val (.int (2 : Int32)), .val (.ref a1), .val (.ref a74), .val (.ref r79), .val (.int (0 : Int32)), .val (.int (2 : Int32)), .unset] [])) (fun _ qk => XS.istore X106.here hx rfl (hb hby at_340) rfl (l' := #[.val (.int p0), .val (.int p1), .val (.int p2), .val (.int p3), .val (.int p4), .val (.int (2 : Int32)), .val (.ref a1), .val (.ref a74), .val (.ref r79), .val (.int (0 : Int32)), .val (.int (2 : Int32)), .unset]) rfl qk) ?_
        have c222_81bn := c222_81b
        simp only [Bool.not_eq_true', Bool.not_eq_false'] at c222_81bn
        have c316_107bn := c316_107b
        simp only [Bool.not_eq_true', Bool.not_eq_false'] at c316_107bn
        refine J T106 _ _ _ r79 a74 _ 0 2 [c0, c1] (X106.more (by decide) (by decide)) hS (by rw [show T106.heap = T79.heap from e106]; omega) hZ hown N79 (by rw [show T106.heap = T79.heap from e106]; exact OL79) (by rw [show T106.heap = T79.heap from e106]; exact V79) ?_ (by decide) (by decide) rfl ?_
        · rw [show T106.heap = T79.heap from e106]; have q := SR79; rw [show own_strip [c0, c1] = [c0, c1] by simp [own_strip, List.dropWhile, c222_81bn, c316_107bn]] at q; exact q
        · intro q hq; have hq' : q < 2 := hq; exact match q, hq' with | 0, _ => rfl | 1, _ => rfl | q + 2, h_ => absurd h_ (by omega)
  · show own_G p e below _ (T9.setTop (mkF m 42 #[.val (.int p0), .val (.int p1), .val (.int p2), .val (.int p3), .val (.int p4), .val (.int (3 : Int32)), .val (.ref a1), .unset, .unset, .unset, .unset, .unset] []))
    show own_G p e below _ (T9.setTop (mkF m 42 #[.val (.int p0), .val (.int p1), .val (.int p2), .val (.int p3), .val (.int p4), .val (.int (3 : Int32)), .val (.ref a1), .unset, .unset, .unset, .unset, .unset] []))
    refine own_step (b := T9.setTop (mkF m 44 #[.val (.int p0), .val (.int p1), .val (.int p2), .val (.int p3), .val (.int p4), .val (.int (3 : Int32)), .val (.ref a1), .unset, .unset, .unset, .unset, .unset] [(.int (3 : Int32))])) (fun _ qk => XS.iload X9.here hx rfl (hb hby at_42) rfl qk) ?_
    refine own_if_ne X9 hx (hb hby at_44) (pc' := 62) (by decide) (by decide) (fun c44_110 => ?_) (fun c44_110 => absurd c44_110 (by decide))
    show own_G p e below _ (T9.setTop (mkF m 62 #[.val (.int p0), .val (.int p1), .val (.int p2), .val (.int p3), .val (.int p4), .val (.int (3 : Int32)), .val (.ref a1), .unset, .unset, .unset, .unset, .unset] []))
    refine own_step (b := T9.setTop (mkF m 64 #[.val (.int p0), .val (.int p1), .val (.int p2), .val (.int p3), .val (.int p4), .val (.int (3 : Int32)), .val (.ref a1), .unset, .unset, .unset, .unset, .unset] [(.int (3 : Int32))])) (fun _ qk => XS.iload X9.here hx rfl (hb hby at_62) rfl qk) ?_
    refine own_step (b := T9.setTop (mkF m 65 #[.val (.int p0), .val (.int p1), .val (.int p2), .val (.int p3), .val (.int p4), .val (.int (3 : Int32)), .val (.ref a1), .unset, .unset, .unset, .unset, .unset] [(.int (1 : Int32)), (.int (3 : Int32))])) (fun _ qk => XS.iconst X9.here hx rfl (hb hby at_64) qk) ?_
    refine own_icmp_ne X9 hx (hb hby at_65) (pc' := 90) (by decide) (by decide) (fun c65_111 => ?_) (fun c65_111 => absurd c65_111 (by decide))
    show own_G p e below _ (T9.setTop (mkF m 90 #[.val (.int p0), .val (.int p1), .val (.int p2), .val (.int p3), .val (.int p4), .val (.int (3 : Int32)), .val (.ref a1), .unset, .unset, .unset, .unset, .unset] []))
    refine own_step (b := T9.setTop (mkF m 92 #[.val (.int p0), .val (.int p1), .val (.int p2), .val (.int p3), .val (.int p4), .val (.int (3 : Int32)), .val (.ref a1), .unset, .unset, .unset, .unset, .unset] [(.int (3 : Int32))])) (fun _ qk => XS.iload X9.here hx rfl (hb hby at_90) rfl qk) ?_
    refine own_step (b := T9.setTop (mkF m 93 #[.val (.int p0), .val (.int p1), .val (.int p2), .val (.int p3), .val (.int p4), .val (.int (3 : Int32)), .val (.ref a1), .unset, .unset, .unset, .unset, .unset] [(.int (2 : Int32)), (.int (3 : Int32))])) (fun _ qk => XS.iconst X9.here hx rfl (hb hby at_92) qk) ?_
    refine own_icmp_ne X9 hx (hb hby at_93) (pc' := 125) (by decide) (by decide) (fun c93_112 => ?_) (fun c93_112 => absurd c93_112 (by decide))
    show own_G p e below _ (T9.setTop (mkF m 125 #[.val (.int p0), .val (.int p1), .val (.int p2), .val (.int p3), .val (.int p4), .val (.int (3 : Int32)), .val (.ref a1), .unset, .unset, .unset, .unset, .unset] []))
    refine own_step (b := T9.setTop (mkF m 127 #[.val (.int p0), .val (.int p1), .val (.int p2), .val (.int p3), .val (.int p4), .val (.int (3 : Int32)), .val (.ref a1), .unset, .unset, .unset, .unset, .unset] [(.int (3 : Int32))])) (fun _ qk => XS.iload X9.here hx rfl (hb hby at_125) rfl qk) ?_
    refine own_step (b := T9.setTop (mkF m 128 #[.val (.int p0), .val (.int p1), .val (.int p2), .val (.int p3), .val (.int p4), .val (.int (3 : Int32)), .val (.ref a1), .unset, .unset, .unset, .unset, .unset] [(.int (3 : Int32)), (.int (3 : Int32))])) (fun _ qk => XS.iconst X9.here hx rfl (hb hby at_127) qk) ?_
    refine own_icmp_ne X9 hx (hb hby at_128) (pc' := 167) (by decide) (by decide) (fun c128_113 => absurd c128_113 (by decide)) (fun c128_113 => ?_)
    show own_G p e below _ (T9.setTop (mkF m 131 #[.val (.int p0), .val (.int p1), .val (.int p2), .val (.int p3), .val (.int p4), .val (.int (3 : Int32)), .val (.ref a1), .unset, .unset, .unset, .unset, .unset] []))
    refine own_newO X9 hx hZ hown (own_w hw 5 rfl) (own_w hw 6 rfl) (own_w hw 7 rfl) e9 (hb hby at_131) (by decide) (by decide) (fun T114 h114 a114 X114 e114 g114 l114 E114 A114 D114 => ?_)
    show own_G p e below _ (T114.setTop (mkF m 134 #[.val (.int p0), .val (.int p1), .val (.int p2), .val (.int p3), .val (.int p4), .val (.int (3 : Int32)), .val (.ref a1), .unset, .unset, .unset, .unset, .unset] [(.ref a114)]))
    have OL114 := OL9.ext E114
    refine own_step (b := T114.setTop (mkF m 135 #[.val (.int p0), .val (.int p1), .val (.int p2), .val (.int p3), .val (.int p4), .val (.int (3 : Int32)), .val (.ref a1), .unset, .unset, .unset, .unset, .unset] [(.ref a114), (.ref a114)])) (fun _ qk => XS.dup X114.here hx rfl (hb hby at_134) rfl rfl qk) ?_
    refine own_step (b := T114.setTop (mkF m 136 #[.val (.int p0), .val (.int p1), .val (.int p2), .val (.int p3), .val (.int p4), .val (.int (3 : Int32)), .val (.ref a1), .unset, .unset, .unset, .unset, .unset] [(.int (3 : Int32)), (.ref a114), (.ref a114)])) (fun _ qk => XS.iconst X114.here hx rfl (hb hby at_135) qk) ?_
    refine own_newP X114 hx hZ (own_w hw 0 rfl) e114 (hb hby at_136) (n := (3 : Int32)) (by decide) 3 (by decide) (by decide) (by decide) (by decide) (fun T115 h115 a115 k115 X115 e115 g115 l115 E115 V115 => ?_)
    have V115' : Arv Z h115 a115 k115 .char (3 : Int32) [.int 0, .int 0, .int 0] (.int 0) := V115
    show own_G p e below _ (T115.setTop (mkF m 138 #[.val (.int p0), .val (.int p1), .val (.int p2), .val (.int p3), .val (.int p4), .val (.int (3 : Int32)), .val (.ref a1), .unset, .unset, .unset, .unset, .unset] [(.ref a115), (.ref a114), (.ref a114)]))
    have OL115 := OL114.ext E115
    have KF115 := (Keep.refl h115 [a115])
    have VA115 := (V9s.ext E114).ext E115
    refine own_step (b := T115.setTop (mkF m 139 #[.val (.int p0), .val (.int p1), .val (.int p2), .val (.int p3), .val (.int p4), .val (.int (3 : Int32)), .val (.ref a1), .unset, .unset, .unset, .unset, .unset] [(.ref a115), (.ref a115), (.ref a114), (.ref a114)])) (fun _ qk => XS.dup X115.here hx rfl (hb hby at_138) rfl rfl qk) ?_
    refine own_step (b := T115.setTop (mkF m 140 #[.val (.int p0), .val (.int p1), .val (.int p2), .val (.int p3), .val (.int p4), .val (.int (3 : Int32)), .val (.ref a1), .unset, .unset, .unset, .unset, .unset] [(.int (0 : Int32)), (.ref a115), (.ref a115), (.ref a114), (.ref a114)])) (fun _ qk => XS.iconst X115.here hx rfl (hb hby at_139) qk) ?_
    refine own_step (b := T115.setTop (mkF m 142 #[.val (.int p0), .val (.int p1), .val (.int p2), .val (.int p3), .val (.int p4), .val (.int (3 : Int32)), .val (.ref a1), .unset, .unset, .unset, .unset, .unset] [(.ref a1), (.int (0 : Int32)), (.ref a115), (.ref a115), (.ref a114), (.ref a114)])) (fun _ qk => XS.aload X115.here hx rfl (hb hby at_140) rfl rfl qk) ?_
    refine own_step (b := T115.setTop (mkF m 143 #[.val (.int p0), .val (.int p1), .val (.int p2), .val (.int p3), .val (.int p4), .val (.int (3 : Int32)), .val (.ref a1), .unset, .unset, .unset, .unset, .unset] [(.int (0 : Int32)), (.ref a1), (.int (0 : Int32)), (.ref a115), (.ref a115), (.ref a114), (.ref a114)])) (fun _ qk => XS.iconst X115.here hx rfl (hb hby at_142) qk) ?_
    refine own_ldC X115 hx hZ e115 VA115 0 (by decide) (by decide) (by decide) (v := (.int c0)) rfl (hb hby at_143) ?_
    show own_G p e below _ (T115.setTop (mkF m 144 #[.val (.int p0), .val (.int p1), .val (.int p2), .val (.int p3), .val (.int p4), .val (.int (3 : Int32)), .val (.ref a1), .unset, .unset, .unset, .unset, .unset] [(.int c0), (.int (0 : Int32)), (.ref a115), (.ref a115), (.ref a114), (.ref a114)]))
    refine own_stC X115 hx hZ e115 V115' 0 (by decide) (by decide) (by decide) (Nat.le_of_ble_eq_true rfl) N9 (by omega) (hb hby at_144) (fun T116 h116 X116 e116 N116 W116 z116 V116 => ?_)
    have V116' : Arv Z h116 a115 k115 .char (3 : Int32) [.int (nar .char c0), .int 0, .int 0] (.int 0) := V116
    show own_G p e below _ (T116.setTop (mkF m 145 #[.val (.int p0), .val (.int p1), .val (.int p2), .val (.int p3), .val (.int p4), .val (.int (3 : Int32)), .val (.ref a1), .unset, .unset, .unset, .unset, .unset] [(.ref a115), (.ref a114), (.ref a114)]))
    have V116s : Arv Z h116 a115 k115 .char (3 : Int32) [.int c0, .int 0, .int 0] (.int 0) := by have q := V116'; rw [own_narC hc0.1 hc0.2] at q; exact q
    have OL116 := OL115.wr W116 (by omega)
    have KF116 := KF115.wr W116 (Or.inl (List.mem_singleton.mpr rfl))
    have VA116 := VA115.other W116 (own_ne (by omega))
    refine own_step (b := T116.setTop (mkF m 146 #[.val (.int p0), .val (.int p1), .val (.int p2), .val (.int p3), .val (.int p4), .val (.int (3 : Int32)), .val (.ref a1), .unset, .unset, .unset, .unset, .unset] [(.ref a115), (.ref a115), (.ref a114), (.ref a114)])) (fun _ qk => XS.dup X116.here hx rfl (hb hby at_145) rfl rfl qk) ?_
    refine own_step (b := T116.setTop (mkF m 147 #[.val (.int p0), .val (.int p1), .val (.int p2), .val (.int p3), .val (.int p4), .val (.int (3 : Int32)), .val (.ref a1), .unset, .unset, .unset, .unset, .unset] [(.int (1 : Int32)), (.ref a115), (.ref a115), (.ref a114), (.ref a114)])) (fun _ qk => XS.iconst X116.here hx rfl (hb hby at_146) qk) ?_
    refine own_step (b := T116.setTop (mkF m 149 #[.val (.int p0), .val (.int p1), .val (.int p2), .val (.int p3), .val (.int p4), .val (.int (3 : Int32)), .val (.ref a1), .unset, .unset, .unset, .unset, .unset] [(.ref a1), (.int (1 : Int32)), (.ref a115), (.ref a115), (.ref a114), (.ref a114)])) (fun _ qk => XS.aload X116.here hx rfl (hb hby at_147) rfl rfl qk) ?_
    refine own_step (b := T116.setTop (mkF m 150 #[.val (.int p0), .val (.int p1), .val (.int p2), .val (.int p3), .val (.int p4), .val (.int (3 : Int32)), .val (.ref a1), .unset, .unset, .unset, .unset, .unset] [(.int (1 : Int32)), (.ref a1), (.int (1 : Int32)), (.ref a115), (.ref a115), (.ref a114), (.ref a114)])) (fun _ qk => XS.iconst X116.here hx rfl (hb hby at_149) qk) ?_
    refine own_ldC X116 hx hZ e116 VA116 1 (by decide) (by decide) (by decide) (v := (.int c1)) rfl (hb hby at_150) ?_
    show own_G p e below _ (T116.setTop (mkF m 151 #[.val (.int p0), .val (.int p1), .val (.int p2), .val (.int p3), .val (.int p4), .val (.int (3 : Int32)), .val (.ref a1), .unset, .unset, .unset, .unset, .unset] [(.int c1), (.int (1 : Int32)), (.ref a115), (.ref a115), (.ref a114), (.ref a114)]))
    refine own_stC X116 hx hZ e116 V116s 1 (by decide) (by decide) (by decide) (Nat.le_of_ble_eq_true rfl) N116 (by omega) (hb hby at_151) (fun T117 h117 X117 e117 N117 W117 z117 V117 => ?_)
    have V117' : Arv Z h117 a115 k115 .char (3 : Int32) [.int c0, .int (nar .char c1), .int 0] (.int 0) := V117
    show own_G p e below _ (T117.setTop (mkF m 152 #[.val (.int p0), .val (.int p1), .val (.int p2), .val (.int p3), .val (.int p4), .val (.int (3 : Int32)), .val (.ref a1), .unset, .unset, .unset, .unset, .unset] [(.ref a115), (.ref a114), (.ref a114)]))
    have V117s : Arv Z h117 a115 k115 .char (3 : Int32) [.int c0, .int c1, .int 0] (.int 0) := by have q := V117'; rw [own_narC hc1.1 hc1.2] at q; exact q
    have OL117 := OL116.wr W117 (by omega)
    have KF117 := KF116.wr W117 (Or.inl (List.mem_singleton.mpr rfl))
    have VA117 := VA116.other W117 (own_ne (by omega))
    refine own_step (b := T117.setTop (mkF m 153 #[.val (.int p0), .val (.int p1), .val (.int p2), .val (.int p3), .val (.int p4), .val (.int (3 : Int32)), .val (.ref a1), .unset, .unset, .unset, .unset, .unset] [(.ref a115), (.ref a115), (.ref a114), (.ref a114)])) (fun _ qk => XS.dup X117.here hx rfl (hb hby at_152) rfl rfl qk) ?_
    refine own_step (b := T117.setTop (mkF m 154 #[.val (.int p0), .val (.int p1), .val (.int p2), .val (.int p3), .val (.int p4), .val (.int (3 : Int32)), .val (.ref a1), .unset, .unset, .unset, .unset, .unset] [(.int (2 : Int32)), (.ref a115), (.ref a115), (.ref a114), (.ref a114)])) (fun _ qk => XS.iconst X117.here hx rfl (hb hby at_153) qk) ?_
    refine own_step (b := T117.setTop (mkF m 156 #[.val (.int p0), .val (.int p1), .val (.int p2), .val (.int p3), .val (.int p4), .val (.int (3 : Int32)), .val (.ref a1), .unset, .unset, .unset, .unset, .unset] [(.ref a1), (.int (2 : Int32)), (.ref a115), (.ref a115), (.ref a114), (.ref a114)])) (fun _ qk => XS.aload X117.here hx rfl (hb hby at_154) rfl rfl qk) ?_
    refine own_step (b := T117.setTop (mkF m 157 #[.val (.int p0), .val (.int p1), .val (.int p2), .val (.int p3), .val (.int p4), .val (.int (3 : Int32)), .val (.ref a1), .unset, .unset, .unset, .unset, .unset] [(.int (2 : Int32)), (.ref a1), (.int (2 : Int32)), (.ref a115), (.ref a115), (.ref a114), (.ref a114)])) (fun _ qk => XS.iconst X117.here hx rfl (hb hby at_156) qk) ?_
    refine own_ldC X117 hx hZ e117 VA117 2 (by decide) (by decide) (by decide) (v := (.int c2)) rfl (hb hby at_157) ?_
    show own_G p e below _ (T117.setTop (mkF m 158 #[.val (.int p0), .val (.int p1), .val (.int p2), .val (.int p3), .val (.int p4), .val (.int (3 : Int32)), .val (.ref a1), .unset, .unset, .unset, .unset, .unset] [(.int c2), (.int (2 : Int32)), (.ref a115), (.ref a115), (.ref a114), (.ref a114)]))
    refine own_stC X117 hx hZ e117 V117s 2 (by decide) (by decide) (by decide) (Nat.le_of_ble_eq_true rfl) N117 (by omega) (hb hby at_158) (fun T118 h118 X118 e118 N118 W118 z118 V118 => ?_)
    have V118' : Arv Z h118 a115 k115 .char (3 : Int32) [.int c0, .int c1, .int (nar .char c2)] (.int 0) := V118
    show own_G p e below _ (T118.setTop (mkF m 159 #[.val (.int p0), .val (.int p1), .val (.int p2), .val (.int p3), .val (.int p4), .val (.int (3 : Int32)), .val (.ref a1), .unset, .unset, .unset, .unset, .unset] [(.ref a115), (.ref a114), (.ref a114)]))
    have V118s : Arv Z h118 a115 k115 .char (3 : Int32) [.int c0, .int c1, .int c2] (.int 0) := by have q := V118'; rw [own_narC hc2.1 hc2.2] at q; exact q
    have OL118 := OL117.wr W118 (by omega)
    have KF118 := KF117.wr W118 (Or.inl (List.mem_singleton.mpr rfl))
    have VA118 := VA117.other W118 (own_ne (by omega))
    have hp : ∀ c ∈ ([c0, c1, c2] : List Int32), ¬ c < 0 ∧ ¬ (255 : Int32) < c := (own_aS hc0 (own_aS hc1 (own_aS hc2 own_a0)))
    refine own_special (W := 1) (argsL := [(.ref a115)]) (a := a114) (st := [(.ref a114)]) X118 hx hZ hown rfl (own_w hw 8 rfl) (own_w hw 9 rfl) (own_w hw 10 rfl) (by decide) e118 (StrChars.Road.backV (W := 1) hZ hws (kI := 4) (own_w hw 6 rfl) (cs := ([c0, c1, c2] : List Int32)) (bs := (([c0, c1, c2] : List Int32)).map (fun c => c.toInt8.toInt32)) (n := 3) (n0 := Z.heap.size) (by omega) (by omega) ((A114.ext E115).keep KF118) (((D114 (Or.inr (own_w hw 20 rfl)) (ty := (.array .byte)) (by decide)).ext E115).keep KF118 (ninS (own_ne (by omega)) nin0)) (((D114 (Or.inr (own_w hw 21 rfl)) (ty := .byte) (by decide)).ext E115).keep KF118 (ninS (own_ne (by omega)) nin0)) V118s (O2.ext OL118.2) P5 rfl rfl (by decide) (by decide) hp rfl (by decide) (by decide)) (by decide) (by decide) (by rw [hml]; rfl) (lenOf pd14 rfl) rfl (Nat.le_of_ble_eq_true rfl) (hb hby at_159) (fun v119 T119 L119 X119 hQ119 => ?_)
    obtain ⟨rfl, M119, K119, E119, C119, t119, kb119, u119, uu119, uuu119, F119, B119⟩ := hQ119
    have z119 : h118.size ≤ T119.heap.size := K119.1
    have N119 := Fr.app N118 M119
    have OL119 := OL118.keep K119 (allS (by omega) all0)
    show own_G p e below _ (T119.setTop (mkF m 162 #[.val (.int p0), .val (.int p1), .val (.int p2), .val (.int p3), .val (.int p4), .val (.int (3 : Int32)), .val (.ref a1), .unset, .unset, .unset, .unset, .unset] [(.ref a114)]))
    have SS : own_Str Z T119.heap a114 [c0, c1, c2] := own_mkStr (n := 3) rfl rfl E119 hp (by decide) C119 F119 B119
    have VA119 := VA118.keep K119 (ninS (own_ne (by omega)) nin0)
    refine own_step (b := T119.setTop (mkF m 164 #[.val (.int p0), .val (.int p1), .val (.int p2), .val (.int p3), .val (.int p4), .val (.int (3 : Int32)), .val (.ref a1), .val (.ref a114), .unset, .unset, .unset, .unset] [])) (fun _ qk => XS.astore X119.here hx rfl (hb hby at_162) rfl rfl (l' := #[.val (.int p0), .val (.int p1), .val (.int p2), .val (.int p3), .val (.int p4), .val (.int (3 : Int32)), .val (.ref a1), .val (.ref a114), .unset, .unset, .unset, .unset]) rfl qk) ?_
    refine own_step (b := T119.setTop (mkF m 207 #[.val (.int p0), .val (.int p1), .val (.int p2), .val (.int p3), .val (.int p4), .val (.int (3 : Int32)), .val (.ref a1), .val (.ref a114), .unset, .unset, .unset, .unset] [])) (fun _ qk => XS.goto X119.here hx rfl (pc0 := 164) (pc' := 207) rfl (hb hby at_164) (by decide) (by decide) qk) ?_
    refine own_step (b := T119.setTop (mkF m 209 #[.val (.int p0), .val (.int p1), .val (.int p2), .val (.int p3), .val (.int p4), .val (.int (3 : Int32)), .val (.ref a1), .val (.ref a114), .unset, .unset, .unset, .unset] [(.ref a114)])) (fun _ qk => XS.aload X119.here hx rfl (hb hby at_207) rfl rfl qk) ?_
    refine own_staticI (W := 0) (argsL := [(.ref a114)]) (st := []) X119 hx hZ hown (own_w hw 26 rfl) (own_w hw 27 rfl) (own_w hw 28 rfl) (own_w hw 29 rfl) (by decide) rfl hS (by omega) (rmStrip3 l Z a0 hw [] a114 c0 c1 c2 T119.heap SS OL119 G1 O2 P5 G3 O4 rG3 CH1 HC) (fun _ hW => own_IBw hI hW) (by decide) (by decide) (by decide) (by decide) (by rw [hml]; rfl) (lenOf pd15 rfl) rfl (Nat.le_of_ble_eq_true rfl) (hb hby at_209) (fun v120 T120 L120 vm120 k120 X120 ev120 z120 hS hk hZ hown hQ120 => ?_)
    obtain ⟨r120, rfl, M120, E120, SR120⟩ := hQ120
    have N120 := Fr.app N119 M120
    have OL120 := OL119.ext E120
    have V120 := VA119.ext E120
    show own_G p e below _ (T120.setTop (mkF m 212 #[.val (.int p0), .val (.int p1), .val (.int p2), .val (.int p3), .val (.int p4), .val (.int (3 : Int32)), .val (.ref a1), .val (.ref a114), .unset, .unset, .unset, .unset] [(.ref r120)]))
    refine own_step (b := T120.setTop (mkF m 214 #[.val (.int p0), .val (.int p1), .val (.int p2), .val (.int p3), .val (.int p4), .val (.int (3 : Int32)), .val (.ref a1), .val (.ref a114), .val (.ref r120), .unset, .unset, .unset] [])) (fun _ qk => XS.astore X120.here hx rfl (hb hby at_212) rfl rfl (l' := #[.val (.int p0), .val (.int p1), .val (.int p2), .val (.int p3), .val (.int p4), .val (.int (3 : Int32)), .val (.ref a1), .val (.ref a114), .val (.ref r120), .unset, .unset, .unset]) rfl qk) ?_
    refine own_step (b := T120.setTop (mkF m 216 #[.val (.int p0), .val (.int p1), .val (.int p2), .val (.int p3), .val (.int p4), .val (.int (3 : Int32)), .val (.ref a1), .val (.ref a114), .val (.ref r120), .unset, .unset, .unset] [(.ref a1)])) (fun _ qk => XS.aload X120.here hx rfl (hb hby at_214) rfl rfl qk) ?_
    refine own_step (b := T120.setTop (mkF m 217 #[.val (.int p0), .val (.int p1), .val (.int p2), .val (.int p3), .val (.int p4), .val (.int (3 : Int32)), .val (.ref a1), .val (.ref a114), .val (.ref r120), .unset, .unset, .unset] [(.int (0 : Int32)), (.ref a1)])) (fun _ qk => XS.iconst X120.here hx rfl (hb hby at_216) qk) ?_
    refine own_step (b := T120.setTop (mkF m 219 #[.val (.int p0), .val (.int p1), .val (.int p2), .val (.int p3), .val (.int p4), .val (.int (3 : Int32)), .val (.ref a1), .val (.ref a114), .val (.ref r120), .unset, .unset, .unset] [(.int (3 : Int32)), (.int (0 : Int32)), (.ref a1)])) (fun _ qk => XS.iload X120.here hx rfl (hb hby at_217) rfl qk) ?_
    refine own_staticP (W := 0) (argsL := [(.ref a1), (.int (0 : Int32)), (.int (3 : Int32))]) (st := []) X120 hx hZ hown (own_w hw 55 rfl) (own_w hw 56 rfl) (own_w hw 3 rfl) (own_w hw 57 rfl) (by decide) rfl (rmSol0 l Z a0 hw [] a1 k1 c0 c1 c2 c3 T120.heap V120 (3 : Int32) (by decide)) (by decide) (by decide) (by decide) (by decide) (by rw [hml]; rfl) (lenOf pd16 rfl) rfl (Nat.le_of_ble_eq_true rfl) (hb hby at_219) (fun T121 X121 e121 => ?_)
    show own_G p e below _ (T121.setTop (mkF m 222 #[.val (.int p0), .val (.int p1), .val (.int p2), .val (.int p3), .val (.int p4), .val (.int (3 : Int32)), .val (.ref a1), .val (.ref a114), .val (.ref r120), .unset, .unset, .unset] [(.int (own_bi (!own_bl c0)))]))
    refine own_if_eq X121 hx (hb hby at_222) (pc' := 229) (by decide) (by decide) (fun c222_122 => ?_) (fun c222_122 => ?_)
    · show own_G p e below _ (T121.setTop (mkF m 229 #[.val (.int p0), .val (.int p1), .val (.int p2), .val (.int p3), .val (.int p4), .val (.int (3 : Int32)), .val (.ref a1), .val (.ref a114), .val (.ref r120), .unset, .unset, .unset] []))
      have c222_122b : (!own_bl c0) = false := own_bi_f c222_122
      refine own_step (b := T121.setTop (mkF m 231 #[.val (.int p0), .val (.int p1), .val (.int p2), .val (.int p3), .val (.int p4), .val (.int (3 : Int32)), .val (.ref a1), .val (.ref a114), .val (.ref r120), .unset, .unset, .unset] [(.ref a1)])) (fun _ qk => XS.aload X121.here hx rfl (hb hby at_229) rfl rfl qk) ?_
      refine own_step (b := T121.setTop (mkF m 232 #[.val (.int p0), .val (.int p1), .val (.int p2), .val (.int p3), .val (.int p4), .val (.int (3 : Int32)), .val (.ref a1), .val (.ref a114), .val (.ref r120), .unset, .unset, .unset] [(.int (1 : Int32)), (.ref a1)])) (fun _ qk => XS.iconst X121.here hx rfl (hb hby at_231) qk) ?_
      refine own_step (b := T121.setTop (mkF m 234 #[.val (.int p0), .val (.int p1), .val (.int p2), .val (.int p3), .val (.int p4), .val (.int (3 : Int32)), .val (.ref a1), .val (.ref a114), .val (.ref r120), .unset, .unset, .unset] [(.int (3 : Int32)), (.int (1 : Int32)), (.ref a1)])) (fun _ qk => XS.iload X121.here hx rfl (hb hby at_232) rfl qk) ?_
      refine own_staticP (W := 0) (argsL := [(.ref a1), (.int (1 : Int32)), (.int (3 : Int32))]) (st := []) X121 hx hZ hown (own_w hw 55 rfl) (own_w hw 56 rfl) (own_w hw 3 rfl) (own_w hw 57 rfl) (by decide) e121 (rmSol1 l Z a0 hw [] a1 k1 c0 c1 c2 c3 T120.heap V120 (3 : Int32) (by decide)) (by decide) (by decide) (by decide) (by decide) (by rw [hml]; rfl) (lenOf pd16 rfl) rfl (Nat.le_of_ble_eq_true rfl) (hb hby at_234) (fun T123 X123 e123 => ?_)
      show own_G p e below _ (T123.setTop (mkF m 237 #[.val (.int p0), .val (.int p1), .val (.int p2), .val (.int p3), .val (.int p4), .val (.int (3 : Int32)), .val (.ref a1), .val (.ref a114), .val (.ref r120), .unset, .unset, .unset] [(.int (own_bi (!own_bl c1)))]))
      refine own_if_eq X123 hx (hb hby at_237) (pc' := 244) (by decide) (by decide) (fun c237_124 => ?_) (fun c237_124 => ?_)
      · show own_G p e below _ (T123.setTop (mkF m 244 #[.val (.int p0), .val (.int p1), .val (.int p2), .val (.int p3), .val (.int p4), .val (.int (3 : Int32)), .val (.ref a1), .val (.ref a114), .val (.ref r120), .unset, .unset, .unset] []))
        have c237_124b : (!own_bl c1) = false := own_bi_f c237_124
        refine own_step (b := T123.setTop (mkF m 246 #[.val (.int p0), .val (.int p1), .val (.int p2), .val (.int p3), .val (.int p4), .val (.int (3 : Int32)), .val (.ref a1), .val (.ref a114), .val (.ref r120), .unset, .unset, .unset] [(.ref a1)])) (fun _ qk => XS.aload X123.here hx rfl (hb hby at_244) rfl rfl qk) ?_
        refine own_step (b := T123.setTop (mkF m 247 #[.val (.int p0), .val (.int p1), .val (.int p2), .val (.int p3), .val (.int p4), .val (.int (3 : Int32)), .val (.ref a1), .val (.ref a114), .val (.ref r120), .unset, .unset, .unset] [(.int (2 : Int32)), (.ref a1)])) (fun _ qk => XS.iconst X123.here hx rfl (hb hby at_246) qk) ?_
        refine own_step (b := T123.setTop (mkF m 249 #[.val (.int p0), .val (.int p1), .val (.int p2), .val (.int p3), .val (.int p4), .val (.int (3 : Int32)), .val (.ref a1), .val (.ref a114), .val (.ref r120), .unset, .unset, .unset] [(.int (3 : Int32)), (.int (2 : Int32)), (.ref a1)])) (fun _ qk => XS.iload X123.here hx rfl (hb hby at_247) rfl qk) ?_
        refine own_staticP (W := 0) (argsL := [(.ref a1), (.int (2 : Int32)), (.int (3 : Int32))]) (st := []) X123 hx hZ hown (own_w hw 55 rfl) (own_w hw 56 rfl) (own_w hw 3 rfl) (own_w hw 57 rfl) (by decide) e123 (rmSol2 l Z a0 hw [] a1 k1 c0 c1 c2 c3 T120.heap V120 (3 : Int32) (by decide)) (by decide) (by decide) (by decide) (by decide) (by rw [hml]; rfl) (lenOf pd16 rfl) rfl (Nat.le_of_ble_eq_true rfl) (hb hby at_249) (fun T125 X125 e125 => ?_)
        show own_G p e below _ (T125.setTop (mkF m 252 #[.val (.int p0), .val (.int p1), .val (.int p2), .val (.int p3), .val (.int p4), .val (.int (3 : Int32)), .val (.ref a1), .val (.ref a114), .val (.ref r120), .unset, .unset, .unset] [(.int (own_bi (!own_bl c2)))]))
        refine own_if_eq X125 hx (hb hby at_252) (pc' := 259) (by decide) (by decide) (fun c252_126 => ?_) (fun c252_126 => ?_)
        · show own_G p e below _ (T125.setTop (mkF m 259 #[.val (.int p0), .val (.int p1), .val (.int p2), .val (.int p3), .val (.int p4), .val (.int (3 : Int32)), .val (.ref a1), .val (.ref a114), .val (.ref r120), .unset, .unset, .unset] []))
          have c252_126b : (!own_bl c2) = false := own_bi_f c252_126
          refine own_step (b := T125.setTop (mkF m 261 #[.val (.int p0), .val (.int p1), .val (.int p2), .val (.int p3), .val (.int p4), .val (.int (3 : Int32)), .val (.ref a1), .val (.ref a114), .val (.ref r120), .unset, .unset, .unset] [(.ref a1)])) (fun _ qk => XS.aload X125.here hx rfl (hb hby at_259) rfl rfl qk) ?_
          refine own_step (b := T125.setTop (mkF m 262 #[.val (.int p0), .val (.int p1), .val (.int p2), .val (.int p3), .val (.int p4), .val (.int (3 : Int32)), .val (.ref a1), .val (.ref a114), .val (.ref r120), .unset, .unset, .unset] [(.int (3 : Int32)), (.ref a1)])) (fun _ qk => XS.iconst X125.here hx rfl (hb hby at_261) qk) ?_
          refine own_step (b := T125.setTop (mkF m 264 #[.val (.int p0), .val (.int p1), .val (.int p2), .val (.int p3), .val (.int p4), .val (.int (3 : Int32)), .val (.ref a1), .val (.ref a114), .val (.ref r120), .unset, .unset, .unset] [(.int (3 : Int32)), (.int (3 : Int32)), (.ref a1)])) (fun _ qk => XS.iload X125.here hx rfl (hb hby at_262) rfl qk) ?_
          refine own_staticP (W := 0) (argsL := [(.ref a1), (.int (3 : Int32)), (.int (3 : Int32))]) (st := []) X125 hx hZ hown (own_w hw 55 rfl) (own_w hw 56 rfl) (own_w hw 3 rfl) (own_w hw 57 rfl) (by decide) e125 (rmSolF l Z a0 hw [] a1 (3 : Int32) (3 : Int32) T120.heap (by decide)) (by decide) (by decide) (by decide) (by decide) (by rw [hml]; rfl) (lenOf pd16 rfl) rfl (Nat.le_of_ble_eq_true rfl) (hb hby at_264) (fun T127 X127 e127 => ?_)
          show own_G p e below _ (T127.setTop (mkF m 267 #[.val (.int p0), .val (.int p1), .val (.int p2), .val (.int p3), .val (.int p4), .val (.int (3 : Int32)), .val (.ref a1), .val (.ref a114), .val (.ref r120), .unset, .unset, .unset] [(.int (own_bi false))]))
          refine own_if_eq X127 hx (hb hby at_267) (pc' := 274) (by decide) (by decide) (fun c267_128 => ?_) (fun c267_128 => absurd c267_128 (by decide))
          show own_G p e below _ (T127.setTop (mkF m 274 #[.val (.int p0), .val (.int p1), .val (.int p2), .val (.int p3), .val (.int p4), .val (.int (3 : Int32)), .val (.ref a1), .val (.ref a114), .val (.ref r120), .unset, .unset, .unset] []))
          refine own_step (b := T127.setTop (mkF m 276 #[.val (.int p0), .val (.int p1), .val (.int p2), .val (.int p3), .val (.int p4), .val (.int (3 : Int32)), .val (.ref a1), .val (.ref a114), .val (.ref r120), .unset, .unset, .unset] [(.int (3 : Int32))])) (fun _ qk => XS.iload X127.here hx rfl (hb hby at_274) rfl qk) ?_
          refine own_step (b := T127.setTop (mkF m 278 #[.val (.int p0), .val (.int p1), .val (.int p2), .val (.int p3), .val (.int p4), .val (.int (3 : Int32)), .val (.ref a1), .val (.ref a114), .val (.ref r120), .val (.int (3 : Int32)), .unset, .unset] [])) (fun _ qk => XS.istore X127.here hx rfl (hb hby at_276) rfl (l' := #[.val (.int p0), .val (.int p1), .val (.int p2), .val (.int p3), .val (.int p4), .val (.int (3 : Int32)), .val (.ref a1), .val (.ref a114), .val (.ref r120), .val (.int (3 : Int32)), .unset, .unset]) rfl qk) ?_
          refine own_step (b := T127.setTop (mkF m 280 #[.val (.int p0), .val (.int p1), .val (.int p2), .val (.int p3), .val (.int p4), .val (.int (3 : Int32)), .val (.ref a1), .val (.ref a114), .val (.ref r120), .val (.int (3 : Int32)), .unset, .unset] [(.ref a1)])) (fun _ qk => XS.aload X127.here hx rfl (hb hby at_278) rfl rfl qk) ?_
          refine own_step (b := T127.setTop (mkF m 281 #[.val (.int p0), .val (.int p1), .val (.int p2), .val (.int p3), .val (.int p4), .val (.int (3 : Int32)), .val (.ref a1), .val (.ref a114), .val (.ref r120), .val (.int (3 : Int32)), .unset, .unset] [(.int (3 : Int32)), (.ref a1)])) (fun _ qk => XS.iconst X127.here hx rfl (hb hby at_280) qk) ?_
          refine own_step (b := T127.setTop (mkF m 283 #[.val (.int p0), .val (.int p1), .val (.int p2), .val (.int p3), .val (.int p4), .val (.int (3 : Int32)), .val (.ref a1), .val (.ref a114), .val (.ref r120), .val (.int (3 : Int32)), .unset, .unset] [(.int (3 : Int32)), (.int (3 : Int32)), (.ref a1)])) (fun _ qk => XS.iload X127.here hx rfl (hb hby at_281) rfl qk) ?_
          refine own_staticP (W := 0) (argsL := [(.ref a1), (.int (3 : Int32)), (.int (3 : Int32))]) (st := []) X127 hx hZ hown (own_w hw 55 rfl) (own_w hw 56 rfl) (own_w hw 3 rfl) (own_w hw 57 rfl) (by decide) e127 (rmSolF l Z a0 hw [] a1 (3 : Int32) (3 : Int32) T120.heap (by decide)) (by decide) (by decide) (by decide) (by decide) (by rw [hml]; rfl) (lenOf pd16 rfl) rfl (Nat.le_of_ble_eq_true rfl) (hb hby at_283) (fun T129 X129 e129 => ?_)
          show own_G p e below _ (T129.setTop (mkF m 286 #[.val (.int p0), .val (.int p1), .val (.int p2), .val (.int p3), .val (.int p4), .val (.int (3 : Int32)), .val (.ref a1), .val (.ref a114), .val (.ref r120), .val (.int (3 : Int32)), .unset, .unset] [(.int (own_bi false))]))
          refine own_if_eq X129 hx (hb hby at_286) (pc' := 293) (by decide) (by decide) (fun c286_130 => ?_) (fun c286_130 => absurd c286_130 (by decide))
          show own_G p e below _ (T129.setTop (mkF m 293 #[.val (.int p0), .val (.int p1), .val (.int p2), .val (.int p3), .val (.int p4), .val (.int (3 : Int32)), .val (.ref a1), .val (.ref a114), .val (.ref r120), .val (.int (3 : Int32)), .unset, .unset] []))
          refine own_step (b := T129.setTop (mkF m 295 #[.val (.int p0), .val (.int p1), .val (.int p2), .val (.int p3), .val (.int p4), .val (.int (3 : Int32)), .val (.ref a1), .val (.ref a114), .val (.ref r120), .val (.int (3 : Int32)), .unset, .unset] [(.ref a1)])) (fun _ qk => XS.aload X129.here hx rfl (hb hby at_293) rfl rfl qk) ?_
          refine own_step (b := T129.setTop (mkF m 296 #[.val (.int p0), .val (.int p1), .val (.int p2), .val (.int p3), .val (.int p4), .val (.int (3 : Int32)), .val (.ref a1), .val (.ref a114), .val (.ref r120), .val (.int (3 : Int32)), .unset, .unset] [(.int (2 : Int32)), (.ref a1)])) (fun _ qk => XS.iconst X129.here hx rfl (hb hby at_295) qk) ?_
          refine own_step (b := T129.setTop (mkF m 298 #[.val (.int p0), .val (.int p1), .val (.int p2), .val (.int p3), .val (.int p4), .val (.int (3 : Int32)), .val (.ref a1), .val (.ref a114), .val (.ref r120), .val (.int (3 : Int32)), .unset, .unset] [(.int (3 : Int32)), (.int (2 : Int32)), (.ref a1)])) (fun _ qk => XS.iload X129.here hx rfl (hb hby at_296) rfl qk) ?_
          refine own_staticP (W := 0) (argsL := [(.ref a1), (.int (2 : Int32)), (.int (3 : Int32))]) (st := []) X129 hx hZ hown (own_w hw 55 rfl) (own_w hw 56 rfl) (own_w hw 3 rfl) (own_w hw 57 rfl) (by decide) e129 (rmSol2 l Z a0 hw [] a1 k1 c0 c1 c2 c3 T120.heap V120 (3 : Int32) (by decide)) (by decide) (by decide) (by decide) (by decide) (by rw [hml]; rfl) (lenOf pd16 rfl) rfl (Nat.le_of_ble_eq_true rfl) (hb hby at_298) (fun T131 X131 e131 => ?_)
          show own_G p e below _ (T131.setTop (mkF m 301 #[.val (.int p0), .val (.int p1), .val (.int p2), .val (.int p3), .val (.int p4), .val (.int (3 : Int32)), .val (.ref a1), .val (.ref a114), .val (.ref r120), .val (.int (3 : Int32)), .unset, .unset] [(.int (own_bi (!own_bl c2)))]))
          refine own_if_eq X131 hx (hb hby at_301) (pc' := 308) (by decide) (by decide) (fun c301_132 => ?_) (fun c301_132 => absurd c301_132 (by rw [c252_126b]; decide))
          show own_G p e below _ (T131.setTop (mkF m 308 #[.val (.int p0), .val (.int p1), .val (.int p2), .val (.int p3), .val (.int p4), .val (.int (3 : Int32)), .val (.ref a1), .val (.ref a114), .val (.ref r120), .val (.int (3 : Int32)), .unset, .unset] []))
          refine own_step (b := T131.setTop (mkF m 310 #[.val (.int p0), .val (.int p1), .val (.int p2), .val (.int p3), .val (.int p4), .val (.int (3 : Int32)), .val (.ref a1), .val (.ref a114), .val (.ref r120), .val (.int (3 : Int32)), .unset, .unset] [(.ref a1)])) (fun _ qk => XS.aload X131.here hx rfl (hb hby at_308) rfl rfl qk) ?_
          refine own_step (b := T131.setTop (mkF m 311 #[.val (.int p0), .val (.int p1), .val (.int p2), .val (.int p3), .val (.int p4), .val (.int (3 : Int32)), .val (.ref a1), .val (.ref a114), .val (.ref r120), .val (.int (3 : Int32)), .unset, .unset] [(.int (1 : Int32)), (.ref a1)])) (fun _ qk => XS.iconst X131.here hx rfl (hb hby at_310) qk) ?_
          refine own_step (b := T131.setTop (mkF m 313 #[.val (.int p0), .val (.int p1), .val (.int p2), .val (.int p3), .val (.int p4), .val (.int (3 : Int32)), .val (.ref a1), .val (.ref a114), .val (.ref r120), .val (.int (3 : Int32)), .unset, .unset] [(.int (3 : Int32)), (.int (1 : Int32)), (.ref a1)])) (fun _ qk => XS.iload X131.here hx rfl (hb hby at_311) rfl qk) ?_
          refine own_staticP (W := 0) (argsL := [(.ref a1), (.int (1 : Int32)), (.int (3 : Int32))]) (st := []) X131 hx hZ hown (own_w hw 55 rfl) (own_w hw 56 rfl) (own_w hw 3 rfl) (own_w hw 57 rfl) (by decide) e131 (rmSol1 l Z a0 hw [] a1 k1 c0 c1 c2 c3 T120.heap V120 (3 : Int32) (by decide)) (by decide) (by decide) (by decide) (by decide) (by rw [hml]; rfl) (lenOf pd16 rfl) rfl (Nat.le_of_ble_eq_true rfl) (hb hby at_313) (fun T133 X133 e133 => ?_)
          show own_G p e below _ (T133.setTop (mkF m 316 #[.val (.int p0), .val (.int p1), .val (.int p2), .val (.int p3), .val (.int p4), .val (.int (3 : Int32)), .val (.ref a1), .val (.ref a114), .val (.ref r120), .val (.int (3 : Int32)), .unset, .unset] [(.int (own_bi (!own_bl c1)))]))
          refine own_if_eq X133 hx (hb hby at_316) (pc' := 323) (by decide) (by decide) (fun c316_134 => ?_) (fun c316_134 => absurd c316_134 (by rw [c237_124b]; decide))
          show own_G p e below _ (T133.setTop (mkF m 323 #[.val (.int p0), .val (.int p1), .val (.int p2), .val (.int p3), .val (.int p4), .val (.int (3 : Int32)), .val (.ref a1), .val (.ref a114), .val (.ref r120), .val (.int (3 : Int32)), .unset, .unset] []))
          refine own_step (b := T133.setTop (mkF m 325 #[.val (.int p0), .val (.int p1), .val (.int p2), .val (.int p3), .val (.int p4), .val (.int (3 : Int32)), .val (.ref a1), .val (.ref a114), .val (.ref r120), .val (.int (3 : Int32)), .unset, .unset] [(.ref a1)])) (fun _ qk => XS.aload X133.here hx rfl (hb hby at_323) rfl rfl qk) ?_
          refine own_step (b := T133.setTop (mkF m 326 #[.val (.int p0), .val (.int p1), .val (.int p2), .val (.int p3), .val (.int p4), .val (.int (3 : Int32)), .val (.ref a1), .val (.ref a114), .val (.ref r120), .val (.int (3 : Int32)), .unset, .unset] [(.int (0 : Int32)), (.ref a1)])) (fun _ qk => XS.iconst X133.here hx rfl (hb hby at_325) qk) ?_
          refine own_step (b := T133.setTop (mkF m 328 #[.val (.int p0), .val (.int p1), .val (.int p2), .val (.int p3), .val (.int p4), .val (.int (3 : Int32)), .val (.ref a1), .val (.ref a114), .val (.ref r120), .val (.int (3 : Int32)), .unset, .unset] [(.int (3 : Int32)), (.int (0 : Int32)), (.ref a1)])) (fun _ qk => XS.iload X133.here hx rfl (hb hby at_326) rfl qk) ?_
          refine own_staticP (W := 0) (argsL := [(.ref a1), (.int (0 : Int32)), (.int (3 : Int32))]) (st := []) X133 hx hZ hown (own_w hw 55 rfl) (own_w hw 56 rfl) (own_w hw 3 rfl) (own_w hw 57 rfl) (by decide) e133 (rmSol0 l Z a0 hw [] a1 k1 c0 c1 c2 c3 T120.heap V120 (3 : Int32) (by decide)) (by decide) (by decide) (by decide) (by decide) (by rw [hml]; rfl) (lenOf pd16 rfl) rfl (Nat.le_of_ble_eq_true rfl) (hb hby at_328) (fun T135 X135 e135 => ?_)
          show own_G p e below _ (T135.setTop (mkF m 331 #[.val (.int p0), .val (.int p1), .val (.int p2), .val (.int p3), .val (.int p4), .val (.int (3 : Int32)), .val (.ref a1), .val (.ref a114), .val (.ref r120), .val (.int (3 : Int32)), .unset, .unset] [(.int (own_bi (!own_bl c0)))]))
          refine own_if_eq X135 hx (hb hby at_331) (pc' := 338) (by decide) (by decide) (fun c331_136 => ?_) (fun c331_136 => absurd c331_136 (by rw [c222_122b]; decide))
          show own_G p e below _ (T135.setTop (mkF m 338 #[.val (.int p0), .val (.int p1), .val (.int p2), .val (.int p3), .val (.int p4), .val (.int (3 : Int32)), .val (.ref a1), .val (.ref a114), .val (.ref r120), .val (.int (3 : Int32)), .unset, .unset] []))
          refine own_step (b := T135.setTop (mkF m 340 #[.val (.int p0), .val (.int p1), .val (.int p2), .val (.int p3), .val (.int p4), .val (.int (3 : Int32)), .val (.ref a1), .val (.ref a114), .val (.ref r120), .val (.int (3 : Int32)), .unset, .unset] [(.int (3 : Int32))])) (fun _ qk => XS.iload X135.here hx rfl (hb hby at_338) rfl qk) ?_
          refine own_step (b := T135.setTop (mkF m 342 #[.val (.int p0), .val (.int p1), .val (.int p2), .val (.int p3), .val (.int p4), .val (.int (3 : Int32)), .val (.ref a1), .val (.ref a114), .val (.ref r120), .val (.int (3 : Int32)), .val (.int (3 : Int32)), .unset] [])) (fun _ qk => XS.istore X135.here hx rfl (hb hby at_340) rfl (l' := #[.val (.int p0), .val (.int p1), .val (.int p2), .val (.int p3), .val (.int p4), .val (.int (3 : Int32)), .val (.ref a1), .val (.ref a114), .val (.ref r120), .val (.int (3 : Int32)), .val (.int (3 : Int32)), .unset]) rfl qk) ?_
          have c222_122bn := c222_122b
          simp only [Bool.not_eq_true', Bool.not_eq_false'] at c222_122bn
          have c237_124bn := c237_124b
          simp only [Bool.not_eq_true', Bool.not_eq_false'] at c237_124bn
          have c252_126bn := c252_126b
          simp only [Bool.not_eq_true', Bool.not_eq_false'] at c252_126bn
          refine J T135 _ _ _ r120 a114 _ 3 3 [] (X135.more (by decide) (by decide)) hS (by rw [show T135.heap = T120.heap from e135]; omega) hZ hown N120 (by rw [show T135.heap = T120.heap from e135]; exact OL120) (by rw [show T135.heap = T120.heap from e135]; exact V120) ?_ (by decide) (by decide) rfl ?_
          · rw [show T135.heap = T120.heap from e135]; have q := SR120; rw [show own_strip [c0, c1, c2] = [] by simp [own_strip, List.dropWhile, c222_122bn, c237_124bn, c252_126bn]] at q; exact q
          · intro q hq; have hq' : q < 0 := hq; exact match q, hq' with  | q + 0, h_ => absurd h_ (by omega)
        · show own_G p e below _ (T125.setTop (mkF m 255 #[.val (.int p0), .val (.int p1), .val (.int p2), .val (.int p3), .val (.int p4), .val (.int (3 : Int32)), .val (.ref a1), .val (.ref a114), .val (.ref r120), .unset, .unset, .unset] []))
          have c252_126b : (!own_bl c2) = true := own_bi_t c252_126
          refine own_step (b := T125.setTop (mkF m 256 #[.val (.int p0), .val (.int p1), .val (.int p2), .val (.int p3), .val (.int p4), .val (.int (3 : Int32)), .val (.ref a1), .val (.ref a114), .val (.ref r120), .unset, .unset, .unset] [(.int (2 : Int32))])) (fun _ qk => XS.iconst X125.here hx rfl (hb hby at_255) qk) ?_
          refine own_step (b := T125.setTop (mkF m 276 #[.val (.int p0), .val (.int p1), .val (.int p2), .val (.int p3), .val (.int p4), .val (.int (3 : Int32)), .val (.ref a1), .val (.ref a114), .val (.ref r120), .unset, .unset, .unset] [(.int (2 : Int32))])) (fun _ qk => XS.goto X125.here hx rfl (pc0 := 256) (pc' := 276) rfl (hb hby at_256) (by decide) (by decide) qk) ?_
          refine own_step (b := T125.setTop (mkF m 278 #[.val (.int p0), .val (.int p1), .val (.int p2), .val (.int p3), .val (.int p4), .val (.int (3 : Int32)), .val (.ref a1), .val (.ref a114), .val (.ref r120), .val (.int (2 : Int32)), .unset, .unset] [])) (fun _ qk => XS.istore X125.here hx rfl (hb hby at_276) rfl (l' := #[.val (.int p0), .val (.int p1), .val (.int p2), .val (.int p3), .val (.int p4), .val (.int (3 : Int32)), .val (.ref a1), .val (.ref a114), .val (.ref r120), .val (.int (2 : Int32)), .unset, .unset]) rfl qk) ?_
          refine own_step (b := T125.setTop (mkF m 280 #[.val (.int p0), .val (.int p1), .val (.int p2), .val (.int p3), .val (.int p4), .val (.int (3 : Int32)), .val (.ref a1), .val (.ref a114), .val (.ref r120), .val (.int (2 : Int32)), .unset, .unset] [(.ref a1)])) (fun _ qk => XS.aload X125.here hx rfl (hb hby at_278) rfl rfl qk) ?_
          refine own_step (b := T125.setTop (mkF m 281 #[.val (.int p0), .val (.int p1), .val (.int p2), .val (.int p3), .val (.int p4), .val (.int (3 : Int32)), .val (.ref a1), .val (.ref a114), .val (.ref r120), .val (.int (2 : Int32)), .unset, .unset] [(.int (3 : Int32)), (.ref a1)])) (fun _ qk => XS.iconst X125.here hx rfl (hb hby at_280) qk) ?_
          refine own_step (b := T125.setTop (mkF m 283 #[.val (.int p0), .val (.int p1), .val (.int p2), .val (.int p3), .val (.int p4), .val (.int (3 : Int32)), .val (.ref a1), .val (.ref a114), .val (.ref r120), .val (.int (2 : Int32)), .unset, .unset] [(.int (3 : Int32)), (.int (3 : Int32)), (.ref a1)])) (fun _ qk => XS.iload X125.here hx rfl (hb hby at_281) rfl qk) ?_
          refine own_staticP (W := 0) (argsL := [(.ref a1), (.int (3 : Int32)), (.int (3 : Int32))]) (st := []) X125 hx hZ hown (own_w hw 55 rfl) (own_w hw 56 rfl) (own_w hw 3 rfl) (own_w hw 57 rfl) (by decide) e125 (rmSolF l Z a0 hw [] a1 (3 : Int32) (3 : Int32) T120.heap (by decide)) (by decide) (by decide) (by decide) (by decide) (by rw [hml]; rfl) (lenOf pd16 rfl) rfl (Nat.le_of_ble_eq_true rfl) (hb hby at_283) (fun T137 X137 e137 => ?_)
          show own_G p e below _ (T137.setTop (mkF m 286 #[.val (.int p0), .val (.int p1), .val (.int p2), .val (.int p3), .val (.int p4), .val (.int (3 : Int32)), .val (.ref a1), .val (.ref a114), .val (.ref r120), .val (.int (2 : Int32)), .unset, .unset] [(.int (own_bi false))]))
          refine own_if_eq X137 hx (hb hby at_286) (pc' := 293) (by decide) (by decide) (fun c286_138 => ?_) (fun c286_138 => absurd c286_138 (by decide))
          show own_G p e below _ (T137.setTop (mkF m 293 #[.val (.int p0), .val (.int p1), .val (.int p2), .val (.int p3), .val (.int p4), .val (.int (3 : Int32)), .val (.ref a1), .val (.ref a114), .val (.ref r120), .val (.int (2 : Int32)), .unset, .unset] []))
          refine own_step (b := T137.setTop (mkF m 295 #[.val (.int p0), .val (.int p1), .val (.int p2), .val (.int p3), .val (.int p4), .val (.int (3 : Int32)), .val (.ref a1), .val (.ref a114), .val (.ref r120), .val (.int (2 : Int32)), .unset, .unset] [(.ref a1)])) (fun _ qk => XS.aload X137.here hx rfl (hb hby at_293) rfl rfl qk) ?_
          refine own_step (b := T137.setTop (mkF m 296 #[.val (.int p0), .val (.int p1), .val (.int p2), .val (.int p3), .val (.int p4), .val (.int (3 : Int32)), .val (.ref a1), .val (.ref a114), .val (.ref r120), .val (.int (2 : Int32)), .unset, .unset] [(.int (2 : Int32)), (.ref a1)])) (fun _ qk => XS.iconst X137.here hx rfl (hb hby at_295) qk) ?_
          refine own_step (b := T137.setTop (mkF m 298 #[.val (.int p0), .val (.int p1), .val (.int p2), .val (.int p3), .val (.int p4), .val (.int (3 : Int32)), .val (.ref a1), .val (.ref a114), .val (.ref r120), .val (.int (2 : Int32)), .unset, .unset] [(.int (3 : Int32)), (.int (2 : Int32)), (.ref a1)])) (fun _ qk => XS.iload X137.here hx rfl (hb hby at_296) rfl qk) ?_
          refine own_staticP (W := 0) (argsL := [(.ref a1), (.int (2 : Int32)), (.int (3 : Int32))]) (st := []) X137 hx hZ hown (own_w hw 55 rfl) (own_w hw 56 rfl) (own_w hw 3 rfl) (own_w hw 57 rfl) (by decide) e137 (rmSol2 l Z a0 hw [] a1 k1 c0 c1 c2 c3 T120.heap V120 (3 : Int32) (by decide)) (by decide) (by decide) (by decide) (by decide) (by rw [hml]; rfl) (lenOf pd16 rfl) rfl (Nat.le_of_ble_eq_true rfl) (hb hby at_298) (fun T139 X139 e139 => ?_)
          show own_G p e below _ (T139.setTop (mkF m 301 #[.val (.int p0), .val (.int p1), .val (.int p2), .val (.int p3), .val (.int p4), .val (.int (3 : Int32)), .val (.ref a1), .val (.ref a114), .val (.ref r120), .val (.int (2 : Int32)), .unset, .unset] [(.int (own_bi (!own_bl c2)))]))
          refine own_if_eq X139 hx (hb hby at_301) (pc' := 308) (by decide) (by decide) (fun c301_140 => absurd c301_140 (by rw [c252_126b]; decide)) (fun c301_140 => ?_)
          show own_G p e below _ (T139.setTop (mkF m 304 #[.val (.int p0), .val (.int p1), .val (.int p2), .val (.int p3), .val (.int p4), .val (.int (3 : Int32)), .val (.ref a1), .val (.ref a114), .val (.ref r120), .val (.int (2 : Int32)), .unset, .unset] []))
          refine own_step (b := T139.setTop (mkF m 305 #[.val (.int p0), .val (.int p1), .val (.int p2), .val (.int p3), .val (.int p4), .val (.int (3 : Int32)), .val (.ref a1), .val (.ref a114), .val (.ref r120), .val (.int (2 : Int32)), .unset, .unset] [(.int (3 : Int32))])) (fun _ qk => XS.iconst X139.here hx rfl (hb hby at_304) qk) ?_
          refine own_step (b := T139.setTop (mkF m 340 #[.val (.int p0), .val (.int p1), .val (.int p2), .val (.int p3), .val (.int p4), .val (.int (3 : Int32)), .val (.ref a1), .val (.ref a114), .val (.ref r120), .val (.int (2 : Int32)), .unset, .unset] [(.int (3 : Int32))])) (fun _ qk => XS.goto X139.here hx rfl (pc0 := 305) (pc' := 340) rfl (hb hby at_305) (by decide) (by decide) qk) ?_
          refine own_step (b := T139.setTop (mkF m 342 #[.val (.int p0), .val (.int p1), .val (.int p2), .val (.int p3), .val (.int p4), .val (.int (3 : Int32)), .val (.ref a1), .val (.ref a114), .val (.ref r120), .val (.int (2 : Int32)), .val (.int (3 : Int32)), .unset] [])) (fun _ qk => XS.istore X139.here hx rfl (hb hby at_340) rfl (l' := #[.val (.int p0), .val (.int p1), .val (.int p2), .val (.int p3), .val (.int p4), .val (.int (3 : Int32)), .val (.ref a1), .val (.ref a114), .val (.ref r120), .val (.int (2 : Int32)), .val (.int (3 : Int32)), .unset]) rfl qk) ?_
          have c222_122bn := c222_122b
          simp only [Bool.not_eq_true', Bool.not_eq_false'] at c222_122bn
          have c237_124bn := c237_124b
          simp only [Bool.not_eq_true', Bool.not_eq_false'] at c237_124bn
          have c252_126bn := c252_126b
          simp only [Bool.not_eq_true', Bool.not_eq_false'] at c252_126bn
          refine J T139 _ _ _ r120 a114 _ 2 3 [c2] (X139.more (by decide) (by decide)) hS (by rw [show T139.heap = T120.heap from e139]; omega) hZ hown N120 (by rw [show T139.heap = T120.heap from e139]; exact OL120) (by rw [show T139.heap = T120.heap from e139]; exact V120) ?_ (by decide) (by decide) rfl ?_
          · rw [show T139.heap = T120.heap from e139]; have q := SR120; rw [show own_strip [c0, c1, c2] = [c2] by simp [own_strip, List.dropWhile, c222_122bn, c237_124bn, c252_126bn]] at q; exact q
          · intro q hq; have hq' : q < 1 := hq; exact match q, hq' with | 0, _ => rfl | q + 1, h_ => absurd h_ (by omega)
      · show own_G p e below _ (T123.setTop (mkF m 240 #[.val (.int p0), .val (.int p1), .val (.int p2), .val (.int p3), .val (.int p4), .val (.int (3 : Int32)), .val (.ref a1), .val (.ref a114), .val (.ref r120), .unset, .unset, .unset] []))
        have c237_124b : (!own_bl c1) = true := own_bi_t c237_124
        refine own_step (b := T123.setTop (mkF m 241 #[.val (.int p0), .val (.int p1), .val (.int p2), .val (.int p3), .val (.int p4), .val (.int (3 : Int32)), .val (.ref a1), .val (.ref a114), .val (.ref r120), .unset, .unset, .unset] [(.int (1 : Int32))])) (fun _ qk => XS.iconst X123.here hx rfl (hb hby at_240) qk) ?_
        refine own_step (b := T123.setTop (mkF m 276 #[.val (.int p0), .val (.int p1), .val (.int p2), .val (.int p3), .val (.int p4), .val (.int (3 : Int32)), .val (.ref a1), .val (.ref a114), .val (.ref r120), .unset, .unset, .unset] [(.int (1 : Int32))])) (fun _ qk => XS.goto X123.here hx rfl (pc0 := 241) (pc' := 276) rfl (hb hby at_241) (by decide) (by decide) qk) ?_
        refine own_step (b := T123.setTop (mkF m 278 #[.val (.int p0), .val (.int p1), .val (.int p2), .val (.int p3), .val (.int p4), .val (.int (3 : Int32)), .val (.ref a1), .val (.ref a114), .val (.ref r120), .val (.int (1 : Int32)), .unset, .unset] [])) (fun _ qk => XS.istore X123.here hx rfl (hb hby at_276) rfl (l' := #[.val (.int p0), .val (.int p1), .val (.int p2), .val (.int p3), .val (.int p4), .val (.int (3 : Int32)), .val (.ref a1), .val (.ref a114), .val (.ref r120), .val (.int (1 : Int32)), .unset, .unset]) rfl qk) ?_
        refine own_step (b := T123.setTop (mkF m 280 #[.val (.int p0), .val (.int p1), .val (.int p2), .val (.int p3), .val (.int p4), .val (.int (3 : Int32)), .val (.ref a1), .val (.ref a114), .val (.ref r120), .val (.int (1 : Int32)), .unset, .unset] [(.ref a1)])) (fun _ qk => XS.aload X123.here hx rfl (hb hby at_278) rfl rfl qk) ?_
        refine own_step (b := T123.setTop (mkF m 281 #[.val (.int p0), .val (.int p1), .val (.int p2), .val (.int p3), .val (.int p4), .val (.int (3 : Int32)), .val (.ref a1), .val (.ref a114), .val (.ref r120), .val (.int (1 : Int32)), .unset, .unset] [(.int (3 : Int32)), (.ref a1)])) (fun _ qk => XS.iconst X123.here hx rfl (hb hby at_280) qk) ?_
        refine own_step (b := T123.setTop (mkF m 283 #[.val (.int p0), .val (.int p1), .val (.int p2), .val (.int p3), .val (.int p4), .val (.int (3 : Int32)), .val (.ref a1), .val (.ref a114), .val (.ref r120), .val (.int (1 : Int32)), .unset, .unset] [(.int (3 : Int32)), (.int (3 : Int32)), (.ref a1)])) (fun _ qk => XS.iload X123.here hx rfl (hb hby at_281) rfl qk) ?_
        refine own_staticP (W := 0) (argsL := [(.ref a1), (.int (3 : Int32)), (.int (3 : Int32))]) (st := []) X123 hx hZ hown (own_w hw 55 rfl) (own_w hw 56 rfl) (own_w hw 3 rfl) (own_w hw 57 rfl) (by decide) e123 (rmSolF l Z a0 hw [] a1 (3 : Int32) (3 : Int32) T120.heap (by decide)) (by decide) (by decide) (by decide) (by decide) (by rw [hml]; rfl) (lenOf pd16 rfl) rfl (Nat.le_of_ble_eq_true rfl) (hb hby at_283) (fun T141 X141 e141 => ?_)
        show own_G p e below _ (T141.setTop (mkF m 286 #[.val (.int p0), .val (.int p1), .val (.int p2), .val (.int p3), .val (.int p4), .val (.int (3 : Int32)), .val (.ref a1), .val (.ref a114), .val (.ref r120), .val (.int (1 : Int32)), .unset, .unset] [(.int (own_bi false))]))
        refine own_if_eq X141 hx (hb hby at_286) (pc' := 293) (by decide) (by decide) (fun c286_142 => ?_) (fun c286_142 => absurd c286_142 (by decide))
        show own_G p e below _ (T141.setTop (mkF m 293 #[.val (.int p0), .val (.int p1), .val (.int p2), .val (.int p3), .val (.int p4), .val (.int (3 : Int32)), .val (.ref a1), .val (.ref a114), .val (.ref r120), .val (.int (1 : Int32)), .unset, .unset] []))
        refine own_step (b := T141.setTop (mkF m 295 #[.val (.int p0), .val (.int p1), .val (.int p2), .val (.int p3), .val (.int p4), .val (.int (3 : Int32)), .val (.ref a1), .val (.ref a114), .val (.ref r120), .val (.int (1 : Int32)), .unset, .unset] [(.ref a1)])) (fun _ qk => XS.aload X141.here hx rfl (hb hby at_293) rfl rfl qk) ?_
        refine own_step (b := T141.setTop (mkF m 296 #[.val (.int p0), .val (.int p1), .val (.int p2), .val (.int p3), .val (.int p4), .val (.int (3 : Int32)), .val (.ref a1), .val (.ref a114), .val (.ref r120), .val (.int (1 : Int32)), .unset, .unset] [(.int (2 : Int32)), (.ref a1)])) (fun _ qk => XS.iconst X141.here hx rfl (hb hby at_295) qk) ?_
        refine own_step (b := T141.setTop (mkF m 298 #[.val (.int p0), .val (.int p1), .val (.int p2), .val (.int p3), .val (.int p4), .val (.int (3 : Int32)), .val (.ref a1), .val (.ref a114), .val (.ref r120), .val (.int (1 : Int32)), .unset, .unset] [(.int (3 : Int32)), (.int (2 : Int32)), (.ref a1)])) (fun _ qk => XS.iload X141.here hx rfl (hb hby at_296) rfl qk) ?_
        refine own_staticP (W := 0) (argsL := [(.ref a1), (.int (2 : Int32)), (.int (3 : Int32))]) (st := []) X141 hx hZ hown (own_w hw 55 rfl) (own_w hw 56 rfl) (own_w hw 3 rfl) (own_w hw 57 rfl) (by decide) e141 (rmSol2 l Z a0 hw [] a1 k1 c0 c1 c2 c3 T120.heap V120 (3 : Int32) (by decide)) (by decide) (by decide) (by decide) (by decide) (by rw [hml]; rfl) (lenOf pd16 rfl) rfl (Nat.le_of_ble_eq_true rfl) (hb hby at_298) (fun T143 X143 e143 => ?_)
        show own_G p e below _ (T143.setTop (mkF m 301 #[.val (.int p0), .val (.int p1), .val (.int p2), .val (.int p3), .val (.int p4), .val (.int (3 : Int32)), .val (.ref a1), .val (.ref a114), .val (.ref r120), .val (.int (1 : Int32)), .unset, .unset] [(.int (own_bi (!own_bl c2)))]))
        refine own_if_eq X143 hx (hb hby at_301) (pc' := 308) (by decide) (by decide) (fun c301_144 => ?_) (fun c301_144 => ?_)
        · show own_G p e below _ (T143.setTop (mkF m 308 #[.val (.int p0), .val (.int p1), .val (.int p2), .val (.int p3), .val (.int p4), .val (.int (3 : Int32)), .val (.ref a1), .val (.ref a114), .val (.ref r120), .val (.int (1 : Int32)), .unset, .unset] []))
          have c301_144b : (!own_bl c2) = false := own_bi_f c301_144
          refine own_step (b := T143.setTop (mkF m 310 #[.val (.int p0), .val (.int p1), .val (.int p2), .val (.int p3), .val (.int p4), .val (.int (3 : Int32)), .val (.ref a1), .val (.ref a114), .val (.ref r120), .val (.int (1 : Int32)), .unset, .unset] [(.ref a1)])) (fun _ qk => XS.aload X143.here hx rfl (hb hby at_308) rfl rfl qk) ?_
          refine own_step (b := T143.setTop (mkF m 311 #[.val (.int p0), .val (.int p1), .val (.int p2), .val (.int p3), .val (.int p4), .val (.int (3 : Int32)), .val (.ref a1), .val (.ref a114), .val (.ref r120), .val (.int (1 : Int32)), .unset, .unset] [(.int (1 : Int32)), (.ref a1)])) (fun _ qk => XS.iconst X143.here hx rfl (hb hby at_310) qk) ?_
          refine own_step (b := T143.setTop (mkF m 313 #[.val (.int p0), .val (.int p1), .val (.int p2), .val (.int p3), .val (.int p4), .val (.int (3 : Int32)), .val (.ref a1), .val (.ref a114), .val (.ref r120), .val (.int (1 : Int32)), .unset, .unset] [(.int (3 : Int32)), (.int (1 : Int32)), (.ref a1)])) (fun _ qk => XS.iload X143.here hx rfl (hb hby at_311) rfl qk) ?_
          refine own_staticP (W := 0) (argsL := [(.ref a1), (.int (1 : Int32)), (.int (3 : Int32))]) (st := []) X143 hx hZ hown (own_w hw 55 rfl) (own_w hw 56 rfl) (own_w hw 3 rfl) (own_w hw 57 rfl) (by decide) e143 (rmSol1 l Z a0 hw [] a1 k1 c0 c1 c2 c3 T120.heap V120 (3 : Int32) (by decide)) (by decide) (by decide) (by decide) (by decide) (by rw [hml]; rfl) (lenOf pd16 rfl) rfl (Nat.le_of_ble_eq_true rfl) (hb hby at_313) (fun T145 X145 e145 => ?_)
          show own_G p e below _ (T145.setTop (mkF m 316 #[.val (.int p0), .val (.int p1), .val (.int p2), .val (.int p3), .val (.int p4), .val (.int (3 : Int32)), .val (.ref a1), .val (.ref a114), .val (.ref r120), .val (.int (1 : Int32)), .unset, .unset] [(.int (own_bi (!own_bl c1)))]))
          refine own_if_eq X145 hx (hb hby at_316) (pc' := 323) (by decide) (by decide) (fun c316_146 => absurd c316_146 (by rw [c237_124b]; decide)) (fun c316_146 => ?_)
          show own_G p e below _ (T145.setTop (mkF m 319 #[.val (.int p0), .val (.int p1), .val (.int p2), .val (.int p3), .val (.int p4), .val (.int (3 : Int32)), .val (.ref a1), .val (.ref a114), .val (.ref r120), .val (.int (1 : Int32)), .unset, .unset] []))
          refine own_step (b := T145.setTop (mkF m 320 #[.val (.int p0), .val (.int p1), .val (.int p2), .val (.int p3), .val (.int p4), .val (.int (3 : Int32)), .val (.ref a1), .val (.ref a114), .val (.ref r120), .val (.int (1 : Int32)), .unset, .unset] [(.int (2 : Int32))])) (fun _ qk => XS.iconst X145.here hx rfl (hb hby at_319) qk) ?_
          refine own_step (b := T145.setTop (mkF m 340 #[.val (.int p0), .val (.int p1), .val (.int p2), .val (.int p3), .val (.int p4), .val (.int (3 : Int32)), .val (.ref a1), .val (.ref a114), .val (.ref r120), .val (.int (1 : Int32)), .unset, .unset] [(.int (2 : Int32))])) (fun _ qk => XS.goto X145.here hx rfl (pc0 := 320) (pc' := 340) rfl (hb hby at_320) (by decide) (by decide) qk) ?_
          refine own_step (b := T145.setTop (mkF m 342 #[.val (.int p0), .val (.int p1), .val (.int p2), .val (.int p3), .val (.int p4), .val (.int (3 : Int32)), .val (.ref a1), .val (.ref a114), .val (.ref r120), .val (.int (1 : Int32)), .val (.int (2 : Int32)), .unset] [])) (fun _ qk => XS.istore X145.here hx rfl (hb hby at_340) rfl (l' := #[.val (.int p0), .val (.int p1), .val (.int p2), .val (.int p3), .val (.int p4), .val (.int (3 : Int32)), .val (.ref a1), .val (.ref a114), .val (.ref r120), .val (.int (1 : Int32)), .val (.int (2 : Int32)), .unset]) rfl qk) ?_
          have c222_122bn := c222_122b
          simp only [Bool.not_eq_true', Bool.not_eq_false'] at c222_122bn
          have c237_124bn := c237_124b
          simp only [Bool.not_eq_true', Bool.not_eq_false'] at c237_124bn
          have c301_144bn := c301_144b
          simp only [Bool.not_eq_true', Bool.not_eq_false'] at c301_144bn
          refine J T145 _ _ _ r120 a114 _ 1 2 [c1] (X145.more (by decide) (by decide)) hS (by rw [show T145.heap = T120.heap from e145]; omega) hZ hown N120 (by rw [show T145.heap = T120.heap from e145]; exact OL120) (by rw [show T145.heap = T120.heap from e145]; exact V120) ?_ (by decide) (by decide) rfl ?_
          · rw [show T145.heap = T120.heap from e145]; have q := SR120; rw [show own_strip [c0, c1, c2] = [c1] by simp [own_strip, List.dropWhile, c222_122bn, c237_124bn, c301_144bn]] at q; exact q
          · intro q hq; have hq' : q < 1 := hq; exact match q, hq' with | 0, _ => rfl | q + 1, h_ => absurd h_ (by omega)
        · show own_G p e below _ (T143.setTop (mkF m 304 #[.val (.int p0), .val (.int p1), .val (.int p2), .val (.int p3), .val (.int p4), .val (.int (3 : Int32)), .val (.ref a1), .val (.ref a114), .val (.ref r120), .val (.int (1 : Int32)), .unset, .unset] []))
          have c301_144b : (!own_bl c2) = true := own_bi_t c301_144
          refine own_step (b := T143.setTop (mkF m 305 #[.val (.int p0), .val (.int p1), .val (.int p2), .val (.int p3), .val (.int p4), .val (.int (3 : Int32)), .val (.ref a1), .val (.ref a114), .val (.ref r120), .val (.int (1 : Int32)), .unset, .unset] [(.int (3 : Int32))])) (fun _ qk => XS.iconst X143.here hx rfl (hb hby at_304) qk) ?_
          refine own_step (b := T143.setTop (mkF m 340 #[.val (.int p0), .val (.int p1), .val (.int p2), .val (.int p3), .val (.int p4), .val (.int (3 : Int32)), .val (.ref a1), .val (.ref a114), .val (.ref r120), .val (.int (1 : Int32)), .unset, .unset] [(.int (3 : Int32))])) (fun _ qk => XS.goto X143.here hx rfl (pc0 := 305) (pc' := 340) rfl (hb hby at_305) (by decide) (by decide) qk) ?_
          refine own_step (b := T143.setTop (mkF m 342 #[.val (.int p0), .val (.int p1), .val (.int p2), .val (.int p3), .val (.int p4), .val (.int (3 : Int32)), .val (.ref a1), .val (.ref a114), .val (.ref r120), .val (.int (1 : Int32)), .val (.int (3 : Int32)), .unset] [])) (fun _ qk => XS.istore X143.here hx rfl (hb hby at_340) rfl (l' := #[.val (.int p0), .val (.int p1), .val (.int p2), .val (.int p3), .val (.int p4), .val (.int (3 : Int32)), .val (.ref a1), .val (.ref a114), .val (.ref r120), .val (.int (1 : Int32)), .val (.int (3 : Int32)), .unset]) rfl qk) ?_
          have c222_122bn := c222_122b
          simp only [Bool.not_eq_true', Bool.not_eq_false'] at c222_122bn
          have c237_124bn := c237_124b
          simp only [Bool.not_eq_true', Bool.not_eq_false'] at c237_124bn
          have c301_144bn := c301_144b
          simp only [Bool.not_eq_true', Bool.not_eq_false'] at c301_144bn
          refine J T143 _ _ _ r120 a114 _ 1 3 [c1, c2] (X143.more (by decide) (by decide)) hS (by rw [show T143.heap = T120.heap from e143]; omega) hZ hown N120 (by rw [show T143.heap = T120.heap from e143]; exact OL120) (by rw [show T143.heap = T120.heap from e143]; exact V120) ?_ (by decide) (by decide) rfl ?_
          · rw [show T143.heap = T120.heap from e143]; have q := SR120; rw [show own_strip [c0, c1, c2] = [c1, c2] by simp [own_strip, List.dropWhile, c222_122bn, c237_124bn, c301_144bn]] at q; exact q
          · intro q hq; have hq' : q < 2 := hq; exact match q, hq' with | 0, _ => rfl | 1, _ => rfl | q + 2, h_ => absurd h_ (by omega)
    · show own_G p e below _ (T121.setTop (mkF m 225 #[.val (.int p0), .val (.int p1), .val (.int p2), .val (.int p3), .val (.int p4), .val (.int (3 : Int32)), .val (.ref a1), .val (.ref a114), .val (.ref r120), .unset, .unset, .unset] []))
      have c222_122b : (!own_bl c0) = true := own_bi_t c222_122
      refine own_step (b := T121.setTop (mkF m 226 #[.val (.int p0), .val (.int p1), .val (.int p2), .val (.int p3), .val (.int p4), .val (.int (3 : Int32)), .val (.ref a1), .val (.ref a114), .val (.ref r120), .unset, .unset, .unset] [(.int (0 : Int32))])) (fun _ qk => XS.iconst X121.here hx rfl (hb hby at_225) qk) ?_
      refine own_step (b := T121.setTop (mkF m 276 #[.val (.int p0), .val (.int p1), .val (.int p2), .val (.int p3), .val (.int p4), .val (.int (3 : Int32)), .val (.ref a1), .val (.ref a114), .val (.ref r120), .unset, .unset, .unset] [(.int (0 : Int32))])) (fun _ qk => XS.goto X121.here hx rfl (pc0 := 226) (pc' := 276) rfl (hb hby at_226) (by decide) (by decide) qk) ?_
      refine own_step (b := T121.setTop (mkF m 278 #[.val (.int p0), .val (.int p1), .val (.int p2), .val (.int p3), .val (.int p4), .val (.int (3 : Int32)), .val (.ref a1), .val (.ref a114), .val (.ref r120), .val (.int (0 : Int32)), .unset, .unset] [])) (fun _ qk => XS.istore X121.here hx rfl (hb hby at_276) rfl (l' := #[.val (.int p0), .val (.int p1), .val (.int p2), .val (.int p3), .val (.int p4), .val (.int (3 : Int32)), .val (.ref a1), .val (.ref a114), .val (.ref r120), .val (.int (0 : Int32)), .unset, .unset]) rfl qk) ?_
      refine own_step (b := T121.setTop (mkF m 280 #[.val (.int p0), .val (.int p1), .val (.int p2), .val (.int p3), .val (.int p4), .val (.int (3 : Int32)), .val (.ref a1), .val (.ref a114), .val (.ref r120), .val (.int (0 : Int32)), .unset, .unset] [(.ref a1)])) (fun _ qk => XS.aload X121.here hx rfl (hb hby at_278) rfl rfl qk) ?_
      refine own_step (b := T121.setTop (mkF m 281 #[.val (.int p0), .val (.int p1), .val (.int p2), .val (.int p3), .val (.int p4), .val (.int (3 : Int32)), .val (.ref a1), .val (.ref a114), .val (.ref r120), .val (.int (0 : Int32)), .unset, .unset] [(.int (3 : Int32)), (.ref a1)])) (fun _ qk => XS.iconst X121.here hx rfl (hb hby at_280) qk) ?_
      refine own_step (b := T121.setTop (mkF m 283 #[.val (.int p0), .val (.int p1), .val (.int p2), .val (.int p3), .val (.int p4), .val (.int (3 : Int32)), .val (.ref a1), .val (.ref a114), .val (.ref r120), .val (.int (0 : Int32)), .unset, .unset] [(.int (3 : Int32)), (.int (3 : Int32)), (.ref a1)])) (fun _ qk => XS.iload X121.here hx rfl (hb hby at_281) rfl qk) ?_
      refine own_staticP (W := 0) (argsL := [(.ref a1), (.int (3 : Int32)), (.int (3 : Int32))]) (st := []) X121 hx hZ hown (own_w hw 55 rfl) (own_w hw 56 rfl) (own_w hw 3 rfl) (own_w hw 57 rfl) (by decide) e121 (rmSolF l Z a0 hw [] a1 (3 : Int32) (3 : Int32) T120.heap (by decide)) (by decide) (by decide) (by decide) (by decide) (by rw [hml]; rfl) (lenOf pd16 rfl) rfl (Nat.le_of_ble_eq_true rfl) (hb hby at_283) (fun T147 X147 e147 => ?_)
      show own_G p e below _ (T147.setTop (mkF m 286 #[.val (.int p0), .val (.int p1), .val (.int p2), .val (.int p3), .val (.int p4), .val (.int (3 : Int32)), .val (.ref a1), .val (.ref a114), .val (.ref r120), .val (.int (0 : Int32)), .unset, .unset] [(.int (own_bi false))]))
      refine own_if_eq X147 hx (hb hby at_286) (pc' := 293) (by decide) (by decide) (fun c286_148 => ?_) (fun c286_148 => absurd c286_148 (by decide))
      show own_G p e below _ (T147.setTop (mkF m 293 #[.val (.int p0), .val (.int p1), .val (.int p2), .val (.int p3), .val (.int p4), .val (.int (3 : Int32)), .val (.ref a1), .val (.ref a114), .val (.ref r120), .val (.int (0 : Int32)), .unset, .unset] []))
      refine own_step (b := T147.setTop (mkF m 295 #[.val (.int p0), .val (.int p1), .val (.int p2), .val (.int p3), .val (.int p4), .val (.int (3 : Int32)), .val (.ref a1), .val (.ref a114), .val (.ref r120), .val (.int (0 : Int32)), .unset, .unset] [(.ref a1)])) (fun _ qk => XS.aload X147.here hx rfl (hb hby at_293) rfl rfl qk) ?_
      refine own_step (b := T147.setTop (mkF m 296 #[.val (.int p0), .val (.int p1), .val (.int p2), .val (.int p3), .val (.int p4), .val (.int (3 : Int32)), .val (.ref a1), .val (.ref a114), .val (.ref r120), .val (.int (0 : Int32)), .unset, .unset] [(.int (2 : Int32)), (.ref a1)])) (fun _ qk => XS.iconst X147.here hx rfl (hb hby at_295) qk) ?_
      refine own_step (b := T147.setTop (mkF m 298 #[.val (.int p0), .val (.int p1), .val (.int p2), .val (.int p3), .val (.int p4), .val (.int (3 : Int32)), .val (.ref a1), .val (.ref a114), .val (.ref r120), .val (.int (0 : Int32)), .unset, .unset] [(.int (3 : Int32)), (.int (2 : Int32)), (.ref a1)])) (fun _ qk => XS.iload X147.here hx rfl (hb hby at_296) rfl qk) ?_
      refine own_staticP (W := 0) (argsL := [(.ref a1), (.int (2 : Int32)), (.int (3 : Int32))]) (st := []) X147 hx hZ hown (own_w hw 55 rfl) (own_w hw 56 rfl) (own_w hw 3 rfl) (own_w hw 57 rfl) (by decide) e147 (rmSol2 l Z a0 hw [] a1 k1 c0 c1 c2 c3 T120.heap V120 (3 : Int32) (by decide)) (by decide) (by decide) (by decide) (by decide) (by rw [hml]; rfl) (lenOf pd16 rfl) rfl (Nat.le_of_ble_eq_true rfl) (hb hby at_298) (fun T149 X149 e149 => ?_)
      show own_G p e below _ (T149.setTop (mkF m 301 #[.val (.int p0), .val (.int p1), .val (.int p2), .val (.int p3), .val (.int p4), .val (.int (3 : Int32)), .val (.ref a1), .val (.ref a114), .val (.ref r120), .val (.int (0 : Int32)), .unset, .unset] [(.int (own_bi (!own_bl c2)))]))
      refine own_if_eq X149 hx (hb hby at_301) (pc' := 308) (by decide) (by decide) (fun c301_150 => ?_) (fun c301_150 => ?_)
      · show own_G p e below _ (T149.setTop (mkF m 308 #[.val (.int p0), .val (.int p1), .val (.int p2), .val (.int p3), .val (.int p4), .val (.int (3 : Int32)), .val (.ref a1), .val (.ref a114), .val (.ref r120), .val (.int (0 : Int32)), .unset, .unset] []))
        have c301_150b : (!own_bl c2) = false := own_bi_f c301_150
        refine own_step (b := T149.setTop (mkF m 310 #[.val (.int p0), .val (.int p1), .val (.int p2), .val (.int p3), .val (.int p4), .val (.int (3 : Int32)), .val (.ref a1), .val (.ref a114), .val (.ref r120), .val (.int (0 : Int32)), .unset, .unset] [(.ref a1)])) (fun _ qk => XS.aload X149.here hx rfl (hb hby at_308) rfl rfl qk) ?_
        refine own_step (b := T149.setTop (mkF m 311 #[.val (.int p0), .val (.int p1), .val (.int p2), .val (.int p3), .val (.int p4), .val (.int (3 : Int32)), .val (.ref a1), .val (.ref a114), .val (.ref r120), .val (.int (0 : Int32)), .unset, .unset] [(.int (1 : Int32)), (.ref a1)])) (fun _ qk => XS.iconst X149.here hx rfl (hb hby at_310) qk) ?_
        refine own_step (b := T149.setTop (mkF m 313 #[.val (.int p0), .val (.int p1), .val (.int p2), .val (.int p3), .val (.int p4), .val (.int (3 : Int32)), .val (.ref a1), .val (.ref a114), .val (.ref r120), .val (.int (0 : Int32)), .unset, .unset] [(.int (3 : Int32)), (.int (1 : Int32)), (.ref a1)])) (fun _ qk => XS.iload X149.here hx rfl (hb hby at_311) rfl qk) ?_
        refine own_staticP (W := 0) (argsL := [(.ref a1), (.int (1 : Int32)), (.int (3 : Int32))]) (st := []) X149 hx hZ hown (own_w hw 55 rfl) (own_w hw 56 rfl) (own_w hw 3 rfl) (own_w hw 57 rfl) (by decide) e149 (rmSol1 l Z a0 hw [] a1 k1 c0 c1 c2 c3 T120.heap V120 (3 : Int32) (by decide)) (by decide) (by decide) (by decide) (by decide) (by rw [hml]; rfl) (lenOf pd16 rfl) rfl (Nat.le_of_ble_eq_true rfl) (hb hby at_313) (fun T151 X151 e151 => ?_)
        show own_G p e below _ (T151.setTop (mkF m 316 #[.val (.int p0), .val (.int p1), .val (.int p2), .val (.int p3), .val (.int p4), .val (.int (3 : Int32)), .val (.ref a1), .val (.ref a114), .val (.ref r120), .val (.int (0 : Int32)), .unset, .unset] [(.int (own_bi (!own_bl c1)))]))
        refine own_if_eq X151 hx (hb hby at_316) (pc' := 323) (by decide) (by decide) (fun c316_152 => ?_) (fun c316_152 => ?_)
        · show own_G p e below _ (T151.setTop (mkF m 323 #[.val (.int p0), .val (.int p1), .val (.int p2), .val (.int p3), .val (.int p4), .val (.int (3 : Int32)), .val (.ref a1), .val (.ref a114), .val (.ref r120), .val (.int (0 : Int32)), .unset, .unset] []))
          have c316_152b : (!own_bl c1) = false := own_bi_f c316_152
          refine own_step (b := T151.setTop (mkF m 325 #[.val (.int p0), .val (.int p1), .val (.int p2), .val (.int p3), .val (.int p4), .val (.int (3 : Int32)), .val (.ref a1), .val (.ref a114), .val (.ref r120), .val (.int (0 : Int32)), .unset, .unset] [(.ref a1)])) (fun _ qk => XS.aload X151.here hx rfl (hb hby at_323) rfl rfl qk) ?_
          refine own_step (b := T151.setTop (mkF m 326 #[.val (.int p0), .val (.int p1), .val (.int p2), .val (.int p3), .val (.int p4), .val (.int (3 : Int32)), .val (.ref a1), .val (.ref a114), .val (.ref r120), .val (.int (0 : Int32)), .unset, .unset] [(.int (0 : Int32)), (.ref a1)])) (fun _ qk => XS.iconst X151.here hx rfl (hb hby at_325) qk) ?_
          refine own_step (b := T151.setTop (mkF m 328 #[.val (.int p0), .val (.int p1), .val (.int p2), .val (.int p3), .val (.int p4), .val (.int (3 : Int32)), .val (.ref a1), .val (.ref a114), .val (.ref r120), .val (.int (0 : Int32)), .unset, .unset] [(.int (3 : Int32)), (.int (0 : Int32)), (.ref a1)])) (fun _ qk => XS.iload X151.here hx rfl (hb hby at_326) rfl qk) ?_
          refine own_staticP (W := 0) (argsL := [(.ref a1), (.int (0 : Int32)), (.int (3 : Int32))]) (st := []) X151 hx hZ hown (own_w hw 55 rfl) (own_w hw 56 rfl) (own_w hw 3 rfl) (own_w hw 57 rfl) (by decide) e151 (rmSol0 l Z a0 hw [] a1 k1 c0 c1 c2 c3 T120.heap V120 (3 : Int32) (by decide)) (by decide) (by decide) (by decide) (by decide) (by rw [hml]; rfl) (lenOf pd16 rfl) rfl (Nat.le_of_ble_eq_true rfl) (hb hby at_328) (fun T153 X153 e153 => ?_)
          show own_G p e below _ (T153.setTop (mkF m 331 #[.val (.int p0), .val (.int p1), .val (.int p2), .val (.int p3), .val (.int p4), .val (.int (3 : Int32)), .val (.ref a1), .val (.ref a114), .val (.ref r120), .val (.int (0 : Int32)), .unset, .unset] [(.int (own_bi (!own_bl c0)))]))
          refine own_if_eq X153 hx (hb hby at_331) (pc' := 338) (by decide) (by decide) (fun c331_154 => absurd c331_154 (by rw [c222_122b]; decide)) (fun c331_154 => ?_)
          show own_G p e below _ (T153.setTop (mkF m 334 #[.val (.int p0), .val (.int p1), .val (.int p2), .val (.int p3), .val (.int p4), .val (.int (3 : Int32)), .val (.ref a1), .val (.ref a114), .val (.ref r120), .val (.int (0 : Int32)), .unset, .unset] []))
          refine own_step (b := T153.setTop (mkF m 335 #[.val (.int p0), .val (.int p1), .val (.int p2), .val (.int p3), .val (.int p4), .val (.int (3 : Int32)), .val (.ref a1), .val (.ref a114), .val (.ref r120), .val (.int (0 : Int32)), .unset, .unset] [(.int (1 : Int32))])) (fun _ qk => XS.iconst X153.here hx rfl (hb hby at_334) qk) ?_
          refine own_step (b := T153.setTop (mkF m 340 #[.val (.int p0), .val (.int p1), .val (.int p2), .val (.int p3), .val (.int p4), .val (.int (3 : Int32)), .val (.ref a1), .val (.ref a114), .val (.ref r120), .val (.int (0 : Int32)), .unset, .unset] [(.int (1 : Int32))])) (fun _ qk => XS.goto X153.here hx rfl (pc0 := 335) (pc' := 340) rfl (hb hby at_335) (by decide) (by decide) qk) ?_
          refine own_step (b := T153.setTop (mkF m 342 #[.val (.int p0), .val (.int p1), .val (.int p2), .val (.int p3), .val (.int p4), .val (.int (3 : Int32)), .val (.ref a1), .val (.ref a114), .val (.ref r120), .val (.int (0 : Int32)), .val (.int (1 : Int32)), .unset] [])) (fun _ qk => XS.istore X153.here hx rfl (hb hby at_340) rfl (l' := #[.val (.int p0), .val (.int p1), .val (.int p2), .val (.int p3), .val (.int p4), .val (.int (3 : Int32)), .val (.ref a1), .val (.ref a114), .val (.ref r120), .val (.int (0 : Int32)), .val (.int (1 : Int32)), .unset]) rfl qk) ?_
          have c222_122bn := c222_122b
          simp only [Bool.not_eq_true', Bool.not_eq_false'] at c222_122bn
          have c301_150bn := c301_150b
          simp only [Bool.not_eq_true', Bool.not_eq_false'] at c301_150bn
          have c316_152bn := c316_152b
          simp only [Bool.not_eq_true', Bool.not_eq_false'] at c316_152bn
          refine J T153 _ _ _ r120 a114 _ 0 1 [c0] (X153.more (by decide) (by decide)) hS (by rw [show T153.heap = T120.heap from e153]; omega) hZ hown N120 (by rw [show T153.heap = T120.heap from e153]; exact OL120) (by rw [show T153.heap = T120.heap from e153]; exact V120) ?_ (by decide) (by decide) rfl ?_
          · rw [show T153.heap = T120.heap from e153]; have q := SR120; rw [show own_strip [c0, c1, c2] = [c0] by simp [own_strip, List.dropWhile, c222_122bn, c301_150bn, c316_152bn]] at q; exact q
          · intro q hq; have hq' : q < 1 := hq; exact match q, hq' with | 0, _ => rfl | q + 1, h_ => absurd h_ (by omega)
        · show own_G p e below _ (T151.setTop (mkF m 319 #[.val (.int p0), .val (.int p1), .val (.int p2), .val (.int p3), .val (.int p4), .val (.int (3 : Int32)), .val (.ref a1), .val (.ref a114), .val (.ref r120), .val (.int (0 : Int32)), .unset, .unset] []))
          have c316_152b : (!own_bl c1) = true := own_bi_t c316_152
          refine own_step (b := T151.setTop (mkF m 320 #[.val (.int p0), .val (.int p1), .val (.int p2), .val (.int p3), .val (.int p4), .val (.int (3 : Int32)), .val (.ref a1), .val (.ref a114), .val (.ref r120), .val (.int (0 : Int32)), .unset, .unset] [(.int (2 : Int32))])) (fun _ qk => XS.iconst X151.here hx rfl (hb hby at_319) qk) ?_
          refine own_step (b := T151.setTop (mkF m 340 #[.val (.int p0), .val (.int p1), .val (.int p2), .val (.int p3), .val (.int p4), .val (.int (3 : Int32)), .val (.ref a1), .val (.ref a114), .val (.ref r120), .val (.int (0 : Int32)), .unset, .unset] [(.int (2 : Int32))])) (fun _ qk => XS.goto X151.here hx rfl (pc0 := 320) (pc' := 340) rfl (hb hby at_320) (by decide) (by decide) qk) ?_
          refine own_step (b := T151.setTop (mkF m 342 #[.val (.int p0), .val (.int p1), .val (.int p2), .val (.int p3), .val (.int p4), .val (.int (3 : Int32)), .val (.ref a1), .val (.ref a114), .val (.ref r120), .val (.int (0 : Int32)), .val (.int (2 : Int32)), .unset] [])) (fun _ qk => XS.istore X151.here hx rfl (hb hby at_340) rfl (l' := #[.val (.int p0), .val (.int p1), .val (.int p2), .val (.int p3), .val (.int p4), .val (.int (3 : Int32)), .val (.ref a1), .val (.ref a114), .val (.ref r120), .val (.int (0 : Int32)), .val (.int (2 : Int32)), .unset]) rfl qk) ?_
          have c222_122bn := c222_122b
          simp only [Bool.not_eq_true', Bool.not_eq_false'] at c222_122bn
          have c301_150bn := c301_150b
          simp only [Bool.not_eq_true', Bool.not_eq_false'] at c301_150bn
          have c316_152bn := c316_152b
          simp only [Bool.not_eq_true', Bool.not_eq_false'] at c316_152bn
          refine J T151 _ _ _ r120 a114 _ 0 2 [c0, c1] (X151.more (by decide) (by decide)) hS (by rw [show T151.heap = T120.heap from e151]; omega) hZ hown N120 (by rw [show T151.heap = T120.heap from e151]; exact OL120) (by rw [show T151.heap = T120.heap from e151]; exact V120) ?_ (by decide) (by decide) rfl ?_
          · rw [show T151.heap = T120.heap from e151]; have q := SR120; rw [show own_strip [c0, c1, c2] = [c0, c1] by simp [own_strip, List.dropWhile, c222_122bn, c301_150bn, c316_152bn]] at q; exact q
          · intro q hq; have hq' : q < 2 := hq; exact match q, hq' with | 0, _ => rfl | 1, _ => rfl | q + 2, h_ => absurd h_ (by omega)
      · show own_G p e below _ (T149.setTop (mkF m 304 #[.val (.int p0), .val (.int p1), .val (.int p2), .val (.int p3), .val (.int p4), .val (.int (3 : Int32)), .val (.ref a1), .val (.ref a114), .val (.ref r120), .val (.int (0 : Int32)), .unset, .unset] []))
        have c301_150b : (!own_bl c2) = true := own_bi_t c301_150
        refine own_step (b := T149.setTop (mkF m 305 #[.val (.int p0), .val (.int p1), .val (.int p2), .val (.int p3), .val (.int p4), .val (.int (3 : Int32)), .val (.ref a1), .val (.ref a114), .val (.ref r120), .val (.int (0 : Int32)), .unset, .unset] [(.int (3 : Int32))])) (fun _ qk => XS.iconst X149.here hx rfl (hb hby at_304) qk) ?_
        refine own_step (b := T149.setTop (mkF m 340 #[.val (.int p0), .val (.int p1), .val (.int p2), .val (.int p3), .val (.int p4), .val (.int (3 : Int32)), .val (.ref a1), .val (.ref a114), .val (.ref r120), .val (.int (0 : Int32)), .unset, .unset] [(.int (3 : Int32))])) (fun _ qk => XS.goto X149.here hx rfl (pc0 := 305) (pc' := 340) rfl (hb hby at_305) (by decide) (by decide) qk) ?_
        refine own_step (b := T149.setTop (mkF m 342 #[.val (.int p0), .val (.int p1), .val (.int p2), .val (.int p3), .val (.int p4), .val (.int (3 : Int32)), .val (.ref a1), .val (.ref a114), .val (.ref r120), .val (.int (0 : Int32)), .val (.int (3 : Int32)), .unset] [])) (fun _ qk => XS.istore X149.here hx rfl (hb hby at_340) rfl (l' := #[.val (.int p0), .val (.int p1), .val (.int p2), .val (.int p3), .val (.int p4), .val (.int (3 : Int32)), .val (.ref a1), .val (.ref a114), .val (.ref r120), .val (.int (0 : Int32)), .val (.int (3 : Int32)), .unset]) rfl qk) ?_
        have c222_122bn := c222_122b
        simp only [Bool.not_eq_true', Bool.not_eq_false'] at c222_122bn
        have c301_150bn := c301_150b
        simp only [Bool.not_eq_true', Bool.not_eq_false'] at c301_150bn
        refine J T149 _ _ _ r120 a114 _ 0 3 [c0, c1, c2] (X149.more (by decide) (by decide)) hS (by rw [show T149.heap = T120.heap from e149]; omega) hZ hown N120 (by rw [show T149.heap = T120.heap from e149]; exact OL120) (by rw [show T149.heap = T120.heap from e149]; exact V120) ?_ (by decide) (by decide) rfl ?_
        · rw [show T149.heap = T120.heap from e149]; have q := SR120; rw [show own_strip [c0, c1, c2] = [c0, c1, c2] by simp [own_strip, List.dropWhile, c222_122bn, c301_150bn]] at q; exact q
        · intro q hq; have hq' : q < 3 := hq; exact match q, hq' with | 0, _ => rfl | 1, _ => rfl | 2, _ => rfl | q + 3, h_ => absurd h_ (by omega)
  · show own_G p e below _ (T9.setTop (mkF m 42 #[.val (.int p0), .val (.int p1), .val (.int p2), .val (.int p3), .val (.int p4), .val (.int (4 : Int32)), .val (.ref a1), .unset, .unset, .unset, .unset, .unset] []))
    show own_G p e below _ (T9.setTop (mkF m 42 #[.val (.int p0), .val (.int p1), .val (.int p2), .val (.int p3), .val (.int p4), .val (.int (4 : Int32)), .val (.ref a1), .unset, .unset, .unset, .unset, .unset] []))
    refine own_step (b := T9.setTop (mkF m 44 #[.val (.int p0), .val (.int p1), .val (.int p2), .val (.int p3), .val (.int p4), .val (.int (4 : Int32)), .val (.ref a1), .unset, .unset, .unset, .unset, .unset] [(.int (4 : Int32))])) (fun _ qk => XS.iload X9.here hx rfl (hb hby at_42) rfl qk) ?_
    refine own_if_ne X9 hx (hb hby at_44) (pc' := 62) (by decide) (by decide) (fun c44_155 => ?_) (fun c44_155 => absurd c44_155 (by decide))
    show own_G p e below _ (T9.setTop (mkF m 62 #[.val (.int p0), .val (.int p1), .val (.int p2), .val (.int p3), .val (.int p4), .val (.int (4 : Int32)), .val (.ref a1), .unset, .unset, .unset, .unset, .unset] []))
    refine own_step (b := T9.setTop (mkF m 64 #[.val (.int p0), .val (.int p1), .val (.int p2), .val (.int p3), .val (.int p4), .val (.int (4 : Int32)), .val (.ref a1), .unset, .unset, .unset, .unset, .unset] [(.int (4 : Int32))])) (fun _ qk => XS.iload X9.here hx rfl (hb hby at_62) rfl qk) ?_
    refine own_step (b := T9.setTop (mkF m 65 #[.val (.int p0), .val (.int p1), .val (.int p2), .val (.int p3), .val (.int p4), .val (.int (4 : Int32)), .val (.ref a1), .unset, .unset, .unset, .unset, .unset] [(.int (1 : Int32)), (.int (4 : Int32))])) (fun _ qk => XS.iconst X9.here hx rfl (hb hby at_64) qk) ?_
    refine own_icmp_ne X9 hx (hb hby at_65) (pc' := 90) (by decide) (by decide) (fun c65_156 => ?_) (fun c65_156 => absurd c65_156 (by decide))
    show own_G p e below _ (T9.setTop (mkF m 90 #[.val (.int p0), .val (.int p1), .val (.int p2), .val (.int p3), .val (.int p4), .val (.int (4 : Int32)), .val (.ref a1), .unset, .unset, .unset, .unset, .unset] []))
    refine own_step (b := T9.setTop (mkF m 92 #[.val (.int p0), .val (.int p1), .val (.int p2), .val (.int p3), .val (.int p4), .val (.int (4 : Int32)), .val (.ref a1), .unset, .unset, .unset, .unset, .unset] [(.int (4 : Int32))])) (fun _ qk => XS.iload X9.here hx rfl (hb hby at_90) rfl qk) ?_
    refine own_step (b := T9.setTop (mkF m 93 #[.val (.int p0), .val (.int p1), .val (.int p2), .val (.int p3), .val (.int p4), .val (.int (4 : Int32)), .val (.ref a1), .unset, .unset, .unset, .unset, .unset] [(.int (2 : Int32)), (.int (4 : Int32))])) (fun _ qk => XS.iconst X9.here hx rfl (hb hby at_92) qk) ?_
    refine own_icmp_ne X9 hx (hb hby at_93) (pc' := 125) (by decide) (by decide) (fun c93_157 => ?_) (fun c93_157 => absurd c93_157 (by decide))
    show own_G p e below _ (T9.setTop (mkF m 125 #[.val (.int p0), .val (.int p1), .val (.int p2), .val (.int p3), .val (.int p4), .val (.int (4 : Int32)), .val (.ref a1), .unset, .unset, .unset, .unset, .unset] []))
    refine own_step (b := T9.setTop (mkF m 127 #[.val (.int p0), .val (.int p1), .val (.int p2), .val (.int p3), .val (.int p4), .val (.int (4 : Int32)), .val (.ref a1), .unset, .unset, .unset, .unset, .unset] [(.int (4 : Int32))])) (fun _ qk => XS.iload X9.here hx rfl (hb hby at_125) rfl qk) ?_
    refine own_step (b := T9.setTop (mkF m 128 #[.val (.int p0), .val (.int p1), .val (.int p2), .val (.int p3), .val (.int p4), .val (.int (4 : Int32)), .val (.ref a1), .unset, .unset, .unset, .unset, .unset] [(.int (3 : Int32)), (.int (4 : Int32))])) (fun _ qk => XS.iconst X9.here hx rfl (hb hby at_127) qk) ?_
    refine own_icmp_ne X9 hx (hb hby at_128) (pc' := 167) (by decide) (by decide) (fun c128_158 => ?_) (fun c128_158 => absurd c128_158 (by decide))
    show own_G p e below _ (T9.setTop (mkF m 167 #[.val (.int p0), .val (.int p1), .val (.int p2), .val (.int p3), .val (.int p4), .val (.int (4 : Int32)), .val (.ref a1), .unset, .unset, .unset, .unset, .unset] []))
    refine own_newO X9 hx hZ hown (own_w hw 5 rfl) (own_w hw 6 rfl) (own_w hw 7 rfl) e9 (hb hby at_167) (by decide) (by decide) (fun T159 h159 a159 X159 e159 g159 l159 E159 A159 D159 => ?_)
    show own_G p e below _ (T159.setTop (mkF m 170 #[.val (.int p0), .val (.int p1), .val (.int p2), .val (.int p3), .val (.int p4), .val (.int (4 : Int32)), .val (.ref a1), .unset, .unset, .unset, .unset, .unset] [(.ref a159)]))
    have OL159 := OL9.ext E159
    refine own_step (b := T159.setTop (mkF m 171 #[.val (.int p0), .val (.int p1), .val (.int p2), .val (.int p3), .val (.int p4), .val (.int (4 : Int32)), .val (.ref a1), .unset, .unset, .unset, .unset, .unset] [(.ref a159), (.ref a159)])) (fun _ qk => XS.dup X159.here hx rfl (hb hby at_170) rfl rfl qk) ?_
    refine own_step (b := T159.setTop (mkF m 172 #[.val (.int p0), .val (.int p1), .val (.int p2), .val (.int p3), .val (.int p4), .val (.int (4 : Int32)), .val (.ref a1), .unset, .unset, .unset, .unset, .unset] [(.int (4 : Int32)), (.ref a159), (.ref a159)])) (fun _ qk => XS.iconst X159.here hx rfl (hb hby at_171) qk) ?_
    refine own_newP X159 hx hZ (own_w hw 0 rfl) e159 (hb hby at_172) (n := (4 : Int32)) (by decide) 4 (by decide) (by decide) (by decide) (by decide) (fun T160 h160 a160 k160 X160 e160 g160 l160 E160 V160 => ?_)
    have V160' : Arv Z h160 a160 k160 .char (4 : Int32) [.int 0, .int 0, .int 0, .int 0] (.int 0) := V160
    show own_G p e below _ (T160.setTop (mkF m 174 #[.val (.int p0), .val (.int p1), .val (.int p2), .val (.int p3), .val (.int p4), .val (.int (4 : Int32)), .val (.ref a1), .unset, .unset, .unset, .unset, .unset] [(.ref a160), (.ref a159), (.ref a159)]))
    have OL160 := OL159.ext E160
    have KF160 := (Keep.refl h160 [a160])
    have VA160 := (V9s.ext E159).ext E160
    refine own_step (b := T160.setTop (mkF m 175 #[.val (.int p0), .val (.int p1), .val (.int p2), .val (.int p3), .val (.int p4), .val (.int (4 : Int32)), .val (.ref a1), .unset, .unset, .unset, .unset, .unset] [(.ref a160), (.ref a160), (.ref a159), (.ref a159)])) (fun _ qk => XS.dup X160.here hx rfl (hb hby at_174) rfl rfl qk) ?_
    refine own_step (b := T160.setTop (mkF m 176 #[.val (.int p0), .val (.int p1), .val (.int p2), .val (.int p3), .val (.int p4), .val (.int (4 : Int32)), .val (.ref a1), .unset, .unset, .unset, .unset, .unset] [(.int (0 : Int32)), (.ref a160), (.ref a160), (.ref a159), (.ref a159)])) (fun _ qk => XS.iconst X160.here hx rfl (hb hby at_175) qk) ?_
    refine own_step (b := T160.setTop (mkF m 178 #[.val (.int p0), .val (.int p1), .val (.int p2), .val (.int p3), .val (.int p4), .val (.int (4 : Int32)), .val (.ref a1), .unset, .unset, .unset, .unset, .unset] [(.ref a1), (.int (0 : Int32)), (.ref a160), (.ref a160), (.ref a159), (.ref a159)])) (fun _ qk => XS.aload X160.here hx rfl (hb hby at_176) rfl rfl qk) ?_
    refine own_step (b := T160.setTop (mkF m 179 #[.val (.int p0), .val (.int p1), .val (.int p2), .val (.int p3), .val (.int p4), .val (.int (4 : Int32)), .val (.ref a1), .unset, .unset, .unset, .unset, .unset] [(.int (0 : Int32)), (.ref a1), (.int (0 : Int32)), (.ref a160), (.ref a160), (.ref a159), (.ref a159)])) (fun _ qk => XS.iconst X160.here hx rfl (hb hby at_178) qk) ?_
    refine own_ldC X160 hx hZ e160 VA160 0 (by decide) (by decide) (by decide) (v := (.int c0)) rfl (hb hby at_179) ?_
    show own_G p e below _ (T160.setTop (mkF m 180 #[.val (.int p0), .val (.int p1), .val (.int p2), .val (.int p3), .val (.int p4), .val (.int (4 : Int32)), .val (.ref a1), .unset, .unset, .unset, .unset, .unset] [(.int c0), (.int (0 : Int32)), (.ref a160), (.ref a160), (.ref a159), (.ref a159)]))
    refine own_stC X160 hx hZ e160 V160' 0 (by decide) (by decide) (by decide) (Nat.le_of_ble_eq_true rfl) N9 (by omega) (hb hby at_180) (fun T161 h161 X161 e161 N161 W161 z161 V161 => ?_)
    have V161' : Arv Z h161 a160 k160 .char (4 : Int32) [.int (nar .char c0), .int 0, .int 0, .int 0] (.int 0) := V161
    show own_G p e below _ (T161.setTop (mkF m 181 #[.val (.int p0), .val (.int p1), .val (.int p2), .val (.int p3), .val (.int p4), .val (.int (4 : Int32)), .val (.ref a1), .unset, .unset, .unset, .unset, .unset] [(.ref a160), (.ref a159), (.ref a159)]))
    have V161s : Arv Z h161 a160 k160 .char (4 : Int32) [.int c0, .int 0, .int 0, .int 0] (.int 0) := by have q := V161'; rw [own_narC hc0.1 hc0.2] at q; exact q
    have OL161 := OL160.wr W161 (by omega)
    have KF161 := KF160.wr W161 (Or.inl (List.mem_singleton.mpr rfl))
    have VA161 := VA160.other W161 (own_ne (by omega))
    refine own_step (b := T161.setTop (mkF m 182 #[.val (.int p0), .val (.int p1), .val (.int p2), .val (.int p3), .val (.int p4), .val (.int (4 : Int32)), .val (.ref a1), .unset, .unset, .unset, .unset, .unset] [(.ref a160), (.ref a160), (.ref a159), (.ref a159)])) (fun _ qk => XS.dup X161.here hx rfl (hb hby at_181) rfl rfl qk) ?_
    refine own_step (b := T161.setTop (mkF m 183 #[.val (.int p0), .val (.int p1), .val (.int p2), .val (.int p3), .val (.int p4), .val (.int (4 : Int32)), .val (.ref a1), .unset, .unset, .unset, .unset, .unset] [(.int (1 : Int32)), (.ref a160), (.ref a160), (.ref a159), (.ref a159)])) (fun _ qk => XS.iconst X161.here hx rfl (hb hby at_182) qk) ?_
    refine own_step (b := T161.setTop (mkF m 185 #[.val (.int p0), .val (.int p1), .val (.int p2), .val (.int p3), .val (.int p4), .val (.int (4 : Int32)), .val (.ref a1), .unset, .unset, .unset, .unset, .unset] [(.ref a1), (.int (1 : Int32)), (.ref a160), (.ref a160), (.ref a159), (.ref a159)])) (fun _ qk => XS.aload X161.here hx rfl (hb hby at_183) rfl rfl qk) ?_
    refine own_step (b := T161.setTop (mkF m 186 #[.val (.int p0), .val (.int p1), .val (.int p2), .val (.int p3), .val (.int p4), .val (.int (4 : Int32)), .val (.ref a1), .unset, .unset, .unset, .unset, .unset] [(.int (1 : Int32)), (.ref a1), (.int (1 : Int32)), (.ref a160), (.ref a160), (.ref a159), (.ref a159)])) (fun _ qk => XS.iconst X161.here hx rfl (hb hby at_185) qk) ?_
    refine own_ldC X161 hx hZ e161 VA161 1 (by decide) (by decide) (by decide) (v := (.int c1)) rfl (hb hby at_186) ?_
    show own_G p e below _ (T161.setTop (mkF m 187 #[.val (.int p0), .val (.int p1), .val (.int p2), .val (.int p3), .val (.int p4), .val (.int (4 : Int32)), .val (.ref a1), .unset, .unset, .unset, .unset, .unset] [(.int c1), (.int (1 : Int32)), (.ref a160), (.ref a160), (.ref a159), (.ref a159)]))
    refine own_stC X161 hx hZ e161 V161s 1 (by decide) (by decide) (by decide) (Nat.le_of_ble_eq_true rfl) N161 (by omega) (hb hby at_187) (fun T162 h162 X162 e162 N162 W162 z162 V162 => ?_)
    have V162' : Arv Z h162 a160 k160 .char (4 : Int32) [.int c0, .int (nar .char c1), .int 0, .int 0] (.int 0) := V162
    show own_G p e below _ (T162.setTop (mkF m 188 #[.val (.int p0), .val (.int p1), .val (.int p2), .val (.int p3), .val (.int p4), .val (.int (4 : Int32)), .val (.ref a1), .unset, .unset, .unset, .unset, .unset] [(.ref a160), (.ref a159), (.ref a159)]))
    have V162s : Arv Z h162 a160 k160 .char (4 : Int32) [.int c0, .int c1, .int 0, .int 0] (.int 0) := by have q := V162'; rw [own_narC hc1.1 hc1.2] at q; exact q
    have OL162 := OL161.wr W162 (by omega)
    have KF162 := KF161.wr W162 (Or.inl (List.mem_singleton.mpr rfl))
    have VA162 := VA161.other W162 (own_ne (by omega))
    refine own_step (b := T162.setTop (mkF m 189 #[.val (.int p0), .val (.int p1), .val (.int p2), .val (.int p3), .val (.int p4), .val (.int (4 : Int32)), .val (.ref a1), .unset, .unset, .unset, .unset, .unset] [(.ref a160), (.ref a160), (.ref a159), (.ref a159)])) (fun _ qk => XS.dup X162.here hx rfl (hb hby at_188) rfl rfl qk) ?_
    refine own_step (b := T162.setTop (mkF m 190 #[.val (.int p0), .val (.int p1), .val (.int p2), .val (.int p3), .val (.int p4), .val (.int (4 : Int32)), .val (.ref a1), .unset, .unset, .unset, .unset, .unset] [(.int (2 : Int32)), (.ref a160), (.ref a160), (.ref a159), (.ref a159)])) (fun _ qk => XS.iconst X162.here hx rfl (hb hby at_189) qk) ?_
    refine own_step (b := T162.setTop (mkF m 192 #[.val (.int p0), .val (.int p1), .val (.int p2), .val (.int p3), .val (.int p4), .val (.int (4 : Int32)), .val (.ref a1), .unset, .unset, .unset, .unset, .unset] [(.ref a1), (.int (2 : Int32)), (.ref a160), (.ref a160), (.ref a159), (.ref a159)])) (fun _ qk => XS.aload X162.here hx rfl (hb hby at_190) rfl rfl qk) ?_
    refine own_step (b := T162.setTop (mkF m 193 #[.val (.int p0), .val (.int p1), .val (.int p2), .val (.int p3), .val (.int p4), .val (.int (4 : Int32)), .val (.ref a1), .unset, .unset, .unset, .unset, .unset] [(.int (2 : Int32)), (.ref a1), (.int (2 : Int32)), (.ref a160), (.ref a160), (.ref a159), (.ref a159)])) (fun _ qk => XS.iconst X162.here hx rfl (hb hby at_192) qk) ?_
    refine own_ldC X162 hx hZ e162 VA162 2 (by decide) (by decide) (by decide) (v := (.int c2)) rfl (hb hby at_193) ?_
    show own_G p e below _ (T162.setTop (mkF m 194 #[.val (.int p0), .val (.int p1), .val (.int p2), .val (.int p3), .val (.int p4), .val (.int (4 : Int32)), .val (.ref a1), .unset, .unset, .unset, .unset, .unset] [(.int c2), (.int (2 : Int32)), (.ref a160), (.ref a160), (.ref a159), (.ref a159)]))
    refine own_stC X162 hx hZ e162 V162s 2 (by decide) (by decide) (by decide) (Nat.le_of_ble_eq_true rfl) N162 (by omega) (hb hby at_194) (fun T163 h163 X163 e163 N163 W163 z163 V163 => ?_)
    have V163' : Arv Z h163 a160 k160 .char (4 : Int32) [.int c0, .int c1, .int (nar .char c2), .int 0] (.int 0) := V163
    show own_G p e below _ (T163.setTop (mkF m 195 #[.val (.int p0), .val (.int p1), .val (.int p2), .val (.int p3), .val (.int p4), .val (.int (4 : Int32)), .val (.ref a1), .unset, .unset, .unset, .unset, .unset] [(.ref a160), (.ref a159), (.ref a159)]))
    have V163s : Arv Z h163 a160 k160 .char (4 : Int32) [.int c0, .int c1, .int c2, .int 0] (.int 0) := by have q := V163'; rw [own_narC hc2.1 hc2.2] at q; exact q
    have OL163 := OL162.wr W163 (by omega)
    have KF163 := KF162.wr W163 (Or.inl (List.mem_singleton.mpr rfl))
    have VA163 := VA162.other W163 (own_ne (by omega))
    refine own_step (b := T163.setTop (mkF m 196 #[.val (.int p0), .val (.int p1), .val (.int p2), .val (.int p3), .val (.int p4), .val (.int (4 : Int32)), .val (.ref a1), .unset, .unset, .unset, .unset, .unset] [(.ref a160), (.ref a160), (.ref a159), (.ref a159)])) (fun _ qk => XS.dup X163.here hx rfl (hb hby at_195) rfl rfl qk) ?_
    refine own_step (b := T163.setTop (mkF m 197 #[.val (.int p0), .val (.int p1), .val (.int p2), .val (.int p3), .val (.int p4), .val (.int (4 : Int32)), .val (.ref a1), .unset, .unset, .unset, .unset, .unset] [(.int (3 : Int32)), (.ref a160), (.ref a160), (.ref a159), (.ref a159)])) (fun _ qk => XS.iconst X163.here hx rfl (hb hby at_196) qk) ?_
    refine own_step (b := T163.setTop (mkF m 199 #[.val (.int p0), .val (.int p1), .val (.int p2), .val (.int p3), .val (.int p4), .val (.int (4 : Int32)), .val (.ref a1), .unset, .unset, .unset, .unset, .unset] [(.ref a1), (.int (3 : Int32)), (.ref a160), (.ref a160), (.ref a159), (.ref a159)])) (fun _ qk => XS.aload X163.here hx rfl (hb hby at_197) rfl rfl qk) ?_
    refine own_step (b := T163.setTop (mkF m 200 #[.val (.int p0), .val (.int p1), .val (.int p2), .val (.int p3), .val (.int p4), .val (.int (4 : Int32)), .val (.ref a1), .unset, .unset, .unset, .unset, .unset] [(.int (3 : Int32)), (.ref a1), (.int (3 : Int32)), (.ref a160), (.ref a160), (.ref a159), (.ref a159)])) (fun _ qk => XS.iconst X163.here hx rfl (hb hby at_199) qk) ?_
    refine own_ldC X163 hx hZ e163 VA163 3 (by decide) (by decide) (by decide) (v := (.int c3)) rfl (hb hby at_200) ?_
    show own_G p e below _ (T163.setTop (mkF m 201 #[.val (.int p0), .val (.int p1), .val (.int p2), .val (.int p3), .val (.int p4), .val (.int (4 : Int32)), .val (.ref a1), .unset, .unset, .unset, .unset, .unset] [(.int c3), (.int (3 : Int32)), (.ref a160), (.ref a160), (.ref a159), (.ref a159)]))
    refine own_stC X163 hx hZ e163 V163s 3 (by decide) (by decide) (by decide) (Nat.le_of_ble_eq_true rfl) N163 (by omega) (hb hby at_201) (fun T164 h164 X164 e164 N164 W164 z164 V164 => ?_)
    have V164' : Arv Z h164 a160 k160 .char (4 : Int32) [.int c0, .int c1, .int c2, .int (nar .char c3)] (.int 0) := V164
    show own_G p e below _ (T164.setTop (mkF m 202 #[.val (.int p0), .val (.int p1), .val (.int p2), .val (.int p3), .val (.int p4), .val (.int (4 : Int32)), .val (.ref a1), .unset, .unset, .unset, .unset, .unset] [(.ref a160), (.ref a159), (.ref a159)]))
    have V164s : Arv Z h164 a160 k160 .char (4 : Int32) [.int c0, .int c1, .int c2, .int c3] (.int 0) := by have q := V164'; rw [own_narC hc3.1 hc3.2] at q; exact q
    have OL164 := OL163.wr W164 (by omega)
    have KF164 := KF163.wr W164 (Or.inl (List.mem_singleton.mpr rfl))
    have VA164 := VA163.other W164 (own_ne (by omega))
    have hp : ∀ c ∈ ([c0, c1, c2, c3] : List Int32), ¬ c < 0 ∧ ¬ (255 : Int32) < c := (own_aS hc0 (own_aS hc1 (own_aS hc2 (own_aS hc3 own_a0))))
    refine own_special (W := 1) (argsL := [(.ref a160)]) (a := a159) (st := [(.ref a159)]) X164 hx hZ hown rfl (own_w hw 8 rfl) (own_w hw 9 rfl) (own_w hw 10 rfl) (by decide) e164 (StrChars.Road.backV (W := 1) hZ hws (kI := 4) (own_w hw 6 rfl) (cs := ([c0, c1, c2, c3] : List Int32)) (bs := (([c0, c1, c2, c3] : List Int32)).map (fun c => c.toInt8.toInt32)) (n := 4) (n0 := Z.heap.size) (by omega) (by omega) ((A159.ext E160).keep KF164) (((D159 (Or.inr (own_w hw 20 rfl)) (ty := (.array .byte)) (by decide)).ext E160).keep KF164 (ninS (own_ne (by omega)) nin0)) (((D159 (Or.inr (own_w hw 21 rfl)) (ty := .byte) (by decide)).ext E160).keep KF164 (ninS (own_ne (by omega)) nin0)) V164s (O2.ext OL164.2) P5 rfl rfl (by decide) (by decide) hp rfl (by decide) (by decide)) (by decide) (by decide) (by rw [hml]; rfl) (lenOf pd14 rfl) rfl (Nat.le_of_ble_eq_true rfl) (hb hby at_202) (fun v165 T165 L165 X165 hQ165 => ?_)
    obtain ⟨rfl, M165, K165, E165, C165, t165, kb165, u165, uu165, uuu165, F165, B165⟩ := hQ165
    have z165 : h164.size ≤ T165.heap.size := K165.1
    have N165 := Fr.app N164 M165
    have OL165 := OL164.keep K165 (allS (by omega) all0)
    show own_G p e below _ (T165.setTop (mkF m 205 #[.val (.int p0), .val (.int p1), .val (.int p2), .val (.int p3), .val (.int p4), .val (.int (4 : Int32)), .val (.ref a1), .unset, .unset, .unset, .unset, .unset] [(.ref a159)]))
    have SS : own_Str Z T165.heap a159 [c0, c1, c2, c3] := own_mkStr (n := 4) rfl rfl E165 hp (by decide) C165 F165 B165
    have VA165 := VA164.keep K165 (ninS (own_ne (by omega)) nin0)
    refine own_step (b := T165.setTop (mkF m 207 #[.val (.int p0), .val (.int p1), .val (.int p2), .val (.int p3), .val (.int p4), .val (.int (4 : Int32)), .val (.ref a1), .val (.ref a159), .unset, .unset, .unset, .unset] [])) (fun _ qk => XS.astore X165.here hx rfl (hb hby at_205) rfl rfl (l' := #[.val (.int p0), .val (.int p1), .val (.int p2), .val (.int p3), .val (.int p4), .val (.int (4 : Int32)), .val (.ref a1), .val (.ref a159), .unset, .unset, .unset, .unset]) rfl qk) ?_
    refine own_step (b := T165.setTop (mkF m 209 #[.val (.int p0), .val (.int p1), .val (.int p2), .val (.int p3), .val (.int p4), .val (.int (4 : Int32)), .val (.ref a1), .val (.ref a159), .unset, .unset, .unset, .unset] [(.ref a159)])) (fun _ qk => XS.aload X165.here hx rfl (hb hby at_207) rfl rfl qk) ?_
    refine own_staticI (W := 0) (argsL := [(.ref a159)]) (st := []) X165 hx hZ hown (own_w hw 26 rfl) (own_w hw 27 rfl) (own_w hw 28 rfl) (own_w hw 29 rfl) (by decide) rfl hS (by omega) (rmStrip4 l Z a0 hw [] a159 c0 c1 c2 c3 T165.heap SS OL165 G1 O2 P5 G3 O4 rG3 CH1 HC) (fun _ hW => own_IBw hI hW) (by decide) (by decide) (by decide) (by decide) (by rw [hml]; rfl) (lenOf pd15 rfl) rfl (Nat.le_of_ble_eq_true rfl) (hb hby at_209) (fun v166 T166 L166 vm166 k166 X166 ev166 z166 hS hk hZ hown hQ166 => ?_)
    obtain ⟨r166, rfl, M166, E166, SR166⟩ := hQ166
    have N166 := Fr.app N165 M166
    have OL166 := OL165.ext E166
    have V166 := VA165.ext E166
    show own_G p e below _ (T166.setTop (mkF m 212 #[.val (.int p0), .val (.int p1), .val (.int p2), .val (.int p3), .val (.int p4), .val (.int (4 : Int32)), .val (.ref a1), .val (.ref a159), .unset, .unset, .unset, .unset] [(.ref r166)]))
    refine own_step (b := T166.setTop (mkF m 214 #[.val (.int p0), .val (.int p1), .val (.int p2), .val (.int p3), .val (.int p4), .val (.int (4 : Int32)), .val (.ref a1), .val (.ref a159), .val (.ref r166), .unset, .unset, .unset] [])) (fun _ qk => XS.astore X166.here hx rfl (hb hby at_212) rfl rfl (l' := #[.val (.int p0), .val (.int p1), .val (.int p2), .val (.int p3), .val (.int p4), .val (.int (4 : Int32)), .val (.ref a1), .val (.ref a159), .val (.ref r166), .unset, .unset, .unset]) rfl qk) ?_
    refine own_step (b := T166.setTop (mkF m 216 #[.val (.int p0), .val (.int p1), .val (.int p2), .val (.int p3), .val (.int p4), .val (.int (4 : Int32)), .val (.ref a1), .val (.ref a159), .val (.ref r166), .unset, .unset, .unset] [(.ref a1)])) (fun _ qk => XS.aload X166.here hx rfl (hb hby at_214) rfl rfl qk) ?_
    refine own_step (b := T166.setTop (mkF m 217 #[.val (.int p0), .val (.int p1), .val (.int p2), .val (.int p3), .val (.int p4), .val (.int (4 : Int32)), .val (.ref a1), .val (.ref a159), .val (.ref r166), .unset, .unset, .unset] [(.int (0 : Int32)), (.ref a1)])) (fun _ qk => XS.iconst X166.here hx rfl (hb hby at_216) qk) ?_
    refine own_step (b := T166.setTop (mkF m 219 #[.val (.int p0), .val (.int p1), .val (.int p2), .val (.int p3), .val (.int p4), .val (.int (4 : Int32)), .val (.ref a1), .val (.ref a159), .val (.ref r166), .unset, .unset, .unset] [(.int (4 : Int32)), (.int (0 : Int32)), (.ref a1)])) (fun _ qk => XS.iload X166.here hx rfl (hb hby at_217) rfl qk) ?_
    refine own_staticP (W := 0) (argsL := [(.ref a1), (.int (0 : Int32)), (.int (4 : Int32))]) (st := []) X166 hx hZ hown (own_w hw 55 rfl) (own_w hw 56 rfl) (own_w hw 3 rfl) (own_w hw 57 rfl) (by decide) rfl (rmSol0 l Z a0 hw [] a1 k1 c0 c1 c2 c3 T166.heap V166 (4 : Int32) (by decide)) (by decide) (by decide) (by decide) (by decide) (by rw [hml]; rfl) (lenOf pd16 rfl) rfl (Nat.le_of_ble_eq_true rfl) (hb hby at_219) (fun T167 X167 e167 => ?_)
    show own_G p e below _ (T167.setTop (mkF m 222 #[.val (.int p0), .val (.int p1), .val (.int p2), .val (.int p3), .val (.int p4), .val (.int (4 : Int32)), .val (.ref a1), .val (.ref a159), .val (.ref r166), .unset, .unset, .unset] [(.int (own_bi (!own_bl c0)))]))
    refine own_if_eq X167 hx (hb hby at_222) (pc' := 229) (by decide) (by decide) (fun c222_168 => ?_) (fun c222_168 => ?_)
    · show own_G p e below _ (T167.setTop (mkF m 229 #[.val (.int p0), .val (.int p1), .val (.int p2), .val (.int p3), .val (.int p4), .val (.int (4 : Int32)), .val (.ref a1), .val (.ref a159), .val (.ref r166), .unset, .unset, .unset] []))
      have c222_168b : (!own_bl c0) = false := own_bi_f c222_168
      refine own_step (b := T167.setTop (mkF m 231 #[.val (.int p0), .val (.int p1), .val (.int p2), .val (.int p3), .val (.int p4), .val (.int (4 : Int32)), .val (.ref a1), .val (.ref a159), .val (.ref r166), .unset, .unset, .unset] [(.ref a1)])) (fun _ qk => XS.aload X167.here hx rfl (hb hby at_229) rfl rfl qk) ?_
      refine own_step (b := T167.setTop (mkF m 232 #[.val (.int p0), .val (.int p1), .val (.int p2), .val (.int p3), .val (.int p4), .val (.int (4 : Int32)), .val (.ref a1), .val (.ref a159), .val (.ref r166), .unset, .unset, .unset] [(.int (1 : Int32)), (.ref a1)])) (fun _ qk => XS.iconst X167.here hx rfl (hb hby at_231) qk) ?_
      refine own_step (b := T167.setTop (mkF m 234 #[.val (.int p0), .val (.int p1), .val (.int p2), .val (.int p3), .val (.int p4), .val (.int (4 : Int32)), .val (.ref a1), .val (.ref a159), .val (.ref r166), .unset, .unset, .unset] [(.int (4 : Int32)), (.int (1 : Int32)), (.ref a1)])) (fun _ qk => XS.iload X167.here hx rfl (hb hby at_232) rfl qk) ?_
      refine own_staticP (W := 0) (argsL := [(.ref a1), (.int (1 : Int32)), (.int (4 : Int32))]) (st := []) X167 hx hZ hown (own_w hw 55 rfl) (own_w hw 56 rfl) (own_w hw 3 rfl) (own_w hw 57 rfl) (by decide) e167 (rmSol1 l Z a0 hw [] a1 k1 c0 c1 c2 c3 T166.heap V166 (4 : Int32) (by decide)) (by decide) (by decide) (by decide) (by decide) (by rw [hml]; rfl) (lenOf pd16 rfl) rfl (Nat.le_of_ble_eq_true rfl) (hb hby at_234) (fun T169 X169 e169 => ?_)
      show own_G p e below _ (T169.setTop (mkF m 237 #[.val (.int p0), .val (.int p1), .val (.int p2), .val (.int p3), .val (.int p4), .val (.int (4 : Int32)), .val (.ref a1), .val (.ref a159), .val (.ref r166), .unset, .unset, .unset] [(.int (own_bi (!own_bl c1)))]))
      refine own_if_eq X169 hx (hb hby at_237) (pc' := 244) (by decide) (by decide) (fun c237_170 => ?_) (fun c237_170 => ?_)
      · show own_G p e below _ (T169.setTop (mkF m 244 #[.val (.int p0), .val (.int p1), .val (.int p2), .val (.int p3), .val (.int p4), .val (.int (4 : Int32)), .val (.ref a1), .val (.ref a159), .val (.ref r166), .unset, .unset, .unset] []))
        have c237_170b : (!own_bl c1) = false := own_bi_f c237_170
        refine own_step (b := T169.setTop (mkF m 246 #[.val (.int p0), .val (.int p1), .val (.int p2), .val (.int p3), .val (.int p4), .val (.int (4 : Int32)), .val (.ref a1), .val (.ref a159), .val (.ref r166), .unset, .unset, .unset] [(.ref a1)])) (fun _ qk => XS.aload X169.here hx rfl (hb hby at_244) rfl rfl qk) ?_
        refine own_step (b := T169.setTop (mkF m 247 #[.val (.int p0), .val (.int p1), .val (.int p2), .val (.int p3), .val (.int p4), .val (.int (4 : Int32)), .val (.ref a1), .val (.ref a159), .val (.ref r166), .unset, .unset, .unset] [(.int (2 : Int32)), (.ref a1)])) (fun _ qk => XS.iconst X169.here hx rfl (hb hby at_246) qk) ?_
        refine own_step (b := T169.setTop (mkF m 249 #[.val (.int p0), .val (.int p1), .val (.int p2), .val (.int p3), .val (.int p4), .val (.int (4 : Int32)), .val (.ref a1), .val (.ref a159), .val (.ref r166), .unset, .unset, .unset] [(.int (4 : Int32)), (.int (2 : Int32)), (.ref a1)])) (fun _ qk => XS.iload X169.here hx rfl (hb hby at_247) rfl qk) ?_
        refine own_staticP (W := 0) (argsL := [(.ref a1), (.int (2 : Int32)), (.int (4 : Int32))]) (st := []) X169 hx hZ hown (own_w hw 55 rfl) (own_w hw 56 rfl) (own_w hw 3 rfl) (own_w hw 57 rfl) (by decide) e169 (rmSol2 l Z a0 hw [] a1 k1 c0 c1 c2 c3 T166.heap V166 (4 : Int32) (by decide)) (by decide) (by decide) (by decide) (by decide) (by rw [hml]; rfl) (lenOf pd16 rfl) rfl (Nat.le_of_ble_eq_true rfl) (hb hby at_249) (fun T171 X171 e171 => ?_)
        show own_G p e below _ (T171.setTop (mkF m 252 #[.val (.int p0), .val (.int p1), .val (.int p2), .val (.int p3), .val (.int p4), .val (.int (4 : Int32)), .val (.ref a1), .val (.ref a159), .val (.ref r166), .unset, .unset, .unset] [(.int (own_bi (!own_bl c2)))]))
        refine own_if_eq X171 hx (hb hby at_252) (pc' := 259) (by decide) (by decide) (fun c252_172 => ?_) (fun c252_172 => ?_)
        · show own_G p e below _ (T171.setTop (mkF m 259 #[.val (.int p0), .val (.int p1), .val (.int p2), .val (.int p3), .val (.int p4), .val (.int (4 : Int32)), .val (.ref a1), .val (.ref a159), .val (.ref r166), .unset, .unset, .unset] []))
          have c252_172b : (!own_bl c2) = false := own_bi_f c252_172
          refine own_step (b := T171.setTop (mkF m 261 #[.val (.int p0), .val (.int p1), .val (.int p2), .val (.int p3), .val (.int p4), .val (.int (4 : Int32)), .val (.ref a1), .val (.ref a159), .val (.ref r166), .unset, .unset, .unset] [(.ref a1)])) (fun _ qk => XS.aload X171.here hx rfl (hb hby at_259) rfl rfl qk) ?_
          refine own_step (b := T171.setTop (mkF m 262 #[.val (.int p0), .val (.int p1), .val (.int p2), .val (.int p3), .val (.int p4), .val (.int (4 : Int32)), .val (.ref a1), .val (.ref a159), .val (.ref r166), .unset, .unset, .unset] [(.int (3 : Int32)), (.ref a1)])) (fun _ qk => XS.iconst X171.here hx rfl (hb hby at_261) qk) ?_
          refine own_step (b := T171.setTop (mkF m 264 #[.val (.int p0), .val (.int p1), .val (.int p2), .val (.int p3), .val (.int p4), .val (.int (4 : Int32)), .val (.ref a1), .val (.ref a159), .val (.ref r166), .unset, .unset, .unset] [(.int (4 : Int32)), (.int (3 : Int32)), (.ref a1)])) (fun _ qk => XS.iload X171.here hx rfl (hb hby at_262) rfl qk) ?_
          refine own_staticP (W := 0) (argsL := [(.ref a1), (.int (3 : Int32)), (.int (4 : Int32))]) (st := []) X171 hx hZ hown (own_w hw 55 rfl) (own_w hw 56 rfl) (own_w hw 3 rfl) (own_w hw 57 rfl) (by decide) e171 (rmSol3 l Z a0 hw [] a1 k1 c0 c1 c2 c3 T166.heap V166 (4 : Int32) (by decide)) (by decide) (by decide) (by decide) (by decide) (by rw [hml]; rfl) (lenOf pd16 rfl) rfl (Nat.le_of_ble_eq_true rfl) (hb hby at_264) (fun T173 X173 e173 => ?_)
          show own_G p e below _ (T173.setTop (mkF m 267 #[.val (.int p0), .val (.int p1), .val (.int p2), .val (.int p3), .val (.int p4), .val (.int (4 : Int32)), .val (.ref a1), .val (.ref a159), .val (.ref r166), .unset, .unset, .unset] [(.int (own_bi (!own_bl c3)))]))
          refine own_if_eq X173 hx (hb hby at_267) (pc' := 274) (by decide) (by decide) (fun c267_174 => ?_) (fun c267_174 => ?_)
          · show own_G p e below _ (T173.setTop (mkF m 274 #[.val (.int p0), .val (.int p1), .val (.int p2), .val (.int p3), .val (.int p4), .val (.int (4 : Int32)), .val (.ref a1), .val (.ref a159), .val (.ref r166), .unset, .unset, .unset] []))
            have c267_174b : (!own_bl c3) = false := own_bi_f c267_174
            refine own_step (b := T173.setTop (mkF m 276 #[.val (.int p0), .val (.int p1), .val (.int p2), .val (.int p3), .val (.int p4), .val (.int (4 : Int32)), .val (.ref a1), .val (.ref a159), .val (.ref r166), .unset, .unset, .unset] [(.int (4 : Int32))])) (fun _ qk => XS.iload X173.here hx rfl (hb hby at_274) rfl qk) ?_
            refine own_step (b := T173.setTop (mkF m 278 #[.val (.int p0), .val (.int p1), .val (.int p2), .val (.int p3), .val (.int p4), .val (.int (4 : Int32)), .val (.ref a1), .val (.ref a159), .val (.ref r166), .val (.int (4 : Int32)), .unset, .unset] [])) (fun _ qk => XS.istore X173.here hx rfl (hb hby at_276) rfl (l' := #[.val (.int p0), .val (.int p1), .val (.int p2), .val (.int p3), .val (.int p4), .val (.int (4 : Int32)), .val (.ref a1), .val (.ref a159), .val (.ref r166), .val (.int (4 : Int32)), .unset, .unset]) rfl qk) ?_
            refine own_step (b := T173.setTop (mkF m 280 #[.val (.int p0), .val (.int p1), .val (.int p2), .val (.int p3), .val (.int p4), .val (.int (4 : Int32)), .val (.ref a1), .val (.ref a159), .val (.ref r166), .val (.int (4 : Int32)), .unset, .unset] [(.ref a1)])) (fun _ qk => XS.aload X173.here hx rfl (hb hby at_278) rfl rfl qk) ?_
            refine own_step (b := T173.setTop (mkF m 281 #[.val (.int p0), .val (.int p1), .val (.int p2), .val (.int p3), .val (.int p4), .val (.int (4 : Int32)), .val (.ref a1), .val (.ref a159), .val (.ref r166), .val (.int (4 : Int32)), .unset, .unset] [(.int (3 : Int32)), (.ref a1)])) (fun _ qk => XS.iconst X173.here hx rfl (hb hby at_280) qk) ?_
            refine own_step (b := T173.setTop (mkF m 283 #[.val (.int p0), .val (.int p1), .val (.int p2), .val (.int p3), .val (.int p4), .val (.int (4 : Int32)), .val (.ref a1), .val (.ref a159), .val (.ref r166), .val (.int (4 : Int32)), .unset, .unset] [(.int (4 : Int32)), (.int (3 : Int32)), (.ref a1)])) (fun _ qk => XS.iload X173.here hx rfl (hb hby at_281) rfl qk) ?_
            refine own_staticP (W := 0) (argsL := [(.ref a1), (.int (3 : Int32)), (.int (4 : Int32))]) (st := []) X173 hx hZ hown (own_w hw 55 rfl) (own_w hw 56 rfl) (own_w hw 3 rfl) (own_w hw 57 rfl) (by decide) e173 (rmSol3 l Z a0 hw [] a1 k1 c0 c1 c2 c3 T166.heap V166 (4 : Int32) (by decide)) (by decide) (by decide) (by decide) (by decide) (by rw [hml]; rfl) (lenOf pd16 rfl) rfl (Nat.le_of_ble_eq_true rfl) (hb hby at_283) (fun T175 X175 e175 => ?_)
            show own_G p e below _ (T175.setTop (mkF m 286 #[.val (.int p0), .val (.int p1), .val (.int p2), .val (.int p3), .val (.int p4), .val (.int (4 : Int32)), .val (.ref a1), .val (.ref a159), .val (.ref r166), .val (.int (4 : Int32)), .unset, .unset] [(.int (own_bi (!own_bl c3)))]))
            refine own_if_eq X175 hx (hb hby at_286) (pc' := 293) (by decide) (by decide) (fun c286_176 => ?_) (fun c286_176 => absurd c286_176 (by rw [c267_174b]; decide))
            show own_G p e below _ (T175.setTop (mkF m 293 #[.val (.int p0), .val (.int p1), .val (.int p2), .val (.int p3), .val (.int p4), .val (.int (4 : Int32)), .val (.ref a1), .val (.ref a159), .val (.ref r166), .val (.int (4 : Int32)), .unset, .unset] []))
            refine own_step (b := T175.setTop (mkF m 295 #[.val (.int p0), .val (.int p1), .val (.int p2), .val (.int p3), .val (.int p4), .val (.int (4 : Int32)), .val (.ref a1), .val (.ref a159), .val (.ref r166), .val (.int (4 : Int32)), .unset, .unset] [(.ref a1)])) (fun _ qk => XS.aload X175.here hx rfl (hb hby at_293) rfl rfl qk) ?_
            refine own_step (b := T175.setTop (mkF m 296 #[.val (.int p0), .val (.int p1), .val (.int p2), .val (.int p3), .val (.int p4), .val (.int (4 : Int32)), .val (.ref a1), .val (.ref a159), .val (.ref r166), .val (.int (4 : Int32)), .unset, .unset] [(.int (2 : Int32)), (.ref a1)])) (fun _ qk => XS.iconst X175.here hx rfl (hb hby at_295) qk) ?_
            refine own_step (b := T175.setTop (mkF m 298 #[.val (.int p0), .val (.int p1), .val (.int p2), .val (.int p3), .val (.int p4), .val (.int (4 : Int32)), .val (.ref a1), .val (.ref a159), .val (.ref r166), .val (.int (4 : Int32)), .unset, .unset] [(.int (4 : Int32)), (.int (2 : Int32)), (.ref a1)])) (fun _ qk => XS.iload X175.here hx rfl (hb hby at_296) rfl qk) ?_
            refine own_staticP (W := 0) (argsL := [(.ref a1), (.int (2 : Int32)), (.int (4 : Int32))]) (st := []) X175 hx hZ hown (own_w hw 55 rfl) (own_w hw 56 rfl) (own_w hw 3 rfl) (own_w hw 57 rfl) (by decide) e175 (rmSol2 l Z a0 hw [] a1 k1 c0 c1 c2 c3 T166.heap V166 (4 : Int32) (by decide)) (by decide) (by decide) (by decide) (by decide) (by rw [hml]; rfl) (lenOf pd16 rfl) rfl (Nat.le_of_ble_eq_true rfl) (hb hby at_298) (fun T177 X177 e177 => ?_)
            show own_G p e below _ (T177.setTop (mkF m 301 #[.val (.int p0), .val (.int p1), .val (.int p2), .val (.int p3), .val (.int p4), .val (.int (4 : Int32)), .val (.ref a1), .val (.ref a159), .val (.ref r166), .val (.int (4 : Int32)), .unset, .unset] [(.int (own_bi (!own_bl c2)))]))
            refine own_if_eq X177 hx (hb hby at_301) (pc' := 308) (by decide) (by decide) (fun c301_178 => ?_) (fun c301_178 => absurd c301_178 (by rw [c252_172b]; decide))
            show own_G p e below _ (T177.setTop (mkF m 308 #[.val (.int p0), .val (.int p1), .val (.int p2), .val (.int p3), .val (.int p4), .val (.int (4 : Int32)), .val (.ref a1), .val (.ref a159), .val (.ref r166), .val (.int (4 : Int32)), .unset, .unset] []))
            refine own_step (b := T177.setTop (mkF m 310 #[.val (.int p0), .val (.int p1), .val (.int p2), .val (.int p3), .val (.int p4), .val (.int (4 : Int32)), .val (.ref a1), .val (.ref a159), .val (.ref r166), .val (.int (4 : Int32)), .unset, .unset] [(.ref a1)])) (fun _ qk => XS.aload X177.here hx rfl (hb hby at_308) rfl rfl qk) ?_
            refine own_step (b := T177.setTop (mkF m 311 #[.val (.int p0), .val (.int p1), .val (.int p2), .val (.int p3), .val (.int p4), .val (.int (4 : Int32)), .val (.ref a1), .val (.ref a159), .val (.ref r166), .val (.int (4 : Int32)), .unset, .unset] [(.int (1 : Int32)), (.ref a1)])) (fun _ qk => XS.iconst X177.here hx rfl (hb hby at_310) qk) ?_
            refine own_step (b := T177.setTop (mkF m 313 #[.val (.int p0), .val (.int p1), .val (.int p2), .val (.int p3), .val (.int p4), .val (.int (4 : Int32)), .val (.ref a1), .val (.ref a159), .val (.ref r166), .val (.int (4 : Int32)), .unset, .unset] [(.int (4 : Int32)), (.int (1 : Int32)), (.ref a1)])) (fun _ qk => XS.iload X177.here hx rfl (hb hby at_311) rfl qk) ?_
            refine own_staticP (W := 0) (argsL := [(.ref a1), (.int (1 : Int32)), (.int (4 : Int32))]) (st := []) X177 hx hZ hown (own_w hw 55 rfl) (own_w hw 56 rfl) (own_w hw 3 rfl) (own_w hw 57 rfl) (by decide) e177 (rmSol1 l Z a0 hw [] a1 k1 c0 c1 c2 c3 T166.heap V166 (4 : Int32) (by decide)) (by decide) (by decide) (by decide) (by decide) (by rw [hml]; rfl) (lenOf pd16 rfl) rfl (Nat.le_of_ble_eq_true rfl) (hb hby at_313) (fun T179 X179 e179 => ?_)
            show own_G p e below _ (T179.setTop (mkF m 316 #[.val (.int p0), .val (.int p1), .val (.int p2), .val (.int p3), .val (.int p4), .val (.int (4 : Int32)), .val (.ref a1), .val (.ref a159), .val (.ref r166), .val (.int (4 : Int32)), .unset, .unset] [(.int (own_bi (!own_bl c1)))]))
            refine own_if_eq X179 hx (hb hby at_316) (pc' := 323) (by decide) (by decide) (fun c316_180 => ?_) (fun c316_180 => absurd c316_180 (by rw [c237_170b]; decide))
            show own_G p e below _ (T179.setTop (mkF m 323 #[.val (.int p0), .val (.int p1), .val (.int p2), .val (.int p3), .val (.int p4), .val (.int (4 : Int32)), .val (.ref a1), .val (.ref a159), .val (.ref r166), .val (.int (4 : Int32)), .unset, .unset] []))
            refine own_step (b := T179.setTop (mkF m 325 #[.val (.int p0), .val (.int p1), .val (.int p2), .val (.int p3), .val (.int p4), .val (.int (4 : Int32)), .val (.ref a1), .val (.ref a159), .val (.ref r166), .val (.int (4 : Int32)), .unset, .unset] [(.ref a1)])) (fun _ qk => XS.aload X179.here hx rfl (hb hby at_323) rfl rfl qk) ?_
            refine own_step (b := T179.setTop (mkF m 326 #[.val (.int p0), .val (.int p1), .val (.int p2), .val (.int p3), .val (.int p4), .val (.int (4 : Int32)), .val (.ref a1), .val (.ref a159), .val (.ref r166), .val (.int (4 : Int32)), .unset, .unset] [(.int (0 : Int32)), (.ref a1)])) (fun _ qk => XS.iconst X179.here hx rfl (hb hby at_325) qk) ?_
            refine own_step (b := T179.setTop (mkF m 328 #[.val (.int p0), .val (.int p1), .val (.int p2), .val (.int p3), .val (.int p4), .val (.int (4 : Int32)), .val (.ref a1), .val (.ref a159), .val (.ref r166), .val (.int (4 : Int32)), .unset, .unset] [(.int (4 : Int32)), (.int (0 : Int32)), (.ref a1)])) (fun _ qk => XS.iload X179.here hx rfl (hb hby at_326) rfl qk) ?_
            refine own_staticP (W := 0) (argsL := [(.ref a1), (.int (0 : Int32)), (.int (4 : Int32))]) (st := []) X179 hx hZ hown (own_w hw 55 rfl) (own_w hw 56 rfl) (own_w hw 3 rfl) (own_w hw 57 rfl) (by decide) e179 (rmSol0 l Z a0 hw [] a1 k1 c0 c1 c2 c3 T166.heap V166 (4 : Int32) (by decide)) (by decide) (by decide) (by decide) (by decide) (by rw [hml]; rfl) (lenOf pd16 rfl) rfl (Nat.le_of_ble_eq_true rfl) (hb hby at_328) (fun T181 X181 e181 => ?_)
            show own_G p e below _ (T181.setTop (mkF m 331 #[.val (.int p0), .val (.int p1), .val (.int p2), .val (.int p3), .val (.int p4), .val (.int (4 : Int32)), .val (.ref a1), .val (.ref a159), .val (.ref r166), .val (.int (4 : Int32)), .unset, .unset] [(.int (own_bi (!own_bl c0)))]))
            refine own_if_eq X181 hx (hb hby at_331) (pc' := 338) (by decide) (by decide) (fun c331_182 => ?_) (fun c331_182 => absurd c331_182 (by rw [c222_168b]; decide))
            show own_G p e below _ (T181.setTop (mkF m 338 #[.val (.int p0), .val (.int p1), .val (.int p2), .val (.int p3), .val (.int p4), .val (.int (4 : Int32)), .val (.ref a1), .val (.ref a159), .val (.ref r166), .val (.int (4 : Int32)), .unset, .unset] []))
            refine own_step (b := T181.setTop (mkF m 340 #[.val (.int p0), .val (.int p1), .val (.int p2), .val (.int p3), .val (.int p4), .val (.int (4 : Int32)), .val (.ref a1), .val (.ref a159), .val (.ref r166), .val (.int (4 : Int32)), .unset, .unset] [(.int (4 : Int32))])) (fun _ qk => XS.iload X181.here hx rfl (hb hby at_338) rfl qk) ?_
            refine own_step (b := T181.setTop (mkF m 342 #[.val (.int p0), .val (.int p1), .val (.int p2), .val (.int p3), .val (.int p4), .val (.int (4 : Int32)), .val (.ref a1), .val (.ref a159), .val (.ref r166), .val (.int (4 : Int32)), .val (.int (4 : Int32)), .unset] [])) (fun _ qk => XS.istore X181.here hx rfl (hb hby at_340) rfl (l' := #[.val (.int p0), .val (.int p1), .val (.int p2), .val (.int p3), .val (.int p4), .val (.int (4 : Int32)), .val (.ref a1), .val (.ref a159), .val (.ref r166), .val (.int (4 : Int32)), .val (.int (4 : Int32)), .unset]) rfl qk) ?_
            have c222_168bn := c222_168b
            simp only [Bool.not_eq_true', Bool.not_eq_false'] at c222_168bn
            have c237_170bn := c237_170b
            simp only [Bool.not_eq_true', Bool.not_eq_false'] at c237_170bn
            have c252_172bn := c252_172b
            simp only [Bool.not_eq_true', Bool.not_eq_false'] at c252_172bn
            have c267_174bn := c267_174b
            simp only [Bool.not_eq_true', Bool.not_eq_false'] at c267_174bn
            refine J T181 _ _ _ r166 a159 _ 4 4 [] (X181.more (by decide) (by decide)) hS (by rw [show T181.heap = T166.heap from e181]; omega) hZ hown N166 (by rw [show T181.heap = T166.heap from e181]; exact OL166) (by rw [show T181.heap = T166.heap from e181]; exact V166) ?_ (by decide) (by decide) rfl ?_
            · rw [show T181.heap = T166.heap from e181]; have q := SR166; rw [show own_strip [c0, c1, c2, c3] = [] by simp [own_strip, List.dropWhile, c222_168bn, c237_170bn, c252_172bn, c267_174bn]] at q; exact q
            · intro q hq; have hq' : q < 0 := hq; exact match q, hq' with  | q + 0, h_ => absurd h_ (by omega)
          · show own_G p e below _ (T173.setTop (mkF m 270 #[.val (.int p0), .val (.int p1), .val (.int p2), .val (.int p3), .val (.int p4), .val (.int (4 : Int32)), .val (.ref a1), .val (.ref a159), .val (.ref r166), .unset, .unset, .unset] []))
            have c267_174b : (!own_bl c3) = true := own_bi_t c267_174
            refine own_step (b := T173.setTop (mkF m 271 #[.val (.int p0), .val (.int p1), .val (.int p2), .val (.int p3), .val (.int p4), .val (.int (4 : Int32)), .val (.ref a1), .val (.ref a159), .val (.ref r166), .unset, .unset, .unset] [(.int (3 : Int32))])) (fun _ qk => XS.iconst X173.here hx rfl (hb hby at_270) qk) ?_
            refine own_step (b := T173.setTop (mkF m 276 #[.val (.int p0), .val (.int p1), .val (.int p2), .val (.int p3), .val (.int p4), .val (.int (4 : Int32)), .val (.ref a1), .val (.ref a159), .val (.ref r166), .unset, .unset, .unset] [(.int (3 : Int32))])) (fun _ qk => XS.goto X173.here hx rfl (pc0 := 271) (pc' := 276) rfl (hb hby at_271) (by decide) (by decide) qk) ?_
            refine own_step (b := T173.setTop (mkF m 278 #[.val (.int p0), .val (.int p1), .val (.int p2), .val (.int p3), .val (.int p4), .val (.int (4 : Int32)), .val (.ref a1), .val (.ref a159), .val (.ref r166), .val (.int (3 : Int32)), .unset, .unset] [])) (fun _ qk => XS.istore X173.here hx rfl (hb hby at_276) rfl (l' := #[.val (.int p0), .val (.int p1), .val (.int p2), .val (.int p3), .val (.int p4), .val (.int (4 : Int32)), .val (.ref a1), .val (.ref a159), .val (.ref r166), .val (.int (3 : Int32)), .unset, .unset]) rfl qk) ?_
            refine own_step (b := T173.setTop (mkF m 280 #[.val (.int p0), .val (.int p1), .val (.int p2), .val (.int p3), .val (.int p4), .val (.int (4 : Int32)), .val (.ref a1), .val (.ref a159), .val (.ref r166), .val (.int (3 : Int32)), .unset, .unset] [(.ref a1)])) (fun _ qk => XS.aload X173.here hx rfl (hb hby at_278) rfl rfl qk) ?_
            refine own_step (b := T173.setTop (mkF m 281 #[.val (.int p0), .val (.int p1), .val (.int p2), .val (.int p3), .val (.int p4), .val (.int (4 : Int32)), .val (.ref a1), .val (.ref a159), .val (.ref r166), .val (.int (3 : Int32)), .unset, .unset] [(.int (3 : Int32)), (.ref a1)])) (fun _ qk => XS.iconst X173.here hx rfl (hb hby at_280) qk) ?_
            refine own_step (b := T173.setTop (mkF m 283 #[.val (.int p0), .val (.int p1), .val (.int p2), .val (.int p3), .val (.int p4), .val (.int (4 : Int32)), .val (.ref a1), .val (.ref a159), .val (.ref r166), .val (.int (3 : Int32)), .unset, .unset] [(.int (4 : Int32)), (.int (3 : Int32)), (.ref a1)])) (fun _ qk => XS.iload X173.here hx rfl (hb hby at_281) rfl qk) ?_
            refine own_staticP (W := 0) (argsL := [(.ref a1), (.int (3 : Int32)), (.int (4 : Int32))]) (st := []) X173 hx hZ hown (own_w hw 55 rfl) (own_w hw 56 rfl) (own_w hw 3 rfl) (own_w hw 57 rfl) (by decide) e173 (rmSol3 l Z a0 hw [] a1 k1 c0 c1 c2 c3 T166.heap V166 (4 : Int32) (by decide)) (by decide) (by decide) (by decide) (by decide) (by rw [hml]; rfl) (lenOf pd16 rfl) rfl (Nat.le_of_ble_eq_true rfl) (hb hby at_283) (fun T183 X183 e183 => ?_)
            show own_G p e below _ (T183.setTop (mkF m 286 #[.val (.int p0), .val (.int p1), .val (.int p2), .val (.int p3), .val (.int p4), .val (.int (4 : Int32)), .val (.ref a1), .val (.ref a159), .val (.ref r166), .val (.int (3 : Int32)), .unset, .unset] [(.int (own_bi (!own_bl c3)))]))
            refine own_if_eq X183 hx (hb hby at_286) (pc' := 293) (by decide) (by decide) (fun c286_184 => absurd c286_184 (by rw [c267_174b]; decide)) (fun c286_184 => ?_)
            show own_G p e below _ (T183.setTop (mkF m 289 #[.val (.int p0), .val (.int p1), .val (.int p2), .val (.int p3), .val (.int p4), .val (.int (4 : Int32)), .val (.ref a1), .val (.ref a159), .val (.ref r166), .val (.int (3 : Int32)), .unset, .unset] []))
            refine own_step (b := T183.setTop (mkF m 290 #[.val (.int p0), .val (.int p1), .val (.int p2), .val (.int p3), .val (.int p4), .val (.int (4 : Int32)), .val (.ref a1), .val (.ref a159), .val (.ref r166), .val (.int (3 : Int32)), .unset, .unset] [(.int (4 : Int32))])) (fun _ qk => XS.iconst X183.here hx rfl (hb hby at_289) qk) ?_
            refine own_step (b := T183.setTop (mkF m 340 #[.val (.int p0), .val (.int p1), .val (.int p2), .val (.int p3), .val (.int p4), .val (.int (4 : Int32)), .val (.ref a1), .val (.ref a159), .val (.ref r166), .val (.int (3 : Int32)), .unset, .unset] [(.int (4 : Int32))])) (fun _ qk => XS.goto X183.here hx rfl (pc0 := 290) (pc' := 340) rfl (hb hby at_290) (by decide) (by decide) qk) ?_
            refine own_step (b := T183.setTop (mkF m 342 #[.val (.int p0), .val (.int p1), .val (.int p2), .val (.int p3), .val (.int p4), .val (.int (4 : Int32)), .val (.ref a1), .val (.ref a159), .val (.ref r166), .val (.int (3 : Int32)), .val (.int (4 : Int32)), .unset] [])) (fun _ qk => XS.istore X183.here hx rfl (hb hby at_340) rfl (l' := #[.val (.int p0), .val (.int p1), .val (.int p2), .val (.int p3), .val (.int p4), .val (.int (4 : Int32)), .val (.ref a1), .val (.ref a159), .val (.ref r166), .val (.int (3 : Int32)), .val (.int (4 : Int32)), .unset]) rfl qk) ?_
            have c222_168bn := c222_168b
            simp only [Bool.not_eq_true', Bool.not_eq_false'] at c222_168bn
            have c237_170bn := c237_170b
            simp only [Bool.not_eq_true', Bool.not_eq_false'] at c237_170bn
            have c252_172bn := c252_172b
            simp only [Bool.not_eq_true', Bool.not_eq_false'] at c252_172bn
            have c267_174bn := c267_174b
            simp only [Bool.not_eq_true', Bool.not_eq_false'] at c267_174bn
            refine J T183 _ _ _ r166 a159 _ 3 4 [c3] (X183.more (by decide) (by decide)) hS (by rw [show T183.heap = T166.heap from e183]; omega) hZ hown N166 (by rw [show T183.heap = T166.heap from e183]; exact OL166) (by rw [show T183.heap = T166.heap from e183]; exact V166) ?_ (by decide) (by decide) rfl ?_
            · rw [show T183.heap = T166.heap from e183]; have q := SR166; rw [show own_strip [c0, c1, c2, c3] = [c3] by simp [own_strip, List.dropWhile, c222_168bn, c237_170bn, c252_172bn, c267_174bn]] at q; exact q
            · intro q hq; have hq' : q < 1 := hq; exact match q, hq' with | 0, _ => rfl | q + 1, h_ => absurd h_ (by omega)
        · show own_G p e below _ (T171.setTop (mkF m 255 #[.val (.int p0), .val (.int p1), .val (.int p2), .val (.int p3), .val (.int p4), .val (.int (4 : Int32)), .val (.ref a1), .val (.ref a159), .val (.ref r166), .unset, .unset, .unset] []))
          have c252_172b : (!own_bl c2) = true := own_bi_t c252_172
          refine own_step (b := T171.setTop (mkF m 256 #[.val (.int p0), .val (.int p1), .val (.int p2), .val (.int p3), .val (.int p4), .val (.int (4 : Int32)), .val (.ref a1), .val (.ref a159), .val (.ref r166), .unset, .unset, .unset] [(.int (2 : Int32))])) (fun _ qk => XS.iconst X171.here hx rfl (hb hby at_255) qk) ?_
          refine own_step (b := T171.setTop (mkF m 276 #[.val (.int p0), .val (.int p1), .val (.int p2), .val (.int p3), .val (.int p4), .val (.int (4 : Int32)), .val (.ref a1), .val (.ref a159), .val (.ref r166), .unset, .unset, .unset] [(.int (2 : Int32))])) (fun _ qk => XS.goto X171.here hx rfl (pc0 := 256) (pc' := 276) rfl (hb hby at_256) (by decide) (by decide) qk) ?_
          refine own_step (b := T171.setTop (mkF m 278 #[.val (.int p0), .val (.int p1), .val (.int p2), .val (.int p3), .val (.int p4), .val (.int (4 : Int32)), .val (.ref a1), .val (.ref a159), .val (.ref r166), .val (.int (2 : Int32)), .unset, .unset] [])) (fun _ qk => XS.istore X171.here hx rfl (hb hby at_276) rfl (l' := #[.val (.int p0), .val (.int p1), .val (.int p2), .val (.int p3), .val (.int p4), .val (.int (4 : Int32)), .val (.ref a1), .val (.ref a159), .val (.ref r166), .val (.int (2 : Int32)), .unset, .unset]) rfl qk) ?_
          refine own_step (b := T171.setTop (mkF m 280 #[.val (.int p0), .val (.int p1), .val (.int p2), .val (.int p3), .val (.int p4), .val (.int (4 : Int32)), .val (.ref a1), .val (.ref a159), .val (.ref r166), .val (.int (2 : Int32)), .unset, .unset] [(.ref a1)])) (fun _ qk => XS.aload X171.here hx rfl (hb hby at_278) rfl rfl qk) ?_
          refine own_step (b := T171.setTop (mkF m 281 #[.val (.int p0), .val (.int p1), .val (.int p2), .val (.int p3), .val (.int p4), .val (.int (4 : Int32)), .val (.ref a1), .val (.ref a159), .val (.ref r166), .val (.int (2 : Int32)), .unset, .unset] [(.int (3 : Int32)), (.ref a1)])) (fun _ qk => XS.iconst X171.here hx rfl (hb hby at_280) qk) ?_
          refine own_step (b := T171.setTop (mkF m 283 #[.val (.int p0), .val (.int p1), .val (.int p2), .val (.int p3), .val (.int p4), .val (.int (4 : Int32)), .val (.ref a1), .val (.ref a159), .val (.ref r166), .val (.int (2 : Int32)), .unset, .unset] [(.int (4 : Int32)), (.int (3 : Int32)), (.ref a1)])) (fun _ qk => XS.iload X171.here hx rfl (hb hby at_281) rfl qk) ?_
          refine own_staticP (W := 0) (argsL := [(.ref a1), (.int (3 : Int32)), (.int (4 : Int32))]) (st := []) X171 hx hZ hown (own_w hw 55 rfl) (own_w hw 56 rfl) (own_w hw 3 rfl) (own_w hw 57 rfl) (by decide) e171 (rmSol3 l Z a0 hw [] a1 k1 c0 c1 c2 c3 T166.heap V166 (4 : Int32) (by decide)) (by decide) (by decide) (by decide) (by decide) (by rw [hml]; rfl) (lenOf pd16 rfl) rfl (Nat.le_of_ble_eq_true rfl) (hb hby at_283) (fun T185 X185 e185 => ?_)
          show own_G p e below _ (T185.setTop (mkF m 286 #[.val (.int p0), .val (.int p1), .val (.int p2), .val (.int p3), .val (.int p4), .val (.int (4 : Int32)), .val (.ref a1), .val (.ref a159), .val (.ref r166), .val (.int (2 : Int32)), .unset, .unset] [(.int (own_bi (!own_bl c3)))]))
          refine own_if_eq X185 hx (hb hby at_286) (pc' := 293) (by decide) (by decide) (fun c286_186 => ?_) (fun c286_186 => ?_)
          · show own_G p e below _ (T185.setTop (mkF m 293 #[.val (.int p0), .val (.int p1), .val (.int p2), .val (.int p3), .val (.int p4), .val (.int (4 : Int32)), .val (.ref a1), .val (.ref a159), .val (.ref r166), .val (.int (2 : Int32)), .unset, .unset] []))
            have c286_186b : (!own_bl c3) = false := own_bi_f c286_186
            refine own_step (b := T185.setTop (mkF m 295 #[.val (.int p0), .val (.int p1), .val (.int p2), .val (.int p3), .val (.int p4), .val (.int (4 : Int32)), .val (.ref a1), .val (.ref a159), .val (.ref r166), .val (.int (2 : Int32)), .unset, .unset] [(.ref a1)])) (fun _ qk => XS.aload X185.here hx rfl (hb hby at_293) rfl rfl qk) ?_
            refine own_step (b := T185.setTop (mkF m 296 #[.val (.int p0), .val (.int p1), .val (.int p2), .val (.int p3), .val (.int p4), .val (.int (4 : Int32)), .val (.ref a1), .val (.ref a159), .val (.ref r166), .val (.int (2 : Int32)), .unset, .unset] [(.int (2 : Int32)), (.ref a1)])) (fun _ qk => XS.iconst X185.here hx rfl (hb hby at_295) qk) ?_
            refine own_step (b := T185.setTop (mkF m 298 #[.val (.int p0), .val (.int p1), .val (.int p2), .val (.int p3), .val (.int p4), .val (.int (4 : Int32)), .val (.ref a1), .val (.ref a159), .val (.ref r166), .val (.int (2 : Int32)), .unset, .unset] [(.int (4 : Int32)), (.int (2 : Int32)), (.ref a1)])) (fun _ qk => XS.iload X185.here hx rfl (hb hby at_296) rfl qk) ?_
            refine own_staticP (W := 0) (argsL := [(.ref a1), (.int (2 : Int32)), (.int (4 : Int32))]) (st := []) X185 hx hZ hown (own_w hw 55 rfl) (own_w hw 56 rfl) (own_w hw 3 rfl) (own_w hw 57 rfl) (by decide) e185 (rmSol2 l Z a0 hw [] a1 k1 c0 c1 c2 c3 T166.heap V166 (4 : Int32) (by decide)) (by decide) (by decide) (by decide) (by decide) (by rw [hml]; rfl) (lenOf pd16 rfl) rfl (Nat.le_of_ble_eq_true rfl) (hb hby at_298) (fun T187 X187 e187 => ?_)
            show own_G p e below _ (T187.setTop (mkF m 301 #[.val (.int p0), .val (.int p1), .val (.int p2), .val (.int p3), .val (.int p4), .val (.int (4 : Int32)), .val (.ref a1), .val (.ref a159), .val (.ref r166), .val (.int (2 : Int32)), .unset, .unset] [(.int (own_bi (!own_bl c2)))]))
            refine own_if_eq X187 hx (hb hby at_301) (pc' := 308) (by decide) (by decide) (fun c301_188 => absurd c301_188 (by rw [c252_172b]; decide)) (fun c301_188 => ?_)
            show own_G p e below _ (T187.setTop (mkF m 304 #[.val (.int p0), .val (.int p1), .val (.int p2), .val (.int p3), .val (.int p4), .val (.int (4 : Int32)), .val (.ref a1), .val (.ref a159), .val (.ref r166), .val (.int (2 : Int32)), .unset, .unset] []))
            refine own_step (b := T187.setTop (mkF m 305 #[.val (.int p0), .val (.int p1), .val (.int p2), .val (.int p3), .val (.int p4), .val (.int (4 : Int32)), .val (.ref a1), .val (.ref a159), .val (.ref r166), .val (.int (2 : Int32)), .unset, .unset] [(.int (3 : Int32))])) (fun _ qk => XS.iconst X187.here hx rfl (hb hby at_304) qk) ?_
            refine own_step (b := T187.setTop (mkF m 340 #[.val (.int p0), .val (.int p1), .val (.int p2), .val (.int p3), .val (.int p4), .val (.int (4 : Int32)), .val (.ref a1), .val (.ref a159), .val (.ref r166), .val (.int (2 : Int32)), .unset, .unset] [(.int (3 : Int32))])) (fun _ qk => XS.goto X187.here hx rfl (pc0 := 305) (pc' := 340) rfl (hb hby at_305) (by decide) (by decide) qk) ?_
            refine own_step (b := T187.setTop (mkF m 342 #[.val (.int p0), .val (.int p1), .val (.int p2), .val (.int p3), .val (.int p4), .val (.int (4 : Int32)), .val (.ref a1), .val (.ref a159), .val (.ref r166), .val (.int (2 : Int32)), .val (.int (3 : Int32)), .unset] [])) (fun _ qk => XS.istore X187.here hx rfl (hb hby at_340) rfl (l' := #[.val (.int p0), .val (.int p1), .val (.int p2), .val (.int p3), .val (.int p4), .val (.int (4 : Int32)), .val (.ref a1), .val (.ref a159), .val (.ref r166), .val (.int (2 : Int32)), .val (.int (3 : Int32)), .unset]) rfl qk) ?_
            have c222_168bn := c222_168b
            simp only [Bool.not_eq_true', Bool.not_eq_false'] at c222_168bn
            have c237_170bn := c237_170b
            simp only [Bool.not_eq_true', Bool.not_eq_false'] at c237_170bn
            have c252_172bn := c252_172b
            simp only [Bool.not_eq_true', Bool.not_eq_false'] at c252_172bn
            have c286_186bn := c286_186b
            simp only [Bool.not_eq_true', Bool.not_eq_false'] at c286_186bn
            refine J T187 _ _ _ r166 a159 _ 2 3 [c2] (X187.more (by decide) (by decide)) hS (by rw [show T187.heap = T166.heap from e187]; omega) hZ hown N166 (by rw [show T187.heap = T166.heap from e187]; exact OL166) (by rw [show T187.heap = T166.heap from e187]; exact V166) ?_ (by decide) (by decide) rfl ?_
            · rw [show T187.heap = T166.heap from e187]; have q := SR166; rw [show own_strip [c0, c1, c2, c3] = [c2] by simp [own_strip, List.dropWhile, c222_168bn, c237_170bn, c252_172bn, c286_186bn]] at q; exact q
            · intro q hq; have hq' : q < 1 := hq; exact match q, hq' with | 0, _ => rfl | q + 1, h_ => absurd h_ (by omega)
          · show own_G p e below _ (T185.setTop (mkF m 289 #[.val (.int p0), .val (.int p1), .val (.int p2), .val (.int p3), .val (.int p4), .val (.int (4 : Int32)), .val (.ref a1), .val (.ref a159), .val (.ref r166), .val (.int (2 : Int32)), .unset, .unset] []))
            have c286_186b : (!own_bl c3) = true := own_bi_t c286_186
            refine own_step (b := T185.setTop (mkF m 290 #[.val (.int p0), .val (.int p1), .val (.int p2), .val (.int p3), .val (.int p4), .val (.int (4 : Int32)), .val (.ref a1), .val (.ref a159), .val (.ref r166), .val (.int (2 : Int32)), .unset, .unset] [(.int (4 : Int32))])) (fun _ qk => XS.iconst X185.here hx rfl (hb hby at_289) qk) ?_
            refine own_step (b := T185.setTop (mkF m 340 #[.val (.int p0), .val (.int p1), .val (.int p2), .val (.int p3), .val (.int p4), .val (.int (4 : Int32)), .val (.ref a1), .val (.ref a159), .val (.ref r166), .val (.int (2 : Int32)), .unset, .unset] [(.int (4 : Int32))])) (fun _ qk => XS.goto X185.here hx rfl (pc0 := 290) (pc' := 340) rfl (hb hby at_290) (by decide) (by decide) qk) ?_
            refine own_step (b := T185.setTop (mkF m 342 #[.val (.int p0), .val (.int p1), .val (.int p2), .val (.int p3), .val (.int p4), .val (.int (4 : Int32)), .val (.ref a1), .val (.ref a159), .val (.ref r166), .val (.int (2 : Int32)), .val (.int (4 : Int32)), .unset] [])) (fun _ qk => XS.istore X185.here hx rfl (hb hby at_340) rfl (l' := #[.val (.int p0), .val (.int p1), .val (.int p2), .val (.int p3), .val (.int p4), .val (.int (4 : Int32)), .val (.ref a1), .val (.ref a159), .val (.ref r166), .val (.int (2 : Int32)), .val (.int (4 : Int32)), .unset]) rfl qk) ?_
            have c222_168bn := c222_168b
            simp only [Bool.not_eq_true', Bool.not_eq_false'] at c222_168bn
            have c237_170bn := c237_170b
            simp only [Bool.not_eq_true', Bool.not_eq_false'] at c237_170bn
            have c252_172bn := c252_172b
            simp only [Bool.not_eq_true', Bool.not_eq_false'] at c252_172bn
            have c286_186bn := c286_186b
            simp only [Bool.not_eq_true', Bool.not_eq_false'] at c286_186bn
            refine J T185 _ _ _ r166 a159 _ 2 4 [c2, c3] (X185.more (by decide) (by decide)) hS (by rw [show T185.heap = T166.heap from e185]; omega) hZ hown N166 (by rw [show T185.heap = T166.heap from e185]; exact OL166) (by rw [show T185.heap = T166.heap from e185]; exact V166) ?_ (by decide) (by decide) rfl ?_
            · rw [show T185.heap = T166.heap from e185]; have q := SR166; rw [show own_strip [c0, c1, c2, c3] = [c2, c3] by simp [own_strip, List.dropWhile, c222_168bn, c237_170bn, c252_172bn, c286_186bn]] at q; exact q
            · intro q hq; have hq' : q < 2 := hq; exact match q, hq' with | 0, _ => rfl | 1, _ => rfl | q + 2, h_ => absurd h_ (by omega)
      · show own_G p e below _ (T169.setTop (mkF m 240 #[.val (.int p0), .val (.int p1), .val (.int p2), .val (.int p3), .val (.int p4), .val (.int (4 : Int32)), .val (.ref a1), .val (.ref a159), .val (.ref r166), .unset, .unset, .unset] []))
        have c237_170b : (!own_bl c1) = true := own_bi_t c237_170
        refine own_step (b := T169.setTop (mkF m 241 #[.val (.int p0), .val (.int p1), .val (.int p2), .val (.int p3), .val (.int p4), .val (.int (4 : Int32)), .val (.ref a1), .val (.ref a159), .val (.ref r166), .unset, .unset, .unset] [(.int (1 : Int32))])) (fun _ qk => XS.iconst X169.here hx rfl (hb hby at_240) qk) ?_
        refine own_step (b := T169.setTop (mkF m 276 #[.val (.int p0), .val (.int p1), .val (.int p2), .val (.int p3), .val (.int p4), .val (.int (4 : Int32)), .val (.ref a1), .val (.ref a159), .val (.ref r166), .unset, .unset, .unset] [(.int (1 : Int32))])) (fun _ qk => XS.goto X169.here hx rfl (pc0 := 241) (pc' := 276) rfl (hb hby at_241) (by decide) (by decide) qk) ?_
        refine own_step (b := T169.setTop (mkF m 278 #[.val (.int p0), .val (.int p1), .val (.int p2), .val (.int p3), .val (.int p4), .val (.int (4 : Int32)), .val (.ref a1), .val (.ref a159), .val (.ref r166), .val (.int (1 : Int32)), .unset, .unset] [])) (fun _ qk => XS.istore X169.here hx rfl (hb hby at_276) rfl (l' := #[.val (.int p0), .val (.int p1), .val (.int p2), .val (.int p3), .val (.int p4), .val (.int (4 : Int32)), .val (.ref a1), .val (.ref a159), .val (.ref r166), .val (.int (1 : Int32)), .unset, .unset]) rfl qk) ?_
        refine own_step (b := T169.setTop (mkF m 280 #[.val (.int p0), .val (.int p1), .val (.int p2), .val (.int p3), .val (.int p4), .val (.int (4 : Int32)), .val (.ref a1), .val (.ref a159), .val (.ref r166), .val (.int (1 : Int32)), .unset, .unset] [(.ref a1)])) (fun _ qk => XS.aload X169.here hx rfl (hb hby at_278) rfl rfl qk) ?_
        refine own_step (b := T169.setTop (mkF m 281 #[.val (.int p0), .val (.int p1), .val (.int p2), .val (.int p3), .val (.int p4), .val (.int (4 : Int32)), .val (.ref a1), .val (.ref a159), .val (.ref r166), .val (.int (1 : Int32)), .unset, .unset] [(.int (3 : Int32)), (.ref a1)])) (fun _ qk => XS.iconst X169.here hx rfl (hb hby at_280) qk) ?_
        refine own_step (b := T169.setTop (mkF m 283 #[.val (.int p0), .val (.int p1), .val (.int p2), .val (.int p3), .val (.int p4), .val (.int (4 : Int32)), .val (.ref a1), .val (.ref a159), .val (.ref r166), .val (.int (1 : Int32)), .unset, .unset] [(.int (4 : Int32)), (.int (3 : Int32)), (.ref a1)])) (fun _ qk => XS.iload X169.here hx rfl (hb hby at_281) rfl qk) ?_
        refine own_staticP (W := 0) (argsL := [(.ref a1), (.int (3 : Int32)), (.int (4 : Int32))]) (st := []) X169 hx hZ hown (own_w hw 55 rfl) (own_w hw 56 rfl) (own_w hw 3 rfl) (own_w hw 57 rfl) (by decide) e169 (rmSol3 l Z a0 hw [] a1 k1 c0 c1 c2 c3 T166.heap V166 (4 : Int32) (by decide)) (by decide) (by decide) (by decide) (by decide) (by rw [hml]; rfl) (lenOf pd16 rfl) rfl (Nat.le_of_ble_eq_true rfl) (hb hby at_283) (fun T189 X189 e189 => ?_)
        show own_G p e below _ (T189.setTop (mkF m 286 #[.val (.int p0), .val (.int p1), .val (.int p2), .val (.int p3), .val (.int p4), .val (.int (4 : Int32)), .val (.ref a1), .val (.ref a159), .val (.ref r166), .val (.int (1 : Int32)), .unset, .unset] [(.int (own_bi (!own_bl c3)))]))
        refine own_if_eq X189 hx (hb hby at_286) (pc' := 293) (by decide) (by decide) (fun c286_190 => ?_) (fun c286_190 => ?_)
        · show own_G p e below _ (T189.setTop (mkF m 293 #[.val (.int p0), .val (.int p1), .val (.int p2), .val (.int p3), .val (.int p4), .val (.int (4 : Int32)), .val (.ref a1), .val (.ref a159), .val (.ref r166), .val (.int (1 : Int32)), .unset, .unset] []))
          have c286_190b : (!own_bl c3) = false := own_bi_f c286_190
          refine own_step (b := T189.setTop (mkF m 295 #[.val (.int p0), .val (.int p1), .val (.int p2), .val (.int p3), .val (.int p4), .val (.int (4 : Int32)), .val (.ref a1), .val (.ref a159), .val (.ref r166), .val (.int (1 : Int32)), .unset, .unset] [(.ref a1)])) (fun _ qk => XS.aload X189.here hx rfl (hb hby at_293) rfl rfl qk) ?_
          refine own_step (b := T189.setTop (mkF m 296 #[.val (.int p0), .val (.int p1), .val (.int p2), .val (.int p3), .val (.int p4), .val (.int (4 : Int32)), .val (.ref a1), .val (.ref a159), .val (.ref r166), .val (.int (1 : Int32)), .unset, .unset] [(.int (2 : Int32)), (.ref a1)])) (fun _ qk => XS.iconst X189.here hx rfl (hb hby at_295) qk) ?_
          refine own_step (b := T189.setTop (mkF m 298 #[.val (.int p0), .val (.int p1), .val (.int p2), .val (.int p3), .val (.int p4), .val (.int (4 : Int32)), .val (.ref a1), .val (.ref a159), .val (.ref r166), .val (.int (1 : Int32)), .unset, .unset] [(.int (4 : Int32)), (.int (2 : Int32)), (.ref a1)])) (fun _ qk => XS.iload X189.here hx rfl (hb hby at_296) rfl qk) ?_
          refine own_staticP (W := 0) (argsL := [(.ref a1), (.int (2 : Int32)), (.int (4 : Int32))]) (st := []) X189 hx hZ hown (own_w hw 55 rfl) (own_w hw 56 rfl) (own_w hw 3 rfl) (own_w hw 57 rfl) (by decide) e189 (rmSol2 l Z a0 hw [] a1 k1 c0 c1 c2 c3 T166.heap V166 (4 : Int32) (by decide)) (by decide) (by decide) (by decide) (by decide) (by rw [hml]; rfl) (lenOf pd16 rfl) rfl (Nat.le_of_ble_eq_true rfl) (hb hby at_298) (fun T191 X191 e191 => ?_)
          show own_G p e below _ (T191.setTop (mkF m 301 #[.val (.int p0), .val (.int p1), .val (.int p2), .val (.int p3), .val (.int p4), .val (.int (4 : Int32)), .val (.ref a1), .val (.ref a159), .val (.ref r166), .val (.int (1 : Int32)), .unset, .unset] [(.int (own_bi (!own_bl c2)))]))
          refine own_if_eq X191 hx (hb hby at_301) (pc' := 308) (by decide) (by decide) (fun c301_192 => ?_) (fun c301_192 => ?_)
          · show own_G p e below _ (T191.setTop (mkF m 308 #[.val (.int p0), .val (.int p1), .val (.int p2), .val (.int p3), .val (.int p4), .val (.int (4 : Int32)), .val (.ref a1), .val (.ref a159), .val (.ref r166), .val (.int (1 : Int32)), .unset, .unset] []))
            have c301_192b : (!own_bl c2) = false := own_bi_f c301_192
            refine own_step (b := T191.setTop (mkF m 310 #[.val (.int p0), .val (.int p1), .val (.int p2), .val (.int p3), .val (.int p4), .val (.int (4 : Int32)), .val (.ref a1), .val (.ref a159), .val (.ref r166), .val (.int (1 : Int32)), .unset, .unset] [(.ref a1)])) (fun _ qk => XS.aload X191.here hx rfl (hb hby at_308) rfl rfl qk) ?_
            refine own_step (b := T191.setTop (mkF m 311 #[.val (.int p0), .val (.int p1), .val (.int p2), .val (.int p3), .val (.int p4), .val (.int (4 : Int32)), .val (.ref a1), .val (.ref a159), .val (.ref r166), .val (.int (1 : Int32)), .unset, .unset] [(.int (1 : Int32)), (.ref a1)])) (fun _ qk => XS.iconst X191.here hx rfl (hb hby at_310) qk) ?_
            refine own_step (b := T191.setTop (mkF m 313 #[.val (.int p0), .val (.int p1), .val (.int p2), .val (.int p3), .val (.int p4), .val (.int (4 : Int32)), .val (.ref a1), .val (.ref a159), .val (.ref r166), .val (.int (1 : Int32)), .unset, .unset] [(.int (4 : Int32)), (.int (1 : Int32)), (.ref a1)])) (fun _ qk => XS.iload X191.here hx rfl (hb hby at_311) rfl qk) ?_
            refine own_staticP (W := 0) (argsL := [(.ref a1), (.int (1 : Int32)), (.int (4 : Int32))]) (st := []) X191 hx hZ hown (own_w hw 55 rfl) (own_w hw 56 rfl) (own_w hw 3 rfl) (own_w hw 57 rfl) (by decide) e191 (rmSol1 l Z a0 hw [] a1 k1 c0 c1 c2 c3 T166.heap V166 (4 : Int32) (by decide)) (by decide) (by decide) (by decide) (by decide) (by rw [hml]; rfl) (lenOf pd16 rfl) rfl (Nat.le_of_ble_eq_true rfl) (hb hby at_313) (fun T193 X193 e193 => ?_)
            show own_G p e below _ (T193.setTop (mkF m 316 #[.val (.int p0), .val (.int p1), .val (.int p2), .val (.int p3), .val (.int p4), .val (.int (4 : Int32)), .val (.ref a1), .val (.ref a159), .val (.ref r166), .val (.int (1 : Int32)), .unset, .unset] [(.int (own_bi (!own_bl c1)))]))
            refine own_if_eq X193 hx (hb hby at_316) (pc' := 323) (by decide) (by decide) (fun c316_194 => absurd c316_194 (by rw [c237_170b]; decide)) (fun c316_194 => ?_)
            show own_G p e below _ (T193.setTop (mkF m 319 #[.val (.int p0), .val (.int p1), .val (.int p2), .val (.int p3), .val (.int p4), .val (.int (4 : Int32)), .val (.ref a1), .val (.ref a159), .val (.ref r166), .val (.int (1 : Int32)), .unset, .unset] []))
            refine own_step (b := T193.setTop (mkF m 320 #[.val (.int p0), .val (.int p1), .val (.int p2), .val (.int p3), .val (.int p4), .val (.int (4 : Int32)), .val (.ref a1), .val (.ref a159), .val (.ref r166), .val (.int (1 : Int32)), .unset, .unset] [(.int (2 : Int32))])) (fun _ qk => XS.iconst X193.here hx rfl (hb hby at_319) qk) ?_
            refine own_step (b := T193.setTop (mkF m 340 #[.val (.int p0), .val (.int p1), .val (.int p2), .val (.int p3), .val (.int p4), .val (.int (4 : Int32)), .val (.ref a1), .val (.ref a159), .val (.ref r166), .val (.int (1 : Int32)), .unset, .unset] [(.int (2 : Int32))])) (fun _ qk => XS.goto X193.here hx rfl (pc0 := 320) (pc' := 340) rfl (hb hby at_320) (by decide) (by decide) qk) ?_
            refine own_step (b := T193.setTop (mkF m 342 #[.val (.int p0), .val (.int p1), .val (.int p2), .val (.int p3), .val (.int p4), .val (.int (4 : Int32)), .val (.ref a1), .val (.ref a159), .val (.ref r166), .val (.int (1 : Int32)), .val (.int (2 : Int32)), .unset] [])) (fun _ qk => XS.istore X193.here hx rfl (hb hby at_340) rfl (l' := #[.val (.int p0), .val (.int p1), .val (.int p2), .val (.int p3), .val (.int p4), .val (.int (4 : Int32)), .val (.ref a1), .val (.ref a159), .val (.ref r166), .val (.int (1 : Int32)), .val (.int (2 : Int32)), .unset]) rfl qk) ?_
            have c222_168bn := c222_168b
            simp only [Bool.not_eq_true', Bool.not_eq_false'] at c222_168bn
            have c237_170bn := c237_170b
            simp only [Bool.not_eq_true', Bool.not_eq_false'] at c237_170bn
            have c286_190bn := c286_190b
            simp only [Bool.not_eq_true', Bool.not_eq_false'] at c286_190bn
            have c301_192bn := c301_192b
            simp only [Bool.not_eq_true', Bool.not_eq_false'] at c301_192bn
            refine J T193 _ _ _ r166 a159 _ 1 2 [c1] (X193.more (by decide) (by decide)) hS (by rw [show T193.heap = T166.heap from e193]; omega) hZ hown N166 (by rw [show T193.heap = T166.heap from e193]; exact OL166) (by rw [show T193.heap = T166.heap from e193]; exact V166) ?_ (by decide) (by decide) rfl ?_
            · rw [show T193.heap = T166.heap from e193]; have q := SR166; rw [show own_strip [c0, c1, c2, c3] = [c1] by simp [own_strip, List.dropWhile, c222_168bn, c237_170bn, c286_190bn, c301_192bn]] at q; exact q
            · intro q hq; have hq' : q < 1 := hq; exact match q, hq' with | 0, _ => rfl | q + 1, h_ => absurd h_ (by omega)
          · show own_G p e below _ (T191.setTop (mkF m 304 #[.val (.int p0), .val (.int p1), .val (.int p2), .val (.int p3), .val (.int p4), .val (.int (4 : Int32)), .val (.ref a1), .val (.ref a159), .val (.ref r166), .val (.int (1 : Int32)), .unset, .unset] []))
            have c301_192b : (!own_bl c2) = true := own_bi_t c301_192
            refine own_step (b := T191.setTop (mkF m 305 #[.val (.int p0), .val (.int p1), .val (.int p2), .val (.int p3), .val (.int p4), .val (.int (4 : Int32)), .val (.ref a1), .val (.ref a159), .val (.ref r166), .val (.int (1 : Int32)), .unset, .unset] [(.int (3 : Int32))])) (fun _ qk => XS.iconst X191.here hx rfl (hb hby at_304) qk) ?_
            refine own_step (b := T191.setTop (mkF m 340 #[.val (.int p0), .val (.int p1), .val (.int p2), .val (.int p3), .val (.int p4), .val (.int (4 : Int32)), .val (.ref a1), .val (.ref a159), .val (.ref r166), .val (.int (1 : Int32)), .unset, .unset] [(.int (3 : Int32))])) (fun _ qk => XS.goto X191.here hx rfl (pc0 := 305) (pc' := 340) rfl (hb hby at_305) (by decide) (by decide) qk) ?_
            refine own_step (b := T191.setTop (mkF m 342 #[.val (.int p0), .val (.int p1), .val (.int p2), .val (.int p3), .val (.int p4), .val (.int (4 : Int32)), .val (.ref a1), .val (.ref a159), .val (.ref r166), .val (.int (1 : Int32)), .val (.int (3 : Int32)), .unset] [])) (fun _ qk => XS.istore X191.here hx rfl (hb hby at_340) rfl (l' := #[.val (.int p0), .val (.int p1), .val (.int p2), .val (.int p3), .val (.int p4), .val (.int (4 : Int32)), .val (.ref a1), .val (.ref a159), .val (.ref r166), .val (.int (1 : Int32)), .val (.int (3 : Int32)), .unset]) rfl qk) ?_
            have c222_168bn := c222_168b
            simp only [Bool.not_eq_true', Bool.not_eq_false'] at c222_168bn
            have c237_170bn := c237_170b
            simp only [Bool.not_eq_true', Bool.not_eq_false'] at c237_170bn
            have c286_190bn := c286_190b
            simp only [Bool.not_eq_true', Bool.not_eq_false'] at c286_190bn
            have c301_192bn := c301_192b
            simp only [Bool.not_eq_true', Bool.not_eq_false'] at c301_192bn
            refine J T191 _ _ _ r166 a159 _ 1 3 [c1, c2] (X191.more (by decide) (by decide)) hS (by rw [show T191.heap = T166.heap from e191]; omega) hZ hown N166 (by rw [show T191.heap = T166.heap from e191]; exact OL166) (by rw [show T191.heap = T166.heap from e191]; exact V166) ?_ (by decide) (by decide) rfl ?_
            · rw [show T191.heap = T166.heap from e191]; have q := SR166; rw [show own_strip [c0, c1, c2, c3] = [c1, c2] by simp [own_strip, List.dropWhile, c222_168bn, c237_170bn, c286_190bn, c301_192bn]] at q; exact q
            · intro q hq; have hq' : q < 2 := hq; exact match q, hq' with | 0, _ => rfl | 1, _ => rfl | q + 2, h_ => absurd h_ (by omega)
        · show own_G p e below _ (T189.setTop (mkF m 289 #[.val (.int p0), .val (.int p1), .val (.int p2), .val (.int p3), .val (.int p4), .val (.int (4 : Int32)), .val (.ref a1), .val (.ref a159), .val (.ref r166), .val (.int (1 : Int32)), .unset, .unset] []))
          have c286_190b : (!own_bl c3) = true := own_bi_t c286_190
          refine own_step (b := T189.setTop (mkF m 290 #[.val (.int p0), .val (.int p1), .val (.int p2), .val (.int p3), .val (.int p4), .val (.int (4 : Int32)), .val (.ref a1), .val (.ref a159), .val (.ref r166), .val (.int (1 : Int32)), .unset, .unset] [(.int (4 : Int32))])) (fun _ qk => XS.iconst X189.here hx rfl (hb hby at_289) qk) ?_
          refine own_step (b := T189.setTop (mkF m 340 #[.val (.int p0), .val (.int p1), .val (.int p2), .val (.int p3), .val (.int p4), .val (.int (4 : Int32)), .val (.ref a1), .val (.ref a159), .val (.ref r166), .val (.int (1 : Int32)), .unset, .unset] [(.int (4 : Int32))])) (fun _ qk => XS.goto X189.here hx rfl (pc0 := 290) (pc' := 340) rfl (hb hby at_290) (by decide) (by decide) qk) ?_
          refine own_step (b := T189.setTop (mkF m 342 #[.val (.int p0), .val (.int p1), .val (.int p2), .val (.int p3), .val (.int p4), .val (.int (4 : Int32)), .val (.ref a1), .val (.ref a159), .val (.ref r166), .val (.int (1 : Int32)), .val (.int (4 : Int32)), .unset] [])) (fun _ qk => XS.istore X189.here hx rfl (hb hby at_340) rfl (l' := #[.val (.int p0), .val (.int p1), .val (.int p2), .val (.int p3), .val (.int p4), .val (.int (4 : Int32)), .val (.ref a1), .val (.ref a159), .val (.ref r166), .val (.int (1 : Int32)), .val (.int (4 : Int32)), .unset]) rfl qk) ?_
          have c222_168bn := c222_168b
          simp only [Bool.not_eq_true', Bool.not_eq_false'] at c222_168bn
          have c237_170bn := c237_170b
          simp only [Bool.not_eq_true', Bool.not_eq_false'] at c237_170bn
          have c286_190bn := c286_190b
          simp only [Bool.not_eq_true', Bool.not_eq_false'] at c286_190bn
          refine J T189 _ _ _ r166 a159 _ 1 4 [c1, c2, c3] (X189.more (by decide) (by decide)) hS (by rw [show T189.heap = T166.heap from e189]; omega) hZ hown N166 (by rw [show T189.heap = T166.heap from e189]; exact OL166) (by rw [show T189.heap = T166.heap from e189]; exact V166) ?_ (by decide) (by decide) rfl ?_
          · rw [show T189.heap = T166.heap from e189]; have q := SR166; rw [show own_strip [c0, c1, c2, c3] = [c1, c2, c3] by simp [own_strip, List.dropWhile, c222_168bn, c237_170bn, c286_190bn]] at q; exact q
          · intro q hq; have hq' : q < 3 := hq; exact match q, hq' with | 0, _ => rfl | 1, _ => rfl | 2, _ => rfl | q + 3, h_ => absurd h_ (by omega)
    · show own_G p e below _ (T167.setTop (mkF m 225 #[.val (.int p0), .val (.int p1), .val (.int p2), .val (.int p3), .val (.int p4), .val (.int (4 : Int32)), .val (.ref a1), .val (.ref a159), .val (.ref r166), .unset, .unset, .unset] []))
      have c222_168b : (!own_bl c0) = true := own_bi_t c222_168
      refine own_step (b := T167.setTop (mkF m 226 #[.val (.int p0), .val (.int p1), .val (.int p2), .val (.int p3), .val (.int p4), .val (.int (4 : Int32)), .val (.ref a1), .val (.ref a159), .val (.ref r166), .unset, .unset, .unset] [(.int (0 : Int32))])) (fun _ qk => XS.iconst X167.here hx rfl (hb hby at_225) qk) ?_
      refine own_step (b := T167.setTop (mkF m 276 #[.val (.int p0), .val (.int p1), .val (.int p2), .val (.int p3), .val (.int p4), .val (.int (4 : Int32)), .val (.ref a1), .val (.ref a159), .val (.ref r166), .unset, .unset, .unset] [(.int (0 : Int32))])) (fun _ qk => XS.goto X167.here hx rfl (pc0 := 226) (pc' := 276) rfl (hb hby at_226) (by decide) (by decide) qk) ?_
      refine own_step (b := T167.setTop (mkF m 278 #[.val (.int p0), .val (.int p1), .val (.int p2), .val (.int p3), .val (.int p4), .val (.int (4 : Int32)), .val (.ref a1), .val (.ref a159), .val (.ref r166), .val (.int (0 : Int32)), .unset, .unset] [])) (fun _ qk => XS.istore X167.here hx rfl (hb hby at_276) rfl (l' := #[.val (.int p0), .val (.int p1), .val (.int p2), .val (.int p3), .val (.int p4), .val (.int (4 : Int32)), .val (.ref a1), .val (.ref a159), .val (.ref r166), .val (.int (0 : Int32)), .unset, .unset]) rfl qk) ?_
      refine own_step (b := T167.setTop (mkF m 280 #[.val (.int p0), .val (.int p1), .val (.int p2), .val (.int p3), .val (.int p4), .val (.int (4 : Int32)), .val (.ref a1), .val (.ref a159), .val (.ref r166), .val (.int (0 : Int32)), .unset, .unset] [(.ref a1)])) (fun _ qk => XS.aload X167.here hx rfl (hb hby at_278) rfl rfl qk) ?_
      refine own_step (b := T167.setTop (mkF m 281 #[.val (.int p0), .val (.int p1), .val (.int p2), .val (.int p3), .val (.int p4), .val (.int (4 : Int32)), .val (.ref a1), .val (.ref a159), .val (.ref r166), .val (.int (0 : Int32)), .unset, .unset] [(.int (3 : Int32)), (.ref a1)])) (fun _ qk => XS.iconst X167.here hx rfl (hb hby at_280) qk) ?_
      refine own_step (b := T167.setTop (mkF m 283 #[.val (.int p0), .val (.int p1), .val (.int p2), .val (.int p3), .val (.int p4), .val (.int (4 : Int32)), .val (.ref a1), .val (.ref a159), .val (.ref r166), .val (.int (0 : Int32)), .unset, .unset] [(.int (4 : Int32)), (.int (3 : Int32)), (.ref a1)])) (fun _ qk => XS.iload X167.here hx rfl (hb hby at_281) rfl qk) ?_
      refine own_staticP (W := 0) (argsL := [(.ref a1), (.int (3 : Int32)), (.int (4 : Int32))]) (st := []) X167 hx hZ hown (own_w hw 55 rfl) (own_w hw 56 rfl) (own_w hw 3 rfl) (own_w hw 57 rfl) (by decide) e167 (rmSol3 l Z a0 hw [] a1 k1 c0 c1 c2 c3 T166.heap V166 (4 : Int32) (by decide)) (by decide) (by decide) (by decide) (by decide) (by rw [hml]; rfl) (lenOf pd16 rfl) rfl (Nat.le_of_ble_eq_true rfl) (hb hby at_283) (fun T195 X195 e195 => ?_)
      show own_G p e below _ (T195.setTop (mkF m 286 #[.val (.int p0), .val (.int p1), .val (.int p2), .val (.int p3), .val (.int p4), .val (.int (4 : Int32)), .val (.ref a1), .val (.ref a159), .val (.ref r166), .val (.int (0 : Int32)), .unset, .unset] [(.int (own_bi (!own_bl c3)))]))
      refine own_if_eq X195 hx (hb hby at_286) (pc' := 293) (by decide) (by decide) (fun c286_196 => ?_) (fun c286_196 => ?_)
      · show own_G p e below _ (T195.setTop (mkF m 293 #[.val (.int p0), .val (.int p1), .val (.int p2), .val (.int p3), .val (.int p4), .val (.int (4 : Int32)), .val (.ref a1), .val (.ref a159), .val (.ref r166), .val (.int (0 : Int32)), .unset, .unset] []))
        have c286_196b : (!own_bl c3) = false := own_bi_f c286_196
        refine own_step (b := T195.setTop (mkF m 295 #[.val (.int p0), .val (.int p1), .val (.int p2), .val (.int p3), .val (.int p4), .val (.int (4 : Int32)), .val (.ref a1), .val (.ref a159), .val (.ref r166), .val (.int (0 : Int32)), .unset, .unset] [(.ref a1)])) (fun _ qk => XS.aload X195.here hx rfl (hb hby at_293) rfl rfl qk) ?_
        refine own_step (b := T195.setTop (mkF m 296 #[.val (.int p0), .val (.int p1), .val (.int p2), .val (.int p3), .val (.int p4), .val (.int (4 : Int32)), .val (.ref a1), .val (.ref a159), .val (.ref r166), .val (.int (0 : Int32)), .unset, .unset] [(.int (2 : Int32)), (.ref a1)])) (fun _ qk => XS.iconst X195.here hx rfl (hb hby at_295) qk) ?_
        refine own_step (b := T195.setTop (mkF m 298 #[.val (.int p0), .val (.int p1), .val (.int p2), .val (.int p3), .val (.int p4), .val (.int (4 : Int32)), .val (.ref a1), .val (.ref a159), .val (.ref r166), .val (.int (0 : Int32)), .unset, .unset] [(.int (4 : Int32)), (.int (2 : Int32)), (.ref a1)])) (fun _ qk => XS.iload X195.here hx rfl (hb hby at_296) rfl qk) ?_
        refine own_staticP (W := 0) (argsL := [(.ref a1), (.int (2 : Int32)), (.int (4 : Int32))]) (st := []) X195 hx hZ hown (own_w hw 55 rfl) (own_w hw 56 rfl) (own_w hw 3 rfl) (own_w hw 57 rfl) (by decide) e195 (rmSol2 l Z a0 hw [] a1 k1 c0 c1 c2 c3 T166.heap V166 (4 : Int32) (by decide)) (by decide) (by decide) (by decide) (by decide) (by rw [hml]; rfl) (lenOf pd16 rfl) rfl (Nat.le_of_ble_eq_true rfl) (hb hby at_298) (fun T197 X197 e197 => ?_)
        show own_G p e below _ (T197.setTop (mkF m 301 #[.val (.int p0), .val (.int p1), .val (.int p2), .val (.int p3), .val (.int p4), .val (.int (4 : Int32)), .val (.ref a1), .val (.ref a159), .val (.ref r166), .val (.int (0 : Int32)), .unset, .unset] [(.int (own_bi (!own_bl c2)))]))
        refine own_if_eq X197 hx (hb hby at_301) (pc' := 308) (by decide) (by decide) (fun c301_198 => ?_) (fun c301_198 => ?_)
        · show own_G p e below _ (T197.setTop (mkF m 308 #[.val (.int p0), .val (.int p1), .val (.int p2), .val (.int p3), .val (.int p4), .val (.int (4 : Int32)), .val (.ref a1), .val (.ref a159), .val (.ref r166), .val (.int (0 : Int32)), .unset, .unset] []))
          have c301_198b : (!own_bl c2) = false := own_bi_f c301_198
          refine own_step (b := T197.setTop (mkF m 310 #[.val (.int p0), .val (.int p1), .val (.int p2), .val (.int p3), .val (.int p4), .val (.int (4 : Int32)), .val (.ref a1), .val (.ref a159), .val (.ref r166), .val (.int (0 : Int32)), .unset, .unset] [(.ref a1)])) (fun _ qk => XS.aload X197.here hx rfl (hb hby at_308) rfl rfl qk) ?_
          refine own_step (b := T197.setTop (mkF m 311 #[.val (.int p0), .val (.int p1), .val (.int p2), .val (.int p3), .val (.int p4), .val (.int (4 : Int32)), .val (.ref a1), .val (.ref a159), .val (.ref r166), .val (.int (0 : Int32)), .unset, .unset] [(.int (1 : Int32)), (.ref a1)])) (fun _ qk => XS.iconst X197.here hx rfl (hb hby at_310) qk) ?_
          refine own_step (b := T197.setTop (mkF m 313 #[.val (.int p0), .val (.int p1), .val (.int p2), .val (.int p3), .val (.int p4), .val (.int (4 : Int32)), .val (.ref a1), .val (.ref a159), .val (.ref r166), .val (.int (0 : Int32)), .unset, .unset] [(.int (4 : Int32)), (.int (1 : Int32)), (.ref a1)])) (fun _ qk => XS.iload X197.here hx rfl (hb hby at_311) rfl qk) ?_
          refine own_staticP (W := 0) (argsL := [(.ref a1), (.int (1 : Int32)), (.int (4 : Int32))]) (st := []) X197 hx hZ hown (own_w hw 55 rfl) (own_w hw 56 rfl) (own_w hw 3 rfl) (own_w hw 57 rfl) (by decide) e197 (rmSol1 l Z a0 hw [] a1 k1 c0 c1 c2 c3 T166.heap V166 (4 : Int32) (by decide)) (by decide) (by decide) (by decide) (by decide) (by rw [hml]; rfl) (lenOf pd16 rfl) rfl (Nat.le_of_ble_eq_true rfl) (hb hby at_313) (fun T199 X199 e199 => ?_)
          show own_G p e below _ (T199.setTop (mkF m 316 #[.val (.int p0), .val (.int p1), .val (.int p2), .val (.int p3), .val (.int p4), .val (.int (4 : Int32)), .val (.ref a1), .val (.ref a159), .val (.ref r166), .val (.int (0 : Int32)), .unset, .unset] [(.int (own_bi (!own_bl c1)))]))
          refine own_if_eq X199 hx (hb hby at_316) (pc' := 323) (by decide) (by decide) (fun c316_200 => ?_) (fun c316_200 => ?_)
          · show own_G p e below _ (T199.setTop (mkF m 323 #[.val (.int p0), .val (.int p1), .val (.int p2), .val (.int p3), .val (.int p4), .val (.int (4 : Int32)), .val (.ref a1), .val (.ref a159), .val (.ref r166), .val (.int (0 : Int32)), .unset, .unset] []))
            have c316_200b : (!own_bl c1) = false := own_bi_f c316_200
            refine own_step (b := T199.setTop (mkF m 325 #[.val (.int p0), .val (.int p1), .val (.int p2), .val (.int p3), .val (.int p4), .val (.int (4 : Int32)), .val (.ref a1), .val (.ref a159), .val (.ref r166), .val (.int (0 : Int32)), .unset, .unset] [(.ref a1)])) (fun _ qk => XS.aload X199.here hx rfl (hb hby at_323) rfl rfl qk) ?_
            refine own_step (b := T199.setTop (mkF m 326 #[.val (.int p0), .val (.int p1), .val (.int p2), .val (.int p3), .val (.int p4), .val (.int (4 : Int32)), .val (.ref a1), .val (.ref a159), .val (.ref r166), .val (.int (0 : Int32)), .unset, .unset] [(.int (0 : Int32)), (.ref a1)])) (fun _ qk => XS.iconst X199.here hx rfl (hb hby at_325) qk) ?_
            refine own_step (b := T199.setTop (mkF m 328 #[.val (.int p0), .val (.int p1), .val (.int p2), .val (.int p3), .val (.int p4), .val (.int (4 : Int32)), .val (.ref a1), .val (.ref a159), .val (.ref r166), .val (.int (0 : Int32)), .unset, .unset] [(.int (4 : Int32)), (.int (0 : Int32)), (.ref a1)])) (fun _ qk => XS.iload X199.here hx rfl (hb hby at_326) rfl qk) ?_
            refine own_staticP (W := 0) (argsL := [(.ref a1), (.int (0 : Int32)), (.int (4 : Int32))]) (st := []) X199 hx hZ hown (own_w hw 55 rfl) (own_w hw 56 rfl) (own_w hw 3 rfl) (own_w hw 57 rfl) (by decide) e199 (rmSol0 l Z a0 hw [] a1 k1 c0 c1 c2 c3 T166.heap V166 (4 : Int32) (by decide)) (by decide) (by decide) (by decide) (by decide) (by rw [hml]; rfl) (lenOf pd16 rfl) rfl (Nat.le_of_ble_eq_true rfl) (hb hby at_328) (fun T201 X201 e201 => ?_)
            show own_G p e below _ (T201.setTop (mkF m 331 #[.val (.int p0), .val (.int p1), .val (.int p2), .val (.int p3), .val (.int p4), .val (.int (4 : Int32)), .val (.ref a1), .val (.ref a159), .val (.ref r166), .val (.int (0 : Int32)), .unset, .unset] [(.int (own_bi (!own_bl c0)))]))
            refine own_if_eq X201 hx (hb hby at_331) (pc' := 338) (by decide) (by decide) (fun c331_202 => absurd c331_202 (by rw [c222_168b]; decide)) (fun c331_202 => ?_)
            show own_G p e below _ (T201.setTop (mkF m 334 #[.val (.int p0), .val (.int p1), .val (.int p2), .val (.int p3), .val (.int p4), .val (.int (4 : Int32)), .val (.ref a1), .val (.ref a159), .val (.ref r166), .val (.int (0 : Int32)), .unset, .unset] []))
            refine own_step (b := T201.setTop (mkF m 335 #[.val (.int p0), .val (.int p1), .val (.int p2), .val (.int p3), .val (.int p4), .val (.int (4 : Int32)), .val (.ref a1), .val (.ref a159), .val (.ref r166), .val (.int (0 : Int32)), .unset, .unset] [(.int (1 : Int32))])) (fun _ qk => XS.iconst X201.here hx rfl (hb hby at_334) qk) ?_
            refine own_step (b := T201.setTop (mkF m 340 #[.val (.int p0), .val (.int p1), .val (.int p2), .val (.int p3), .val (.int p4), .val (.int (4 : Int32)), .val (.ref a1), .val (.ref a159), .val (.ref r166), .val (.int (0 : Int32)), .unset, .unset] [(.int (1 : Int32))])) (fun _ qk => XS.goto X201.here hx rfl (pc0 := 335) (pc' := 340) rfl (hb hby at_335) (by decide) (by decide) qk) ?_
            refine own_step (b := T201.setTop (mkF m 342 #[.val (.int p0), .val (.int p1), .val (.int p2), .val (.int p3), .val (.int p4), .val (.int (4 : Int32)), .val (.ref a1), .val (.ref a159), .val (.ref r166), .val (.int (0 : Int32)), .val (.int (1 : Int32)), .unset] [])) (fun _ qk => XS.istore X201.here hx rfl (hb hby at_340) rfl (l' := #[.val (.int p0), .val (.int p1), .val (.int p2), .val (.int p3), .val (.int p4), .val (.int (4 : Int32)), .val (.ref a1), .val (.ref a159), .val (.ref r166), .val (.int (0 : Int32)), .val (.int (1 : Int32)), .unset]) rfl qk) ?_
            have c222_168bn := c222_168b
            simp only [Bool.not_eq_true', Bool.not_eq_false'] at c222_168bn
            have c286_196bn := c286_196b
            simp only [Bool.not_eq_true', Bool.not_eq_false'] at c286_196bn
            have c301_198bn := c301_198b
            simp only [Bool.not_eq_true', Bool.not_eq_false'] at c301_198bn
            have c316_200bn := c316_200b
            simp only [Bool.not_eq_true', Bool.not_eq_false'] at c316_200bn
            refine J T201 _ _ _ r166 a159 _ 0 1 [c0] (X201.more (by decide) (by decide)) hS (by rw [show T201.heap = T166.heap from e201]; omega) hZ hown N166 (by rw [show T201.heap = T166.heap from e201]; exact OL166) (by rw [show T201.heap = T166.heap from e201]; exact V166) ?_ (by decide) (by decide) rfl ?_
            · rw [show T201.heap = T166.heap from e201]; have q := SR166; rw [show own_strip [c0, c1, c2, c3] = [c0] by simp [own_strip, List.dropWhile, c222_168bn, c286_196bn, c301_198bn, c316_200bn]] at q; exact q
            · intro q hq; have hq' : q < 1 := hq; exact match q, hq' with | 0, _ => rfl | q + 1, h_ => absurd h_ (by omega)
          · show own_G p e below _ (T199.setTop (mkF m 319 #[.val (.int p0), .val (.int p1), .val (.int p2), .val (.int p3), .val (.int p4), .val (.int (4 : Int32)), .val (.ref a1), .val (.ref a159), .val (.ref r166), .val (.int (0 : Int32)), .unset, .unset] []))
            have c316_200b : (!own_bl c1) = true := own_bi_t c316_200
            refine own_step (b := T199.setTop (mkF m 320 #[.val (.int p0), .val (.int p1), .val (.int p2), .val (.int p3), .val (.int p4), .val (.int (4 : Int32)), .val (.ref a1), .val (.ref a159), .val (.ref r166), .val (.int (0 : Int32)), .unset, .unset] [(.int (2 : Int32))])) (fun _ qk => XS.iconst X199.here hx rfl (hb hby at_319) qk) ?_
            refine own_step (b := T199.setTop (mkF m 340 #[.val (.int p0), .val (.int p1), .val (.int p2), .val (.int p3), .val (.int p4), .val (.int (4 : Int32)), .val (.ref a1), .val (.ref a159), .val (.ref r166), .val (.int (0 : Int32)), .unset, .unset] [(.int (2 : Int32))])) (fun _ qk => XS.goto X199.here hx rfl (pc0 := 320) (pc' := 340) rfl (hb hby at_320) (by decide) (by decide) qk) ?_
            refine own_step (b := T199.setTop (mkF m 342 #[.val (.int p0), .val (.int p1), .val (.int p2), .val (.int p3), .val (.int p4), .val (.int (4 : Int32)), .val (.ref a1), .val (.ref a159), .val (.ref r166), .val (.int (0 : Int32)), .val (.int (2 : Int32)), .unset] [])) (fun _ qk => XS.istore X199.here hx rfl (hb hby at_340) rfl (l' := #[.val (.int p0), .val (.int p1), .val (.int p2), .val (.int p3), .val (.int p4), .val (.int (4 : Int32)), .val (.ref a1), .val (.ref a159), .val (.ref r166), .val (.int (0 : Int32)), .val (.int (2 : Int32)), .unset]) rfl qk) ?_
            have c222_168bn := c222_168b
            simp only [Bool.not_eq_true', Bool.not_eq_false'] at c222_168bn
            have c286_196bn := c286_196b
            simp only [Bool.not_eq_true', Bool.not_eq_false'] at c286_196bn
            have c301_198bn := c301_198b
            simp only [Bool.not_eq_true', Bool.not_eq_false'] at c301_198bn
            have c316_200bn := c316_200b
            simp only [Bool.not_eq_true', Bool.not_eq_false'] at c316_200bn
            refine J T199 _ _ _ r166 a159 _ 0 2 [c0, c1] (X199.more (by decide) (by decide)) hS (by rw [show T199.heap = T166.heap from e199]; omega) hZ hown N166 (by rw [show T199.heap = T166.heap from e199]; exact OL166) (by rw [show T199.heap = T166.heap from e199]; exact V166) ?_ (by decide) (by decide) rfl ?_
            · rw [show T199.heap = T166.heap from e199]; have q := SR166; rw [show own_strip [c0, c1, c2, c3] = [c0, c1] by simp [own_strip, List.dropWhile, c222_168bn, c286_196bn, c301_198bn, c316_200bn]] at q; exact q
            · intro q hq; have hq' : q < 2 := hq; exact match q, hq' with | 0, _ => rfl | 1, _ => rfl | q + 2, h_ => absurd h_ (by omega)
        · show own_G p e below _ (T197.setTop (mkF m 304 #[.val (.int p0), .val (.int p1), .val (.int p2), .val (.int p3), .val (.int p4), .val (.int (4 : Int32)), .val (.ref a1), .val (.ref a159), .val (.ref r166), .val (.int (0 : Int32)), .unset, .unset] []))
          have c301_198b : (!own_bl c2) = true := own_bi_t c301_198
          refine own_step (b := T197.setTop (mkF m 305 #[.val (.int p0), .val (.int p1), .val (.int p2), .val (.int p3), .val (.int p4), .val (.int (4 : Int32)), .val (.ref a1), .val (.ref a159), .val (.ref r166), .val (.int (0 : Int32)), .unset, .unset] [(.int (3 : Int32))])) (fun _ qk => XS.iconst X197.here hx rfl (hb hby at_304) qk) ?_
          refine own_step (b := T197.setTop (mkF m 340 #[.val (.int p0), .val (.int p1), .val (.int p2), .val (.int p3), .val (.int p4), .val (.int (4 : Int32)), .val (.ref a1), .val (.ref a159), .val (.ref r166), .val (.int (0 : Int32)), .unset, .unset] [(.int (3 : Int32))])) (fun _ qk => XS.goto X197.here hx rfl (pc0 := 305) (pc' := 340) rfl (hb hby at_305) (by decide) (by decide) qk) ?_
          refine own_step (b := T197.setTop (mkF m 342 #[.val (.int p0), .val (.int p1), .val (.int p2), .val (.int p3), .val (.int p4), .val (.int (4 : Int32)), .val (.ref a1), .val (.ref a159), .val (.ref r166), .val (.int (0 : Int32)), .val (.int (3 : Int32)), .unset] [])) (fun _ qk => XS.istore X197.here hx rfl (hb hby at_340) rfl (l' := #[.val (.int p0), .val (.int p1), .val (.int p2), .val (.int p3), .val (.int p4), .val (.int (4 : Int32)), .val (.ref a1), .val (.ref a159), .val (.ref r166), .val (.int (0 : Int32)), .val (.int (3 : Int32)), .unset]) rfl qk) ?_
          have c222_168bn := c222_168b
          simp only [Bool.not_eq_true', Bool.not_eq_false'] at c222_168bn
          have c286_196bn := c286_196b
          simp only [Bool.not_eq_true', Bool.not_eq_false'] at c286_196bn
          have c301_198bn := c301_198b
          simp only [Bool.not_eq_true', Bool.not_eq_false'] at c301_198bn
          refine J T197 _ _ _ r166 a159 _ 0 3 [c0, c1, c2] (X197.more (by decide) (by decide)) hS (by rw [show T197.heap = T166.heap from e197]; omega) hZ hown N166 (by rw [show T197.heap = T166.heap from e197]; exact OL166) (by rw [show T197.heap = T166.heap from e197]; exact V166) ?_ (by decide) (by decide) rfl ?_
          · rw [show T197.heap = T166.heap from e197]; have q := SR166; rw [show own_strip [c0, c1, c2, c3] = [c0, c1, c2] by simp [own_strip, List.dropWhile, c222_168bn, c286_196bn, c301_198bn]] at q; exact q
          · intro q hq; have hq' : q < 3 := hq; exact match q, hq' with | 0, _ => rfl | 1, _ => rfl | 2, _ => rfl | q + 3, h_ => absurd h_ (by omega)
      · show own_G p e below _ (T195.setTop (mkF m 289 #[.val (.int p0), .val (.int p1), .val (.int p2), .val (.int p3), .val (.int p4), .val (.int (4 : Int32)), .val (.ref a1), .val (.ref a159), .val (.ref r166), .val (.int (0 : Int32)), .unset, .unset] []))
        have c286_196b : (!own_bl c3) = true := own_bi_t c286_196
        refine own_step (b := T195.setTop (mkF m 290 #[.val (.int p0), .val (.int p1), .val (.int p2), .val (.int p3), .val (.int p4), .val (.int (4 : Int32)), .val (.ref a1), .val (.ref a159), .val (.ref r166), .val (.int (0 : Int32)), .unset, .unset] [(.int (4 : Int32))])) (fun _ qk => XS.iconst X195.here hx rfl (hb hby at_289) qk) ?_
        refine own_step (b := T195.setTop (mkF m 340 #[.val (.int p0), .val (.int p1), .val (.int p2), .val (.int p3), .val (.int p4), .val (.int (4 : Int32)), .val (.ref a1), .val (.ref a159), .val (.ref r166), .val (.int (0 : Int32)), .unset, .unset] [(.int (4 : Int32))])) (fun _ qk => XS.goto X195.here hx rfl (pc0 := 290) (pc' := 340) rfl (hb hby at_290) (by decide) (by decide) qk) ?_
        refine own_step (b := T195.setTop (mkF m 342 #[.val (.int p0), .val (.int p1), .val (.int p2), .val (.int p3), .val (.int p4), .val (.int (4 : Int32)), .val (.ref a1), .val (.ref a159), .val (.ref r166), .val (.int (0 : Int32)), .val (.int (4 : Int32)), .unset] [])) (fun _ qk => XS.istore X195.here hx rfl (hb hby at_340) rfl (l' := #[.val (.int p0), .val (.int p1), .val (.int p2), .val (.int p3), .val (.int p4), .val (.int (4 : Int32)), .val (.ref a1), .val (.ref a159), .val (.ref r166), .val (.int (0 : Int32)), .val (.int (4 : Int32)), .unset]) rfl qk) ?_
        have c222_168bn := c222_168b
        simp only [Bool.not_eq_true', Bool.not_eq_false'] at c222_168bn
        have c286_196bn := c286_196b
        simp only [Bool.not_eq_true', Bool.not_eq_false'] at c286_196bn
        refine J T195 _ _ _ r166 a159 _ 0 4 [c0, c1, c2, c3] (X195.more (by decide) (by decide)) hS (by rw [show T195.heap = T166.heap from e195]; omega) hZ hown N166 (by rw [show T195.heap = T166.heap from e195]; exact OL166) (by rw [show T195.heap = T166.heap from e195]; exact V166) ?_ (by decide) (by decide) rfl ?_
        · rw [show T195.heap = T166.heap from e195]; have q := SR166; rw [show own_strip [c0, c1, c2, c3] = [c0, c1, c2, c3] by simp [own_strip, List.dropWhile, c222_168bn, c286_196bn]] at q; exact q
        · intro q hq; have hq' : q < 4 := hq; exact match q, hq' with | 0, _ => rfl | 1, _ => rfl | 2, _ => rfl | 3, _ => rfl | q + 4, h_ => absurd h_ (by omega)
theorem comes_1 {Post : Tables → Env → Array Value → State → Outcome → State → Prop} (hpost : ∀ tb e args s v u, (limb_1_1.after args s (.returned v) u = true ∧ limb_1_2.after args s (.returned v) u = true ∧ True) → ReturnedEndW s (.returned v) u (Jvm.fieldLocs frame_1_writes args s ++ Jvm.arrayLocs frame_1_arrays args s ++ Jvm.staticLocs frame_1_statics s) 24 2176 → Post tb e args s (.returned v) u) :
    ArmFor flags0 classFile x code maxLocals ret World_1 tables_1 room_1 Calls_1 rest_1 Pre_1 Post := by
  intro l hfl _ _ p e ha hc hk s m args below hf hA hF happ hP
  obtain ⟨hcalls, hrest, hpre⟩ := hP
  obtain ⟨-, -, -, hnamed, -, -, -, hat⟩ := (Spec.applies_iff hf).mp happ
  obtain ⟨hg, hn⟩ := and_e (Cond.before_iff.mp (show (Jvm.Cond.and given_1 narrow_1).before args s = true from hpre))
  obtain ⟨hcnt, q0⟩ := and_e hg
  obtain ⟨i0, q1⟩ := and_e q0
  obtain ⟨i1, q2⟩ := and_e q1
  obtain ⟨i2, q3⟩ := and_e q2
  obtain ⟨i3, q4⟩ := and_e q3
  have i4 := q4
  obtain ⟨w0, w1, w2, w3, w4, rfl⟩ : ∃ w0 w1 w2 w3 w4 : Value, args = #[w0, w1, w2, w3, w4] := by
    have hs : args.size = 5 := by simpa [Cond.value, given_1] using hcnt
    obtain ⟨L⟩ := args
    match L, hs with
    | [w0, w1, w2, w3, w4], _ => exact ⟨w0, w1, w2, w3, w4, rfl⟩
  have hw := fun d (hd : d ∈ tables_1) => atoms_spec (ws := Jvm.Cond.code x code maxLocals ret :: tables_1) hat d (List.mem_cons_of_mem _ hd)
  obtain ⟨hsets, hown0⟩ := atoms_of _ (rest_1_c_eq ▸ (show rest_1_c.before _ s = true from hrest))
  have hfit : Fit s := fun {y c} hc i hi => by
    obtain ⟨ha, rfl⟩ := Array.getElem?_eq_some_iff.mp hc
    have q := List.all_eq_true.mp ((Array.all_eq_true_iff_forall_mem.mp hF) _ (Array.getElem_mem ha)) i (List.mem_range.mpr hi)
    simpa [Array.getElem?_eq_getElem hi] using q
  obtain ⟨j0, e0⟩ := is_v i0
  obtain rfl : w0 = (.int j0) := Option.some.inj e0
  obtain ⟨j1, e1⟩ := is_v i1
  obtain rfl : w1 = (.int j1) := Option.some.inj e1
  obtain ⟨j2, e2⟩ := is_v i2
  obtain rfl : w2 = (.int j2) := Option.some.inj e2
  obtain ⟨j3, e3⟩ := is_v i3
  obtain rfl : w3 = (.int j3) := Option.some.inj e3
  obtain ⟨j4, e4⟩ := is_v i4
  obtain rfl : w4 = (.int j4) := Option.some.inj e4
  have n5 := not_v (Cond.before_iff.mp (hsets _ (List.mem_of_getElem? (i := 2) rfl)))
  obtain ⟨G1, eG1⟩ := is_v (Cond.before_iff.mp (hsets _ (List.mem_of_getElem? (i := 1) rfl)))
  have O2 : Sta s s.heap "java/lang/String" "COMPACT_STRINGS" "Z" (.int G1) := Sta.start eG1 (Or.inl (hsets _ (List.mem_of_getElem? (i := 0) rfl)))
  have P5 : ¬ (G1 = (0 : Int32)) := gotF (Cond.eq_ints eG1 (Term.int_eval (0))) n5
  obtain ⟨G3, eG3, rG3⟩ := isR_v (Cond.before_iff.mp (hsets _ (List.mem_of_getElem? (i := 8) rfl)))
  have O4 : Sta s s.heap "jdk/internal/util/Preconditions" "SIOOBE_FORMATTER" "Ljava/util/function/BiFunction;" G3 := Sta.start eG3 (Or.inl (hsets _ (List.mem_of_getElem? (i := 7) rfl)))
  have HC : Jvm.Lit.compactW.before _ s = true := hsets _ (List.mem_of_getElem? (i := 2) rfl)
  have CH : Jvm.Lit.constHeld s "java/lang/String" 7 := hcalls.1 _ (List.mem_of_getElem? (i := 0) rfl)
  have CH1 : Jvm.Lit.constHeld s "java/lang/StringLatin1" 151 := hcalls.1 _ (List.mem_of_getElem? (i := 1) rfl)
  obtain ⟨n, o, h1, h2, h3, _, L, rfl, ⟨rfl, N⟩, hq⟩ := rm0 l s _ hw tables_1 j0 j1 j2 j3 j4 s.heap G1 O2 P5 G3 O4 rG3 (Old.start s) CH CH1 HC p e ha hc hk s m _ below hf ((Spec.applies_iff_loose hf).mp happ).1 ⟨rfl, State.Warmed39.refl s, rfl, IB.start⟩ trivial
  refine ⟨n, _, h1, h2, h3, hpost _ _ _ _ _ _ ⟨Cond.after_iff.mpr rfl, Cond.after_iff.mpr (eq_i res_at (Term.int_eval (1)) rfl), trivial⟩ ⟨hq.1, hq.2.1, hq.2.2.1, (hq.2.2.2.sift fun y hy => Or.inr (N y hy)).mono (by decide) (by decide)⟩⟩
theorem main_1_1 : Claimed_1_1 := comes_1 fun _ _ _ _ _ _ h hF => ⟨h.1, hF⟩
theorem main_1_2 : Claimed_1_2 := comes_1 fun _ _ _ _ _ _ h hF => ⟨h.2.1, hF⟩
end Jvm.Pilot.@@N@@
namespace Jvm.Pilot.@@N@@
open Jvm Jvm.ClassFile Sem Op Lib Jvm.Free Jvm.Stand Jvm.Pilot.@@N@@.Jvm.D
/-! MADE BY PROGRAM (witnessworld.py) out of the Statement's table words and the real class files: 23 classes; the members and pool entries that the words name. The judged class is class 1, her method 4. -/
namespace start1
open Jvm.ClassFile
def u (s : String) : CpInfo := .utf8 (stringToUtf16 s)
/-- a pool by its gaps: so many unusable entries, then the entry; so many at the end -/
def gap : Nat → List CpInfo → List CpInfo
  | 0, r => r
  | n + 1, r => .unusable :: gap n r
def poolList (es : List (Nat × CpInfo)) (last : Nat) : List CpInfo := es.foldr (fun e r => gap e.1 (e.2 :: r)) (gap last [])
def pool (es : List (Nat × CpInfo)) (last : Nat) : Array CpInfo := ⟨poolList es last⟩
def fileOf (pool : Array CpInfo) (this : Nat) (attrs : Array Attribute := #[]) (ms : Array MethodInfo := #[]) (fl : Nat := 33) (sup : Nat := 0) (ifs : Array Nat := #[]) (fds : Array FieldInfo := #[]) : ClassFile where
  minorVersion := 0
  majorVersion := 65
  constantPool := pool
  accessFlags := fl
  thisClass := this
  superClass := sup
  interfaces := ifs
  fields := fds
  methods := ms
  attributes := attrs
def plain (name : String) (sup : Option ClassId) : Class where
  name := name
  kind := .ordinary
  loader := none
  accessFlags := 33
  super := sup
  interfaces := #[]
  cf := none
  fields := #[]
  methods := #[]
  instanceTypes := #[]
  staticTypes := #[]
  resolved := #[]
  callSites := []
  init := .initialized
  statics := none
  mirror := none

def pool0 : Array CpInfo := pool [(5, u "<init>"), (0, u "()V"), (1, .class_ 10), (1, u "java/lang/Object")] 113

def k0c0 : Code := { maxStack := 0, maxLocals := 1, code := object_method_1_code, exceptionTable := #[], attributes := #[] }
def k0m0 : Method := { name := "<init>", desc := "()V", sig := { parameters := [], returnType := none }, accessFlags := 1, code := some k0c0 }
/-- java/lang/Object -/
def k0 : Class := { plain "java/lang/Object" none with
  accessFlags := 33
  interfaces := #[]
  cf := some (fileOf pool0 8 #[] #[{ accessFlags := 1, nameIndex := 5, descriptorIndex := 6, attributes := #[] }] 33 0 #[] #[])
  fields := #[]
  methods := #[k0m0]
  instanceTypes := #[]
  staticTypes := #[]
  resolved := Array.replicate 124 none
  statics := none }

def pool1 : Array CpInfo := pool [(2, .class_ 4), (1, u "java/lang/Object"), (0, u "<init>"), (0, u "()V"), (0, .methodref 8 9), (0, .class_ 10), (0, .nameAndType 11 12), (0, u "java/lang/String"), (0, u "charAt"), (0, u "(I)C"), (0, .methodref 14 15), (0, .class_ 16), (0, .nameAndType 17 12), (0, u "com/example/pennant/pennant/TrlStripBlanksPinLaw"), (0, u "draw"), (0, .methodref 8 19), (0, .nameAndType 5 20), (0, u "([C)V"), (0, .methodref 22 23), (0, .class_ 24), (0, .nameAndType 25 26), (0, u "com/example/pennant/pennant/Trl"), (0, u "stripBlanks"), (0, u "(Ljava/lang/String;)Ljava/lang/String;"), (0, .methodref 14 28), (0, .nameAndType 29 30), (0, u "solid"), (0, u "([CII)Z"), (0, .methodref 8 32), (0, .nameAndType 33 34), (0, u "length"), (0, u "()I"), (0, .methodref 14 36), (0, .nameAndType 37 38), (0, u "at"), (0, u "(Ljava/lang/String;II[CI)Z"), (3, u "law"), (0, u "(IIIII)Z")] 4

def k1m0 : Method := { name := "<init>", desc := "()V", sig := { parameters := [], returnType := none }, accessFlags := 1, code := none }
def k1c1 : Code := { maxStack := 2, maxLocals := 2, code := method_2_code, exceptionTable := #[], attributes := #[] }
def k1m1 : Method := { name := "draw", desc := "(I)C", sig := { parameters := [.int], returnType := some .char }, accessFlags := 10, code := some k1c1 }
def k1c2 : Code := { maxStack := 2, maxLocals := 3, code := method_3_code, exceptionTable := #[], attributes := #[] }
def k1m2 : Method := { name := "solid", desc := "([CII)Z", sig := { parameters := [(.array .char), .int, .int], returnType := some .boolean }, accessFlags := 10, code := some k1c2 }
def k1c3 : Code := { maxStack := 4, maxLocals := 5, code := method_4_code, exceptionTable := #[], attributes := #[] }
def k1m3 : Method := { name := "at", desc := "(Ljava/lang/String;II[CI)Z", sig := { parameters := [(.object "java/lang/String"), .int, .int, (.array .char), .int], returnType := some .boolean }, accessFlags := 10, code := some k1c3 }
def k1c4 : Code := { maxStack := 7, maxLocals := 12, code := code, exceptionTable := #[], attributes := #[] }
def k1m4 : Method := { name := "law", desc := "(IIIII)Z", sig := { parameters := [.int, .int, .int, .int, .int], returnType := some .boolean }, accessFlags := 9, code := some k1c4 }
/-- com/example/pennant/pennant/TrlStripBlanksPinLaw -/
def k1 : Class := { plain "com/example/pennant/pennant/TrlStripBlanksPinLaw" (some 0) with
  accessFlags := 49
  interfaces := #[]
  cf := some (fileOf pool1 14 #[] #[{ accessFlags := 1, nameIndex := 5, descriptorIndex := 6, attributes := #[] }, { accessFlags := 10, nameIndex := 17, descriptorIndex := 12, attributes := #[] }, { accessFlags := 10, nameIndex := 29, descriptorIndex := 30, attributes := #[] }, { accessFlags := 10, nameIndex := 37, descriptorIndex := 38, attributes := #[] }, { accessFlags := 9, nameIndex := 42, descriptorIndex := 43, attributes := #[] }] 49 2 #[] #[])
  fields := #[]
  methods := #[k1m0, k1m1, k1m2, k1m3, k1m4]
  instanceTypes := #[]
  staticTypes := #[]
  resolved := Array.replicate 48 none
  statics := none }

def pool2 : Array CpInfo := pool [(1, .class_ 2), (0, u "java/io/Serializable"), (0, .class_ 4), (0, u "java/lang/Object")] 2

/-- java/io/Serializable -/
def k2 : Class := { plain "java/io/Serializable" (some 0) with
  accessFlags := 1537
  interfaces := #[]
  cf := some (fileOf pool2 1 #[] #[] 1537 3 #[] #[])
  fields := #[]
  methods := #[]
  instanceTypes := #[]
  staticTypes := #[]
  resolved := Array.replicate 7 none
  statics := none }

def pool3 : Array CpInfo := pool [(1, .class_ 2), (0, u "java/lang/Comparable"), (0, .class_ 4), (0, u "java/lang/Object")] 7

/-- java/lang/Comparable -/
def k3 : Class := { plain "java/lang/Comparable" (some 0) with
  accessFlags := 1537
  interfaces := #[]
  cf := some (fileOf pool3 1 #[] #[] 1537 3 #[] #[])
  fields := #[]
  methods := #[]
  instanceTypes := #[]
  staticTypes := #[]
  resolved := Array.replicate 12 none
  statics := none }

def pool4 : Array CpInfo := pool [(2, .class_ 4), (1, u "java/lang/CharSequence"), (42, .class_ 48), (0, u "java/lang/CharSequence$1CodePointIterator"), (10, .class_ 60), (0, u "java/lang/CharSequence$1CharIterator"), (5, .class_ 67), (0, u "java/lang/Object")] 63

/-- java/lang/CharSequence -/
def k4 : Class := { plain "java/lang/CharSequence" (some 0) with
  accessFlags := 1537
  interfaces := #[]
  cf := some (fileOf pool4 2 #[.nestMembers #[47, 59]] #[] 1537 66 #[] #[])
  fields := #[]
  methods := #[]
  instanceTypes := #[]
  staticTypes := #[]
  resolved := Array.replicate 131 none
  statics := none }

def pool5 : Array CpInfo := pool [(1, .class_ 2), (0, u "java/lang/constant/Constable"), (0, .class_ 4), (0, u "java/lang/Object")] 6

/-- java/lang/constant/Constable -/
def k5 : Class := { plain "java/lang/constant/Constable" (some 0) with
  accessFlags := 1537
  interfaces := #[]
  cf := some (fileOf pool5 1 #[] #[] 1537 3 #[] #[])
  fields := #[]
  methods := #[]
  instanceTypes := #[]
  staticTypes := #[]
  resolved := Array.replicate 11 none
  statics := none }

def pool6 : Array CpInfo := pool [(1, .class_ 2), (0, u "java/lang/constant/ConstantDesc"), (0, .class_ 4), (0, u "java/lang/Object")] 32

/-- java/lang/constant/ConstantDesc -/
def k6 : Class := { plain "java/lang/constant/ConstantDesc" (some 0) with
  accessFlags := 1537
  interfaces := #[]
  cf := some (fileOf pool6 1 #[] #[] 1537 3 #[] #[])
  fields := #[]
  methods := #[]
  instanceTypes := #[]
  staticTypes := #[]
  resolved := Array.replicate 37 none
  statics := none }

def pool7 : Array CpInfo := pool [(1, .methodref 2 3), (0, .class_ 4), (0, .nameAndType 5 6), (0, u "java/lang/Object"), (0, u "<init>"), (0, u "()V"), (0, .string 8), (0, u ""), (0, .fieldref 10 11), (0, .class_ 12), (0, .nameAndType 13 14), (0, u "java/lang/String"), (0, u "value"), (0, u "[B"), (0, .fieldref 10 16), (0, .nameAndType 17 18), (0, u "coder"), (0, u "B"), (2, u "hash"), (0, u "I"), (2, u "hashIsZero"), (0, u "Z"), (0, .methodref 10 28), (0, .nameAndType 5 29), (0, u "([CIILjava/lang/Void;)V"), (8, .fieldref 10 39), (0, .nameAndType 40 26), (0, u "COMPACT_STRINGS"), (1, .class_ 44), (1, u "java/lang/StringUTF16"), (0, u "compress"), (1, .methodref 42 48), (0, .nameAndType 49 50), (0, u "coderFromArrayLen"), (0, u "([BI)B"), (56, .class_ 109), (1, u "java/lang/StringLatin1"), (32, u "()Z"), (34, .methodref 42 178), (0, .nameAndType 45 179), (0, u "([CII)[B"), (31, u "([BB)V"), (122, u "()I"), (0, .methodref 10 336), (0, .nameAndType 17 337), (0, u "()B"), (25, u "([BI)C"), (27, u "(II)V"), (35, u "(I)C"), (64, .methodref 10 493), (0, .nameAndType 494 142), (0, u "isLatin1"), (0, .methodref 107 496), (0, .nameAndType 497 363), (0, u "charAt"), (3, u "checkIndex"), (3, .methodref 10 506), (0, .nameAndType 507 334), (0, u "length"), (5, u "checkFromToIndex"), (7, .methodref 10 522), (0, .nameAndType 523 524), (0, u "checkBoundsBeginEnd"), (0, u "(III)V"), (50, .class_ 576), (0, u "java/lang/CharSequence"), (22, u "CASE_INSENSITIVE_ORDER"), (0, u "Ljava/util/Comparator;"), (82, u "substring"), (0, u "(II)Ljava/lang/String;"), (0, .methodref 107 686), (0, .nameAndType 687 688), (0, u "newString"), (0, u "([BII)Ljava/lang/String;"), (321, u "([C)V"), (42, .fieldref 1054 1055), (0, .class_ 1056), (0, .nameAndType 1057 1058), (0, u "jdk/internal/util/Preconditions"), (0, u "SIOOBE_FORMATTER"), (0, u "Ljava/util/function/BiFunction;"), (0, .methodref 1054 1060), (0, .nameAndType 501 1061), (0, u "(IILjava/util/function/BiFunction;)I"), (0, .methodref 1054 1063), (0, .nameAndType 513 1064), (0, u "(IIILjava/util/function/BiFunction;)I"), (36, u "serialPersistentFields"), (0, u "[Ljava/io/ObjectStreamField;"), (0, .class_ 1104), (0, u "java/lang/String$CaseInsensitiveComparator"), (1, .class_ 1107), (0, u "java/io/Serializable"), (0, .class_ 1109), (0, u "java/lang/Comparable"), (0, .class_ 1111), (0, u "java/lang/constant/Constable"), (0, .class_ 1113), (0, u "java/lang/constant/ConstantDesc"), (2, u "serialVersionUID"), (0, u "J"), (3, u "REPL"), (0, u "C"), (2, u "LATIN1"), (1, u "UTF16")] 323

def k7m0 : Method := { name := "<init>", desc := "()V", sig := { parameters := [], returnType := none }, accessFlags := 1, code := none }
def k7c1 : Code := { maxStack := 5, maxLocals := 2, code := jdk_42_method_3_code, exceptionTable := #[], attributes := #[] }
def k7m1 : Method := { name := "<init>", desc := "([C)V", sig := { parameters := [(.array .char)], returnType := none }, accessFlags := 1, code := some k7c1 }
def k7c2 : Code := { maxStack := 2, maxLocals := 1, code := jdk_42_method_54_code, exceptionTable := #[], attributes := #[] }
def k7m2 : Method := { name := "length", desc := "()I", sig := { parameters := [], returnType := some .int }, accessFlags := 1, code := some k7c2 }
def k7c3 : Code := { maxStack := 2, maxLocals := 2, code := jdk_42_method_56_code, exceptionTable := #[], attributes := #[] }
def k7m3 : Method := { name := "charAt", desc := "(I)C", sig := { parameters := [.int], returnType := some .char }, accessFlags := 1, code := some k7c3 }
def k7c4 : Code := { maxStack := 3, maxLocals := 5, code := jdk_42_method_92_code, exceptionTable := #[], attributes := #[] }
def k7m4 : Method := { name := "substring", desc := "(II)Ljava/lang/String;", sig := { parameters := [.int, .int], returnType := some (.object "java/lang/String") }, accessFlags := 1, code := some k7c4 }
def k7c5 : Code := { maxStack := 4, maxLocals := 6, code := jdk_42_method_149_code, exceptionTable := #[], attributes := #[] }
def k7m5 : Method := { name := "<init>", desc := "([CIILjava/lang/Void;)V", sig := { parameters := [(.array .char), .int, .int, (.object "java/lang/Void")], returnType := none }, accessFlags := 2, code := some k7c5 }
def k7c6 : Code := { maxStack := 2, maxLocals := 3, code := jdk_42_method_151_code, exceptionTable := #[], attributes := #[] }
def k7m6 : Method := { name := "<init>", desc := "([BB)V", sig := { parameters := [(.array .byte), .byte], returnType := none }, accessFlags := 0, code := some k7c6 }
def k7c7 : Code := { maxStack := 1, maxLocals := 1, code := jdk_42_method_152_code, exceptionTable := #[], attributes := #[] }
def k7m7 : Method := { name := "coder", desc := "()B", sig := { parameters := [], returnType := some .byte }, accessFlags := 0, code := some k7c7 }
def k7c8 : Code := { maxStack := 1, maxLocals := 1, code := jdk_42_method_154_code, exceptionTable := #[], attributes := #[] }
def k7m8 : Method := { name := "isLatin1", desc := "()Z", sig := { parameters := [], returnType := some .boolean }, accessFlags := 0, code := some k7c8 }
def k7c9 : Code := { maxStack := 3, maxLocals := 2, code := jdk_42_method_155_code, exceptionTable := #[], attributes := #[] }
def k7m9 : Method := { name := "checkIndex", desc := "(II)V", sig := { parameters := [.int, .int], returnType := none }, accessFlags := 8, code := some k7c9 }
def k7c10 : Code := { maxStack := 4, maxLocals := 3, code := jdk_42_method_158_code, exceptionTable := #[], attributes := #[] }
def k7m10 : Method := { name := "checkBoundsBeginEnd", desc := "(III)V", sig := { parameters := [.int, .int, .int], returnType := none }, accessFlags := 8, code := some k7c10 }
/-- java/lang/String -/
def k7 : Class := { plain "java/lang/String" (some 0) with
  accessFlags := 49
  interfaces := #[2, 3, 4, 5, 6]
  cf := some (fileOf pool7 10 #[.nestMembers #[1103]] #[{ accessFlags := 1, nameIndex := 5, descriptorIndex := 6, attributes := #[] }, { accessFlags := 1, nameIndex := 5, descriptorIndex := 1010, attributes := #[] }, { accessFlags := 1, nameIndex := 507, descriptorIndex := 334, attributes := #[] }, { accessFlags := 1, nameIndex := 497, descriptorIndex := 427, attributes := #[] }, { accessFlags := 1, nameIndex := 683, descriptorIndex := 684, attributes := #[] }, { accessFlags := 2, nameIndex := 5, descriptorIndex := 29, attributes := #[] }, { accessFlags := 0, nameIndex := 5, descriptorIndex := 211, attributes := #[] }, { accessFlags := 0, nameIndex := 17, descriptorIndex := 337, attributes := #[] }, { accessFlags := 0, nameIndex := 494, descriptorIndex := 142, attributes := #[] }, { accessFlags := 8, nameIndex := 501, descriptorIndex := 391, attributes := #[] }, { accessFlags := 8, nameIndex := 523, descriptorIndex := 524, attributes := #[] }] 49 2 #[1106, 1108, 575, 1110, 1112] #[{ accessFlags := 18, nameIndex := 13, descriptorIndex := 14, attributes := #[] }, { accessFlags := 18, nameIndex := 17, descriptorIndex := 18, attributes := #[] }, { accessFlags := 2, nameIndex := 21, descriptorIndex := 22, attributes := #[] }, { accessFlags := 2, nameIndex := 25, descriptorIndex := 26, attributes := #[] }, { accessFlags := 26, nameIndex := 1116, descriptorIndex := 1117, attributes := #[] }, { accessFlags := 24, nameIndex := 40, descriptorIndex := 26, attributes := #[] }, { accessFlags := 26, nameIndex := 1101, descriptorIndex := 1102, attributes := #[] }, { accessFlags := 26, nameIndex := 1121, descriptorIndex := 1122, attributes := #[] }, { accessFlags := 25, nameIndex := 599, descriptorIndex := 600, attributes := #[] }, { accessFlags := 24, nameIndex := 1125, descriptorIndex := 18, attributes := #[] }, { accessFlags := 24, nameIndex := 1127, descriptorIndex := 18, attributes := #[] }])
  fields := #[{ name := "value", type := (.array .byte), accessFlags := 18, slot := 0, constantValue := 0 }, { name := "coder", type := .byte, accessFlags := 18, slot := 1, constantValue := 0 }, { name := "hash", type := .int, accessFlags := 2, slot := 2, constantValue := 0 }, { name := "hashIsZero", type := .boolean, accessFlags := 2, slot := 3, constantValue := 0 }, { name := "serialVersionUID", type := .long, accessFlags := 26, slot := 0, constantValue := 0 }, { name := "COMPACT_STRINGS", type := .boolean, accessFlags := 24, slot := 1, constantValue := 0 }, { name := "serialPersistentFields", type := (.array (.object "java/io/ObjectStreamField")), accessFlags := 26, slot := 2, constantValue := 0 }, { name := "REPL", type := .char, accessFlags := 26, slot := 3, constantValue := 0 }, { name := "CASE_INSENSITIVE_ORDER", type := (.object "java/util/Comparator"), accessFlags := 25, slot := 4, constantValue := 0 }, { name := "LATIN1", type := .byte, accessFlags := 24, slot := 5, constantValue := 0 }, { name := "UTF16", type := .byte, accessFlags := 24, slot := 6, constantValue := 0 }]
  methods := #[k7m0, k7m1, k7m2, k7m3, k7m4, k7m5, k7m6, k7m7, k7m8, k7m9, k7m10]
  instanceTypes := #[(.array .byte), .byte, .int, .boolean]
  staticTypes := #[.long, .boolean, (.array (.object "java/io/ObjectStreamField")), .char, (.object "java/util/Comparator"), .byte, .byte]
  resolved := Array.replicate 1451 none
  statics := some 0 }

def pool8 : Array CpInfo := pool [(2, .class_ 4), (1, u "java/lang/Object"), (0, u "<init>"), (0, u "()V"), (8, .class_ 16), (0, u "com/example/pennant/pennant/Trl"), (27, u "(Ljava/lang/String;)Ljava/lang/String;"), (16, .class_ 63), (1, u "java/lang/String"), (26, u "stripBlanks"), (48, .methodref 61 140), (0, .nameAndType 141 142), (0, u "charAt"), (0, u "(I)C"), (0, .methodref 15 144), (0, .nameAndType 145 146), (0, u "isBlank"), (0, u "(C)Z"), (6, u "substring"), (3, u "DOTTED"), (0, u "Ljava/util/regex/Pattern;"), (20, u "FIELD"), (10, .class_ 191), (0, u "com/example/pennant/pennant/Trl$Field"), (2, u "KEYWORDS"), (0, u "Ljava/util/Set;"), (51, u "()I"), (3, .methodref 61 252), (0, .nameAndType 253 247), (0, u "length"), (14, .methodref 61 269), (0, .nameAndType 153 270), (0, u "(II)Ljava/lang/String;"), (20, u "BEGIN"), (0, u "Ljava/lang/String;"), (1, u "END"), (0, u "MAX_BYTES"), (0, u "I"), (19, .class_ 317), (0, u "com/example/pennant/pennant/Trl$Writer")] 23

def k8m0 : Method := { name := "<init>", desc := "()V", sig := { parameters := [], returnType := none }, accessFlags := 2, code := none }
def k8c1 : Code := { maxStack := 3, maxLocals := 3, code := prog_78_method_9_code, exceptionTable := #[], attributes := #[] }
def k8m1 : Method := { name := "stripBlanks", desc := "(Ljava/lang/String;)Ljava/lang/String;", sig := { parameters := [(.object "java/lang/String")], returnType := some (.object "java/lang/String") }, accessFlags := 8, code := some k8c1 }
def k8c2 : Code := { maxStack := 2, maxLocals := 1, code := prog_78_method_10_code, exceptionTable := #[], attributes := #[] }
def k8m2 : Method := { name := "isBlank", desc := "(C)Z", sig := { parameters := [.char], returnType := some .boolean }, accessFlags := 8, code := some k8c2 }
/-- com/example/pennant/pennant/Trl -/
def k8 : Class := { plain "com/example/pennant/pennant/Trl" (some 0) with
  accessFlags := 48
  interfaces := #[]
  cf := some (fileOf pool8 15 #[.nestMembers #[316, 190]] #[{ accessFlags := 2, nameIndex := 5, descriptorIndex := 6, attributes := #[] }, { accessFlags := 8, nameIndex := 90, descriptorIndex := 44, attributes := #[] }, { accessFlags := 8, nameIndex := 145, descriptorIndex := 146, attributes := #[] }] 48 2 #[] #[{ accessFlags := 24, nameIndex := 291, descriptorIndex := 292, attributes := #[] }, { accessFlags := 24, nameIndex := 294, descriptorIndex := 292, attributes := #[] }, { accessFlags := 24, nameIndex := 295, descriptorIndex := 296, attributes := #[] }, { accessFlags := 26, nameIndex := 179, descriptorIndex := 158, attributes := #[] }, { accessFlags := 26, nameIndex := 157, descriptorIndex := 158, attributes := #[] }, { accessFlags := 26, nameIndex := 194, descriptorIndex := 195, attributes := #[] }])
  fields := #[{ name := "BEGIN", type := (.object "java/lang/String"), accessFlags := 24, slot := 0, constantValue := 0 }, { name := "END", type := (.object "java/lang/String"), accessFlags := 24, slot := 1, constantValue := 0 }, { name := "MAX_BYTES", type := .int, accessFlags := 24, slot := 2, constantValue := 0 }, { name := "FIELD", type := (.object "java/util/regex/Pattern"), accessFlags := 26, slot := 3, constantValue := 0 }, { name := "DOTTED", type := (.object "java/util/regex/Pattern"), accessFlags := 26, slot := 4, constantValue := 0 }, { name := "KEYWORDS", type := (.object "java/util/Set"), accessFlags := 26, slot := 5, constantValue := 0 }]
  methods := #[k8m0, k8m1, k8m2]
  instanceTypes := #[]
  staticTypes := #[(.object "java/lang/String"), (.object "java/lang/String"), .int, (.object "java/util/regex/Pattern"), (.object "java/util/regex/Pattern"), (.object "java/util/Set")]
  resolved := Array.replicate 341 none
  statics := none }

def pool9 : Array CpInfo := pool [(2, .class_ 4), (1, u "java/lang/Object"), (0, u "<init>"), (0, u "()V"), (17, .class_ 26), (1, u "jdk/internal/util/Preconditions"), (6, u "checkIndex"), (13, u "checkFromToIndex"), (7, .class_ 56), (0, u "jdk/internal/util/Preconditions$4"), (57, .class_ 115), (0, u "jdk/internal/util/Preconditions$1"), (7, u "SIOOBE_FORMATTER"), (0, u "Ljava/util/function/BiFunction;"), (0, .class_ 126), (0, u "jdk/internal/util/Preconditions$2"), (3, u "AIOOBE_FORMATTER"), (0, .class_ 132), (0, u "jdk/internal/util/Preconditions$3"), (3, u "IOOBE_FORMATTER"), (41, u "(IILjava/util/function/BiFunction;)I"), (4, u "(IIILjava/util/function/BiFunction;)I")] 10

def k9m0 : Method := { name := "<init>", desc := "()V", sig := { parameters := [], returnType := none }, accessFlags := 1, code := none }
def k9c1 : Code := { maxStack := 3, maxLocals := 3, code := jdk_41_method_11_code, exceptionTable := #[], attributes := #[] }
def k9m1 : Method := { name := "checkIndex", desc := "(IILjava/util/function/BiFunction;)I", sig := { parameters := [.int, .int, (.object "java/util/function/BiFunction")], returnType := some .int }, accessFlags := 9, code := some k9c1 }
def k9c2 : Code := { maxStack := 4, maxLocals := 4, code := jdk_41_method_12_code, exceptionTable := #[], attributes := #[] }
def k9m2 : Method := { name := "checkFromToIndex", desc := "(IIILjava/util/function/BiFunction;)I", sig := { parameters := [.int, .int, .int, (.object "java/util/function/BiFunction")], returnType := some .int }, accessFlags := 9, code := some k9c2 }
/-- jdk/internal/util/Preconditions -/
def k9 : Class := { plain "jdk/internal/util/Preconditions" (some 0) with
  accessFlags := 33
  interfaces := #[]
  cf := some (fileOf pool9 24 #[.nestMembers #[55, 131, 125, 114]] #[{ accessFlags := 1, nameIndex := 5, descriptorIndex := 6, attributes := #[] }, { accessFlags := 9, nameIndex := 33, descriptorIndex := 178, attributes := #[] }, { accessFlags := 9, nameIndex := 47, descriptorIndex := 183, attributes := #[] }] 33 2 #[] #[{ accessFlags := 25, nameIndex := 123, descriptorIndex := 124, attributes := #[] }, { accessFlags := 25, nameIndex := 130, descriptorIndex := 124, attributes := #[] }, { accessFlags := 25, nameIndex := 136, descriptorIndex := 124, attributes := #[] }])
  fields := #[{ name := "SIOOBE_FORMATTER", type := (.object "java/util/function/BiFunction"), accessFlags := 25, slot := 0, constantValue := 0 }, { name := "AIOOBE_FORMATTER", type := (.object "java/util/function/BiFunction"), accessFlags := 25, slot := 1, constantValue := 0 }, { name := "IOOBE_FORMATTER", type := (.object "java/util/function/BiFunction"), accessFlags := 25, slot := 2, constantValue := 0 }]
  methods := #[k9m0, k9m1, k9m2]
  instanceTypes := #[]
  staticTypes := #[(.object "java/util/function/BiFunction"), (.object "java/util/function/BiFunction"), (.object "java/util/function/BiFunction")]
  resolved := Array.replicate 194 none
  statics := some 1 }

def pool10 : Array CpInfo := pool [(6, .class_ 8), (1, u "java/lang/Object"), (0, u "<init>"), (0, u "()V"), (1, .class_ 14), (1, u "java/lang/StringUTF16"), (31, u "$assertionsDisabled"), (0, u "Z"), (13, u "HI_BYTE_SHIFT"), (0, u "I"), (2, u "LO_BYTE_SHIFT"), (49, .methodref 12 116), (0, .nameAndType 117 118), (0, u "compress"), (0, u "([CI[BII)I"), (3, u "([CII)[B"), (138, u "coderFromArrayLen"), (0, u "([BI)B"), (106, .class_ 371), (1, u "java/lang/StringUTF16$LinesSpliterator"), (58, u "MAX_LENGTH"), (196, .class_ 628), (0, u "java/lang/StringUTF16$CodePointsSpliterator"), (0, .class_ 630), (0, u "java/lang/StringUTF16$CharsSpliterator")] 4

def k10m0 : Method := { name := "<init>", desc := "()V", sig := { parameters := [], returnType := none }, accessFlags := 0, code := none }
def k10c1 : Code := { maxStack := 2, maxLocals := 2, code := jdk_52_method_15_code, exceptionTable := #[], attributes := #[] }
def k10m1 : Method := { name := "coderFromArrayLen", desc := "([BI)B", sig := { parameters := [(.array .byte), .int], returnType := some .byte }, accessFlags := 8, code := some k10c1 }
def k10c2 : Code := { maxStack := 5, maxLocals := 6, code := jdk_52_method_16_code, exceptionTable := #[], attributes := #[] }
def k10m2 : Method := { name := "compress", desc := "([CII)[B", sig := { parameters := [(.array .char), .int, .int], returnType := some (.array .byte) }, accessFlags := 9, code := some k10c2 }
def k10c3 : Code := { maxStack := 3, maxLocals := 7, code := jdk_52_method_21_code, exceptionTable := #[], attributes := #[] }
def k10m3 : Method := { name := "compress", desc := "([CI[BII)I", sig := { parameters := [(.array .char), .int, (.array .byte), .int, .int], returnType := some .int }, accessFlags := 9, code := some k10c3 }
/-- java/lang/StringUTF16 -/
def k10 : Class := { plain "java/lang/StringUTF16" (some 0) with
  accessFlags := 48
  interfaces := #[]
  cf := some (fileOf pool10 12 #[.nestMembers #[627, 629, 369]] #[{ accessFlags := 0, nameIndex := 9, descriptorIndex := 10, attributes := #[] }, { accessFlags := 8, nameIndex := 261, descriptorIndex := 262, attributes := #[] }, { accessFlags := 9, nameIndex := 117, descriptorIndex := 122, attributes := #[] }, { accessFlags := 9, nameIndex := 117, descriptorIndex := 118, attributes := #[] }] 48 6 #[] #[{ accessFlags := 26, nameIndex := 61, descriptorIndex := 62, attributes := #[] }, { accessFlags := 26, nameIndex := 65, descriptorIndex := 62, attributes := #[] }, { accessFlags := 24, nameIndex := 430, descriptorIndex := 62, attributes := #[] }, { accessFlags := 4120, nameIndex := 46, descriptorIndex := 47, attributes := #[] }])
  fields := #[{ name := "HI_BYTE_SHIFT", type := .int, accessFlags := 26, slot := 0, constantValue := 0 }, { name := "LO_BYTE_SHIFT", type := .int, accessFlags := 26, slot := 1, constantValue := 0 }, { name := "MAX_LENGTH", type := .int, accessFlags := 24, slot := 2, constantValue := 0 }, { name := "$assertionsDisabled", type := .boolean, accessFlags := 4120, slot := 3, constantValue := 0 }]
  methods := #[k10m0, k10m1, k10m2, k10m3]
  instanceTypes := #[]
  staticTypes := #[.int, .int, .int, .boolean]
  resolved := Array.replicate 635 none
  statics := none }

def pool11 : Array CpInfo := pool [(1, .class_ 2), (0, u "java/lang/String"), (1, .class_ 6), (1, u "java/lang/Object"), (0, u "<init>"), (0, u "()V"), (0, .methodref 1 10), (0, .nameAndType 11 12), (0, u "checkIndex"), (0, u "(II)V"), (1, .class_ 16), (1, u "java/lang/StringLatin1"), (36, u "([BI)C"), (58, .methodref 1 113), (0, .nameAndType 7 114), (0, u "([BB)V"), (6, u "$assertionsDisabled"), (0, u "Z"), (8, .class_ 133), (1, u "java/util/Arrays"), (17, .string 152), (0, u ""), (43, u "newString"), (0, u "([BII)Ljava/lang/String;"), (23, .class_ 223), (1, u "java/lang/StringLatin1$LinesSpliterator"), (8, .methodref 131 233), (0, .nameAndType 234 235), (0, u "copyOfRange"), (0, u "([BII)[B"), (16, u "charAt"), (137, .class_ 391), (0, u "java/lang/StringLatin1$CharsSpliterator")] 3

def k11m0 : Method := { name := "<init>", desc := "()V", sig := { parameters := [], returnType := none }, accessFlags := 0, code := none }
def k11c1 : Code := { maxStack := 2, maxLocals := 2, code := jdk_43_method_2_code, exceptionTable := #[], attributes := #[] }
def k11m1 : Method := { name := "charAt", desc := "([BI)C", sig := { parameters := [(.array .byte), .int], returnType := some .char }, accessFlags := 9, code := some k11c1 }
def k11c2 : Code := { maxStack := 6, maxLocals := 3, code := jdk_43_method_47_code, exceptionTable := #[], attributes := #[] }
def k11m2 : Method := { name := "newString", desc := "([BII)Ljava/lang/String;", sig := { parameters := [(.array .byte), .int, .int], returnType := some (.object "java/lang/String") }, accessFlags := 9, code := some k11c2 }
/-- java/lang/StringLatin1 -/
def k11 : Class := { plain "java/lang/StringLatin1" (some 0) with
  accessFlags := 48
  interfaces := #[]
  cf := some (fileOf pool11 14 #[.nestMembers #[390, 221]] #[{ accessFlags := 0, nameIndex := 7, descriptorIndex := 8, attributes := #[] }, { accessFlags := 9, nameIndex := 252, descriptorIndex := 53, attributes := #[] }, { accessFlags := 9, nameIndex := 196, descriptorIndex := 197, attributes := #[] }] 48 4 #[] #[{ accessFlags := 4120, nameIndex := 121, descriptorIndex := 122, attributes := #[] }])
  fields := #[{ name := "$assertionsDisabled", type := .boolean, accessFlags := 4120, slot := 0, constantValue := 0 }]
  methods := #[k11m0, k11m1, k11m2]
  instanceTypes := #[]
  staticTypes := #[.boolean]
  resolved := Array.replicate 395 none
  statics := none }

def pool12 : Array CpInfo := pool [(2, .class_ 4), (1, u "java/lang/Object"), (0, u "<init>"), (0, u "()V"), (7, .class_ 16), (1, u "java/util/Arrays"), (57, .class_ 76), (1, u "java/util/Arrays$NaturalOrder"), (36, .class_ 115), (1, u "java/util/Arrays$LegacyMergeSort"), (1, u "Z"), (21, u "copyOfRange"), (10, .methodref 151 152), (0, .class_ 153), (0, .nameAndType 154 155), (0, u "java/lang/System"), (0, u "arraycopy"), (0, u "(Ljava/lang/Object;ILjava/lang/Object;II)V"), (148, .methodref 305 306), (0, .class_ 307), (0, .nameAndType 308 309), (0, u "java/lang/Math"), (0, u "min"), (0, u "(II)I"), (29, .methodref 14 340), (0, .nameAndType 341 342), (0, u "copyOfRangeByte"), (0, u "([BII)[B"), (0, .methodref 14 344), (0, .nameAndType 345 346), (0, u "checkLength"), (0, u "(II)V"), (28, .class_ 376), (0, u "java/util/Arrays$ArrayList"), (68, u "$assertionsDisabled"), (269, u "MIN_ARRAY_SORT_GRAN"), (0, u "I"), (2, u "INSERTIONSORT_THRESHOLD"), (255, .class_ 976), (0, u "java/util/Arrays$ArrayItr")] 52

def k12m0 : Method := { name := "<init>", desc := "()V", sig := { parameters := [], returnType := none }, accessFlags := 2, code := none }
def k12c1 : Code := { maxStack := 4, maxLocals := 2, code := jdk_65_method_131_code, exceptionTable := #[], attributes := #[] }
def k12m1 : Method := { name := "checkLength", desc := "(II)V", sig := { parameters := [.int, .int], returnType := none }, accessFlags := 10, code := some k12c1 }
def k12c2 : Code := { maxStack := 3, maxLocals := 3, code := jdk_65_method_132_code, exceptionTable := #[], attributes := #[] }
def k12m2 : Method := { name := "copyOfRange", desc := "([BII)[B", sig := { parameters := [(.array .byte), .int, .int], returnType := some (.array .byte) }, accessFlags := 9, code := some k12c2 }
def k12c3 : Code := { maxStack := 6, maxLocals := 5, code := jdk_65_method_133_code, exceptionTable := #[], attributes := #[] }
def k12m3 : Method := { name := "copyOfRangeByte", desc := "([BII)[B", sig := { parameters := [(.array .byte), .int, .int], returnType := some (.array .byte) }, accessFlags := 10, code := some k12c3 }
/-- java/util/Arrays -/
def k12 : Class := { plain "java/util/Arrays" (some 0) with
  accessFlags := 49
  interfaces := #[]
  cf := some (fileOf pool12 14 #[.nestMembers #[975, 375, 113, 74]] #[{ accessFlags := 2, nameIndex := 5, descriptorIndex := 6, attributes := #[] }, { accessFlags := 10, nameIndex := 345, descriptorIndex := 346, attributes := #[] }, { accessFlags := 9, nameIndex := 139, descriptorIndex := 342, attributes := #[] }, { accessFlags := 10, nameIndex := 341, descriptorIndex := 342, attributes := #[] }] 49 2 #[] #[{ accessFlags := 26, nameIndex := 715, descriptorIndex := 716, attributes := #[] }, { accessFlags := 26, nameIndex := 719, descriptorIndex := 716, attributes := #[] }, { accessFlags := 4120, nameIndex := 445, descriptorIndex := 117, attributes := #[] }])
  fields := #[{ name := "MIN_ARRAY_SORT_GRAN", type := .int, accessFlags := 26, slot := 0, constantValue := 0 }, { name := "INSERTIONSORT_THRESHOLD", type := .int, accessFlags := 26, slot := 1, constantValue := 0 }, { name := "$assertionsDisabled", type := .boolean, accessFlags := 4120, slot := 2, constantValue := 0 }]
  methods := #[k12m0, k12m1, k12m2, k12m3]
  instanceTypes := #[]
  staticTypes := #[.int, .int, .boolean]
  resolved := Array.replicate 1029 none
  statics := none }

def pool13 : Array CpInfo := pool [(1, .class_ 2), (0, u "java/lang/Math"), (1, .class_ 6), (1, u "java/lang/Object"), (0, u "<init>"), (0, u "()V"), (89, .class_ 100), (1, u "java/lang/Math$RandomNumberGeneratorHolder"), (71, u "negativeZeroFloatBits"), (0, u "J"), (2, u "negativeZeroDoubleBits"), (24, u "min"), (43, u "$assertionsDisabled"), (0, u "Z"), (88, u "(II)I"), (2, u "twoToTheDoubleScaleDown"), (0, u "D"), (4, u "twoToTheDoubleScaleUp"), (9, u "E"), (3, u "PI"), (2, u "TAU"), (2, u "DEGREES_TO_RADIANS"), (0, u "RADIANS_TO_DEGREES")] 94

def k13m0 : Method := { name := "<init>", desc := "()V", sig := { parameters := [], returnType := none }, accessFlags := 2, code := none }
def k13c1 : Code := { maxStack := 2, maxLocals := 2, code := jdk_29_method_69_code, exceptionTable := #[], attributes := #[] }
def k13m1 : Method := { name := "min", desc := "(II)I", sig := { parameters := [.int, .int], returnType := some .int }, accessFlags := 9, code := some k13c1 }
/-- java/lang/Math -/
def k13 : Class := { plain "java/lang/Math" (some 0) with
  accessFlags := 49
  interfaces := #[]
  cf := some (fileOf pool13 1 #[.nestMembers #[98]] #[{ accessFlags := 2, nameIndex := 7, descriptorIndex := 8, attributes := #[] }, { accessFlags := 9, nameIndex := 201, descriptorIndex := 335, attributes := #[] }] 49 4 #[] #[{ accessFlags := 25, nameIndex := 354, descriptorIndex := 339, attributes := #[] }, { accessFlags := 25, nameIndex := 358, descriptorIndex := 339, attributes := #[] }, { accessFlags := 25, nameIndex := 361, descriptorIndex := 339, attributes := #[] }, { accessFlags := 26, nameIndex := 364, descriptorIndex := 339, attributes := #[] }, { accessFlags := 26, nameIndex := 365, descriptorIndex := 339, attributes := #[] }, { accessFlags := 26, nameIndex := 172, descriptorIndex := 173, attributes := #[] }, { accessFlags := 26, nameIndex := 176, descriptorIndex := 173, attributes := #[] }, { accessFlags := 8, nameIndex := 344, descriptorIndex := 339, attributes := #[] }, { accessFlags := 8, nameIndex := 338, descriptorIndex := 339, attributes := #[] }, { accessFlags := 4120, nameIndex := 245, descriptorIndex := 246, attributes := #[] }])
  fields := #[{ name := "E", type := .double, accessFlags := 25, slot := 0, constantValue := 0 }, { name := "PI", type := .double, accessFlags := 25, slot := 1, constantValue := 0 }, { name := "TAU", type := .double, accessFlags := 25, slot := 2, constantValue := 0 }, { name := "DEGREES_TO_RADIANS", type := .double, accessFlags := 26, slot := 3, constantValue := 0 }, { name := "RADIANS_TO_DEGREES", type := .double, accessFlags := 26, slot := 4, constantValue := 0 }, { name := "negativeZeroFloatBits", type := .long, accessFlags := 26, slot := 5, constantValue := 0 }, { name := "negativeZeroDoubleBits", type := .long, accessFlags := 26, slot := 6, constantValue := 0 }, { name := "twoToTheDoubleScaleUp", type := .double, accessFlags := 8, slot := 7, constantValue := 0 }, { name := "twoToTheDoubleScaleDown", type := .double, accessFlags := 8, slot := 8, constantValue := 0 }, { name := "$assertionsDisabled", type := .boolean, accessFlags := 4120, slot := 9, constantValue := 0 }]
  methods := #[k13m0, k13m1]
  instanceTypes := #[]
  staticTypes := #[.double, .double, .double, .double, .double, .long, .long, .double, .double, .boolean]
  resolved := Array.replicate 460 none
  statics := none }

def pool14 : Array CpInfo := pool [(2, .class_ 4), (1, u "java/lang/Object"), (0, u "<init>"), (0, u "()V"), (1, .class_ 10), (1, u "java/lang/System"), (0, u "allowSecurityManager"), (0, u "I"), (16, u "cons"), (0, u "Ljava/io/Console;"), (77, .class_ 110), (1, u "java/lang/System$CallersHolder"), (43, u "initialErrStream"), (0, u "Ljava/io/PrintStream;"), (19, u "security"), (0, u "Ljava/lang/SecurityManager;"), (31, .class_ 209), (0, u "java/lang/System$1"), (7, u "props"), (0, u "Ljava/util/Properties;"), (2, u "lineSeparator"), (0, u "Ljava/lang/String;"), (96, .class_ 321), (1, u "java/lang/System$LoggerFinder"), (5, .class_ 328), (0, u "java/lang/System$Logger"), (67, u "err"), (2, u "out"), (91, u "notSupportedJnuEncoding"), (15, u "in"), (17, u "initialIn"), (0, u "Ljava/io/InputStream;"), (35, u "bootLayer"), (0, u "Ljava/lang/ModuleLayer;"), (99, .class_ 664), (0, u "java/lang/System$2"), (9, u "NEVER"), (2, u "MAYBE"), (49, u "arraycopy"), (0, u "(Ljava/lang/Object;ILjava/lang/Object;II)V"), (72, .class_ 802), (0, u "java/lang/System$Logger$Level")] 31

def k14m0 : Method := { name := "<init>", desc := "()V", sig := { parameters := [], returnType := none }, accessFlags := 2, code := none }
def k14m1 : Method := { name := "arraycopy", desc := "(Ljava/lang/Object;ILjava/lang/Object;II)V", sig := { parameters := [(.object "java/lang/Object"), .int, (.object "java/lang/Object"), .int, .int], returnType := none }, accessFlags := 265, code := none }
/-- java/lang/System -/
def k14 : Class := { plain "java/lang/System" (some 0) with
  accessFlags := 49
  interfaces := #[]
  cf := some (fileOf pool14 8 #[.nestMembers #[319, 327, 801, 108, 663, 208]] #[{ accessFlags := 2, nameIndex := 5, descriptorIndex := 6, attributes := #[] }, { accessFlags := 265, nameIndex := 727, descriptorIndex := 728, attributes := #[] }] 49 2 #[] #[{ accessFlags := 25, nameIndex := 507, descriptorIndex := 526, attributes := #[] }, { accessFlags := 25, nameIndex := 399, descriptorIndex := 155, attributes := #[] }, { accessFlags := 25, nameIndex := 396, descriptorIndex := 155, attributes := #[] }, { accessFlags := 10, nameIndex := 525, descriptorIndex := 526, attributes := #[] }, { accessFlags := 26, nameIndex := 674, descriptorIndex := 12, attributes := #[] }, { accessFlags := 26, nameIndex := 677, descriptorIndex := 12, attributes := #[] }, { accessFlags := 10, nameIndex := 11, descriptorIndex := 12, attributes := #[] }, { accessFlags := 74, nameIndex := 175, descriptorIndex := 176, attributes := #[] }, { accessFlags := 10, nameIndex := 491, descriptorIndex := 222, attributes := #[] }, { accessFlags := 74, nameIndex := 29, descriptorIndex := 30, attributes := #[] }, { accessFlags := 74, nameIndex := 154, descriptorIndex := 155, attributes := #[] }, { accessFlags := 10, nameIndex := 217, descriptorIndex := 218, attributes := #[] }, { accessFlags := 10, nameIndex := 221, descriptorIndex := 222, attributes := #[] }, { accessFlags := 8, nameIndex := 562, descriptorIndex := 563, attributes := #[] }])
  fields := #[{ name := "in", type := (.object "java/io/InputStream"), accessFlags := 25, slot := 0, constantValue := 0 }, { name := "out", type := (.object "java/io/PrintStream"), accessFlags := 25, slot := 1, constantValue := 0 }, { name := "err", type := (.object "java/io/PrintStream"), accessFlags := 25, slot := 2, constantValue := 0 }, { name := "initialIn", type := (.object "java/io/InputStream"), accessFlags := 10, slot := 3, constantValue := 0 }, { name := "NEVER", type := .int, accessFlags := 26, slot := 4, constantValue := 0 }, { name := "MAYBE", type := .int, accessFlags := 26, slot := 5, constantValue := 0 }, { name := "allowSecurityManager", type := .int, accessFlags := 10, slot := 6, constantValue := 0 }, { name := "security", type := (.object "java/lang/SecurityManager"), accessFlags := 74, slot := 7, constantValue := 0 }, { name := "notSupportedJnuEncoding", type := (.object "java/lang/String"), accessFlags := 10, slot := 8, constantValue := 0 }, { name := "cons", type := (.object "java/io/Console"), accessFlags := 74, slot := 9, constantValue := 0 }, { name := "initialErrStream", type := (.object "java/io/PrintStream"), accessFlags := 74, slot := 10, constantValue := 0 }, { name := "props", type := (.object "java/util/Properties"), accessFlags := 10, slot := 11, constantValue := 0 }, { name := "lineSeparator", type := (.object "java/lang/String"), accessFlags := 10, slot := 12, constantValue := 0 }, { name := "bootLayer", type := (.object "java/lang/ModuleLayer"), accessFlags := 8, slot := 13, constantValue := 0 }]
  methods := #[k14m0, k14m1]
  instanceTypes := #[]
  staticTypes := #[(.object "java/io/InputStream"), (.object "java/io/PrintStream"), (.object "java/io/PrintStream"), (.object "java/io/InputStream"), .int, .int, .int, (.object "java/lang/SecurityManager"), (.object "java/lang/String"), (.object "java/io/Console"), (.object "java/io/PrintStream"), (.object "java/util/Properties"), (.object "java/lang/String"), (.object "java/lang/ModuleLayer")]
  resolved := Array.replicate 834 none
  statics := none }

def pool15 : Array CpInfo := pool [(9, u "<init>"), (6, .class_ 18), (1, u "java/lang/Object"), (0, u "()V"), (1, .class_ 23), (1, u "jdk/internal/util/ArraysSupport"), (0, u "LOG2_ARRAY_LONG_INDEX_SCALE"), (0, u "I"), (2, u "U"), (0, u "Ljdk/internal/misc/Unsafe;"), (8, u "BIG_ENDIAN"), (0, u "Z"), (8, u "LOG2_BYTE_BIT_SIZE"), (4, u "LOG2_ARRAY_INT_INDEX_SCALE"), (54, u "JLA"), (0, u "Ljdk/internal/access/JavaLangAccess;"), (11, u "LOG2_ARRAY_BOOLEAN_INDEX_SCALE"), (9, u "LOG2_ARRAY_BYTE_INDEX_SCALE"), (5, u "LOG2_ARRAY_CHAR_INDEX_SCALE"), (5, u "LOG2_ARRAY_SHORT_INDEX_SCALE"), (18, u "LOG2_ARRAY_FLOAT_INDEX_SCALE"), (24, u "LOG2_ARRAY_DOUBLE_INDEX_SCALE"), (89, u "T_BOOLEAN"), (2, u "T_CHAR"), (1, u "T_FLOAT"), (1, u "T_DOUBLE"), (1, u "T_BYTE"), (1, u "T_SHORT"), (1, u "T_INT"), (1, u "T_LONG"), (1, u "SOFT_MAX_ARRAY_LENGTH")] 83

def k15m0 : Method := { name := "<init>", desc := "()V", sig := { parameters := [], returnType := none }, accessFlags := 2, code := none }
/-- jdk/internal/util/ArraysSupport -/
def k15 : Class := { plain "jdk/internal/util/ArraysSupport" (some 0) with
  accessFlags := 33
  interfaces := #[]
  cf := some (fileOf pool15 21 #[] #[{ accessFlags := 2, nameIndex := 9, descriptorIndex := 19, attributes := #[] }] 33 16 #[] #[{ accessFlags := 24, nameIndex := 28, descriptorIndex := 29, attributes := #[] }, { accessFlags := 26, nameIndex := 38, descriptorIndex := 39, attributes := #[] }, { accessFlags := 25, nameIndex := 121, descriptorIndex := 25, attributes := #[] }, { accessFlags := 25, nameIndex := 131, descriptorIndex := 25, attributes := #[] }, { accessFlags := 25, nameIndex := 137, descriptorIndex := 25, attributes := #[] }, { accessFlags := 25, nameIndex := 143, descriptorIndex := 25, attributes := #[] }, { accessFlags := 25, nameIndex := 53, descriptorIndex := 25, attributes := #[] }, { accessFlags := 25, nameIndex := 24, descriptorIndex := 25, attributes := #[] }, { accessFlags := 25, nameIndex := 162, descriptorIndex := 25, attributes := #[] }, { accessFlags := 25, nameIndex := 187, descriptorIndex := 25, attributes := #[] }, { accessFlags := 26, nameIndex := 48, descriptorIndex := 25, attributes := #[] }, { accessFlags := 25, nameIndex := 277, descriptorIndex := 25, attributes := #[] }, { accessFlags := 25, nameIndex := 280, descriptorIndex := 25, attributes := #[] }, { accessFlags := 25, nameIndex := 282, descriptorIndex := 25, attributes := #[] }, { accessFlags := 25, nameIndex := 284, descriptorIndex := 25, attributes := #[] }, { accessFlags := 25, nameIndex := 286, descriptorIndex := 25, attributes := #[] }, { accessFlags := 25, nameIndex := 288, descriptorIndex := 25, attributes := #[] }, { accessFlags := 25, nameIndex := 290, descriptorIndex := 25, attributes := #[] }, { accessFlags := 25, nameIndex := 292, descriptorIndex := 25, attributes := #[] }, { accessFlags := 26, nameIndex := 108, descriptorIndex := 109, attributes := #[] }, { accessFlags := 25, nameIndex := 294, descriptorIndex := 25, attributes := #[] }])
  fields := #[{ name := "U", type := (.object "jdk/internal/misc/Unsafe"), accessFlags := 24, slot := 0, constantValue := 0 }, { name := "BIG_ENDIAN", type := .boolean, accessFlags := 26, slot := 1, constantValue := 0 }, { name := "LOG2_ARRAY_BOOLEAN_INDEX_SCALE", type := .int, accessFlags := 25, slot := 2, constantValue := 0 }, { name := "LOG2_ARRAY_BYTE_INDEX_SCALE", type := .int, accessFlags := 25, slot := 3, constantValue := 0 }, { name := "LOG2_ARRAY_CHAR_INDEX_SCALE", type := .int, accessFlags := 25, slot := 4, constantValue := 0 }, { name := "LOG2_ARRAY_SHORT_INDEX_SCALE", type := .int, accessFlags := 25, slot := 5, constantValue := 0 }, { name := "LOG2_ARRAY_INT_INDEX_SCALE", type := .int, accessFlags := 25, slot := 6, constantValue := 0 }, { name := "LOG2_ARRAY_LONG_INDEX_SCALE", type := .int, accessFlags := 25, slot := 7, constantValue := 0 }, { name := "LOG2_ARRAY_FLOAT_INDEX_SCALE", type := .int, accessFlags := 25, slot := 8, constantValue := 0 }, { name := "LOG2_ARRAY_DOUBLE_INDEX_SCALE", type := .int, accessFlags := 25, slot := 9, constantValue := 0 }, { name := "LOG2_BYTE_BIT_SIZE", type := .int, accessFlags := 26, slot := 10, constantValue := 0 }, { name := "T_BOOLEAN", type := .int, accessFlags := 25, slot := 11, constantValue := 0 }, { name := "T_CHAR", type := .int, accessFlags := 25, slot := 12, constantValue := 0 }, { name := "T_FLOAT", type := .int, accessFlags := 25, slot := 13, constantValue := 0 }, { name := "T_DOUBLE", type := .int, accessFlags := 25, slot := 14, constantValue := 0 }, { name := "T_BYTE", type := .int, accessFlags := 25, slot := 15, constantValue := 0 }, { name := "T_SHORT", type := .int, accessFlags := 25, slot := 16, constantValue := 0 }, { name := "T_INT", type := .int, accessFlags := 25, slot := 17, constantValue := 0 }, { name := "T_LONG", type := .int, accessFlags := 25, slot := 18, constantValue := 0 }, { name := "JLA", type := (.object "jdk/internal/access/JavaLangAccess"), accessFlags := 26, slot := 19, constantValue := 0 }, { name := "SOFT_MAX_ARRAY_LENGTH", type := .int, accessFlags := 25, slot := 20, constantValue := 0 }]
  methods := #[k15m0]
  instanceTypes := #[]
  staticTypes := #[(.object "jdk/internal/misc/Unsafe"), .boolean, .int, .int, .int, .int, .int, .int, .int, .int, .int, .int, .int, .int, .int, .int, .int, .int, .int, (.object "jdk/internal/access/JavaLangAccess"), .int]
  resolved := Array.replicate 378 none
  statics := none }

def pool16 : Array CpInfo := pool [(1, u "java/lang/Cloneable"), (0, .class_ 1), (0, u "java/lang/Object"), (0, .class_ 3)] 3

/-- java/lang/Cloneable -/
def k16 : Class := { plain "java/lang/Cloneable" (some 0) with
  accessFlags := 1537
  interfaces := #[]
  cf := some (fileOf pool16 2 #[] #[] 1537 4 #[] #[])
  fields := #[]
  methods := #[]
  instanceTypes := #[]
  staticTypes := #[]
  resolved := Array.replicate 8 none
  statics := none }

/-- the primitive byte -/
def k17 : Class := { plain "byte" none with kind := .primitive 'B', accessFlags := 0x411 }
/-- [B -/
def k18 : Class := { plain "[B" (some 0) with kind := .array 17 .byte, interfaces := #[16, 2], accessFlags := 1041 }

/-- the primitive char -/
def k19 : Class := { plain "char" none with kind := .primitive 'C', accessFlags := 0x411 }
/-- [C -/
def k20 : Class := { plain "[C" (some 0) with kind := .array 19 .char, interfaces := #[16, 2], accessFlags := 1041 }

/-- the primitive int -/
def k21 : Class := { plain "int" none with kind := .primitive 'I', accessFlags := 0x411 }
/-- [I -/
def k22 : Class := { plain "[I" (some 0) with kind := .array 21 .int, interfaces := #[16, 2], accessFlags := 1041 }

def heap : Heap := #[{ cls := 7, slots := #[.long 0, .int 1, .null, .int 0, .null, .int 0, .int 0], vm := .statics 7 },
  { cls := 9, slots := #[.null, .null, .null], vm := .statics 9 }]
def classes : Array Class := #[k0, k1, k2, k3, k4, k5, k6, k7, k8, k9, k10, k11, k12, k13, k14, k15, k16, k17, k18, k19, k20, k21, k22]
def interned : List (Array UInt16 × Addr) := []
def slotsUsed : Nat := 10
def theMethod : MethodId := ⟨1, 4⟩
def args0 : Array Value := #[.int 5, .int 7, .int 9, .int 3, .int 4]
def aboutOver (below : List Frame) : State where
  vm := { classes := classes, interned := interned.toArray }
  heap := heap
  slotsUsed := slotsUsed
  threads := #[{ frames := .invoking theMethod args0 :: below }]
def below0 : List Frame := [.native { method := ⟨0, 0⟩, args := #[] }]
def about1 : State := aboutOver below0
def p0 : Program := .bare "" "" ""
def e0 : Env := launch0.env 0 0 0
theorem w_frames : about1.frames = Frame.invoking theMethod args0 :: below0 := rfl
set_option maxRecDepth 65536 in
theorem w_args : argsFit about1.vm theMethod args0 = true := by decide +kernel
set_option maxRecDepth 65536 in
theorem w_heap : heapFits about1 = true := by decide +kernel
set_option maxRecDepth 65536 in
theorem w_runnable : about1.curStatus? = some .runnable := by decide +kernel
set_option maxRecDepth 65536 in
theorem w_alone : about1.alone = true := by decide +kernel
set_option maxRecDepth 65536 in
theorem w_named : about1.methodNamed? x = some theMethod := by decide +kernel
set_option maxRecDepth 65536 in
theorem w_hears : about1.hears theMethod below0 = true := by decide +kernel
set_option maxRecDepth 65536 in
theorem w_ripe : about1.ripe theMethod args0 below0 = true := by decide +kernel
theorem w_running : about1.status = .running := rfl
set_option maxRecDepth 65536 in
theorem w_room : about1.hasRoom e0.platform room_1 = true :=
  launch0.hasRoom_least _ room_1 (by decide +kernel) (by decide +kernel) (by decide +kernel) (by decide +kernel) (by decide +kernel) (by decide +kernel)
theorem allAtoms_all (ts : List Jvm.Cond) (a : Array Jvm.Value) (st : Jvm.State) : (allAtoms ts).before a st = ts.all (fun c => c.before a st) := by
  induction ts with
  | nil => rfl
  | cons c t ih =>
    show (Jvm.Cond.and c (allAtoms t)).before a st = _
    rw [Jvm.Cond.before_and, ih, List.all_cons]
def words1 : List Jvm.Cond := Jvm.Cond.code x code maxLocals ret :: tables_1
/-- a 'code' word, met by the world's own term for the bytes: nothing is compared byte by byte -/
theorem code_word {y : MethodName} {bytes : ByteArray} {mx : Nat} {rt : Option FieldType} {a : Array Value} {s : State} {m : MethodId} {meth : Method} {c : Code} (h1 : s.methodNamed? y = some m) (h2 : s.vm.method? m = some meth) (h3 : meth.code = some c) (h4 : c.code = bytes)
    (h5 : (c.maxLocals == mx && c.exceptionTable.isEmpty && decide (c.maxStack ≤ mostOperands) && decide (meth.sig.returnType = rt) && !meth.locks && decide (parseMethodDescriptor y.desc = some meth.sig)) = true) : (Jvm.Cond.code y bytes mx rt).before a s = true := by
  simp only [Bool.and_eq_true, beq_iff_eq, Bool.not_eq_true', decide_eq_true_eq] at h5
  obtain ⟨⟨⟨⟨⟨g1, g2⟩, g3⟩, g4⟩, g5⟩, g6⟩ := h5
  simp [Cond.before, Cond.holds, Cond.value, h1, h2, h3, h4, g1, g2, g3, g4, g5, g6]
def isCode : Jvm.Cond → Bool
  | .code _ _ _ _ => true
  | _ => false
theorem all_split {L : List Jvm.Cond} {P : Jvm.Cond → Bool} (h1 : L.all (fun c => isCode c || P c) = true) (h2 : ∀ c ∈ L.filter isCode, P c = true) : L.all P = true := by
  refine List.all_eq_true.mpr fun c hc => ?_
  have h := List.all_eq_true.mp h1 c hc
  rcases Bool.eq_false_or_eq_true (isCode c) with hi | hi
  · exact h2 c (List.mem_filter.mpr ⟨hc, hi⟩)
  · simpa [hi] using h
set_option maxRecDepth 65536 in
theorem w_c0 : (Jvm.Cond.code x code maxLocals ret).before args0 about1 = true := code_word (m := ⟨1, 4⟩) (meth := k1m4) (c := k1c4) (by decide +kernel) rfl rfl rfl (by decide +kernel)
set_option maxRecDepth 65536 in
theorem w_c1 : (Jvm.Cond.code ({ cls := "com/example/pennant/pennant/TrlStripBlanksPinLaw", name := "draw", desc := "(I)C" } : Jvm.MethodName) method_2_code (2 : Nat) (Option.some Jvm.ClassFile.FieldType.char)).before args0 about1 = true := code_word (m := ⟨1, 1⟩) (meth := k1m1) (c := k1c1) (by decide +kernel) rfl rfl rfl (by decide +kernel)
set_option maxRecDepth 65536 in
theorem w_c2 : (Jvm.Cond.code ({ cls := "java/lang/String", name := "<init>", desc := "([C)V" } : Jvm.MethodName) jdk_42_method_3_code (2 : Nat) (Option.none : Option Jvm.ClassFile.FieldType)).before args0 about1 = true := code_word (m := ⟨7, 1⟩) (meth := k7m1) (c := k7c1) (by decide +kernel) rfl rfl rfl (by decide +kernel)
set_option maxRecDepth 65536 in
theorem w_c3 : (Jvm.Cond.code ({ cls := "java/lang/String", name := "<init>", desc := "([CIILjava/lang/Void;)V" } : Jvm.MethodName) jdk_42_method_149_code (6 : Nat) (Option.none : Option Jvm.ClassFile.FieldType)).before args0 about1 = true := code_word (m := ⟨7, 5⟩) (meth := k7m5) (c := k7c5) (by decide +kernel) rfl rfl rfl (by decide +kernel)
set_option maxRecDepth 65536 in
theorem w_c4 : (Jvm.Cond.code ({ cls := "java/lang/Object", name := "<init>", desc := "()V" } : Jvm.MethodName) object_method_1_code (1 : Nat) (Option.none : Option Jvm.ClassFile.FieldType)).before args0 about1 = true := code_word (m := ⟨0, 0⟩) (meth := k0m0) (c := k0c0) (by decide +kernel) rfl rfl rfl (by decide +kernel)
set_option maxRecDepth 65536 in
theorem w_c5 : (Jvm.Cond.code ({ cls := "com/example/pennant/pennant/Trl", name := "stripBlanks", desc := "(Ljava/lang/String;)Ljava/lang/String;" } : Jvm.MethodName) prog_78_method_9_code (3 : Nat) (Option.some (Jvm.ClassFile.FieldType.object "java/lang/String"))).before args0 about1 = true := code_word (m := ⟨8, 1⟩) (meth := k8m1) (c := k8c1) (by decide +kernel) rfl rfl rfl (by decide +kernel)
set_option maxRecDepth 65536 in
theorem w_c6 : (Jvm.Cond.code ({ cls := "java/lang/String", name := "length", desc := "()I" } : Jvm.MethodName) jdk_42_method_54_code (1 : Nat) (Option.some Jvm.ClassFile.FieldType.int)).before args0 about1 = true := code_word (m := ⟨7, 2⟩) (meth := k7m2) (c := k7c2) (by decide +kernel) rfl rfl rfl (by decide +kernel)
set_option maxRecDepth 65536 in
theorem w_c7 : (Jvm.Cond.code ({ cls := "java/lang/String", name := "coder", desc := "()B" } : Jvm.MethodName) jdk_42_method_152_code (1 : Nat) (Option.some Jvm.ClassFile.FieldType.byte)).before args0 about1 = true := code_word (m := ⟨7, 7⟩) (meth := k7m7) (c := k7c7) (by decide +kernel) rfl rfl rfl (by decide +kernel)
set_option maxRecDepth 65536 in
theorem w_c8 : (Jvm.Cond.code ({ cls := "java/lang/String", name := "substring", desc := "(II)Ljava/lang/String;" } : Jvm.MethodName) jdk_42_method_92_code (5 : Nat) (Option.some (Jvm.ClassFile.FieldType.object "java/lang/String"))).before args0 about1 = true := code_word (m := ⟨7, 4⟩) (meth := k7m4) (c := k7c4) (by decide +kernel) rfl rfl rfl (by decide +kernel)
set_option maxRecDepth 65536 in
theorem w_c9 : (Jvm.Cond.code ({ cls := "java/lang/String", name := "checkBoundsBeginEnd", desc := "(III)V" } : Jvm.MethodName) jdk_42_method_158_code (3 : Nat) (Option.none : Option Jvm.ClassFile.FieldType)).before args0 about1 = true := code_word (m := ⟨7, 10⟩) (meth := k7m10) (c := k7c10) (by decide +kernel) rfl rfl rfl (by decide +kernel)
set_option maxRecDepth 65536 in
theorem w_c10 : (Jvm.Cond.code ({ cls := "jdk/internal/util/Preconditions", name := "checkFromToIndex", desc := "(IIILjava/util/function/BiFunction;)I" } : Jvm.MethodName) jdk_41_method_12_code (4 : Nat) (Option.some Jvm.ClassFile.FieldType.int)).before args0 about1 = true := code_word (m := ⟨9, 2⟩) (meth := k9m2) (c := k9c2) (by decide +kernel) rfl rfl rfl (by decide +kernel)
set_option maxRecDepth 65536 in
theorem w_c11 : (Jvm.Cond.code ({ cls := "com/example/pennant/pennant/TrlStripBlanksPinLaw", name := "solid", desc := "([CII)Z" } : Jvm.MethodName) method_3_code (3 : Nat) (Option.some Jvm.ClassFile.FieldType.boolean)).before args0 about1 = true := code_word (m := ⟨1, 2⟩) (meth := k1m2) (c := k1c2) (by decide +kernel) rfl rfl rfl (by decide +kernel)
set_option maxRecDepth 65536 in
theorem w_c12 : (Jvm.Cond.code ({ cls := "com/example/pennant/pennant/TrlStripBlanksPinLaw", name := "at", desc := "(Ljava/lang/String;II[CI)Z" } : Jvm.MethodName) method_4_code (5 : Nat) (Option.some Jvm.ClassFile.FieldType.boolean)).before args0 about1 = true := code_word (m := ⟨1, 3⟩) (meth := k1m3) (c := k1c3) (by decide +kernel) rfl rfl rfl (by decide +kernel)
set_option maxRecDepth 65536 in
theorem w_c13 : (Jvm.Cond.code ({ cls := "java/lang/StringUTF16", name := "compress", desc := "([CII)[B" } : Jvm.MethodName) jdk_52_method_16_code (6 : Nat) (Option.some (Jvm.ClassFile.FieldType.array Jvm.ClassFile.FieldType.byte))).before args0 about1 = true := code_word (m := ⟨10, 2⟩) (meth := k10m2) (c := k10c2) (by decide +kernel) rfl rfl rfl (by decide +kernel)
set_option maxRecDepth 65536 in
theorem w_c14 : (Jvm.Cond.code ({ cls := "java/lang/StringUTF16", name := "compress", desc := "([CI[BII)I" } : Jvm.MethodName) jdk_52_method_21_code (7 : Nat) (Option.some Jvm.ClassFile.FieldType.int)).before args0 about1 = true := code_word (m := ⟨10, 3⟩) (meth := k10m3) (c := k10c3) (by decide +kernel) rfl rfl rfl (by decide +kernel)
set_option maxRecDepth 65536 in
theorem w_c15 : (Jvm.Cond.code ({ cls := "java/lang/StringUTF16", name := "coderFromArrayLen", desc := "([BI)B" } : Jvm.MethodName) jdk_52_method_15_code (2 : Nat) (Option.some Jvm.ClassFile.FieldType.byte)).before args0 about1 = true := code_word (m := ⟨10, 1⟩) (meth := k10m1) (c := k10c1) (by decide +kernel) rfl rfl rfl (by decide +kernel)
set_option maxRecDepth 65536 in
theorem w_c16 : (Jvm.Cond.code ({ cls := "java/lang/String", name := "charAt", desc := "(I)C" } : Jvm.MethodName) jdk_42_method_56_code (2 : Nat) (Option.some Jvm.ClassFile.FieldType.char)).before args0 about1 = true := code_word (m := ⟨7, 3⟩) (meth := k7m3) (c := k7c3) (by decide +kernel) rfl rfl rfl (by decide +kernel)
set_option maxRecDepth 65536 in
theorem w_c17 : (Jvm.Cond.code ({ cls := "java/lang/String", name := "isLatin1", desc := "()Z" } : Jvm.MethodName) jdk_42_method_154_code (1 : Nat) (Option.some Jvm.ClassFile.FieldType.boolean)).before args0 about1 = true := code_word (m := ⟨7, 8⟩) (meth := k7m8) (c := k7c8) (by decide +kernel) rfl rfl rfl (by decide +kernel)
set_option maxRecDepth 65536 in
theorem w_c18 : (Jvm.Cond.code ({ cls := "java/lang/StringLatin1", name := "charAt", desc := "([BI)C" } : Jvm.MethodName) jdk_43_method_2_code (2 : Nat) (Option.some Jvm.ClassFile.FieldType.char)).before args0 about1 = true := code_word (m := ⟨11, 1⟩) (meth := k11m1) (c := k11c1) (by decide +kernel) rfl rfl rfl (by decide +kernel)
set_option maxRecDepth 65536 in
theorem w_c19 : (Jvm.Cond.code ({ cls := "java/lang/String", name := "checkIndex", desc := "(II)V" } : Jvm.MethodName) jdk_42_method_155_code (2 : Nat) (Option.none : Option Jvm.ClassFile.FieldType)).before args0 about1 = true := code_word (m := ⟨7, 9⟩) (meth := k7m9) (c := k7c9) (by decide +kernel) rfl rfl rfl (by decide +kernel)
set_option maxRecDepth 65536 in
theorem w_c20 : (Jvm.Cond.code ({ cls := "jdk/internal/util/Preconditions", name := "checkIndex", desc := "(IILjava/util/function/BiFunction;)I" } : Jvm.MethodName) jdk_41_method_11_code (3 : Nat) (Option.some Jvm.ClassFile.FieldType.int)).before args0 about1 = true := code_word (m := ⟨9, 1⟩) (meth := k9m1) (c := k9c1) (by decide +kernel) rfl rfl rfl (by decide +kernel)
set_option maxRecDepth 65536 in
theorem w_c21 : (Jvm.Cond.code ({ cls := "com/example/pennant/pennant/Trl", name := "isBlank", desc := "(C)Z" } : Jvm.MethodName) prog_78_method_10_code (1 : Nat) (Option.some Jvm.ClassFile.FieldType.boolean)).before args0 about1 = true := code_word (m := ⟨8, 2⟩) (meth := k8m2) (c := k8c2) (by decide +kernel) rfl rfl rfl (by decide +kernel)
set_option maxRecDepth 65536 in
theorem w_c22 : (Jvm.Cond.code ({ cls := "java/lang/StringLatin1", name := "newString", desc := "([BII)Ljava/lang/String;" } : Jvm.MethodName) jdk_43_method_47_code (3 : Nat) (Option.some (Jvm.ClassFile.FieldType.object "java/lang/String"))).before args0 about1 = true := code_word (m := ⟨11, 2⟩) (meth := k11m2) (c := k11c2) (by decide +kernel) rfl rfl rfl (by decide +kernel)
set_option maxRecDepth 65536 in
theorem w_c23 : (Jvm.Cond.code ({ cls := "java/util/Arrays", name := "copyOfRange", desc := "([BII)[B" } : Jvm.MethodName) jdk_65_method_132_code (3 : Nat) (Option.some (Jvm.ClassFile.FieldType.array Jvm.ClassFile.FieldType.byte))).before args0 about1 = true := code_word (m := ⟨12, 2⟩) (meth := k12m2) (c := k12c2) (by decide +kernel) rfl rfl rfl (by decide +kernel)
set_option maxRecDepth 65536 in
theorem w_c24 : (Jvm.Cond.code ({ cls := "java/util/Arrays", name := "copyOfRangeByte", desc := "([BII)[B" } : Jvm.MethodName) jdk_65_method_133_code (5 : Nat) (Option.some (Jvm.ClassFile.FieldType.array Jvm.ClassFile.FieldType.byte))).before args0 about1 = true := code_word (m := ⟨12, 3⟩) (meth := k12m3) (c := k12c3) (by decide +kernel) rfl rfl rfl (by decide +kernel)
set_option maxRecDepth 65536 in
theorem w_c25 : (Jvm.Cond.code ({ cls := "java/util/Arrays", name := "checkLength", desc := "(II)V" } : Jvm.MethodName) jdk_65_method_131_code (2 : Nat) (Option.none : Option Jvm.ClassFile.FieldType)).before args0 about1 = true := code_word (m := ⟨12, 1⟩) (meth := k12m1) (c := k12c1) (by decide +kernel) rfl rfl rfl (by decide +kernel)
set_option maxRecDepth 65536 in
theorem w_c26 : (Jvm.Cond.code ({ cls := "java/lang/Math", name := "min", desc := "(II)I" } : Jvm.MethodName) jdk_29_method_69_code (2 : Nat) (Option.some Jvm.ClassFile.FieldType.int)).before args0 about1 = true := code_word (m := ⟨13, 1⟩) (meth := k13m1) (c := k13c1) (by decide +kernel) rfl rfl rfl (by decide +kernel)
set_option maxRecDepth 65536 in
theorem w_c27 : (Jvm.Cond.code ({ cls := "java/lang/String", name := "<init>", desc := "([BB)V" } : Jvm.MethodName) jdk_42_method_151_code (3 : Nat) (Option.none : Option Jvm.ClassFile.FieldType)).before args0 about1 = true := code_word (m := ⟨7, 6⟩) (meth := k7m6) (c := k7c6) (by decide +kernel) rfl rfl rfl (by decide +kernel)
def codes1 : List Jvm.Cond := [Jvm.Cond.code x code maxLocals ret, Jvm.Cond.code ({ cls := "com/example/pennant/pennant/TrlStripBlanksPinLaw", name := "draw", desc := "(I)C" } : Jvm.MethodName) method_2_code (2 : Nat) (Option.some Jvm.ClassFile.FieldType.char), Jvm.Cond.code ({ cls := "java/lang/String", name := "<init>", desc := "([C)V" } : Jvm.MethodName) jdk_42_method_3_code (2 : Nat) (Option.none : Option Jvm.ClassFile.FieldType), Jvm.Cond.code ({ cls := "java/lang/String", name := "<init>", desc := "([CIILjava/lang/Void;)V" } : Jvm.MethodName) jdk_42_method_149_code (6 : Nat) (Option.none : Option Jvm.ClassFile.FieldType), Jvm.Cond.code ({ cls := "java/lang/Object", name := "<init>", desc := "()V" } : Jvm.MethodName) object_method_1_code (1 : Nat) (Option.none : Option Jvm.ClassFile.FieldType), Jvm.Cond.code ({ cls := "com/example/pennant/pennant/Trl", name := "stripBlanks", desc := "(Ljava/lang/String;)Ljava/lang/String;" } : Jvm.MethodName) prog_78_method_9_code (3 : Nat) (Option.some (Jvm.ClassFile.FieldType.object "java/lang/String")), Jvm.Cond.code ({ cls := "java/lang/String", name := "length", desc := "()I" } : Jvm.MethodName) jdk_42_method_54_code (1 : Nat) (Option.some Jvm.ClassFile.FieldType.int), Jvm.Cond.code ({ cls := "java/lang/String", name := "coder", desc := "()B" } : Jvm.MethodName) jdk_42_method_152_code (1 : Nat) (Option.some Jvm.ClassFile.FieldType.byte), Jvm.Cond.code ({ cls := "java/lang/String", name := "substring", desc := "(II)Ljava/lang/String;" } : Jvm.MethodName) jdk_42_method_92_code (5 : Nat) (Option.some (Jvm.ClassFile.FieldType.object "java/lang/String")), Jvm.Cond.code ({ cls := "java/lang/String", name := "checkBoundsBeginEnd", desc := "(III)V" } : Jvm.MethodName) jdk_42_method_158_code (3 : Nat) (Option.none : Option Jvm.ClassFile.FieldType), Jvm.Cond.code ({ cls := "jdk/internal/util/Preconditions", name := "checkFromToIndex", desc := "(IIILjava/util/function/BiFunction;)I" } : Jvm.MethodName) jdk_41_method_12_code (4 : Nat) (Option.some Jvm.ClassFile.FieldType.int), Jvm.Cond.code ({ cls := "com/example/pennant/pennant/TrlStripBlanksPinLaw", name := "solid", desc := "([CII)Z" } : Jvm.MethodName) method_3_code (3 : Nat) (Option.some Jvm.ClassFile.FieldType.boolean), Jvm.Cond.code ({ cls := "com/example/pennant/pennant/TrlStripBlanksPinLaw", name := "at", desc := "(Ljava/lang/String;II[CI)Z" } : Jvm.MethodName) method_4_code (5 : Nat) (Option.some Jvm.ClassFile.FieldType.boolean), Jvm.Cond.code ({ cls := "java/lang/StringUTF16", name := "compress", desc := "([CII)[B" } : Jvm.MethodName) jdk_52_method_16_code (6 : Nat) (Option.some (Jvm.ClassFile.FieldType.array Jvm.ClassFile.FieldType.byte)), Jvm.Cond.code ({ cls := "java/lang/StringUTF16", name := "compress", desc := "([CI[BII)I" } : Jvm.MethodName) jdk_52_method_21_code (7 : Nat) (Option.some Jvm.ClassFile.FieldType.int), Jvm.Cond.code ({ cls := "java/lang/StringUTF16", name := "coderFromArrayLen", desc := "([BI)B" } : Jvm.MethodName) jdk_52_method_15_code (2 : Nat) (Option.some Jvm.ClassFile.FieldType.byte), Jvm.Cond.code ({ cls := "java/lang/String", name := "charAt", desc := "(I)C" } : Jvm.MethodName) jdk_42_method_56_code (2 : Nat) (Option.some Jvm.ClassFile.FieldType.char), Jvm.Cond.code ({ cls := "java/lang/String", name := "isLatin1", desc := "()Z" } : Jvm.MethodName) jdk_42_method_154_code (1 : Nat) (Option.some Jvm.ClassFile.FieldType.boolean), Jvm.Cond.code ({ cls := "java/lang/StringLatin1", name := "charAt", desc := "([BI)C" } : Jvm.MethodName) jdk_43_method_2_code (2 : Nat) (Option.some Jvm.ClassFile.FieldType.char), Jvm.Cond.code ({ cls := "java/lang/String", name := "checkIndex", desc := "(II)V" } : Jvm.MethodName) jdk_42_method_155_code (2 : Nat) (Option.none : Option Jvm.ClassFile.FieldType), Jvm.Cond.code ({ cls := "jdk/internal/util/Preconditions", name := "checkIndex", desc := "(IILjava/util/function/BiFunction;)I" } : Jvm.MethodName) jdk_41_method_11_code (3 : Nat) (Option.some Jvm.ClassFile.FieldType.int), Jvm.Cond.code ({ cls := "com/example/pennant/pennant/Trl", name := "isBlank", desc := "(C)Z" } : Jvm.MethodName) prog_78_method_10_code (1 : Nat) (Option.some Jvm.ClassFile.FieldType.boolean), Jvm.Cond.code ({ cls := "java/lang/StringLatin1", name := "newString", desc := "([BII)Ljava/lang/String;" } : Jvm.MethodName) jdk_43_method_47_code (3 : Nat) (Option.some (Jvm.ClassFile.FieldType.object "java/lang/String")), Jvm.Cond.code ({ cls := "java/util/Arrays", name := "copyOfRange", desc := "([BII)[B" } : Jvm.MethodName) jdk_65_method_132_code (3 : Nat) (Option.some (Jvm.ClassFile.FieldType.array Jvm.ClassFile.FieldType.byte)), Jvm.Cond.code ({ cls := "java/util/Arrays", name := "copyOfRangeByte", desc := "([BII)[B" } : Jvm.MethodName) jdk_65_method_133_code (5 : Nat) (Option.some (Jvm.ClassFile.FieldType.array Jvm.ClassFile.FieldType.byte)), Jvm.Cond.code ({ cls := "java/util/Arrays", name := "checkLength", desc := "(II)V" } : Jvm.MethodName) jdk_65_method_131_code (2 : Nat) (Option.none : Option Jvm.ClassFile.FieldType), Jvm.Cond.code ({ cls := "java/lang/Math", name := "min", desc := "(II)I" } : Jvm.MethodName) jdk_29_method_69_code (2 : Nat) (Option.some Jvm.ClassFile.FieldType.int), Jvm.Cond.code ({ cls := "java/lang/String", name := "<init>", desc := "([BB)V" } : Jvm.MethodName) jdk_42_method_151_code (3 : Nat) (Option.none : Option Jvm.ClassFile.FieldType)]
set_option maxRecDepth 65536 in
theorem codes_eq : words1.filter isCode = codes1 := rfl
theorem w_codes : ∀ c ∈ words1.filter isCode, c.before args0 about1 = true := by
  rw [codes_eq]
  intro c hc
  simp only [codes1, List.mem_cons, List.not_mem_nil, or_false] at hc
  rcases hc with rfl | rfl | rfl | rfl | rfl | rfl | rfl | rfl | rfl | rfl | rfl | rfl | rfl | rfl | rfl | rfl | rfl | rfl | rfl | rfl | rfl | rfl | rfl | rfl | rfl | rfl | rfl | rfl
  · exact w_c0
  · exact w_c1
  · exact w_c2
  · exact w_c3
  · exact w_c4
  · exact w_c5
  · exact w_c6
  · exact w_c7
  · exact w_c8
  · exact w_c9
  · exact w_c10
  · exact w_c11
  · exact w_c12
  · exact w_c13
  · exact w_c14
  · exact w_c15
  · exact w_c16
  · exact w_c17
  · exact w_c18
  · exact w_c19
  · exact w_c20
  · exact w_c21
  · exact w_c22
  · exact w_c23
  · exact w_c24
  · exact w_c25
  · exact w_c26
  · exact w_c27
set_option maxRecDepth 65536 in
theorem w_t1 : (words1.take 24).all (fun c => isCode c || c.before args0 about1) = true := by decide +kernel
set_option maxRecDepth 65536 in
theorem w_t2 : ((words1.drop 24).take 24).all (fun c => isCode c || c.before args0 about1) = true := by decide +kernel
set_option maxRecDepth 65536 in
theorem w_t3 : (((words1.drop 24).drop 24).take 24).all (fun c => isCode c || c.before args0 about1) = true := by decide +kernel
set_option maxRecDepth 65536 in
theorem w_t4 : ((((words1.drop 24).drop 24).drop 24).take 24).all (fun c => isCode c || c.before args0 about1) = true := by decide +kernel
set_option maxRecDepth 65536 in
theorem w_t5 : (((((words1.drop 24).drop 24).drop 24).drop 24).take 24).all (fun c => isCode c || c.before args0 about1) = true := by decide +kernel
set_option maxRecDepth 65536 in
theorem w_t6 : (((((words1.drop 24).drop 24).drop 24).drop 24).drop 24).all (fun c => isCode c || c.before args0 about1) = true := by decide +kernel
theorem w_tables : (allAtoms (Jvm.Cond.code x code maxLocals ret :: tables_1)).before args0 about1 = true := by
  rw [allAtoms_all]
  show words1.all (fun c => c.before args0 about1) = true
  refine all_split ?_ w_codes
  rw [← List.take_append_drop 24 words1, List.all_append, w_t1, ← List.take_append_drop 24 (words1.drop 24), List.all_append, w_t2, ← List.take_append_drop 24 ((words1.drop 24).drop 24), List.all_append, w_t3, ← List.take_append_drop 24 (((words1.drop 24).drop 24).drop 24), List.all_append, w_t4, ← List.take_append_drop 24 ((((words1.drop 24).drop 24).drop 24).drop 24), List.all_append, w_t5, w_t6]
  rfl
set_option maxRecDepth 65536 in
theorem w_rest : rest_1_c.before args0 about1 = true := by decide +kernel
set_option maxRecDepth 65536 in
theorem w_case : (Jvm.Cond.and given_1 narrow_1).before args0 about1 = true := by decide +kernel
set_option maxRecDepth 65536 in
theorem w_consts : constsHeld consts_1 about1 := Jvm.Lit.constsHeldB_iff.mp (by decide +kernel)
theorem w_applies : (headSpec (Jvm.Cond.code x code maxLocals ret :: tables_1) room_1).applies x e0.platform about1 = true :=
  (Spec.applies_iff w_frames).mpr ⟨w_running, w_runnable, w_alone, w_named, w_hears, w_ripe, w_room, w_tables⟩
theorem atStart : AtStart classFile x code maxLocals ret World_1 tables_1 room_1 Calls_1 rest_1 Pre_1 launch0 p0 e0 about1 theMethod args0 below0 :=
  ⟨lists_1, trivial, launch0.admits_env _ _ _, launch0.least_env, fairChoices_fair.cas, fairChoices_fair.clock, w_frames, w_args, w_heap, w_applies, ⟨w_consts, trivial⟩, w_rest, w_case⟩
end start1
theorem witness_1 : WitnessClaimed_1 := ⟨start1.p0, start1.e0, start1.about1, start1.theMethod, start1.args0, start1.below0, start1.atStart⟩
end Jvm.Pilot.@@N@@

