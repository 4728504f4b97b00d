import JvmDerived
import JvmDerived.Pilot.@@N@@Statement
import JvmDerived.Pilot.@@N@@Code
set_option linter.unusedVariables false
set_option linter.unusedSimpArgs false

/- laws to paste: Road.backV (cut by pick.py; bodies as the Statement names them) -/
namespace Jvm.Pilot.@@N@@
namespace StrChars
open Jvm Sem ClassFile Op Lib Jvm.Stand Jvm.Free.XT Jvm.Free.ALB Jvm.Free.JM Jvm.Free
open Jvm.Lib.Cold (StaticIs)
/-- a char array whose places are chars -/
def Ch (a : Addr) (A : Cell) (U : State) : Prop := Arr .char a A U ∧ Typed .char A
theorem Ch.mv {a : Addr} {A : Cell} {U U' : State} (h : Ch a A U) (hal : U.vm.Alike U'.vm) (hh : U'.heap = U.heap) : Ch a A U' := ⟨h.1.mv hal hh, h.2⟩
theorem Ch.keep {a : Addr} {A : Cell} {U U' : State} (h : Ch a A U) (hal : U.vm.Alike U'.vm) (hk : U'.heap[a]? = some A) : Ch a A U' := ⟨h.1.keep hal hk, h.2⟩
/-- what place i of a char[]'s cell holds -/
def cv (A : Cell) (i : Nat) : Int32 := match A.slots[i]? with | some (.int x) => x | _ => 0
theorem Ch.get {a : Addr} {A : Cell} {U : State} (h : Ch a A U) {i : Nat} (hi : i < A.slots.size) : A.slots[i]? = some (.int (cv A i)) := by
  have e := Array.getElem?_eq_getElem hi
  have f := h.2 i _ e
  unfold cv; rw [e]
  generalize A.slots[i] = v at f
  cases v <;> simp [fits] at f ⊢
/-- the byte that i2b leaves of a char -/
def lo8 (x : Int32) : Int32 := x.toInt8.toInt32
theorem fits_lo8 (y : Int32) : fits .byte (.int (lo8 y)) = true := by
  have h1 := y.toInt8.le_toInt
  have h2 := y.toInt8.toInt_lt
  simp only [lo8, fits, Bool.and_eq_true, decide_eq_true_eq, Int32.le_iff_toInt_le, Int8.toInt_toInt32, show (-128 : Int32).toInt = -128 from by decide, show (127 : Int32).toInt = 127 from by decide]
  omega
/-- A' is A but that each place j of lo .. hi - 1 holds f j -/
def Laid (A A' : Cell) (lo hi : Nat) (f : Nat → Value) : Prop := A'.cls = A.cls ∧ A'.vm = A.vm ∧ A'.slots.size = A.slots.size ∧ ∀ i, A'.slots[i]? = if lo ≤ i ∧ i < hi then some (f i) else A.slots[i]?
theorem Laid.zero (A : Cell) (lo : Nat) (f : Nat → Value) : Laid A A lo (lo + 0) f := ⟨rfl, rfl, rfl, fun i => by rw [if_neg (by omega)]⟩
theorem Laid.step {A Ak : Cell} {lo k : Nat} {f : Nat → Value} {v : Value} (h : Laid A Ak lo k f) (hlo : lo ≤ k) (hk : k < Ak.slots.size) (hv : v = f k) : Laid A (Ak.setSlot k v) lo (k + 1) f := by
  refine ⟨h.1, h.2.1, by simpa [Cell.setSlot] using h.2.2.1, fun i => ?_⟩
  by_cases e : k = i
  · subst e; rw [Cell.slots_setSlot_self v hk, if_pos (by omega), hv]
  · rw [Cell.slots_setSlot_ne v e, h.2.2.2 i]
    by_cases q : lo ≤ i ∧ i < k
    · rw [if_pos q, if_pos (by omega)]
    · rw [if_neg q, if_neg (by omega)]
def U16 : String := "java/lang/StringUTF16"
namespace Cmp5
def yN : MethodName := ⟨"java/lang/StringUTF16", "compress", "([CI[BII)I"⟩
abbrev yB : ByteArray := jdk_52_method_21_code
theorem d0 : decode yB 0 = .ok (.iconst 0, 1) := by decide +kernel
theorem d1 : decode yB 1 = .ok (.istore 5, 2) := by decide +kernel
theorem d3 : decode yB 3 = .ok (.iload 5, 2) := by decide +kernel
theorem d5 : decode yB 5 = .ok (.iload 4, 2) := by decide +kernel
theorem d7 : decode yB 7 = .ok (.if_icmp (.ge) 37, 3) := by decide +kernel
theorem d10 : decode yB 10 = .ok (.aload_n 0, 1) := by decide +kernel
theorem d11 : decode yB 11 = .ok (.iload_n 1, 1) := by decide +kernel
theorem d12 : decode yB 12 = .ok (.caload, 1) := by decide +kernel
theorem d13 : decode yB 13 = .ok (.istore 6, 2) := by decide +kernel
theorem d15 : decode yB 15 = .ok (.iload 6, 2) := by decide +kernel
theorem d17 : decode yB 17 = .ok (.sipush 255, 3) := by decide +kernel
theorem d20 : decode yB 20 = .ok (.if_icmp (.le) 6, 3) := by decide +kernel
theorem d26 : decode yB 26 = .ok (.aload_n 2, 1) := by decide +kernel
theorem d27 : decode yB 27 = .ok (.iload_n 3, 1) := by decide +kernel
theorem d28 : decode yB 28 = .ok (.iload 6, 2) := by decide +kernel
theorem d30 : decode yB 30 = .ok (.i2b, 1) := by decide +kernel
theorem d31 : decode yB 31 = .ok (.bastore, 1) := by decide +kernel
theorem d32 : decode yB 32 = .ok (.iinc 1 1, 3) := by decide +kernel
theorem d35 : decode yB 35 = .ok (.iinc 3 1, 3) := by decide +kernel
theorem d38 : decode yB 38 = .ok (.iinc 5 1, 3) := by decide +kernel
theorem d41 : decode yB 41 = .ok (.goto (-38), 3) := by decide +kernel
theorem d44 : decode yB 44 = .ok (.iload 4, 2) := by decide +kernel
theorem d46 : decode yB 46 = .ok (.ireturn, 1) := by decide +kernel
def site : List Cond := []
def tab : Cond := tabOf yN yB 7 (some .int) site
def P (b : Addr) (A : Cell) (d : Addr) (B : Cell) (o q len : Nat) (args : Array Value) (s : State) : Prop := args = #[.ref b, .int (Int32.ofNat o), .ref d, .int (Int32.ofNat q), .int (Int32.ofNat len)] ∧ Ch b A s ∧ Arr .byte d B s ∧ b ≠ d ∧ o + len ≤ A.slots.size ∧ q + len ≤ B.slots.size ∧ ∀ i, i < len → ¬ 255 < cv A (o + i)
def E (b : Addr) (A : Cell) (d : Addr) (B : Cell) (o q len : Nat) (r : Option Value) (s u : State) : Prop := r = some (.int (Int32.ofNat len)) ∧ ∃ B', Put d B' s u ∧ Laid B B' q (q + len) (fun j => Value.int (lo8 (cv A (o + (j - q)))))
/-- no char of the range above 255: len; the places written hold each char's low byte -/
theorem law (l : Launch) (b : Addr) (A : Cell) (d : Addr) (B : Cell) (o q len : Nat) : Law l yN 5 5 0 0 yB 7 (some .int) site (P b A d B o q len) (E b A d B o q len) (copyLocs d q len) 0 0 := by
  refine Law.of_walk (plainFor_of_name (by decide +kernel)) (by decide +kernel) (by decide +kernel) (by decide) (fun _ _ h => by rw [h.1]; rfl) (fun _ U U' hal hh h => ⟨h.1, h.2.1.mv hal hh, h.2.2.1.mv hal hh, h.2.2.2⟩) (fun r U U' V V' h1 hal h2 h => ⟨h.1, h.2.elim fun B' q => ⟨B', q.1.mv h1 h2, q.2⟩⟩) ?_
  intro p e s m args below meth c s₁ X0 hexec hbytes hml hret hlk hnm hown hh0 W hP
  obtain ⟨rfl, hA, hB, hne, l1, l2, hp⟩ := hP
  have c1 : Steps p.tables e below (s₁.setTop (entryFrame m #[.ref b, .int (Int32.ofNat o), .ref d, .int (Int32.ofNat q), .int (Int32.ofNat len)] 7)) (s₁.setTop (mkF m 0 #[.val (.ref b), .val (.int (Int32.ofNat o)), .val (.ref d), .val (.int (Int32.ofNat q)), .val (.int (Int32.ofNat len)), .unset, .unset] [])) := entry rfl
  have hA0 := hA.1.mv X0.warmed.alike hh0
  have hB0 := hB.mv X0.warmed.alike hh0
  have a31 := hA.1.2.2.2
  have c2 : Steps p.tables e below (s₁.setTop (entryFrame m #[.ref b, .int (Int32.ofNat o), .ref d, .int (Int32.ofNat q), .int (Int32.ofNat len)] 7)) (s₁.setTop (mkF m 3 #[.val (.ref b), .val (.int (Int32.ofNat o)), .val (.ref d), .val (.int (Int32.ofNat q)), .val (.int (Int32.ofNat len)), .val (.int 0), .unset] [])) := c1.trans (by
    refine iconstV X0.here hexec rfl 0 (hb hbytes d0) (by decide) ?_
    refine XS.istore X0.here hexec rfl (hb hbytes d1) rfl rfl ?_
    exact Steps.refl _)
  have loop : ∀ (r i : Nat), i + r = len → ∀ (z : Slot), (z = .unset ∨ ∃ w, z = .val w ∧ w.category = 1) → ∀ (Tl : State) (Bk : Cell), Stand p l e { frames := 0, locals := 0, cells := 0, slots := 0 } s m #[.ref b, .int (Int32.ofNat o), .ref d, .int (Int32.ofNat q), .int (Int32.ofNat len)] below meth c Tl ([] ++ copyLocs d q i) 0 0 → Put d Bk s₁ Tl → Laid B Bk q (q + i) (fun j => Value.int (lo8 (cv A (o + (j - q))))) →
      Steps p.tables e below (s₁.setTop (entryFrame m #[.ref b, .int (Int32.ofNat o), .ref d, .int (Int32.ofNat q), .int (Int32.ofNat len)] 7)) (Tl.setTop (mkF m 3 #[.val (.ref b), .val (.int (Int32.ofNat (o + i))), .val (.ref d), .val (.int (Int32.ofNat (q + i))), .val (.int (Int32.ofNat len)), .val (.int (Int32.ofNat i)), z] [])) → ∃ (T' : State) (B' : Cell) (z' : Slot), Stand p l e { frames := 0, locals := 0, cells := 0, slots := 0 } s m #[.ref b, .int (Int32.ofNat o), .ref d, .int (Int32.ofNat q), .int (Int32.ofNat len)] below meth c T' ([] ++ copyLocs d q len) 0 0 ∧ Put d B' s₁ T' ∧ Laid B B' q (q + len) (fun j => Value.int (lo8 (cv A (o + (j - q))))) ∧
      Steps p.tables e below (s₁.setTop (entryFrame m #[.ref b, .int (Int32.ofNat o), .ref d, .int (Int32.ofNat q), .int (Int32.ofNat len)] 7)) (T'.setTop (mkF m 3 #[.val (.ref b), .val (.int (Int32.ofNat (o + len))), .val (.ref d), .val (.int (Int32.ofNat (q + len))), .val (.int (Int32.ofNat len)), .val (.int (Int32.ofNat len)), z'] [])) := by
    intro r
    induction r with
    | zero =>
      intro i hi z hz Tl Bk Xl pl fl cl
      have hil : i = len := by omega
      rw [hil] at Xl fl cl
      exact ⟨Tl, Bk, z, Xl, pl, fl, cl⟩
    | succ r ih =>
      intro i hi z hz Tl Bk Xl pl fl cl
      have all := X0.warmed.alike.symm.trans Xl.warmed.alike
      have hAl := hA0.keep all (pl.other hne hA0.1)
      have hBk := hB0.like all pl.1 fl.1 fl.2.1 fl.2.2.1
      have hlt : q + i < Bk.slots.size := by rw [fl.2.2.1]; omega
      have c3 : Steps p.tables e below (s₁.setTop (entryFrame m #[.ref b, .int (Int32.ofNat o), .ref d, .int (Int32.ofNat q), .int (Int32.ofNat len)] 7)) (Tl.setTop (mkF m 12 #[.val (.ref b), .val (.int (Int32.ofNat (o + i))), .val (.ref d), .val (.int (Int32.ofNat (q + i))), .val (.int (Int32.ofNat len)), .val (.int (Int32.ofNat i)), z] [.int (Int32.ofNat (o + i)), .ref b])) := cl.trans (by
        refine XS.iload Xl.here hexec rfl (hb hbytes d3) rfl ?_
        refine XS.iload Xl.here hexec rfl (hb hbytes d5) rfl ?_
        refine XS.icmpNo Xl.here hexec rfl (hb hbytes d7) rfl (ii_ge_f (lt32 (by omega) (by omega))) ?_
        refine XS.aloadN Xl.here hexec rfl (hb hbytes d10) rfl rfl ?_
        refine XS.iloadN Xl.here hexec rfl (hb hbytes d11) rfl ?_
        exact Steps.refl _)
      have c4 : Steps p.tables e below (s₁.setTop (entryFrame m #[.ref b, .int (Int32.ofNat o), .ref d, .int (Int32.ofNat q), .int (Int32.ofNat len)] 7)) (Tl.setTop (mkF m 13 #[.val (.ref b), .val (.int (Int32.ofNat (o + i))), .val (.ref d), .val (.int (Int32.ofNat (q + i))), .val (.int (Int32.ofNat len)), .val (.int (Int32.ofNat i)), z] [.int (cv A (o + i))])) := c3.trans (by
        refine Xl.aget hexec hAl rfl (hA.get (i := o + i) (by omega)) rfl rfl (hb hbytes d12) ?_
        exact Steps.refl _)
      have c5 : Steps p.tables e below (s₁.setTop (entryFrame m #[.ref b, .int (Int32.ofNat o), .ref d, .int (Int32.ofNat q), .int (Int32.ofNat len)] 7)) (Tl.setTop (mkF m 15 #[.val (.ref b), .val (.int (Int32.ofNat (o + i))), .val (.ref d), .val (.int (Int32.ofNat (q + i))), .val (.int (Int32.ofNat len)), .val (.int (Int32.ofNat i)), .val (.int (cv A (o + i)))] [])) := c4.trans (by
        refine XS.istoreS Xl.here hexec rfl (hb hbytes d13) rfl rfl hz ?_
        exact Steps.refl _)
      have c6 : Steps p.tables e below (s₁.setTop (entryFrame m #[.ref b, .int (Int32.ofNat o), .ref d, .int (Int32.ofNat q), .int (Int32.ofNat len)] 7)) (Tl.setTop (mkF m 31 #[.val (.ref b), .val (.int (Int32.ofNat (o + i))), .val (.ref d), .val (.int (Int32.ofNat (q + i))), .val (.int (Int32.ofNat len)), .val (.int (Int32.ofNat i)), .val (.int (cv A (o + i)))] [.int (lo8 (cv A (o + i))), .int (Int32.ofNat (q + i)), .ref d])) := c5.trans (by
        refine XS.iload Xl.here hexec rfl (hb hbytes d15) rfl ?_
        refine sipushV Xl.here hexec rfl 255 (hb hbytes d17) (by decide) ?_
        refine XS.icmpYes Xl.here hexec rfl (pc0 := 20) rfl (hb hbytes d20) rfl (ii_le_t (hp i (by omega))) (by decide) rfl ?_
        refine XS.aloadN Xl.here hexec rfl (hb hbytes d26) rfl rfl ?_
        refine XS.iloadN Xl.here hexec rfl (hb hbytes d27) rfl ?_
        refine XS.iload Xl.here hexec rfl (hb hbytes d28) rfl ?_
        refine i2b Xl.here hexec rfl (hb hbytes d30) rfl ?_
        exact Steps.refl _)
      obtain ⟨T7, X7, p7, st7⟩ := Xl.aput hexec hBk rfl hlt rfl (fits_lo8 (cv A (o + i))) (g := (mkF m 31 #[.val (.ref b), .val (.int (Int32.ofNat (o + i))), .val (.ref d), .val (.int (Int32.ofNat (q + i))), .val (.int (Int32.ofNat len)), .val (.int (Int32.ofNat i)), .val (.int (cv A (o + i)))] [.int (lo8 (cv A (o + i))), .int (Int32.ofNat (q + i)), .ref d])) rfl (rest := []) rfl (hb hbytes d31)
      have c8 : Steps p.tables e below (s₁.setTop (entryFrame m #[.ref b, .int (Int32.ofNat o), .ref d, .int (Int32.ofNat q), .int (Int32.ofNat len)] 7)) (T7.setTop (mkF m 32 #[.val (.ref b), .val (.int (Int32.ofNat (o + i))), .val (.ref d), .val (.int (Int32.ofNat (q + i))), .val (.int (Int32.ofNat len)), .val (.int (Int32.ofNat i)), .val (.int (cv A (o + i)))] [])) := c6.trans (st7 _ (Steps.refl _))
      have c9 : Steps p.tables e below (s₁.setTop (entryFrame m #[.ref b, .int (Int32.ofNat o), .ref d, .int (Int32.ofNat q), .int (Int32.ofNat len)] 7)) (T7.setTop (mkF m 3 #[.val (.ref b), .val (.int (Int32.ofNat (o + i) + 1)), .val (.ref d), .val (.int (Int32.ofNat (q + i) + 1)), .val (.int (Int32.ofNat len)), .val (.int (Int32.ofNat i + 1)), .val (.int (cv A (o + i)))] [])) := c8.trans (by
        refine iincV X7.here hexec rfl 1 (hb hbytes d32) (by decide) rfl rfl ?_
        refine iincV X7.here hexec rfl 1 (hb hbytes d35) (by decide) rfl rfl ?_
        refine iincV X7.here hexec rfl 1 (hb hbytes d38) (by decide) rfl rfl ?_
        refine XS.goto X7.here hexec rfl (pc0 := 41) rfl (hb hbytes d41) (by decide) rfl ?_
        exact Steps.refl _)
      have c10 : Steps p.tables e below (s₁.setTop (entryFrame m #[.ref b, .int (Int32.ofNat o), .ref d, .int (Int32.ofNat q), .int (Int32.ofNat len)] 7)) (T7.setTop (mkF m 3 #[.val (.ref b), .val (.int (Int32.ofNat (o + (i + 1)))), .val (.ref d), .val (.int (Int32.ofNat (q + (i + 1)))), .val (.int (Int32.ofNat len)), .val (.int (Int32.ofNat (i + 1))), .val (.int (cv A (o + i)))] [])) := by
        have := c9
        rw [succ32, succ32, succ32] at this
        exact this
      exact ih (i + 1) (by omega) _ (Or.inr ⟨_, rfl, rfl⟩) T7 _ (by rw [copyLocs_step, ← List.append_assoc]; exact X7) (pl.trans p7) (fl.step (by omega) hlt (by simp)) c10
  obtain ⟨T9, B9, z9, X9, p9, f9, g9⟩ := loop len 0 (by omega) .unset (Or.inl rfl) s₁ B (by simpa [copyLocs] using X0) ⟨hB0.1, fun _ _ => rfl, rfl⟩ (Laid.zero _ _ _) c2
  have c11 : Steps p.tables e below (s₁.setTop (entryFrame m #[.ref b, .int (Int32.ofNat o), .ref d, .int (Int32.ofNat q), .int (Int32.ofNat len)] 7)) (T9.setTop (mkF m 46 #[.val (.ref b), .val (.int (Int32.ofNat (o + len))), .val (.ref d), .val (.int (Int32.ofNat (q + len))), .val (.int (Int32.ofNat len)), .val (.int (Int32.ofNat len)), z9] [.int (Int32.ofNat len)])) := g9.trans (by
    refine XS.iload X9.here hexec rfl (hb hbytes d3) rfl ?_
    refine XS.iload X9.here hexec rfl (hb hbytes d5) rfl ?_
    refine XS.icmpYes X9.here hexec rfl (pc0 := 7) rfl (hb hbytes d7) rfl (ii_ge_t (nlt32 (by omega) (Nat.le_refl _))) (by decide) rfl ?_
    refine XS.iload X9.here hexec rfl (hb hbytes d44) rfl ?_
    exact Steps.refl _)
  exact ⟨T9, some (.int (Int32.ofNat len)), _, _, _, X9, by simp, rfl, rfl, (fun h => by cases h), ⟨rfl, B9, p9.from hh0, f9⟩, fun fs hl => c11.trans (X9.ireturnOut hexec hret rfl (Or.inl rfl) (hb hbytes d46) hl)⟩
end Cmp5
namespace Cmp3
def yN : MethodName := ⟨"java/lang/StringUTF16", "compress", "([CII)[B"⟩
abbrev yB : ByteArray := jdk_52_method_16_code
theorem d0 : decode yB 0 = .ok (.iload_n 2, 1) := by decide +kernel
theorem d1 : decode yB 1 = .ok (.newarray .byte, 2) := by decide +kernel
theorem d3 : decode yB 3 = .ok (.astore_n 3, 1) := by decide +kernel
theorem d4 : decode yB 4 = .ok (.aload_n 0, 1) := by decide +kernel
theorem d5 : decode yB 5 = .ok (.iload_n 1, 1) := by decide +kernel
theorem d6 : decode yB 6 = .ok (.aload_n 3, 1) := by decide +kernel
theorem d7 : decode yB 7 = .ok (.iconst 0, 1) := by decide +kernel
theorem d8 : decode yB 8 = .ok (.iload_n 2, 1) := by decide +kernel
theorem d9 : decode yB 9 = .ok (.invokestatic 115, 3) := by decide +kernel
theorem d12 : decode yB 12 = .ok (.istore 4, 2) := by decide +kernel
theorem d14 : decode yB 14 = .ok (.iload 4, 2) := by decide +kernel
theorem d16 : decode yB 16 = .ok (.iload_n 2, 1) := by decide +kernel
theorem d17 : decode yB 17 = .ok (.if_icmp (.eq) 40, 3) := by decide +kernel
theorem d57 : decode yB 57 = .ok (.aload_n 3, 1) := by decide +kernel
theorem d58 : decode yB 58 = .ok (.areturn, 1) := by decide +kernel
def site : List Cond := [.arrayClass .byte, Cmp5.tab] ++ staticW U16 115 Cmp5.yN
def tab : Cond := tabOf yN yB 6 (some (.array .byte)) site
def P (b : Addr) (A : Cell) (o len : Nat) (args : Array Value) (s : State) : Prop := args = #[.ref b, .int (Int32.ofNat o), .int (Int32.ofNat len)] ∧ Ch b A s ∧ o + len ≤ A.slots.size ∧ len ≤ 536870912 ∧ ∀ i, i < len → ¬ 255 < cv A (o + i)
def E (b : Addr) (A : Cell) (o len : Nat) (r : Option Value) (s u : State) : Prop := NewArr .byte "[B" len (fun j => .int (lo8 (cv A (o + j)))) r s u ∧ u.heap.size = s.heap.size + 1
/-- no char of the range above 255: a new byte[] of their low bytes -/
theorem law (l : Launch) (b : Addr) (A : Cell) (o len : Nat) : Law l yN 3 3 1 18 yB 6 (some (.array .byte)) site (P b A o len) (E b A o len) [] 1 len := by
  refine Law.of_walk (plainFor_of_name (by decide +kernel)) (by decide +kernel) (by decide +kernel) (by decide) (fun _ _ h => by rw [h.1]; rfl) (fun _ U U' hal hh h => ⟨h.1, h.2.1.mv hal hh, h.2.2⟩) (fun r U U' V V' h1 hal h2 h => ⟨NewArr.mv r U U' V V' h1 hal h2 h.1, by rw [h1, h2]; exact h.2⟩) ?_
  intro p e s m args below meth c s₁ X0 hexec hbytes hml hret hlk hnm hown hh0 W hP
  obtain ⟨rfl, hA, l1, l2, hp⟩ := hP
  have a31 := hA.1.2.2.2
  have c1 : Steps p.tables e below (s₁.setTop (entryFrame m #[.ref b, .int (Int32.ofNat o), .int (Int32.ofNat len)] 6)) (s₁.setTop (mkF m 0 #[.val (.ref b), .val (.int (Int32.ofNat o)), .val (.int (Int32.ofNat len)), .unset, .unset, .unset] [])) := entry rfl
  have c2 : Steps p.tables e below (s₁.setTop (entryFrame m #[.ref b, .int (Int32.ofNat o), .int (Int32.ofNat len)] 6)) (s₁.setTop (mkF m 1 #[.val (.ref b), .val (.int (Int32.ofNat o)), .val (.int (Int32.ofNat len)), .unset, .unset, .unset] [.int (Int32.ofNat len)])) := c1.trans (by
    refine XS.iloadN X0.here hexec rfl (hb hbytes d0) rfl ?_
    exact Steps.refl _)
  obtain ⟨T3, B3, X3, ba3, bs3, bv3, bh3, bf3, st3⟩ := X0.anew hexec (atype := .byte) (wk W (.arrayClass .byte)) rfl (by show len * 1 ≤ _; omega) (by omega) (g := (mkF m 1 #[.val (.ref b), .val (.int (Int32.ofNat o)), .val (.int (Int32.ofNat len)), .unset, .unset, .unset] [.int (Int32.ofNat len)])) rfl (hb hbytes d1) (rest := []) rfl (Nat.le_refl _) (by show 0 + len ≤ len; omega)
  rw [hh0] at ba3 st3
  have kp3 : XT.Kept s T3 := (XT.Kept.of_eq hh0).push bh3
  have hA3 := hA.keep X3.warmed.alike (kp3 _ _ hA.1.1)
  have hne : b ≠ s.heap.size := hA.1.ne
  have c4 : Steps p.tables e below (s₁.setTop (entryFrame m #[.ref b, .int (Int32.ofNat o), .int (Int32.ofNat len)] 6)) (T3.setTop (mkF m 3 #[.val (.ref b), .val (.int (Int32.ofNat o)), .val (.int (Int32.ofNat len)), .unset, .unset, .unset] [.ref s.heap.size])) := c2.trans (st3 _ (Steps.refl _))
  have c5 : Steps p.tables e below (s₁.setTop (entryFrame m #[.ref b, .int (Int32.ofNat o), .int (Int32.ofNat len)] 6)) (T3.setTop (mkF m 9 #[.val (.ref b), .val (.int (Int32.ofNat o)), .val (.int (Int32.ofNat len)), .val (.ref s.heap.size), .unset, .unset] [.int (Int32.ofNat len), .int 0, .ref s.heap.size, .int (Int32.ofNat o), .ref b])) := c4.trans (by
    refine XS.astoreN X3.here hexec rfl (hb hbytes d3) rfl rfl rfl ?_
    refine XS.aloadN X3.here hexec rfl (hb hbytes d4) rfl rfl ?_
    refine XS.iloadN X3.here hexec rfl (hb hbytes d5) rfl ?_
    refine XS.aloadN X3.here hexec rfl (hb hbytes d6) rfl rfl ?_
    refine iconstV X3.here hexec rfl 0 (hb hbytes d7) (by decide) ?_
    refine XS.iloadN X3.here hexec rfl (hb hbytes d8) rfl ?_
    exact Steps.refl _)
  obtain ⟨v6, T6, X6, E6, g6⟩ := X3.callS hexec (Cmp5.law l b A s.heap.size B3 o 0 len) hown (wks W (staticW U16 115 Cmp5.yN)) (wk W Cmp5.tab) (W := 0) (Nat.le_of_ble_eq_true rfl) (Nat.le_of_ble_eq_true rfl) (Nat.le_refl _) (by show 0 + len + 0 ≤ len; omega) (g := (mkF m 9 #[.val (.ref b), .val (.int (Int32.ofNat o)), .val (.int (Int32.ofNat len)), .val (.ref s.heap.size), .unset, .unset] [.int (Int32.ofNat len), .int (Int32.ofNat 0), .ref s.heap.size, .int (Int32.ofNat o), .ref b])) rfl (by rw [hml]; rfl) c5 (argsL := [.ref b, .int (Int32.ofNat o), .ref s.heap.size, .int (Int32.ofNat 0), .int (Int32.ofNat len)]) (rest := []) rfl rfl (by show 2 * 0 + 0 ≤ _; decide) (hb hbytes d9) (⟨rfl, hA3, ba3, hne, l1, by rw [bs3]; simp, hp⟩)
  obtain ⟨rfl, B6, p6, f6⟩ := E6
  have c7 : Steps p.tables e below (s₁.setTop (entryFrame m #[.ref b, .int (Int32.ofNat o), .int (Int32.ofNat len)] 6)) (T6.setTop (mkF m 12 #[.val (.ref b), .val (.int (Int32.ofNat o)), .val (.int (Int32.ofNat len)), .val (.ref s.heap.size), .unset, .unset] [.int (Int32.ofNat len)])) := g6
  have c8 : Steps p.tables e below (s₁.setTop (entryFrame m #[.ref b, .int (Int32.ofNat o), .int (Int32.ofNat len)] 6)) (T6.setTop (mkF m 58 #[.val (.ref b), .val (.int (Int32.ofNat o)), .val (.int (Int32.ofNat len)), .val (.ref s.heap.size), .val (.int (Int32.ofNat len)), .unset] [.ref s.heap.size])) := c7.trans (by
    refine XS.istore X6.here hexec rfl (hb hbytes d12) rfl rfl ?_
    refine XS.iload X6.here hexec rfl (hb hbytes d14) rfl ?_
    refine XS.iloadN X6.here hexec rfl (hb hbytes d16) rfl ?_
    refine XS.icmpYes X6.here hexec rfl (pc0 := 17) rfl (hb hbytes d17) rfl (ii_eq_t rfl) (by decide) rfl ?_
    refine XS.aloadN X6.here hexec rfl (hb hbytes d57) rfl rfl ?_
    exact Steps.refl _)
  have X8 := X6.wide (L' := []) (cells' := 1) (slots' := len) (fun x hx hlt => by
    simp only [List.nil_append, copyLocs, List.mem_map, List.mem_range] at hx
    obtain ⟨i, -, rfl⟩ := hx
    exact absurd hlt (Nat.lt_irrefl _)) (Nat.le_refl _) (by omega)
  exact ⟨T6, some (.ref s.heap.size), _, _, _, X8, rfl, rfl, rfl, (fun h => by cases h), ⟨⟨rfl, B6, ba3.like (X3.warmed.alike.symm.trans X6.warmed.alike) p6.1 f6.1 f6.2.1 f6.2.2.1, f6.2.1.trans bv3, by rw [X6.warmed.alike.findClass, f6.1]; exact bf3, by rw [f6.2.2.1, bs3]; simp, fun j hj => by rw [f6.2.2.2 j, if_pos (by omega)]; rfl, kp3.put p6 (Nat.le_refl _)⟩, by rw [p6.2.2, bh3, hh0]; simp⟩, fun fs hl => c8.trans (X8.areturnOut hexec rfl hret rfl (hb hbytes d58) hl)⟩
end Cmp3
namespace CodL
def yN : MethodName := ⟨"java/lang/StringUTF16", "coderFromArrayLen", "([BI)B"⟩
abbrev yB : ByteArray := jdk_52_method_15_code
theorem d0 : decode yB 0 = .ok (.iload_n 1, 1) := by decide +kernel
theorem d1 : decode yB 1 = .ok (.aload_n 0, 1) := by decide +kernel
theorem d2 : decode yB 2 = .ok (.arraylength, 1) := by decide +kernel
theorem d3 : decode yB 3 = .ok (.isub, 1) := by decide +kernel
theorem d4 : decode yB 4 = .ok (.bipush 31, 2) := by decide +kernel
theorem d6 : decode yB 6 = .ok (.iushr, 1) := by decide +kernel
theorem d7 : decode yB 7 = .ok (.i2b, 1) := by decide +kernel
theorem d8 : decode yB 8 = .ok (.ireturn, 1) := by decide +kernel
def site : List Cond := []
def tab : Cond := tabOf yN yB 2 (some .byte) site
def P (d : Addr) (B : Cell) (args : Array Value) (s : State) : Prop := args = #[.ref d, .int (Int32.ofNat B.slots.size)] ∧ Arr .byte d B s
def E (r : Option Value) (s u : State) : Prop := XT.PureE (some (.int 0)) r s u
/-- an array as long as the number of chars: LATIN1 -/
theorem law (l : Launch) (d : Addr) (B : Cell) : Law l yN 2 2 0 0 yB 2 (some .byte) site (P d B) E [] 0 0 := by
  refine Law.of_walk (plainFor_of_name (by decide +kernel)) (by decide +kernel) (by decide +kernel) (by decide) (fun _ _ h => by rw [h.1]; rfl) (fun _ U U' hal hh h => ⟨h.1, h.2.mv hal hh⟩) (fun r U U' V V' h1 hal h2 h => XT.PureE.mv r U U' V V' h1 hal h2 h) ?_
  intro p e s m args below meth c s₁ X0 hexec hbytes hml hret hlk hnm hown hh0 W hP
  obtain ⟨rfl, hB⟩ := hP
  have hB0 := hB.mv X0.warmed.alike hh0
  have c1 : Steps p.tables e below (s₁.setTop (entryFrame m #[.ref d, .int (Int32.ofNat B.slots.size)] 2)) (s₁.setTop (mkF m 0 #[.val (.ref d), .val (.int (Int32.ofNat B.slots.size))] [])) := entry rfl
  have c2 : Steps p.tables e below (s₁.setTop (entryFrame m #[.ref d, .int (Int32.ofNat B.slots.size)] 2)) (s₁.setTop (mkF m 2 #[.val (.ref d), .val (.int (Int32.ofNat B.slots.size))] [.ref d, .int (Int32.ofNat B.slots.size)])) := c1.trans (by
    refine XS.iloadN X0.here hexec rfl (hb hbytes d0) rfl ?_
    refine XS.aloadN X0.here hexec rfl (hb hbytes d1) rfl rfl ?_
    exact Steps.refl _)
  have c3 : Steps p.tables e below (s₁.setTop (entryFrame m #[.ref d, .int (Int32.ofNat B.slots.size)] 2)) (s₁.setTop (mkF m 8 #[.val (.ref d), .val (.int (Int32.ofNat B.slots.size))] [.int (lo8 (ushr (Int32.ofNat B.slots.size - Int32.ofNat B.slots.size) 31))])) := c2.trans (by
    refine X0.alen hexec hB0 rfl rfl (hb hbytes d2) ?_
    refine XS.isub X0.here hexec rfl (hb hbytes d3) rfl ?_
    refine bipushV X0.here hexec rfl 31 (hb hbytes d4) (by decide) ?_
    refine iushr X0.here hexec rfl (hb hbytes d6) rfl ?_
    refine i2b X0.here hexec rfl (hb hbytes d7) rfl ?_
    exact Steps.refl _)
  have e0 : lo8 (ushr (Int32.ofNat B.slots.size - Int32.ofNat B.slots.size) 31) = 0 := by rw [Int32.sub_self]; decide
  rw [e0] at c3
  exact ⟨s₁, some (.int 0), _, _, _, X0, rfl, rfl, rfl, (fun h => by cases h), ⟨rfl, hh0⟩, fun fs hl => c3.trans (X0.ireturnOut hexec hret rfl (Or.inr (Or.inr (Or.inl rfl))) (hb hbytes d8) hl)⟩
end CodL
/-- the String at a is Latin-1 over a new byte[] (the heap's one new cell): the low bytes of the len chars of A from o on; every cell but a is kept -/
def Got (a : Addr) (D : Cell) (fV fC : Field) (A : Cell) (o len : Nat) (r : Option Value) (s u : State) : Prop := r = none ∧ ∃ D' V : Cell, Blank "java/lang/String" a D' u ∧ Same D D' [fV.slot, fC.slot] ∧ D'.slots[fV.slot]? = some (.ref s.heap.size) ∧ D'.slots[fC.slot]? = some (.int 0) ∧ Arr .byte s.heap.size V u ∧ V.vm = .none ∧ u.vm.findClass "[B" = some V.cls ∧ V.slots.size = len ∧ (∀ j, j < len → V.slots[j]? = some (.int (lo8 (cv A (o + j))))) ∧ (∀ (y : Addr) (c : Cell), y ≠ a → s.heap[y]? = some c → u.heap[y]? = some c) ∧ u.heap.size = s.heap.size + 1
theorem Got.mv {a : Addr} {D A : Cell} {fV fC : Field} {o len : Nat} : ∀ r (U U' V V' : State), U'.heap = U.heap → V.vm.Alike V'.vm → V'.heap = V.heap → Got a D fV fC A o len r U V → Got a D fV fC A o len r U' V' :=
  fun r U U' V V' h1 hal h2 ⟨e0, D', X, a1, a2, a3, a4, a5, a6, a7, a8, a9, a10, a11⟩ => ⟨e0, D', X, a1.mv hal h2, a2, by rw [h1]; exact a3, a4, by rw [h1]; exact a5.mv hal h2, a6, by rw [hal.findClass]; exact a7, a8, a9, by rw [h1, h2]; exact a10, by rw [h1, h2]; exact a11⟩
namespace New4
def yN : MethodName := ⟨"java/lang/String", "<init>", "([CIILjava/lang/Void;)V"⟩
abbrev yB : ByteArray := jdk_42_method_149_code
theorem d0 : decode yB 0 = .ok (.aload_n 0, 1) := by decide +kernel
theorem d1 : decode yB 1 = .ok (.invokespecial 1, 3) := by decide +kernel
theorem d4 : decode yB 4 = .ok (.iload_n 3, 1) := by decide +kernel
theorem d5 : decode yB 5 = .ok (.ifCond (.ne) 22, 3) := by decide +kernel
theorem d27 : decode yB 27 = .ok (.getstatic 38, 3) := by decide +kernel
theorem d30 : decode yB 30 = .ok (.ifCond (.eq) 28, 3) := by decide +kernel
theorem d33 : decode yB 33 = .ok (.aload_n 1, 1) := by decide +kernel
theorem d34 : decode yB 34 = .ok (.iload_n 2, 1) := by decide +kernel
theorem d35 : decode yB 35 = .ok (.iload_n 3, 1) := by decide +kernel
theorem d36 : decode yB 36 = .ok (.invokestatic 177, 3) := by decide +kernel
theorem d39 : decode yB 39 = .ok (.astore 5, 2) := by decide +kernel
theorem d41 : decode yB 41 = .ok (.aload_n 0, 1) := by decide +kernel
theorem d42 : decode yB 42 = .ok (.aload 5, 2) := by decide +kernel
theorem d44 : decode yB 44 = .ok (.iload_n 3, 1) := by decide +kernel
theorem d45 : decode yB 45 = .ok (.invokestatic 47, 3) := by decide +kernel
theorem d48 : decode yB 48 = .ok (.putfield 15, 3) := by decide +kernel
theorem d51 : decode yB 51 = .ok (.aload_n 0, 1) := by decide +kernel
theorem d52 : decode yB 52 = .ok (.aload 5, 2) := by decide +kernel
theorem d54 : decode yB 54 = .ok (.putfield 9, 3) := by decide +kernel
theorem d57 : decode yB 57 = .ok (.return_, 1) := by decide +kernel
def site : List Cond := [.fieldLink "java/lang/String" 38 "java/lang/String" "COMPACT_STRINGS" "Z", Cmp3.tab, CodL.tab, .laysFinal "java/lang/String" "java/lang/String" "value" "[B", .fieldLink "java/lang/String" 9 "java/lang/String" "value" "[B", .laysFinal "java/lang/String" "java/lang/String" "coder" "B", .fieldLink "java/lang/String" 15 "java/lang/String" "coder" "B"] ++ objW "java/lang/String" 1 ++ staticW "java/lang/String" 177 Cmp3.yN ++ staticW "java/lang/String" 47 CodL.yN
def tab : Cond := tabOf yN yB 6 none site
def P (a : Addr) (D : Cell) (fV fC : Field) (b : Addr) (A : Cell) (z : Int32) (o len : Nat) (args : Array Value) (s : State) : Prop := args = #[.ref a, .ref b, .int (Int32.ofNat o), .int (Int32.ofNat len), .null] ∧ Blank "java/lang/String" a D s ∧ Found "java/lang/String" "value" "[B" fV s ∧ Found "java/lang/String" "coder" "B" fC s ∧ Ch b A s ∧ StaticIs s "java/lang/String" "COMPACT_STRINGS" "Z" (.int z) ∧ ¬ z = 0 ∧ 0 < len ∧ o + len ≤ A.slots.size ∧ len ≤ 536870912 ∧ ∀ i, i < len → ¬ 255 < cv A (o + i)
def E (a : Addr) (D : Cell) (fV fC : Field) (A : Cell) (o len : Nat) (r : Option Value) (s u : State) : Prop := Got a D fV fC A o len r s u
/-- len > 0, no char of the range above 255: a Latin-1 String of their low bytes -/
theorem law (l : Launch) (a : Addr) (D : Cell) (fV fC : Field) (b : Addr) (A : Cell) (z : Int32) (o len : Nat) : Law l yN 5 4 2 35 yB 6 none site (P a D fV fC b A z o len) (E a D fV fC A o len) [⟨a, fC.slot⟩, ⟨a, fV.slot⟩] 1 len := by
  refine Law.of_walk (plainFor_of_name (by decide +kernel)) (by decide +kernel) (by decide +kernel) (by decide) (fun _ _ h => by rw [h.1]; rfl) (fun _ U U' hal hh h => ⟨h.1, h.2.1.mv hal hh, h.2.2.1.al hal, h.2.2.2.1.al hal, h.2.2.2.2.1.mv hal hh, h.2.2.2.2.2.1.there hal hh, h.2.2.2.2.2.2⟩) (fun r U U' V V' h1 hal h2 h => Got.mv r U U' V V' h1 hal h2 h) ?_
  intro p e s m args below meth c s₁ X0 hexec hbytes hml hret hlk hnm hown hh0 W hP
  obtain ⟨rfl, hB, f1, f2, hA, s1, hz, l0, l1, l2, hp⟩ := hP
  have a31 := hA.1.2.2.2
  have c1 : Steps p.tables e below (s₁.setTop (entryFrame m #[.ref a, .ref b, .int (Int32.ofNat o), .int (Int32.ofNat len), .null] 6)) (s₁.setTop (mkF m 0 #[.val (.ref a), .val (.ref b), .val (.int (Int32.ofNat o)), .val (.int (Int32.ofNat len)), .val .null, .unset] [])) := entry rfl
  have c2 : Steps p.tables e below (s₁.setTop (entryFrame m #[.ref a, .ref b, .int (Int32.ofNat o), .int (Int32.ofNat len), .null] 6)) (s₁.setTop (mkF m 1 #[.val (.ref a), .val (.ref b), .val (.int (Int32.ofNat o)), .val (.int (Int32.ofNat len)), .val .null, .unset] [.ref a])) := c1.trans (by
    refine XS.aloadN X0.here hexec rfl (hb hbytes d0) rfl rfl ?_
    exact Steps.refl _)
  obtain ⟨T3, X3, q3, st3⟩ := X0.oinit hexec hown (wks W (objW "java/lang/String" 1)) (g := (mkF m 1 #[.val (.ref a), .val (.ref b), .val (.int (Int32.ofNat o)), .val (.int (Int32.ofNat len)), .val .null, .unset] [.ref a])) rfl (by rw [hml]; rfl) (rest := []) rfl (hb hbytes d1) (W := 0) (by show 2 * 0 + 0 ≤ _; decide) (Nat.le_of_ble_eq_true rfl) (Nat.le_of_ble_eq_true rfl)
  have hh3 := q3.trans hh0
  have c4 : Steps p.tables e below (s₁.setTop (entryFrame m #[.ref a, .ref b, .int (Int32.ofNat o), .int (Int32.ofNat len), .null] 6)) (T3.setTop (mkF m 27 #[.val (.ref a), .val (.ref b), .val (.int (Int32.ofNat o)), .val (.int (Int32.ofNat len)), .val .null, .unset] [])) := (c2.trans (st3 _ (Steps.refl _))).trans (by
    refine XS.iloadN X3.here hexec rfl (hb hbytes d4) rfl ?_
    refine XS.ifYes X3.here hexec rfl (pc0 := 5) rfl (hb hbytes d5) rfl (i0_ne_t (nz32 (by omega) l0)) (by decide) rfl ?_
    exact Steps.refl _)
  obtain ⟨T5, X5, q5, st5⟩ := X3.sget hexec hown (wk W (.fieldLink "java/lang/String" 38 "java/lang/String" "COMPACT_STRINGS" "Z")) s1 (fun _ _ h => by rw [hh3]; exact h) (g := (mkF m 27 #[.val (.ref a), .val (.ref b), .val (.int (Int32.ofNat o)), .val (.int (Int32.ofNat len)), .val .null, .unset] [])) rfl (hb hbytes d27)
  have hh5 := q5.trans hh3
  have c6 : Steps p.tables e below (s₁.setTop (entryFrame m #[.ref a, .ref b, .int (Int32.ofNat o), .int (Int32.ofNat len), .null] 6)) (T5.setTop (mkF m 30 #[.val (.ref a), .val (.ref b), .val (.int (Int32.ofNat o)), .val (.int (Int32.ofNat len)), .val .null, .unset] [.int z])) := c4.trans (st5 _ (Steps.refl _))
  have c7 : Steps p.tables e below (s₁.setTop (entryFrame m #[.ref a, .ref b, .int (Int32.ofNat o), .int (Int32.ofNat len), .null] 6)) (T5.setTop (mkF m 36 #[.val (.ref a), .val (.ref b), .val (.int (Int32.ofNat o)), .val (.int (Int32.ofNat len)), .val .null, .unset] [.int (Int32.ofNat len), .int (Int32.ofNat o), .ref b])) := c6.trans (by
    refine XS.ifNo X5.here hexec rfl (hb hbytes d30) rfl (i0_eq_f hz) ?_
    refine XS.aloadN X5.here hexec rfl (hb hbytes d33) rfl rfl ?_
    refine XS.iloadN X5.here hexec rfl (hb hbytes d34) rfl ?_
    refine XS.iloadN X5.here hexec rfl (hb hbytes d35) rfl ?_
    exact Steps.refl _)
  obtain ⟨v8, T8, X8, E8, g8⟩ := X5.callS hexec (Cmp3.law l b A o len) hown (wks W (staticW "java/lang/String" 177 Cmp3.yN)) (wk W Cmp3.tab) (W := 0) (Nat.le_of_ble_eq_true rfl) (Nat.le_of_ble_eq_true rfl) (Nat.le_refl _) (by show 0 + len ≤ len; omega) (g := (mkF m 36 #[.val (.ref a), .val (.ref b), .val (.int (Int32.ofNat o)), .val (.int (Int32.ofNat len)), .val .null, .unset] [.int (Int32.ofNat len), .int (Int32.ofNat o), .ref b])) rfl (by rw [hml]; rfl) c7 (argsL := [.ref b, .int (Int32.ofNat o), .int (Int32.ofNat len)]) (rest := []) rfl rfl (by show 2 * 0 + 0 ≤ _; decide) (hb hbytes d36) (⟨rfl, hA.mv X5.warmed.alike hh5, l1, l2, hp⟩)
  obtain ⟨e8, z8⟩ := E8
  obtain ⟨rfl, N, n1, n2, n3, n4, n5, n6⟩ := NewArr.mv _ T5 s _ _ hh5.symm (Vm.Alike.refl _) rfl e8
  rw [hh5] at z8
  have hB1 := hB.keep X8.warmed.alike (n6 _ _ hB.1)
  have hne : s.heap.size ≠ a := (Nat.ne_of_lt (Array.getElem?_eq_some_iff.mp hB.1).1).symm
  have c9 : Steps p.tables e below (s₁.setTop (entryFrame m #[.ref a, .ref b, .int (Int32.ofNat o), .int (Int32.ofNat len), .null] 6)) (T8.setTop (mkF m 39 #[.val (.ref a), .val (.ref b), .val (.int (Int32.ofNat o)), .val (.int (Int32.ofNat len)), .val .null, .unset] [.ref s.heap.size])) := g8
  have c10 : Steps p.tables e below (s₁.setTop (entryFrame m #[.ref a, .ref b, .int (Int32.ofNat o), .int (Int32.ofNat len), .null] 6)) (T8.setTop (mkF m 45 #[.val (.ref a), .val (.ref b), .val (.int (Int32.ofNat o)), .val (.int (Int32.ofNat len)), .val .null, .val (.ref s.heap.size)] [.int (Int32.ofNat N.slots.size), .ref s.heap.size, .ref a])) := by
    have hc : Steps p.tables e below (s₁.setTop (entryFrame m #[.ref a, .ref b, .int (Int32.ofNat o), .int (Int32.ofNat len), .null] 6)) (T8.setTop (mkF m 45 #[.val (.ref a), .val (.ref b), .val (.int (Int32.ofNat o)), .val (.int (Int32.ofNat len)), .val .null, .val (.ref s.heap.size)] [.int (Int32.ofNat len), .ref s.heap.size, .ref a])) := c9.trans (by
      refine XS.astore X8.here hexec rfl (hb hbytes d39) rfl rfl rfl ?_
      refine XS.aloadN X8.here hexec rfl (hb hbytes d41) rfl rfl ?_
      refine XS.aload X8.here hexec rfl (hb hbytes d42) rfl rfl ?_
      refine XS.iloadN X8.here hexec rfl (hb hbytes d44) rfl ?_
      exact Steps.refl _)
    rw [n4]; exact hc
  obtain ⟨v11, T11, X11, E11, g11⟩ := X8.callS hexec (CodL.law l s.heap.size N) hown (wks W (staticW "java/lang/String" 47 CodL.yN)) (wk W CodL.tab) (W := 1) (Nat.le_of_ble_eq_true rfl) (Nat.le_of_ble_eq_true rfl) (Nat.le_refl _) (by show 0 + len + 0 ≤ len; omega) (g := (mkF m 45 #[.val (.ref a), .val (.ref b), .val (.int (Int32.ofNat o)), .val (.int (Int32.ofNat len)), .val .null, .val (.ref s.heap.size)] [.int (Int32.ofNat N.slots.size), .ref s.heap.size, .ref a])) rfl (by rw [hml]; rfl) c10 (argsL := [.ref s.heap.size, .int (Int32.ofNat N.slots.size)]) (rest := [.ref a]) rfl rfl (by show 2 * 0 + (1 + 0) ≤ _; decide) (hb hbytes d45) (⟨rfl, n1⟩)
  obtain ⟨rfl, q11⟩ := E11
  have hB11 := hB1.mv (X8.warmed.alike.symm.trans X11.warmed.alike) q11
  have c12 : Steps p.tables e below (s₁.setTop (entryFrame m #[.ref a, .ref b, .int (Int32.ofNat o), .int (Int32.ofNat len), .null] 6)) (T11.setTop (mkF m 48 #[.val (.ref a), .val (.ref b), .val (.int (Int32.ofNat o)), .val (.int (Int32.ofNat len)), .val .null, .val (.ref s.heap.size)] [.int 0, .ref a])) := g11
  obtain ⟨T13, X13, p13, bl13, sl13, st13⟩ := X11.finit hexec hown (wk W (.fieldLink "java/lang/String" 15 "java/lang/String" "coder" "B")) (Or.inr ⟨_, (wk W (.laysFinal "java/lang/String" "java/lang/String" "coder" "B"))⟩) (Or.inl ⟨rfl, hnm⟩) f2 (Or.inl rfl) hB11 (t := .byte) (by decide +kernel) rfl (g := (mkF m 48 #[.val (.ref a), .val (.ref b), .val (.int (Int32.ofNat o)), .val (.int (Int32.ofNat len)), .val .null, .val (.ref s.heap.size)] [.int 0, .ref a])) rfl (rest := []) rfl (hb hbytes d48)
  have c14 : Steps p.tables e below (s₁.setTop (entryFrame m #[.ref a, .ref b, .int (Int32.ofNat o), .int (Int32.ofNat len), .null] 6)) (T13.setTop (mkF m 54 #[.val (.ref a), .val (.ref b), .val (.int (Int32.ofNat o)), .val (.int (Int32.ofNat len)), .val .null, .val (.ref s.heap.size)] [.ref s.heap.size, .ref a])) := (c12.trans (st13 _ (Steps.refl _))).trans (by
    refine XS.aloadN X13.here hexec rfl (hb hbytes d51) rfl rfl ?_
    refine XS.aload X13.here hexec rfl (hb hbytes d52) rfl rfl ?_
    exact Steps.refl _)
  obtain ⟨T15, X15, p15, bl15, sl15, st15⟩ := X13.finit hexec hown (wk W (.fieldLink "java/lang/String" 9 "java/lang/String" "value" "[B")) (Or.inr ⟨_, (wk W (.laysFinal "java/lang/String" "java/lang/String" "value" "[B"))⟩) (Or.inl ⟨rfl, hnm⟩) f1 (Or.inl rfl) bl13 (t := (.array .byte)) (by decide +kernel) rfl (g := (mkF m 54 #[.val (.ref a), .val (.ref b), .val (.int (Int32.ofNat o)), .val (.int (Int32.ofNat len)), .val .null, .val (.ref s.heap.size)] [.ref s.heap.size, .ref a])) rfl (rest := []) rfl (hb hbytes d54)
  have c16 : Steps p.tables e below (s₁.setTop (entryFrame m #[.ref a, .ref b, .int (Int32.ofNat o), .int (Int32.ofNat len), .null] 6)) (T15.setTop (mkF m 57 #[.val (.ref a), .val (.ref b), .val (.int (Int32.ofNat o)), .val (.int (Int32.ofNat len)), .val .null, .val (.ref s.heap.size)] [])) := c14.trans (st15 _ (Steps.refl _))
  have ap := apart (Or.inr ⟨_, (wk W (.laysFinal "java/lang/String" "java/lang/String" "value" "[B"))⟩) (Or.inr ⟨_, (wk W (.laysFinal "java/lang/String" "java/lang/String" "coder" "B"))⟩) f1 f2 (t₁ := .array .byte) (t₂ := .byte) (by decide +kernel) (by decide +kernel) (by decide)
  have al := X8.warmed.alike.symm.trans X15.warmed.alike
  have n7 : T11.heap[s.heap.size]? = some N := by rw [q11]; exact n1.1
  exact ⟨T15, none, _, _, _, X15, by simp, rfl, by omega, (fun _ => rfl), ⟨rfl, _, N, bl15, ((Same.refl D _).set _ (by simp)).set _ (by simp), sl15, (Cell.slots_setSlot_ne _ ap).trans sl13, n1.keep al (p15.other hne (p13.other hne n7)), n2, by rw [al.findClass]; exact n3, n4, n5, fun y c h1 h2 => p15.other h1 (p13.other h1 (by rw [q11]; exact n6 y c h2)), by rw [p15.2.2, p13.2.2, q11]; exact z8⟩, fun fs hl => c16.trans (X15.returnOut hexec hret (hb hbytes d57) hl)⟩
end New4
namespace New1
def yN : MethodName := ⟨"java/lang/String", "<init>", "([C)V"⟩
abbrev yB : ByteArray := jdk_42_method_3_code
theorem d0 : decode yB 0 = .ok (.aload_n 0, 1) := by decide +kernel
theorem d1 : decode yB 1 = .ok (.aload_n 1, 1) := by decide +kernel
theorem d2 : decode yB 2 = .ok (.iconst 0, 1) := by decide +kernel
theorem d3 : decode yB 3 = .ok (.aload_n 1, 1) := by decide +kernel
theorem d4 : decode yB 4 = .ok (.arraylength, 1) := by decide +kernel
theorem d5 : decode yB 5 = .ok (.aconst_null, 1) := by decide +kernel
theorem d6 : decode yB 6 = .ok (.invokespecial 27, 3) := by decide +kernel
theorem d9 : decode yB 9 = .ok (.return_, 1) := by decide +kernel
def site : List Cond := [New4.tab] ++ initW "java/lang/String" 27 New4.yN
def tab : Cond := tabOf yN yB 2 none site
def P (a : Addr) (D : Cell) (fV fC : Field) (b : Addr) (A : Cell) (z : Int32) (args : Array Value) (s : State) : Prop := args = #[.ref a, .ref b] ∧ Blank "java/lang/String" a D s ∧ Found "java/lang/String" "value" "[B" fV s ∧ Found "java/lang/String" "coder" "B" fC s ∧ Ch b A s ∧ StaticIs s "java/lang/String" "COMPACT_STRINGS" "Z" (.int z) ∧ ¬ z = 0 ∧ 0 < A.slots.size ∧ A.slots.size ≤ 536870912 ∧ ∀ i, i < A.slots.size → ¬ 255 < cv A i
def E (a : Addr) (D : Cell) (fV fC : Field) (A : Cell) (r : Option Value) (s u : State) : Prop := Got a D fV fC A 0 A.slots.size r s u
/-- new String(chars), not empty, no char above 255: a Latin-1 String of their low bytes -/
theorem law (l : Launch) (a : Addr) (D : Cell) (fV fC : Field) (b : Addr) (A : Cell) (z : Int32) : Law l yN 2 1 3 52 yB 2 none site (P a D fV fC b A z) (E a D fV fC A) [⟨a, fC.slot⟩, ⟨a, fV.slot⟩] 1 A.slots.size := by
  refine Law.of_walk (plainFor_of_name (by decide +kernel)) (by decide +kernel) (by decide +kernel) (by decide) (fun _ _ h => by rw [h.1]; rfl) (fun _ U U' hal hh h => ⟨h.1, h.2.1.mv hal hh, h.2.2.1.al hal, h.2.2.2.1.al hal, h.2.2.2.2.1.mv hal hh, h.2.2.2.2.2.1.there hal hh, h.2.2.2.2.2.2⟩) (fun r U U' V V' h1 hal h2 h => Got.mv r U U' V V' h1 hal h2 h) ?_
  intro p e s m args below meth c s₁ X0 hexec hbytes hml hret hlk hnm hown hh0 W hP
  obtain ⟨rfl, hB, f1, f2, hA, s1, hz, l0, l2, hp⟩ := hP
  have c1 : Steps p.tables e below (s₁.setTop (entryFrame m #[.ref a, .ref b] 2)) (s₁.setTop (mkF m 0 #[.val (.ref a), .val (.ref b)] [])) := entry rfl
  have c2 : Steps p.tables e below (s₁.setTop (entryFrame m #[.ref a, .ref b] 2)) (s₁.setTop (mkF m 6 #[.val (.ref a), .val (.ref b)] [.null, .int (Int32.ofNat A.slots.size), .int 0, .ref b, .ref a])) := c1.trans (by
    refine XS.aloadN X0.here hexec rfl (hb hbytes d0) rfl rfl ?_
    refine XS.aloadN X0.here hexec rfl (hb hbytes d1) rfl rfl ?_
    refine iconstV X0.here hexec rfl 0 (hb hbytes d2) (by decide) ?_
    refine XS.aloadN X0.here hexec rfl (hb hbytes d3) rfl rfl ?_
    refine X0.alen hexec (hA.1.mv X0.warmed.alike hh0) rfl rfl (hb hbytes d4) ?_
    refine XS.aconstNull X0.here hexec rfl (hb hbytes d5) ?_
    exact Steps.refl _)
  obtain ⟨v3, T3, X3, E3, g3⟩ := X0.callN hexec (New4.law l a D fV fC b A z 0 A.slots.size) rfl hown (wks W (initW "java/lang/String" 27 New4.yN)) (W New4.tab (by simp only [site, List.mem_cons, List.mem_append, true_or, or_true])) (W := 0) (Nat.le_of_ble_eq_true rfl) (Nat.le_of_ble_eq_true rfl) (Nat.le_refl _) (by show 0 + A.slots.size ≤ A.slots.size; omega) (g := (mkF m 6 #[.val (.ref a), .val (.ref b)] [.null, .int (Int32.ofNat A.slots.size), .int (Int32.ofNat 0), .ref b, .ref a])) rfl (by rw [hml]; rfl) c2 (argsL := [.ref b, .int (Int32.ofNat 0), .int (Int32.ofNat A.slots.size), .null]) (rest := []) rfl rfl (by show 2 * 0 + 0 ≤ _; decide) (hb hbytes d6) (⟨rfl, hB.mv X0.warmed.alike hh0, f1.al X0.warmed.alike, f2.al X0.warmed.alike, hA.mv X0.warmed.alike hh0, s1.there X0.warmed.alike hh0, hz, l0, by omega, l2, fun i hi => by rw [Nat.zero_add]; exact hp i hi⟩)
  have e0 := Got.mv _ s₁ s _ _ hh0.symm (Vm.Alike.refl _) rfl E3
  obtain rfl := e0.1
  have c4 : Steps p.tables e below (s₁.setTop (entryFrame m #[.ref a, .ref b] 2)) (T3.setTop (mkF m 9 #[.val (.ref a), .val (.ref b)] [])) := g3
  exact ⟨T3, none, _, _, _, X3, by simp, rfl, by omega, (fun _ => rfl), e0, fun fs hl => c4.trans (X3.returnOut hexec hret (hb hbytes d9) hl)⟩
theorem pays {l : Launch} {R : Room} {p : Program} {e : Env} {below : List Frame} {s : State} {sargs : Array Value} {len W : Nat} (a : Addr) (D : Cell) (fV fC : Field) (b : Addr) (A : Cell) (z : Int32) (htab : tab.before sargs s = true) (hfr : 4 ≤ R.frames) (hlo : W + 65 ≤ R.locals) :
    Back l R p e below s sargs yN len W (fun A₁ a₁ => A₁.cells + 1 ≤ R.cells ∧ A₁.slots + A.slots.size ≤ R.slots ∧ P a D fV fC b A z a₁ A₁.U) (fun A₁ _ v₁ B₁ => E a D fV fC A v₁ A₁.U B₁.U ∧ B₁.locs = A₁.locs ++ [⟨a, fC.slot⟩, ⟨a, fV.slot⟩] ∧ B₁.cells = A₁.cells + 1 ∧ B₁.slots = A₁.slots + A.slots.size) :=
  (law l a D fV fC b A z).pays htab hfr (by omega)
end New1
end StrChars
namespace StrChars.Road
open Jvm Sem ClassFile Op Lib Jvm.Stand Jvm.Free Jvm.Free.XT
open Jvm.Lib.Cold (StaticIs)
abbrev ST : String := "java/lang/String"
/-- every table word that New1's law asks, flat -/
abbrev words : List Jvm.Cond := [.code New1.yN New1.yB 2 none, .initialized ST, .methodLink ST 27 New4.yN, .instanceMethod New4.yN,
  .code New4.yN New4.yB 6 none, .fieldLink ST 38 ST "COMPACT_STRINGS" "Z", .laysFinal ST ST "value" "[B", .fieldLink ST 9 ST "value" "[B", .laysFinal ST ST "coder" "B", .fieldLink ST 15 ST "coder" "B",
  .methodLink ST 1 Lib.objectInit, .instanceMethod Lib.objectInit, .code Lib.objectInit ⟨#[0xb1]⟩ 1 none, .methodLink ST 177 Cmp3.yN, .static Cmp3.yN, .methodLink ST 47 CodL.yN, .static CodL.yN,
  .code Cmp3.yN Cmp3.yB 6 (some (.array .byte)), .initialized U16, .arrayClass .byte, .methodLink U16 115 Cmp5.yN, .static Cmp5.yN, .code Cmp5.yN Cmp5.yB 7 (some .int), .code CodL.yN CodL.yB 2 (some .byte)]
theorem tab_of {a : Array Value} {s : State} (h : ∀ w ∈ words, w.before a s = true) : New1.tab.before a s = true := by
  have h5 : Cmp5.tab.before a s = true := unparts (wk h (.code Cmp5.yN Cmp5.yB 7 (some .int))) (wks h (.initialized Cmp5.yN.cls :: Cmp5.site))
  have hc : CodL.tab.before a s = true := unparts (wk h (.code CodL.yN CodL.yB 2 (some .byte))) (wks h (.initialized CodL.yN.cls :: CodL.site))
  have q5 : ∀ w ∈ Cmp5.tab :: words, w.before a s = true := fun w hw => (List.mem_cons.mp hw).elim (fun e => e ▸ h5) (h w)
  have h3 : Cmp3.tab.before a s = true := unparts (wk q5 (.code Cmp3.yN Cmp3.yB 6 (some (.array .byte)))) (wks q5 (.initialized Cmp3.yN.cls :: Cmp3.site))
  have q3 : ∀ w ∈ Cmp3.tab :: CodL.tab :: words, w.before a s = true := fun w hw => (List.mem_cons.mp hw).elim (fun e => e ▸ h3) fun hw => (List.mem_cons.mp hw).elim (fun e => e ▸ hc) (h w)
  have h4 : New4.tab.before a s = true := unparts (wk q3 (.code New4.yN New4.yB 6 none)) (wks q3 (.initialized New4.yN.cls :: New4.site))
  have q4 : ∀ w ∈ New4.tab :: words, w.before a s = true := fun w hw => (List.mem_cons.mp hw).elim (fun e => e ▸ h4) (h w)
  exact unparts (wk q4 (.code New1.yN New1.yB 2 none)) (wks q4 (.initialized New1.yN.cls :: New1.site))
/-- the words ride from the start Z to the walk's own state -/
theorem moved {Z s : State} {a0 args : Array Value} (hZ : Z.Warmed39 s.vm) (hw : ∀ d ∈ words, d.before a0 Z = true) : ∀ d ∈ words, d.before args s = true := fun d hd => by
  have q := hw d hd
  have t : ∀ d ∈ words, d = .arrayClass .byte ∨ (d.onTables && d.keepsFace) = true := by decide +kernel
  rcases t d hd with rfl | t
  · exact RoadKit.mvA hZ q
  · exact RoadKit.mv hZ q t
/-- WHAT COMES BACK, over the tables of the start Z: h the heap at the call, h' behind it -/
def Q (Z : State) (x : Addr) (A : Cell) (h : Heap) (v : Option Value) (h' : Heap) (L : List Loc) : Prop := v = none ∧ (∀ y ∈ L, y.base = x) ∧ RoadKit.Keep h h' [x] ∧ h'.size = h.size + 1 ∧ RoadKit.Exa Z h' x ST ∧ RoadKit.Fld Z h' x ST "value" "[B" (.ref h.size) ∧ RoadKit.Fld Z h' x ST "coder" "B" (.int 0) ∧
  (∃ V : Cell, RoadKit.Arr Z h' h.size V .byte ∧ V.vm = .none ∧ Z.vm.findClass "[B" = some V.cls ∧ V.slots.size = A.slots.size ∧ ∀ j, j < A.slots.size → V.slots[j]? = some (.int (lo8 (cv A j)))) ∧
  ∀ (O n d : String) (w : Value), RoadKit.Fld Z h x O n d w → RoadKit.slotOf Z O n d ≠ RoadKit.slotOf Z ST "value" "[B" → RoadKit.slotOf Z O n d ≠ RoadKit.slotOf Z ST "coder" "B" → RoadKit.Fld Z h' x O n d w
/-- **new String(chars) AT A CALL, IN THE ROAD'S FORM**: for specialBack behind newO: x the fresh String, b the char[] with the cell A -/
theorem back {p : Program} {l : Launch} {e : Env} {R : Room} {s : State} {args : Array Value} {below : List Frame} {len W : Nat} {Z : State} {a0 : Array Value} {h : Heap} (hZ : Z.Warmed39 s.vm) (hw : ∀ d ∈ words, d.before a0 Z = true) {kI : Nat} (wi : (Jvm.Cond.instantiable ST kI).before a0 Z = true)
    {x b : Addr} {A : Cell} {z : Int32} {v0 c0 : Value} (E : RoadKit.Exa Z h x ST) (V : RoadKit.Fld Z h x ST "value" "[B" v0) (C : RoadKit.Fld Z h x ST "coder" "B" c0) (K : RoadKit.Arr Z h b A .char) (hty : Typed .char A) (S : RoadKit.Sta Z h ST "COMPACT_STRINGS" "Z" (.int z)) (hz : ¬ z = 0)
    (l0 : 0 < A.slots.size) (l2 : A.slots.size ≤ 536870912) (hp : ∀ i, i < A.slots.size → ¬ 255 < cv A i) (hfr : 4 ≤ R.frames) (hlo : W + 65 ≤ R.locals) :
    Back l R p e below s args New1.yN len W (fun P a => a = #[.ref x, .ref b] ∧ P.U.heap = h ∧ P.cells + 1 ≤ R.cells ∧ P.slots + A.slots.size ≤ R.slots)
      (fun P _ v B => ∃ L, Q Z x A h v B.U.heap L ∧ B.locs = P.locs ++ L ∧ B.cells = P.cells + 1 ∧ B.slots = P.slots + A.slots.size) := by
  intro m meth c P g ig mk a X hg hsize hdg hW hn hp'
  obtain ⟨rfl, rfl, r1, r2⟩ := hp'
  have al : Z.vm.Alike P.U.vm := hZ.alike.trans X.warmed.alike
  obtain ⟨D, cfV, kV, iV, fV, hD, gV, stV, knV, obV, asV, slV⟩ := id V
  obtain ⟨D', cfC, kC, iC, fC, hD', gC, stC, -, -, asC, slC⟩ := id C
  cases hD.symm.trans hD'
  obtain ⟨D2, kD, e1, e2, e3, e4, e5⟩ := id E
  cases hD.symm.trans e1
  obtain ⟨c2, k2, i1, i2, i3, -⟩ := Cond.instantiable_spec wi
  cases e2.symm.trans i1
  cases e3.symm.trans i2
  obtain ⟨kU, u1, u2⟩ := al.2.2 _ _ e3
  have hB : Blank ST x D P.U := ⟨hD, ⟨knV, fun q hq => by rw [hq] at obV; cases obV⟩, by rw [al.findClass]; exact e2, kU, u1, by rw [u2]; exact i3, by rw [u2]; exact e5 i3⟩
  have F1 : Found ST "value" "[B" fV P.U := ⟨SBG.found_only al ⟨cfV, kV, iV, gV⟩, stV⟩
  have F2 : Found ST "coder" "B" fC P.U := ⟨SBG.found_only al ⟨cfC, kC, iC, gC⟩, stC⟩
  have hA : Ch b A P.U := ⟨⟨K.1, State.isArrayOf_alike al K.2.1, K.2.2, by omega⟩, hty⟩
  have hS : StaticIs P.U ST "COMPACT_STRINGS" "Z" (.int z) := by
    obtain ⟨cfS, iS, kS, fS, st, cS, t1, t2, t3, t4, t5, t6, t7⟩ := S
    exact StaticIs.there (s := { Z with heap := P.U.heap }) ⟨cfS, iS, kS, fS, st, cS, t1, t2, t3, t4, t5, (fun q => by rw [q] at t6; cases t6), t7⟩ al rfl
  obtain ⟨v, B, X', ⟨⟨hv, E', V', q1, q2, q3, q4, q5, q6, q7, q8, q9, q10, q11⟩, hl, hc, hs⟩, st⟩ := New1.pays x D fV fC b A z (tab_of (moved hZ hw)) hfr hlo m meth c P g ig mk _ X hg hsize hdg hW hn ⟨r1, r2, rfl, hB, F1, F2, hA, hS, hz, l0, l2, hp⟩
  have al' : Z.vm.Alike B.U.vm := hZ.alike.trans X'.warmed.alike
  have hsz : E'.slots.size = D.slots.size := by
    obtain ⟨-, -, -, kB, w1, w2, w3⟩ := q1
    obtain ⟨kB', y1, y2⟩ := al'.2.2 _ _ e3
    rw [q2.2.1] at w1
    cases w1.symm.trans y1
    rw [w3, e5 i3, y2]
  refine ⟨v, B, X', ⟨_, ⟨hv, ?_, ⟨by omega, fun y cy hy hn' => q10 y cy (by simpa using hn') hy, fun y cy hy => ?_⟩, q11, ⟨E', _, q1.1, by rw [q2.2.1]; exact e2, by rw [q2.2.1]; exact e3, by rw [q2.1]; exact obV, fun _ => by rw [hsz]; exact e5 i3⟩,
    ⟨E', cfV, kV, iV, fV, q1.1, gV, stV, by rw [q2.1]; exact knV, by rw [q2.1]; exact obV, by rw [q2.2.1]; exact asV, q3⟩, ⟨E', cfC, kC, iC, fC, q1.1, gC, stC, by rw [q2.1]; exact knV, by rw [q2.1]; exact obV, by rw [q2.2.1]; exact asC, q4⟩,
    ⟨V', ⟨q5.1, State.isArrayOf_alike al'.symm q5.2.1, q5.2.2.1⟩, q6, by rw [← al'.findClass]; exact q7, q8, fun j hj => by have := q9 j hj; rwa [Nat.zero_add] at this⟩, fun O n d w F n1 n2 => ?_⟩, hl, hc, hs⟩, st⟩
  · intro y hy
    simp only [List.mem_cons, List.not_mem_nil, or_false] at hy
    rcases hy with rfl | rfl <;> rfl
  · by_cases q : y = x
    · subst q
      cases hD.symm.trans hy
      exact ⟨E', q1.1, q2.2.1, q2.1, hsz⟩
    · exact ⟨cy, q10 y cy q hy, rfl, rfl, rfl⟩
  · obtain ⟨D3, cf, k, i, f, g1, g2, g3, g4, g5, g6, g7⟩ := F
    cases hD.symm.trans g1
    simp only [RoadKit.slotOf, g2, gV, gC, Option.map_some, Option.getD_some] at n1 n2
    exact ⟨E', cf, k, i, f, q1.1, g2, g3, by rw [q2.1]; exact g4, by rw [q2.1]; exact g5, by rw [q2.2.1]; exact g6, by rw [q2.2.2 f.slot (by simp [n1, n2])]; exact g7⟩
end StrChars.Road
namespace StrChars.Road
open Jvm Sem ClassFile Op Lib Jvm.Stand Jvm.Free Jvm.Free.XT
/-- WHAT COMES BACK, the byte[] as a list of values -/
def QA (Z : State) (x : Addr) (zn : Int32) (cs : List Int32) (h : Heap) (v : Option Value) (h' : Heap) (L : List Loc) : Prop := v = none ∧ (∀ y ∈ L, y.base = x) ∧ RoadKit.Keep h h' [x] ∧ h'.size = h.size + 1 ∧ RoadKit.Exa Z h' x ST ∧ RoadKit.Fld Z h' x ST "value" "[B" (.ref h.size) ∧ RoadKit.Fld Z h' x ST "coder" "B" (.int 0) ∧
  (∃ kb, Z.vm.findClass "[B" = some kb ∧ RoadKit.Arv Z h' h.size kb .byte zn (cs.map fun c => .int (lo8 c)) (.int 0)) ∧
  ∀ (O n d : String) (w : Value), RoadKit.Fld Z h x O n d w → RoadKit.slotOf Z O n d ≠ RoadKit.slotOf Z ST "value" "[B" → RoadKit.slotOf Z O n d ≠ RoadKit.slotOf Z ST "coder" "B" → RoadKit.Fld Z h' x O n d w
/-- **new String(chars) AT A CALL, THE ARRAYS AS LISTS**: the char[] at b holds cs, not empty, no char above 255 -/
theorem backArv {p : Program} {l : Launch} {e : Env} {R : Room} {s : State} {args : Array Value} {below : List Frame} {len W : Nat} {Z : State} {a0 : Array Value} {h : Heap} (hZ : Z.Warmed39 s.vm) (hw : ∀ d ∈ words, d.before a0 Z = true) {kI : Nat} (wi : (Jvm.Cond.instantiable ST kI).before a0 Z = true)
    {x b : Addr} {k : ClassId} {zn z : Int32} {cs : List Int32} {dv v0 c0 : Value} (E : RoadKit.Exa Z h x ST) (V : RoadKit.Fld Z h x ST "value" "[B" v0) (C : RoadKit.Fld Z h x ST "coder" "B" c0) (K : RoadKit.Arv Z h b k .char zn (cs.map Value.int) dv) (S : RoadKit.Sta Z h ST "COMPACT_STRINGS" "Z" (.int z)) (hz : ¬ z = 0)
    (hlen : zn.toNatClampNeg = cs.length) (h0 : 0 < cs.length) (hbig : cs.length ≤ 536870912) (hall : ∀ c ∈ cs, ¬ 255 < c) (hfr : 4 ≤ R.frames) (hlo : W + 65 ≤ R.locals) :
    Back l R p e below s args New1.yN len W (fun P a => a = #[.ref x, .ref b] ∧ P.U.heap = h ∧ P.cells + 1 ≤ R.cells ∧ P.slots + cs.length ≤ R.slots)
      (fun P _ v B => ∃ L, QA Z x zn cs h v B.U.heap L ∧ B.locs = P.locs ++ L ∧ B.cells = P.cells + 1 ∧ B.slots = P.slots + cs.length) := by
  obtain ⟨A, K1, K2, K3, K4, K5, K6⟩ := K
  have e : A.slots.size = cs.length := K3.trans hlen
  have hat : ∀ (i : Nat) (hi : i < cs.length), A.slots[i]? = some (.int cs[i]) := fun i hi => by rw [K5 i (by omega)]; simp [List.getD_eq_getElem?_getD, hi]
  have hcv : ∀ (i : Nat) (hi : i < cs.length), cv A i = cs[i] := fun i hi => by unfold cv; rw [hat i hi]
  have hty : Typed .char A := fun i v hv => by
    have hi : i < A.slots.size := (Array.getElem?_eq_some_iff.mp hv).1
    have q := K5 i hi
    rw [hv] at q
    rw [Option.some.inj q]
    exact K6 i hi
  refine Back.mono (back hZ hw wi E V C K1 hty S hz (by omega) (by omega) (fun i hi => by rw [hcv i (by omega)]; exact hall _ (List.getElem_mem _)) hfr hlo) (fun P a hp => ⟨hp.1, hp.2.1, hp.2.2.1, by rw [e]; exact hp.2.2.2⟩) (fun P a v B hp hq => ?_)
  obtain ⟨L, ⟨q1, q2, q3, q4, q5, q6, q7, ⟨V', v1, v2, v3, v4, v5⟩, q9⟩, hl, hc, hs⟩ := hq
  refine ⟨L, ⟨q1, q2, q3, q4, q5, q6, q7, ⟨V'.cls, v3, V', v1, rfl, by rw [v4, e, hlen], K4, fun i hi => ?_, fun i hi => ?_⟩, q9⟩, hl, hc, by rw [hs, e]⟩
  · have hi' : i < cs.length := by omega
    rw [v5 i (by omega), hcv i hi']; simp [List.getD_eq_getElem?_getD, hi']
  · have hi' : i < cs.length := by omega
    simp only [List.getD_eq_getElem?_getD, List.getElem?_map, List.getElem?_eq_getElem hi', Option.map_some, Option.getD_some]
    exact fits_lo8 _
end StrChars.Road
namespace StrChars.Road
open Jvm Sem ClassFile Op Lib Jvm.Stand Jvm.Free Jvm.Free.XT
/-- WHAT COMES BACK, in the writer's own shape -/
def QV (Z : State) (x : Addr) (N : Int32) (bs : List Int32) (h : Heap) (n0 : Nat) (v : Option Value) (h' : Heap) (L : List Loc) : Prop := v = none ∧ RoadKit.Fr n0 L ∧ RoadKit.Keep h h' [x] ∧ RoadKit.Exa Z h' x ST ∧ RoadKit.Fld Z h' x ST "coder" "B" (.int 0) ∧
  ∃ (t : Addr) (kb : ClassId), n0 ≤ t ∧ h.size ≤ t ∧ ¬ t = x ∧ RoadKit.Fld Z h' x ST "value" "[B" (.ref t) ∧ RoadKit.Arv Z h' t kb .byte N (bs.map Value.int) (.int 0)
/-- **new String(chars) AT A CALL, FOR THE WRITER**: a char[] of n known ints, each 0 to 255 -/
theorem backV {p : Program} {l : Launch} {e : Env} {R : Room} {s : State} {args : Array Value} {below : List Frame} {len W : Nat} {Z : State} {a0 : Array Value} {h : Heap} (hZ : Z.Warmed39 s.vm) (hw : ∀ d ∈ words, d.before a0 Z = true) {kI : Nat} (wi : (Jvm.Cond.instantiable ST kI).before a0 Z = true)
    {x b : Addr} {kC : ClassId} {cs bs : List Int32} {d v0 c0 : Value} {z N : Int32} {n n0 : Nat} (hx0 : n0 ≤ x) (hh0 : n0 ≤ h.size) (E : RoadKit.Exa Z h x ST) (V : RoadKit.Fld Z h x ST "value" "[B" v0) (C : RoadKit.Fld Z h x ST "coder" "B" c0) (K : RoadKit.Arv Z h b kC .char N (cs.map Value.int) d) (S : RoadKit.Sta Z h ST "COMPACT_STRINGS" "Z" (.int z)) (hz : ¬ z = 0)
    (hn : cs.length = n) (hN : N = Int32.ofNat n) (l0 : 0 < n) (l2 : n ≤ 4000) (hp : ∀ c ∈ cs, ¬ c < 0 ∧ ¬ (255 : Int32) < c) (hb : bs = cs.map (fun c => c.toInt8.toInt32)) (hfr : 4 ≤ R.frames) (hlo : W + 65 ≤ R.locals) :
    Back l R p e below s args (⟨"java/lang/String", "<init>", "([C)V"⟩ : MethodName) len W (fun P a => a = #[.ref x, .ref b] ∧ P.U.heap = h ∧ P.cells + 1 ≤ R.cells ∧ P.slots + n ≤ R.slots)
      (fun P _ v B => ∃ L, QV Z x N bs h n0 v B.U.heap L ∧ B.locs = P.locs ++ L ∧ B.cells = P.cells + 1 ∧ B.slots = P.slots + n) := by
  subst hn hN hb
  refine Back.mono (backArv hZ hw wi E V C K S hz (n32 (by omega)) l0 (by omega) (fun c hc => (hp c hc).2) hfr hlo) (fun P a hp => hp) (fun P a v B hp hq => ?_)
  obtain ⟨L, ⟨q1, q2, q3, q4, q5, q6, q7, ⟨kb, v1, v2⟩, q9⟩, hl, hc, hs⟩ := hq
  exact ⟨L, ⟨q1, fun y hy => by rw [q2 y hy]; exact hx0, q3, q5, q7, h.size, kb, hh0, Nat.le_refl _, Nat.ne_of_gt E.lt, q6, by rw [List.map_map]; exact v2⟩, hl, hc, hs⟩
end StrChars.Road
end Jvm.Pilot.@@N@@

namespace Jvm.Pilot.@@N@@
open Jvm Jvm.ClassFile Sem Op Lib Jvm.Free Jvm.Stand Jvm.LawKit Jvm.RoadKit Bundle Jvm.Pilot.@@N@@.Jvm.D

/-! A small layer of this proof's own: a goal 'the run from here ends well' (own_G), in continuation style, and one rule a step over the library's laws. -/
section OwnKit
variable {p : Program} {l : Launch} {e : Env} {R : Room} {s : State} {m : MethodId} {args : Array Value} {below : List Frame} {meth : Method} {c : Code} {T : State} {locs : List Loc} {cells slots : Nat} {Z : State} {a0 : Array Value} {h : Heap} {F : Outcome → State → Prop} {pc pc' : Nat} {Ls : Array Slot} {st stk : List Value}
/-- from st the run ends, and F holds of its end -/
def own_G (p : Program) (e : Env) (below : List Frame) (F : Outcome → State → Prop) (st : State) : Prop := ∃ U o, Steps p.tables e below st U ∧ U.status = .running ∧ Ended U below o ∧ F o U
theorem own_step {a b : State} (hs : ∀ t, Steps p.tables e below b t → Steps p.tables e below a t) (g : own_G p e below F b) : own_G p e below F a := by
  obtain ⟨U, o, h1, h2⟩ := g; exact ⟨U, o, hs _ h1, h2⟩
theorem own_go {a b : State} (hs : Steps p.tables e below a b) (g : own_G p e below F b) : own_G p e below F a := own_step (fun _ k => hs.trans k) g
/-- it returned v, with Q of v, the heap and the places written -/
def own_F (s : State) (Q : Option Value → Heap → List Loc → Prop) (k n : Nat) (o : Outcome) (U : State) : Prop := ∃ v L, o = .returned v ∧ Q v U.heap L ∧ FrameEnd s o U L k n
abbrev own_Met (l : Launch) (Z : State) (y : MethodName) (bytes : ByteArray) (maxL : Nat) (ret : Option FieldType) (ws : List Jvm.Cond) (rm : Room) (as : Array Value) (h : Heap) (Q : Option Value → Heap → List Loc → Prop) : Prop :=
  MetFree l y (head1 (Jvm.Cond.code y bytes maxL ret :: ws) rm) (fun a U => a = as ∧ Z.Warmed39 U.vm ∧ U.heap = h) (fun _ _ _ _ _ => True) (fun _ U o U' => ∃ v L, o = .returned v ∧ Q v U'.heap L ∧ FrameEnd U o U' L rm.cells rm.slots)
/-- a body that returns r, writes nothing and makes nothing -/
def own_P (r : Option Value) (h0 : Heap) (v : Option Value) (h : Heap) (L : List Loc) : Prop := v = r ∧ L = [] ∧ h = h0
theorem own_enter {y : MethodName} {bytes : ByteArray} {maxL : Nat} {ret : Option FieldType} {ws : List Jvm.Cond} {rm : Room} {as : Array Value} {Q : Option Value → Heap → List Loc → Prop} (hp : plainFor y = true) {fr : Array Slot} (hfr : ∀ m, entryFrame m as maxL = mkF m 0 fr [])
    (body : ∀ (p : Program) (e : Env) (s : State) (m : MethodId) (below : List Frame) (meth : Method) (c : Code) (T : State), p.tables.exec = Jvm.exec → c.code = bytes → c.maxLocals = maxL → Z.Warmed39 s.vm → s.vm.findClass y.cls = some m.cls → meth.name = y.name → meth.sig.returnType = ret → meth.locks = false →
      Stand p l e rm s m as below meth c T [] 0 0 → T.heap = h → own_G p e below (own_F s Q rm.cells rm.slots) (T.setTop (mkF m 0 fr []))) : own_Met l Z y bytes maxL ret ws rm as h Q := by
  refine MetFree.of_bodySF hp hisR ?_
  intro p e s m args below meth c s₁ Bd hml0 hP hK
  obtain ⟨rfl, hZ, hh⟩ := hP
  have q := body p e s m below meth c s₁ Bd.exec Bd.bytes hml0 hZ (findClass_of_methodNamed Bd.named) (name_of_methodNamed Bd.named Bd.method).1 Bd.returns (BodyLoose.notSynchronized Bd) (Stand.of_body Bd) (by rw [← hh, Bd.state]; rfl)
  rw [hfr m]; exact q
theorem own_w {a0 : Array Value} {Z : State} {ts : List Jvm.Cond} (hw : ∀ d ∈ ts, d.before a0 Z = true) (i : Nat) {d : Jvm.Cond} (h : ts[i]? = some d) : d.before a0 Z = true := hw d (List.mem_of_getElem? h)
/-! returns -/
theorem own_ret {Q : Option Value → Heap → List Loc → Prop} {k n : Nat} {v : Option Value} {fr : JFrame} (X : Stand p l e R s m args below meth c T locs cells slots) (hv : meth.sig.returnType = none → v = none) (hlk : meth.locks = false)
    (hst : ∀ fs, (∀ (f : JFrame) (acts : List Action), f.method = m → f.locked = none → f.entered = [] → (doReturn e (T.setTop f) acts v).1 = T.setFrames fs) → Steps p.tables e below (T.setTop fr) (T.setFrames fs)) (hQ : Q v T.heap locs) (hc : cells ≤ k) (hn : slots ≤ n) : own_G p e below (own_F s Q k n) (T.setTop fr) := by
  obtain ⟨fs, hr, hrun, hended, hW, hsame⟩ := X.leave (v := v) hv hlk
  exact ⟨_, _, hst fs hr, hrun, hended, v, locs, rfl, hQ, ⟨_, rfl⟩, hW, hsame.mono hc hn⟩
theorem own_stepI (X : Stand p l e R s m args below meth c T locs cells slots) (hx : p.tables.exec = Jvm.exec) {z : Int32} (hret : meth.sig.returnType = some .int) (hd : decode c.code pc = .ok (.ireturn, 1)) {fs : List Frame}
    (hl : ∀ (f : JFrame) (acts : List Action), f.method = m → f.locked = none → f.entered = [] → (doReturn e (T.setTop f) acts (some (.int z))).1 = T.setFrames fs) : Steps p.tables e below (T.setTop (mkF m pc Ls (.int z :: st))) (T.setFrames fs) :=
  retOut X hx (w := .int z) (t := .int) (i := .ireturn) hret rfl (Or.inl ⟨rfl, Or.inl rfl, z, rfl⟩) hd hl
theorem own_retI {Q : Option Value → Heap → List Loc → Prop} {k n : Nat} {z : Int32} (X : Stand p l e R s m args below meth c T locs cells slots) (hx : p.tables.exec = Jvm.exec) (hret : meth.sig.returnType = some .int) (hlk : meth.locks = false) (hd : decode c.code pc = .ok (.ireturn, 1))
    (hQ : Q (some (.int z)) T.heap locs) (hc : cells ≤ k) (hn : slots ≤ n) : own_G p e below (own_F s Q k n) (T.setTop (mkF m pc Ls (.int z :: st))) :=
  own_ret X (fun q => by rw [hret] at q; cases q) hlk (fun _ hr => own_stepI X hx hret hd hr) hQ hc hn
theorem own_retN {Q : Option Value → Heap → List Loc → Prop} {k n : Nat} {z : Int32} {t : FieldType} (X : Stand p l e R s m args below meth c T locs cells slots) (hx : p.tables.exec = Jvm.exec) (hret : meth.sig.returnType = some t) (ht : t = .boolean ∨ t = .byte ∨ t = .char ∨ t = .short) (hlk : meth.locks = false) (hd : decode c.code pc = .ok (.ireturn, 1))
    (hQ : Q (some (.int (nar t z))) T.heap locs) (hc : cells ≤ k) (hn : slots ≤ n) : own_G p e below (own_F s Q k n) (T.setTop (mkF m pc Ls (.int z :: st))) :=
  own_ret X (fun q => by rw [hret] at q; cases q) hlk (fun _ hr => retN X hx hret ht hd hr) hQ hc hn
theorem own_retR {Q : Option Value → Heap → List Loc → Prop} {k n : Nat} {w : Value} {t : FieldType} (X : Stand p l e R s m args below meth c T locs cells slots) (hx : p.tables.exec = Jvm.exec) (hret : meth.sig.returnType = some t) (ht : t.isReference = true) (hnw : narrow t w = w) (hwr : w.isRef = true) (hlk : meth.locks = false) (hd : decode c.code pc = .ok (.areturn, 1))
    (hQ : Q (some w) T.heap locs) (hc : cells ≤ k) (hn : slots ≤ n) : own_G p e below (own_F s Q k n) (T.setTop (mkF m pc Ls (w :: st))) :=
  own_ret X (fun q => by rw [hret] at q; cases q) hlk (fun _ hr => retOut X hx (t := t) (i := .areturn) hret hnw (Or.inr (Or.inr (Or.inr (Or.inr ⟨rfl, ht, hwr⟩)))) hd hr) hQ hc hn
theorem own_retV {Q : Option Value → Heap → List Loc → Prop} {k n : Nat} (X : Stand p l e R s m args below meth c T locs cells slots) (hx : p.tables.exec = Jvm.exec) (hret : meth.sig.returnType = none) (hlk : meth.locks = false) (hd : decode c.code pc = .ok (.return_, 1))
    (hQ : Q none T.heap locs) (hc : cells ≤ k) (hn : slots ≤ n) : own_G p e below (own_F s Q k n) (T.setTop (mkF m pc Ls [])) :=
  own_ret X (fun _ => rfl) hlk (fun _ hr => X.returnOut hx hret hd hr) hQ hc hn
/-! branches -/
theorem own_icmp {P : Prop} {cd : ClassFile.Cond} {x y : Int32} {o : Int} (X : Stand p l e R s m args below meth c T locs cells slots) (hx : p.tables.exec = Jvm.exec) (hd : decode c.code pc = .ok (.if_icmp cd o, 3)) (ho : 0 ≤ (pc : Int) + o) (hp : ((pc : Int) + o).toNat = pc')
    (h1 : P → if_icmp.holds cd x y = true) (h2 : ¬ P → if_icmp.holds cd x y = false) (yes : P → own_G p e below F (T.setTop (mkF m pc' Ls st))) (no : ¬ P → own_G p e below F (T.setTop (mkF m (pc + 3) Ls st))) : own_G p e below F (T.setTop (mkF m pc Ls (.int y :: .int x :: st))) := by
  by_cases q : P
  · exact own_step (fun t k => XS.icmpYes X.here hx rfl (pc0 := pc) (pc' := pc') rfl hd rfl (h1 q) ho hp k) (yes q)
  · exact own_step (fun t k => XS.icmpNo X.here hx rfl hd rfl (h2 q) k) (no q)
theorem own_ifc {P : Prop} {cd : ClassFile.Cond} {x : Int32} {o : Int} (X : Stand p l e R s m args below meth c T locs cells slots) (hx : p.tables.exec = Jvm.exec) (hd : decode c.code pc = .ok (.ifCond cd o, 3)) (ho : 0 ≤ (pc : Int) + o) (hp : ((pc : Int) + o).toNat = pc')
    (h1 : P → ifCond.holds cd x = true) (h2 : ¬ P → ifCond.holds cd x = false) (yes : P → own_G p e below F (T.setTop (mkF m pc' Ls st))) (no : ¬ P → own_G p e below F (T.setTop (mkF m (pc + 3) Ls st))) : own_G p e below F (T.setTop (mkF m pc Ls (.int x :: st))) := by
  by_cases q : P
  · exact own_step (fun t k => XS.ifYes X.here hx rfl (pc0 := pc) (pc' := pc') rfl hd rfl (h1 q) ho hp k) (yes q)
  · exact own_step (fun t k => XS.ifNo X.here hx rfl hd rfl (h2 q) k) (no q)
theorem own_icmp_eq {x y : Int32} {o : Int} (X : Stand p l e R s m args below meth c T locs cells slots) (hx : p.tables.exec = Jvm.exec) (hd : decode c.code pc = .ok (.if_icmp .eq o, 3)) (ho : 0 ≤ (pc : Int) + o) (hp : ((pc : Int) + o).toNat = pc')
    (yes : x = y → own_G p e below F (T.setTop (mkF m pc' Ls st))) (no : ¬ x = y → own_G p e below F (T.setTop (mkF m (pc + 3) Ls st))) : own_G p e below F (T.setTop (mkF m pc Ls (.int y :: .int x :: st))) :=
  own_icmp (P := x = y) X hx hd ho hp (fun q => by have q' := q; simp [if_icmp.holds, Int32.not_lt, Int32.not_le] at q' ⊢; exact q') (fun q => by have q' := q; simp [if_icmp.holds, Int32.not_lt, Int32.not_le] at q' ⊢; exact q') yes (fun q => no (by first | exact q | exact Classical.not_not.mp q))
theorem own_if_eq {x : Int32} {o : Int} (X : Stand p l e R s m args below meth c T locs cells slots) (hx : p.tables.exec = Jvm.exec) (hd : decode c.code pc = .ok (.ifCond .eq o, 3)) (ho : 0 ≤ (pc : Int) + o) (hp : ((pc : Int) + o).toNat = pc')
    (yes : x = 0 → own_G p e below F (T.setTop (mkF m pc' Ls st))) (no : ¬ x = 0 → own_G p e below F (T.setTop (mkF m (pc + 3) Ls st))) : own_G p e below F (T.setTop (mkF m pc Ls (.int x :: st))) :=
  own_ifc (P := x = 0) X hx hd ho hp (fun q => by have q' := q; simp [ifCond.holds, Int32.not_lt, Int32.not_le] at q' ⊢; exact q') (fun q => by have q' := q; simp [ifCond.holds, Int32.not_lt, Int32.not_le] at q' ⊢; exact q') yes (fun q => no (by first | exact q | exact Classical.not_not.mp q))
theorem own_icmp_ne {x y : Int32} {o : Int} (X : Stand p l e R s m args below meth c T locs cells slots) (hx : p.tables.exec = Jvm.exec) (hd : decode c.code pc = .ok (.if_icmp .ne o, 3)) (ho : 0 ≤ (pc : Int) + o) (hp : ((pc : Int) + o).toNat = pc')
    (yes : ¬ x = y → own_G p e below F (T.setTop (mkF m pc' Ls st))) (no : x = y → own_G p e below F (T.setTop (mkF m (pc + 3) Ls st))) : own_G p e below F (T.setTop (mkF m pc Ls (.int y :: .int x :: st))) :=
  own_icmp (P := ¬ x = y) X hx hd ho hp (fun q => by have q' := q; simp [if_icmp.holds, Int32.not_lt, Int32.not_le] at q' ⊢; exact q') (fun q => by have q' := q; simp [if_icmp.holds, Int32.not_lt, Int32.not_le] at q' ⊢; exact q') yes (fun q => no (by first | exact q | exact Classical.not_not.mp q))
theorem own_if_ne {x : Int32} {o : Int} (X : Stand p l e R s m args below meth c T locs cells slots) (hx : p.tables.exec = Jvm.exec) (hd : decode c.code pc = .ok (.ifCond .ne o, 3)) (ho : 0 ≤ (pc : Int) + o) (hp : ((pc : Int) + o).toNat = pc')
    (yes : ¬ x = 0 → own_G p e below F (T.setTop (mkF m pc' Ls st))) (no : x = 0 → own_G p e below F (T.setTop (mkF m (pc + 3) Ls st))) : own_G p e below F (T.setTop (mkF m pc Ls (.int x :: st))) :=
  own_ifc (P := ¬ x = 0) X hx hd ho hp (fun q => by have q' := q; simp [ifCond.holds, Int32.not_lt, Int32.not_le] at q' ⊢; exact q') (fun q => by have q' := q; simp [ifCond.holds, Int32.not_lt, Int32.not_le] at q' ⊢; exact q') yes (fun q => no (by first | exact q | exact Classical.not_not.mp q))
theorem own_icmp_lt {x y : Int32} {o : Int} (X : Stand p l e R s m args below meth c T locs cells slots) (hx : p.tables.exec = Jvm.exec) (hd : decode c.code pc = .ok (.if_icmp .lt o, 3)) (ho : 0 ≤ (pc : Int) + o) (hp : ((pc : Int) + o).toNat = pc')
    (yes : x < y → own_G p e below F (T.setTop (mkF m pc' Ls st))) (no : ¬ x < y → own_G p e below F (T.setTop (mkF m (pc + 3) Ls st))) : own_G p e below F (T.setTop (mkF m pc Ls (.int y :: .int x :: st))) :=
  own_icmp (P := x < y) X hx hd ho hp (fun q => by have q' := q; simp [if_icmp.holds, Int32.not_lt, Int32.not_le] at q' ⊢; exact q') (fun q => by have q' := q; simp [if_icmp.holds, Int32.not_lt, Int32.not_le] at q' ⊢; exact q') yes (fun q => no (by first | exact q | exact Classical.not_not.mp q))
theorem own_if_lt {x : Int32} {o : Int} (X : Stand p l e R s m args below meth c T locs cells slots) (hx : p.tables.exec = Jvm.exec) (hd : decode c.code pc = .ok (.ifCond .lt o, 3)) (ho : 0 ≤ (pc : Int) + o) (hp : ((pc : Int) + o).toNat = pc')
    (yes : x < 0 → own_G p e below F (T.setTop (mkF m pc' Ls st))) (no : ¬ x < 0 → own_G p e below F (T.setTop (mkF m (pc + 3) Ls st))) : own_G p e below F (T.setTop (mkF m pc Ls (.int x :: st))) :=
  own_ifc (P := x < 0) X hx hd ho hp (fun q => by have q' := q; simp [ifCond.holds, Int32.not_lt, Int32.not_le] at q' ⊢; exact q') (fun q => by have q' := q; simp [ifCond.holds, Int32.not_lt, Int32.not_le] at q' ⊢; exact q') yes (fun q => no (by first | exact q | exact Classical.not_not.mp q))
theorem own_icmp_ge {x y : Int32} {o : Int} (X : Stand p l e R s m args below meth c T locs cells slots) (hx : p.tables.exec = Jvm.exec) (hd : decode c.code pc = .ok (.if_icmp .ge o, 3)) (ho : 0 ≤ (pc : Int) + o) (hp : ((pc : Int) + o).toNat = pc')
    (yes : ¬ x < y → own_G p e below F (T.setTop (mkF m pc' Ls st))) (no : x < y → own_G p e below F (T.setTop (mkF m (pc + 3) Ls st))) : own_G p e below F (T.setTop (mkF m pc Ls (.int y :: .int x :: st))) :=
  own_icmp (P := ¬ x < y) X hx hd ho hp (fun q => by have q' := q; simp [if_icmp.holds, Int32.not_lt, Int32.not_le] at q' ⊢; exact q') (fun q => by have q' := q; simp [if_icmp.holds, Int32.not_lt, Int32.not_le] at q' ⊢; exact q') yes (fun q => no (by first | exact q | exact Classical.not_not.mp q))
theorem own_if_ge {x : Int32} {o : Int} (X : Stand p l e R s m args below meth c T locs cells slots) (hx : p.tables.exec = Jvm.exec) (hd : decode c.code pc = .ok (.ifCond .ge o, 3)) (ho : 0 ≤ (pc : Int) + o) (hp : ((pc : Int) + o).toNat = pc')
    (yes : ¬ x < 0 → own_G p e below F (T.setTop (mkF m pc' Ls st))) (no : x < 0 → own_G p e below F (T.setTop (mkF m (pc + 3) Ls st))) : own_G p e below F (T.setTop (mkF m pc Ls (.int x :: st))) :=
  own_ifc (P := ¬ x < 0) X hx hd ho hp (fun q => by have q' := q; simp [ifCond.holds, Int32.not_lt, Int32.not_le] at q' ⊢; exact q') (fun q => by have q' := q; simp [ifCond.holds, Int32.not_lt, Int32.not_le] at q' ⊢; exact q') yes (fun q => no (by first | exact q | exact Classical.not_not.mp q))
theorem own_icmp_gt {x y : Int32} {o : Int} (X : Stand p l e R s m args below meth c T locs cells slots) (hx : p.tables.exec = Jvm.exec) (hd : decode c.code pc = .ok (.if_icmp .gt o, 3)) (ho : 0 ≤ (pc : Int) + o) (hp : ((pc : Int) + o).toNat = pc')
    (yes : y < x → own_G p e below F (T.setTop (mkF m pc' Ls st))) (no : ¬ y < x → own_G p e below F (T.setTop (mkF m (pc + 3) Ls st))) : own_G p e below F (T.setTop (mkF m pc Ls (.int y :: .int x :: st))) :=
  own_icmp (P := y < x) X hx hd ho hp (fun q => by have q' := q; simp [if_icmp.holds, Int32.not_lt, Int32.not_le] at q' ⊢; exact q') (fun q => by have q' := q; simp [if_icmp.holds, Int32.not_lt, Int32.not_le] at q' ⊢; exact q') yes (fun q => no (by first | exact q | exact Classical.not_not.mp q))
theorem own_if_gt {x : Int32} {o : Int} (X : Stand p l e R s m args below meth c T locs cells slots) (hx : p.tables.exec = Jvm.exec) (hd : decode c.code pc = .ok (.ifCond .gt o, 3)) (ho : 0 ≤ (pc : Int) + o) (hp : ((pc : Int) + o).toNat = pc')
    (yes : 0 < x → own_G p e below F (T.setTop (mkF m pc' Ls st))) (no : ¬ 0 < x → own_G p e below F (T.setTop (mkF m (pc + 3) Ls st))) : own_G p e below F (T.setTop (mkF m pc Ls (.int x :: st))) :=
  own_ifc (P := 0 < x) X hx hd ho hp (fun q => by have q' := q; simp [ifCond.holds, Int32.not_lt, Int32.not_le] at q' ⊢; exact q') (fun q => by have q' := q; simp [ifCond.holds, Int32.not_lt, Int32.not_le] at q' ⊢; exact q') yes (fun q => no (by first | exact q | exact Classical.not_not.mp q))
theorem own_icmp_le {x y : Int32} {o : Int} (X : Stand p l e R s m args below meth c T locs cells slots) (hx : p.tables.exec = Jvm.exec) (hd : decode c.code pc = .ok (.if_icmp .le o, 3)) (ho : 0 ≤ (pc : Int) + o) (hp : ((pc : Int) + o).toNat = pc')
    (yes : ¬ y < x → own_G p e below F (T.setTop (mkF m pc' Ls st))) (no : y < x → own_G p e below F (T.setTop (mkF m (pc + 3) Ls st))) : own_G p e below F (T.setTop (mkF m pc Ls (.int y :: .int x :: st))) :=
  own_icmp (P := ¬ y < x) X hx hd ho hp (fun q => by have q' := q; simp [if_icmp.holds, Int32.not_lt, Int32.not_le] at q' ⊢; exact q') (fun q => by have q' := q; simp [if_icmp.holds, Int32.not_lt, Int32.not_le] at q' ⊢; exact q') yes (fun q => no (by first | exact q | exact Classical.not_not.mp q))
theorem own_if_le {x : Int32} {o : Int} (X : Stand p l e R s m args below meth c T locs cells slots) (hx : p.tables.exec = Jvm.exec) (hd : decode c.code pc = .ok (.ifCond .le o, 3)) (ho : 0 ≤ (pc : Int) + o) (hp : ((pc : Int) + o).toNat = pc')
    (yes : ¬ 0 < x → own_G p e below F (T.setTop (mkF m pc' Ls st))) (no : 0 < x → own_G p e below F (T.setTop (mkF m (pc + 3) Ls st))) : own_G p e below F (T.setTop (mkF m pc Ls (.int x :: st))) :=
  own_ifc (P := ¬ 0 < x) X hx hd ho hp (fun q => by have q' := q; simp [ifCond.holds, Int32.not_lt, Int32.not_le] at q' ⊢; exact q') (fun q => by have q' := q; simp [ifCond.holds, Int32.not_lt, Int32.not_le] at q' ⊢; exact q') yes (fun q => no (by first | exact q | exact Classical.not_not.mp q))
theorem own_nonnull_ref {b : Addr} {o : Int} (X : Stand p l e R s m args below meth c T locs cells slots) (hx : p.tables.exec = Jvm.exec) (hd : decode c.code pc = .ok (.ifnonnull o, 3)) (ho : 0 ≤ (pc : Int) + o) (hp : ((pc : Int) + o).toNat = pc')
    (yes : own_G p e below F (T.setTop (mkF m pc' Ls st))) : own_G p e below F (T.setTop (mkF m pc Ls (.ref b :: st))) := own_step (fun t k => XT.ifnonnullYes X.here hx rfl (pc0 := pc) (pc' := pc') rfl hd rfl ho hp k) yes
theorem own_nonnull_null {o : Int} (X : Stand p l e R s m args below meth c T locs cells slots) (hx : p.tables.exec = Jvm.exec) (hd : decode c.code pc = .ok (.ifnonnull o, 3))
    (no : own_G p e below F (T.setTop (mkF m (pc + 3) Ls st))) : own_G p e below F (T.setTop (mkF m pc Ls (.null :: st))) := own_step (fun t k => XT.ifnonnullNo X.here hx rfl hd rfl k) no
/-! the heap -/
theorem own_getF (X : Stand p l e R s m args below meth c T locs cells slots) (hx : p.tables.exec = Jvm.exec) (hZ : Z.Warmed39 s.vm) {own O n d : String} {index : Nat} (hown : s.vm.findClass own = some m.cls) (w : (Jvm.Cond.fieldLink own index O n d).before a0 Z = true) (eT : T.heap = h) {a : Addr} {v : Value} (Fd : Fld Z h a O n d v) (hd : decode c.code pc = .ok (.getfield index, 3))
    (k : ∀ T', Stand p l e R s m args below meth c T' locs cells slots → T'.heap = h → own_G p e below F (T'.setTop (mkF m (pc + 3) Ls (v :: st)))) : own_G p e below F (T.setTop (mkF m pc Ls (.ref a :: st))) := by
  obtain ⟨T', X', e', st'⟩ := getF X hx hZ hown (host := "") (Or.inl w) Via.refl eT Fd (g := mkF m pc Ls (.ref a :: st)) rfl rfl hd
  exact own_step st' (k T' X' e')
theorem own_getS (X : Stand p l e R s m args below meth c T locs cells slots) (hx : p.tables.exec = Jvm.exec) (hZ : Z.Warmed39 s.vm) {own O n d : String} {index : Nat} (hown : s.vm.findClass own = some m.cls) (w : (Jvm.Cond.fieldLink own index O n d).before a0 Z = true) (eT : T.heap = h) {v : Value} (Fd : Sta Z h O n d v) (hd : decode c.code pc = .ok (.getstatic index, 3))
    (k : ∀ T', Stand p l e R s m args below meth c T' locs cells slots → T'.heap = h → own_G p e below F (T'.setTop (mkF m (pc + 3) Ls (v :: st)))) : own_G p e below F (T.setTop (mkF m pc Ls st)) := by
  obtain ⟨T', X', e', st'⟩ := getS X hx hZ (host := "") hown w Via.refl eT Fd (g := mkF m pc Ls st) rfl hd
  exact own_step st' (k T' X' e')
theorem own_putF (X : Stand p l e R s m args below meth c T locs cells slots) (hx : p.tables.exec = Jvm.exec) (hZ : Z.Warmed39 s.vm) {own O n d C : String} {index kk : Nat} {ty : FieldType} (hown : s.vm.findClass own = some m.cls) (w : (Jvm.Cond.fieldLink own index O n d).before a0 Z = true) (eT : T.heap = h) {a : Addr} {v old : Value} (Fd : Fld Z h a O n d old) (E : Exa Z h a C)
    (L : (Jvm.Cond.lays C O n d).before a0 Z = true ∨ ((Jvm.Cond.laysFinal C O n d).before a0 Z = true ∧ own = O ∧ meth.name = "<init>")) (wi : (Jvm.Cond.instantiable C kk).before a0 Z = true) (hty : parseFieldDescriptor d = some ty) (hn : narrow ty v = v) (hf : fits ty v = true) (N : Fr Z.heap.size locs) (ha : Z.heap.size ≤ a) (hd : decode c.code pc = .ok (.putfield index, 3))
    (k : ∀ T' h', Stand p l e R s m args below meth c T' (locs ++ [⟨a, Jvm.RoadKit.slotOf Z O n d⟩]) cells slots → T'.heap = h' → Fr Z.heap.size (locs ++ [⟨a, Jvm.RoadKit.slotOf Z O n d⟩]) → Wr h h' a (Jvm.RoadKit.slotOf Z O n d) v → h'.size = h.size → Fld Z h' a O n d v → Exa Z h' a C → own_G p e below F (T'.setTop (mkF m (pc + 3) Ls st))) : own_G p e below F (T.setTop (mkF m pc Ls (v :: .ref a :: st))) := by
  obtain ⟨T', h', X', e', W', st'⟩ := putF X hx hZ hown (host := "") (Or.inl w) Via.refl eT Fd E L wi hty hn hf (g := mkF m pc Ls (v :: .ref a :: st)) rfl rfl hd
  exact own_step st' (k T' h' X' e' (Fr.snoc X' N ha) W' W'.size (Fd.same W') (E.wr W'))
theorem own_newO (X : Stand p l e R s m args below meth c T locs cells slots) (hx : p.tables.exec = Jvm.exec) (hZ : Z.Warmed39 s.vm) {own C : String} {index n : Nat} (hown : s.vm.findClass own = some m.cls) (w : (Jvm.Cond.classLink own index C).before a0 Z = true) (wi : (Jvm.Cond.instantiable C n).before a0 Z = true) (wz : (Jvm.Cond.initialized C).before a0 Z = true) (eT : T.heap = h)
    (hd : decode c.code pc = .ok (.new index, 3)) (hc : cells + 1 ≤ R.cells) (hl : slots + n ≤ R.slots)
    (k : ∀ T' h' a, Stand p l e R s m args below meth c T' locs (cells + 1) (slots + n) → T'.heap = h' → a = h.size → a < h'.size → Ext h h' → Exa Z h' a C → (∀ {O nm d : String} {ty : FieldType}, Laid Z a0 C O nm d → parseFieldDescriptor d = some ty → Fld Z h' a O nm d (defaultValue ty)) →
      own_G p e below F (T'.setTop (mkF m (pc + 3) Ls (.ref a :: st)))) : own_G p e below F (T.setTop (mkF m pc Ls st)) := by
  obtain ⟨T', h', X', e', E', A', D', -, st'⟩ := newO X hx hZ hown w wi wz eT (g := mkF m pc Ls st) rfl hd hc hl
  exact own_step st' (k T' h' h.size X' e' rfl A'.lt E' A' D')
/-- newarray, its places said one by one -/
theorem own_newP (X : Stand p l e R s m args below meth c T locs cells slots) (hx : p.tables.exec = Jvm.exec) (hZ : Z.Warmed39 s.vm) {aty : ArrayType} (w : (Jvm.Cond.arrayClass (newarray.typeOf aty)).before a0 Z = true) (eT : T.heap = h) (hd : decode c.code pc = .ok (.newarray aty, 2)) {n : Int32} (hn : ¬ n < 0) (cap : Nat) (hcap : n.toNatClampNeg ≤ cap) (hb : cap * 8 ≤ 536870912) (hc : cells + 1 ≤ R.cells) (hl : slots + cap ≤ R.slots)
    (k : ∀ T' h' a kA, Stand p l e R s m args below meth c T' locs (cells + 1) (slots + cap) → T'.heap = h' → a = h.size → a < h'.size → Ext h h' → Arv Z h' a kA (newarray.typeOf aty) n (List.replicate n.toNatClampNeg (defaultValue (newarray.typeOf aty))) (defaultValue (newarray.typeOf aty)) →
      own_G p e below F (T'.setTop (mkF m (pc + 2) Ls (.ref a :: st)))) : own_G p e below F (T.setTop (mkF m pc Ls (.int n :: st))) := by
  obtain ⟨T', h', cA, X', e', E', A', st'⟩ := newP X hx hZ w eT (g := mkF m pc Ls (.int n :: st)) rfl hd rfl hn (cap := cap) hcap hb hc hl
  exact own_step st' (k T' h' h.size cA X' e' rfl A'.lt E' ((Arv.new A' hn).pad (by have q := pad_rep [] (defaultValue (newarray.typeOf aty)) n.toNatClampNeg; simpa using q)))
theorem own_inb {n : Int32} {i : Nat} {j : Int32} (hj0 : ¬ j < 0) (hj : j.toNatClampNeg = i) (hi : i < n.toNatClampNeg) : ¬ j < 0 ∧ j < n := by
  refine ⟨hj0, ?_⟩
  rw [Int32.lt_iff_toInt_lt]
  simp only [Int32.toNatClampNeg] at hj hi
  rw [Int32.lt_iff_toInt_lt] at hj0
  simp only [Int32.reduceToInt] at hj0
  omega
theorem own_stC (X : Stand p l e R s m args below meth c T locs cells slots) (hx : p.tables.exec = Jvm.exec) (hZ : Z.Warmed39 s.vm) (eT : T.heap = h) {a : Addr} {kA : ClassId} {n : Int32} {vs : List Value} {dv : Value} (V : Arv Z h a kA .char n vs dv) {j x : Int32} (i : Nat) (hj0 : ¬ j < 0) (hj : j.toNatClampNeg = i) (hi : i < n.toNatClampNeg) (hi' : i < vs.length) (N : Fr Z.heap.size locs) (ha : Z.heap.size ≤ a) (hd : decode c.code pc = .ok (.castore, 1))
    (k : ∀ T' h', Stand p l e R s m args below meth c T' (locs ++ [⟨a, j.toNatClampNeg⟩]) cells slots → T'.heap = h' → Fr Z.heap.size (locs ++ [⟨a, j.toNatClampNeg⟩]) → Wr h h' a j.toNatClampNeg (.int (nar .char x)) → h'.size = h.size → Arv Z h' a kA .char n (vs.set i (.int (nar .char x))) dv → own_G p e below F (T'.setTop (mkF m (pc + 1) Ls st))) :
    own_G p e below F (T.setTop (mkF m pc Ls (.int x :: .int j :: .ref a :: st))) := by
  obtain ⟨cl, A, q1, S, q3, H, G⟩ := V
  obtain ⟨T', h', X', e', W', st'⟩ := stC X hx hZ eT A (j := j) (inb_of S (own_inb hj0 hj hi)) (g := mkF m pc Ls (.int x :: .int j :: .ref a :: st)) rfl rfl hd
  exact own_step st' (k T' h' X' e' (Fr.snoc X' N ha) W' W'.size (Arv.set A q1 S q3 H G (fits_nar_char _) W' i hj hi'))
theorem own_stI (X : Stand p l e R s m args below meth c T locs cells slots) (hx : p.tables.exec = Jvm.exec) (hZ : Z.Warmed39 s.vm) (eT : T.heap = h) {a : Addr} {kA : ClassId} {n : Int32} {vs : List Value} {dv : Value} (V : Arv Z h a kA .int n vs dv) {j x : Int32} (i : Nat) (hj0 : ¬ j < 0) (hj : j.toNatClampNeg = i) (hi : i < n.toNatClampNeg) (hi' : i < vs.length) (N : Fr Z.heap.size locs) (ha : Z.heap.size ≤ a) (hd : decode c.code pc = .ok (.iastore, 1))
    (k : ∀ T' h', Stand p l e R s m args below meth c T' (locs ++ [⟨a, j.toNatClampNeg⟩]) cells slots → T'.heap = h' → Fr Z.heap.size (locs ++ [⟨a, j.toNatClampNeg⟩]) → Wr h h' a j.toNatClampNeg (.int x) → h'.size = h.size → Arv Z h' a kA .int n (vs.set i (.int x)) dv → own_G p e below F (T'.setTop (mkF m (pc + 1) Ls st))) :
    own_G p e below F (T.setTop (mkF m pc Ls (.int x :: .int j :: .ref a :: st))) := by
  obtain ⟨cl, A, q1, S, q3, H, G⟩ := V
  obtain ⟨T', h', X', e', W', st'⟩ := stI X hx hZ eT A (j := j) (inb_of S (own_inb hj0 hj hi)) (g := mkF m pc Ls (.int x :: .int j :: .ref a :: st)) rfl rfl hd
  exact own_step st' (k T' h' X' e' (Fr.snoc X' N ha) W' W'.size (Arv.set A q1 S q3 H G rfl W' i hj hi'))
theorem own_stB (X : Stand p l e R s m args below meth c T locs cells slots) (hx : p.tables.exec = Jvm.exec) (hZ : Z.Warmed39 s.vm) (eT : T.heap = h) {a : Addr} {kA : ClassId} {n : Int32} {vs : List Value} {dv : Value} (V : Arv Z h a kA .byte n vs dv) {j x : Int32} (i : Nat) (hj0 : ¬ j < 0) (hj : j.toNatClampNeg = i) (hi : i < n.toNatClampNeg) (hi' : i < vs.length) (N : Fr Z.heap.size locs) (ha : Z.heap.size ≤ a) (hd : decode c.code pc = .ok (.bastore, 1))
    (k : ∀ T' h', Stand p l e R s m args below meth c T' (locs ++ [⟨a, j.toNatClampNeg⟩]) cells slots → T'.heap = h' → Fr Z.heap.size (locs ++ [⟨a, j.toNatClampNeg⟩]) → Wr h h' a j.toNatClampNeg (.int (nar .byte x)) → h'.size = h.size → Arv Z h' a kA .byte n (vs.set i (.int (nar .byte x))) dv → own_G p e below F (T'.setTop (mkF m (pc + 1) Ls st))) :
    own_G p e below F (T.setTop (mkF m pc Ls (.int x :: .int j :: .ref a :: st))) := by
  obtain ⟨cl, A, q1, S, q3, H, G⟩ := V
  obtain ⟨T', h', X', e', W', st'⟩ := stB X hx hZ eT A (j := j) (inb_of S (own_inb hj0 hj hi)) (g := mkF m pc Ls (.int x :: .int j :: .ref a :: st)) rfl rfl hd
  exact own_step st' (k T' h' X' e' (Fr.snoc X' N ha) W' W'.size (Arv.set A q1 S q3 H G (fits_nar_byte _) W' i hj hi'))
theorem own_ldC (X : Stand p l e R s m args below meth c T locs cells slots) (hx : p.tables.exec = Jvm.exec) (hZ : Z.Warmed39 s.vm) (eT : T.heap = h) {a : Addr} {kA : ClassId} {n : Int32} {vs : List Value} {dv v : Value} (V : Arv Z h a kA .char n vs dv) {j : Int32} (i : Nat) (hj0 : ¬ j < 0) (hj : j.toNatClampNeg = i) (hi : i < n.toNatClampNeg) (hv : vs.getD i dv = v) (hd : decode c.code pc = .ok (.caload, 1))
    (k : own_G p e below F (T.setTop (mkF m (pc + 1) Ls (v :: st)))) : own_G p e below F (T.setTop (mkF m pc Ls (.int j :: .ref a :: st))) := by
  obtain ⟨cl, A, q1, S, q3, H, G⟩ := V
  have hin := inb_of S (own_inb hj0 hj hi)
  exact own_step (X.caload hx (by rw [eT]; exact A.1) (State.isArrayOf_alike hZ.alike A.2.1) A.2.2 hin (Has.at H hin (by rw [hj]; exact hv)) (g := mkF m pc Ls (.int j :: .ref a :: st)) rfl rfl hd) k
theorem own_ldI (X : Stand p l e R s m args below meth c T locs cells slots) (hx : p.tables.exec = Jvm.exec) (hZ : Z.Warmed39 s.vm) (eT : T.heap = h) {a : Addr} {kA : ClassId} {n : Int32} {vs : List Value} {dv v : Value} (V : Arv Z h a kA .int n vs dv) {j : Int32} (i : Nat) (hj0 : ¬ j < 0) (hj : j.toNatClampNeg = i) (hi : i < n.toNatClampNeg) (hv : vs.getD i dv = v) (hd : decode c.code pc = .ok (.iaload, 1))
    (k : own_G p e below F (T.setTop (mkF m (pc + 1) Ls (v :: st)))) : own_G p e below F (T.setTop (mkF m pc Ls (.int j :: .ref a :: st))) := by
  obtain ⟨cl, A, q1, S, q3, H, G⟩ := V
  have hin := inb_of S (own_inb hj0 hj hi)
  exact own_step (X.iaload hx (by rw [eT]; exact A.1) (State.isArrayOf_alike hZ.alike A.2.1) A.2.2 hin (Has.at H hin (by rw [hj]; exact hv)) (g := mkF m pc Ls (.int j :: .ref a :: st)) rfl rfl hd) k
theorem own_ldB (X : Stand p l e R s m args below meth c T locs cells slots) (hx : p.tables.exec = Jvm.exec) (hZ : Z.Warmed39 s.vm) (eT : T.heap = h) {a : Addr} {kA : ClassId} {n : Int32} {vs : List Value} {dv v : Value} (V : Arv Z h a kA .byte n vs dv) {j : Int32} (i : Nat) (hj0 : ¬ j < 0) (hj : j.toNatClampNeg = i) (hi : i < n.toNatClampNeg) (hv : vs.getD i dv = v) (hd : decode c.code pc = .ok (.baload, 1))
    (k : own_G p e below F (T.setTop (mkF m (pc + 1) Ls (v :: st)))) : own_G p e below F (T.setTop (mkF m pc Ls (.int j :: .ref a :: st))) := by
  obtain ⟨cl, A, q1, S, q3, H, G⟩ := V
  have hin := inb_of S (own_inb hj0 hj hi)
  exact own_step (X.baloadBytes hx (by rw [eT]; exact A.1) (State.isArrayOf_alike hZ.alike A.2.1) A.2.2 hin (Has.at H hin (by rw [hj]; exact hv)) (g := mkF m pc Ls (.int j :: .ref a :: st)) rfl rfl hd) k
theorem own_len (X : Stand p l e R s m args below meth c T locs cells slots) (hx : p.tables.exec = Jvm.exec) (hZ : Z.Warmed39 s.vm) (eT : T.heap = h) {a : Addr} {kA : ClassId} {ty : FieldType} {n : Int32} {vs : List Value} {dv : Value} (V : Arv Z h a kA ty n vs dv) (hd : decode c.code pc = .ok (.arraylength, 1))
    (k : own_G p e below F (T.setTop (mkF m (pc + 1) Ls (.int n :: st)))) : own_G p e below F (T.setTop (mkF m pc Ls (.ref a :: st))) := by
  obtain ⟨cl, A, q1, S, q3, H, G⟩ := V
  exact own_step (fun t q => X.arraylength hx (by rw [eT]; exact A.1) (State.isArrayOf_alike hZ.alike A.2.1) (g := mkF m pc Ls (.ref a :: st)) rfl rfl hd t (by rw [len_of S q3]; exact q)) k
/-! calls; a callee's law in the shape that backOf gives -/
abbrev own_B (l : Launch) (R : Room) (p : Program) (e : Env) (below : List Frame) (s : State) (args : Array Value) (y : MethodName) (W : Nat) (as : Array Value) (h : Heap) (kc kn : Nat) (Q : Option Value → Heap → List Loc → Prop) : Prop :=
  Back l R p e below s args y 3 W (fun A a => a = as ∧ A.U.heap = h ∧ A.cells + kc ≤ R.cells ∧ A.slots + kn ≤ R.slots) (fun A _ v B => ∃ L, Q v B.U.heap L ∧ B.locs = A.locs ++ L ∧ B.cells = A.cells + kc ∧ B.slots = A.slots + kn)
theorem own_static {Q : Option Value → Heap → List Loc → Prop} {kc kn W : Nat} {argsL : List Value} (X : Stand p l e R s m args below meth c T locs cells slots) (hx : p.tables.exec = Jvm.exec) (hZ : Z.Warmed39 s.vm) {own : String} {index : Nat} {y : MethodName} {bytes : ByteArray} {maxL : Nat} {ret : Option FieldType} (hown : s.vm.findClass own = some m.cls)
    (w1 : (Jvm.Cond.methodLink own index y).before a0 Z = true) (w2 : (Jvm.Cond.static y).before a0 Z = true) (w3 : (Jvm.Cond.initialized y.cls).before a0 Z = true) (w4 : (Jvm.Cond.code y bytes maxL ret).before a0 Z = true) (hy : y.cls ≠ "java/lang/invoke/MethodHandle" ∧ y.cls ≠ "java/lang/invoke/VarHandle") (eT : T.heap = h)
    (hK : own_B l R p e below s args y W argsL.toArray h kc kn Q) (hc : cells + kc ≤ R.cells) (hs : slots + kn ≤ R.slots) (hsz : Ls.size = c.maxLocals) (hlen : ∀ sig, parseMethodDescriptor y.desc = some sig → argsL.length = sig.parameters.length) (hstk : stk = argsL.reverse ++ st) (hW : (st.map fun v => v.category).sum ≤ W)
    (hd : decode c.code pc = .ok (.invokestatic index, 3)) (k : ∀ v T' L, Stand p l e R s m args below meth c T' (locs ++ L) (cells + kc) (slots + kn) → Q v T'.heap L → own_G p e below F (T'.setTop (mkF m (pc + 3) Ls (v.toList ++ st)))) : own_G p e below F (T.setTop (mkF m pc Ls stk)) := by
  obtain ⟨v, _, ⟨T', L', k', n'⟩, -, X', ⟨L, hQ, l1, y1, z1⟩, st'⟩ := Jvm.LawKit.callS X hx hown (mvT hZ w1) (mvT hZ w2) (mvT hZ w3) (mvT hZ w4) hy hK (g := mkF m pc Ls stk) rfl hsz (argsL := argsL) (rest := st) hlen hstk (by show 2 * 0 + _ ≤ _; omega) hd (fun _ _ => ⟨rfl, eT, hc, hs⟩)
  dsimp only [Pt.U, Pt.locs, Pt.cells, Pt.slots] at X' l1 y1 z1 st' hQ
  subst l1 y1 z1
  exact own_step st' (k v T' L X' hQ)
theorem own_special {Q : Option Value → Heap → List Loc → Prop} {kc kn W : Nat} {argsL : List Value} {a : Addr} (X : Stand p l e R s m args below meth c T locs cells slots) (hx : p.tables.exec = Jvm.exec) (hZ : Z.Warmed39 s.vm) {own : String} {index : Nat} {y : MethodName} {bytes : ByteArray} {maxL : Nat} (hown : s.vm.findClass own = some m.cls) (hy1 : y.name = "<init>")
    (w1 : (Jvm.Cond.methodLink own index y).before a0 Z = true) (w2 : (Jvm.Cond.instanceMethod y).before a0 Z = true) (w4 : (Jvm.Cond.code y bytes maxL none).before a0 Z = true) (hy : y.cls ≠ "java/lang/invoke/MethodHandle" ∧ y.cls ≠ "java/lang/invoke/VarHandle") (eT : T.heap = h)
    (hK : own_B l R p e below s args y W (.ref a :: argsL).toArray h kc kn Q) (hc : cells + kc ≤ R.cells) (hs : slots + kn ≤ R.slots) (hsz : Ls.size = c.maxLocals) (hlen : ∀ sig, parseMethodDescriptor y.desc = some sig → argsL.length = sig.parameters.length) (hstk : stk = argsL.reverse ++ .ref a :: st) (hW : (st.map fun v => v.category).sum ≤ W)
    (hd : decode c.code pc = .ok (.invokespecial index, 3)) (k : ∀ v T' L, Stand p l e R s m args below meth c T' (locs ++ L) (cells + kc) (slots + kn) → Q v T'.heap L → own_G p e below F (T'.setTop (mkF m (pc + 3) Ls (v.toList ++ st)))) : own_G p e below F (T.setTop (mkF m pc Ls stk)) := by
  obtain ⟨v, _, ⟨T', L', k', n'⟩, -, X', ⟨L, hQ, l1, y1, z1⟩, st'⟩ := X.specialBack hx hy1 hown (mvT hZ w1) (mvT hZ w2) (mvT hZ w4) hy hK (g := mkF m pc Ls stk) rfl hsz (Steps.refl _) (a := a) (argsL := argsL) (rest := st) hlen hstk (by show 2 * 0 + _ ≤ _; omega) hd (fun _ _ => ⟨rfl, eT, hc, hs⟩)
  dsimp only [Pt.U, Pt.locs, Pt.cells, Pt.slots] at X' l1 y1 z1 st' hQ
  subst l1 y1 z1
  exact own_go st' (k v T' L X' hQ)
theorem own_virtual {Q : Option Value → Heap → List Loc → Prop} {kc kn W : Nat} {argsL : List Value} {a : Addr} {C : String} (X : Stand p l e R s m args below meth c T locs cells slots) (hx : p.tables.exec = Jvm.exec) (hZ : Z.Warmed39 s.vm) {own : String} {index : Nat} {y : MethodName} (hown : s.vm.findClass own = some m.cls)
    (w1 : (Jvm.Cond.methodLink own index y).before a0 Z = true) (w2 : (Jvm.Cond.declares y).before a0 Z = true) (w3 : (Jvm.Cond.selects C y y).before a0 Z = true) (hCy : C = y.cls) (w4 : (Jvm.Cond.instanceMethod y).before a0 Z = true) (hy : y.cls ≠ "java/lang/invoke/MethodHandle" ∧ y.cls ≠ "java/lang/invoke/VarHandle") (eT : T.heap = h) (E : Exa Z h a C)
    (hK : own_B l R p e below s args y W (.ref a :: argsL).toArray h kc kn Q) (hc : cells + kc ≤ R.cells) (hs : slots + kn ≤ R.slots) (hsz : Ls.size = c.maxLocals) (hlen : ∀ sig, parseMethodDescriptor y.desc = some sig → argsL.length = sig.parameters.length) (hstk : stk = argsL.reverse ++ .ref a :: st) (hW : (st.map fun v => v.category).sum ≤ W)
    (hd : decode c.code pc = .ok (.invokevirtual index, 3)) (k : ∀ v T' L, Stand p l e R s m args below meth c T' (locs ++ L) (cells + kc) (slots + kn) → Q v T'.heap L → own_G p e below F (T'.setTop (mkF m (pc + 3) Ls (v.toList ++ st)))) : own_G p e below F (T.setTop (mkF m pc Ls stk)) := by
  subst hCy
  obtain ⟨cB, kB, q1, q2, q3⟩ := isOf hZ eT E
  obtain ⟨v, _, ⟨T', L', k', n'⟩, -, X', ⟨L, hQ, l1, y1, z1⟩, st'⟩ := X.virtualBack hx hown (mvT hZ w1) (mvT hZ w2) (notFace_of_selects (args := #[]) (mvT hZ w3)) (mvT hZ w3) (mvT hZ w4) hy hK q1 q3 (g := mkF m pc Ls stk) rfl hsz (Steps.refl _) (argsL := argsL) (rest := st) hlen hstk (by show 2 * 0 + _ ≤ _; omega) hd (fun _ _ => ⟨rfl, eT, hc, hs⟩)
  dsimp only [Pt.U, Pt.locs, Pt.cells, Pt.slots] at X' l1 y1 z1 st' hQ
  subst l1 y1 z1
  exact own_go st' (k v T' L X' hQ)
theorem own_back {y : MethodName} {bytes : ByteArray} {maxL : Nat} {ret : Option FieldType} {rm : Room} {W : Nat} {as' : Array Value} {Q : Option Value → Heap → List Loc → Prop} (hM : own_Met l Z y bytes maxL ret [] rm as' h Q) (hZ : Z.Warmed39 s.vm) (wc : (Jvm.Cond.code y bytes maxL ret).before a0 Z = true) (wz : (Jvm.Cond.initialized y.cls).before a0 Z = true) (hf : rm.frames + 1 ≤ R.frames) (hl : W + (maxL + 11) + rm.locals ≤ R.locals) :
    own_B l R p e below s args y W as' h rm.cells rm.slots Q := backOf hM hZ wc wz hf hl
/-- a static call of a body that changes nothing -/
theorem own_staticP {r : Option Value} {fr lo W : Nat} {argsL : List Value} (X : Stand p l e R s m args below meth c T locs cells slots) (hx : p.tables.exec = Jvm.exec) (hZ : Z.Warmed39 s.vm) {own : String} {index : Nat} {y : MethodName} {bytes : ByteArray} {maxL : Nat} {ret : Option FieldType} (hown : s.vm.findClass own = some m.cls)
    (w1 : (Jvm.Cond.methodLink own index y).before a0 Z = true) (w2 : (Jvm.Cond.static y).before a0 Z = true) (w3 : (Jvm.Cond.initialized y.cls).before a0 Z = true) (w4 : (Jvm.Cond.code y bytes maxL ret).before a0 Z = true) (hy : y.cls ≠ "java/lang/invoke/MethodHandle" ∧ y.cls ≠ "java/lang/invoke/VarHandle") (eT : T.heap = h)
    (hM : own_Met l Z y bytes maxL ret [] ⟨fr, 0, 0, lo⟩ argsL.toArray h (own_P r h)) (hf : fr + 1 ≤ R.frames) (hl : W + (maxL + 11) + lo ≤ R.locals) (hc : cells ≤ R.cells) (hs : slots ≤ R.slots) (hsz : Ls.size = c.maxLocals) (hlen : ∀ sig, parseMethodDescriptor y.desc = some sig → argsL.length = sig.parameters.length) (hstk : stk = argsL.reverse ++ st) (hW : (st.map fun v => v.category).sum ≤ W)
    (hd : decode c.code pc = .ok (.invokestatic index, 3)) (k : ∀ T', Stand p l e R s m args below meth c T' locs cells slots → T'.heap = h → own_G p e below F (T'.setTop (mkF m (pc + 3) Ls (r.toList ++ st)))) : own_G p e below F (T.setTop (mkF m pc Ls stk)) :=
  own_static X hx hZ hown w1 w2 w3 w4 hy eT (own_back hM hZ w4 w3 hf hl) hc hs hsz hlen hstk hW hd fun v T' L X' hQ => by
    obtain ⟨rfl, rfl, hh⟩ := hQ
    rw [List.append_nil] at X'
    exact k T' X' hh
theorem own_virtualP {r : Option Value} {fr lo W : Nat} {argsL : List Value} {a : Addr} {C : String} (X : Stand p l e R s m args below meth c T locs cells slots) (hx : p.tables.exec = Jvm.exec) (hZ : Z.Warmed39 s.vm) {own : String} {index : Nat} {y : MethodName} {bytes : ByteArray} {maxL : Nat} {ret : Option FieldType} (hown : s.vm.findClass own = some m.cls)
    (w1 : (Jvm.Cond.methodLink own index y).before a0 Z = true) (w2 : (Jvm.Cond.declares y).before a0 Z = true) (w3 : (Jvm.Cond.selects C y y).before a0 Z = true) (hCy : C = y.cls) (w4 : (Jvm.Cond.instanceMethod y).before a0 Z = true) (hy : y.cls ≠ "java/lang/invoke/MethodHandle" ∧ y.cls ≠ "java/lang/invoke/VarHandle") (eT : T.heap = h) (E : Exa Z h a C)
    (hM : own_Met l Z y bytes maxL ret [] ⟨fr, 0, 0, lo⟩ (.ref a :: argsL).toArray h (own_P r h)) (wc : (Jvm.Cond.code y bytes maxL ret).before a0 Z = true) (wz : (Jvm.Cond.initialized y.cls).before a0 Z = true) (hf : fr + 1 ≤ R.frames) (hl : W + (maxL + 11) + lo ≤ R.locals) (hc : cells ≤ R.cells) (hs : slots ≤ R.slots) (hsz : Ls.size = c.maxLocals) (hlen : ∀ sig, parseMethodDescriptor y.desc = some sig → argsL.length = sig.parameters.length) (hstk : stk = argsL.reverse ++ .ref a :: st) (hW : (st.map fun v => v.category).sum ≤ W)
    (hd : decode c.code pc = .ok (.invokevirtual index, 3)) (k : ∀ T', Stand p l e R s m args below meth c T' locs cells slots → T'.heap = h → own_G p e below F (T'.setTop (mkF m (pc + 3) Ls (r.toList ++ st)))) : own_G p e below F (T.setTop (mkF m pc Ls stk)) :=
  own_virtual X hx hZ hown w1 w2 w3 hCy w4 hy eT E (own_back hM hZ wc wz hf hl) hc hs hsz hlen hstk hW hd fun v T' L X' hQ => by
    obtain ⟨rfl, rfl, hh⟩ := hQ
    rw [List.append_nil] at X'
    exact k T' X' hh
theorem own_initO (X : Stand p l e R s m args below meth c T locs cells slots) (hx : p.tables.exec = Jvm.exec) (hZ : Z.Warmed39 s.vm) {own : String} {index W : Nat} {a : Addr} (hown : s.vm.findClass own = some m.cls) (w1 : (Jvm.Cond.methodLink own index Lib.objectInit).before a0 Z = true) (w2 : (Jvm.Cond.instanceMethod Lib.objectInit).before a0 Z = true) (w3 : (Jvm.Cond.code Lib.objectInit ⟨#[0xb1]⟩ 1 none).before a0 Z = true) (eT : T.heap = h)
    (hsz : Ls.size = c.maxLocals) (hd : decode c.code pc = .ok (.invokespecial index, 3)) (hf : 1 ≤ R.frames) (hW : (st.map fun v => v.category).sum ≤ W) (hl : W + 12 ≤ R.locals)
    (k : ∀ T', Stand p l e R s m args below meth c T' locs cells slots → T'.heap = h → own_G p e below F (T'.setTop (mkF m (pc + 3) Ls st))) : own_G p e below F (T.setTop (mkF m pc Ls (.ref a :: st))) := by
  obtain ⟨T', X', e', st'⟩ := initO X hx hZ hown w1 w2 w3 eT (g := mkF m pc Ls (.ref a :: st)) rfl hsz rfl hd hf (W := W) (by show 2 * 0 + _ ≤ _; omega) hl
  exact own_step st' (k T' X' e')
theorem own_specialP {r : Option Value} {fr lo W : Nat} {argsL : List Value} {a : Addr} (X : Stand p l e R s m args below meth c T locs cells slots) (hx : p.tables.exec = Jvm.exec) (hZ : Z.Warmed39 s.vm) {own : String} {index : Nat} {y : MethodName} {bytes : ByteArray} {maxL : Nat} (hown : s.vm.findClass own = some m.cls) (hy1 : y.name = "<init>")
    (w1 : (Jvm.Cond.methodLink own index y).before a0 Z = true) (w2 : (Jvm.Cond.instanceMethod y).before a0 Z = true) (w4 : (Jvm.Cond.code y bytes maxL none).before a0 Z = true) (hy : y.cls ≠ "java/lang/invoke/MethodHandle" ∧ y.cls ≠ "java/lang/invoke/VarHandle") (eT : T.heap = h)
    (hM : own_Met l Z y bytes maxL none [] ⟨fr, 0, 0, lo⟩ (.ref a :: argsL).toArray h (own_P r h)) (wz : (Jvm.Cond.initialized y.cls).before a0 Z = true) (hf : fr + 1 ≤ R.frames) (hl : W + (maxL + 11) + lo ≤ R.locals) (hc : cells ≤ R.cells) (hs : slots ≤ R.slots) (hsz : Ls.size = c.maxLocals) (hlen : ∀ sig, parseMethodDescriptor y.desc = some sig → argsL.length = sig.parameters.length) (hstk : stk = argsL.reverse ++ .ref a :: st) (hW : (st.map fun v => v.category).sum ≤ W)
    (hd : decode c.code pc = .ok (.invokespecial index, 3)) (k : ∀ T', Stand p l e R s m args below meth c T' locs cells slots → T'.heap = h → own_G p e below F (T'.setTop (mkF m (pc + 3) Ls (r.toList ++ st)))) : own_G p e below F (T.setTop (mkF m pc Ls stk)) :=
  own_special X hx hZ hown hy1 w1 w2 w4 hy eT (own_back hM hZ w4 wz hf hl) hc hs hsz hlen hstk hW hd fun v T' L X' hQ => by
    obtain ⟨rfl, rfl, hh⟩ := hQ
    rw [List.append_nil] at X'
    exact k T' X' hh
theorem own_cat {v : Value} (q : v.isRef = true) : v.category = 1 := by cases v <;> first | rfl | simp [Value.isRef] at q
theorem own_narR {v : Value} {C : String} (q : v.isRef = true) : narrow (.object C) v = v := by cases v <;> first | rfl | simp [Value.isRef] at q
theorem own_fitR {v : Value} {C : String} (q : v.isRef = true) : fits (.object C) v = true := by cases v <;> first | rfl | simp [Value.isRef] at q
theorem own_ne {a b : Addr} (h : @LT.lt Nat instLTNat a b ∨ @LT.lt Nat instLTNat b a) : a ≠ b := fun q => by subst q; rcases h with h | h <;> exact Nat.lt_irrefl _ h
theorem own_ext {h0 h : Heap} (K : Keep h0 h []) : Ext h0 h := ⟨K.1, fun a c q => K.2.1 a c q nin0⟩
end OwnKit

theorem own_and255 (x : Int32) : ¬ nar .char ((x &&& (255 : Int32)).toUInt32.toUInt16.toUInt32.toInt32) < 0 ∧ ¬ (255 : Int32) < nar .char ((x &&& (255 : Int32)).toUInt32.toUInt16.toUInt32.toInt32) := by
  have t : ∀ k : Fin 256, ¬ nar .char ((Int32.ofNat k.val).toUInt32.toUInt16.toUInt32.toInt32) < 0 ∧ ¬ (255 : Int32) < nar .char ((Int32.ofNat k.val).toUInt32.toUInt16.toUInt32.toInt32) := by decide +kernel
  have h : (x &&& 255).toBitVec.toNat < 256 := by
    simp only [Int32.toBitVec_and, BitVec.toNat_and]
    exact Nat.lt_succ_of_le Nat.and_le_right
  have e : (x &&& 255) = Int32.ofNat (x &&& 255).toBitVec.toNat := by
    apply Int32.toBitVec_inj.mp
    show _ = BitVec.ofNat 32 _
    rw [BitVec.ofNat_toNat]; simp
  rw [e]
  exact t ⟨_, h⟩
theorem d1_0 : decode method_2_code 0 = .ok (.iload_n 0, 1) := by decide +kernel
theorem d1_1 : decode method_2_code 1 = .ok (.ldc 7, 2) := by decide +kernel
theorem d1_3 : decode method_2_code 3 = .ok (.iand, 1) := by decide +kernel
theorem d1_4 : decode method_2_code 4 = .ok (.bipush 7, 2) := by decide +kernel
theorem d1_6 : decode method_2_code 6 = .ok (.irem, 1) := by decide +kernel
theorem d1_7 : decode method_2_code 7 = .ok (.istore_n 1, 1) := by decide +kernel
theorem d1_8 : decode method_2_code 8 = .ok (.iload_n 1, 1) := by decide +kernel
theorem d1_9 : decode method_2_code 9 = .ok (.ifCond .ne 7, 3) := by decide +kernel
theorem d1_12 : decode method_2_code 12 = .ok (.getstatic 8, 3) := by decide +kernel
theorem d1_15 : decode method_2_code 15 = .ok (.areturn, 1) := by decide +kernel
theorem d1_16 : decode method_2_code 16 = .ok (.iload_n 1, 1) := by decide +kernel
theorem d1_17 : decode method_2_code 17 = .ok (.iconst 1, 1) := by decide +kernel
theorem d1_18 : decode method_2_code 18 = .ok (.if_icmp .ne 7, 3) := by decide +kernel
theorem d1_21 : decode method_2_code 21 = .ok (.getstatic 14, 3) := by decide +kernel
theorem d1_24 : decode method_2_code 24 = .ok (.areturn, 1) := by decide +kernel
theorem d1_25 : decode method_2_code 25 = .ok (.iload_n 1, 1) := by decide +kernel
theorem d1_26 : decode method_2_code 26 = .ok (.iconst 2, 1) := by decide +kernel
theorem d1_27 : decode method_2_code 27 = .ok (.if_icmp .ne 7, 3) := by decide +kernel
theorem d1_30 : decode method_2_code 30 = .ok (.getstatic 17, 3) := by decide +kernel
theorem d1_33 : decode method_2_code 33 = .ok (.areturn, 1) := by decide +kernel
theorem d1_34 : decode method_2_code 34 = .ok (.iload_n 1, 1) := by decide +kernel
theorem d1_35 : decode method_2_code 35 = .ok (.iconst 3, 1) := by decide +kernel
theorem d1_36 : decode method_2_code 36 = .ok (.if_icmp .ne 7, 3) := by decide +kernel
theorem d1_39 : decode method_2_code 39 = .ok (.getstatic 20, 3) := by decide +kernel
theorem d1_42 : decode method_2_code 42 = .ok (.areturn, 1) := by decide +kernel
theorem d1_43 : decode method_2_code 43 = .ok (.iload_n 1, 1) := by decide +kernel
theorem d1_44 : decode method_2_code 44 = .ok (.iconst 4, 1) := by decide +kernel
theorem d1_45 : decode method_2_code 45 = .ok (.if_icmp .ne 7, 3) := by decide +kernel
theorem d1_48 : decode method_2_code 48 = .ok (.getstatic 23, 3) := by decide +kernel
theorem d1_51 : decode method_2_code 51 = .ok (.areturn, 1) := by decide +kernel
theorem d1_52 : decode method_2_code 52 = .ok (.iload_n 1, 1) := by decide +kernel
theorem d1_53 : decode method_2_code 53 = .ok (.iconst 5, 1) := by decide +kernel
theorem d1_54 : decode method_2_code 54 = .ok (.if_icmp .ne 7, 3) := by decide +kernel
theorem d1_57 : decode method_2_code 57 = .ok (.getstatic 26, 3) := by decide +kernel
theorem d1_60 : decode method_2_code 60 = .ok (.areturn, 1) := by decide +kernel
theorem d1_61 : decode method_2_code 61 = .ok (.aconst_null, 1) := by decide +kernel
theorem d1_62 : decode method_2_code 62 = .ok (.areturn, 1) := by decide +kernel
theorem d2_0 : decode method_3_code 0 = .ok (.iload_n 1, 1) := by decide +kernel
theorem d2_1 : decode method_3_code 1 = .ok (.ifCond .eq 5, 3) := by decide +kernel
theorem d2_4 : decode method_3_code 4 = .ok (.aconst_null, 1) := by decide +kernel
theorem d2_5 : decode method_3_code 5 = .ok (.areturn, 1) := by decide +kernel
theorem d2_6 : decode method_3_code 6 = .ok (.iconst 2, 1) := by decide +kernel
theorem d2_7 : decode method_3_code 7 = .ok (.newarray .char, 2) := by decide +kernel
theorem d2_9 : decode method_3_code 9 = .ok (.astore_n 2, 1) := by decide +kernel
theorem d2_10 : decode method_3_code 10 = .ok (.aload_n 2, 1) := by decide +kernel
theorem d2_11 : decode method_3_code 11 = .ok (.iconst 0, 1) := by decide +kernel
theorem d2_12 : decode method_3_code 12 = .ok (.iload_n 0, 1) := by decide +kernel
theorem d2_13 : decode method_3_code 13 = .ok (.sipush 255, 3) := by decide +kernel
theorem d2_16 : decode method_3_code 16 = .ok (.iand, 1) := by decide +kernel
theorem d2_17 : decode method_3_code 17 = .ok (.i2c, 1) := by decide +kernel
theorem d2_18 : decode method_3_code 18 = .ok (.castore, 1) := by decide +kernel
theorem d2_19 : decode method_3_code 19 = .ok (.aload_n 2, 1) := by decide +kernel
theorem d2_20 : decode method_3_code 20 = .ok (.iconst 1, 1) := by decide +kernel
theorem d2_21 : decode method_3_code 21 = .ok (.iload_n 0, 1) := by decide +kernel
theorem d2_22 : decode method_3_code 22 = .ok (.bipush 8, 2) := by decide +kernel
theorem d2_24 : decode method_3_code 24 = .ok (.iushr, 1) := by decide +kernel
theorem d2_25 : decode method_3_code 25 = .ok (.sipush 255, 3) := by decide +kernel
theorem d2_28 : decode method_3_code 28 = .ok (.iand, 1) := by decide +kernel
theorem d2_29 : decode method_3_code 29 = .ok (.i2c, 1) := by decide +kernel
theorem d2_30 : decode method_3_code 30 = .ok (.castore, 1) := by decide +kernel
theorem d2_31 : decode method_3_code 31 = .ok (.new 29, 3) := by decide +kernel
theorem d2_34 : decode method_3_code 34 = .ok (.dup, 1) := by decide +kernel
theorem d2_35 : decode method_3_code 35 = .ok (.aload_n 2, 1) := by decide +kernel
theorem d2_36 : decode method_3_code 36 = .ok (.invokespecial 31, 3) := by decide +kernel
theorem d2_39 : decode method_3_code 39 = .ok (.areturn, 1) := by decide +kernel
theorem d9_0 : decode prog_5_method_4_code 0 = .ok (.new 8, 3) := by decide +kernel
theorem d9_3 : decode prog_5_method_4_code 3 = .ok (.dup, 1) := by decide +kernel
theorem d9_4 : decode prog_5_method_4_code 4 = .ok (.aload_n 0, 1) := by decide +kernel
theorem d9_5 : decode prog_5_method_4_code 5 = .ok (.aload_n 1, 1) := by decide +kernel
theorem d9_6 : decode prog_5_method_4_code 6 = .ok (.aconst_null, 1) := by decide +kernel
theorem d9_7 : decode prog_5_method_4_code 7 = .ok (.aconst_null, 1) := by decide +kernel
theorem d9_8 : decode prog_5_method_4_code 8 = .ok (.aconst_null, 1) := by decide +kernel
theorem d9_9 : decode prog_5_method_4_code 9 = .ok (.aconst_null, 1) := by decide +kernel
theorem d9_10 : decode prog_5_method_4_code 10 = .ok (.aload_n 2, 1) := by decide +kernel
theorem d9_11 : decode prog_5_method_4_code 11 = .ok (.invokespecial 37, 3) := by decide +kernel
theorem d9_14 : decode prog_5_method_4_code 14 = .ok (.areturn, 1) := by decide +kernel
theorem d10_0 : decode prog_5_method_1_code 0 = .ok (.aload_n 0, 1) := by decide +kernel
theorem d10_1 : decode prog_5_method_1_code 1 = .ok (.invokespecial 1, 3) := by decide +kernel
theorem d10_4 : decode prog_5_method_1_code 4 = .ok (.aload_n 0, 1) := by decide +kernel
theorem d10_5 : decode prog_5_method_1_code 5 = .ok (.aload_n 1, 1) := by decide +kernel
theorem d10_6 : decode prog_5_method_1_code 6 = .ok (.putfield 7, 3) := by decide +kernel
theorem d10_9 : decode prog_5_method_1_code 9 = .ok (.aload_n 0, 1) := by decide +kernel
theorem d10_10 : decode prog_5_method_1_code 10 = .ok (.aload_n 2, 1) := by decide +kernel
theorem d10_11 : decode prog_5_method_1_code 11 = .ok (.putfield 13, 3) := by decide +kernel
theorem d10_14 : decode prog_5_method_1_code 14 = .ok (.aload_n 0, 1) := by decide +kernel
theorem d10_15 : decode prog_5_method_1_code 15 = .ok (.aload_n 3, 1) := by decide +kernel
theorem d10_16 : decode prog_5_method_1_code 16 = .ok (.putfield 17, 3) := by decide +kernel
theorem d10_19 : decode prog_5_method_1_code 19 = .ok (.aload_n 0, 1) := by decide +kernel
theorem d10_20 : decode prog_5_method_1_code 20 = .ok (.aload 4, 2) := by decide +kernel
theorem d10_22 : decode prog_5_method_1_code 22 = .ok (.putfield 20, 3) := by decide +kernel
theorem d10_25 : decode prog_5_method_1_code 25 = .ok (.aload_n 0, 1) := by decide +kernel
theorem d10_26 : decode prog_5_method_1_code 26 = .ok (.aload 5, 2) := by decide +kernel
theorem d10_28 : decode prog_5_method_1_code 28 = .ok (.putfield 23, 3) := by decide +kernel
theorem d10_31 : decode prog_5_method_1_code 31 = .ok (.aload_n 0, 1) := by decide +kernel
theorem d10_32 : decode prog_5_method_1_code 32 = .ok (.aload 6, 2) := by decide +kernel
theorem d10_34 : decode prog_5_method_1_code 34 = .ok (.putfield 26, 3) := by decide +kernel
theorem d10_37 : decode prog_5_method_1_code 37 = .ok (.aload_n 0, 1) := by decide +kernel
theorem d10_38 : decode prog_5_method_1_code 38 = .ok (.aload 7, 2) := by decide +kernel
theorem d10_40 : decode prog_5_method_1_code 40 = .ok (.putfield 29, 3) := by decide +kernel
theorem d10_43 : decode prog_5_method_1_code 43 = .ok (.return_, 1) := by decide +kernel
theorem d11_0 : decode jdk_30_method_1_code 0 = .ok (.aload_n 0, 1) := by decide +kernel
theorem d11_1 : decode jdk_30_method_1_code 1 = .ok (.invokespecial 1, 3) := by decide +kernel
theorem d11_4 : decode jdk_30_method_1_code 4 = .ok (.return_, 1) := by decide +kernel
theorem d12_0 : decode prog_5_method_9_code 0 = .ok (.aload_n 0, 1) := by decide +kernel
theorem d12_1 : decode prog_5_method_9_code 1 = .ok (.getfield 7, 3) := by decide +kernel
theorem d12_4 : decode prog_5_method_9_code 4 = .ok (.areturn, 1) := by decide +kernel
theorem d13_0 : decode prog_5_method_10_code 0 = .ok (.aload_n 0, 1) := by decide +kernel
theorem d13_1 : decode prog_5_method_10_code 1 = .ok (.getfield 13, 3) := by decide +kernel
theorem d13_4 : decode prog_5_method_10_code 4 = .ok (.areturn, 1) := by decide +kernel
theorem d14_0 : decode prog_5_method_11_code 0 = .ok (.aload_n 0, 1) := by decide +kernel
theorem d14_1 : decode prog_5_method_11_code 1 = .ok (.getfield 17, 3) := by decide +kernel
theorem d14_4 : decode prog_5_method_11_code 4 = .ok (.areturn, 1) := by decide +kernel
theorem d15_0 : decode prog_5_method_12_code 0 = .ok (.aload_n 0, 1) := by decide +kernel
theorem d15_1 : decode prog_5_method_12_code 1 = .ok (.getfield 20, 3) := by decide +kernel
theorem d15_4 : decode prog_5_method_12_code 4 = .ok (.areturn, 1) := by decide +kernel
theorem d16_0 : decode prog_5_method_13_code 0 = .ok (.aload_n 0, 1) := by decide +kernel
theorem d16_1 : decode prog_5_method_13_code 1 = .ok (.getfield 23, 3) := by decide +kernel
theorem d16_4 : decode prog_5_method_13_code 4 = .ok (.areturn, 1) := by decide +kernel
theorem d17_0 : decode prog_5_method_14_code 0 = .ok (.aload_n 0, 1) := by decide +kernel
theorem d17_1 : decode prog_5_method_14_code 1 = .ok (.getfield 26, 3) := by decide +kernel
theorem d17_4 : decode prog_5_method_14_code 4 = .ok (.areturn, 1) := by decide +kernel
theorem d18_0 : decode prog_5_method_15_code 0 = .ok (.aload_n 0, 1) := by decide +kernel
theorem d18_1 : decode prog_5_method_15_code 1 = .ok (.getfield 29, 3) := by decide +kernel
theorem d18_4 : decode prog_5_method_15_code 4 = .ok (.areturn, 1) := by decide +kernel
theorem pd0 : parseMethodDescriptor "([C)V" = some ⟨[(.array .char)], none⟩ := by decide +kernel
theorem pd1 : parseMethodDescriptor "()V" = some ⟨[], none⟩ := by decide +kernel
theorem pd2 : parseMethodDescriptor "(Lcom/example/crossgrant/crossgrant/store/AuditEvent$Type;Ljava/lang/String;Ljava/lang/String;Ljava/lang/String;Ljava/lang/String;Ljava/lang/String;Ljava/lang/String;)V" = some ⟨[(.object "com/example/crossgrant/crossgrant/store/AuditEvent$Type"), (.object "java/lang/String"), (.object "java/lang/String"), (.object "java/lang/String"), (.object "java/lang/String"), (.object "java/lang/String"), (.object "java/lang/String")], none⟩ := by decide +kernel
theorem pd3 : parseMethodDescriptor "(I)Lcom/example/crossgrant/crossgrant/store/AuditEvent$Type;" = some ⟨[.int], some (.object "com/example/crossgrant/crossgrant/store/AuditEvent$Type")⟩ := by decide +kernel
theorem pd4 : parseMethodDescriptor "(IZ)Ljava/lang/String;" = some ⟨[.int, .boolean], some (.object "java/lang/String")⟩ := by decide +kernel
theorem pd5 : parseMethodDescriptor "(Lcom/example/crossgrant/crossgrant/store/AuditEvent$Type;Ljava/lang/String;Ljava/lang/String;)Lcom/example/crossgrant/crossgrant/store/AuditEvent;" = some ⟨[(.object "com/example/crossgrant/crossgrant/store/AuditEvent$Type"), (.object "java/lang/String"), (.object "java/lang/String")], some (.object "com/example/crossgrant/crossgrant/store/AuditEvent")⟩ := by decide +kernel
theorem pd6 : parseMethodDescriptor "()Lcom/example/crossgrant/crossgrant/store/AuditEvent$Type;" = some ⟨[], some (.object "com/example/crossgrant/crossgrant/store/AuditEvent$Type")⟩ := by decide +kernel
theorem pd7 : parseMethodDescriptor "()Ljava/lang/String;" = some ⟨[], some (.object "java/lang/String")⟩ := by decide +kernel
theorem pn0 : plainName "com/example/crossgrant/crossgrant/store/AuditEventRegistrationPinLaw" = true := by first | (simp [plainName, overriddenIn]; done) | decide +kernel
theorem pn1 : plainName "com/example/crossgrant/crossgrant/store/AuditEvent" = true := by first | (simp [plainName, overriddenIn]; done) | decide +kernel
theorem pn2 : plainName "java/lang/Record" = true := by first | (simp [plainName, overriddenIn]; done) | decide +kernel
theorem ef_pick (m : MethodId) (x : Int32) : entryFrame m #[(.int x)] 2 = mkF m 0 #[.val (.int x), .unset] [] := by first | (simp [entryFrame, mkF, argsToLocals, Value.category, maxLocals]; done) | rfl
set_option maxRecDepth 65536 in
set_option maxHeartbeats 40000000 in
theorem rmPick (l : Launch) (Z : State) (a0 : Array Value) (hw : ∀ d ∈ tables_1, d.before a0 Z = true) (ws : List Jvm.Cond) (x : Int32) (h0 : Heap) (OL0 : Old Z Z.heap.size h0) (s0 s1 s2 s3 s4 s5 : Value) (S0 : Sta Z Z.heap "com/example/crossgrant/crossgrant/store/AuditEvent$Type" "TOKEN_GRANTED" "Lcom/example/crossgrant/crossgrant/store/AuditEvent$Type;" s0) (r0 : s0.isRef = true) (S1 : Sta Z Z.heap "com/example/crossgrant/crossgrant/store/AuditEvent$Type" "TOKEN_REFUSED" "Lcom/example/crossgrant/crossgrant/store/AuditEvent$Type;" s1) (r1 : s1.isRef = true) (S2 : Sta Z Z.heap "com/example/crossgrant/crossgrant/store/AuditEvent$Type" "CLIENT_REGISTERED" "Lcom/example/crossgrant/crossgrant/store/AuditEvent$Type;" s2) (r2 : s2.isRef = true) (S3 : Sta Z Z.heap "com/example/crossgrant/crossgrant/store/AuditEvent$Type" "REGISTRATION_CHANGED" "Lcom/example/crossgrant/crossgrant/store/AuditEvent$Type;" s3) (r3 : s3.isRef = true) (S4 : Sta Z Z.heap "com/example/crossgrant/crossgrant/store/AuditEvent$Type" "REGISTRATION_CANCELLED" "Lcom/example/crossgrant/crossgrant/store/AuditEvent$Type;" s4) (r4 : s4.isRef = true) (S5 : Sta Z Z.heap "com/example/crossgrant/crossgrant/store/AuditEvent$Type" "REGISTRATION_REFUSED" "Lcom/example/crossgrant/crossgrant/store/AuditEvent$Type;" s5) (r5 : s5.isRef = true) :
    own_Met l Z (⟨"com/example/crossgrant/crossgrant/store/AuditEventRegistrationPinLaw", "pickType", "(I)Lcom/example/crossgrant/crossgrant/store/AuditEvent$Type;"⟩ : MethodName) method_2_code 2 (some (.object "com/example/crossgrant/crossgrant/store/AuditEvent$Type")) ws ⟨0, 0, 0, 0⟩ #[(.int x)] h0 (fun v h L => ∃ r : Value, v = some r ∧ r.isRef = true ∧ L = [] ∧ h = h0) := by
  refine own_enter (plainFor_of_name pn0) (fun m => ef_pick m x) ?_
  intro p e s m below meth c T0 hx hby hml hZ hown hnm hret hlk X0 e0
  show own_G p e below _ (T0.setTop (mkF m 0 #[.val (.int x), .unset] []))
  refine own_step (b := T0.setTop (mkF m 1 #[.val (.int x), .unset] [(.int x)])) (fun t k => XS.iloadN X0.here hx rfl (hb hby d1_0) rfl k) ?_
  refine own_step (b := T0.setTop (mkF m 3 #[.val (.int x), .unset] [(.int (2147483647 : Int32)), (.int x)])) (X0.ldcInt hx hown (mvT hZ (own_w hw 4 rfl)) (g := (mkF m 1 #[.val (.int x), .unset] [(.int x)])) rfl (hb hby d1_1)) ?_
  refine own_step (b := T0.setTop (mkF m 4 #[.val (.int x), .unset] [(.int (x &&& (2147483647 : Int32)))])) (fun t k => XS.iand X0.here hx rfl (hb hby d1_3) rfl k) ?_
  refine own_step (b := T0.setTop (mkF m 6 #[.val (.int x), .unset] [(.int (7 : Int32)), (.int (x &&& (2147483647 : Int32)))])) (fun t k => XS.bipush X0.here hx rfl (hb hby d1_4) k) ?_
  refine own_step (b := T0.setTop (mkF m 7 #[.val (.int x), .unset] [(.int ((x &&& (2147483647 : Int32)) % (7 : Int32)))])) (fun t k => iremM X0 hx rfl (hb hby d1_6) rfl (by decide) k) ?_
  refine own_step (b := T0.setTop (mkF m 8 #[.val (.int x), .val (.int ((x &&& (2147483647 : Int32)) % (7 : Int32)))] [])) (fun t k => XS.istoreN X0.here hx rfl (hb hby d1_7) rfl (l' := #[.val (.int x), .val (.int ((x &&& (2147483647 : Int32)) % (7 : Int32)))]) rfl k) ?_
  refine own_step (b := T0.setTop (mkF m 9 #[.val (.int x), .val (.int ((x &&& (2147483647 : Int32)) % (7 : Int32)))] [(.int ((x &&& (2147483647 : Int32)) % (7 : Int32)))])) (fun t k => XS.iloadN X0.here hx rfl (hb hby d1_8) rfl k) ?_
  refine own_if_ne X0 hx (hb hby d1_9) (pc' := 16) (by decide) (by decide) (fun c0 => ?_) (fun c0 => ?_)
  · show own_G p e below _ (T0.setTop (mkF m 16 #[.val (.int x), .val (.int ((x &&& (2147483647 : Int32)) % (7 : Int32)))] []))
    refine own_step (b := T0.setTop (mkF m 17 #[.val (.int x), .val (.int ((x &&& (2147483647 : Int32)) % (7 : Int32)))] [(.int ((x &&& (2147483647 : Int32)) % (7 : Int32)))])) (fun t k => XS.iloadN X0.here hx rfl (hb hby d1_16) rfl k) ?_
    refine own_step (b := T0.setTop (mkF m 18 #[.val (.int x), .val (.int ((x &&& (2147483647 : Int32)) % (7 : Int32)))] [(.int (1 : Int32)), (.int ((x &&& (2147483647 : Int32)) % (7 : Int32)))])) (fun t k => XS.iconst X0.here hx rfl (hb hby d1_17) k) ?_
    refine own_icmp_ne X0 hx (hb hby d1_18) (pc' := 25) (by decide) (by decide) (fun c1 => ?_) (fun c1 => ?_)
    · show own_G p e below _ (T0.setTop (mkF m 25 #[.val (.int x), .val (.int ((x &&& (2147483647 : Int32)) % (7 : Int32)))] []))
      refine own_step (b := T0.setTop (mkF m 26 #[.val (.int x), .val (.int ((x &&& (2147483647 : Int32)) % (7 : Int32)))] [(.int ((x &&& (2147483647 : Int32)) % (7 : Int32)))])) (fun t k => XS.iloadN X0.here hx rfl (hb hby d1_25) rfl k) ?_
      refine own_step (b := T0.setTop (mkF m 27 #[.val (.int x), .val (.int ((x &&& (2147483647 : Int32)) % (7 : Int32)))] [(.int (2 : Int32)), (.int ((x &&& (2147483647 : Int32)) % (7 : Int32)))])) (fun t k => XS.iconst X0.here hx rfl (hb hby d1_26) k) ?_
      refine own_icmp_ne X0 hx (hb hby d1_27) (pc' := 34) (by decide) (by decide) (fun c2 => ?_) (fun c2 => ?_)
      · show own_G p e below _ (T0.setTop (mkF m 34 #[.val (.int x), .val (.int ((x &&& (2147483647 : Int32)) % (7 : Int32)))] []))
        refine own_step (b := T0.setTop (mkF m 35 #[.val (.int x), .val (.int ((x &&& (2147483647 : Int32)) % (7 : Int32)))] [(.int ((x &&& (2147483647 : Int32)) % (7 : Int32)))])) (fun t k => XS.iloadN X0.here hx rfl (hb hby d1_34) rfl k) ?_
        refine own_step (b := T0.setTop (mkF m 36 #[.val (.int x), .val (.int ((x &&& (2147483647 : Int32)) % (7 : Int32)))] [(.int (3 : Int32)), (.int ((x &&& (2147483647 : Int32)) % (7 : Int32)))])) (fun t k => XS.iconst X0.here hx rfl (hb hby d1_35) k) ?_
        refine own_icmp_ne X0 hx (hb hby d1_36) (pc' := 43) (by decide) (by decide) (fun c3 => ?_) (fun c3 => ?_)
        · show own_G p e below _ (T0.setTop (mkF m 43 #[.val (.int x), .val (.int ((x &&& (2147483647 : Int32)) % (7 : Int32)))] []))
          refine own_step (b := T0.setTop (mkF m 44 #[.val (.int x), .val (.int ((x &&& (2147483647 : Int32)) % (7 : Int32)))] [(.int ((x &&& (2147483647 : Int32)) % (7 : Int32)))])) (fun t k => XS.iloadN X0.here hx rfl (hb hby d1_43) rfl k) ?_
          refine own_step (b := T0.setTop (mkF m 45 #[.val (.int x), .val (.int ((x &&& (2147483647 : Int32)) % (7 : Int32)))] [(.int (4 : Int32)), (.int ((x &&& (2147483647 : Int32)) % (7 : Int32)))])) (fun t k => XS.iconst X0.here hx rfl (hb hby d1_44) k) ?_
          refine own_icmp_ne X0 hx (hb hby d1_45) (pc' := 52) (by decide) (by decide) (fun c4 => ?_) (fun c4 => ?_)
          · show own_G p e below _ (T0.setTop (mkF m 52 #[.val (.int x), .val (.int ((x &&& (2147483647 : Int32)) % (7 : Int32)))] []))
            refine own_step (b := T0.setTop (mkF m 53 #[.val (.int x), .val (.int ((x &&& (2147483647 : Int32)) % (7 : Int32)))] [(.int ((x &&& (2147483647 : Int32)) % (7 : Int32)))])) (fun t k => XS.iloadN X0.here hx rfl (hb hby d1_52) rfl k) ?_
            refine own_step (b := T0.setTop (mkF m 54 #[.val (.int x), .val (.int ((x &&& (2147483647 : Int32)) % (7 : Int32)))] [(.int (5 : Int32)), (.int ((x &&& (2147483647 : Int32)) % (7 : Int32)))])) (fun t k => XS.iconst X0.here hx rfl (hb hby d1_53) k) ?_
            refine own_icmp_ne X0 hx (hb hby d1_54) (pc' := 61) (by decide) (by decide) (fun c5 => ?_) (fun c5 => ?_)
            · show own_G p e below _ (T0.setTop (mkF m 61 #[.val (.int x), .val (.int ((x &&& (2147483647 : Int32)) % (7 : Int32)))] []))
              refine own_step (b := T0.setTop (mkF m 62 #[.val (.int x), .val (.int ((x &&& (2147483647 : Int32)) % (7 : Int32)))] [.null])) (fun t k => XS.aconstNull X0.here hx rfl (hb hby d1_61) k) ?_
              exact own_retR X0 hx hret rfl rfl rfl hlk (hb hby d1_62) ⟨_, rfl, rfl, rfl, e0⟩ (by decide) (by decide)
            · show own_G p e below _ (T0.setTop (mkF m 57 #[.val (.int x), .val (.int ((x &&& (2147483647 : Int32)) % (7 : Int32)))] []))
              refine own_getS X0 hx hZ hown (own_w hw 105 rfl) e0 (S5.ext OL0.2) (hb hby d1_57) (fun T1 X1 e1 => ?_)
              show own_G p e below _ (T1.setTop (mkF m 60 #[.val (.int x), .val (.int ((x &&& (2147483647 : Int32)) % (7 : Int32)))] [s5]))
              exact own_retR X1 hx hret rfl (own_narR r5) r5 hlk (hb hby d1_60) ⟨_, rfl, r5, rfl, e1⟩ (by decide) (by decide)
          · show own_G p e below _ (T0.setTop (mkF m 48 #[.val (.int x), .val (.int ((x &&& (2147483647 : Int32)) % (7 : Int32)))] []))
            refine own_getS X0 hx hZ hown (own_w hw 113 rfl) e0 (S4.ext OL0.2) (hb hby d1_48) (fun T2 X2 e2 => ?_)
            show own_G p e below _ (T2.setTop (mkF m 51 #[.val (.int x), .val (.int ((x &&& (2147483647 : Int32)) % (7 : Int32)))] [s4]))
            exact own_retR X2 hx hret rfl (own_narR r4) r4 hlk (hb hby d1_51) ⟨_, rfl, r4, rfl, e2⟩ (by decide) (by decide)
        · show own_G p e below _ (T0.setTop (mkF m 39 #[.val (.int x), .val (.int ((x &&& (2147483647 : Int32)) % (7 : Int32)))] []))
          refine own_getS X0 hx hZ hown (own_w hw 111 rfl) e0 (S3.ext OL0.2) (hb hby d1_39) (fun T3 X3 e3 => ?_)
          show own_G p e below _ (T3.setTop (mkF m 42 #[.val (.int x), .val (.int ((x &&& (2147483647 : Int32)) % (7 : Int32)))] [s3]))
          exact own_retR X3 hx hret rfl (own_narR r3) r3 hlk (hb hby d1_42) ⟨_, rfl, r3, rfl, e3⟩ (by decide) (by decide)
      · show own_G p e below _ (T0.setTop (mkF m 30 #[.val (.int x), .val (.int ((x &&& (2147483647 : Int32)) % (7 : Int32)))] []))
        refine own_getS X0 hx hZ hown (own_w hw 107 rfl) e0 (S2.ext OL0.2) (hb hby d1_30) (fun T4 X4 e4 => ?_)
        show own_G p e below _ (T4.setTop (mkF m 33 #[.val (.int x), .val (.int ((x &&& (2147483647 : Int32)) % (7 : Int32)))] [s2]))
        exact own_retR X4 hx hret rfl (own_narR r2) r2 hlk (hb hby d1_33) ⟨_, rfl, r2, rfl, e4⟩ (by decide) (by decide)
    · show own_G p e below _ (T0.setTop (mkF m 21 #[.val (.int x), .val (.int ((x &&& (2147483647 : Int32)) % (7 : Int32)))] []))
      refine own_getS X0 hx hZ hown (own_w hw 109 rfl) e0 (S1.ext OL0.2) (hb hby d1_21) (fun T5 X5 e5 => ?_)
      show own_G p e below _ (T5.setTop (mkF m 24 #[.val (.int x), .val (.int ((x &&& (2147483647 : Int32)) % (7 : Int32)))] [s1]))
      exact own_retR X5 hx hret rfl (own_narR r1) r1 hlk (hb hby d1_24) ⟨_, rfl, r1, rfl, e5⟩ (by decide) (by decide)
  · show own_G p e below _ (T0.setTop (mkF m 12 #[.val (.int x), .val (.int ((x &&& (2147483647 : Int32)) % (7 : Int32)))] []))
    refine own_getS X0 hx hZ hown (own_w hw 5 rfl) e0 (S0.ext OL0.2) (hb hby d1_12) (fun T6 X6 e6 => ?_)
    show own_G p e below _ (T6.setTop (mkF m 15 #[.val (.int x), .val (.int ((x &&& (2147483647 : Int32)) % (7 : Int32)))] [s0]))
    exact own_retR X6 hx hret rfl (own_narR r0) r0 hlk (hb hby d1_15) ⟨_, rfl, r0, rfl, e6⟩ (by decide) (by decide)
theorem ef_drawn (m : MethodId) (x z : Int32) : entryFrame m #[(.int x), (.int z)] 3 = mkF m 0 #[.val (.int x), .val (.int z), .unset] [] := by first | (simp [entryFrame, mkF, argsToLocals, Value.category, maxLocals]; done) | rfl
set_option maxRecDepth 65536 in
set_option maxHeartbeats 40000000 in
theorem rmDrawn (l : Launch) (Z : State) (a0 : Array Value) (hw : ∀ d ∈ tables_1, d.before a0 Z = true) (ws : List Jvm.Cond) (x z : Int32) (h0 : Heap) (G1 : Int32) (O2 : Sta Z Z.heap "java/lang/String" "COMPACT_STRINGS" "Z" (.int G1)) (P5 : ¬ (G1 = (0 : Int32))) (OL0 : Old Z Z.heap.size h0) :
    own_Met l Z (⟨"com/example/crossgrant/crossgrant/store/AuditEventRegistrationPinLaw", "drawn", "(IZ)Ljava/lang/String;"⟩ : MethodName) method_3_code 3 (some (.object "java/lang/String")) ws ⟨4, 3, 8, 66⟩ #[(.int x), (.int z)] h0 (fun v h L => ∃ r : Value, v = some r ∧ r.isRef = true ∧ Fr Z.heap.size L ∧ Ext h0 h) := by
  refine own_enter (plainFor_of_name pn0) (fun m => ef_drawn m x z) ?_
  intro p e s m below meth c T0 hx hby hml hZ hown hnm hret hlk X0 e0
  have zz0 : Z.heap.size ≤ h0.size := OL0.2.1
  have N0 := Fr.nil Z.heap.size
  have hws : ∀ d ∈ StrChars.Road.words, d.before a0 Z = true := fun d hd => hw d ((by decide +kernel : ∀ d ∈ StrChars.Road.words, d ∈ tables_1) d hd)
  show own_G p e below _ (T0.setTop (mkF m 0 #[.val (.int x), .val (.int z), .unset] []))
  refine own_step (b := T0.setTop (mkF m 1 #[.val (.int x), .val (.int z), .unset] [(.int z)])) (fun t k => XS.iloadN X0.here hx rfl (hb hby d2_0) rfl k) ?_
  refine own_if_eq X0 hx (hb hby d2_1) (pc' := 6) (by decide) (by decide) (fun c1 => ?_) (fun c1 => ?_)
  · show own_G p e below _ (T0.setTop (mkF m 6 #[.val (.int x), .val (.int z), .unset] []))
    refine own_step (b := T0.setTop (mkF m 7 #[.val (.int x), .val (.int z), .unset] [(.int (2 : Int32))])) (fun t k => XS.iconst X0.here hx rfl (hb hby d2_6) k) ?_
    refine own_newP X0 hx hZ (own_w hw 11 rfl) e0 (hb hby d2_7) (n := (2 : Int32)) (by decide) 2 (by decide) (by decide) (by decide) (by decide) (fun T1 h1 a1 k1 X1 e1 g1 l1 E1 V1 => ?_)
    have V1' : Arv Z h1 a1 k1 .char (2 : Int32) [.int 0, .int 0] (.int 0) := V1
    show own_G p e below _ (T1.setTop (mkF m 9 #[.val (.int x), .val (.int z), .unset] [(.ref a1)]))
    have OL1 := OL0.ext E1
    have KP1 := (Keep.refl h0 []).ext E1
    refine own_step (b := T1.setTop (mkF m 10 #[.val (.int x), .val (.int z), .val (.ref a1)] [])) (fun t k => XS.astoreN X1.here hx rfl (hb hby d2_9) rfl rfl (l' := #[.val (.int x), .val (.int z), .val (.ref a1)]) rfl k) ?_
    refine own_step (b := T1.setTop (mkF m 11 #[.val (.int x), .val (.int z), .val (.ref a1)] [(.ref a1)])) (fun t k => XS.aloadN X1.here hx rfl (hb hby d2_10) rfl rfl k) ?_
    refine own_step (b := T1.setTop (mkF m 12 #[.val (.int x), .val (.int z), .val (.ref a1)] [(.int (0 : Int32)), (.ref a1)])) (fun t k => XS.iconst X1.here hx rfl (hb hby d2_11) k) ?_
    refine own_step (b := T1.setTop (mkF m 13 #[.val (.int x), .val (.int z), .val (.ref a1)] [(.int x), (.int (0 : Int32)), (.ref a1)])) (fun t k => XS.iloadN X1.here hx rfl (hb hby d2_12) rfl k) ?_
    refine own_step (b := T1.setTop (mkF m 16 #[.val (.int x), .val (.int z), .val (.ref a1)] [(.int (255 : Int32)), (.int x), (.int (0 : Int32)), (.ref a1)])) (fun t k => XS.sipush X1.here hx rfl (hb hby d2_13) k) ?_
    refine own_step (b := T1.setTop (mkF m 17 #[.val (.int x), .val (.int z), .val (.ref a1)] [(.int (x &&& (255 : Int32))), (.int (0 : Int32)), (.ref a1)])) (fun t k => XS.iand X1.here hx rfl (hb hby d2_16) rfl k) ?_
    refine own_step (b := T1.setTop (mkF m 18 #[.val (.int x), .val (.int z), .val (.ref a1)] [(.int ((x &&& (255 : Int32)).toUInt32.toUInt16.toUInt32.toInt32)), (.int (0 : Int32)), (.ref a1)])) (fun t k => XT.i2c X1.here hx rfl (hb hby d2_17) rfl k) ?_
    refine own_stC X1 hx hZ e1 V1' 0 (by decide) (by decide) (by decide) (Nat.le_of_ble_eq_true rfl) N0 (by omega) (hb hby d2_18) (fun T2 h2 X2 e2 N2 W2 z2 V2 => ?_)
    have V2' : Arv Z h2 a1 k1 .char (2 : Int32) [.int (nar .char ((x &&& (255 : Int32)).toUInt32.toUInt16.toUInt32.toInt32)), .int 0] (.int 0) := V2
    show own_G p e below _ (T2.setTop (mkF m 19 #[.val (.int x), .val (.int z), .val (.ref a1)] []))
    have OL2 := OL1.wr W2 (by omega)
    have KP2 := KP1.wr W2 (Or.inr (by omega))
    refine own_step (b := T2.setTop (mkF m 20 #[.val (.int x), .val (.int z), .val (.ref a1)] [(.ref a1)])) (fun t k => XS.aloadN X2.here hx rfl (hb hby d2_19) rfl rfl k) ?_
    refine own_step (b := T2.setTop (mkF m 21 #[.val (.int x), .val (.int z), .val (.ref a1)] [(.int (1 : Int32)), (.ref a1)])) (fun t k => XS.iconst X2.here hx rfl (hb hby d2_20) k) ?_
    refine own_step (b := T2.setTop (mkF m 22 #[.val (.int x), .val (.int z), .val (.ref a1)] [(.int x), (.int (1 : Int32)), (.ref a1)])) (fun t k => XS.iloadN X2.here hx rfl (hb hby d2_21) rfl k) ?_
    refine own_step (b := T2.setTop (mkF m 24 #[.val (.int x), .val (.int z), .val (.ref a1)] [(.int (8 : Int32)), (.int x), (.int (1 : Int32)), (.ref a1)])) (fun t k => XS.bipush X2.here hx rfl (hb hby d2_22) k) ?_
    refine own_step (b := T2.setTop (mkF m 25 #[.val (.int x), .val (.int z), .val (.ref a1)] [(.int (XT.ushr x (8 : Int32))), (.int (1 : Int32)), (.ref a1)])) (fun t k => XT.iushr X2.here hx rfl (hb hby d2_24) rfl k) ?_
    refine own_step (b := T2.setTop (mkF m 28 #[.val (.int x), .val (.int z), .val (.ref a1)] [(.int (255 : Int32)), (.int (XT.ushr x (8 : Int32))), (.int (1 : Int32)), (.ref a1)])) (fun t k => XS.sipush X2.here hx rfl (hb hby d2_25) k) ?_
    refine own_step (b := T2.setTop (mkF m 29 #[.val (.int x), .val (.int z), .val (.ref a1)] [(.int ((XT.ushr x (8 : Int32)) &&& (255 : Int32))), (.int (1 : Int32)), (.ref a1)])) (fun t k => XS.iand X2.here hx rfl (hb hby d2_28) rfl k) ?_
    refine own_step (b := T2.setTop (mkF m 30 #[.val (.int x), .val (.int z), .val (.ref a1)] [(.int (((XT.ushr x (8 : Int32)) &&& (255 : Int32)).toUInt32.toUInt16.toUInt32.toInt32)), (.int (1 : Int32)), (.ref a1)])) (fun t k => XT.i2c X2.here hx rfl (hb hby d2_29) rfl k) ?_
    refine own_stC X2 hx hZ e2 V2' 1 (by decide) (by decide) (by decide) (Nat.le_of_ble_eq_true rfl) N2 (by omega) (hb hby d2_30) (fun T3 h3 X3 e3 N3 W3 z3 V3 => ?_)
    have V3' : Arv Z h3 a1 k1 .char (2 : Int32) [.int (nar .char ((x &&& (255 : Int32)).toUInt32.toUInt16.toUInt32.toInt32)), .int (nar .char (((XT.ushr x (8 : Int32)) &&& (255 : Int32)).toUInt32.toUInt16.toUInt32.toInt32))] (.int 0) := V3
    show own_G p e below _ (T3.setTop (mkF m 31 #[.val (.int x), .val (.int z), .val (.ref a1)] []))
    have OL3 := OL2.wr W3 (by omega)
    have KP3 := KP2.wr W3 (Or.inr (by omega))
    refine own_newO X3 hx hZ hown (own_w hw 12 rfl) (own_w hw 13 rfl) (own_w hw 14 rfl) e3 (hb hby d2_31) (by decide) (by decide) (fun T4 h4 a4 X4 e4 g4 l4 E4 A4 D4 => ?_)
    show own_G p e below _ (T4.setTop (mkF m 34 #[.val (.int x), .val (.int z), .val (.ref a1)] [(.ref a4)]))
    have OL4 := OL3.ext E4
    have KP4 := KP3.ext E4
    refine own_step (b := T4.setTop (mkF m 35 #[.val (.int x), .val (.int z), .val (.ref a1)] [(.ref a4), (.ref a4)])) (fun t k => XS.dup X4.here hx rfl (hb hby d2_34) rfl rfl k) ?_
    refine own_step (b := T4.setTop (mkF m 36 #[.val (.int x), .val (.int z), .val (.ref a1)] [(.ref a1), (.ref a4), (.ref a4)])) (fun t k => XS.aloadN X4.here hx rfl (hb hby d2_35) rfl rfl k) ?_
    have hp : ∀ c ∈ ([(nar .char ((x &&& (255 : Int32)).toUInt32.toUInt16.toUInt32.toInt32)), (nar .char (((XT.ushr x (8 : Int32)) &&& (255 : Int32)).toUInt32.toUInt16.toUInt32.toInt32))] : List Int32), ¬ c < 0 ∧ ¬ (255 : Int32) < c := by
      intro c hc
      simp only [List.mem_cons, List.not_mem_nil, or_false] at hc
      rcases hc with rfl | rfl
      · exact own_and255 _
      · exact own_and255 _
    refine own_special (W := 1) (argsL := [(.ref a1)]) (a := a4) (st := [(.ref a4)]) X4 hx hZ hown rfl (own_w hw 15 rfl) (own_w hw 16 rfl) (own_w hw 17 rfl) (by decide) e4 (StrChars.Road.backV (W := 1) hZ hws (kI := 4) (own_w hw 13 rfl) (cs := ([(nar .char ((x &&& (255 : Int32)).toUInt32.toUInt16.toUInt32.toInt32)), (nar .char (((XT.ushr x (8 : Int32)) &&& (255 : Int32)).toUInt32.toUInt16.toUInt32.toInt32))] : List Int32)) (bs := (([(nar .char ((x &&& (255 : Int32)).toUInt32.toUInt16.toUInt32.toInt32)), (nar .char (((XT.ushr x (8 : Int32)) &&& (255 : Int32)).toUInt32.toUInt16.toUInt32.toInt32))] : List Int32)).map (fun c => c.toInt8.toInt32)) (n := 2) (n0 := Z.heap.size) (by omega) (by omega) A4 (D4 (Or.inr (own_w hw 40 rfl)) (ty := (.array .byte)) (by decide)) (D4 (Or.inr (own_w hw 38 rfl)) (ty := .byte) (by decide)) (V3'.ext E4) (O2.ext OL4.2) P5 rfl rfl (by decide) (by decide) hp rfl (by decide) (by decide)) (by decide) (by decide) (by rw [hml]; rfl) (lenOf pd0 rfl) rfl (Nat.le_of_ble_eq_true rfl) (hb hby d2_36) (fun v5 T5 L5 X5 hQ5 => ?_)
    obtain ⟨rfl, M5, K5, E5, C5, t5, kb5, u5, uu5, uuu5, F5, B5⟩ := hQ5
    have z5 : h4.size ≤ T5.heap.size := K5.1
    have N5 := Fr.app N3 M5
    have OL5 := OL4.keep K5 (allS (by omega) all0)
    show own_G p e below _ (T5.setTop (mkF m 39 #[.val (.int x), .val (.int z), .val (.ref a1)] [(.ref a4)]))
    have KP5 := KP4.trans K5 (allS (Or.inr (by omega)) all0)
    exact own_retR X5 hx hret rfl rfl rfl hlk (hb hby d2_39) ⟨_, rfl, rfl, N5, own_ext KP5⟩ (by decide) (by decide)
  · show own_G p e below _ (T0.setTop (mkF m 4 #[.val (.int x), .val (.int z), .unset] []))
    refine own_step (b := T0.setTop (mkF m 5 #[.val (.int x), .val (.int z), .unset] [.null])) (fun t k => XS.aconstNull X0.here hx rfl (hb hby d2_4) k) ?_
    exact own_retR X0 hx hret rfl rfl rfl hlk (hb hby d2_5) ⟨_, rfl, rfl, N0, e0 ▸ own_ext (Keep.refl _ _)⟩ (by decide) (by decide)
theorem ef_rec (m : MethodId) (a : Addr) : entryFrame m #[(.ref a)] 1 = mkF m 0 #[.val (.ref a)] [] := by first | (simp [entryFrame, mkF, argsToLocals, Value.category, maxLocals]; done) | rfl
set_option maxRecDepth 65536 in
set_option maxHeartbeats 40000000 in
theorem rmRec (l : Launch) (Z : State) (a0 : Array Value) (hw : ∀ d ∈ tables_1, d.before a0 Z = true) (ws : List Jvm.Cond) (a : Addr) (h0 : Heap) :
    own_Met l Z (⟨"java/lang/Record", "<init>", "()V"⟩ : MethodName) jdk_30_method_1_code 1 none ws ⟨1, 0, 0, 12⟩ #[(.ref a)] h0 (own_P none h0) := by
  refine own_enter (plainFor_of_name pn2) (fun m => ef_rec m a) ?_
  intro p e s m below meth c T0 hx hby hml hZ hown hnm hret hlk X0 e0
  show own_G p e below _ (T0.setTop (mkF m 0 #[.val (.ref a)] []))
  refine own_step (b := T0.setTop (mkF m 1 #[.val (.ref a)] [(.ref a)])) (fun t k => XS.aloadN X0.here hx rfl (hb hby d11_0) rfl rfl k) ?_
  refine own_initO (W := 0) X0 hx hZ hown (own_w hw 55 rfl) (own_w hw 23 rfl) (own_w hw 24 rfl) e0 (by rw [hml]; rfl) (hb hby d11_1) (by decide) (Nat.le_of_ble_eq_true rfl) (by decide) (fun T1 X1 e1 => ?_)
  show own_G p e below _ (T1.setTop (mkF m 4 #[.val (.ref a)] []))
  exact own_retV X1 hx hret hlk (hb hby d11_4) ⟨rfl, rfl, e1⟩ (by decide) (by decide)
theorem sn_0_1 {Z : State} {a0 : Array Value} (hw : ∀ d ∈ tables_1, d.before a0 Z = true) : Jvm.RoadKit.slotOf Z "com/example/crossgrant/crossgrant/store/AuditEvent" "type" "Lcom/example/crossgrant/crossgrant/store/AuditEvent$Type;" ≠ Jvm.RoadKit.slotOf Z "com/example/crossgrant/crossgrant/store/AuditEvent" "clientId" "Ljava/lang/String;" := slot_ne (Or.inr (own_w hw 57 rfl)) (Or.inr (own_w hw 59 rfl)) (by decide) (t := (.object "com/example/crossgrant/crossgrant/store/AuditEvent$Type")) (t' := (.object "java/lang/String")) (by decide) (by decide)
theorem sn_0_2 {Z : State} {a0 : Array Value} (hw : ∀ d ∈ tables_1, d.before a0 Z = true) : Jvm.RoadKit.slotOf Z "com/example/crossgrant/crossgrant/store/AuditEvent" "type" "Lcom/example/crossgrant/crossgrant/store/AuditEvent$Type;" ≠ Jvm.RoadKit.slotOf Z "com/example/crossgrant/crossgrant/store/AuditEvent" "grantType" "Ljava/lang/String;" := slot_ne (Or.inr (own_w hw 57 rfl)) (Or.inr (own_w hw 61 rfl)) (by decide) (t := (.object "com/example/crossgrant/crossgrant/store/AuditEvent$Type")) (t' := (.object "java/lang/String")) (by decide) (by decide)
theorem sn_0_3 {Z : State} {a0 : Array Value} (hw : ∀ d ∈ tables_1, d.before a0 Z = true) : Jvm.RoadKit.slotOf Z "com/example/crossgrant/crossgrant/store/AuditEvent" "type" "Lcom/example/crossgrant/crossgrant/store/AuditEvent$Type;" ≠ Jvm.RoadKit.slotOf Z "com/example/crossgrant/crossgrant/store/AuditEvent" "error" "Ljava/lang/String;" := slot_ne (Or.inr (own_w hw 57 rfl)) (Or.inr (own_w hw 63 rfl)) (by decide) (t := (.object "com/example/crossgrant/crossgrant/store/AuditEvent$Type")) (t' := (.object "java/lang/String")) (by decide) (by decide)
theorem sn_0_4 {Z : State} {a0 : Array Value} (hw : ∀ d ∈ tables_1, d.before a0 Z = true) : Jvm.RoadKit.slotOf Z "com/example/crossgrant/crossgrant/store/AuditEvent" "type" "Lcom/example/crossgrant/crossgrant/store/AuditEvent$Type;" ≠ Jvm.RoadKit.slotOf Z "com/example/crossgrant/crossgrant/store/AuditEvent" "tokenJti" "Ljava/lang/String;" := slot_ne (Or.inr (own_w hw 57 rfl)) (Or.inr (own_w hw 65 rfl)) (by decide) (t := (.object "com/example/crossgrant/crossgrant/store/AuditEvent$Type")) (t' := (.object "java/lang/String")) (by decide) (by decide)
theorem sn_0_5 {Z : State} {a0 : Array Value} (hw : ∀ d ∈ tables_1, d.before a0 Z = true) : Jvm.RoadKit.slotOf Z "com/example/crossgrant/crossgrant/store/AuditEvent" "type" "Lcom/example/crossgrant/crossgrant/store/AuditEvent$Type;" ≠ Jvm.RoadKit.slotOf Z "com/example/crossgrant/crossgrant/store/AuditEvent" "subject" "Ljava/lang/String;" := slot_ne (Or.inr (own_w hw 57 rfl)) (Or.inr (own_w hw 67 rfl)) (by decide) (t := (.object "com/example/crossgrant/crossgrant/store/AuditEvent$Type")) (t' := (.object "java/lang/String")) (by decide) (by decide)
theorem sn_0_6 {Z : State} {a0 : Array Value} (hw : ∀ d ∈ tables_1, d.before a0 Z = true) : Jvm.RoadKit.slotOf Z "com/example/crossgrant/crossgrant/store/AuditEvent" "type" "Lcom/example/crossgrant/crossgrant/store/AuditEvent$Type;" ≠ Jvm.RoadKit.slotOf Z "com/example/crossgrant/crossgrant/store/AuditEvent" "assertionJti" "Ljava/lang/String;" := slot_ne (Or.inr (own_w hw 57 rfl)) (Or.inr (own_w hw 69 rfl)) (by decide) (t := (.object "com/example/crossgrant/crossgrant/store/AuditEvent$Type")) (t' := (.object "java/lang/String")) (by decide) (by decide)
theorem sn_1_0 {Z : State} {a0 : Array Value} (hw : ∀ d ∈ tables_1, d.before a0 Z = true) : Jvm.RoadKit.slotOf Z "com/example/crossgrant/crossgrant/store/AuditEvent" "clientId" "Ljava/lang/String;" ≠ Jvm.RoadKit.slotOf Z "com/example/crossgrant/crossgrant/store/AuditEvent" "type" "Lcom/example/crossgrant/crossgrant/store/AuditEvent$Type;" := slot_ne (Or.inr (own_w hw 59 rfl)) (Or.inr (own_w hw 57 rfl)) (by decide) (t := (.object "java/lang/String")) (t' := (.object "com/example/crossgrant/crossgrant/store/AuditEvent$Type")) (by decide) (by decide)
theorem sn_1_2 {Z : State} {a0 : Array Value} (hw : ∀ d ∈ tables_1, d.before a0 Z = true) : Jvm.RoadKit.slotOf Z "com/example/crossgrant/crossgrant/store/AuditEvent" "clientId" "Ljava/lang/String;" ≠ Jvm.RoadKit.slotOf Z "com/example/crossgrant/crossgrant/store/AuditEvent" "grantType" "Ljava/lang/String;" := slot_ne (Or.inr (own_w hw 59 rfl)) (Or.inr (own_w hw 61 rfl)) (by decide) (t := (.object "java/lang/String")) (t' := (.object "java/lang/String")) (by decide) (by decide)
theorem sn_1_3 {Z : State} {a0 : Array Value} (hw : ∀ d ∈ tables_1, d.before a0 Z = true) : Jvm.RoadKit.slotOf Z "com/example/crossgrant/crossgrant/store/AuditEvent" "clientId" "Ljava/lang/String;" ≠ Jvm.RoadKit.slotOf Z "com/example/crossgrant/crossgrant/store/AuditEvent" "error" "Ljava/lang/String;" := slot_ne (Or.inr (own_w hw 59 rfl)) (Or.inr (own_w hw 63 rfl)) (by decide) (t := (.object "java/lang/String")) (t' := (.object "java/lang/String")) (by decide) (by decide)
theorem sn_1_4 {Z : State} {a0 : Array Value} (hw : ∀ d ∈ tables_1, d.before a0 Z = true) : Jvm.RoadKit.slotOf Z "com/example/crossgrant/crossgrant/store/AuditEvent" "clientId" "Ljava/lang/String;" ≠ Jvm.RoadKit.slotOf Z "com/example/crossgrant/crossgrant/store/AuditEvent" "tokenJti" "Ljava/lang/String;" := slot_ne (Or.inr (own_w hw 59 rfl)) (Or.inr (own_w hw 65 rfl)) (by decide) (t := (.object "java/lang/String")) (t' := (.object "java/lang/String")) (by decide) (by decide)
theorem sn_1_5 {Z : State} {a0 : Array Value} (hw : ∀ d ∈ tables_1, d.before a0 Z = true) : Jvm.RoadKit.slotOf Z "com/example/crossgrant/crossgrant/store/AuditEvent" "clientId" "Ljava/lang/String;" ≠ Jvm.RoadKit.slotOf Z "com/example/crossgrant/crossgrant/store/AuditEvent" "subject" "Ljava/lang/String;" := slot_ne (Or.inr (own_w hw 59 rfl)) (Or.inr (own_w hw 67 rfl)) (by decide) (t := (.object "java/lang/String")) (t' := (.object "java/lang/String")) (by decide) (by decide)
theorem sn_1_6 {Z : State} {a0 : Array Value} (hw : ∀ d ∈ tables_1, d.before a0 Z = true) : Jvm.RoadKit.slotOf Z "com/example/crossgrant/crossgrant/store/AuditEvent" "clientId" "Ljava/lang/String;" ≠ Jvm.RoadKit.slotOf Z "com/example/crossgrant/crossgrant/store/AuditEvent" "assertionJti" "Ljava/lang/String;" := slot_ne (Or.inr (own_w hw 59 rfl)) (Or.inr (own_w hw 69 rfl)) (by decide) (t := (.object "java/lang/String")) (t' := (.object "java/lang/String")) (by decide) (by decide)
theorem sn_2_0 {Z : State} {a0 : Array Value} (hw : ∀ d ∈ tables_1, d.before a0 Z = true) : Jvm.RoadKit.slotOf Z "com/example/crossgrant/crossgrant/store/AuditEvent" "grantType" "Ljava/lang/String;" ≠ Jvm.RoadKit.slotOf Z "com/example/crossgrant/crossgrant/store/AuditEvent" "type" "Lcom/example/crossgrant/crossgrant/store/AuditEvent$Type;" := slot_ne (Or.inr (own_w hw 61 rfl)) (Or.inr (own_w hw 57 rfl)) (by decide) (t := (.object "java/lang/String")) (t' := (.object "com/example/crossgrant/crossgrant/store/AuditEvent$Type")) (by decide) (by decide)
theorem sn_2_1 {Z : State} {a0 : Array Value} (hw : ∀ d ∈ tables_1, d.before a0 Z = true) : Jvm.RoadKit.slotOf Z "com/example/crossgrant/crossgrant/store/AuditEvent" "grantType" "Ljava/lang/String;" ≠ Jvm.RoadKit.slotOf Z "com/example/crossgrant/crossgrant/store/AuditEvent" "clientId" "Ljava/lang/String;" := slot_ne (Or.inr (own_w hw 61 rfl)) (Or.inr (own_w hw 59 rfl)) (by decide) (t := (.object "java/lang/String")) (t' := (.object "java/lang/String")) (by decide) (by decide)
theorem sn_2_3 {Z : State} {a0 : Array Value} (hw : ∀ d ∈ tables_1, d.before a0 Z = true) : Jvm.RoadKit.slotOf Z "com/example/crossgrant/crossgrant/store/AuditEvent" "grantType" "Ljava/lang/String;" ≠ Jvm.RoadKit.slotOf Z "com/example/crossgrant/crossgrant/store/AuditEvent" "error" "Ljava/lang/String;" := slot_ne (Or.inr (own_w hw 61 rfl)) (Or.inr (own_w hw 63 rfl)) (by decide) (t := (.object "java/lang/String")) (t' := (.object "java/lang/String")) (by decide) (by decide)
theorem sn_2_4 {Z : State} {a0 : Array Value} (hw : ∀ d ∈ tables_1, d.before a0 Z = true) : Jvm.RoadKit.slotOf Z "com/example/crossgrant/crossgrant/store/AuditEvent" "grantType" "Ljava/lang/String;" ≠ Jvm.RoadKit.slotOf Z "com/example/crossgrant/crossgrant/store/AuditEvent" "tokenJti" "Ljava/lang/String;" := slot_ne (Or.inr (own_w hw 61 rfl)) (Or.inr (own_w hw 65 rfl)) (by decide) (t := (.object "java/lang/String")) (t' := (.object "java/lang/String")) (by decide) (by decide)
theorem sn_2_5 {Z : State} {a0 : Array Value} (hw : ∀ d ∈ tables_1, d.before a0 Z = true) : Jvm.RoadKit.slotOf Z "com/example/crossgrant/crossgrant/store/AuditEvent" "grantType" "Ljava/lang/String;" ≠ Jvm.RoadKit.slotOf Z "com/example/crossgrant/crossgrant/store/AuditEvent" "subject" "Ljava/lang/String;" := slot_ne (Or.inr (own_w hw 61 rfl)) (Or.inr (own_w hw 67 rfl)) (by decide) (t := (.object "java/lang/String")) (t' := (.object "java/lang/String")) (by decide) (by decide)
theorem sn_2_6 {Z : State} {a0 : Array Value} (hw : ∀ d ∈ tables_1, d.before a0 Z = true) : Jvm.RoadKit.slotOf Z "com/example/crossgrant/crossgrant/store/AuditEvent" "grantType" "Ljava/lang/String;" ≠ Jvm.RoadKit.slotOf Z "com/example/crossgrant/crossgrant/store/AuditEvent" "assertionJti" "Ljava/lang/String;" := slot_ne (Or.inr (own_w hw 61 rfl)) (Or.inr (own_w hw 69 rfl)) (by decide) (t := (.object "java/lang/String")) (t' := (.object "java/lang/String")) (by decide) (by decide)
theorem sn_3_0 {Z : State} {a0 : Array Value} (hw : ∀ d ∈ tables_1, d.before a0 Z = true) : Jvm.RoadKit.slotOf Z "com/example/crossgrant/crossgrant/store/AuditEvent" "error" "Ljava/lang/String;" ≠ Jvm.RoadKit.slotOf Z "com/example/crossgrant/crossgrant/store/AuditEvent" "type" "Lcom/example/crossgrant/crossgrant/store/AuditEvent$Type;" := slot_ne (Or.inr (own_w hw 63 rfl)) (Or.inr (own_w hw 57 rfl)) (by decide) (t := (.object "java/lang/String")) (t' := (.object "com/example/crossgrant/crossgrant/store/AuditEvent$Type")) (by decide) (by decide)
theorem sn_3_1 {Z : State} {a0 : Array Value} (hw : ∀ d ∈ tables_1, d.before a0 Z = true) : Jvm.RoadKit.slotOf Z "com/example/crossgrant/crossgrant/store/AuditEvent" "error" "Ljava/lang/String;" ≠ Jvm.RoadKit.slotOf Z "com/example/crossgrant/crossgrant/store/AuditEvent" "clientId" "Ljava/lang/String;" := slot_ne (Or.inr (own_w hw 63 rfl)) (Or.inr (own_w hw 59 rfl)) (by decide) (t := (.object "java/lang/String")) (t' := (.object "java/lang/String")) (by decide) (by decide)
theorem sn_3_2 {Z : State} {a0 : Array Value} (hw : ∀ d ∈ tables_1, d.before a0 Z = true) : Jvm.RoadKit.slotOf Z "com/example/crossgrant/crossgrant/store/AuditEvent" "error" "Ljava/lang/String;" ≠ Jvm.RoadKit.slotOf Z "com/example/crossgrant/crossgrant/store/AuditEvent" "grantType" "Ljava/lang/String;" := slot_ne (Or.inr (own_w hw 63 rfl)) (Or.inr (own_w hw 61 rfl)) (by decide) (t := (.object "java/lang/String")) (t' := (.object "java/lang/String")) (by decide) (by decide)
theorem sn_3_4 {Z : State} {a0 : Array Value} (hw : ∀ d ∈ tables_1, d.before a0 Z = true) : Jvm.RoadKit.slotOf Z "com/example/crossgrant/crossgrant/store/AuditEvent" "error" "Ljava/lang/String;" ≠ Jvm.RoadKit.slotOf Z "com/example/crossgrant/crossgrant/store/AuditEvent" "tokenJti" "Ljava/lang/String;" := slot_ne (Or.inr (own_w hw 63 rfl)) (Or.inr (own_w hw 65 rfl)) (by decide) (t := (.object "java/lang/String")) (t' := (.object "java/lang/String")) (by decide) (by decide)
theorem sn_3_5 {Z : State} {a0 : Array Value} (hw : ∀ d ∈ tables_1, d.before a0 Z = true) : Jvm.RoadKit.slotOf Z "com/example/crossgrant/crossgrant/store/AuditEvent" "error" "Ljava/lang/String;" ≠ Jvm.RoadKit.slotOf Z "com/example/crossgrant/crossgrant/store/AuditEvent" "subject" "Ljava/lang/String;" := slot_ne (Or.inr (own_w hw 63 rfl)) (Or.inr (own_w hw 67 rfl)) (by decide) (t := (.object "java/lang/String")) (t' := (.object "java/lang/String")) (by decide) (by decide)
theorem sn_3_6 {Z : State} {a0 : Array Value} (hw : ∀ d ∈ tables_1, d.before a0 Z = true) : Jvm.RoadKit.slotOf Z "com/example/crossgrant/crossgrant/store/AuditEvent" "error" "Ljava/lang/String;" ≠ Jvm.RoadKit.slotOf Z "com/example/crossgrant/crossgrant/store/AuditEvent" "assertionJti" "Ljava/lang/String;" := slot_ne (Or.inr (own_w hw 63 rfl)) (Or.inr (own_w hw 69 rfl)) (by decide) (t := (.object "java/lang/String")) (t' := (.object "java/lang/String")) (by decide) (by decide)
theorem sn_4_0 {Z : State} {a0 : Array Value} (hw : ∀ d ∈ tables_1, d.before a0 Z = true) : Jvm.RoadKit.slotOf Z "com/example/crossgrant/crossgrant/store/AuditEvent" "tokenJti" "Ljava/lang/String;" ≠ Jvm.RoadKit.slotOf Z "com/example/crossgrant/crossgrant/store/AuditEvent" "type" "Lcom/example/crossgrant/crossgrant/store/AuditEvent$Type;" := slot_ne (Or.inr (own_w hw 65 rfl)) (Or.inr (own_w hw 57 rfl)) (by decide) (t := (.object "java/lang/String")) (t' := (.object "com/example/crossgrant/crossgrant/store/AuditEvent$Type")) (by decide) (by decide)
theorem sn_4_1 {Z : State} {a0 : Array Value} (hw : ∀ d ∈ tables_1, d.before a0 Z = true) : Jvm.RoadKit.slotOf Z "com/example/crossgrant/crossgrant/store/AuditEvent" "tokenJti" "Ljava/lang/String;" ≠ Jvm.RoadKit.slotOf Z "com/example/crossgrant/crossgrant/store/AuditEvent" "clientId" "Ljava/lang/String;" := slot_ne (Or.inr (own_w hw 65 rfl)) (Or.inr (own_w hw 59 rfl)) (by decide) (t := (.object "java/lang/String")) (t' := (.object "java/lang/String")) (by decide) (by decide)
theorem sn_4_2 {Z : State} {a0 : Array Value} (hw : ∀ d ∈ tables_1, d.before a0 Z = true) : Jvm.RoadKit.slotOf Z "com/example/crossgrant/crossgrant/store/AuditEvent" "tokenJti" "Ljava/lang/String;" ≠ Jvm.RoadKit.slotOf Z "com/example/crossgrant/crossgrant/store/AuditEvent" "grantType" "Ljava/lang/String;" := slot_ne (Or.inr (own_w hw 65 rfl)) (Or.inr (own_w hw 61 rfl)) (by decide) (t := (.object "java/lang/String")) (t' := (.object "java/lang/String")) (by decide) (by decide)
theorem sn_4_3 {Z : State} {a0 : Array Value} (hw : ∀ d ∈ tables_1, d.before a0 Z = true) : Jvm.RoadKit.slotOf Z "com/example/crossgrant/crossgrant/store/AuditEvent" "tokenJti" "Ljava/lang/String;" ≠ Jvm.RoadKit.slotOf Z "com/example/crossgrant/crossgrant/store/AuditEvent" "error" "Ljava/lang/String;" := slot_ne (Or.inr (own_w hw 65 rfl)) (Or.inr (own_w hw 63 rfl)) (by decide) (t := (.object "java/lang/String")) (t' := (.object "java/lang/String")) (by decide) (by decide)
theorem sn_4_5 {Z : State} {a0 : Array Value} (hw : ∀ d ∈ tables_1, d.before a0 Z = true) : Jvm.RoadKit.slotOf Z "com/example/crossgrant/crossgrant/store/AuditEvent" "tokenJti" "Ljava/lang/String;" ≠ Jvm.RoadKit.slotOf Z "com/example/crossgrant/crossgrant/store/AuditEvent" "subject" "Ljava/lang/String;" := slot_ne (Or.inr (own_w hw 65 rfl)) (Or.inr (own_w hw 67 rfl)) (by decide) (t := (.object "java/lang/String")) (t' := (.object "java/lang/String")) (by decide) (by decide)
theorem sn_4_6 {Z : State} {a0 : Array Value} (hw : ∀ d ∈ tables_1, d.before a0 Z = true) : Jvm.RoadKit.slotOf Z "com/example/crossgrant/crossgrant/store/AuditEvent" "tokenJti" "Ljava/lang/String;" ≠ Jvm.RoadKit.slotOf Z "com/example/crossgrant/crossgrant/store/AuditEvent" "assertionJti" "Ljava/lang/String;" := slot_ne (Or.inr (own_w hw 65 rfl)) (Or.inr (own_w hw 69 rfl)) (by decide) (t := (.object "java/lang/String")) (t' := (.object "java/lang/String")) (by decide) (by decide)
theorem sn_5_0 {Z : State} {a0 : Array Value} (hw : ∀ d ∈ tables_1, d.before a0 Z = true) : Jvm.RoadKit.slotOf Z "com/example/crossgrant/crossgrant/store/AuditEvent" "subject" "Ljava/lang/String;" ≠ Jvm.RoadKit.slotOf Z "com/example/crossgrant/crossgrant/store/AuditEvent" "type" "Lcom/example/crossgrant/crossgrant/store/AuditEvent$Type;" := slot_ne (Or.inr (own_w hw 67 rfl)) (Or.inr (own_w hw 57 rfl)) (by decide) (t := (.object "java/lang/String")) (t' := (.object "com/example/crossgrant/crossgrant/store/AuditEvent$Type")) (by decide) (by decide)
theorem sn_5_1 {Z : State} {a0 : Array Value} (hw : ∀ d ∈ tables_1, d.before a0 Z = true) : Jvm.RoadKit.slotOf Z "com/example/crossgrant/crossgrant/store/AuditEvent" "subject" "Ljava/lang/String;" ≠ Jvm.RoadKit.slotOf Z "com/example/crossgrant/crossgrant/store/AuditEvent" "clientId" "Ljava/lang/String;" := slot_ne (Or.inr (own_w hw 67 rfl)) (Or.inr (own_w hw 59 rfl)) (by decide) (t := (.object "java/lang/String")) (t' := (.object "java/lang/String")) (by decide) (by decide)
theorem sn_5_2 {Z : State} {a0 : Array Value} (hw : ∀ d ∈ tables_1, d.before a0 Z = true) : Jvm.RoadKit.slotOf Z "com/example/crossgrant/crossgrant/store/AuditEvent" "subject" "Ljava/lang/String;" ≠ Jvm.RoadKit.slotOf Z "com/example/crossgrant/crossgrant/store/AuditEvent" "grantType" "Ljava/lang/String;" := slot_ne (Or.inr (own_w hw 67 rfl)) (Or.inr (own_w hw 61 rfl)) (by decide) (t := (.object "java/lang/String")) (t' := (.object "java/lang/String")) (by decide) (by decide)
theorem sn_5_3 {Z : State} {a0 : Array Value} (hw : ∀ d ∈ tables_1, d.before a0 Z = true) : Jvm.RoadKit.slotOf Z "com/example/crossgrant/crossgrant/store/AuditEvent" "subject" "Ljava/lang/String;" ≠ Jvm.RoadKit.slotOf Z "com/example/crossgrant/crossgrant/store/AuditEvent" "error" "Ljava/lang/String;" := slot_ne (Or.inr (own_w hw 67 rfl)) (Or.inr (own_w hw 63 rfl)) (by decide) (t := (.object "java/lang/String")) (t' := (.object "java/lang/String")) (by decide) (by decide)
theorem sn_5_4 {Z : State} {a0 : Array Value} (hw : ∀ d ∈ tables_1, d.before a0 Z = true) : Jvm.RoadKit.slotOf Z "com/example/crossgrant/crossgrant/store/AuditEvent" "subject" "Ljava/lang/String;" ≠ Jvm.RoadKit.slotOf Z "com/example/crossgrant/crossgrant/store/AuditEvent" "tokenJti" "Ljava/lang/String;" := slot_ne (Or.inr (own_w hw 67 rfl)) (Or.inr (own_w hw 65 rfl)) (by decide) (t := (.object "java/lang/String")) (t' := (.object "java/lang/String")) (by decide) (by decide)
theorem sn_5_6 {Z : State} {a0 : Array Value} (hw : ∀ d ∈ tables_1, d.before a0 Z = true) : Jvm.RoadKit.slotOf Z "com/example/crossgrant/crossgrant/store/AuditEvent" "subject" "Ljava/lang/String;" ≠ Jvm.RoadKit.slotOf Z "com/example/crossgrant/crossgrant/store/AuditEvent" "assertionJti" "Ljava/lang/String;" := slot_ne (Or.inr (own_w hw 67 rfl)) (Or.inr (own_w hw 69 rfl)) (by decide) (t := (.object "java/lang/String")) (t' := (.object "java/lang/String")) (by decide) (by decide)
theorem sn_6_0 {Z : State} {a0 : Array Value} (hw : ∀ d ∈ tables_1, d.before a0 Z = true) : Jvm.RoadKit.slotOf Z "com/example/crossgrant/crossgrant/store/AuditEvent" "assertionJti" "Ljava/lang/String;" ≠ Jvm.RoadKit.slotOf Z "com/example/crossgrant/crossgrant/store/AuditEvent" "type" "Lcom/example/crossgrant/crossgrant/store/AuditEvent$Type;" := slot_ne (Or.inr (own_w hw 69 rfl)) (Or.inr (own_w hw 57 rfl)) (by decide) (t := (.object "java/lang/String")) (t' := (.object "com/example/crossgrant/crossgrant/store/AuditEvent$Type")) (by decide) (by decide)
theorem sn_6_1 {Z : State} {a0 : Array Value} (hw : ∀ d ∈ tables_1, d.before a0 Z = true) : Jvm.RoadKit.slotOf Z "com/example/crossgrant/crossgrant/store/AuditEvent" "assertionJti" "Ljava/lang/String;" ≠ Jvm.RoadKit.slotOf Z "com/example/crossgrant/crossgrant/store/AuditEvent" "clientId" "Ljava/lang/String;" := slot_ne (Or.inr (own_w hw 69 rfl)) (Or.inr (own_w hw 59 rfl)) (by decide) (t := (.object "java/lang/String")) (t' := (.object "java/lang/String")) (by decide) (by decide)
theorem sn_6_2 {Z : State} {a0 : Array Value} (hw : ∀ d ∈ tables_1, d.before a0 Z = true) : Jvm.RoadKit.slotOf Z "com/example/crossgrant/crossgrant/store/AuditEvent" "assertionJti" "Ljava/lang/String;" ≠ Jvm.RoadKit.slotOf Z "com/example/crossgrant/crossgrant/store/AuditEvent" "grantType" "Ljava/lang/String;" := slot_ne (Or.inr (own_w hw 69 rfl)) (Or.inr (own_w hw 61 rfl)) (by decide) (t := (.object "java/lang/String")) (t' := (.object "java/lang/String")) (by decide) (by decide)
theorem sn_6_3 {Z : State} {a0 : Array Value} (hw : ∀ d ∈ tables_1, d.before a0 Z = true) : Jvm.RoadKit.slotOf Z "com/example/crossgrant/crossgrant/store/AuditEvent" "assertionJti" "Ljava/lang/String;" ≠ Jvm.RoadKit.slotOf Z "com/example/crossgrant/crossgrant/store/AuditEvent" "error" "Ljava/lang/String;" := slot_ne (Or.inr (own_w hw 69 rfl)) (Or.inr (own_w hw 63 rfl)) (by decide) (t := (.object "java/lang/String")) (t' := (.object "java/lang/String")) (by decide) (by decide)
theorem sn_6_4 {Z : State} {a0 : Array Value} (hw : ∀ d ∈ tables_1, d.before a0 Z = true) : Jvm.RoadKit.slotOf Z "com/example/crossgrant/crossgrant/store/AuditEvent" "assertionJti" "Ljava/lang/String;" ≠ Jvm.RoadKit.slotOf Z "com/example/crossgrant/crossgrant/store/AuditEvent" "tokenJti" "Ljava/lang/String;" := slot_ne (Or.inr (own_w hw 69 rfl)) (Or.inr (own_w hw 65 rfl)) (by decide) (t := (.object "java/lang/String")) (t' := (.object "java/lang/String")) (by decide) (by decide)
theorem sn_6_5 {Z : State} {a0 : Array Value} (hw : ∀ d ∈ tables_1, d.before a0 Z = true) : Jvm.RoadKit.slotOf Z "com/example/crossgrant/crossgrant/store/AuditEvent" "assertionJti" "Ljava/lang/String;" ≠ Jvm.RoadKit.slotOf Z "com/example/crossgrant/crossgrant/store/AuditEvent" "subject" "Ljava/lang/String;" := slot_ne (Or.inr (own_w hw 69 rfl)) (Or.inr (own_w hw 67 rfl)) (by decide) (t := (.object "java/lang/String")) (t' := (.object "java/lang/String")) (by decide) (by decide)
set_option maxRecDepth 65536 in
set_option maxHeartbeats 40000000 in
theorem ef_init (m : MethodId) (a : Addr) (tv cv jv : Value) (rt : tv.isRef = true) (rc : cv.isRef = true) (rj : jv.isRef = true) : entryFrame m #[(.ref a), tv, cv, .null, .null, .null, .null, jv] 8 = mkF m 0 #[.val (.ref a), .val tv, .val cv, .val .null, .val .null, .val .null, .val .null, .val jv] [] := by
  rcases ref_cases rt with rfl | ⟨_, rfl⟩ <;> rcases ref_cases rc with rfl | ⟨_, rfl⟩ <;> rcases ref_cases rj with rfl | ⟨_, rfl⟩ <;> first | rfl | (simp [entryFrame, mkF, argsToLocals, Value.category]; done)
set_option maxRecDepth 65536 in
set_option maxHeartbeats 40000000 in
theorem rmInit (l : Launch) (Z : State) (a0 : Array Value) (hw : ∀ d ∈ tables_1, d.before a0 Z = true) (ws : List Jvm.Cond) (a : Addr) (tv cv jv : Value) (rt : tv.isRef = true) (rc : cv.isRef = true) (rj : jv.isRef = true) (h0 : Heap) (ga : Z.heap.size ≤ a) (A0 : Exa Z h0 a "com/example/crossgrant/crossgrant/store/AuditEvent") (F00 : Fld Z h0 a "com/example/crossgrant/crossgrant/store/AuditEvent" "type" "Lcom/example/crossgrant/crossgrant/store/AuditEvent$Type;" .null) (F01 : Fld Z h0 a "com/example/crossgrant/crossgrant/store/AuditEvent" "clientId" "Ljava/lang/String;" .null) (F02 : Fld Z h0 a "com/example/crossgrant/crossgrant/store/AuditEvent" "grantType" "Ljava/lang/String;" .null) (F03 : Fld Z h0 a "com/example/crossgrant/crossgrant/store/AuditEvent" "error" "Ljava/lang/String;" .null) (F04 : Fld Z h0 a "com/example/crossgrant/crossgrant/store/AuditEvent" "tokenJti" "Ljava/lang/String;" .null) (F05 : Fld Z h0 a "com/example/crossgrant/crossgrant/store/AuditEvent" "subject" "Ljava/lang/String;" .null) (F06 : Fld Z h0 a "com/example/crossgrant/crossgrant/store/AuditEvent" "assertionJti" "Ljava/lang/String;" .null) :
    own_Met l Z (⟨"com/example/crossgrant/crossgrant/store/AuditEvent", "<init>", "(Lcom/example/crossgrant/crossgrant/store/AuditEvent$Type;Ljava/lang/String;Ljava/lang/String;Ljava/lang/String;Ljava/lang/String;Ljava/lang/String;Ljava/lang/String;)V"⟩ : MethodName) prog_5_method_1_code 8 none ws ⟨2, 0, 0, 24⟩ #[(.ref a), tv, cv, .null, .null, .null, .null, jv] h0 (fun v h L => v = none ∧ Fr Z.heap.size L ∧ Keep h0 h [a] ∧ Exa Z h a "com/example/crossgrant/crossgrant/store/AuditEvent" ∧ Fld Z h a "com/example/crossgrant/crossgrant/store/AuditEvent" "type" "Lcom/example/crossgrant/crossgrant/store/AuditEvent$Type;" tv ∧ Fld Z h a "com/example/crossgrant/crossgrant/store/AuditEvent" "clientId" "Ljava/lang/String;" cv ∧ Fld Z h a "com/example/crossgrant/crossgrant/store/AuditEvent" "grantType" "Ljava/lang/String;" .null ∧ Fld Z h a "com/example/crossgrant/crossgrant/store/AuditEvent" "error" "Ljava/lang/String;" .null ∧ Fld Z h a "com/example/crossgrant/crossgrant/store/AuditEvent" "tokenJti" "Ljava/lang/String;" .null ∧ Fld Z h a "com/example/crossgrant/crossgrant/store/AuditEvent" "subject" "Ljava/lang/String;" .null ∧ Fld Z h a "com/example/crossgrant/crossgrant/store/AuditEvent" "assertionJti" "Ljava/lang/String;" jv) := by
  refine own_enter (plainFor_of_name pn1) (fun m => ef_init m a tv cv jv rt rc rj) ?_
  intro p e s m below meth c T0 hx hby hml hZ hown hnm hret hlk X0 e0
  have N0 := Fr.nil Z.heap.size
  show own_G p e below _ (T0.setTop (mkF m 0 #[.val (.ref a), .val tv, .val cv, .val .null, .val .null, .val .null, .val .null, .val jv] []))
  refine own_step (b := T0.setTop (mkF m 1 #[.val (.ref a), .val tv, .val cv, .val .null, .val .null, .val .null, .val .null, .val jv] [(.ref a)])) (fun t k => XS.aloadN X0.here hx rfl (hb hby d10_0) rfl rfl k) ?_
  refine own_specialP (a := a) (W := 0) (argsL := []) (st := []) X0 hx hZ hown rfl (own_w hw 50 rfl) (own_w hw 51 rfl) (own_w hw 54 rfl) (by decide) e0 (rmRec l Z a0 hw [] a h0) (own_w hw 53 rfl) (by decide) (by decide) (by decide) (by decide) (by rw [hml]; rfl) (lenOf pd1 rfl) rfl (Nat.le_of_ble_eq_true rfl) (hb hby d10_1) (fun T1 X1 e1 => ?_)
  show own_G p e below _ (T1.setTop (mkF m 4 #[.val (.ref a), .val tv, .val cv, .val .null, .val .null, .val .null, .val .null, .val jv] []))
  refine own_step (b := T1.setTop (mkF m 5 #[.val (.ref a), .val tv, .val cv, .val .null, .val .null, .val .null, .val .null, .val jv] [(.ref a)])) (fun t k => XS.aloadN X1.here hx rfl (hb hby d10_4) rfl rfl k) ?_
  refine own_step (b := T1.setTop (mkF m 6 #[.val (.ref a), .val tv, .val cv, .val .null, .val .null, .val .null, .val .null, .val jv] [tv, (.ref a)])) (fun t k => XS.aloadN X1.here hx rfl (hb hby d10_5) rfl rt k) ?_
  refine own_putF X1 hx hZ hown (own_w hw 56 rfl) e1 F00 A0 (Or.inr ⟨(own_w hw 57 rfl), rfl, hnm⟩) (own_w hw 46 rfl) (ty := (.object "com/example/crossgrant/crossgrant/store/AuditEvent$Type")) (by decide) (own_narR rt) (own_fitR rt) N0 ga (hb hby d10_6) (fun T2 h2 X2 e2 N2 W2 z2 F2 E2 => ?_)
  show own_G p e below _ (T2.setTop (mkF m 9 #[.val (.ref a), .val tv, .val cv, .val .null, .val .null, .val .null, .val .null, .val jv] []))
  have KP2 := (Keep.refl h0 [a]).wr W2 (Or.inl (List.mem_singleton.mpr rfl))
  refine own_step (b := T2.setTop (mkF m 10 #[.val (.ref a), .val tv, .val cv, .val .null, .val .null, .val .null, .val .null, .val jv] [(.ref a)])) (fun t k => XS.aloadN X2.here hx rfl (hb hby d10_9) rfl rfl k) ?_
  refine own_step (b := T2.setTop (mkF m 11 #[.val (.ref a), .val tv, .val cv, .val .null, .val .null, .val .null, .val .null, .val jv] [cv, (.ref a)])) (fun t k => XS.aloadN X2.here hx rfl (hb hby d10_10) rfl rc k) ?_
  refine own_putF X2 hx hZ hown (own_w hw 58 rfl) e2 (F01.other W2 (Or.inr (sn_1_0 hw))) E2 (Or.inr ⟨(own_w hw 59 rfl), rfl, hnm⟩) (own_w hw 46 rfl) (ty := (.object "java/lang/String")) (by decide) (own_narR rc) (own_fitR rc) N2 ga (hb hby d10_11) (fun T3 h3 X3 e3 N3 W3 z3 F3 E3 => ?_)
  show own_G p e below _ (T3.setTop (mkF m 14 #[.val (.ref a), .val tv, .val cv, .val .null, .val .null, .val .null, .val .null, .val jv] []))
  have KP3 := KP2.wr W3 (Or.inl (List.mem_singleton.mpr rfl))
  refine own_step (b := T3.setTop (mkF m 15 #[.val (.ref a), .val tv, .val cv, .val .null, .val .null, .val .null, .val .null, .val jv] [(.ref a)])) (fun t k => XS.aloadN X3.here hx rfl (hb hby d10_14) rfl rfl k) ?_
  refine own_step (b := T3.setTop (mkF m 16 #[.val (.ref a), .val tv, .val cv, .val .null, .val .null, .val .null, .val .null, .val jv] [.null, (.ref a)])) (fun t k => XS.aloadN X3.here hx rfl (hb hby d10_15) rfl rfl k) ?_
  refine own_putF X3 hx hZ hown (own_w hw 60 rfl) e3 ((F02.other W2 (Or.inr (sn_2_0 hw))).other W3 (Or.inr (sn_2_1 hw))) E3 (Or.inr ⟨(own_w hw 61 rfl), rfl, hnm⟩) (own_w hw 46 rfl) (ty := (.object "java/lang/String")) (by decide) rfl rfl N3 ga (hb hby d10_16) (fun T4 h4 X4 e4 N4 W4 z4 F4 E4 => ?_)
  show own_G p e below _ (T4.setTop (mkF m 19 #[.val (.ref a), .val tv, .val cv, .val .null, .val .null, .val .null, .val .null, .val jv] []))
  have KP4 := KP3.wr W4 (Or.inl (List.mem_singleton.mpr rfl))
  refine own_step (b := T4.setTop (mkF m 20 #[.val (.ref a), .val tv, .val cv, .val .null, .val .null, .val .null, .val .null, .val jv] [(.ref a)])) (fun t k => XS.aloadN X4.here hx rfl (hb hby d10_19) rfl rfl k) ?_
  refine own_step (b := T4.setTop (mkF m 22 #[.val (.ref a), .val tv, .val cv, .val .null, .val .null, .val .null, .val .null, .val jv] [.null, (.ref a)])) (fun t k => XS.aload X4.here hx rfl (hb hby d10_20) rfl rfl k) ?_
  refine own_putF X4 hx hZ hown (own_w hw 62 rfl) e4 (((F03.other W2 (Or.inr (sn_3_0 hw))).other W3 (Or.inr (sn_3_1 hw))).other W4 (Or.inr (sn_3_2 hw))) E4 (Or.inr ⟨(own_w hw 63 rfl), rfl, hnm⟩) (own_w hw 46 rfl) (ty := (.object "java/lang/String")) (by decide) rfl rfl N4 ga (hb hby d10_22) (fun T5 h5 X5 e5 N5 W5 z5 F5 E5 => ?_)
  show own_G p e below _ (T5.setTop (mkF m 25 #[.val (.ref a), .val tv, .val cv, .val .null, .val .null, .val .null, .val .null, .val jv] []))
  have KP5 := KP4.wr W5 (Or.inl (List.mem_singleton.mpr rfl))
  refine own_step (b := T5.setTop (mkF m 26 #[.val (.ref a), .val tv, .val cv, .val .null, .val .null, .val .null, .val .null, .val jv] [(.ref a)])) (fun t k => XS.aloadN X5.here hx rfl (hb hby d10_25) rfl rfl k) ?_
  refine own_step (b := T5.setTop (mkF m 28 #[.val (.ref a), .val tv, .val cv, .val .null, .val .null, .val .null, .val .null, .val jv] [.null, (.ref a)])) (fun t k => XS.aload X5.here hx rfl (hb hby d10_26) rfl rfl k) ?_
  refine own_putF X5 hx hZ hown (own_w hw 64 rfl) e5 ((((F04.other W2 (Or.inr (sn_4_0 hw))).other W3 (Or.inr (sn_4_1 hw))).other W4 (Or.inr (sn_4_2 hw))).other W5 (Or.inr (sn_4_3 hw))) E5 (Or.inr ⟨(own_w hw 65 rfl), rfl, hnm⟩) (own_w hw 46 rfl) (ty := (.object "java/lang/String")) (by decide) rfl rfl N5 ga (hb hby d10_28) (fun T6 h6 X6 e6 N6 W6 z6 F6 E6 => ?_)
  show own_G p e below _ (T6.setTop (mkF m 31 #[.val (.ref a), .val tv, .val cv, .val .null, .val .null, .val .null, .val .null, .val jv] []))
  have KP6 := KP5.wr W6 (Or.inl (List.mem_singleton.mpr rfl))
  refine own_step (b := T6.setTop (mkF m 32 #[.val (.ref a), .val tv, .val cv, .val .null, .val .null, .val .null, .val .null, .val jv] [(.ref a)])) (fun t k => XS.aloadN X6.here hx rfl (hb hby d10_31) rfl rfl k) ?_
  refine own_step (b := T6.setTop (mkF m 34 #[.val (.ref a), .val tv, .val cv, .val .null, .val .null, .val .null, .val .null, .val jv] [.null, (.ref a)])) (fun t k => XS.aload X6.here hx rfl (hb hby d10_32) rfl rfl k) ?_
  refine own_putF X6 hx hZ hown (own_w hw 66 rfl) e6 (((((F05.other W2 (Or.inr (sn_5_0 hw))).other W3 (Or.inr (sn_5_1 hw))).other W4 (Or.inr (sn_5_2 hw))).other W5 (Or.inr (sn_5_3 hw))).other W6 (Or.inr (sn_5_4 hw))) E6 (Or.inr ⟨(own_w hw 67 rfl), rfl, hnm⟩) (own_w hw 46 rfl) (ty := (.object "java/lang/String")) (by decide) rfl rfl N6 ga (hb hby d10_34) (fun T7 h7 X7 e7 N7 W7 z7 F7 E7 => ?_)
  show own_G p e below _ (T7.setTop (mkF m 37 #[.val (.ref a), .val tv, .val cv, .val .null, .val .null, .val .null, .val .null, .val jv] []))
  have KP7 := KP6.wr W7 (Or.inl (List.mem_singleton.mpr rfl))
  refine own_step (b := T7.setTop (mkF m 38 #[.val (.ref a), .val tv, .val cv, .val .null, .val .null, .val .null, .val .null, .val jv] [(.ref a)])) (fun t k => XS.aloadN X7.here hx rfl (hb hby d10_37) rfl rfl k) ?_
  refine own_step (b := T7.setTop (mkF m 40 #[.val (.ref a), .val tv, .val cv, .val .null, .val .null, .val .null, .val .null, .val jv] [jv, (.ref a)])) (fun t k => XS.aload X7.here hx rfl (hb hby d10_38) rfl rj k) ?_
  refine own_putF X7 hx hZ hown (own_w hw 68 rfl) e7 ((((((F06.other W2 (Or.inr (sn_6_0 hw))).other W3 (Or.inr (sn_6_1 hw))).other W4 (Or.inr (sn_6_2 hw))).other W5 (Or.inr (sn_6_3 hw))).other W6 (Or.inr (sn_6_4 hw))).other W7 (Or.inr (sn_6_5 hw))) E7 (Or.inr ⟨(own_w hw 69 rfl), rfl, hnm⟩) (own_w hw 46 rfl) (ty := (.object "java/lang/String")) (by decide) (own_narR rj) (own_fitR rj) N7 ga (hb hby d10_40) (fun T8 h8 X8 e8 N8 W8 z8 F8 E8 => ?_)
  show own_G p e below _ (T8.setTop (mkF m 43 #[.val (.ref a), .val tv, .val cv, .val .null, .val .null, .val .null, .val .null, .val jv] []))
  have KP8 := KP7.wr W8 (Or.inl (List.mem_singleton.mpr rfl))
  subst e8
  exact own_retV X8 hx hret hlk (hb hby d10_43) ⟨rfl, N8, KP8, E8, ((((((F2.other W3 (Or.inr (sn_0_1 hw))).other W4 (Or.inr (sn_0_2 hw))).other W5 (Or.inr (sn_0_3 hw))).other W6 (Or.inr (sn_0_4 hw))).other W7 (Or.inr (sn_0_5 hw))).other W8 (Or.inr (sn_0_6 hw))), (((((F3.other W4 (Or.inr (sn_1_2 hw))).other W5 (Or.inr (sn_1_3 hw))).other W6 (Or.inr (sn_1_4 hw))).other W7 (Or.inr (sn_1_5 hw))).other W8 (Or.inr (sn_1_6 hw))), ((((F4.other W5 (Or.inr (sn_2_3 hw))).other W6 (Or.inr (sn_2_4 hw))).other W7 (Or.inr (sn_2_5 hw))).other W8 (Or.inr (sn_2_6 hw))), (((F5.other W6 (Or.inr (sn_3_4 hw))).other W7 (Or.inr (sn_3_5 hw))).other W8 (Or.inr (sn_3_6 hw))), ((F6.other W7 (Or.inr (sn_4_5 hw))).other W8 (Or.inr (sn_4_6 hw))), (F7.other W8 (Or.inr (sn_5_6 hw))), F8⟩ (by decide) (by decide)
set_option maxRecDepth 65536 in
set_option maxHeartbeats 40000000 in
theorem ef_reg (m : MethodId) (tv cv jv : Value) (rt : tv.isRef = true) (rc : cv.isRef = true) (rj : jv.isRef = true) : entryFrame m #[tv, cv, jv] 3 = mkF m 0 #[.val tv, .val cv, .val jv] [] := by
  rcases ref_cases rt with rfl | ⟨_, rfl⟩ <;> rcases ref_cases rc with rfl | ⟨_, rfl⟩ <;> rcases ref_cases rj with rfl | ⟨_, rfl⟩ <;> first | rfl | (simp [entryFrame, mkF, argsToLocals, Value.category]; done)
set_option maxRecDepth 65536 in
set_option maxHeartbeats 40000000 in
theorem rmReg (l : Launch) (Z : State) (a0 : Array Value) (hw : ∀ d ∈ tables_1, d.before a0 Z = true) (ws : List Jvm.Cond) (tv cv jv : Value) (rt : tv.isRef = true) (rc : cv.isRef = true) (rj : jv.isRef = true) (h0 : Heap) (OL0 : Old Z Z.heap.size h0) :
    own_Met l Z (⟨"com/example/crossgrant/crossgrant/store/AuditEvent", "registration", "(Lcom/example/crossgrant/crossgrant/store/AuditEvent$Type;Ljava/lang/String;Ljava/lang/String;)Lcom/example/crossgrant/crossgrant/store/AuditEvent;"⟩ : MethodName) prog_5_method_4_code 3 (some (.object "com/example/crossgrant/crossgrant/store/AuditEvent")) ws ⟨3, 1, 7, 44⟩ #[tv, cv, jv] h0 (fun v h L => ∃ a, v = some (.ref a) ∧ Fr Z.heap.size L ∧ Ext h0 h ∧ Exa Z h a "com/example/crossgrant/crossgrant/store/AuditEvent" ∧ Fld Z h a "com/example/crossgrant/crossgrant/store/AuditEvent" "type" "Lcom/example/crossgrant/crossgrant/store/AuditEvent$Type;" tv ∧ Fld Z h a "com/example/crossgrant/crossgrant/store/AuditEvent" "clientId" "Ljava/lang/String;" cv ∧ Fld Z h a "com/example/crossgrant/crossgrant/store/AuditEvent" "grantType" "Ljava/lang/String;" .null ∧ Fld Z h a "com/example/crossgrant/crossgrant/store/AuditEvent" "error" "Ljava/lang/String;" .null ∧ Fld Z h a "com/example/crossgrant/crossgrant/store/AuditEvent" "tokenJti" "Ljava/lang/String;" .null ∧ Fld Z h a "com/example/crossgrant/crossgrant/store/AuditEvent" "subject" "Ljava/lang/String;" .null ∧ Fld Z h a "com/example/crossgrant/crossgrant/store/AuditEvent" "assertionJti" "Ljava/lang/String;" jv) := by
  refine own_enter (plainFor_of_name pn1) (fun m => ef_reg m tv cv jv rt rc rj) ?_
  intro p e s m below meth c T0 hx hby hml hZ hown hnm hret hlk X0 e0
  have zz0 : Z.heap.size ≤ h0.size := OL0.2.1
  have N0 := Fr.nil Z.heap.size
  show own_G p e below _ (T0.setTop (mkF m 0 #[.val tv, .val cv, .val jv] []))
  refine own_newO X0 hx hZ hown (own_w hw 45 rfl) (own_w hw 46 rfl) (own_w hw 43 rfl) e0 (hb hby d9_0) (by decide) (by decide) (fun T1 h1 a1 X1 e1 g1 l1 E1 A1 D1 => ?_)
  show own_G p e below _ (T1.setTop (mkF m 3 #[.val tv, .val cv, .val jv] [(.ref a1)]))
  refine own_step (b := T1.setTop (mkF m 4 #[.val tv, .val cv, .val jv] [(.ref a1), (.ref a1)])) (fun t k => XS.dup X1.here hx rfl (hb hby d9_3) rfl rfl k) ?_
  refine own_step (b := T1.setTop (mkF m 5 #[.val tv, .val cv, .val jv] [tv, (.ref a1), (.ref a1)])) (fun t k => XS.aloadN X1.here hx rfl (hb hby d9_4) rfl rt k) ?_
  refine own_step (b := T1.setTop (mkF m 6 #[.val tv, .val cv, .val jv] [cv, tv, (.ref a1), (.ref a1)])) (fun t k => XS.aloadN X1.here hx rfl (hb hby d9_5) rfl rc k) ?_
  refine own_step (b := T1.setTop (mkF m 7 #[.val tv, .val cv, .val jv] [.null, cv, tv, (.ref a1), (.ref a1)])) (fun t k => XS.aconstNull X1.here hx rfl (hb hby d9_6) k) ?_
  refine own_step (b := T1.setTop (mkF m 8 #[.val tv, .val cv, .val jv] [.null, .null, cv, tv, (.ref a1), (.ref a1)])) (fun t k => XS.aconstNull X1.here hx rfl (hb hby d9_7) k) ?_
  refine own_step (b := T1.setTop (mkF m 9 #[.val tv, .val cv, .val jv] [.null, .null, .null, cv, tv, (.ref a1), (.ref a1)])) (fun t k => XS.aconstNull X1.here hx rfl (hb hby d9_8) k) ?_
  refine own_step (b := T1.setTop (mkF m 10 #[.val tv, .val cv, .val jv] [.null, .null, .null, .null, cv, tv, (.ref a1), (.ref a1)])) (fun t k => XS.aconstNull X1.here hx rfl (hb hby d9_9) k) ?_
  refine own_step (b := T1.setTop (mkF m 11 #[.val tv, .val cv, .val jv] [jv, .null, .null, .null, .null, cv, tv, (.ref a1), (.ref a1)])) (fun t k => XS.aloadN X1.here hx rfl (hb hby d9_10) rfl rj k) ?_
  refine own_special (a := a1) (W := 1) (argsL := [tv, cv, .null, .null, .null, .null, jv]) (st := [(.ref a1)]) X1 hx hZ hown rfl (own_w hw 47 rfl) (own_w hw 48 rfl) (own_w hw 49 rfl) (by decide) e1 (own_back (W := 1) (rmInit l Z a0 hw [] a1 tv cv jv rt rc rj h1 (by omega) A1 (D1 (Or.inr (own_w hw 57 rfl)) (ty := (.object "com/example/crossgrant/crossgrant/store/AuditEvent$Type")) (by decide)) (D1 (Or.inr (own_w hw 59 rfl)) (ty := (.object "java/lang/String")) (by decide)) (D1 (Or.inr (own_w hw 61 rfl)) (ty := (.object "java/lang/String")) (by decide)) (D1 (Or.inr (own_w hw 63 rfl)) (ty := (.object "java/lang/String")) (by decide)) (D1 (Or.inr (own_w hw 65 rfl)) (ty := (.object "java/lang/String")) (by decide)) (D1 (Or.inr (own_w hw 67 rfl)) (ty := (.object "java/lang/String")) (by decide)) (D1 (Or.inr (own_w hw 69 rfl)) (ty := (.object "java/lang/String")) (by decide))) hZ (own_w hw 49 rfl) (own_w hw 43 rfl) (by decide) (by decide)) (by decide) (by decide) (by rw [hml]; rfl) (lenOf pd2 rfl) rfl (Nat.le_of_ble_eq_true rfl) (hb hby d9_11) (fun v2 T2 L2 X2 hQ2 => ?_)
  obtain ⟨rfl, M2, K2, A2, F20, F21, F22, F23, F24, F25, F26⟩ := hQ2
  have N2 := Fr.app N0 M2
  show own_G p e below _ (T2.setTop (mkF m 14 #[.val tv, .val cv, .val jv] [(.ref a1)]))
  exact own_retR X2 hx hret rfl rfl rfl hlk (hb hby d9_14) ⟨_, rfl, N2, own_ext (((Keep.refl h0 []).ext E1).trans K2 (allS (Or.inr (by omega)) all0)), A2, F20, F21, F22, F23, F24, F25, F26⟩ (by decide) (by decide)
set_option maxRecDepth 65536 in
set_option maxHeartbeats 40000000 in
theorem rmGet0 (l : Launch) (Z : State) (a0 : Array Value) (hw : ∀ d ∈ tables_1, d.before a0 Z = true) (ws : List Jvm.Cond) (a : Addr) (v : Value) (rv : v.isRef = true) (h0 : Heap) (Fd : Fld Z h0 a "com/example/crossgrant/crossgrant/store/AuditEvent" "type" "Lcom/example/crossgrant/crossgrant/store/AuditEvent$Type;" v) :
    own_Met l Z (⟨"com/example/crossgrant/crossgrant/store/AuditEvent", "type", "()Lcom/example/crossgrant/crossgrant/store/AuditEvent$Type;"⟩ : MethodName) prog_5_method_9_code 1 (some (.object "com/example/crossgrant/crossgrant/store/AuditEvent$Type")) ws ⟨0, 0, 0, 0⟩ #[(.ref a)] h0 (own_P (some v) h0) := by
  refine own_enter (plainFor_of_name pn1) (fun m => ef_rec m a) ?_
  intro p e s m below meth c T0 hx hby hml hZ hown hnm hret hlk X0 e0
  show own_G p e below _ (T0.setTop (mkF m 0 #[.val (.ref a)] []))
  refine own_step (b := T0.setTop (mkF m 1 #[.val (.ref a)] [(.ref a)])) (fun t k => XS.aloadN X0.here hx rfl (hb hby d12_0) rfl rfl k) ?_
  refine own_getF X0 hx hZ hown (own_w hw 56 rfl) e0 Fd (hb hby d12_1) (fun T1 X1 e1 => ?_)
  show own_G p e below _ (T1.setTop (mkF m 4 #[.val (.ref a)] [v]))
  exact own_retR X1 hx hret rfl (own_narR rv) rv hlk (hb hby d12_4) ⟨rfl, rfl, e1⟩ (by decide) (by decide)
set_option maxRecDepth 65536 in
set_option maxHeartbeats 40000000 in
theorem rmGet1 (l : Launch) (Z : State) (a0 : Array Value) (hw : ∀ d ∈ tables_1, d.before a0 Z = true) (ws : List Jvm.Cond) (a : Addr) (v : Value) (rv : v.isRef = true) (h0 : Heap) (Fd : Fld Z h0 a "com/example/crossgrant/crossgrant/store/AuditEvent" "clientId" "Ljava/lang/String;" v) :
    own_Met l Z (⟨"com/example/crossgrant/crossgrant/store/AuditEvent", "clientId", "()Ljava/lang/String;"⟩ : MethodName) prog_5_method_10_code 1 (some (.object "java/lang/String")) ws ⟨0, 0, 0, 0⟩ #[(.ref a)] h0 (own_P (some v) h0) := by
  refine own_enter (plainFor_of_name pn1) (fun m => ef_rec m a) ?_
  intro p e s m below meth c T0 hx hby hml hZ hown hnm hret hlk X0 e0
  show own_G p e below _ (T0.setTop (mkF m 0 #[.val (.ref a)] []))
  refine own_step (b := T0.setTop (mkF m 1 #[.val (.ref a)] [(.ref a)])) (fun t k => XS.aloadN X0.here hx rfl (hb hby d13_0) rfl rfl k) ?_
  refine own_getF X0 hx hZ hown (own_w hw 58 rfl) e0 Fd (hb hby d13_1) (fun T1 X1 e1 => ?_)
  show own_G p e below _ (T1.setTop (mkF m 4 #[.val (.ref a)] [v]))
  exact own_retR X1 hx hret rfl (own_narR rv) rv hlk (hb hby d13_4) ⟨rfl, rfl, e1⟩ (by decide) (by decide)
set_option maxRecDepth 65536 in
set_option maxHeartbeats 40000000 in
theorem rmGet2 (l : Launch) (Z : State) (a0 : Array Value) (hw : ∀ d ∈ tables_1, d.before a0 Z = true) (ws : List Jvm.Cond) (a : Addr) (v : Value) (rv : v.isRef = true) (h0 : Heap) (Fd : Fld Z h0 a "com/example/crossgrant/crossgrant/store/AuditEvent" "grantType" "Ljava/lang/String;" v) :
    own_Met l Z (⟨"com/example/crossgrant/crossgrant/store/AuditEvent", "grantType", "()Ljava/lang/String;"⟩ : MethodName) prog_5_method_11_code 1 (some (.object "java/lang/String")) ws ⟨0, 0, 0, 0⟩ #[(.ref a)] h0 (own_P (some v) h0) := by
  refine own_enter (plainFor_of_name pn1) (fun m => ef_rec m a) ?_
  intro p e s m below meth c T0 hx hby hml hZ hown hnm hret hlk X0 e0
  show own_G p e below _ (T0.setTop (mkF m 0 #[.val (.ref a)] []))
  refine own_step (b := T0.setTop (mkF m 1 #[.val (.ref a)] [(.ref a)])) (fun t k => XS.aloadN X0.here hx rfl (hb hby d14_0) rfl rfl k) ?_
  refine own_getF X0 hx hZ hown (own_w hw 60 rfl) e0 Fd (hb hby d14_1) (fun T1 X1 e1 => ?_)
  show own_G p e below _ (T1.setTop (mkF m 4 #[.val (.ref a)] [v]))
  exact own_retR X1 hx hret rfl (own_narR rv) rv hlk (hb hby d14_4) ⟨rfl, rfl, e1⟩ (by decide) (by decide)
set_option maxRecDepth 65536 in
set_option maxHeartbeats 40000000 in
theorem rmGet3 (l : Launch) (Z : State) (a0 : Array Value) (hw : ∀ d ∈ tables_1, d.before a0 Z = true) (ws : List Jvm.Cond) (a : Addr) (v : Value) (rv : v.isRef = true) (h0 : Heap) (Fd : Fld Z h0 a "com/example/crossgrant/crossgrant/store/AuditEvent" "error" "Ljava/lang/String;" v) :
    own_Met l Z (⟨"com/example/crossgrant/crossgrant/store/AuditEvent", "error", "()Ljava/lang/String;"⟩ : MethodName) prog_5_method_12_code 1 (some (.object "java/lang/String")) ws ⟨0, 0, 0, 0⟩ #[(.ref a)] h0 (own_P (some v) h0) := by
  refine own_enter (plainFor_of_name pn1) (fun m => ef_rec m a) ?_
  intro p e s m below meth c T0 hx hby hml hZ hown hnm hret hlk X0 e0
  show own_G p e below _ (T0.setTop (mkF m 0 #[.val (.ref a)] []))
  refine own_step (b := T0.setTop (mkF m 1 #[.val (.ref a)] [(.ref a)])) (fun t k => XS.aloadN X0.here hx rfl (hb hby d15_0) rfl rfl k) ?_
  refine own_getF X0 hx hZ hown (own_w hw 62 rfl) e0 Fd (hb hby d15_1) (fun T1 X1 e1 => ?_)
  show own_G p e below _ (T1.setTop (mkF m 4 #[.val (.ref a)] [v]))
  exact own_retR X1 hx hret rfl (own_narR rv) rv hlk (hb hby d15_4) ⟨rfl, rfl, e1⟩ (by decide) (by decide)
set_option maxRecDepth 65536 in
set_option maxHeartbeats 40000000 in
theorem rmGet4 (l : Launch) (Z : State) (a0 : Array Value) (hw : ∀ d ∈ tables_1, d.before a0 Z = true) (ws : List Jvm.Cond) (a : Addr) (v : Value) (rv : v.isRef = true) (h0 : Heap) (Fd : Fld Z h0 a "com/example/crossgrant/crossgrant/store/AuditEvent" "tokenJti" "Ljava/lang/String;" v) :
    own_Met l Z (⟨"com/example/crossgrant/crossgrant/store/AuditEvent", "tokenJti", "()Ljava/lang/String;"⟩ : MethodName) prog_5_method_13_code 1 (some (.object "java/lang/String")) ws ⟨0, 0, 0, 0⟩ #[(.ref a)] h0 (own_P (some v) h0) := by
  refine own_enter (plainFor_of_name pn1) (fun m => ef_rec m a) ?_
  intro p e s m below meth c T0 hx hby hml hZ hown hnm hret hlk X0 e0
  show own_G p e below _ (T0.setTop (mkF m 0 #[.val (.ref a)] []))
  refine own_step (b := T0.setTop (mkF m 1 #[.val (.ref a)] [(.ref a)])) (fun t k => XS.aloadN X0.here hx rfl (hb hby d16_0) rfl rfl k) ?_
  refine own_getF X0 hx hZ hown (own_w hw 64 rfl) e0 Fd (hb hby d16_1) (fun T1 X1 e1 => ?_)
  show own_G p e below _ (T1.setTop (mkF m 4 #[.val (.ref a)] [v]))
  exact own_retR X1 hx hret rfl (own_narR rv) rv hlk (hb hby d16_4) ⟨rfl, rfl, e1⟩ (by decide) (by decide)
set_option maxRecDepth 65536 in
set_option maxHeartbeats 40000000 in
theorem rmGet5 (l : Launch) (Z : State) (a0 : Array Value) (hw : ∀ d ∈ tables_1, d.before a0 Z = true) (ws : List Jvm.Cond) (a : Addr) (v : Value) (rv : v.isRef = true) (h0 : Heap) (Fd : Fld Z h0 a "com/example/crossgrant/crossgrant/store/AuditEvent" "subject" "Ljava/lang/String;" v) :
    own_Met l Z (⟨"com/example/crossgrant/crossgrant/store/AuditEvent", "subject", "()Ljava/lang/String;"⟩ : MethodName) prog_5_method_14_code 1 (some (.object "java/lang/String")) ws ⟨0, 0, 0, 0⟩ #[(.ref a)] h0 (own_P (some v) h0) := by
  refine own_enter (plainFor_of_name pn1) (fun m => ef_rec m a) ?_
  intro p e s m below meth c T0 hx hby hml hZ hown hnm hret hlk X0 e0
  show own_G p e below _ (T0.setTop (mkF m 0 #[.val (.ref a)] []))
  refine own_step (b := T0.setTop (mkF m 1 #[.val (.ref a)] [(.ref a)])) (fun t k => XS.aloadN X0.here hx rfl (hb hby d17_0) rfl rfl k) ?_
  refine own_getF X0 hx hZ hown (own_w hw 66 rfl) e0 Fd (hb hby d17_1) (fun T1 X1 e1 => ?_)
  show own_G p e below _ (T1.setTop (mkF m 4 #[.val (.ref a)] [v]))
  exact own_retR X1 hx hret rfl (own_narR rv) rv hlk (hb hby d17_4) ⟨rfl, rfl, e1⟩ (by decide) (by decide)
set_option maxRecDepth 65536 in
set_option maxHeartbeats 40000000 in
theorem rmGet6 (l : Launch) (Z : State) (a0 : Array Value) (hw : ∀ d ∈ tables_1, d.before a0 Z = true) (ws : List Jvm.Cond) (a : Addr) (v : Value) (rv : v.isRef = true) (h0 : Heap) (Fd : Fld Z h0 a "com/example/crossgrant/crossgrant/store/AuditEvent" "assertionJti" "Ljava/lang/String;" v) :
    own_Met l Z (⟨"com/example/crossgrant/crossgrant/store/AuditEvent", "assertionJti", "()Ljava/lang/String;"⟩ : MethodName) prog_5_method_15_code 1 (some (.object "java/lang/String")) ws ⟨0, 0, 0, 0⟩ #[(.ref a)] h0 (own_P (some v) h0) := by
  refine own_enter (plainFor_of_name pn1) (fun m => ef_rec m a) ?_
  intro p e s m below meth c T0 hx hby hml hZ hown hnm hret hlk X0 e0
  show own_G p e below _ (T0.setTop (mkF m 0 #[.val (.ref a)] []))
  refine own_step (b := T0.setTop (mkF m 1 #[.val (.ref a)] [(.ref a)])) (fun t k => XS.aloadN X0.here hx rfl (hb hby d18_0) rfl rfl k) ?_
  refine own_getF X0 hx hZ hown (own_w hw 68 rfl) e0 Fd (hb hby d18_1) (fun T1 X1 e1 => ?_)
  show own_G p e below _ (T1.setTop (mkF m 4 #[.val (.ref a)] [v]))
  exact own_retR X1 hx hret rfl (own_narR rv) rv hlk (hb hby d18_4) ⟨rfl, rfl, e1⟩ (by decide) (by decide)
theorem ef_0 (m : MethodId) (p0 p1 p2 p3 : Int32) : entryFrame m #[(.int p0), (.int p1), (.int p2), (.int p3)] maxLocals = mkF m 0 #[.val (.int p0), .val (.int p1), .val (.int p2), .val (.int p3), .unset, .unset, .unset, .unset] [] := by first | (simp [entryFrame, mkF, argsToLocals, Value.category, maxLocals]; done) | rfl
set_option maxRecDepth 65536 in
set_option maxHeartbeats 40000000 in
theorem rm0 (l : Launch) (Z : State) (a0 : Array Value) (hw : ∀ d ∈ tables_1, d.before a0 Z = true) (ws : List Jvm.Cond) (p0 p1 p2 p3 : Int32) (h0 : Heap) (G1 : Int32) (O2 : Sta Z Z.heap "java/lang/String" "COMPACT_STRINGS" "Z" (.int G1)) (P5 : ¬ (G1 = (0 : Int32))) (OL0 : Old Z Z.heap.size h0) (s0 s1 s2 s3 s4 s5 : Value) (S0 : Sta Z Z.heap "com/example/crossgrant/crossgrant/store/AuditEvent$Type" "TOKEN_GRANTED" "Lcom/example/crossgrant/crossgrant/store/AuditEvent$Type;" s0) (r0 : s0.isRef = true) (S1 : Sta Z Z.heap "com/example/crossgrant/crossgrant/store/AuditEvent$Type" "TOKEN_REFUSED" "Lcom/example/crossgrant/crossgrant/store/AuditEvent$Type;" s1) (r1 : s1.isRef = true) (S2 : Sta Z Z.heap "com/example/crossgrant/crossgrant/store/AuditEvent$Type" "CLIENT_REGISTERED" "Lcom/example/crossgrant/crossgrant/store/AuditEvent$Type;" s2) (r2 : s2.isRef = true) (S3 : Sta Z Z.heap "com/example/crossgrant/crossgrant/store/AuditEvent$Type" "REGISTRATION_CHANGED" "Lcom/example/crossgrant/crossgrant/store/AuditEvent$Type;" s3) (r3 : s3.isRef = true) (S4 : Sta Z Z.heap "com/example/crossgrant/crossgrant/store/AuditEvent$Type" "REGISTRATION_CANCELLED" "Lcom/example/crossgrant/crossgrant/store/AuditEvent$Type;" s4) (r4 : s4.isRef = true) (S5 : Sta Z Z.heap "com/example/crossgrant/crossgrant/store/AuditEvent$Type" "REGISTRATION_REFUSED" "Lcom/example/crossgrant/crossgrant/store/AuditEvent$Type;" s5) (r5 : s5.isRef = true) :
    own_Met l Z x code maxLocals ret ws room_1 #[(.int p0), (.int p1), (.int p2), (.int p3)] h0 (fun v h L => v = some (.int 1) ∧ Fr Z.heap.size L) := by
  refine own_enter (plainFor_of_name pn0) (fun m => ef_0 m p0 p1 p2 p3) ?_
  intro p e s m below meth c T0 hx hby hml hZ hown hnm hret hlk X0 e0
  have zz0 : Z.heap.size ≤ h0.size := OL0.2.1
  have N0 := Fr.nil Z.heap.size
  show own_G p e below _ (T0.setTop (mkF m 0 #[.val (.int p0), .val (.int p1), .val (.int p2), .val (.int p3), .unset, .unset, .unset, .unset] []))
  refine own_step (b := T0.setTop (mkF m 1 #[.val (.int p0), .val (.int p1), .val (.int p2), .val (.int p3), .unset, .unset, .unset, .unset] [(.int p0)])) (fun t k => XS.iloadN X0.here hx rfl (hb hby at_0) rfl k) ?_
  refine own_static (W := 0) (argsL := [(.int p0)]) (st := []) X0 hx hZ hown (own_w hw 0 rfl) (own_w hw 1 rfl) (own_w hw 2 rfl) (own_w hw 3 rfl) (by decide) e0 (own_back (W := 0) (rmPick l Z a0 hw [] p0 h0 OL0 s0 s1 s2 s3 s4 s5 S0 r0 S1 r1 S2 r2 S3 r3 S4 r4 S5 r5) hZ (own_w hw 3 rfl) (own_w hw 2 rfl) (by decide) (by decide)) (by decide) (by decide) (by rw [hml]; rfl) (lenOf pd3 rfl) rfl (Nat.le_of_ble_eq_true rfl) (hb hby at_1) (fun v1 T1 L1 X1 hQ1 => ?_)
  obtain ⟨tv, rfl, rt, rfl, hh1⟩ := hQ1
  rw [List.append_nil] at X1
  show own_G p e below _ (T1.setTop (mkF m 4 #[.val (.int p0), .val (.int p1), .val (.int p2), .val (.int p3), .unset, .unset, .unset, .unset] [tv]))
  refine own_step (b := T1.setTop (mkF m 6 #[.val (.int p0), .val (.int p1), .val (.int p2), .val (.int p3), .val tv, .unset, .unset, .unset] [])) (fun t k => XS.astore X1.here hx rfl (hb hby at_4) rfl rt (l' := #[.val (.int p0), .val (.int p1), .val (.int p2), .val (.int p3), .val tv, .unset, .unset, .unset]) (XS.store1 rfl (Or.inl rfl) (own_cat rt)) k) ?_
  refine own_step (b := T1.setTop (mkF m 7 #[.val (.int p0), .val (.int p1), .val (.int p2), .val (.int p3), .val tv, .unset, .unset, .unset] [(.int p1)])) (fun t k => XS.iloadN X1.here hx rfl (hb hby at_6) rfl k) ?_
  refine own_step (b := T1.setTop (mkF m 8 #[.val (.int p0), .val (.int p1), .val (.int p2), .val (.int p3), .val tv, .unset, .unset, .unset] [(.int p3), (.int p1)])) (fun t k => XS.iloadN X1.here hx rfl (hb hby at_7) rfl k) ?_
  refine own_step (b := T1.setTop (mkF m 9 #[.val (.int p0), .val (.int p1), .val (.int p2), .val (.int p3), .val tv, .unset, .unset, .unset] [(.int (1 : Int32)), (.int p3), (.int p1)])) (fun t k => XS.iconst X1.here hx rfl (hb hby at_8) k) ?_
  refine own_step (b := T1.setTop (mkF m 10 #[.val (.int p0), .val (.int p1), .val (.int p2), .val (.int p3), .val tv, .unset, .unset, .unset] [(.int (p3 &&& (1 : Int32))), (.int p1)])) (fun t k => XS.iand X1.here hx rfl (hb hby at_9) rfl k) ?_
  have J18 : ∀ za : Int32, own_G p e below (own_F s (fun v h L => v = some (.int 1) ∧ Fr Z.heap.size L) room_1.cells room_1.slots) (T1.setTop (mkF m 18 #[.val (.int p0), .val (.int p1), .val (.int p2), .val (.int p3), .val tv, .unset, .unset, .unset] [(.int za), (.int p1)])) := by
    intro za
    show own_G p e below _ (T1.setTop (mkF m 18 #[.val (.int p0), .val (.int p1), .val (.int p2), .val (.int p3), .val tv, .unset, .unset, .unset] [(.int za), (.int p1)]))
    refine own_static (W := 0) (argsL := [(.int p1), (.int za)]) (st := []) X1 hx hZ hown (own_w hw 8 rfl) (own_w hw 9 rfl) (own_w hw 2 rfl) (own_w hw 10 rfl) (by decide) hh1 (own_back (W := 0) (rmDrawn l Z a0 hw [] p1 za h0 G1 O2 P5 OL0) hZ (own_w hw 10 rfl) (own_w hw 2 rfl) (by decide) (by decide)) (by decide) (by decide) (by rw [hml]; rfl) (lenOf pd4 rfl) rfl (Nat.le_of_ble_eq_true rfl) (hb hby at_18) (fun v2 T2 L2 X2 hQ2 => ?_)
    obtain ⟨cv, rfl, rcv, M2, E2⟩ := hQ2
    have z2 : h0.size ≤ T2.heap.size := E2.1
    have N2 := Fr.app N0 M2
    have OL2 := OL0.ext E2
    show own_G p e below _ (T2.setTop (mkF m 21 #[.val (.int p0), .val (.int p1), .val (.int p2), .val (.int p3), .val tv, .unset, .unset, .unset] [cv]))
    refine own_step (b := T2.setTop (mkF m 23 #[.val (.int p0), .val (.int p1), .val (.int p2), .val (.int p3), .val tv, .val cv, .unset, .unset] [])) (fun t k => XS.astore X2.here hx rfl (hb hby at_21) rfl rcv (l' := #[.val (.int p0), .val (.int p1), .val (.int p2), .val (.int p3), .val tv, .val cv, .unset, .unset]) (XS.store1 rfl (Or.inl rfl) (own_cat rcv)) k) ?_
    refine own_step (b := T2.setTop (mkF m 24 #[.val (.int p0), .val (.int p1), .val (.int p2), .val (.int p3), .val tv, .val cv, .unset, .unset] [(.int p2)])) (fun t k => XS.iloadN X2.here hx rfl (hb hby at_23) rfl k) ?_
    refine own_step (b := T2.setTop (mkF m 25 #[.val (.int p0), .val (.int p1), .val (.int p2), .val (.int p3), .val tv, .val cv, .unset, .unset] [(.int p3), (.int p2)])) (fun t k => XS.iloadN X2.here hx rfl (hb hby at_24) rfl k) ?_
    refine own_step (b := T2.setTop (mkF m 26 #[.val (.int p0), .val (.int p1), .val (.int p2), .val (.int p3), .val tv, .val cv, .unset, .unset] [(.int (2 : Int32)), (.int p3), (.int p2)])) (fun t k => XS.iconst X2.here hx rfl (hb hby at_25) k) ?_
    refine own_step (b := T2.setTop (mkF m 27 #[.val (.int p0), .val (.int p1), .val (.int p2), .val (.int p3), .val tv, .val cv, .unset, .unset] [(.int (p3 &&& (2 : Int32))), (.int p2)])) (fun t k => XS.iand X2.here hx rfl (hb hby at_26) rfl k) ?_
    have J35 : ∀ zb : Int32, own_G p e below (own_F s (fun v h L => v = some (.int 1) ∧ Fr Z.heap.size L) room_1.cells room_1.slots) (T2.setTop (mkF m 35 #[.val (.int p0), .val (.int p1), .val (.int p2), .val (.int p3), .val tv, .val cv, .unset, .unset] [(.int zb), (.int p2)])) := by
      intro zb
      show own_G p e below _ (T2.setTop (mkF m 35 #[.val (.int p0), .val (.int p1), .val (.int p2), .val (.int p3), .val tv, .val cv, .unset, .unset] [(.int zb), (.int p2)]))
      refine own_static (W := 0) (argsL := [(.int p2), (.int zb)]) (st := []) X2 hx hZ hown (own_w hw 8 rfl) (own_w hw 9 rfl) (own_w hw 2 rfl) (own_w hw 10 rfl) (by decide) rfl (own_back (W := 0) (rmDrawn l Z a0 hw [] p2 zb T2.heap G1 O2 P5 OL2) hZ (own_w hw 10 rfl) (own_w hw 2 rfl) (by decide) (by decide)) (by decide) (by decide) (by rw [hml]; rfl) (lenOf pd4 rfl) rfl (Nat.le_of_ble_eq_true rfl) (hb hby at_35) (fun v3 T3 L3 X3 hQ3 => ?_)
      obtain ⟨jv, rfl, rjv, M3, E3⟩ := hQ3
      have z3 : T2.heap.size ≤ T3.heap.size := E3.1
      have N3 := Fr.app N2 M3
      have OL3 := OL2.ext E3
      show own_G p e below _ (T3.setTop (mkF m 38 #[.val (.int p0), .val (.int p1), .val (.int p2), .val (.int p3), .val tv, .val cv, .unset, .unset] [jv]))
      refine own_step (b := T3.setTop (mkF m 40 #[.val (.int p0), .val (.int p1), .val (.int p2), .val (.int p3), .val tv, .val cv, .val jv, .unset] [])) (fun t k => XS.astore X3.here hx rfl (hb hby at_38) rfl rjv (l' := #[.val (.int p0), .val (.int p1), .val (.int p2), .val (.int p3), .val tv, .val cv, .val jv, .unset]) (XS.store1 rfl (Or.inl rfl) (own_cat rjv)) k) ?_
      refine own_step (b := T3.setTop (mkF m 42 #[.val (.int p0), .val (.int p1), .val (.int p2), .val (.int p3), .val tv, .val cv, .val jv, .unset] [tv])) (fun t k => XS.aload X3.here hx rfl (hb hby at_40) rfl rt k) ?_
      refine own_step (b := T3.setTop (mkF m 44 #[.val (.int p0), .val (.int p1), .val (.int p2), .val (.int p3), .val tv, .val cv, .val jv, .unset] [cv, tv])) (fun t k => XS.aload X3.here hx rfl (hb hby at_42) rfl rcv k) ?_
      refine own_step (b := T3.setTop (mkF m 46 #[.val (.int p0), .val (.int p1), .val (.int p2), .val (.int p3), .val tv, .val cv, .val jv, .unset] [jv, cv, tv])) (fun t k => XS.aload X3.here hx rfl (hb hby at_44) rfl rjv k) ?_
      refine own_static (W := 0) (argsL := [tv, cv, jv]) (st := []) X3 hx hZ hown (own_w hw 41 rfl) (own_w hw 42 rfl) (own_w hw 43 rfl) (own_w hw 44 rfl) (by decide) rfl (own_back (W := 0) (rmReg l Z a0 hw [] tv cv jv rt rcv rjv T3.heap OL3) hZ (own_w hw 44 rfl) (own_w hw 43 rfl) (by decide) (by decide)) (by decide) (by decide) (by rw [hml]; rfl) (lenOf pd5 rfl) rfl (Nat.le_of_ble_eq_true rfl) (hb hby at_46) (fun v4 T4 L4 X4 hQ4 => ?_)
      obtain ⟨ae, rfl, M4, E4, A4, F40, F41, F42, F43, F44, F45, F46⟩ := hQ4
      have N4 := Fr.app N3 M4
      show own_G p e below _ (T4.setTop (mkF m 49 #[.val (.int p0), .val (.int p1), .val (.int p2), .val (.int p3), .val tv, .val cv, .val jv, .unset] [(.ref ae)]))
      refine own_step (b := T4.setTop (mkF m 51 #[.val (.int p0), .val (.int p1), .val (.int p2), .val (.int p3), .val tv, .val cv, .val jv, .val (.ref ae)] [])) (fun t k => XS.astore X4.here hx rfl (hb hby at_49) rfl rfl (l' := #[.val (.int p0), .val (.int p1), .val (.int p2), .val (.int p3), .val tv, .val cv, .val jv, .val (.ref ae)]) rfl k) ?_
      refine own_step (b := T4.setTop (mkF m 53 #[.val (.int p0), .val (.int p1), .val (.int p2), .val (.int p3), .val tv, .val cv, .val jv, .val (.ref ae)] [(.ref ae)])) (fun t k => XS.aload X4.here hx rfl (hb hby at_51) rfl rfl k) ?_
      refine own_step (b := T4.setTop (mkF m 58 #[.val (.int p0), .val (.int p1), .val (.int p2), .val (.int p3), .val tv, .val cv, .val jv, .val (.ref ae)] [])) (fun t k => XT.ifnonnullYes X4.here hx rfl (pc0 := 53) (pc' := 58) rfl (hb hby at_53) rfl (by decide) (by decide) k) ?_
      refine own_step (b := T4.setTop (mkF m 60 #[.val (.int p0), .val (.int p1), .val (.int p2), .val (.int p3), .val tv, .val cv, .val jv, .val (.ref ae)] [(.ref ae)])) (fun t k => XS.aload X4.here hx rfl (hb hby at_58) rfl rfl k) ?_
      refine own_virtualP (a := ae) (W := 0) (argsL := []) (st := []) X4 hx hZ hown (own_w hw 70 rfl) (own_w hw 71 rfl) (own_w hw 73 rfl) rfl (own_w hw 72 rfl) (by decide) rfl A4 (rmGet0 l Z a0 hw [] ae tv rt T4.heap F40) (own_w hw 74 rfl) (own_w hw 43 rfl) (by decide) (by decide) (by decide) (by decide) (by rw [hml]; rfl) (lenOf pd6 rfl) rfl (Nat.le_of_ble_eq_true rfl) (hb hby at_60) (fun T5 X5 e5 => ?_)
      show own_G p e below _ (T5.setTop (mkF m 63 #[.val (.int p0), .val (.int p1), .val (.int p2), .val (.int p3), .val tv, .val cv, .val jv, .val (.ref ae)] [tv]))
      refine own_step (b := T5.setTop (mkF m 65 #[.val (.int p0), .val (.int p1), .val (.int p2), .val (.int p3), .val tv, .val cv, .val jv, .val (.ref ae)] [tv, tv])) (fun t k => XS.aload X5.here hx rfl (hb hby at_63) rfl rt k) ?_
      refine own_step (b := T5.setTop (mkF m 68 #[.val (.int p0), .val (.int p1), .val (.int p2), .val (.int p3), .val tv, .val cv, .val jv, .val (.ref ae)] [])) (fun t k => XT.acmpNo X5.here hx rfl (hb hby at_65) rfl rt rt (by simp [XT.acmp]) k) ?_
      refine own_step (b := T5.setTop (mkF m 70 #[.val (.int p0), .val (.int p1), .val (.int p2), .val (.int p3), .val tv, .val cv, .val jv, .val (.ref ae)] [(.ref ae)])) (fun t k => XS.aload X5.here hx rfl (hb hby at_68) rfl rfl k) ?_
      refine own_virtualP (a := ae) (W := 0) (argsL := []) (st := []) X5 hx hZ hown (own_w hw 75 rfl) (own_w hw 76 rfl) (own_w hw 78 rfl) rfl (own_w hw 77 rfl) (by decide) e5 A4 (rmGet1 l Z a0 hw [] ae cv rcv T4.heap F41) (own_w hw 79 rfl) (own_w hw 43 rfl) (by decide) (by decide) (by decide) (by decide) (by rw [hml]; rfl) (lenOf pd7 rfl) rfl (Nat.le_of_ble_eq_true rfl) (hb hby at_70) (fun T6 X6 e6 => ?_)
      show own_G p e below _ (T6.setTop (mkF m 73 #[.val (.int p0), .val (.int p1), .val (.int p2), .val (.int p3), .val tv, .val cv, .val jv, .val (.ref ae)] [cv]))
      refine own_step (b := T6.setTop (mkF m 75 #[.val (.int p0), .val (.int p1), .val (.int p2), .val (.int p3), .val tv, .val cv, .val jv, .val (.ref ae)] [cv, cv])) (fun t k => XS.aload X6.here hx rfl (hb hby at_73) rfl rcv k) ?_
      refine own_step (b := T6.setTop (mkF m 78 #[.val (.int p0), .val (.int p1), .val (.int p2), .val (.int p3), .val tv, .val cv, .val jv, .val (.ref ae)] [])) (fun t k => XT.acmpNo X6.here hx rfl (hb hby at_75) rfl rcv rcv (by simp [XT.acmp]) k) ?_
      refine own_step (b := T6.setTop (mkF m 80 #[.val (.int p0), .val (.int p1), .val (.int p2), .val (.int p3), .val tv, .val cv, .val jv, .val (.ref ae)] [(.ref ae)])) (fun t k => XS.aload X6.here hx rfl (hb hby at_78) rfl rfl k) ?_
      refine own_virtualP (a := ae) (W := 0) (argsL := []) (st := []) X6 hx hZ hown (own_w hw 80 rfl) (own_w hw 81 rfl) (own_w hw 83 rfl) rfl (own_w hw 82 rfl) (by decide) e6 A4 (rmGet2 l Z a0 hw [] ae .null rfl T4.heap F42) (own_w hw 84 rfl) (own_w hw 43 rfl) (by decide) (by decide) (by decide) (by decide) (by rw [hml]; rfl) (lenOf pd7 rfl) rfl (Nat.le_of_ble_eq_true rfl) (hb hby at_80) (fun T7 X7 e7 => ?_)
      show own_G p e below _ (T7.setTop (mkF m 83 #[.val (.int p0), .val (.int p1), .val (.int p2), .val (.int p3), .val tv, .val cv, .val jv, .val (.ref ae)] [.null]))
      refine own_step (b := T7.setTop (mkF m 86 #[.val (.int p0), .val (.int p1), .val (.int p2), .val (.int p3), .val tv, .val cv, .val jv, .val (.ref ae)] [])) (fun t k => XT.ifnonnullNo X7.here hx rfl (hb hby at_83) rfl k) ?_
      refine own_step (b := T7.setTop (mkF m 88 #[.val (.int p0), .val (.int p1), .val (.int p2), .val (.int p3), .val tv, .val cv, .val jv, .val (.ref ae)] [(.ref ae)])) (fun t k => XS.aload X7.here hx rfl (hb hby at_86) rfl rfl k) ?_
      refine own_virtualP (a := ae) (W := 0) (argsL := []) (st := []) X7 hx hZ hown (own_w hw 85 rfl) (own_w hw 86 rfl) (own_w hw 88 rfl) rfl (own_w hw 87 rfl) (by decide) e7 A4 (rmGet3 l Z a0 hw [] ae .null rfl T4.heap F43) (own_w hw 89 rfl) (own_w hw 43 rfl) (by decide) (by decide) (by decide) (by decide) (by rw [hml]; rfl) (lenOf pd7 rfl) rfl (Nat.le_of_ble_eq_true rfl) (hb hby at_88) (fun T8 X8 e8 => ?_)
      show own_G p e below _ (T8.setTop (mkF m 91 #[.val (.int p0), .val (.int p1), .val (.int p2), .val (.int p3), .val tv, .val cv, .val jv, .val (.ref ae)] [.null]))
      refine own_step (b := T8.setTop (mkF m 94 #[.val (.int p0), .val (.int p1), .val (.int p2), .val (.int p3), .val tv, .val cv, .val jv, .val (.ref ae)] [])) (fun t k => XT.ifnonnullNo X8.here hx rfl (hb hby at_91) rfl k) ?_
      refine own_step (b := T8.setTop (mkF m 96 #[.val (.int p0), .val (.int p1), .val (.int p2), .val (.int p3), .val tv, .val cv, .val jv, .val (.ref ae)] [(.ref ae)])) (fun t k => XS.aload X8.here hx rfl (hb hby at_94) rfl rfl k) ?_
      refine own_virtualP (a := ae) (W := 0) (argsL := []) (st := []) X8 hx hZ hown (own_w hw 90 rfl) (own_w hw 91 rfl) (own_w hw 93 rfl) rfl (own_w hw 92 rfl) (by decide) e8 A4 (rmGet4 l Z a0 hw [] ae .null rfl T4.heap F44) (own_w hw 94 rfl) (own_w hw 43 rfl) (by decide) (by decide) (by decide) (by decide) (by rw [hml]; rfl) (lenOf pd7 rfl) rfl (Nat.le_of_ble_eq_true rfl) (hb hby at_96) (fun T9 X9 e9 => ?_)
      show own_G p e below _ (T9.setTop (mkF m 99 #[.val (.int p0), .val (.int p1), .val (.int p2), .val (.int p3), .val tv, .val cv, .val jv, .val (.ref ae)] [.null]))
      refine own_step (b := T9.setTop (mkF m 102 #[.val (.int p0), .val (.int p1), .val (.int p2), .val (.int p3), .val tv, .val cv, .val jv, .val (.ref ae)] [])) (fun t k => XT.ifnonnullNo X9.here hx rfl (hb hby at_99) rfl k) ?_
      refine own_step (b := T9.setTop (mkF m 104 #[.val (.int p0), .val (.int p1), .val (.int p2), .val (.int p3), .val tv, .val cv, .val jv, .val (.ref ae)] [(.ref ae)])) (fun t k => XS.aload X9.here hx rfl (hb hby at_102) rfl rfl k) ?_
      refine own_virtualP (a := ae) (W := 0) (argsL := []) (st := []) X9 hx hZ hown (own_w hw 95 rfl) (own_w hw 96 rfl) (own_w hw 98 rfl) rfl (own_w hw 97 rfl) (by decide) e9 A4 (rmGet5 l Z a0 hw [] ae .null rfl T4.heap F45) (own_w hw 99 rfl) (own_w hw 43 rfl) (by decide) (by decide) (by decide) (by decide) (by rw [hml]; rfl) (lenOf pd7 rfl) rfl (Nat.le_of_ble_eq_true rfl) (hb hby at_104) (fun T10 X10 e10 => ?_)
      show own_G p e below _ (T10.setTop (mkF m 107 #[.val (.int p0), .val (.int p1), .val (.int p2), .val (.int p3), .val tv, .val cv, .val jv, .val (.ref ae)] [.null]))
      refine own_step (b := T10.setTop (mkF m 110 #[.val (.int p0), .val (.int p1), .val (.int p2), .val (.int p3), .val tv, .val cv, .val jv, .val (.ref ae)] [])) (fun t k => XT.ifnonnullNo X10.here hx rfl (hb hby at_107) rfl k) ?_
      refine own_step (b := T10.setTop (mkF m 112 #[.val (.int p0), .val (.int p1), .val (.int p2), .val (.int p3), .val tv, .val cv, .val jv, .val (.ref ae)] [(.ref ae)])) (fun t k => XS.aload X10.here hx rfl (hb hby at_110) rfl rfl k) ?_
      refine own_virtualP (a := ae) (W := 0) (argsL := []) (st := []) X10 hx hZ hown (own_w hw 100 rfl) (own_w hw 101 rfl) (own_w hw 103 rfl) rfl (own_w hw 102 rfl) (by decide) e10 A4 (rmGet6 l Z a0 hw [] ae jv rjv T4.heap F46) (own_w hw 104 rfl) (own_w hw 43 rfl) (by decide) (by decide) (by decide) (by decide) (by rw [hml]; rfl) (lenOf pd7 rfl) rfl (Nat.le_of_ble_eq_true rfl) (hb hby at_112) (fun T11 X11 e11 => ?_)
      show own_G p e below _ (T11.setTop (mkF m 115 #[.val (.int p0), .val (.int p1), .val (.int p2), .val (.int p3), .val tv, .val cv, .val jv, .val (.ref ae)] [jv]))
      refine own_step (b := T11.setTop (mkF m 117 #[.val (.int p0), .val (.int p1), .val (.int p2), .val (.int p3), .val tv, .val cv, .val jv, .val (.ref ae)] [jv, jv])) (fun t k => XS.aload X11.here hx rfl (hb hby at_115) rfl rjv k) ?_
      refine own_step (b := T11.setTop (mkF m 120 #[.val (.int p0), .val (.int p1), .val (.int p2), .val (.int p3), .val tv, .val cv, .val jv, .val (.ref ae)] [])) (fun t k => XT.acmpNo X11.here hx rfl (hb hby at_117) rfl rjv rjv (by simp [XT.acmp]) k) ?_
      refine own_step (b := T11.setTop (mkF m 121 #[.val (.int p0), .val (.int p1), .val (.int p2), .val (.int p3), .val tv, .val cv, .val jv, .val (.ref ae)] [(.int (1 : Int32))])) (fun t k => XS.iconst X11.here hx rfl (hb hby at_120) k) ?_
      refine own_step (b := T11.setTop (mkF m 125 #[.val (.int p0), .val (.int p1), .val (.int p2), .val (.int p3), .val tv, .val cv, .val jv, .val (.ref ae)] [(.int (1 : Int32))])) (fun t k => XS.goto X11.here hx rfl (pc0 := 121) (pc' := 125) rfl (hb hby at_121) (by decide) (by decide) k) ?_
      exact own_retN X11 hx hret (by simp) hlk (hb hby at_125) ⟨rfl, N4⟩ (by decide) (by decide)
    refine own_if_eq X2 hx (hb hby at_27) (pc' := 34) (by decide) (by decide) (fun c27 => ?_) (fun c27 => ?_)
    · show own_G p e below _ (T2.setTop (mkF m 34 #[.val (.int p0), .val (.int p1), .val (.int p2), .val (.int p3), .val tv, .val cv, .unset, .unset] [(.int p2)]))
      refine own_step (b := T2.setTop (mkF m 35 #[.val (.int p0), .val (.int p1), .val (.int p2), .val (.int p3), .val tv, .val cv, .unset, .unset] [(.int (0 : Int32)), (.int p2)])) (fun t k => XS.iconst X2.here hx rfl (hb hby at_34) k) ?_
      exact J35 _
    · show own_G p e below _ (T2.setTop (mkF m 30 #[.val (.int p0), .val (.int p1), .val (.int p2), .val (.int p3), .val tv, .val cv, .unset, .unset] [(.int p2)]))
      refine own_step (b := T2.setTop (mkF m 31 #[.val (.int p0), .val (.int p1), .val (.int p2), .val (.int p3), .val tv, .val cv, .unset, .unset] [(.int (1 : Int32)), (.int p2)])) (fun t k => XS.iconst X2.here hx rfl (hb hby at_30) k) ?_
      refine own_step (b := T2.setTop (mkF m 35 #[.val (.int p0), .val (.int p1), .val (.int p2), .val (.int p3), .val tv, .val cv, .unset, .unset] [(.int (1 : Int32)), (.int p2)])) (fun t k => XS.goto X2.here hx rfl (pc0 := 31) (pc' := 35) rfl (hb hby at_31) (by decide) (by decide) k) ?_
      exact J35 _
  refine own_if_eq X1 hx (hb hby at_10) (pc' := 17) (by decide) (by decide) (fun c10 => ?_) (fun c10 => ?_)
  · show own_G p e below _ (T1.setTop (mkF m 17 #[.val (.int p0), .val (.int p1), .val (.int p2), .val (.int p3), .val tv, .unset, .unset, .unset] [(.int p1)]))
    refine own_step (b := T1.setTop (mkF m 18 #[.val (.int p0), .val (.int p1), .val (.int p2), .val (.int p3), .val tv, .unset, .unset, .unset] [(.int (0 : Int32)), (.int p1)])) (fun t k => XS.iconst X1.here hx rfl (hb hby at_17) k) ?_
    exact J18 _
  · show own_G p e below _ (T1.setTop (mkF m 13 #[.val (.int p0), .val (.int p1), .val (.int p2), .val (.int p3), .val tv, .unset, .unset, .unset] [(.int p1)]))
    refine own_step (b := T1.setTop (mkF m 14 #[.val (.int p0), .val (.int p1), .val (.int p2), .val (.int p3), .val tv, .unset, .unset, .unset] [(.int (1 : Int32)), (.int p1)])) (fun t k => XS.iconst X1.here hx rfl (hb hby at_13) k) ?_
    refine own_step (b := T1.setTop (mkF m 18 #[.val (.int p0), .val (.int p1), .val (.int p2), .val (.int p3), .val tv, .unset, .unset, .unset] [(.int (1 : Int32)), (.int p1)])) (fun t k => XS.goto X1.here hx rfl (pc0 := 14) (pc' := 18) rfl (hb hby at_14) (by decide) (by decide) k) ?_
    exact J18 _
theorem comes_1 {Post : Tables → Env → Array Value → State → Outcome → State → Prop} (hpost : ∀ tb e args s v u, (limb_1_1.after args s (.returned v) u = true ∧ limb_1_2.after args s (.returned v) u = true ∧ True) → FrameEnd s (.returned v) u (Jvm.fieldLocs frame_1_writes args s ++ Jvm.arrayLocs frame_1_arrays args s ++ Jvm.staticLocs frame_1_statics s) 24 128 → Post tb e args s (.returned v) u) :
    ArmFor flags0 classFile x code maxLocals ret World_1 tables_1 room_1 Calls_1 rest_1 Pre_1 Post := by
  intro l hfl _ _ p e ha hc hk s m args below hf hA hF happ hP
  obtain ⟨hcalls, hrest, hpre⟩ := hP
  obtain ⟨-, -, -, hnamed, -, -, -, hat⟩ := (Spec.applies_iff hf).mp happ
  obtain ⟨hg, hn⟩ := and_e (Cond.before_iff.mp (show (Jvm.Cond.and given_1 narrow_1).before args s = true from hpre))
  obtain ⟨hcnt, q0⟩ := and_e hg
  obtain ⟨i0, q1⟩ := and_e q0
  obtain ⟨i1, q2⟩ := and_e q1
  obtain ⟨i2, q3⟩ := and_e q2
  have i3 := q3
  obtain ⟨w0, w1, w2, w3, rfl⟩ : ∃ w0 w1 w2 w3 : Value, args = #[w0, w1, w2, w3] := by
    have hs : args.size = 4 := by simpa [Cond.value, given_1] using hcnt
    obtain ⟨L⟩ := args
    match L, hs with
    | [w0, w1, w2, w3], _ => exact ⟨w0, w1, w2, w3, rfl⟩
  have hw := fun d (hd : d ∈ tables_1) => atoms_spec (ws := Jvm.Cond.code x code maxLocals ret :: tables_1) hat d (List.mem_cons_of_mem _ hd)
  obtain ⟨hsets, hown0⟩ := atoms_of _ (rest_1_c_eq ▸ (show rest_1_c.before _ s = true from hrest))
  have hfit : Fit s := fun {y c} hc i hi => by
    obtain ⟨ha, rfl⟩ := Array.getElem?_eq_some_iff.mp hc
    have q := List.all_eq_true.mp ((Array.all_eq_true_iff_forall_mem.mp hF) _ (Array.getElem_mem ha)) i (List.mem_range.mpr hi)
    simpa [Array.getElem?_eq_getElem hi] using q
  obtain ⟨j0, e0⟩ := is_v i0
  obtain rfl : w0 = (.int j0) := Option.some.inj e0
  obtain ⟨j1, e1⟩ := is_v i1
  obtain rfl : w1 = (.int j1) := Option.some.inj e1
  obtain ⟨j2, e2⟩ := is_v i2
  obtain rfl : w2 = (.int j2) := Option.some.inj e2
  obtain ⟨j3, e3⟩ := is_v i3
  obtain rfl : w3 = (.int j3) := Option.some.inj e3
  have n5 := not_v (Cond.before_iff.mp (hsets _ (List.mem_of_getElem? (i := 2) rfl)))
  obtain ⟨G1, eG1⟩ := is_v (Cond.before_iff.mp (hsets _ (List.mem_of_getElem? (i := 1) rfl)))
  have O2 : Sta s s.heap "java/lang/String" "COMPACT_STRINGS" "Z" (.int G1) := Sta.start eG1 (Or.inl (hsets _ (List.mem_of_getElem? (i := 0) rfl)))
  have P5 : ¬ (G1 = (0 : Int32)) := gotF (Cond.eq_ints eG1 (Term.int_eval (0))) n5
  obtain ⟨s0, es0, fs0⟩ := static_fit hfit (own_w hw 7 rfl) (ty := (.object "com/example/crossgrant/crossgrant/store/AuditEvent$Type")) (by decide)
  have S0 : Sta s s.heap "com/example/crossgrant/crossgrant/store/AuditEvent$Type" "TOKEN_GRANTED" "Lcom/example/crossgrant/crossgrant/store/AuditEvent$Type;" s0 := Sta.start es0 (Or.inr ⟨own_w hw 6 rfl, own_w hw 7 rfl⟩)
  have r0 := fit_R fs0 rfl
  obtain ⟨s1, es1, fs1⟩ := static_fit hfit (own_w hw 110 rfl) (ty := (.object "com/example/crossgrant/crossgrant/store/AuditEvent$Type")) (by decide)
  have S1 : Sta s s.heap "com/example/crossgrant/crossgrant/store/AuditEvent$Type" "TOKEN_REFUSED" "Lcom/example/crossgrant/crossgrant/store/AuditEvent$Type;" s1 := Sta.start es1 (Or.inr ⟨own_w hw 6 rfl, own_w hw 110 rfl⟩)
  have r1 := fit_R fs1 rfl
  obtain ⟨s2, es2, fs2⟩ := static_fit hfit (own_w hw 108 rfl) (ty := (.object "com/example/crossgrant/crossgrant/store/AuditEvent$Type")) (by decide)
  have S2 : Sta s s.heap "com/example/crossgrant/crossgrant/store/AuditEvent$Type" "CLIENT_REGISTERED" "Lcom/example/crossgrant/crossgrant/store/AuditEvent$Type;" s2 := Sta.start es2 (Or.inr ⟨own_w hw 6 rfl, own_w hw 108 rfl⟩)
  have r2 := fit_R fs2 rfl
  obtain ⟨s3, es3, fs3⟩ := static_fit hfit (own_w hw 112 rfl) (ty := (.object "com/example/crossgrant/crossgrant/store/AuditEvent$Type")) (by decide)
  have S3 : Sta s s.heap "com/example/crossgrant/crossgrant/store/AuditEvent$Type" "REGISTRATION_CHANGED" "Lcom/example/crossgrant/crossgrant/store/AuditEvent$Type;" s3 := Sta.start es3 (Or.inr ⟨own_w hw 6 rfl, own_w hw 112 rfl⟩)
  have r3 := fit_R fs3 rfl
  obtain ⟨s4, es4, fs4⟩ := static_fit hfit (own_w hw 114 rfl) (ty := (.object "com/example/crossgrant/crossgrant/store/AuditEvent$Type")) (by decide)
  have S4 : Sta s s.heap "com/example/crossgrant/crossgrant/store/AuditEvent$Type" "REGISTRATION_CANCELLED" "Lcom/example/crossgrant/crossgrant/store/AuditEvent$Type;" s4 := Sta.start es4 (Or.inr ⟨own_w hw 6 rfl, own_w hw 114 rfl⟩)
  have r4 := fit_R fs4 rfl
  obtain ⟨s5, es5, fs5⟩ := static_fit hfit (own_w hw 106 rfl) (ty := (.object "com/example/crossgrant/crossgrant/store/AuditEvent$Type")) (by decide)
  have S5 : Sta s s.heap "com/example/crossgrant/crossgrant/store/AuditEvent$Type" "REGISTRATION_REFUSED" "Lcom/example/crossgrant/crossgrant/store/AuditEvent$Type;" s5 := Sta.start es5 (Or.inr ⟨own_w hw 6 rfl, own_w hw 106 rfl⟩)
  have r5 := fit_R fs5 rfl
  obtain ⟨n, o, h1, h2, h3, _, L, rfl, ⟨rfl, N⟩, hq⟩ := rm0 l s _ hw tables_1 j0 j1 j2 j3 s.heap G1 O2 P5 (Old.start s) s0 s1 s2 s3 s4 s5 S0 r0 S1 r1 S2 r2 S3 r3 S4 r4 S5 r5 p e ha hc hk s m _ below hf ((Spec.applies_iff_loose hf).mp happ).1 ⟨rfl, State.Warmed39.refl s, rfl⟩ trivial
  refine ⟨n, _, h1, h2, h3, hpost _ _ _ _ _ _ ⟨Cond.after_iff.mpr rfl, Cond.after_iff.mpr (eq_i res_at (Term.int_eval (1)) rfl), trivial⟩ ⟨hq.1, hq.2.1, (hq.2.2.sift fun y hy => Or.inr (N y hy)).mono (by decide) (by decide)⟩⟩
theorem main_1_1 : Claimed_1_1 := comes_1 fun _ _ _ _ _ _ h hF => ⟨h.1, hF⟩
theorem main_1_2 : Claimed_1_2 := comes_1 fun _ _ _ _ _ _ h hF => ⟨h.2.1, hF⟩
end Jvm.Pilot.@@N@@
namespace Jvm.Pilot.@@N@@
open Jvm Jvm.ClassFile Sem Op Lib Jvm.Free Jvm.Stand Jvm.Pilot.@@N@@.Jvm.D
/-! MADE BY PROGRAM (witnessworld.py) out of the Statement's table words and the real class files: 23 classes; the members and pool entries that the words name. The judged class is class 1, her method 3. -/
namespace start1
open Jvm.ClassFile
def u (s : String) : CpInfo := .utf8 (stringToUtf16 s)
/-- a pool by its gaps: so many unusable entries, then the entry; so many at the end -/
def gap : Nat → List CpInfo → List CpInfo
  | 0, r => r
  | n + 1, r => .unusable :: gap n r
def poolList (es : List (Nat × CpInfo)) (last : Nat) : List CpInfo := es.foldr (fun e r => gap e.1 (e.2 :: r)) (gap last [])
def pool (es : List (Nat × CpInfo)) (last : Nat) : Array CpInfo := ⟨poolList es last⟩
def fileOf (pool : Array CpInfo) (this : Nat) (attrs : Array Attribute := #[]) (ms : Array MethodInfo := #[]) (fl : Nat := 33) (sup : Nat := 0) (ifs : Array Nat := #[]) (fds : Array FieldInfo := #[]) : ClassFile where
  minorVersion := 0
  majorVersion := 65
  constantPool := pool
  accessFlags := fl
  thisClass := this
  superClass := sup
  interfaces := ifs
  fields := fds
  methods := ms
  attributes := attrs
def plain (name : String) (sup : Option ClassId) : Class where
  name := name
  kind := .ordinary
  loader := none
  accessFlags := 33
  super := sup
  interfaces := #[]
  cf := none
  fields := #[]
  methods := #[]
  instanceTypes := #[]
  staticTypes := #[]
  resolved := #[]
  callSites := []
  init := .initialized
  statics := none
  mirror := none

def pool0 : Array CpInfo := pool [(5, u "<init>"), (0, u "()V"), (1, .class_ 10), (1, u "java/lang/Object")] 113

def k0c0 : Code := { maxStack := 0, maxLocals := 1, code := object_method_1_code, exceptionTable := #[], attributes := #[] }
def k0m0 : Method := { name := "<init>", desc := "()V", sig := { parameters := [], returnType := none }, accessFlags := 1, code := some k0c0 }
/-- java/lang/Object -/
def k0 : Class := { plain "java/lang/Object" none with
  accessFlags := 33
  interfaces := #[]
  cf := some (fileOf pool0 8 #[] #[{ accessFlags := 1, nameIndex := 5, descriptorIndex := 6, attributes := #[] }] 33 0 #[] #[])
  fields := #[]
  methods := #[k0m0]
  instanceTypes := #[]
  staticTypes := #[]
  resolved := Array.replicate 124 none
  statics := none }

def pool1 : Array CpInfo := pool [(2, .class_ 4), (1, u "java/lang/Object"), (0, u "<init>"), (0, u "()V"), (0, .integer 2147483647), (0, .fieldref 9 10), (0, .class_ 11), (0, .nameAndType 12 13), (0, u "com/example/crossgrant/crossgrant/store/AuditEvent$Type"), (0, u "TOKEN_GRANTED"), (0, u "Lcom/example/crossgrant/crossgrant/store/AuditEvent$Type;"), (0, .fieldref 9 15), (0, .nameAndType 16 13), (0, u "TOKEN_REFUSED"), (0, .fieldref 9 18), (0, .nameAndType 19 13), (0, u "CLIENT_REGISTERED"), (0, .fieldref 9 21), (0, .nameAndType 22 13), (0, u "REGISTRATION_CHANGED"), (0, .fieldref 9 24), (0, .nameAndType 25 13), (0, u "REGISTRATION_CANCELLED"), (0, .fieldref 9 27), (0, .nameAndType 28 13), (0, u "REGISTRATION_REFUSED"), (0, .class_ 30), (0, u "java/lang/String"), (0, .methodref 29 32), (0, .nameAndType 5 33), (0, u "([C)V"), (0, .methodref 35 36), (0, .class_ 37), (0, .nameAndType 38 39), (0, u "com/example/crossgrant/crossgrant/store/AuditEventRegistrationPinLaw"), (0, u "pickType"), (0, u "(I)Lcom/example/crossgrant/crossgrant/store/AuditEvent$Type;"), (0, .methodref 35 41), (0, .nameAndType 42 43), (0, u "drawn"), (0, u "(IZ)Ljava/lang/String;"), (0, .methodref 45 46), (0, .class_ 47), (0, .nameAndType 48 49), (0, u "com/example/crossgrant/crossgrant/store/AuditEvent"), (0, u "registration"), (0, u "(Lcom/example/crossgrant/crossgrant/store/AuditEvent$Type;Ljava/lang/String;Ljava/lang/String;)Lcom/example/crossgrant/crossgrant/store/AuditEvent;"), (0, .methodref 45 51), (0, .nameAndType 52 53), (0, u "type"), (0, u "()Lcom/example/crossgrant/crossgrant/store/AuditEvent$Type;"), (0, .methodref 45 55), (0, .nameAndType 56 57), (0, u "clientId"), (0, u "()Ljava/lang/String;"), (0, .methodref 45 59), (0, .nameAndType 60 57), (0, u "grantType"), (0, .methodref 45 62), (0, .nameAndType 63 57), (0, u "error"), (0, .methodref 45 65), (0, .nameAndType 66 57), (0, u "tokenJti"), (0, .methodref 45 68), (0, .nameAndType 69 57), (0, u "subject"), (0, .methodref 45 71), (0, .nameAndType 72 57), (0, u "assertionJti"), (3, u "law"), (0, u "(IIII)Z")] 4

def k1m0 : Method := { name := "<init>", desc := "()V", sig := { parameters := [], returnType := none }, accessFlags := 1, code := none }
def k1c1 : Code := { maxStack := 2, maxLocals := 2, code := method_2_code, exceptionTable := #[], attributes := #[] }
def k1m1 : Method := { name := "pickType", desc := "(I)Lcom/example/crossgrant/crossgrant/store/AuditEvent$Type;", sig := { parameters := [.int], returnType := some (.object "com/example/crossgrant/crossgrant/store/AuditEvent$Type") }, accessFlags := 10, code := some k1c1 }
def k1c2 : Code := { maxStack := 4, maxLocals := 3, code := method_3_code, exceptionTable := #[], attributes := #[] }
def k1m2 : Method := { name := "drawn", desc := "(IZ)Ljava/lang/String;", sig := { parameters := [.int, .boolean], returnType := some (.object "java/lang/String") }, accessFlags := 10, code := some k1c2 }
def k1c3 : Code := { maxStack := 3, maxLocals := 8, code := code, exceptionTable := #[], attributes := #[] }
def k1m3 : Method := { name := "law", desc := "(IIII)Z", sig := { parameters := [.int, .int, .int, .int], returnType := some .boolean }, accessFlags := 9, code := some k1c3 }
/-- com/example/crossgrant/crossgrant/store/AuditEventRegistrationPinLaw -/
def k1 : Class := { plain "com/example/crossgrant/crossgrant/store/AuditEventRegistrationPinLaw" (some 0) with
  accessFlags := 49
  interfaces := #[]
  cf := some (fileOf pool1 35 #[] #[{ accessFlags := 1, nameIndex := 5, descriptorIndex := 6, attributes := #[] }, { accessFlags := 10, nameIndex := 38, descriptorIndex := 39, attributes := #[] }, { accessFlags := 10, nameIndex := 42, descriptorIndex := 43, attributes := #[] }, { accessFlags := 9, nameIndex := 76, descriptorIndex := 77, attributes := #[] }] 49 2 #[] #[])
  fields := #[]
  methods := #[k1m0, k1m1, k1m2, k1m3]
  instanceTypes := #[]
  staticTypes := #[]
  resolved := Array.replicate 82 none
  statics := none }

def pool2 : Array CpInfo := pool [(1, .class_ 2), (0, u "java/lang/constant/Constable"), (0, .class_ 4), (0, u "java/lang/Object")] 6

/-- java/lang/constant/Constable -/
def k2 : Class := { plain "java/lang/constant/Constable" (some 0) with
  accessFlags := 1537
  interfaces := #[]
  cf := some (fileOf pool2 1 #[] #[] 1537 3 #[] #[])
  fields := #[]
  methods := #[]
  instanceTypes := #[]
  staticTypes := #[]
  resolved := Array.replicate 11 none
  statics := none }

def pool3 : Array CpInfo := pool [(1, .class_ 2), (0, u "java/lang/Comparable"), (0, .class_ 4), (0, u "java/lang/Object")] 7

/-- java/lang/Comparable -/
def k3 : Class := { plain "java/lang/Comparable" (some 0) with
  accessFlags := 1537
  interfaces := #[]
  cf := some (fileOf pool3 1 #[] #[] 1537 3 #[] #[])
  fields := #[]
  methods := #[]
  instanceTypes := #[]
  staticTypes := #[]
  resolved := Array.replicate 12 none
  statics := none }

def pool4 : Array CpInfo := pool [(1, .class_ 2), (0, u "java/io/Serializable"), (0, .class_ 4), (0, u "java/lang/Object")] 2

/-- java/io/Serializable -/
def k4 : Class := { plain "java/io/Serializable" (some 0) with
  accessFlags := 1537
  interfaces := #[]
  cf := some (fileOf pool4 1 #[] #[] 1537 3 #[] #[])
  fields := #[]
  methods := #[]
  instanceTypes := #[]
  staticTypes := #[]
  resolved := Array.replicate 7 none
  statics := none }

def pool5 : Array CpInfo := pool [(2, .class_ 4), (1, u "java/lang/Enum"), (0, u "name"), (0, u "Ljava/lang/String;"), (2, u "ordinal"), (0, u "I"), (1, .class_ 14), (1, u "java/lang/Object"), (4, u "hash"), (86, .class_ 108), (1, u "java/lang/Enum$EnumDesc"), (2, .class_ 112), (0, u "java/lang/constant/Constable"), (0, .class_ 114), (0, u "java/lang/Comparable"), (0, .class_ 116), (0, u "java/io/Serializable")] 87

/-- java/lang/Enum -/
def k5 : Class := { plain "java/lang/Enum" (some 0) with
  accessFlags := 1057
  interfaces := #[2, 3, 4]
  cf := some (fileOf pool5 2 #[.nestMembers #[106]] #[] 1057 12 #[111, 113, 115] #[{ accessFlags := 18, nameIndex := 5, descriptorIndex := 6, attributes := #[] }, { accessFlags := 18, nameIndex := 9, descriptorIndex := 10, attributes := #[] }, { accessFlags := 2, nameIndex := 19, descriptorIndex := 10, attributes := #[] }])
  fields := #[{ name := "name", type := (.object "java/lang/String"), accessFlags := 18, slot := 0, constantValue := 0 }, { name := "ordinal", type := .int, accessFlags := 18, slot := 1, constantValue := 0 }, { name := "hash", type := .int, accessFlags := 2, slot := 2, constantValue := 0 }]
  methods := #[]
  instanceTypes := #[(.object "java/lang/String"), .int, .int]
  staticTypes := #[]
  resolved := Array.replicate 204 none
  statics := none }

def pool6 : Array CpInfo := pool [(1, .class_ 2), (0, u "com/example/crossgrant/crossgrant/store/AuditEvent$Type"), (2, u "TOKEN_GRANTED"), (0, u "Lcom/example/crossgrant/crossgrant/store/AuditEvent$Type;"), (2, u "TOKEN_REFUSED"), (2, u "CLIENT_REGISTERED"), (2, u "REGISTRATION_CHANGED"), (2, u "REGISTRATION_CANCELLED"), (2, u "REGISTRATION_REFUSED"), (2, u "$VALUES"), (0, u "[Lcom/example/crossgrant/crossgrant/store/AuditEvent$Type;"), (6, .class_ 34), (1, u "java/lang/Enum"), (46, .class_ 82), (0, u "com/example/crossgrant/crossgrant/store/AuditEvent")] 2

/-- com/example/crossgrant/crossgrant/store/AuditEvent$Type -/
def k6 : Class := { plain "com/example/crossgrant/crossgrant/store/AuditEvent$Type" (some 5) with
  accessFlags := 16433
  interfaces := #[]
  cf := some (fileOf pool6 1 #[.nestHost 81] #[] 16433 32 #[] #[{ accessFlags := 16409, nameIndex := 5, descriptorIndex := 6, attributes := #[] }, { accessFlags := 16409, nameIndex := 9, descriptorIndex := 6, attributes := #[] }, { accessFlags := 16409, nameIndex := 12, descriptorIndex := 6, attributes := #[] }, { accessFlags := 16409, nameIndex := 15, descriptorIndex := 6, attributes := #[] }, { accessFlags := 16409, nameIndex := 18, descriptorIndex := 6, attributes := #[] }, { accessFlags := 16409, nameIndex := 21, descriptorIndex := 6, attributes := #[] }, { accessFlags := 4122, nameIndex := 24, descriptorIndex := 25, attributes := #[] }])
  fields := #[{ name := "TOKEN_GRANTED", type := (.object "com/example/crossgrant/crossgrant/store/AuditEvent$Type"), accessFlags := 16409, slot := 0, constantValue := 0 }, { name := "TOKEN_REFUSED", type := (.object "com/example/crossgrant/crossgrant/store/AuditEvent$Type"), accessFlags := 16409, slot := 1, constantValue := 0 }, { name := "CLIENT_REGISTERED", type := (.object "com/example/crossgrant/crossgrant/store/AuditEvent$Type"), accessFlags := 16409, slot := 2, constantValue := 0 }, { name := "REGISTRATION_CHANGED", type := (.object "com/example/crossgrant/crossgrant/store/AuditEvent$Type"), accessFlags := 16409, slot := 3, constantValue := 0 }, { name := "REGISTRATION_CANCELLED", type := (.object "com/example/crossgrant/crossgrant/store/AuditEvent$Type"), accessFlags := 16409, slot := 4, constantValue := 0 }, { name := "REGISTRATION_REFUSED", type := (.object "com/example/crossgrant/crossgrant/store/AuditEvent$Type"), accessFlags := 16409, slot := 5, constantValue := 0 }, { name := "$VALUES", type := (.array (.object "com/example/crossgrant/crossgrant/store/AuditEvent$Type")), accessFlags := 4122, slot := 6, constantValue := 0 }]
  methods := #[]
  instanceTypes := #[(.object "java/lang/String"), .int, .int]
  staticTypes := #[(.object "com/example/crossgrant/crossgrant/store/AuditEvent$Type"), (.object "com/example/crossgrant/crossgrant/store/AuditEvent$Type"), (.object "com/example/crossgrant/crossgrant/store/AuditEvent$Type"), (.object "com/example/crossgrant/crossgrant/store/AuditEvent$Type"), (.object "com/example/crossgrant/crossgrant/store/AuditEvent$Type"), (.object "com/example/crossgrant/crossgrant/store/AuditEvent$Type"), (.array (.object "com/example/crossgrant/crossgrant/store/AuditEvent$Type"))]
  resolved := Array.replicate 85 none
  statics := some 0 }

def pool7 : Array CpInfo := pool [(2, .class_ 4), (1, u "java/lang/CharSequence"), (42, .class_ 48), (0, u "java/lang/CharSequence$1CodePointIterator"), (10, .class_ 60), (0, u "java/lang/CharSequence$1CharIterator"), (5, .class_ 67), (0, u "java/lang/Object")] 63

/-- java/lang/CharSequence -/
def k7 : Class := { plain "java/lang/CharSequence" (some 0) with
  accessFlags := 1537
  interfaces := #[]
  cf := some (fileOf pool7 2 #[.nestMembers #[47, 59]] #[] 1537 66 #[] #[])
  fields := #[]
  methods := #[]
  instanceTypes := #[]
  staticTypes := #[]
  resolved := Array.replicate 131 none
  statics := none }

def pool8 : Array CpInfo := pool [(1, .class_ 2), (0, u "java/lang/constant/ConstantDesc"), (0, .class_ 4), (0, u "java/lang/Object")] 32

/-- java/lang/constant/ConstantDesc -/
def k8 : Class := { plain "java/lang/constant/ConstantDesc" (some 0) with
  accessFlags := 1537
  interfaces := #[]
  cf := some (fileOf pool8 1 #[] #[] 1537 3 #[] #[])
  fields := #[]
  methods := #[]
  instanceTypes := #[]
  staticTypes := #[]
  resolved := Array.replicate 37 none
  statics := none }

def pool9 : Array CpInfo := pool [(1, .methodref 2 3), (0, .class_ 4), (0, .nameAndType 5 6), (0, u "java/lang/Object"), (0, u "<init>"), (0, u "()V"), (2, .fieldref 10 11), (0, .class_ 12), (0, .nameAndType 13 14), (0, u "java/lang/String"), (0, u "value"), (0, u "[B"), (0, .fieldref 10 16), (0, .nameAndType 17 18), (0, u "coder"), (0, u "B"), (2, u "hash"), (0, u "I"), (2, u "hashIsZero"), (0, u "Z"), (0, .methodref 10 28), (0, .nameAndType 5 29), (0, u "([CIILjava/lang/Void;)V"), (8, .fieldref 10 39), (0, .nameAndType 40 26), (0, u "COMPACT_STRINGS"), (1, .class_ 44), (1, u "java/lang/StringUTF16"), (0, u "compress"), (1, .methodref 42 48), (0, .nameAndType 49 50), (0, u "coderFromArrayLen"), (0, u "([BI)B"), (126, .methodref 42 178), (0, .nameAndType 45 179), (0, u "([CII)[B"), (395, .class_ 576), (0, u "java/lang/CharSequence"), (22, u "CASE_INSENSITIVE_ORDER"), (0, u "Ljava/util/Comparator;"), (409, u "([C)V"), (90, u "serialPersistentFields"), (0, u "[Ljava/io/ObjectStreamField;"), (0, .class_ 1104), (0, u "java/lang/String$CaseInsensitiveComparator"), (1, .class_ 1107), (0, u "java/io/Serializable"), (0, .class_ 1109), (0, u "java/lang/Comparable"), (0, .class_ 1111), (0, u "java/lang/constant/Constable"), (0, .class_ 1113), (0, u "java/lang/constant/ConstantDesc"), (2, u "serialVersionUID"), (0, u "J"), (3, u "REPL"), (0, u "C"), (2, u "LATIN1"), (1, u "UTF16")] 323

def k9m0 : Method := { name := "<init>", desc := "()V", sig := { parameters := [], returnType := none }, accessFlags := 1, code := none }
def k9c1 : Code := { maxStack := 5, maxLocals := 2, code := jdk_42_method_3_code, exceptionTable := #[], attributes := #[] }
def k9m1 : Method := { name := "<init>", desc := "([C)V", sig := { parameters := [(.array .char)], returnType := none }, accessFlags := 1, code := some k9c1 }
def k9c2 : Code := { maxStack := 4, maxLocals := 6, code := jdk_42_method_149_code, exceptionTable := #[], attributes := #[] }
def k9m2 : Method := { name := "<init>", desc := "([CIILjava/lang/Void;)V", sig := { parameters := [(.array .char), .int, .int, (.object "java/lang/Void")], returnType := none }, accessFlags := 2, code := some k9c2 }
/-- java/lang/String -/
def k9 : Class := { plain "java/lang/String" (some 0) with
  accessFlags := 49
  interfaces := #[4, 3, 7, 2, 8]
  cf := some (fileOf pool9 10 #[.nestMembers #[1103]] #[{ accessFlags := 1, nameIndex := 5, descriptorIndex := 6, attributes := #[] }, { accessFlags := 1, nameIndex := 5, descriptorIndex := 1010, attributes := #[] }, { accessFlags := 2, nameIndex := 5, descriptorIndex := 29, attributes := #[] }] 49 2 #[1106, 1108, 575, 1110, 1112] #[{ accessFlags := 18, nameIndex := 13, descriptorIndex := 14, attributes := #[] }, { accessFlags := 18, nameIndex := 17, descriptorIndex := 18, attributes := #[] }, { accessFlags := 2, nameIndex := 21, descriptorIndex := 22, attributes := #[] }, { accessFlags := 2, nameIndex := 25, descriptorIndex := 26, attributes := #[] }, { accessFlags := 26, nameIndex := 1116, descriptorIndex := 1117, attributes := #[] }, { accessFlags := 24, nameIndex := 40, descriptorIndex := 26, attributes := #[] }, { accessFlags := 26, nameIndex := 1101, descriptorIndex := 1102, attributes := #[] }, { accessFlags := 26, nameIndex := 1121, descriptorIndex := 1122, attributes := #[] }, { accessFlags := 25, nameIndex := 599, descriptorIndex := 600, attributes := #[] }, { accessFlags := 24, nameIndex := 1125, descriptorIndex := 18, attributes := #[] }, { accessFlags := 24, nameIndex := 1127, descriptorIndex := 18, attributes := #[] }])
  fields := #[{ name := "value", type := (.array .byte), accessFlags := 18, slot := 0, constantValue := 0 }, { name := "coder", type := .byte, accessFlags := 18, slot := 1, constantValue := 0 }, { name := "hash", type := .int, accessFlags := 2, slot := 2, constantValue := 0 }, { name := "hashIsZero", type := .boolean, accessFlags := 2, slot := 3, constantValue := 0 }, { name := "serialVersionUID", type := .long, accessFlags := 26, slot := 0, constantValue := 0 }, { name := "COMPACT_STRINGS", type := .boolean, accessFlags := 24, slot := 1, constantValue := 0 }, { name := "serialPersistentFields", type := (.array (.object "java/io/ObjectStreamField")), accessFlags := 26, slot := 2, constantValue := 0 }, { name := "REPL", type := .char, accessFlags := 26, slot := 3, constantValue := 0 }, { name := "CASE_INSENSITIVE_ORDER", type := (.object "java/util/Comparator"), accessFlags := 25, slot := 4, constantValue := 0 }, { name := "LATIN1", type := .byte, accessFlags := 24, slot := 5, constantValue := 0 }, { name := "UTF16", type := .byte, accessFlags := 24, slot := 6, constantValue := 0 }]
  methods := #[k9m0, k9m1, k9m2]
  instanceTypes := #[(.array .byte), .byte, .int, .boolean]
  staticTypes := #[.long, .boolean, (.array (.object "java/io/ObjectStreamField")), .char, (.object "java/util/Comparator"), .byte, .byte]
  resolved := Array.replicate 1451 none
  statics := some 1 }

def pool10 : Array CpInfo := pool [(6, .class_ 8), (1, u "java/lang/Object"), (0, u "<init>"), (0, u "()V"), (1, .class_ 14), (1, u "java/lang/StringUTF16"), (31, u "$assertionsDisabled"), (0, u "Z"), (13, u "HI_BYTE_SHIFT"), (0, u "I"), (2, u "LO_BYTE_SHIFT"), (49, .methodref 12 116), (0, .nameAndType 117 118), (0, u "compress"), (0, u "([CI[BII)I"), (3, u "([CII)[B"), (138, u "coderFromArrayLen"), (0, u "([BI)B"), (106, .class_ 371), (1, u "java/lang/StringUTF16$LinesSpliterator"), (58, u "MAX_LENGTH"), (196, .class_ 628), (0, u "java/lang/StringUTF16$CodePointsSpliterator"), (0, .class_ 630), (0, u "java/lang/StringUTF16$CharsSpliterator")] 4

def k10m0 : Method := { name := "<init>", desc := "()V", sig := { parameters := [], returnType := none }, accessFlags := 0, code := none }
def k10c1 : Code := { maxStack := 2, maxLocals := 2, code := jdk_52_method_15_code, exceptionTable := #[], attributes := #[] }
def k10m1 : Method := { name := "coderFromArrayLen", desc := "([BI)B", sig := { parameters := [(.array .byte), .int], returnType := some .byte }, accessFlags := 8, code := some k10c1 }
def k10c2 : Code := { maxStack := 5, maxLocals := 6, code := jdk_52_method_16_code, exceptionTable := #[], attributes := #[] }
def k10m2 : Method := { name := "compress", desc := "([CII)[B", sig := { parameters := [(.array .char), .int, .int], returnType := some (.array .byte) }, accessFlags := 9, code := some k10c2 }
def k10c3 : Code := { maxStack := 3, maxLocals := 7, code := jdk_52_method_21_code, exceptionTable := #[], attributes := #[] }
def k10m3 : Method := { name := "compress", desc := "([CI[BII)I", sig := { parameters := [(.array .char), .int, (.array .byte), .int, .int], returnType := some .int }, accessFlags := 9, code := some k10c3 }
/-- java/lang/StringUTF16 -/
def k10 : Class := { plain "java/lang/StringUTF16" (some 0) with
  accessFlags := 48
  interfaces := #[]
  cf := some (fileOf pool10 12 #[.nestMembers #[627, 629, 369]] #[{ accessFlags := 0, nameIndex := 9, descriptorIndex := 10, attributes := #[] }, { accessFlags := 8, nameIndex := 261, descriptorIndex := 262, attributes := #[] }, { accessFlags := 9, nameIndex := 117, descriptorIndex := 122, attributes := #[] }, { accessFlags := 9, nameIndex := 117, descriptorIndex := 118, attributes := #[] }] 48 6 #[] #[{ accessFlags := 26, nameIndex := 61, descriptorIndex := 62, attributes := #[] }, { accessFlags := 26, nameIndex := 65, descriptorIndex := 62, attributes := #[] }, { accessFlags := 24, nameIndex := 430, descriptorIndex := 62, attributes := #[] }, { accessFlags := 4120, nameIndex := 46, descriptorIndex := 47, attributes := #[] }])
  fields := #[{ name := "HI_BYTE_SHIFT", type := .int, accessFlags := 26, slot := 0, constantValue := 0 }, { name := "LO_BYTE_SHIFT", type := .int, accessFlags := 26, slot := 1, constantValue := 0 }, { name := "MAX_LENGTH", type := .int, accessFlags := 24, slot := 2, constantValue := 0 }, { name := "$assertionsDisabled", type := .boolean, accessFlags := 4120, slot := 3, constantValue := 0 }]
  methods := #[k10m0, k10m1, k10m2, k10m3]
  instanceTypes := #[]
  staticTypes := #[.int, .int, .int, .boolean]
  resolved := Array.replicate 635 none
  statics := none }

def pool11 : Array CpInfo := pool [(1, .methodref 2 3), (0, .class_ 4), (0, .nameAndType 5 6), (0, u "java/lang/Object"), (0, u "<init>"), (0, u "()V"), (0, .class_ 8), (0, u "java/lang/Record")] 13

def k11c0 : Code := { maxStack := 1, maxLocals := 1, code := jdk_30_method_1_code, exceptionTable := #[], attributes := #[] }
def k11m0 : Method := { name := "<init>", desc := "()V", sig := { parameters := [], returnType := none }, accessFlags := 4, code := some k11c0 }
/-- java/lang/Record -/
def k11 : Class := { plain "java/lang/Record" (some 0) with
  accessFlags := 1057
  interfaces := #[]
  cf := some (fileOf pool11 7 #[] #[{ accessFlags := 4, nameIndex := 5, descriptorIndex := 6, attributes := #[] }] 1057 2 #[] #[])
  fields := #[]
  methods := #[k11m0]
  instanceTypes := #[]
  staticTypes := #[]
  resolved := Array.replicate 22 none
  statics := none }

def pool12 : Array CpInfo := pool [(1, .methodref 2 3), (0, .class_ 4), (0, .nameAndType 5 6), (0, u "java/lang/Record"), (0, u "<init>"), (0, u "()V"), (0, .fieldref 8 9), (0, .class_ 10), (0, .nameAndType 11 12), (0, u "com/example/crossgrant/crossgrant/store/AuditEvent"), (0, u "type"), (0, u "Lcom/example/crossgrant/crossgrant/store/AuditEvent$Type;"), (0, .fieldref 8 14), (0, .nameAndType 15 16), (0, u "clientId"), (0, u "Ljava/lang/String;"), (0, .fieldref 8 18), (0, .nameAndType 19 16), (0, u "grantType"), (0, .fieldref 8 21), (0, .nameAndType 22 16), (0, u "error"), (0, .fieldref 8 24), (0, .nameAndType 25 16), (0, u "tokenJti"), (0, .fieldref 8 27), (0, .nameAndType 28 16), (0, u "subject"), (0, .fieldref 8 30), (0, .nameAndType 31 16), (0, u "assertionJti"), (1, .class_ 35), (1, u "com/example/crossgrant/crossgrant/store/AuditEvent$Type"), (1, .methodref 8 38), (0, .nameAndType 5 39), (0, u "(Lcom/example/crossgrant/crossgrant/store/AuditEvent$Type;Ljava/lang/String;Ljava/lang/String;Ljava/lang/String;Ljava/lang/String;Ljava/lang/String;Ljava/lang/String;)V"), (25, u "registration"), (0, u "(Lcom/example/crossgrant/crossgrant/store/AuditEvent$Type;Ljava/lang/String;Ljava/lang/String;)Lcom/example/crossgrant/crossgrant/store/AuditEvent;"), (2, u "()Ljava/lang/String;"), (2, u "()Lcom/example/crossgrant/crossgrant/store/AuditEvent$Type;")] 28

def k12c0 : Code := { maxStack := 2, maxLocals := 8, code := prog_5_method_1_code, exceptionTable := #[], attributes := #[] }
def k12m0 : Method := { name := "<init>", desc := "(Lcom/example/crossgrant/crossgrant/store/AuditEvent$Type;Ljava/lang/String;Ljava/lang/String;Ljava/lang/String;Ljava/lang/String;Ljava/lang/String;Ljava/lang/String;)V", sig := { parameters := [(.object "com/example/crossgrant/crossgrant/store/AuditEvent$Type"), (.object "java/lang/String"), (.object "java/lang/String"), (.object "java/lang/String"), (.object "java/lang/String"), (.object "java/lang/String"), (.object "java/lang/String")], returnType := none }, accessFlags := 1, code := some k12c0 }
def k12c1 : Code := { maxStack := 9, maxLocals := 3, code := prog_5_method_4_code, exceptionTable := #[], attributes := #[] }
def k12m1 : Method := { name := "registration", desc := "(Lcom/example/crossgrant/crossgrant/store/AuditEvent$Type;Ljava/lang/String;Ljava/lang/String;)Lcom/example/crossgrant/crossgrant/store/AuditEvent;", sig := { parameters := [(.object "com/example/crossgrant/crossgrant/store/AuditEvent$Type"), (.object "java/lang/String"), (.object "java/lang/String")], returnType := some (.object "com/example/crossgrant/crossgrant/store/AuditEvent") }, accessFlags := 9, code := some k12c1 }
def k12c2 : Code := { maxStack := 1, maxLocals := 1, code := prog_5_method_9_code, exceptionTable := #[], attributes := #[] }
def k12m2 : Method := { name := "type", desc := "()Lcom/example/crossgrant/crossgrant/store/AuditEvent$Type;", sig := { parameters := [], returnType := some (.object "com/example/crossgrant/crossgrant/store/AuditEvent$Type") }, accessFlags := 1, code := some k12c2 }
def k12c3 : Code := { maxStack := 1, maxLocals := 1, code := prog_5_method_10_code, exceptionTable := #[], attributes := #[] }
def k12m3 : Method := { name := "clientId", desc := "()Ljava/lang/String;", sig := { parameters := [], returnType := some (.object "java/lang/String") }, accessFlags := 1, code := some k12c3 }
def k12c4 : Code := { maxStack := 1, maxLocals := 1, code := prog_5_method_11_code, exceptionTable := #[], attributes := #[] }
def k12m4 : Method := { name := "grantType", desc := "()Ljava/lang/String;", sig := { parameters := [], returnType := some (.object "java/lang/String") }, accessFlags := 1, code := some k12c4 }
def k12c5 : Code := { maxStack := 1, maxLocals := 1, code := prog_5_method_12_code, exceptionTable := #[], attributes := #[] }
def k12m5 : Method := { name := "error", desc := "()Ljava/lang/String;", sig := { parameters := [], returnType := some (.object "java/lang/String") }, accessFlags := 1, code := some k12c5 }
def k12c6 : Code := { maxStack := 1, maxLocals := 1, code := prog_5_method_13_code, exceptionTable := #[], attributes := #[] }
def k12m6 : Method := { name := "tokenJti", desc := "()Ljava/lang/String;", sig := { parameters := [], returnType := some (.object "java/lang/String") }, accessFlags := 1, code := some k12c6 }
def k12c7 : Code := { maxStack := 1, maxLocals := 1, code := prog_5_method_14_code, exceptionTable := #[], attributes := #[] }
def k12m7 : Method := { name := "subject", desc := "()Ljava/lang/String;", sig := { parameters := [], returnType := some (.object "java/lang/String") }, accessFlags := 1, code := some k12c7 }
def k12c8 : Code := { maxStack := 1, maxLocals := 1, code := prog_5_method_15_code, exceptionTable := #[], attributes := #[] }
def k12m8 : Method := { name := "assertionJti", desc := "()Ljava/lang/String;", sig := { parameters := [], returnType := some (.object "java/lang/String") }, accessFlags := 1, code := some k12c8 }
/-- com/example/crossgrant/crossgrant/store/AuditEvent -/
def k12 : Class := { plain "com/example/crossgrant/crossgrant/store/AuditEvent" (some 11) with
  accessFlags := 49
  interfaces := #[]
  cf := some (fileOf pool12 8 #[.nestMembers #[33]] #[{ accessFlags := 1, nameIndex := 5, descriptorIndex := 39, attributes := #[] }, { accessFlags := 9, nameIndex := 65, descriptorIndex := 66, attributes := #[] }, { accessFlags := 1, nameIndex := 11, descriptorIndex := 72, attributes := #[] }, { accessFlags := 1, nameIndex := 15, descriptorIndex := 69, attributes := #[] }, { accessFlags := 1, nameIndex := 19, descriptorIndex := 69, attributes := #[] }, { accessFlags := 1, nameIndex := 22, descriptorIndex := 69, attributes := #[] }, { accessFlags := 1, nameIndex := 25, descriptorIndex := 69, attributes := #[] }, { accessFlags := 1, nameIndex := 28, descriptorIndex := 69, attributes := #[] }, { accessFlags := 1, nameIndex := 31, descriptorIndex := 69, attributes := #[] }] 49 2 #[] #[{ accessFlags := 18, nameIndex := 11, descriptorIndex := 12, attributes := #[] }, { accessFlags := 18, nameIndex := 15, descriptorIndex := 16, attributes := #[] }, { accessFlags := 18, nameIndex := 19, descriptorIndex := 16, attributes := #[] }, { accessFlags := 18, nameIndex := 22, descriptorIndex := 16, attributes := #[] }, { accessFlags := 18, nameIndex := 25, descriptorIndex := 16, attributes := #[] }, { accessFlags := 18, nameIndex := 28, descriptorIndex := 16, attributes := #[] }, { accessFlags := 18, nameIndex := 31, descriptorIndex := 16, attributes := #[] }])
  fields := #[{ name := "type", type := (.object "com/example/crossgrant/crossgrant/store/AuditEvent$Type"), accessFlags := 18, slot := 0, constantValue := 0 }, { name := "clientId", type := (.object "java/lang/String"), accessFlags := 18, slot := 1, constantValue := 0 }, { name := "grantType", type := (.object "java/lang/String"), accessFlags := 18, slot := 2, constantValue := 0 }, { name := "error", type := (.object "java/lang/String"), accessFlags := 18, slot := 3, constantValue := 0 }, { name := "tokenJti", type := (.object "java/lang/String"), accessFlags := 18, slot := 4, constantValue := 0 }, { name := "subject", type := (.object "java/lang/String"), accessFlags := 18, slot := 5, constantValue := 0 }, { name := "assertionJti", type := (.object "java/lang/String"), accessFlags := 18, slot := 6, constantValue := 0 }]
  methods := #[k12m0, k12m1, k12m2, k12m3, k12m4, k12m5, k12m6, k12m7, k12m8]
  instanceTypes := #[(.object "com/example/crossgrant/crossgrant/store/AuditEvent$Type"), (.object "java/lang/String"), (.object "java/lang/String"), (.object "java/lang/String"), (.object "java/lang/String"), (.object "java/lang/String"), (.object "java/lang/String")]
  staticTypes := #[]
  resolved := Array.replicate 101 none
  statics := none }

def pool13 : Array CpInfo := pool [(4, .class_ 6), (1, u "java/lang/Object"), (0, u "<init>"), (0, u "()V"), (5, .class_ 16), (1, u "java/lang/StringLatin1"), (104, u "$assertionsDisabled"), (0, u "Z"), (98, .class_ 223), (1, u "java/lang/StringLatin1$LinesSpliterator"), (166, .class_ 391), (0, u "java/lang/StringLatin1$CharsSpliterator")] 3

def k13m0 : Method := { name := "<init>", desc := "()V", sig := { parameters := [], returnType := none }, accessFlags := 0, code := none }
/-- java/lang/StringLatin1 -/
def k13 : Class := { plain "java/lang/StringLatin1" (some 0) with
  accessFlags := 48
  interfaces := #[]
  cf := some (fileOf pool13 14 #[.nestMembers #[390, 221]] #[{ accessFlags := 0, nameIndex := 7, descriptorIndex := 8, attributes := #[] }] 48 4 #[] #[{ accessFlags := 4120, nameIndex := 121, descriptorIndex := 122, attributes := #[] }])
  fields := #[{ name := "$assertionsDisabled", type := .boolean, accessFlags := 4120, slot := 0, constantValue := 0 }]
  methods := #[k13m0]
  instanceTypes := #[]
  staticTypes := #[.boolean]
  resolved := Array.replicate 395 none
  statics := none }

def pool14 : Array CpInfo := pool [(2, .class_ 4), (1, u "java/lang/Object"), (0, u "<init>"), (0, u "()V"), (17, .class_ 26), (1, u "jdk/internal/util/Preconditions"), (28, .class_ 56), (0, u "jdk/internal/util/Preconditions$4"), (57, .class_ 115), (0, u "jdk/internal/util/Preconditions$1"), (7, u "SIOOBE_FORMATTER"), (0, u "Ljava/util/function/BiFunction;"), (0, .class_ 126), (0, u "jdk/internal/util/Preconditions$2"), (3, u "AIOOBE_FORMATTER"), (0, .class_ 132), (0, u "jdk/internal/util/Preconditions$3"), (3, u "IOOBE_FORMATTER")] 57

def k14m0 : Method := { name := "<init>", desc := "()V", sig := { parameters := [], returnType := none }, accessFlags := 1, code := none }
/-- jdk/internal/util/Preconditions -/
def k14 : Class := { plain "jdk/internal/util/Preconditions" (some 0) with
  accessFlags := 33
  interfaces := #[]
  cf := some (fileOf pool14 24 #[.nestMembers #[55, 131, 125, 114]] #[{ accessFlags := 1, nameIndex := 5, descriptorIndex := 6, attributes := #[] }] 33 2 #[] #[{ accessFlags := 25, nameIndex := 123, descriptorIndex := 124, attributes := #[] }, { accessFlags := 25, nameIndex := 130, descriptorIndex := 124, attributes := #[] }, { accessFlags := 25, nameIndex := 136, descriptorIndex := 124, attributes := #[] }])
  fields := #[{ name := "SIOOBE_FORMATTER", type := (.object "java/util/function/BiFunction"), accessFlags := 25, slot := 0, constantValue := 0 }, { name := "AIOOBE_FORMATTER", type := (.object "java/util/function/BiFunction"), accessFlags := 25, slot := 1, constantValue := 0 }, { name := "IOOBE_FORMATTER", type := (.object "java/util/function/BiFunction"), accessFlags := 25, slot := 2, constantValue := 0 }]
  methods := #[k14m0]
  instanceTypes := #[]
  staticTypes := #[(.object "java/util/function/BiFunction"), (.object "java/util/function/BiFunction"), (.object "java/util/function/BiFunction")]
  resolved := Array.replicate 194 none
  statics := some 2 }

def pool15 : Array CpInfo := pool [(9, u "<init>"), (6, .class_ 18), (1, u "java/lang/Object"), (0, u "()V"), (1, .class_ 23), (1, u "jdk/internal/util/ArraysSupport"), (0, u "LOG2_ARRAY_LONG_INDEX_SCALE"), (0, u "I"), (2, u "U"), (0, u "Ljdk/internal/misc/Unsafe;"), (8, u "BIG_ENDIAN"), (0, u "Z"), (8, u "LOG2_BYTE_BIT_SIZE"), (4, u "LOG2_ARRAY_INT_INDEX_SCALE"), (54, u "JLA"), (0, u "Ljdk/internal/access/JavaLangAccess;"), (11, u "LOG2_ARRAY_BOOLEAN_INDEX_SCALE"), (9, u "LOG2_ARRAY_BYTE_INDEX_SCALE"), (5, u "LOG2_ARRAY_CHAR_INDEX_SCALE"), (5, u "LOG2_ARRAY_SHORT_INDEX_SCALE"), (18, u "LOG2_ARRAY_FLOAT_INDEX_SCALE"), (24, u "LOG2_ARRAY_DOUBLE_INDEX_SCALE"), (89, u "T_BOOLEAN"), (2, u "T_CHAR"), (1, u "T_FLOAT"), (1, u "T_DOUBLE"), (1, u "T_BYTE"), (1, u "T_SHORT"), (1, u "T_INT"), (1, u "T_LONG"), (1, u "SOFT_MAX_ARRAY_LENGTH")] 83

def k15m0 : Method := { name := "<init>", desc := "()V", sig := { parameters := [], returnType := none }, accessFlags := 2, code := none }
/-- jdk/internal/util/ArraysSupport -/
def k15 : Class := { plain "jdk/internal/util/ArraysSupport" (some 0) with
  accessFlags := 33
  interfaces := #[]
  cf := some (fileOf pool15 21 #[] #[{ accessFlags := 2, nameIndex := 9, descriptorIndex := 19, attributes := #[] }] 33 16 #[] #[{ accessFlags := 24, nameIndex := 28, descriptorIndex := 29, attributes := #[] }, { accessFlags := 26, nameIndex := 38, descriptorIndex := 39, attributes := #[] }, { accessFlags := 25, nameIndex := 121, descriptorIndex := 25, attributes := #[] }, { accessFlags := 25, nameIndex := 131, descriptorIndex := 25, attributes := #[] }, { accessFlags := 25, nameIndex := 137, descriptorIndex := 25, attributes := #[] }, { accessFlags := 25, nameIndex := 143, descriptorIndex := 25, attributes := #[] }, { accessFlags := 25, nameIndex := 53, descriptorIndex := 25, attributes := #[] }, { accessFlags := 25, nameIndex := 24, descriptorIndex := 25, attributes := #[] }, { accessFlags := 25, nameIndex := 162, descriptorIndex := 25, attributes := #[] }, { accessFlags := 25, nameIndex := 187, descriptorIndex := 25, attributes := #[] }, { accessFlags := 26, nameIndex := 48, descriptorIndex := 25, attributes := #[] }, { accessFlags := 25, nameIndex := 277, descriptorIndex := 25, attributes := #[] }, { accessFlags := 25, nameIndex := 280, descriptorIndex := 25, attributes := #[] }, { accessFlags := 25, nameIndex := 282, descriptorIndex := 25, attributes := #[] }, { accessFlags := 25, nameIndex := 284, descriptorIndex := 25, attributes := #[] }, { accessFlags := 25, nameIndex := 286, descriptorIndex := 25, attributes := #[] }, { accessFlags := 25, nameIndex := 288, descriptorIndex := 25, attributes := #[] }, { accessFlags := 25, nameIndex := 290, descriptorIndex := 25, attributes := #[] }, { accessFlags := 25, nameIndex := 292, descriptorIndex := 25, attributes := #[] }, { accessFlags := 26, nameIndex := 108, descriptorIndex := 109, attributes := #[] }, { accessFlags := 25, nameIndex := 294, descriptorIndex := 25, attributes := #[] }])
  fields := #[{ name := "U", type := (.object "jdk/internal/misc/Unsafe"), accessFlags := 24, slot := 0, constantValue := 0 }, { name := "BIG_ENDIAN", type := .boolean, accessFlags := 26, slot := 1, constantValue := 0 }, { name := "LOG2_ARRAY_BOOLEAN_INDEX_SCALE", type := .int, accessFlags := 25, slot := 2, constantValue := 0 }, { name := "LOG2_ARRAY_BYTE_INDEX_SCALE", type := .int, accessFlags := 25, slot := 3, constantValue := 0 }, { name := "LOG2_ARRAY_CHAR_INDEX_SCALE", type := .int, accessFlags := 25, slot := 4, constantValue := 0 }, { name := "LOG2_ARRAY_SHORT_INDEX_SCALE", type := .int, accessFlags := 25, slot := 5, constantValue := 0 }, { name := "LOG2_ARRAY_INT_INDEX_SCALE", type := .int, accessFlags := 25, slot := 6, constantValue := 0 }, { name := "LOG2_ARRAY_LONG_INDEX_SCALE", type := .int, accessFlags := 25, slot := 7, constantValue := 0 }, { name := "LOG2_ARRAY_FLOAT_INDEX_SCALE", type := .int, accessFlags := 25, slot := 8, constantValue := 0 }, { name := "LOG2_ARRAY_DOUBLE_INDEX_SCALE", type := .int, accessFlags := 25, slot := 9, constantValue := 0 }, { name := "LOG2_BYTE_BIT_SIZE", type := .int, accessFlags := 26, slot := 10, constantValue := 0 }, { name := "T_BOOLEAN", type := .int, accessFlags := 25, slot := 11, constantValue := 0 }, { name := "T_CHAR", type := .int, accessFlags := 25, slot := 12, constantValue := 0 }, { name := "T_FLOAT", type := .int, accessFlags := 25, slot := 13, constantValue := 0 }, { name := "T_DOUBLE", type := .int, accessFlags := 25, slot := 14, constantValue := 0 }, { name := "T_BYTE", type := .int, accessFlags := 25, slot := 15, constantValue := 0 }, { name := "T_SHORT", type := .int, accessFlags := 25, slot := 16, constantValue := 0 }, { name := "T_INT", type := .int, accessFlags := 25, slot := 17, constantValue := 0 }, { name := "T_LONG", type := .int, accessFlags := 25, slot := 18, constantValue := 0 }, { name := "JLA", type := (.object "jdk/internal/access/JavaLangAccess"), accessFlags := 26, slot := 19, constantValue := 0 }, { name := "SOFT_MAX_ARRAY_LENGTH", type := .int, accessFlags := 25, slot := 20, constantValue := 0 }]
  methods := #[k15m0]
  instanceTypes := #[]
  staticTypes := #[(.object "jdk/internal/misc/Unsafe"), .boolean, .int, .int, .int, .int, .int, .int, .int, .int, .int, .int, .int, .int, .int, .int, .int, .int, .int, (.object "jdk/internal/access/JavaLangAccess"), .int]
  resolved := Array.replicate 378 none
  statics := none }

def pool16 : Array CpInfo := pool [(1, u "java/lang/Cloneable"), (0, .class_ 1), (0, u "java/lang/Object"), (0, .class_ 3)] 3

/-- java/lang/Cloneable -/
def k16 : Class := { plain "java/lang/Cloneable" (some 0) with
  accessFlags := 1537
  interfaces := #[]
  cf := some (fileOf pool16 2 #[] #[] 1537 4 #[] #[])
  fields := #[]
  methods := #[]
  instanceTypes := #[]
  staticTypes := #[]
  resolved := Array.replicate 8 none
  statics := none }

/-- the primitive byte -/
def k17 : Class := { plain "byte" none with kind := .primitive 'B', accessFlags := 0x411 }
/-- [B -/
def k18 : Class := { plain "[B" (some 0) with kind := .array 17 .byte, interfaces := #[16, 4], accessFlags := 1041 }

/-- the primitive char -/
def k19 : Class := { plain "char" none with kind := .primitive 'C', accessFlags := 0x411 }
/-- [C -/
def k20 : Class := { plain "[C" (some 0) with kind := .array 19 .char, interfaces := #[16, 4], accessFlags := 1041 }

/-- the primitive int -/
def k21 : Class := { plain "int" none with kind := .primitive 'I', accessFlags := 0x411 }
/-- [I -/
def k22 : Class := { plain "[I" (some 0) with kind := .array 21 .int, interfaces := #[16, 4], accessFlags := 1041 }

def heap : Heap := #[{ cls := 6, slots := #[.ref 3, .ref 4, .ref 5, .ref 6, .ref 7, .ref 8, .null], vm := .statics 6 },
  { cls := 9, slots := #[.long 0, .int 1, .null, .int 0, .null, .int 0, .int 0], vm := .statics 9 },
  { cls := 14, slots := #[.null, .null, .null], vm := .statics 14 },
  { cls := 6, slots := #[.null, .int 0, .int 0], vm := .none },
  { cls := 6, slots := #[.null, .int 1, .int 0], vm := .none },
  { cls := 6, slots := #[.null, .int 2, .int 0], vm := .none },
  { cls := 6, slots := #[.null, .int 3, .int 0], vm := .none },
  { cls := 6, slots := #[.null, .int 4, .int 0], vm := .none },
  { cls := 6, slots := #[.null, .int 5, .int 0], vm := .none }]
def classes : Array Class := #[k0, k1, k2, k3, k4, k5, k6, k7, k8, k9, k10, k11, k12, k13, k14, k15, k16, k17, k18, k19, k20, k21, k22]
def interned : List (Array UInt16 × Addr) := []
def slotsUsed : Nat := 35
def theMethod : MethodId := ⟨1, 3⟩
def args0 : Array Value := #[.int 5, .int 7, .int 9, .int 3]
def aboutOver (below : List Frame) : State where
  vm := { classes := classes, interned := interned.toArray }
  heap := heap
  slotsUsed := slotsUsed
  threads := #[{ frames := .invoking theMethod args0 :: below }]
def below0 : List Frame := [.native { method := ⟨0, 0⟩, args := #[] }]
def about1 : State := aboutOver below0
def p0 : Program := .bare "" "" ""
def e0 : Env := launch0.env 0 0 0
theorem w_frames : about1.frames = Frame.invoking theMethod args0 :: below0 := rfl
set_option maxRecDepth 65536 in
theorem w_args : argsFit about1.vm theMethod args0 = true := by decide +kernel
set_option maxRecDepth 65536 in
theorem w_heap : heapFits about1 = true := by decide +kernel
set_option maxRecDepth 65536 in
theorem w_runnable : about1.curStatus? = some .runnable := by decide +kernel
set_option maxRecDepth 65536 in
theorem w_alone : about1.alone = true := by decide +kernel
set_option maxRecDepth 65536 in
theorem w_named : about1.methodNamed? x = some theMethod := by decide +kernel
set_option maxRecDepth 65536 in
theorem w_hears : about1.hears theMethod below0 = true := by decide +kernel
set_option maxRecDepth 65536 in
theorem w_ripe : about1.ripe theMethod args0 below0 = true := by decide +kernel
theorem w_running : about1.status = .running := rfl
set_option maxRecDepth 65536 in
theorem w_room : about1.hasRoom e0.platform room_1 = true :=
  launch0.hasRoom_least _ room_1 (by decide +kernel) (by decide +kernel) (by decide +kernel) (by decide +kernel) (by decide +kernel) (by decide +kernel)
theorem allAtoms_all (ts : List Jvm.Cond) (a : Array Jvm.Value) (st : Jvm.State) : (allAtoms ts).before a st = ts.all (fun c => c.before a st) := by
  induction ts with
  | nil => rfl
  | cons c t ih =>
    show (Jvm.Cond.and c (allAtoms t)).before a st = _
    rw [Jvm.Cond.before_and, ih, List.all_cons]
def words1 : List Jvm.Cond := Jvm.Cond.code x code maxLocals ret :: tables_1
/-- a 'code' word, met by the world's own term for the bytes: nothing is compared byte by byte -/
theorem code_word {y : MethodName} {bytes : ByteArray} {mx : Nat} {rt : Option FieldType} {a : Array Value} {s : State} {m : MethodId} {meth : Method} {c : Code} (h1 : s.methodNamed? y = some m) (h2 : s.vm.method? m = some meth) (h3 : meth.code = some c) (h4 : c.code = bytes)
    (h5 : (c.maxLocals == mx && c.exceptionTable.isEmpty && decide (c.maxStack ≤ mostOperands) && decide (meth.sig.returnType = rt) && !meth.locks && decide (parseMethodDescriptor y.desc = some meth.sig)) = true) : (Jvm.Cond.code y bytes mx rt).before a s = true := by
  simp only [Bool.and_eq_true, beq_iff_eq, Bool.not_eq_true', decide_eq_true_eq] at h5
  obtain ⟨⟨⟨⟨⟨g1, g2⟩, g3⟩, g4⟩, g5⟩, g6⟩ := h5
  simp [Cond.before, Cond.holds, Cond.value, h1, h2, h3, h4, g1, g2, g3, g4, g5, g6]
def isCode : Jvm.Cond → Bool
  | .code _ _ _ _ => true
  | _ => false
theorem all_split {L : List Jvm.Cond} {P : Jvm.Cond → Bool} (h1 : L.all (fun c => isCode c || P c) = true) (h2 : ∀ c ∈ L.filter isCode, P c = true) : L.all P = true := by
  refine List.all_eq_true.mpr fun c hc => ?_
  have h := List.all_eq_true.mp h1 c hc
  rcases Bool.eq_false_or_eq_true (isCode c) with hi | hi
  · exact h2 c (List.mem_filter.mpr ⟨hc, hi⟩)
  · simpa [hi] using h
set_option maxRecDepth 65536 in
theorem w_c0 : (Jvm.Cond.code x code maxLocals ret).before args0 about1 = true := code_word (m := ⟨1, 3⟩) (meth := k1m3) (c := k1c3) (by decide +kernel) rfl rfl rfl (by decide +kernel)
set_option maxRecDepth 65536 in
theorem w_c1 : (Jvm.Cond.code ({ cls := "com/example/crossgrant/crossgrant/store/AuditEventRegistrationPinLaw", name := "pickType", desc := "(I)Lcom/example/crossgrant/crossgrant/store/AuditEvent$Type;" } : Jvm.MethodName) method_2_code (2 : Nat) (Option.some (Jvm.ClassFile.FieldType.object "com/example/crossgrant/crossgrant/store/AuditEvent$Type"))).before args0 about1 = true := code_word (m := ⟨1, 1⟩) (meth := k1m1) (c := k1c1) (by decide +kernel) rfl rfl rfl (by decide +kernel)
set_option maxRecDepth 65536 in
theorem w_c2 : (Jvm.Cond.code ({ cls := "com/example/crossgrant/crossgrant/store/AuditEventRegistrationPinLaw", name := "drawn", desc := "(IZ)Ljava/lang/String;" } : Jvm.MethodName) method_3_code (3 : Nat) (Option.some (Jvm.ClassFile.FieldType.object "java/lang/String"))).before args0 about1 = true := code_word (m := ⟨1, 2⟩) (meth := k1m2) (c := k1c2) (by decide +kernel) rfl rfl rfl (by decide +kernel)
set_option maxRecDepth 65536 in
theorem w_c3 : (Jvm.Cond.code ({ cls := "java/lang/String", name := "<init>", desc := "([C)V" } : Jvm.MethodName) jdk_42_method_3_code (2 : Nat) (Option.none : Option Jvm.ClassFile.FieldType)).before args0 about1 = true := code_word (m := ⟨9, 1⟩) (meth := k9m1) (c := k9c1) (by decide +kernel) rfl rfl rfl (by decide +kernel)
set_option maxRecDepth 65536 in
theorem w_c4 : (Jvm.Cond.code ({ cls := "java/lang/String", name := "<init>", desc := "([CIILjava/lang/Void;)V" } : Jvm.MethodName) jdk_42_method_149_code (6 : Nat) (Option.none : Option Jvm.ClassFile.FieldType)).before args0 about1 = true := code_word (m := ⟨9, 2⟩) (meth := k9m2) (c := k9c2) (by decide +kernel) rfl rfl rfl (by decide +kernel)
set_option maxRecDepth 65536 in
theorem w_c5 : (Jvm.Cond.code ({ cls := "java/lang/Object", name := "<init>", desc := "()V" } : Jvm.MethodName) object_method_1_code (1 : Nat) (Option.none : Option Jvm.ClassFile.FieldType)).before args0 about1 = true := code_word (m := ⟨0, 0⟩) (meth := k0m0) (c := k0c0) (by decide +kernel) rfl rfl rfl (by decide +kernel)
set_option maxRecDepth 65536 in
theorem w_c6 : (Jvm.Cond.code ({ cls := "java/lang/StringUTF16", name := "compress", desc := "([CII)[B" } : Jvm.MethodName) jdk_52_method_16_code (6 : Nat) (Option.some (Jvm.ClassFile.FieldType.array Jvm.ClassFile.FieldType.byte))).before args0 about1 = true := code_word (m := ⟨10, 2⟩) (meth := k10m2) (c := k10c2) (by decide +kernel) rfl rfl rfl (by decide +kernel)
set_option maxRecDepth 65536 in
theorem w_c7 : (Jvm.Cond.code ({ cls := "java/lang/StringUTF16", name := "compress", desc := "([CI[BII)I" } : Jvm.MethodName) jdk_52_method_21_code (7 : Nat) (Option.some Jvm.ClassFile.FieldType.int)).before args0 about1 = true := code_word (m := ⟨10, 3⟩) (meth := k10m3) (c := k10c3) (by decide +kernel) rfl rfl rfl (by decide +kernel)
set_option maxRecDepth 65536 in
theorem w_c8 : (Jvm.Cond.code ({ cls := "java/lang/StringUTF16", name := "coderFromArrayLen", desc := "([BI)B" } : Jvm.MethodName) jdk_52_method_15_code (2 : Nat) (Option.some Jvm.ClassFile.FieldType.byte)).before args0 about1 = true := code_word (m := ⟨10, 1⟩) (meth := k10m1) (c := k10c1) (by decide +kernel) rfl rfl rfl (by decide +kernel)
set_option maxRecDepth 65536 in
theorem w_c9 : (Jvm.Cond.code ({ cls := "com/example/crossgrant/crossgrant/store/AuditEvent", name := "registration", desc := "(Lcom/example/crossgrant/crossgrant/store/AuditEvent$Type;Ljava/lang/String;Ljava/lang/String;)Lcom/example/crossgrant/crossgrant/store/AuditEvent;" } : Jvm.MethodName) prog_5_method_4_code (3 : Nat) (Option.some (Jvm.ClassFile.FieldType.object "com/example/crossgrant/crossgrant/store/AuditEvent"))).before args0 about1 = true := code_word (m := ⟨12, 1⟩) (meth := k12m1) (c := k12c1) (by decide +kernel) rfl rfl rfl (by decide +kernel)
set_option maxRecDepth 65536 in
theorem w_c10 : (Jvm.Cond.code ({ cls := "com/example/crossgrant/crossgrant/store/AuditEvent", name := "<init>", desc := "(Lcom/example/crossgrant/crossgrant/store/AuditEvent$Type;Ljava/lang/String;Ljava/lang/String;Ljava/lang/String;Ljava/lang/String;Ljava/lang/String;Ljava/lang/String;)V" } : Jvm.MethodName) prog_5_method_1_code (8 : Nat) (Option.none : Option Jvm.ClassFile.FieldType)).before args0 about1 = true := code_word (m := ⟨12, 0⟩) (meth := k12m0) (c := k12c0) (by decide +kernel) rfl rfl rfl (by decide +kernel)
set_option maxRecDepth 65536 in
theorem w_c11 : (Jvm.Cond.code ({ cls := "java/lang/Record", name := "<init>", desc := "()V" } : Jvm.MethodName) jdk_30_method_1_code (1 : Nat) (Option.none : Option Jvm.ClassFile.FieldType)).before args0 about1 = true := code_word (m := ⟨11, 0⟩) (meth := k11m0) (c := k11c0) (by decide +kernel) rfl rfl rfl (by decide +kernel)
set_option maxRecDepth 65536 in
theorem w_c12 : (Jvm.Cond.code ({ cls := "com/example/crossgrant/crossgrant/store/AuditEvent", name := "type", desc := "()Lcom/example/crossgrant/crossgrant/store/AuditEvent$Type;" } : Jvm.MethodName) prog_5_method_9_code (1 : Nat) (Option.some (Jvm.ClassFile.FieldType.object "com/example/crossgrant/crossgrant/store/AuditEvent$Type"))).before args0 about1 = true := code_word (m := ⟨12, 2⟩) (meth := k12m2) (c := k12c2) (by decide +kernel) rfl rfl rfl (by decide +kernel)
set_option maxRecDepth 65536 in
theorem w_c13 : (Jvm.Cond.code ({ cls := "com/example/crossgrant/crossgrant/store/AuditEvent", name := "clientId", desc := "()Ljava/lang/String;" } : Jvm.MethodName) prog_5_method_10_code (1 : Nat) (Option.some (Jvm.ClassFile.FieldType.object "java/lang/String"))).before args0 about1 = true := code_word (m := ⟨12, 3⟩) (meth := k12m3) (c := k12c3) (by decide +kernel) rfl rfl rfl (by decide +kernel)
set_option maxRecDepth 65536 in
theorem w_c14 : (Jvm.Cond.code ({ cls := "com/example/crossgrant/crossgrant/store/AuditEvent", name := "grantType", desc := "()Ljava/lang/String;" } : Jvm.MethodName) prog_5_method_11_code (1 : Nat) (Option.some (Jvm.ClassFile.FieldType.object "java/lang/String"))).before args0 about1 = true := code_word (m := ⟨12, 4⟩) (meth := k12m4) (c := k12c4) (by decide +kernel) rfl rfl rfl (by decide +kernel)
set_option maxRecDepth 65536 in
theorem w_c15 : (Jvm.Cond.code ({ cls := "com/example/crossgrant/crossgrant/store/AuditEvent", name := "error", desc := "()Ljava/lang/String;" } : Jvm.MethodName) prog_5_method_12_code (1 : Nat) (Option.some (Jvm.ClassFile.FieldType.object "java/lang/String"))).before args0 about1 = true := code_word (m := ⟨12, 5⟩) (meth := k12m5) (c := k12c5) (by decide +kernel) rfl rfl rfl (by decide +kernel)
set_option maxRecDepth 65536 in
theorem w_c16 : (Jvm.Cond.code ({ cls := "com/example/crossgrant/crossgrant/store/AuditEvent", name := "tokenJti", desc := "()Ljava/lang/String;" } : Jvm.MethodName) prog_5_method_13_code (1 : Nat) (Option.some (Jvm.ClassFile.FieldType.object "java/lang/String"))).before args0 about1 = true := code_word (m := ⟨12, 6⟩) (meth := k12m6) (c := k12c6) (by decide +kernel) rfl rfl rfl (by decide +kernel)
set_option maxRecDepth 65536 in
theorem w_c17 : (Jvm.Cond.code ({ cls := "com/example/crossgrant/crossgrant/store/AuditEvent", name := "subject", desc := "()Ljava/lang/String;" } : Jvm.MethodName) prog_5_method_14_code (1 : Nat) (Option.some (Jvm.ClassFile.FieldType.object "java/lang/String"))).before args0 about1 = true := code_word (m := ⟨12, 7⟩) (meth := k12m7) (c := k12c7) (by decide +kernel) rfl rfl rfl (by decide +kernel)
set_option maxRecDepth 65536 in
theorem w_c18 : (Jvm.Cond.code ({ cls := "com/example/crossgrant/crossgrant/store/AuditEvent", name := "assertionJti", desc := "()Ljava/lang/String;" } : Jvm.MethodName) prog_5_method_15_code (1 : Nat) (Option.some (Jvm.ClassFile.FieldType.object "java/lang/String"))).before args0 about1 = true := code_word (m := ⟨12, 8⟩) (meth := k12m8) (c := k12c8) (by decide +kernel) rfl rfl rfl (by decide +kernel)
def codes1 : List Jvm.Cond := [Jvm.Cond.code x code maxLocals ret, Jvm.Cond.code ({ cls := "com/example/crossgrant/crossgrant/store/AuditEventRegistrationPinLaw", name := "pickType", desc := "(I)Lcom/example/crossgrant/crossgrant/store/AuditEvent$Type;" } : Jvm.MethodName) method_2_code (2 : Nat) (Option.some (Jvm.ClassFile.FieldType.object "com/example/crossgrant/crossgrant/store/AuditEvent$Type")), Jvm.Cond.code ({ cls := "com/example/crossgrant/crossgrant/store/AuditEventRegistrationPinLaw", name := "drawn", desc := "(IZ)Ljava/lang/String;" } : Jvm.MethodName) method_3_code (3 : Nat) (Option.some (Jvm.ClassFile.FieldType.object "java/lang/String")), Jvm.Cond.code ({ cls := "java/lang/String", name := "<init>", desc := "([C)V" } : Jvm.MethodName) jdk_42_method_3_code (2 : Nat) (Option.none : Option Jvm.ClassFile.FieldType), Jvm.Cond.code ({ cls := "java/lang/String", name := "<init>", desc := "([CIILjava/lang/Void;)V" } : Jvm.MethodName) jdk_42_method_149_code (6 : Nat) (Option.none : Option Jvm.ClassFile.FieldType), Jvm.Cond.code ({ cls := "java/lang/Object", name := "<init>", desc := "()V" } : Jvm.MethodName) object_method_1_code (1 : Nat) (Option.none : Option Jvm.ClassFile.FieldType), Jvm.Cond.code ({ cls := "java/lang/StringUTF16", name := "compress", desc := "([CII)[B" } : Jvm.MethodName) jdk_52_method_16_code (6 : Nat) (Option.some (Jvm.ClassFile.FieldType.array Jvm.ClassFile.FieldType.byte)), Jvm.Cond.code ({ cls := "java/lang/StringUTF16", name := "compress", desc := "([CI[BII)I" } : Jvm.MethodName) jdk_52_method_21_code (7 : Nat) (Option.some Jvm.ClassFile.FieldType.int), Jvm.Cond.code ({ cls := "java/lang/StringUTF16", name := "coderFromArrayLen", desc := "([BI)B" } : Jvm.MethodName) jdk_52_method_15_code (2 : Nat) (Option.some Jvm.ClassFile.FieldType.byte), Jvm.Cond.code ({ cls := "com/example/crossgrant/crossgrant/store/AuditEvent", name := "registration", desc := "(Lcom/example/crossgrant/crossgrant/store/AuditEvent$Type;Ljava/lang/String;Ljava/lang/String;)Lcom/example/crossgrant/crossgrant/store/AuditEvent;" } : Jvm.MethodName) prog_5_method_4_code (3 : Nat) (Option.some (Jvm.ClassFile.FieldType.object "com/example/crossgrant/crossgrant/store/AuditEvent")), Jvm.Cond.code ({ cls := "com/example/crossgrant/crossgrant/store/AuditEvent", name := "<init>", desc := "(Lcom/example/crossgrant/crossgrant/store/AuditEvent$Type;Ljava/lang/String;Ljava/lang/String;Ljava/lang/String;Ljava/lang/String;Ljava/lang/String;Ljava/lang/String;)V" } : Jvm.MethodName) prog_5_method_1_code (8 : Nat) (Option.none : Option Jvm.ClassFile.FieldType), Jvm.Cond.code ({ cls := "java/lang/Record", name := "<init>", desc := "()V" } : Jvm.MethodName) jdk_30_method_1_code (1 : Nat) (Option.none : Option Jvm.ClassFile.FieldType), Jvm.Cond.code ({ cls := "com/example/crossgrant/crossgrant/store/AuditEvent", name := "type", desc := "()Lcom/example/crossgrant/crossgrant/store/AuditEvent$Type;" } : Jvm.MethodName) prog_5_method_9_code (1 : Nat) (Option.some (Jvm.ClassFile.FieldType.object "com/example/crossgrant/crossgrant/store/AuditEvent$Type")), Jvm.Cond.code ({ cls := "com/example/crossgrant/crossgrant/store/AuditEvent", name := "clientId", desc := "()Ljava/lang/String;" } : Jvm.MethodName) prog_5_method_10_code (1 : Nat) (Option.some (Jvm.ClassFile.FieldType.object "java/lang/String")), Jvm.Cond.code ({ cls := "com/example/crossgrant/crossgrant/store/AuditEvent", name := "grantType", desc := "()Ljava/lang/String;" } : Jvm.MethodName) prog_5_method_11_code (1 : Nat) (Option.some (Jvm.ClassFile.FieldType.object "java/lang/String")), Jvm.Cond.code ({ cls := "com/example/crossgrant/crossgrant/store/AuditEvent", name := "error", desc := "()Ljava/lang/String;" } : Jvm.MethodName) prog_5_method_12_code (1 : Nat) (Option.some (Jvm.ClassFile.FieldType.object "java/lang/String")), Jvm.Cond.code ({ cls := "com/example/crossgrant/crossgrant/store/AuditEvent", name := "tokenJti", desc := "()Ljava/lang/String;" } : Jvm.MethodName) prog_5_method_13_code (1 : Nat) (Option.some (Jvm.ClassFile.FieldType.object "java/lang/String")), Jvm.Cond.code ({ cls := "com/example/crossgrant/crossgrant/store/AuditEvent", name := "subject", desc := "()Ljava/lang/String;" } : Jvm.MethodName) prog_5_method_14_code (1 : Nat) (Option.some (Jvm.ClassFile.FieldType.object "java/lang/String")), Jvm.Cond.code ({ cls := "com/example/crossgrant/crossgrant/store/AuditEvent", name := "assertionJti", desc := "()Ljava/lang/String;" } : Jvm.MethodName) prog_5_method_15_code (1 : Nat) (Option.some (Jvm.ClassFile.FieldType.object "java/lang/String"))]
set_option maxRecDepth 65536 in
theorem codes_eq : words1.filter isCode = codes1 := rfl
theorem w_codes : ∀ c ∈ words1.filter isCode, c.before args0 about1 = true := by
  rw [codes_eq]
  intro c hc
  simp only [codes1, List.mem_cons, List.not_mem_nil, or_false] at hc
  rcases hc with rfl | rfl | rfl | rfl | rfl | rfl | rfl | rfl | rfl | rfl | rfl | rfl | rfl | rfl | rfl | rfl | rfl | rfl | rfl
  · exact w_c0
  · exact w_c1
  · exact w_c2
  · exact w_c3
  · exact w_c4
  · exact w_c5
  · exact w_c6
  · exact w_c7
  · exact w_c8
  · exact w_c9
  · exact w_c10
  · exact w_c11
  · exact w_c12
  · exact w_c13
  · exact w_c14
  · exact w_c15
  · exact w_c16
  · exact w_c17
  · exact w_c18
set_option maxRecDepth 65536 in
theorem w_t1 : (words1.take 24).all (fun c => isCode c || c.before args0 about1) = true := by decide +kernel
set_option maxRecDepth 65536 in
theorem w_t2 : ((words1.drop 24).take 24).all (fun c => isCode c || c.before args0 about1) = true := by decide +kernel
set_option maxRecDepth 65536 in
theorem w_t3 : (((words1.drop 24).drop 24).take 24).all (fun c => isCode c || c.before args0 about1) = true := by decide +kernel
set_option maxRecDepth 65536 in
theorem w_t4 : ((((words1.drop 24).drop 24).drop 24).take 24).all (fun c => isCode c || c.before args0 about1) = true := by decide +kernel
set_option maxRecDepth 65536 in
theorem w_t5 : ((((words1.drop 24).drop 24).drop 24).drop 24).all (fun c => isCode c || c.before args0 about1) = true := by decide +kernel
theorem w_tables : (allAtoms (Jvm.Cond.code x code maxLocals ret :: tables_1)).before args0 about1 = true := by
  rw [allAtoms_all]
  show words1.all (fun c => c.before args0 about1) = true
  refine all_split ?_ w_codes
  rw [← List.take_append_drop 24 words1, List.all_append, w_t1, ← List.take_append_drop 24 (words1.drop 24), List.all_append, w_t2, ← List.take_append_drop 24 ((words1.drop 24).drop 24), List.all_append, w_t3, ← List.take_append_drop 24 (((words1.drop 24).drop 24).drop 24), List.all_append, w_t4, w_t5]
  rfl
set_option maxRecDepth 65536 in
theorem w_rest : rest_1_c.before args0 about1 = true := by decide +kernel
set_option maxRecDepth 65536 in
theorem w_case : (Jvm.Cond.and given_1 narrow_1).before args0 about1 = true := by decide +kernel
theorem w_applies : (headSpec (Jvm.Cond.code x code maxLocals ret :: tables_1) room_1).applies x e0.platform about1 = true :=
  (Spec.applies_iff w_frames).mpr ⟨w_running, w_runnable, w_alone, w_named, w_hears, w_ripe, w_room, w_tables⟩
theorem atStart : AtStart classFile x code maxLocals ret World_1 tables_1 room_1 Calls_1 rest_1 Pre_1 launch0 p0 e0 about1 theMethod args0 below0 :=
  ⟨lists_1, trivial, launch0.admits_env _ _ _, launch0.least_env, fairChoices_fair.cas, fairChoices_fair.clock, w_frames, w_args, w_heap, w_applies, trivial, w_rest, w_case⟩
end start1
theorem witness_1 : WitnessClaimed_1 := ⟨start1.p0, start1.e0, start1.about1, start1.theMethod, start1.args0, start1.below0, start1.atStart⟩
end Jvm.Pilot.@@N@@

